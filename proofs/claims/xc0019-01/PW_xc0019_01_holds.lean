import PyProof.Rows.All
import Wide.All
import OpenK.AllK
import Wide.FinOn
import PySem.Challenge.RW_xc0019_01
open PySem PySem.W PyProof.Rows PySem.Calls
set_option Elab.async false
set_option maxRecDepth 100000
set_option maxHeartbeats 8000000
namespace Mine
open_top hd for PySem.Challenge.rw_xc0019_01
end Mine

namespace Mine

/-! sorted lists and the two bisections -/
theorem le_getD {ns : List Int} (hs : ns.Pairwise (· ≤ ·)) {i j : Nat} (h : i ≤ j) (hj : j < ns.length) : ns.getD i 0 ≤ ns.getD j 0 := by
  rcases Nat.eq_or_lt_of_le h with rfl | h
  · exact Int.le_refl _
  · exact PySem.W.ksl_le hs h hj
theorem countP_cut {ns : List Int} (p : Int → Bool) {k : Nat} (hk : k ≤ ns.length) (h1 : ∀ i : Nat, i < k → p (ns.getD i 0) = true) (h2 : ∀ i : Nat, k ≤ i → i < ns.length → p (ns.getD i 0) = false) : ns.countP p = k := by
  have e := List.take_append_drop k ns
  have a : (ns.take k).countP p = k := by
    have : (ns.take k).countP p = (ns.take k).length := by
      rw [List.countP_eq_length]
      intro x hx
      obtain ⟨i, hi, rfl⟩ := List.getElem_of_mem hx
      rw [List.length_take] at hi
      have := h1 i (by omega)
      have hlt : i < ns.length := by omega
      simpa [hlt] using this
    rw [this, List.length_take, Nat.min_eq_left hk]
  have b : (ns.drop k).countP p = 0 := by
    rw [List.countP_eq_zero]
    intro x hx
    obtain ⟨i, hi, rfl⟩ := List.getElem_of_mem hx
    rw [List.length_drop] at hi
    have := h2 (k + i) (by omega) (by omega)
    have hlt : k + i < ns.length := by omega
    simpa [hlt] using this
  calc ns.countP p = (ns.take k ++ ns.drop k).countP p := by rw [e]
    _ = k := by rw [List.countP_append, a, b]; rfl
theorem right_cut {ns : List Int} {x k : Int} (h0 : 0 ≤ k) (hk : k ≤ ns.length) (h1 : ∀ i : Nat, (i : Int) < k → ns.getD i 0 ≤ x) (h2 : ∀ i : Nat, k ≤ (i : Int) → i < ns.length → x < ns.getD i 0) :
    k = (ns.countP (fun a => decide (a ≤ x)) : Nat) := by
  have := countP_cut (ns := ns) (fun a => decide (a ≤ x)) (k := k.toNat) (by omega) (fun i hi => by simpa using h1 i (by omega)) (fun i hi hl => by have := h2 i (by omega) hl; simp only [decide_eq_false_iff_not]; omega)
  rw [this]; omega
theorem left_cut {ns : List Int} {x k : Int} (h0 : 0 ≤ k) (hk : k ≤ ns.length) (h1 : ∀ i : Nat, (i : Int) < k → ns.getD i 0 < x) (h2 : ∀ i : Nat, k ≤ (i : Int) → i < ns.length → x ≤ ns.getD i 0) :
    k = (ns.countP (fun a => decide (a < x)) : Nat) := by
  have := countP_cut (ns := ns) (fun a => decide (a < x)) (k := k.toNat) (by omega) (fun i hi => by simpa using h1 i (by omega)) (fun i hi hl => by have := h2 i (by omega) hl; simp only [decide_eq_false_iff_not]; omega)
  rw [this]; omega
theorem cut_sorted (x : Int) : ∀ {ns : List Int}, ns.Pairwise (· ≤ ·) → ns.take (ns.countP (fun a => decide (a ≤ x))) = ns.filter (fun a => decide (a ≤ x)) ∧ ns.drop (ns.countP (fun a => decide (a ≤ x))) = ns.filter (fun a => !decide (a ≤ x))
  | [], _ => ⟨rfl, rfl⟩
  | a :: r, hs => by
    obtain ⟨h1, h2⟩ := List.pairwise_cons.mp hs
    obtain ⟨e1, e2⟩ := cut_sorted x h2
    by_cases ha : a ≤ x
    · simp [ha, e1, e2]
    · have hz : r.countP (fun a => decide (a ≤ x)) = 0 := by
        rw [List.countP_eq_zero]; intro b hb; have := h1 b hb; simp only [decide_eq_true_eq]; omega
      rw [hz] at e1 e2
      simp only [List.take_zero, List.drop_zero] at e1 e2
      simp [ha, hz, ← e1, ← e2]
theorem ins_perm (x : Int) {ns : List Int} (k : Nat) : (ns.take k ++ x :: ns.drop k).Perm (x :: ns) := by
  have := @List.perm_middle Int x (ns.take k) (ns.drop k)
  rwa [List.take_append_drop] at this
theorem ins_sorted {x : Int} {ns : List Int} (hs : ns.Pairwise (· ≤ ·)) : (ns.take (ns.countP (fun a => decide (a ≤ x))) ++ x :: ns.drop (ns.countP (fun a => decide (a ≤ x)))).Pairwise (· ≤ ·) := by
  obtain ⟨e1, e2⟩ := cut_sorted x hs
  rw [e1, e2, List.pairwise_append]
  refine ⟨hs.sublist List.filter_sublist, List.pairwise_cons.mpr ⟨fun b hb => ?_, hs.sublist List.filter_sublist⟩, fun a ha b hb => ?_⟩
  · have := (List.mem_filter.mp hb).2; simp at this; omega
  · have h1 := (List.mem_filter.mp ha).2
    simp only [decide_eq_true_eq] at h1
    rcases List.mem_cons.mp hb with rfl | hb
    · exact h1
    · have h2 := (List.mem_filter.mp hb).2; simp at h2; omega
theorem count_cuts (x : Int) : ∀ ns : List Int, ns.countP (fun a => decide (a ≤ x)) = ns.countP (fun a => decide (a < x)) + ns.count x
  | [] => rfl
  | a :: r => by
    have ih := count_cuts x r
    rw [List.countP_cons, List.countP_cons, List.count_cons, ih]
    by_cases h1 : a < x
    · have h2 : a ≤ x := by omega
      have h3 : ¬ a = x := by omega
      simp [h1, h2, h3]; omega
    · by_cases h3 : a = x
      · simp [h3]; omega
      · have h2 : ¬ a ≤ x := by omega
        simp [h1, h2, h3]

/-! heaps -/
def Hp (ns : List Int) : Prop := ∀ i : Nat, 0 < i → i < ns.length → ns.getD ((i - 1) / 2) 0 ≤ ns.getD i 0
/-- a heap but for the place p, which may lie too deep -/
def Dn (ns : List Int) (p : Nat) : Prop := p < ns.length ∧ (∀ i : Nat, 0 < i → i < ns.length → i ≠ p → ns.getD ((i - 1) / 2) 0 ≤ ns.getD i 0) ∧
  (0 < p → ∀ i : Nat, 0 < i → i < ns.length → (i - 1) / 2 = p → ns.getD ((p - 1) / 2) 0 ≤ ns.getD i 0)
/-- a heap but for the place p, above it and below it -/
def Up (ns : List Int) (p : Nat) : Prop := p < ns.length ∧ (∀ i : Nat, 0 < i → i < ns.length → i ≠ p → (i - 1) / 2 ≠ p → ns.getD ((i - 1) / 2) 0 ≤ ns.getD i 0) ∧
  (0 < p → ∀ i : Nat, 0 < i → i < ns.length → (i - 1) / 2 = p → ns.getD ((p - 1) / 2) 0 ≤ ns.getD i 0)

theorem getD_set_self {ns : List Int} {p : Nat} {x : Int} (h : p < ns.length) : (ns.set p x).getD p 0 = x := by
  simp [List.getD_eq_getElem?_getD, h]
theorem getD_set_ne {ns : List Int} {p i : Nat} {x : Int} (h : i ≠ p) : (ns.set p x).getD i 0 = ns.getD i 0 := by
  simp [List.getD_eq_getElem?_getD, List.getElem?_set_ne (Ne.symm h)]
theorem set_getD {ns : List Int} {p : Nat} : ns.set p (ns.getD p 0) = ns := by
  by_cases h : p < ns.length
  · rw [List.getD_eq_getElem?_getD, List.getElem?_eq_getElem h, Option.getD_some, List.set_getElem_self]
  · exact List.set_eq_of_length_le (by omega)
theorem set_set_same {ns : List Int} {p : Nat} {x y : Int} : (ns.set p x).set p y = ns.set p y := by simp
theorem swap_perm {ns : List Int} {p q : Nat} (hp : p < ns.length) (hq : q < ns.length) : ((ns.set p (ns.getD q 0)).set q (ns.getD p 0)).Perm ns := by
  have e1 : ns.getD q 0 = ns[q] := by simp [List.getD_eq_getElem?_getD, hq]
  have e2 : ns.getD p 0 = ns[p] := by simp [List.getD_eq_getElem?_getD, hp]
  rw [e1, e2]
  exact List.set_set_perm hp hq

/-- the virtual list of a sift: what is held out laid at its place -/
theorem virt_swap {cs : List Int} {p q : Nat} {x : Int} (hp : p < cs.length) (hpq : q ≠ p) :
    (cs.set p (cs.getD q 0)).set q x = ((cs.set p x).set p ((cs.set p x).getD q 0)).set q ((cs.set p x).getD p 0) := by
  rw [getD_set_self hp, getD_set_ne hpq, set_set_same]

theorem dn_step {ns : List Int} {p : Nat} (h : Dn ns p) (h0 : 0 < p) (hlt : ns.getD p 0 < ns.getD ((p - 1) / 2) 0) :
    Dn ((ns.set p (ns.getD ((p - 1) / 2) 0)).set ((p - 1) / 2) (ns.getD p 0)) ((p - 1) / 2) := by
  obtain ⟨hp, h1, h2⟩ := h
  have hq : (p - 1) / 2 < p := by omega
  generalize hqe : (p - 1) / 2 = q at *
  have hl : ((ns.set p (ns.getD q 0)).set q (ns.getD p 0)).length = ns.length := by simp
  have gq : ((ns.set p (ns.getD q 0)).set q (ns.getD p 0)).getD q 0 = ns.getD p 0 := getD_set_self (by rw [List.length_set]; omega)
  have gp : ((ns.set p (ns.getD q 0)).set q (ns.getD p 0)).getD p 0 = ns.getD q 0 := by rw [getD_set_ne (by omega), getD_set_self hp]
  have go : ∀ i, i ≠ p → i ≠ q → ((ns.set p (ns.getD q 0)).set q (ns.getD p 0)).getD i 0 = ns.getD i 0 := fun i a b => by rw [getD_set_ne b, getD_set_ne a]
  generalize (ns.set p (ns.getD q 0)).set q (ns.getD p 0) = ms at *
  refine ⟨by omega, fun i i0 il hi => ?_, fun q0 i i0 il hi => ?_⟩
  · by_cases e1 : i = p
    · subst e1; rw [hqe, gq, gp]; omega
    · rw [go i e1 hi]
      by_cases e2 : (i - 1) / 2 = p
      · rw [e2, gp]; exact h2 h0 i i0 (by omega) e2
      · by_cases e3 : (i - 1) / 2 = q
        · rw [e3, gq]; have := h1 i i0 (by omega) e1; rw [e3] at this; omega
        · rw [go _ e2 e3]; exact h1 i i0 (by omega) e1
  · have a1 : ns.getD ((q - 1) / 2) 0 ≤ ns.getD q 0 := h1 q q0 (by omega) (by omega)
    have a2 : (q - 1) / 2 < q := by omega
    rw [go _ (by omega) (by omega)]
    by_cases e1 : i = p
    · subst e1; rw [gp]; exact a1
    · rw [go i e1 (by omega)]
      have := h1 i i0 (by omega) e1
      rw [hi] at this; omega
theorem dn_done {ns : List Int} {p : Nat} (h : Dn ns p) (he : p = 0 ∨ ¬ ns.getD p 0 < ns.getD ((p - 1) / 2) 0) : Hp ns := by
  obtain ⟨hp, h1, _⟩ := h
  intro i i0 il
  by_cases e : i = p
  · subst e
    rcases he with he | he <;> omega
  · exact h1 i i0 il e
theorem up_step {ns : List Int} {p c : Nat} (h : Up ns p) (hc : c < ns.length) (hpc : (c - 1) / 2 = p) (c0 : 0 < c) (hmin : ∀ i, 0 < i → i < ns.length → (i - 1) / 2 = p → ns.getD c 0 ≤ ns.getD i 0) :
    Up ((ns.set p (ns.getD c 0)).set c (ns.getD p 0)) c := by
  obtain ⟨hp, h1, h2⟩ := h
  have hlt : p < c := by omega
  have hl : ((ns.set p (ns.getD c 0)).set c (ns.getD p 0)).length = ns.length := by simp
  have gc : ((ns.set p (ns.getD c 0)).set c (ns.getD p 0)).getD c 0 = ns.getD p 0 := getD_set_self (by rw [List.length_set]; omega)
  have gp : ((ns.set p (ns.getD c 0)).set c (ns.getD p 0)).getD p 0 = ns.getD c 0 := by rw [getD_set_ne (by omega), getD_set_self hp]
  have go : ∀ i, i ≠ p → i ≠ c → ((ns.set p (ns.getD c 0)).set c (ns.getD p 0)).getD i 0 = ns.getD i 0 := fun i a b => by rw [getD_set_ne b, getD_set_ne a]
  generalize (ns.set p (ns.getD c 0)).set c (ns.getD p 0) = ms at *
  refine ⟨by omega, fun i i0 il hi hpi => ?_, fun _ i i0 il hi => ?_⟩
  · by_cases e1 : i = p
    · subst e1
      rw [gp, go _ (by omega) hpi]
      exact h2 i0 c c0 hc hpc
    · rw [go i e1 hi]
      by_cases e2 : (i - 1) / 2 = p
      · rw [e2, gp]; exact hmin i i0 (by omega) e2
      · rw [go _ e2 hpi]; exact h1 i i0 (by omega) e1 e2
  · rw [hpc, gp, go i (by omega) (by omega)]
    have := h1 i i0 (by omega) (by omega) (by omega)
    rw [hi] at this; exact this
theorem up_done {ns : List Int} {p : Nat} (h : Up ns p) (he : ns.length ≤ 2 * p + 1) : Dn ns p := by
  obtain ⟨hp, h1, h2⟩ := h
  exact ⟨hp, fun i i0 il hi => h1 i i0 il hi (by omega), h2⟩
theorem hp_root {ns : List Int} (h : Hp ns) : ∀ i, i < ns.length → ns.getD 0 0 ≤ ns.getD i 0 := by
  intro i
  induction i using Nat.strongRecOn with
  | ind i ih =>
    intro il
    rcases Nat.eq_zero_or_pos i with rfl | i0
    · exact Int.le_refl _
    · exact Int.le_trans (ih ((i - 1) / 2) (by omega) (by omega)) (h i i0 il)
theorem hp_min {ns : List Int} (h : Hp ns) {z : Int} (hz : z ∈ ns) : ns.getD 0 0 ≤ z := by
  obtain ⟨i, hi, rfl⟩ := List.getElem_of_mem hz
  have := hp_root h i hi
  simpa [List.getD_eq_getElem?_getD, hi] using this
theorem hp_nil : Hp [] := fun _ _ h => absurd h (Nat.not_lt_zero _)
theorem hp_push {ns : List Int} {x : Int} (h : Hp ns) : Dn (ns ++ [x]) ns.length := by
  have g : ∀ i, i < ns.length → (ns ++ [x]).getD i 0 = ns.getD i 0 := fun i hi => by simp [List.getD_eq_getElem?_getD, List.getElem?_append_left hi]
  refine ⟨by simp, fun i i0 il hi => ?_, fun _ i i0 il hi => ?_⟩
  · rw [List.length_append] at il
    have il' : i < ns.length := by simp at il; omega
    rw [g i il', g _ (by omega)]
    exact h i i0 il'
  · simp at il; omega
theorem hp_root_out {ns : List Int} {x : Int} (h : Hp ns) (hne : 0 < ns.length) : Up (ns.set 0 x) 0 := by
  refine ⟨by simpa using hne, fun i i0 il hi hpi => ?_, fun h0 => absurd h0 (Nat.lt_irrefl _)⟩
  rw [getD_set_ne hi, getD_set_ne hpi]
  exact h i i0 (by simpa using il)
theorem hp_dropLast {ns : List Int} (h : Hp ns) : Hp ns.dropLast := by
  intro i i0 il
  rw [List.length_dropLast] at il
  have g : ∀ j, j < ns.length - 1 → ns.dropLast.getD j 0 = ns.getD j 0 := fun j hj => by
    rw [List.getD_eq_getElem?_getD, List.getD_eq_getElem?_getD, List.getElem?_dropLast, if_pos hj]
  rw [g i il, g _ (by omega)]
  exact h i i0 (by omega)
theorem cons_of_pos {ns : List Int} (h : 0 < ns.length) : ∃ r, ns = ns.getD 0 0 :: r := by
  cases ns with
  | nil => exact absurd h (Nat.lt_irrefl _)
  | cons a r => exact ⟨r, rfl⟩

/-- what heappushpop gives back, y, and leaves, ms -/
theorem pushpop_out {ns ms : List Int} {x : Int} (h : Hp ns) (hne : 0 < ns.length) (hlt : ns.getD 0 0 < x) (hp : ms.Perm (ns.set 0 x)) : (ns.getD 0 0 :: ms).Perm (x :: ns) ∧ ∀ z ∈ ms, ns.getD 0 0 ≤ z := by
  obtain ⟨r, e⟩ := cons_of_pos hne
  generalize ns.getD 0 0 = y at *
  subst e
  simp only [List.set_cons_zero] at hp
  refine ⟨(hp.cons y).trans (List.Perm.swap x y r), fun z hz => ?_⟩
  rcases List.mem_cons.mp (hp.mem_iff.mp hz) with rfl | hz
  · omega
  · exact hp_min h (List.mem_cons_of_mem _ hz)
theorem pop_out {ns ms : List Int} (h : Hp ns) (hne : 0 < ns.dropLast.length) (hp : ms.Perm (ns.dropLast.set 0 (ns.getLastD 0))) : (ns.dropLast.getD 0 0 :: ms).Perm ns ∧ ∀ z ∈ ms, ns.dropLast.getD 0 0 ≤ z := by
  have hn : ns ≠ [] := by rintro rfl; exact absurd hne (Nat.lt_irrefl _)
  have e0 : ns.dropLast ++ [ns.getLastD 0] = ns := by
    have := List.dropLast_concat_getLast hn
    rw [List.getLastD_eq_getLast?, List.getLast?_eq_some_getLast hn]
    exact this
  have hroot : ns.dropLast.getD 0 0 = ns.getD 0 0 := by
    rw [List.getD_eq_getElem?_getD, List.getD_eq_getElem?_getD, List.getElem?_dropLast, if_pos (by rw [List.length_dropLast] at hne; exact hne)]
  obtain ⟨r, e⟩ := cons_of_pos hne
  have p1 : (ns.dropLast.getD 0 0 :: ms).Perm ns := by
    generalize hy : ns.dropLast.getD 0 0 = y at *
    generalize hl : ns.getLastD 0 = z at *
    rw [e] at hp e0
    simp only [List.set_cons_zero] at hp
    rw [← e0]
    refine (hp.cons y).trans ?_
    exact (List.Perm.cons y (List.perm_append_singleton z r).symm)
  exact ⟨p1, fun z hz => by rw [hroot]; exact hp_min h (p1.mem_iff.mp (List.mem_cons_of_mem _ hz))⟩

/-! the law's loop -/
structure Inv (most : Nat) (pre hs rs gs : List Int) : Prop where
  row : rs.Pairwise (· ≤ ·)
  rowP : rs.Perm pre
  heap : Hp hs
  len : hs.length = min most pre.length
  all : (gs ++ hs).Perm pre
  low : ∀ g ∈ gs, ∀ z ∈ hs, g ≤ z
theorem Inv.start (most : Nat) : Inv most [] [] [] [] := ⟨.nil, .nil, hp_nil, by simp, .nil, fun _ h => nomatch h⟩
theorem Inv.gsLen {most : Nat} {pre hs rs gs : List Int} (I : Inv most pre hs rs gs) : gs.length = pre.length - min most pre.length := by
  have := I.all.length_eq
  rw [List.length_append, I.len] at this
  omega
theorem Inv.push {most : Nat} {pre hs rs gs hs' rs' : List Int} {n : Int} (I : Inv most pre hs rs gs) (hlt : hs.length < most) (r1 : rs'.Pairwise (· ≤ ·)) (r2 : rs'.Perm (n :: rs)) (h1 : Hp hs') (h2 : hs'.Perm (n :: hs)) : Inv most (pre ++ [n]) hs' rs' gs := by
  have hl := I.len
  have hg := I.gsLen
  have hg0 : gs = [] := List.length_eq_zero_iff.mp (by omega)
  subst hg0
  refine ⟨r1, ?_, h1, ?_, ?_, fun _ h => nomatch h⟩
  · exact r2.trans ((I.rowP.cons n).trans (List.perm_append_singleton n pre).symm)
  · rw [h2.length_eq, List.length_cons, List.length_append, hl]; simp; omega
  · exact h2.trans ((I.all.cons n).trans (List.perm_append_singleton n pre).symm)
theorem Inv.pop {most : Nat} {pre hs rs gs hs' rs' : List Int} {n y : Int} (I : Inv most pre hs rs gs) (hge : ¬ hs.length < most) (r1 : rs'.Pairwise (· ≤ ·)) (r2 : rs'.Perm (n :: rs)) (h1 : Hp hs') (h2 : (y :: hs').Perm (n :: hs)) (h3 : ∀ z ∈ hs', y ≤ z) :
    Inv most (pre ++ [n]) hs' rs' (gs ++ [y]) := by
  have hl := I.len
  have hl2 := h2.length_eq
  simp only [List.length_cons] at hl2
  refine ⟨r1, ?_, h1, ?_, ?_, fun g hg z hz => ?_⟩
  · exact r2.trans ((I.rowP.cons n).trans (List.perm_append_singleton n pre).symm)
  · rw [List.length_append]; simp; omega
  · rw [List.append_assoc]
    refine (List.Perm.append_left gs h2).trans ?_
    refine (List.perm_middle).trans ?_
    exact (I.all.cons n).trans (List.perm_append_singleton n pre).symm
  · rcases List.mem_append.mp hg with hg | hg
    · have hz' := h2.mem_iff.mp (List.mem_cons_of_mem y hz)
      rcases List.mem_cons.mp hz' with rfl | hz'
      · by_cases e : y = z
        · subst e
          exact I.low g hg _ (h2.cons_inv.mem_iff.mp hz)
        · have hy := h2.mem_iff.mp (List.mem_cons_self (a := y) (l := hs'))
          rcases List.mem_cons.mp hy with hy | hy
          · exact absurd hy e
          · exact Int.le_trans (I.low g hg y hy) (h3 z hz)
      · exact I.low g hg z hz'
    · rw [List.mem_singleton.mp hg]; exact h3 z hz
theorem sort_ex (l : List Int) : ∃ g : List Int, g.Perm l ∧ g.Pairwise (· ≤ ·) := by
  refine ⟨l.mergeSort (fun a b => decide (a ≤ b)), List.mergeSort_perm _ _, ?_⟩
  have := List.pairwise_mergeSort (le := fun a b : Int => decide (a ≤ b)) (fun a b c h1 h2 => by simp only [decide_eq_true_eq] at *; omega) (fun a b => by simp only [Bool.or_eq_true, decide_eq_true_eq]; omega) l
  simpa using this
theorem Inv.cut {most : Nat} {pre hs rs gs : List Int} (I : Inv most pre hs rs gs) {S : List Int} (s1 : S.Perm hs) (s2 : S.Pairwise (· ≤ ·)) : rs.drop gs.length = S := by
  obtain ⟨G, g1, g2⟩ := sort_ex gs
  have e : G ++ S = rs := by
    refine PySem.W.ksm_same (((g1.append s1).trans I.all).trans I.rowP.symm) ?_ I.row
    rw [List.pairwise_append]
    exact ⟨g2, s2, fun a ha b hb => I.low a (g1.mem_iff.mp ha) b (s1.mem_iff.mp hb)⟩
  rw [← e, ← g1.length_eq, List.drop_left]
theorem Inv.cutL {most : Nat} {pre hs rs gs : List Int} (I : Inv most pre hs rs gs) {G : List Int} (g1 : G.Perm gs) (g2 : G.Pairwise (· ≤ ·)) : rs.take gs.length = G := by
  obtain ⟨S, s1, s2⟩ := sort_ex hs
  have e : G ++ S = rs := by
    refine PySem.W.ksm_same (((g1.append s1).trans I.all).trans I.rowP.symm) ?_ I.row
    rw [List.pairwise_append]
    exact ⟨g2, s2, fun a ha b hb => I.low a (g1.mem_iff.mp ha) b (s1.mem_iff.mp hb)⟩
  rw [← e, ← g1.length_eq, List.take_left]
theorem Inv.rsLen {most : Nat} {pre hs rs gs : List Int} (I : Inv most pre hs rs gs) : rs.length = gs.length + hs.length := by
  have := I.all.length_eq
  rw [List.length_append] at this
  rw [I.rowP.length_eq, this]
theorem Inv.most {most : Nat} {pre hs rs gs : List Int} (I : Inv most pre hs rs gs) : gs.length = rs.length - most := by
  have := I.gsLen
  have := I.rowP.length_eq
  omega

/-! the emptying -/
structure Emp (hs₀ out hs : List Int) : Prop where
  row : out.Pairwise (· ≤ ·)
  all : (out ++ hs).Perm hs₀
  heap : Hp hs
  low : ∀ o ∈ out, ∀ z ∈ hs, o ≤ z
theorem Emp.start {hs : List Int} (h : Hp hs) : Emp hs [] hs := ⟨.nil, .refl _, h, fun _ h => nomatch h⟩
theorem Emp.step {hs₀ out hs hs' : List Int} {y : Int} (I : Emp hs₀ out hs) (h1 : Hp hs') (h2 : (y :: hs').Perm hs) (h3 : ∀ z ∈ hs', y ≤ z) : Emp hs₀ (out ++ [y]) hs' := by
  refine ⟨?_, ?_, h1, fun o ho z hz => ?_⟩
  · rw [List.pairwise_append]
    exact ⟨I.row, List.pairwise_singleton _ _, fun a ha b hb => by
      rw [List.mem_singleton.mp hb]
      exact I.low a ha y (h2.mem_iff.mp (List.mem_cons_self ..))⟩
  · rw [List.append_assoc]
    exact (List.Perm.append_left out h2).trans I.all
  · rcases List.mem_append.mp ho with ho | ho
    · exact I.low o ho z (h2.mem_iff.mp (List.mem_cons_of_mem _ hz))
    · rw [List.mem_singleton.mp ho]; exact h3 z hz
theorem Emp.done {hs₀ out hs : List Int} (I : Emp hs₀ out hs) (h : hs.length = 0) : hs = [] ∧ out.Perm hs₀ ∧ out.Pairwise (· ≤ ·) := by
  have := List.length_eq_zero_iff.mp h
  subst this
  exact ⟨rfl, by simpa using I.all, I.row⟩
end Mine

namespace Mine

def WhPost (J : Shared → Prop) (Q : Flow → Shared → Prop) (f : Flow) (s : Shared) : Prop :=
  match f with
  | .ret v => Q (.ret v) s
  | .brk => Q .next s
  | _ => J s

def WhEnd {σ : Type} (h₀ : Heap) (L : Addr) (s : Shared) (Led : σ → List (Addr × Obj)) (ps : σ → List (Str × Value)) (stored : List Str) (m₀ : Str → Option Value) (P : σ → Prop) (μ : σ → Nat) (c : σ) (s₂ : Shared) : Prop :=
  ∃ (c' : σ) (h' : Heap) (tk : Nat) (m' : Str → Option Value), s₂ = { s with heap := h', toks := tk } ∧ Fr h₀ L h' m' ∧ News h₀ L h' (Led c') ∧ (∀ p ∈ ps c', m' p.1 = some p.2) ∧ (∀ z, (∀ p ∈ ps c', z ≠ p.1) → stored.contains z = false → m' z = m₀ z) ∧ P c' ∧ μ c' < μ c

theorem wh_while {prog : Program} {w : World} {A : Around} {E : Value → Shared → Prop} {Q : Flow → Shared → Prop} {s : Shared} {env : Env} {h₀ : Heap} {L : Addr}
    {σ : Type} {test : PySem.Expr} {body : List Stmt} {pos : Pos} {m₀ : Str → Option Value} (Led : σ → List (Addr × Obj)) (ps : σ → List (Str × Value)) (stored : List Str) (P : σ → Prop) (μ : σ → Nat) (c₀ : σ)
    (F : Fr h₀ L s.heap m₀) (N : News h₀ L s.heap (Led c₀)) (hk : ∀ p ∈ ps c₀, m₀ p.1 = some p.2) (hp : P c₀)
    (turn : ∀ (c : σ) (u : Str → Option Value) h tk, P c → Fr h₀ L h (kstB (fun z => if stored.contains z then u z else m₀ z) (ps c)) → News h₀ L h (Led c) →
      wpAny (model prog w) A (isTrue test env (eval test env)) (fun b s₂ =>
        if b = true then wpAny (model prog w) A (execs body env) (WhPost (WhEnd h₀ L s Led ps stored m₀ P μ c) Q) E s₂ else Q .next s₂) E { s with heap := h, toks := tk })
    (hE : PassesOwn (model prog w) A env E := by passes_own) :
    wpAny (model prog w) A (exec (.While test body [] pos) env) Q E s := by
  refine ksw_while Led ps (fun _ => True) stored P μ c₀ F N trivial hk hp (fun c u h tk _ hp9 F9 N9 => ?_) hE
  refine wpAny_mono (turn c u h tk hp9 F9 N9) (fun b s₂ p => ?_) fun _ _ y => y
  cases b with
  | false => exact p
  | true =>
    refine wpAny_mono (show wpAny _ _ _ _ _ _ from p) (fun f s₃ q => ?_) fun _ _ y => y
    have up : WhEnd h₀ L s Led ps stored m₀ P μ c s₃ → KswEnd h₀ L s Led ps (fun _ => True) stored m₀ P μ c s₃ := fun ⟨c', h', tk', m', e, F', N', g1, g2, g3, g4⟩ =>
      ⟨c', h', tk', m', Led c', e, F', N', fun _ z => z, trivial, g1, g2, g3, g4⟩
    cases f with
    | ret v => exact q
    | brk => exact q
    | next => exact up q
    | cont => exact up q
end Mine

namespace Mine
def FoEnd {σ : Type} (h₀ : Heap) (L I c : Addr) (oI : Obj) (s : Shared) (Led : σ → List (Addr × Obj)) (ps : σ → List (Str × Value)) (stored : List Str) (m₀ : Str → Option Value) (P : σ → Prop) (s₂ : Shared) : Prop :=
  ∃ (st' : σ) (h' : Heap) (tk : Nat) (m' : Str → Option Value) (oc : Obj) (v : Option Value), s₂ = { s with heap := h', toks := tk } ∧ Fr h₀ L h' m' ∧ News h₀ L h' ((I, oI) :: (c, oc) :: Led st') ∧ oc.data = .cell v ∧ (∀ p ∈ ps st', m' p.1 = some p.2) ∧ (∀ z, (∀ p ∈ ps st', z ≠ p.1) → stored.contains z = false → m' z = m₀ z) ∧ P st'
def FoPost (J : Shared → Prop) (Q : Flow → Shared → Prop) (f : Flow) (s : Shared) : Prop :=
  match f with
  | .ret v => Q (.ret v) s
  | .brk => Q .next s
  | _ => J s
def FoAt (prog : Program) (w : World) (A : Around) (env : Env) (x : Str) (px : Pos) (body : List Stmt) (Q : Flow → Shared → Prop) (E : Value → Shared → Prop) (it : Value) (s₂ : Shared) : Prop :=
  codeAny (model prog w) A (.forLoop (.Name x px) it body [] env) (fun r s' => match r with | .ok f => Q f s' | .error e => cameBackBy (model prog w) A env E e s') s₂

theorem for_open {prog : Program} {w : World} {A : Around} {E : Value → Shared → Prop} {Q : Flow → Shared → Prop} {s : Shared} {env : Env} {x : Str} {px pos : Pos} {iter : PySem.Expr} {body : List Stmt}
    (h : wpAny (model prog w) A (eval iter env) (fun xv s₁ => wpAny (model prog w) A (pyIter xv) (FoAt prog w A env x px body Q E) E s₁) E s)
    (hs : ∀ x, foldedSetIterable iter env x = pure x := by intro _; rfl) : wpAny (model prog w) A (exec (.For (.Name x px) iter body [] pos) env) Q E s := wpAny_For h hs

theorem for_cell {prog : Program} {w : World} {A : Around} {E : Value → Shared → Prop} {Q : Flow → Shared → Prop} {s : Shared} {env : Env} {h₀ : Heap} {L l c : Addr} {x : Str} {px : Pos} {body : List Stmt} {vs : List Value} {ns : List Int} {m₀ : Str → Option Value} {o₀ : Obj} {v₀ : Option Value}
    {σ : Type} (Led : σ → List (Addr × Obj)) (ps : σ → List (Str × Value)) (stored : List Str) (P : List Int → σ → Prop) (c₀ : σ)
    (hh : A.handled = none) (hl : h₀.IsList l vs.toArray) (hi : IntsAre vs ns) (hk : env.scope.kind = .function) (hx : env.kindOf x = some .cell) (hc : env.cells.lookup x = some c)
    (F : Fr h₀ L s.heap m₀) (N : News h₀ L s.heap ((c, o₀) :: Led c₀)) (hd : o₀.data = .cell v₀) (hadr : ∀ st, (Led st).map (·.1) = (Led c₀).map (·.1)) (hoff : ∀ p ∈ Led c₀, p.1 ≠ c)
    (hps : ∀ p ∈ ps c₀, m₀ p.1 = some p.2) (hp : P [] c₀)
    (turn : ∀ (st : σ) pre n t post (u : Str → Option Value) h tk oc I oI, ns = pre ++ n :: post → P pre st → oc.data = .cell (some (.int n t)) → (∀ p ∈ (c, oc) :: Led st, p.1 < I) →
      Fr h₀ L h (kstB (fun z => if stored.contains z then u z else m₀ z) (ps st)) → News h₀ L h ((I, oI) :: (c, oc) :: Led st) →
      wpAny (model prog w) A (execs body env) (FoPost (FoEnd h₀ L I c oI s Led ps stored m₀ (P (pre ++ [n]))) Q) E { s with heap := h, toks := tk })
    (done : ∀ (st : σ) (u : Str → Option Value) h tk oc v, P ns st → oc.data = .cell v → Fr h₀ L h (kstB (fun z => if stored.contains z then u z else m₀ z) (ps st)) → News h₀ L h ((c, oc) :: Led st) → Q .next { s with heap := h, toks := tk })
    (hE : PassesOwn (model prog w) A env E := by passes_own) :
    wpAny (model prog w) A (pyIter (.ref l)) (FoAt prog w A env x px body Q E) E s := by
  have hls : s.heap.IsList l vs.toArray := hl.at fun o e => F.keep l o e
  obtain ⟨ol, hol, _⟩ := id hl
  have hlt : l < h₀.objs.size := Heap.lt_size hol
  have hLlt : L < s.heap.objs.size := F.ns.lt
  have hne : l ≠ s.heap.objs.size := Nat.ne_of_lt (Nat.lt_trans (Nat.lt_of_lt_of_le hlt F.above) hLlt)
  refine wpAny_pyIter_list hls ?_
  have W := Walks.list (prog := prog) (w := w) hh s.heap.objs.size l hne vs.toArray
  have hlen : vs.toArray.size = ns.length := by simp [hi.length]
  rw [hlen] at W
  have hI₀ : h₀.get? s.heap.objs.size = none := next_is_new F
  have hLI : L ≠ s.heap.objs.size := Nat.ne_of_lt hLlt
  have hc1 := N (c, o₀) (.head _)
  have hcI : c < s.heap.objs.size := Heap.lt_size hc1.1
  have inLed : ∀ st, ∀ p ∈ Led st, p.1 < s.heap.objs.size ∧ p.1 ≠ c := fun st p hp => by
    have h1 : p.1 ∈ (Led c₀).map (·.1) := by rw [← hadr st]; exact List.mem_map.mpr ⟨p, hp, rfl⟩
    obtain ⟨q, hq, e⟩ := List.mem_map.mp h1
    exact e ▸ ⟨Heap.lt_size (N q (.tail _ hq)).1, hoff q hq⟩
  refine codeAny_forLoop (I := fun k s' => ∃ st : σ, ∃ i h' tk m' oc v oI, s' = { s with heap := h', toks := tk } ∧ i ≤ ns.length ∧ k = ns.length + 1 - i ∧ (h'.IsListIter s.heap.objs.size l i ∧ h'.IsList l vs.toArray) ∧ Fr h₀ L h' m' ∧ News h₀ L h' ((s.heap.objs.size, oI) :: (c, oc) :: Led st) ∧
      oc.data = .cell v ∧ (∀ p ∈ ps st, m' p.1 = some p.2) ∧ (∀ z, (∀ p ∈ ps st, z ≠ p.1) → stored.contains z = false → m' z = m₀ z) ∧ P (ns.take i) st) ?_ (ns.length + 1)
    ⟨c₀, 0, _, s.toks, m₀, o₀, v₀, { cls := .type "list_iterator", data := .fields #[.ref l, .int 0 0] }, rfl, Nat.zero_le _, rfl, ⟨⟨_, Heap.get?_push_size _ rfl, rfl, rfl⟩, hls.at fun o e => Heap.get?_push_of_some _ e⟩, F.push _, ?_, hd, hps, fun _ _ _ => rfl, by simpa using hp⟩
  · rintro k s' ⟨st, i, h', tk, m', oc, v, oI, rfl, hile, rfl, hst, F', N', hoc, h1, h2, hP⟩
    have cc := N' (c, oc) (.tail _ (.head _))
    refine wpAny_passesOwn hE ?_
    by_cases hlt2 : i < ns.length
    · refine W.item i _ _ _ hlt2 hst fun y h₁ tk₁ hPv hst₁ hk₁ => ?_
      obtain ⟨t, hxt⟩ := hi.get i ns[i] (by simp [hlt2])
      have hv : y = .int ns[i] t := by
        have hP' : vs[i]? = some y := by simpa using hPv
        rw [hxt] at hP'; exact (Option.some.inj hP').symm
      subst hv
      have F₁ : Fr h₀ L h₁ m' := ⟨F'.ns.at' fun o e => hk₁ L o (by simpa using hLI) e, fun b o e => hk₁ b o (fun hm => by rw [List.mem_singleton.mp hm, hI₀] at e; cases e) (F'.keep b o e), F'.above⟩
      have c₁ : h₁.get? c = some oc := hk₁ _ _ (fun hm => absurd hcI (by rw [List.mem_singleton.mp hm]; exact Nat.lt_irrefl _)) cc.1
      refine wpAny_assign_Name (wpAny_storeName_cell hk hx hc ⟨oc, c₁, hoc⟩ fun h₂ hv₂ hs₂ => ?_)
      obtain ⟨oc₂, hoc₂, hd₂⟩ := hv₂
      have F₂ : Fr h₀ L h₂ m' := F₁.change hs₂ cc.2.1 cc.2.2
      have hst₂ : h₂.IsListIter s.heap.objs.size l (i + 1) ∧ h₂.IsList l vs.toArray := ⟨hst₁.1.at fun o e => (hs₂.2 _ (Nat.ne_of_gt hcI)).trans e, hl.at fun o e => F₂.keep l o e⟩
      obtain ⟨oI₂, heI, hrI⟩ := id hst₂.1
      have N₂ : News h₀ L h₂ ((s.heap.objs.size, oI₂) :: (c, oc₂) :: Led st) := fun p hp => by
        rcases List.mem_cons.mp hp with rfl | hp
        · exact ⟨heI, Ne.symm hLI, hI₀⟩
        · rcases List.mem_cons.mp hp with rfl | hp
          · exact ⟨hoc₂, cc.2⟩
          · have z := N' p (.tail _ (.tail _ hp))
            have q := inLed st p hp
            exact ⟨(hs₂.2 _ q.2).trans (hk₁ _ _ (fun hm => absurd q.1 (by rw [List.mem_singleton.mp hm]; exact Nat.lt_irrefl _)) z.1), z.2⟩
      have hs : ns.take (i + 1) = ns.take i ++ [ns[i]] := by rw [List.take_add_one, List.getElem?_eq_getElem hlt2]; rfl
      have e : ns = ns.take i ++ ns[i] :: ns.drop (i + 1) := by
        have ht := List.take_append_drop (i + 1) ns
        rw [hs, List.append_assoc] at ht
        exact ht.symm
      refine wpAny_passesOwn hE (wpAny_mono (turn st (ns.take i) ns[i] t (ns.drop (i + 1)) m' h₂ _ oc₂ s.heap.objs.size oI₂ e hP hd₂ (fun p hp => ?_) (ksw_fr h1 h2 F₂) N₂) (fun f s₃ q => ?_) fun _ _ x => x)
      · rcases List.mem_cons.mp hp with rfl | hp
        · exact hcI
        · exact (inLed st p hp).1
      · have fin : FoEnd h₀ L s.heap.objs.size c oI₂ s Led ps stored m₀ (P (ns.take i ++ [ns[i]])) s₃ → ∃ m, m < ns.length + 1 - i ∧ ∃ st : σ, ∃ i h' tk m' oc v oI, s₃ = { s with heap := h', toks := tk } ∧ i ≤ ns.length ∧ m = ns.length + 1 - i ∧ (h'.IsListIter s.heap.objs.size l i ∧ h'.IsList l vs.toArray) ∧ Fr h₀ L h' m' ∧ News h₀ L h' ((s.heap.objs.size, oI) :: (c, oc) :: Led st) ∧
            oc.data = .cell v ∧ (∀ p ∈ ps st, m' p.1 = some p.2) ∧ (∀ z, (∀ p ∈ ps st, z ≠ p.1) → stored.contains z = false → m' z = m₀ z) ∧ P (ns.take i) st := by
          rintro ⟨st', h₃, tk₃, m₃, oc₃, v₃, rfl, F₃, N₃, hoc₃, g1, g2, g3⟩
          exact ⟨ns.length + 1 - (i + 1), by omega, st', i + 1, h₃, tk₃, m₃, oc₃, v₃, oI₂, rfl, hlt2, rfl, ⟨⟨oI₂, (N₃ _ (.head _)).1, hrI⟩, hl.at fun o e => F₃.keep l o e⟩, F₃, N₃, hoc₃, g1, g2, by rw [hs]; exact g3⟩
        cases f with
        | ret v => exact q
        | brk => exact q
        | next => exact fin q
        | cont => exact fin q
    · obtain rfl : i = ns.length := Nat.le_antisymm hile (Nat.not_lt.mp hlt2)
      refine W.done _ _ _ hst fun h₁ tk₁ hk₁ => wpAny_execs_nil ?_
      have F₁ : Fr h₀ L h₁ m' := ⟨F'.ns.at' fun o e => hk₁ L o (by simpa using hLI) e, fun b o e => hk₁ b o (fun hm => by rw [List.mem_singleton.mp hm, hI₀] at e; cases e) (F'.keep b o e), F'.above⟩
      rw [List.take_length] at hP
      refine done st m' h₁ tk₁ oc v hP hoc (ksw_fr h1 h2 F₁) fun p hp => ?_
      have z := N' p (.tail _ hp)
      refine ⟨hk₁ _ _ ?_ z.1, z.2⟩
      rcases List.mem_cons.mp hp with rfl | hp
      · exact fun hm => absurd hcI (by rw [show c = _ from List.mem_singleton.mp hm]; exact Nat.lt_irrefl _)
      · exact fun hm => absurd (inLed st p hp).1 (by rw [List.mem_singleton.mp hm]; exact Nat.lt_irrefl _)
  · intro p hp
    rcases List.mem_cons.mp hp with rfl | hp
    · exact ⟨Heap.get?_push_size _ rfl, Ne.symm hLI, hI₀⟩
    · exact ⟨Heap.get?_push_of_some _ (N p hp).1, (N p hp).2⟩
end Mine

namespace Mine
section
variable {prog : Program} {w : World} {A : Around} {E : Value → Shared → Prop} {s : Shared} {h₀ : Heap} {L l : Addr} {m : Str → Option Value} {rest : List (Addr × Obj)} {vs : List Value} {ns : List Int} {c : Nat} {k x : Int} {u t : Tok} {Q : Value → Shared → Prop}
theorem sizeLine_100 {n : Nat} (h : n < 200) : n ≤ sizeLine := by rw [PySem.sizeLine_eq]; omega
theorem truth_ints {news : List (Addr × Obj)} {Q : Bool → Shared → Prop} (N : News h₀ L s.heap news) (hm : (l, listOf vs.toArray c) ∈ news) (hi : IntsAre vs ns) (hl : ns.length < 200)
    (h : Q (decide (0 < ns.length)) { s with toks := s.toks + 1 + 1 }) : wpAny (model prog w) A (truthy (.ref l)) Q E s := by
  refine wpAny_truthy_list (items := vs.toArray) ⟨_, (N _ hm).1, rfl, c, rfl⟩ (by rw [List.size_toArray, hi.length]; omega) ?_
  have hlen := hi.length
  have e : (!vs.toArray.isEmpty) = decide (0 < ns.length) := by
    rw [← hlen]
    cases vs <;> simp
  rw [e]; exact h
theorem insert_ints (F : Fr h₀ L s.heap m) (N : News h₀ L s.heap ((l, listOf vs.toArray c) :: rest)) (hr : ∀ p ∈ rest, p.1 ≠ l) (hi : IntsAre vs ns) (h0 : 0 ≤ k) (h1 : k ≤ ns.length) (hl : ns.length < 100)
    (h : ∀ h' vs', Fr h₀ L h' m → News h₀ L h' ((l, listOf vs'.toArray (c + 1)) :: rest) → IntsAre vs' (ns.take k.toNat ++ x :: ns.drop k.toNat) → Q .none { s with heap := h' }) :
    wpAny (model prog w) A (call (.builtin "list.insert") [.ref l, .int k u, .int x t]) Q E s := by
  have e : kl_ins vs k (.int x t) = vs.take k.toNat ++ .int x t :: vs.drop k.toNat := by
    unfold kl_ins
    have : min k.toNat vs.length = k.toNat := by rw [hi.length]; omega
    rw [if_neg (by omega), this]
  refine kl_insert (its := vs.toArray) (y := .int x t) F N ?_ (l := vs.take k.toNat ++ .int x t :: vs.drop k.toNat) e (Upd.head hr) ?_ fun h' F' N' => h h' _ F' N' ?_
  · unfold Builtin.List.listFitsIndex
    simp only [Bool.and_eq_true, decide_eq_true_eq]
    omega
  · show vs.length ≤ sizeLine
    rw [hi.length]; exact sizeLine_100 (by omega)
  · exact (hi.take _).append (.cons x t (hi.drop _))
end
end Mine

local macro_rules | `(tactic| walk_at "call builtin:len") => `(tactic| (k_here; (with_reducible show wpAny _ _ (call (Value.builtin "len") [Value.ref _]) _ _ _); k_dflt (refine' kst_len ?k1 ?k2 ?k3 ?k4 ?_; (case k1 => k_asm); (case k2 => first | k_mem | assumption); (case k3 => exact IntsAre.length (by assumption)); (case k4 => omega); k_whole)))
local macro_rules | `(tactic| walk_at "WhPost") => `(tactic| (dsimp only [Mine.WhPost]))
local macro_rules | `(tactic| k_steps) => `(tactic| repeat' (first
  | (k_unfold; (try dsimp only))
  | ((fail_if_success (with_reducible show wpAny _ _ (exec (Stmt.While _ _ _ _) _) _ _ _)); (fail_if_success (with_reducible show LCg.CompSrc _ _ _ _ _ _ _ _ _ _ _ _ _ _)); (fail_if_success (with_reducible show wpAny _ _ (exec (Stmt.For _ _ _ _ _) _) _ _ _)); (fail_if_success (with_reducible show wpAny _ _ (call (Value.ref _) _ _) _ _ _)); (fail_if_success (with_reducible show wpAny _ _ (eval (Expr.ListComp _ _ _ _) _) _ _ _)); (fail_if_success (with_reducible show wpAny _ _ (exec (Stmt.Assign _ (Expr.ListComp _ _ _ _) _) _) _ _ _)); first | walk1 | (dsimp only; walk1))
  | fail "no step"))
local macro_rules | `(tactic| ktr_enter) => `(tactic| (refine' code_def ?k1 ?k2 ?k3 ?k4 ?k5 ?kA ?kF ?kK ?k6 ?k7 ?k8 ?k9 ?kB ?_ ?c2 ?c3 ?c4 ?c5; (case kA => exact rfl); (case kF => exact rfl); (case kK => assumption); (case k1 => k_asm); (case k2 => k_asm); (case k3 => k_asm); (case k4 => k_asm); (case k5 => k_asm); (case k6 => k_is); (case k7 => k_is); (case k8 => ktr_room); (case k9 => first | exact BindsTo.of_eq rfl | (refine' kp_binds ?kx ?ke; (case kx => k_in); (case ke => exact fun _ => rfl))); (case c5 => decide); (case kB => exact locs rfl); (case c2 => exact rfl); (case c3 => exact rfl); (case c4 => exact rfl); k_whole; intro g' L' h' FG' F' N' B' X' T'; (try dsimp only); (try k_lift B'); (try k_fold)))
local macro_rules | `(tactic| ksw_same) => `(tactic| (intro z h2 h3; (simp only [List.forall_mem_cons, List.not_mem_nil, false_implies, implies_true, and_true, ne_eq] at h2); (simp only [List.contains_cons, List.contains_nil, Bool.or_false, Bool.or_eq_false_iff, beq_eq_false_iff_ne, ne_eq] at h3); (simp [h2, h3, kstB]; done)))
local macro_rules | `(tactic| k_all) => `(tactic| first | with_reducible assumption | (refine List.forall_mem_cons.mpr ⟨by k_ne, ?_⟩; k_all) | exact List.forall_mem_nil _)
local macro_rules | `(tactic| walk_at "subscriptTail Name Slice ref ref") => `(tactic| (k_here; (with_reducible show wpAny _ _ (subscriptTail _ (PySem.Expr.Slice _ _ none _) (Value.ref _) (Value.ref _)) _ _ _); k_dflt (refine' kmk_slice_ints ?F ?N ?l ?p ?q ?i ?m ?c ?_ ?s ?t ?z; (case F => k_asm); (case N => k_asm); (case l => exact News.isList (by k_asm) (by k_mem)); (case p => kmk_part); (case q => kmk_part); (case i => with_reducible assumption); (case m => first | exact kmk_from (by with_reducible assumption) (by omega) | exact kmk_upto (by with_reducible assumption) (by omega)); (case c => exact rfl); (case s => with_unfolding_all rfl); (case t => kmk_pure); (case z => (refine kmk_sz (by with_reducible assumption) (Mine.sizeLine_100 (by omega))))); intro D' ws' h' F' N' l1 hI' hC' hL'; clear hC' hL'; (try k_lt l1); (try k_sweep)))
local macro_rules | `(tactic| walk_at "CompEnd") => `(tactic| (refine ⟨_, _, _, rfl, by k_asm, by k_asm, by assumption, .inr ⟨_, by k_mem, rfl, _, rfl⟩, ?_⟩))

namespace Mine
section
variable {w : World} {p : Program} {loose : List Str} {mean : ExcName → Option Value} {mg mb : Str → Option Value} {dp un : Nat} {gd : Option (List Code)} {cn : Str} {cs : Scope} {a : Addr} {ccd : Value} {cl : List (Str × Addr)} {outer : List Env} {A₀ : Around} {base h₀ : Heap} {L : Addr} {m : Str → Option Value} {news rest : List (Addr × Obj)} {s : Shared}
  {l : Addr} {vs : List Value} {ns : List Int} {c : Nat} {x : Int} {t : Tok} {more : List Value} {Q E : Value → Shared → Prop}

theorem bisR (B : Below A₀ base outer h₀) (F : Fr h₀ L s.heap m) (X : (hd.heap_39 w.params).In h₀) (N : News h₀ L s.heap news) (T : Top p loose mean mg mb h₀) (hk : cs.kind = .function)
    (hm : (l, listOf vs.toArray c) ∈ news) (hi : IntsAre vs ns) (hs : ns.Pairwise (· ≤ ·)) (hl : ns.length < 100) (hdp : dp + 1 < recursionLimit) (hmore : more = [] ∨ ∃ t0, more = [.int 0 t0, .none])
    (hret : ∀ t h' tk', Fr h₀ L h' m → News h₀ L h' news → Q (.int ((ns.countP (fun a => decide (a ≤ x)) : Nat) : Int) t) { s with heap := h', toks := tk' }) :
    wpAny (model PySem.Challenge.rw_xc0019_01.row.prog w) (ktrTop dp un gd cn cs L a ccd cl outer) (call (.ref 67) (.ref l :: .int x t :: more)) Q E s := by
  w_top off
  revert X
  k_fill
  intro X
  rcases hmore with rfl | ⟨t0, rfl⟩
  all_goals (
    refine wpAny_call ?_
    k_dflt ktr_enter
    k_steps
    (rename Fr _ _ _ _ => lF'); (rename News _ _ _ _ => lN')
    refine' wh_while (σ := Int × Tok × Int × Tok) (fun _ => news) (fun c => [(Str.ofString "lo", .int c.1 c.2.1), (Str.ofString "hi", .int c.2.2.1 c.2.2.2)]) [Str.ofString "mid"] (fun c => 0 ≤ c.1 ∧ c.1 ≤ c.2.2.1 ∧ c.2.2.1 ≤ ns.length ∧ (∀ i : Nat, (i : Int) < c.1 → ns.getD i 0 ≤ x) ∧ (∀ i : Nat, c.2.2.1 ≤ (i : Int) → i < ns.length → x < ns.getD i 0)) (fun c => (c.2.2.1 - c.1).toNat) (_, _, _, _) lF' lN' ?kk ?kp ?_ ?kE
    case kk => kst_all
    case kp => (dsimp only; refine ⟨?_, ?_, ?_, ?_, ?_⟩ <;> first | omega | (intro i hi; omega))
    case kE => first | passes_own | with_unfolding_all passes_own
    clear lF' lN'
    intro c9 u9 h9 tk9 kInv kFr kNews
    obtain ⟨lo, tlo, hj, thi⟩ := c9
    dsimp only at kInv
    obtain ⟨i1, i2, i3, i4, i5⟩ := kInv
    (try k_fold)
    k_steps
    · have e : (lo + hj).fdiv 2 = (lo + hj) / 2 := Int.fdiv_eq_ediv_of_nonneg _ (by omega)
      have q : x < ns.getD ((lo + hj).fdiv 2).toNat 0 := by assumption
      refine ⟨(lo, tlo, (lo + hj).fdiv 2, _), _, _, _, rfl, by k_asm, by k_asm, by kst_all, by ksw_same, ?_, ?_⟩
      · refine ⟨i1, by dsimp only; omega, by dsimp only; omega, i4, fun i hi1 hi2 => ?_⟩
        have := le_getD hs (i := ((lo + hj).fdiv 2).toNat) (j := i) (by dsimp only at hi1; omega) hi2
        omega
      · dsimp only; omega
    · have e : (lo + hj).fdiv 2 = (lo + hj) / 2 := Int.fdiv_eq_ediv_of_nonneg _ (by omega)
      have q : ¬ x < ns.getD ((lo + hj).fdiv 2).toNat 0 := by assumption
      refine ⟨((lo + hj).fdiv 2 + 1, _, hj, _), _, _, _, rfl, by k_asm, by k_asm, by kst_all, by ksw_same, ?_, ?_⟩
      · refine ⟨by dsimp only; omega, by dsimp only; omega, i3, fun i hi1 => ?_, i5⟩
        have := le_getD hs (i := i) (j := ((lo + hj).fdiv 2).toNat) (by dsimp only at hi1; omega) (by omega)
        omega
      · dsimp only; omega
    · have q : ¬ lo < hj := by assumption
      have e := right_cut i1 (by omega) i4 (fun i h1 h2 => i5 i (by omega) h2)
      rw [e]
      exact hret _ _ _ (by k_asm) (by k_asm))

theorem bisL (B : Below A₀ base outer h₀) (F : Fr h₀ L s.heap m) (X : (hd.heap_39 w.params).In h₀) (N : News h₀ L s.heap news) (T : Top p loose mean mg mb h₀) (hk : cs.kind = .function)
    (hm : (l, listOf vs.toArray c) ∈ news) (hi : IntsAre vs ns) (hs : ns.Pairwise (· ≤ ·)) (hl : ns.length < 100) (hdp : dp + 1 < recursionLimit)
    (hret : ∀ t h' tk', Fr h₀ L h' m → News h₀ L h' news → Q (.int ((ns.countP (fun a => decide (a < x)) : Nat) : Int) t) { s with heap := h', toks := tk' }) :
    wpAny (model PySem.Challenge.rw_xc0019_01.row.prog w) (ktrTop dp un gd cn cs L a ccd cl outer) (call (.ref 76) [.ref l, .int x t]) Q E s := by
  w_top off
  revert X
  k_fill
  intro X
  refine wpAny_call ?_
  k_dflt ktr_enter
  k_steps
  (rename Fr _ _ _ _ => lF'); (rename News _ _ _ _ => lN')
  refine' wh_while (σ := Int × Tok × Int × Tok) (fun _ => news) (fun c => [(Str.ofString "lo", .int c.1 c.2.1), (Str.ofString "hi", .int c.2.2.1 c.2.2.2)]) [Str.ofString "mid"] (fun c => 0 ≤ c.1 ∧ c.1 ≤ c.2.2.1 ∧ c.2.2.1 ≤ ns.length ∧ (∀ i : Nat, (i : Int) < c.1 → ns.getD i 0 < x) ∧ (∀ i : Nat, c.2.2.1 ≤ (i : Int) → i < ns.length → x ≤ ns.getD i 0)) (fun c => (c.2.2.1 - c.1).toNat) (_, _, _, _) lF' lN' ?kk ?kp ?_ ?kE
  case kk => kst_all
  case kp => (dsimp only; refine ⟨?_, ?_, ?_, ?_, ?_⟩ <;> first | omega | (intro i hi; omega))
  case kE => first | passes_own | with_unfolding_all passes_own
  clear lF' lN'
  intro c9 u9 h9 tk9 kInv kFr kNews
  obtain ⟨lo, tlo, hj, thi⟩ := c9
  dsimp only at kInv
  obtain ⟨i1, i2, i3, i4, i5⟩ := kInv
  (try k_fold)
  k_steps
  · have e : (lo + hj).fdiv 2 = (lo + hj) / 2 := Int.fdiv_eq_ediv_of_nonneg _ (by omega)
    have q : ns.getD ((lo + hj).fdiv 2).toNat 0 < x := by assumption
    refine ⟨((lo + hj).fdiv 2 + 1, _, hj, _), _, _, _, rfl, by k_asm, by k_asm, by kst_all, by ksw_same, ?_, ?_⟩
    · refine ⟨by dsimp only; omega, by dsimp only; omega, i3, fun i hi1 => ?_, i5⟩
      have := le_getD hs (i := i) (j := ((lo + hj).fdiv 2).toNat) (by dsimp only at hi1; omega) (by omega)
      omega
    · dsimp only; omega
  · have e : (lo + hj).fdiv 2 = (lo + hj) / 2 := Int.fdiv_eq_ediv_of_nonneg _ (by omega)
    have q : ¬ ns.getD ((lo + hj).fdiv 2).toNat 0 < x := by assumption
    refine ⟨(lo, tlo, (lo + hj).fdiv 2, _), _, _, _, rfl, by k_asm, by k_asm, by kst_all, by ksw_same, ?_, ?_⟩
    · refine ⟨i1, by dsimp only; omega, by dsimp only; omega, i4, fun i hi1 hi2 => ?_⟩
      have := le_getD hs (i := ((lo + hj).fdiv 2).toNat) (j := i) (by dsimp only at hi1; omega) hi2
      omega
    · dsimp only; omega
  · have q : ¬ lo < hj := by assumption
    have e := left_cut i1 (by omega) i4 (fun i h1 h2 => i5 i (by omega) h2)
    rw [e]
    exact hret _ _ _ (by k_asm) (by k_asm)
end
end Mine

namespace Mine
section
variable {w : World} {p : Program} {loose : List Str} {mean : ExcName → Option Value} {mg mb : Str → Option Value} {dp un : Nat} {gd : Option (List Code)} {cn : Str} {cs : Scope} {a : Addr} {ccd : Value} {cl : List (Str × Addr)} {outer : List Env} {A₀ : Around} {base h₀ : Heap} {L : Addr} {m : Str → Option Value} {news rest : List (Addr × Obj)} {s : Shared}
  {l : Addr} {vs : List Value} {ns : List Int} {c : Nat} {x : Int} {t : Tok} {more : List Value} {Q E : Value → Shared → Prop}
theorem insR (B : Below A₀ base outer h₀) (F : Fr h₀ L s.heap m) (X : (hd.heap_39 w.params).In h₀) (N : News h₀ L s.heap ((l, listOf vs.toArray c) :: rest)) (T : Top p loose mean mg mb h₀) (hk : cs.kind = .function)
    (hr : ∀ p ∈ rest, p.1 ≠ l) (hi : IntsAre vs ns) (hs : ns.Pairwise (· ≤ ·)) (hl : ns.length < 100) (hdp : dp + 2 < recursionLimit)
    (hret : ∀ vs' ns' c' h' tk', Fr h₀ L h' m → News h₀ L h' ((l, listOf vs'.toArray c') :: rest) → IntsAre vs' ns' → ns'.Pairwise (· ≤ ·) → ns'.Perm (x :: ns) → Q .none { s with heap := h', toks := tk' }) :
    wpAny (model PySem.Challenge.rw_xc0019_01.row.prog w) (ktrTop dp un gd cn cs L a ccd cl outer) (call (.ref 58) [.ref l, .int x t]) Q E s := by
  w_top off
  revert X
  k_fill
  intro X
  refine wpAny_call ?_
  k_dflt ktr_enter
  k_steps
  k_dflt (refine' bisR ?k1 ?k2 ?k3 ?k4 ?k5 ?k6 ?k7 hi hs hl ?k11 ?k13 ?_)
  case k1 => k_asm
  case k2 => k_asm
  case k3 => k_asm
  case k4 => k_asm
  case k5 => k_asm
  case k6 => rfl
  case k7 => exact List.mem_cons_self
  case k11 => show dp + 1 + 1 < recursionLimit; omega
  case k13 => exact .inr ⟨_, rfl⟩
  intro t9 h9 tk9 F9 N9
  (try dsimp only)
  (try k_fold)
  k_steps
  k_dflt (refine' insert_ints ?k1 ?k2 hr hi ?k3 ?k4 hl ?_)
  case k1 => k_asm
  case k2 => k_asm
  case k3 => omega
  case k4 => have := List.countP_le_length (p := fun a => decide (a ≤ x)) (l := ns); omega
  intro h9 vs9 F9 N9 I9
  (try dsimp only)
  (try k_fold)
  k_steps
  exact hret _ _ _ _ _ (by k_asm) (by k_asm) I9 (ins_sorted hs) (ins_perm x _)
end
end Mine

namespace Mine
section
variable {w : World} {p : Program} {loose : List Str} {mean : ExcName → Option Value} {mg mb : Str → Option Value} {dp un : Nat} {gd : Option (List Code)} {cn : Str} {cs : Scope} {a : Addr} {ccd : Value} {cl : List (Str × Addr)} {outer : List Env} {A₀ : Around} {base h₀ : Heap} {L : Addr} {m : Str → Option Value} {news rest : List (Addr × Obj)} {s : Shared}
  {l : Addr} {vs : List Value} {ns : List Int} {c : Nat} {x : Int} {t : Tok} {Q E : Value → Shared → Prop}
theorem siftD {q : Nat} {t0 : Tok} (B : Below A₀ base outer h₀) (F : Fr h₀ L s.heap m) (X : (hd.heap_39 w.params).In h₀) (N : News h₀ L s.heap ((l, listOf vs.toArray c) :: rest)) (T : Top p loose mean mg mb h₀) (hk : cs.kind = .function)
    (hr : ∀ p ∈ rest, p.1 ≠ l) (hi : IntsAre vs ns) (hD : Dn ns q) (hl : ns.length < 100) (hdp : dp + 1 < recursionLimit)
    (hret : ∀ vs' ns' c' h' tk', Fr h₀ L h' m → News h₀ L h' ((l, listOf vs'.toArray c') :: rest) → IntsAre vs' ns' → Hp ns' → ns'.Perm ns → Q .none { s with heap := h', toks := tk' }) :
    wpAny (model PySem.Challenge.rw_xc0019_01.row.prog w) (ktrTop dp un gd cn cs L a ccd cl outer) (call (.ref 42) [.ref l, .int 0 t0, .int (q : Int) t]) Q E s := by
  w_top off
  revert X
  k_fill
  intro X
  have hq := hD.1
  refine wpAny_call ?_
  k_dflt ktr_enter
  k_steps
  (rename Fr _ _ _ _ => lF'); (rename News _ _ _ _ => lN')
  refine' wh_while (σ := List Value × List Int × Nat × Nat × Tok) (fun c => (l, listOf c.1.toArray c.2.2.1) :: rest) (fun c => [(Str.ofString "pos", .int ((c.2.2.2.1 : Nat) : Int) c.2.2.2.2)]) [Str.ofString "parentpos", Str.ofString "parent"]
    (fun c => IntsAre c.1 c.2.1 ∧ c.2.1.length = ns.length ∧ (c.2.1.set c.2.2.2.1 (ns.getD (q : Int).toNat 0)).Perm ns ∧ Dn (c.2.1.set c.2.2.2.1 (ns.getD (q : Int).toNat 0)) c.2.2.2.1) (fun c => c.2.2.2.1) (vs, ns, c, q, _) lF' lN' ?kk ?kp ?_ ?kE
  case kk => kst_all
  case kp => (dsimp only; rw [Int.toNat_natCast, set_getD]; exact ⟨hi, rfl, .refl _, hD⟩)
  case kE => first | passes_own | with_unfolding_all passes_own
  clear lF' lN'
  intro c9 u9 h9 tk9 kInv kFr kNews
  obtain ⟨us, cs, cc, j, tj⟩ := c9
  dsimp only at kInv kFr kNews
  obtain ⟨i1, i2, i3, i4⟩ := kInv
  have hj : j < cs.length := by have := i4.1; rwa [List.length_set] at this
  (try k_fold)
  k_steps
  · have j0 : (0 : Int) < (j : Int) := by assumption
    have e : ((j : Int) - 1).fdiv (2 ^ Int.toNat 1) = (((j - 1) / 2 : Nat) : Int) := by
      have e2 : (2 : Int) ^ Int.toNat 1 = 2 := rfl
      rw [e2, Int.fdiv_eq_ediv_of_nonneg _ (by omega)]
      omega
    rename Fr _ _ _ _ => fF
    rw [e] at fF ⊢
    k_steps
    · have hlt : ns.getD (q : Int).toNat 0 < cs.getD (((j - 1) / 2 : Nat) : Int).toNat 0 := by assumption
      rw [Int.toNat_natCast ((j - 1) / 2)] at hlt
      have g1 : (cs.set j (ns.getD (q : Int).toNat 0)).getD j 0 = ns.getD (q : Int).toNat 0 := getD_set_self hj
      have g2 : (cs.set j (ns.getD (q : Int).toNat 0)).getD ((j - 1) / 2) 0 = cs.getD ((j - 1) / 2) 0 := getD_set_ne (by omega)
      refine ⟨(_, cs.set j (cs.getD ((j - 1) / 2) 0), _, (j - 1) / 2, _), _, _, _, rfl, by k_asm, by k_asm, by kst_all, by ksw_same, ?_, ?_⟩
      · dsimp only
        have vs1 := virt_swap (x := ns.getD (q : Int).toNat 0) hj (q := (j - 1) / 2) (by omega)
        refine ⟨by assumption, by rw [List.length_set]; exact i2, ?_, ?_⟩
        · refine List.Perm.trans ?_ i3
          refine (List.Perm.of_eq vs1).trans (swap_perm (by rw [List.length_set]; exact hj) (by rw [List.length_set]; omega))
        · refine Eq.mpr (congrArg (fun z => Dn z ((j - 1) / 2)) vs1) ?_
          exact dn_step i4 (by omega) (by rw [g1, g2]; exact hlt)
      · dsimp only; omega
    · have hlt : ¬ ns.getD (q : Int).toNat 0 < cs.getD (((j - 1) / 2 : Nat) : Int).toNat 0 := by assumption
      rw [Int.toNat_natCast ((j - 1) / 2)] at hlt
      have g1 : (cs.set j (ns.getD (q : Int).toNat 0)).getD j 0 = ns.getD (q : Int).toNat 0 := getD_set_self hj
      have g2 : (cs.set j (ns.getD (q : Int).toNat 0)).getD ((j - 1) / 2) 0 = cs.getD ((j - 1) / 2) 0 := getD_set_ne (by omega)
      exact hret _ _ _ _ _ (by k_asm) (by k_asm) (by assumption) (dn_done i4 (.inr (by rw [g1, g2]; exact hlt))) i3
  · have j0 : ¬ (0 : Int) < (j : Int) := by assumption
    exact hret _ _ _ _ _ (by k_asm) (by k_asm) (by assumption) (dn_done i4 (.inl (by omega))) i3
end
end Mine

namespace Mine
theorem up_go {ns cs : List Int} {x : Int} {j K : Nat} (hj : j < cs.length) (i3 : (cs.set j x).Perm ns) (i4 : Up (cs.set j x) j) (hK : K < cs.length) (hp : (K - 1) / 2 = j) (k0 : 0 < K)
    (hmin : ∀ i, 0 < i → i < cs.length → (i - 1) / 2 = j → cs.getD K 0 ≤ cs.getD i 0) :
    ((cs.set j (cs.getD K 0)).set K x).Perm ns ∧ Up ((cs.set j (cs.getD K 0)).set K x) K := by
  have hne : K ≠ j := by omega
  have vs1 := virt_swap (x := x) hj hne
  rw [vs1]
  refine ⟨(swap_perm (by rw [List.length_set]; exact hj) (by rw [List.length_set]; exact hK)).trans i3, up_step i4 (by rw [List.length_set]; exact hK) hp k0 fun i i0 il hi => ?_⟩
  rw [List.length_set] at il
  rw [getD_set_ne hne, getD_set_ne (by omega)]
  exact hmin i i0 il hi
section
variable {w : World} {p : Program} {loose : List Str} {mean : ExcName → Option Value} {mg mb : Str → Option Value} {dp un : Nat} {gd : Option (List Code)} {cn : Str} {cs : Scope} {a : Addr} {ccd : Value} {cl : List (Str × Addr)} {outer : List Env} {A₀ : Around} {base h₀ : Heap} {L : Addr} {m : Str → Option Value} {news rest : List (Addr × Obj)} {s : Shared}
  {l : Addr} {vs : List Value} {ns : List Int} {c : Nat} {x : Int} {t : Tok} {Q E : Value → Shared → Prop}
theorem siftU {t0 : Tok} (B : Below A₀ base outer h₀) (F : Fr h₀ L s.heap m) (X : (hd.heap_39 w.params).In h₀) (N : News h₀ L s.heap ((l, listOf vs.toArray c) :: rest)) (T : Top p loose mean mg mb h₀) (hk : cs.kind = .function)
    (hr : ∀ p ∈ rest, p.1 ≠ l) (hi : IntsAre vs ns) (hU : Up ns 0) (hl : ns.length < 100) (hdp : dp + 2 < recursionLimit)
    (hret : ∀ vs' ns' c' h' tk', Fr h₀ L h' m → News h₀ L h' ((l, listOf vs'.toArray c') :: rest) → IntsAre vs' ns' → Hp ns' → ns'.Perm ns → Q .none { s with heap := h', toks := tk' }) :
    wpAny (model PySem.Challenge.rw_xc0019_01.row.prog w) (ktrTop dp un gd cn cs L a ccd cl outer) (call (.ref 49) [.ref l, .int 0 t0]) Q E s := by
  w_top off
  revert X
  k_fill
  intro X
  have hq := hU.1
  refine wpAny_call ?_
  k_dflt ktr_enter
  k_steps
  (rename Fr _ _ _ _ => lF'); (rename News _ _ _ _ => lN')
  refine' wh_while (σ := List Value × List Int × Nat × Nat × Tok × Tok) (fun c => (l, listOf c.1.toArray c.2.2.1) :: rest) (fun c => [(Str.ofString "pos", .int ((c.2.2.2.1 : Nat) : Int) c.2.2.2.2.1), (Str.ofString "childpos", .int (2 * ((c.2.2.2.1 : Nat) : Int) + 1) c.2.2.2.2.2)]) [Str.ofString "rightpos"]
    (fun c => IntsAre c.1 c.2.1 ∧ c.2.1.length = ns.length ∧ (c.2.1.set c.2.2.2.1 (ns.getD (Int.toNat 0) 0)).Perm ns ∧ Up (c.2.1.set c.2.2.2.1 (ns.getD (Int.toNat 0) 0)) c.2.2.2.1) (fun c => ns.length - c.2.2.2.1) (vs, ns, c, 0, _, _) lF' lN' ?kk ?kp ?_ ?kE
  case kk => kst_all
  case kp => (dsimp only; rw [show Int.toNat 0 = 0 from rfl, set_getD]; exact ⟨hi, rfl, .refl _, hU⟩)
  case kE => first | passes_own | with_unfolding_all passes_own
  clear lF' lN'
  intro c9 u9 h9 tk9 kInv kFr kNews
  obtain ⟨us, cs, cc, j, tj, tc⟩ := c9
  dsimp only at kInv kFr kNews
  obtain ⟨i1, i2, i3, i4⟩ := kInv
  have hj : j < cs.length := by have := i4.1; rwa [List.length_set] at this
  (try k_fold)
  k_steps
  · have a1 : 2 * (j : Int) + 1 + 1 < (ns.length : Int) := by assumption
    have a2 : cs.getD (2 * (j : Int) + 1).toNat 0 < cs.getD (2 * (j : Int) + 1 + 1).toNat 0 := by assumption
    have e1 : 2 * (j : Int) + 1 = ((2 * j + 1 : Nat) : Int) := by omega
    have e2 : ((2 * j + 1 : Nat) : Int) + 1 = ((2 * j + 2 : Nat) : Int) := by omega
    rename Fr _ _ _ _ => fF
    rename IntsAre _ _ => fI
    simp only [e1, e2, Int.toNat_natCast] at fF fI a2
    obtain ⟨g1, g2⟩ := up_go (K := 2 * j + 1) hj i3 i4 (by omega) (by omega) (by omega) (fun i i0 il hi => by
      rcases (by omega : i = 2 * j + 1 ∨ i = 2 * j + 2) with rfl | rfl
      · exact Int.le_refl _
      · omega)
    refine ⟨(_, cs.set j (cs.getD (2 * j + 1) 0), _, 2 * j + 1, _, _), _, _, _, rfl, by k_asm, by k_asm, by kst_all, by ksw_same, ⟨by assumption, by rw [List.length_set]; exact i2, g1, g2⟩, ?_⟩
    dsimp only; omega
  · have a1 : 2 * (j : Int) + 1 + 1 < (ns.length : Int) := by assumption
    have a2 : ¬ cs.getD (2 * (j : Int) + 1).toNat 0 < cs.getD (2 * (j : Int) + 1 + 1).toNat 0 := by assumption
    have e1 : 2 * (j : Int) + 1 = ((2 * j + 1 : Nat) : Int) := by omega
    have e2 : ((2 * j + 1 : Nat) : Int) + 1 = ((2 * j + 2 : Nat) : Int) := by omega
    rename Fr _ _ _ _ => fF
    rename IntsAre _ _ => fI
    simp only [e1, e2, Int.toNat_natCast] at fF fI a2
    obtain ⟨g1, g2⟩ := up_go (K := 2 * j + 2) hj i3 i4 (by omega) (by omega) (by omega) (fun i i0 il hi => by
      rcases (by omega : i = 2 * j + 1 ∨ i = 2 * j + 2) with rfl | rfl
      · omega
      · exact Int.le_refl _)
    refine ⟨(_, cs.set j (cs.getD (2 * j + 2) 0), _, 2 * j + 2, _, _), _, _, _, rfl, by k_asm, by k_asm, by kst_all, by ksw_same, ⟨by assumption, by rw [List.length_set]; exact i2, g1, g2⟩, ?_⟩
    dsimp only; omega
  · have a0 : 2 * (j : Int) + 1 < (ns.length : Int) := by assumption
    have a1 : ¬ 2 * (j : Int) + 1 + 1 < (ns.length : Int) := by assumption
    have e1 : 2 * (j : Int) + 1 = ((2 * j + 1 : Nat) : Int) := by omega
    have e2 : ((2 * j + 1 : Nat) : Int) + 1 = ((2 * j + 2 : Nat) : Int) := by omega
    rename Fr _ _ _ _ => fF
    rename IntsAre _ _ => fI
    simp only [e1, e2, Int.toNat_natCast] at fF fI
    obtain ⟨g1, g2⟩ := up_go (K := 2 * j + 1) hj i3 i4 (by omega) (by omega) (by omega) (fun i i0 il hi => by
      obtain rfl : i = 2 * j + 1 := by omega
      exact Int.le_refl _)
    refine ⟨(_, cs.set j (cs.getD (2 * j + 1) 0), _, 2 * j + 1, _, _), _, _, _, rfl, by k_asm, by k_asm, by kst_all, by ksw_same, ⟨by assumption, by rw [List.length_set]; exact i2, g1, g2⟩, ?_⟩
    dsimp only; omega
  · have a0 : ¬ 2 * (j : Int) + 1 < (ns.length : Int) := by assumption
    have hlen : (cs.set j (ns.getD (Int.toNat 0) 0)).length = ns.length := by rw [List.length_set]; exact i2
    k_dflt (refine' siftD (q := j) (ns := cs.set j (ns.getD (Int.toNat 0) 0)) ?k1 ?k2 ?k3 ?k4 ?k5 ?k6 hr ?k7 ?k8 ?k9 ?k11 ?_)
    case k1 => k_asm
    case k2 => k_asm
    case k3 => k_asm
    case k4 => k_asm
    case k5 => k_asm
    case k6 => rfl
    case k7 => assumption
    case k8 => exact up_done i4 (by omega)
    case k9 => omega
    case k11 => show dp + 1 + 1 < recursionLimit; omega
    intro vs9 ns9 c9 h9 tk9 F9 N9 I9 H9 P9
    (try dsimp only)
    (try k_fold)
    k_steps
    exact hret _ _ _ _ _ (by k_asm) (by k_asm) I9 H9 (P9.trans i3)
end
end Mine

namespace Mine
section
variable {w : World} {p : Program} {loose : List Str} {mean : ExcName → Option Value} {mg mb : Str → Option Value} {dp un : Nat} {gd : Option (List Code)} {cn : Str} {cs : Scope} {a : Addr} {ccd : Value} {cl : List (Str × Addr)} {outer : List Env} {A₀ : Around} {base h₀ : Heap} {L : Addr} {m : Str → Option Value} {news rest : List (Addr × Obj)} {s : Shared}
  {l : Addr} {vs : List Value} {ns : List Int} {c : Nat} {x : Int} {t : Tok} {Q E : Value → Shared → Prop}
theorem news_swap {h : Heap} {y z : Addr × Obj} {r : List (Addr × Obj)} (N : News h₀ L h (y :: z :: r)) : News h₀ L h (z :: y :: r) := fun p hp => N p (by
  rcases List.mem_cons.mp hp with rfl | hp
  · exact .tail _ (.head _)
  · rcases List.mem_cons.mp hp with rfl | hp
    · exact .head _
    · exact .tail _ (.tail _ hp))
theorem news_drop2 {h : Heap} {y z : Addr × Obj} {r : List (Addr × Obj)} (N : News h₀ L h (y :: z :: r)) : News h₀ L h (y :: r) := fun p hp => N p (by
  rcases List.mem_cons.mp hp with rfl | hp
  · exact .head _
  · exact .tail _ (.tail _ hp))

theorem pop_one {ns : List Int} (h : 0 < ns.length) (h2 : ¬ 0 < ns.dropLast.length) : ns.dropLast = [] ∧ [ns.getLastD 0] = ns := by
  rw [List.length_dropLast] at h2
  match ns, h, h2 with
  | [y], _, _ => exact ⟨rfl, rfl⟩
  | _ :: _ :: _, _, h2 => simp at h2

theorem hpush (B : Below A₀ base outer h₀) (F : Fr h₀ L s.heap m) (X : (hd.heap_39 w.params).In h₀) (N : News h₀ L s.heap ((l, listOf vs.toArray c) :: rest)) (T : Top p loose mean mg mb h₀) (hk : cs.kind = .function)
    (hr : ∀ p ∈ rest, p.1 ≠ l) (hi : IntsAre vs ns) (hH : Hp ns) (hl : ns.length < 90) (hdp : dp + 2 < recursionLimit)
    (hret : ∀ vs' ns' c' h' tk', Fr h₀ L h' m → News h₀ L h' ((l, listOf vs'.toArray c') :: rest) → IntsAre vs' ns' → Hp ns' → ns'.Perm (x :: ns) → Q .none { s with heap := h', toks := tk' }) :
    wpAny (model PySem.Challenge.rw_xc0019_01.row.prog w) (ktrTop dp un gd cn cs L a ccd cl outer) (call (.ref 21) [.ref l, .int x t]) Q E s := by
  w_top off
  revert X
  k_fill
  intro X
  have hvl := hi.length
  refine wpAny_call ?_
  k_dflt ktr_enter
  k_steps
  have e : ((ns.length + 1 : Nat) : Int) - 1 = ((ns.length : Nat) : Int) := by omega
  rw [e]
  rename News _ _ _ _ => fN
  k_dflt (refine' siftD (q := ns.length) (ns := ns ++ [x]) ?k1 ?k2 ?k3 fN ?k5 ?k6 hr ?k7 ?k8 ?k9 ?k11 ?_)
  case k1 => k_asm
  case k2 => k_asm
  case k3 => k_asm
  case k5 => k_asm
  case k6 => rfl
  case k7 => exact hi.append (.cons x t .nil)
  case k8 => exact hp_push hH
  case k9 => rw [List.length_append]; simp; omega
  case k11 => show dp + 1 + 1 < recursionLimit; omega
  intro vs9 ns9 c9 h9 tk9 F9 N9 I9 H9 P9
  (try dsimp only)
  (try k_fold)
  k_steps
  exact hret _ _ _ _ _ (by k_asm) (by k_asm) I9 H9 (P9.trans (List.perm_append_singleton x ns))

theorem hpushpop (B : Below A₀ base outer h₀) (F : Fr h₀ L s.heap m) (X : (hd.heap_39 w.params).In h₀) (N : News h₀ L s.heap ((l, listOf vs.toArray c) :: rest)) (T : Top p loose mean mg mb h₀) (hk : cs.kind = .function)
    (hr : ∀ p ∈ rest, p.1 ≠ l) (hi : IntsAre vs ns) (hH : Hp ns) (hl : ns.length < 90) (hdp : dp + 3 < recursionLimit)
    (hret : ∀ vs' ns' c' h' tk' y u, Fr h₀ L h' m → News h₀ L h' ((l, listOf vs'.toArray c') :: rest) → IntsAre vs' ns' → Hp ns' → (y :: ns').Perm (x :: ns) → (∀ z ∈ ns', y ≤ z) → Q (.int y u) { s with heap := h', toks := tk' }) :
    wpAny (model PySem.Challenge.rw_xc0019_01.row.prog w) (ktrTop dp un gd cn cs L a ccd cl outer) (call (.ref 35) [.ref l, .int x t]) Q E s := by
  w_top off
  revert X
  k_fill
  intro X
  have hvl := hi.length
  refine wpAny_call ?_
  k_dflt ktr_enter
  k_steps
  · have a0 : 0 < ns.length := by assumption
    have a1 : ns.getD (Int.toNat 0) 0 < x := by assumption
    rename News _ _ _ _ => fN
    rename _ ∧ AllLt _ rest => fl
    k_dflt (refine' siftU (ns := ns.set (Int.toNat 0) x) ?k1 ?k2 ?k3 (news_swap fN) ?k5 ?k6 ?kr ?k7 ?k8 ?k9 ?k11 ?_)
    case k1 => k_asm
    case k2 => k_asm
    case k3 => k_asm
    case k5 => k_asm
    case k6 => rfl
    case kr => exact List.forall_mem_cons.mpr ⟨Nat.ne_of_gt fl.1, hr⟩
    case k7 => assumption
    case k8 => exact hp_root_out hH a0
    case k9 => rw [List.length_set]; omega
    case k11 => show dp + 1 + 2 < recursionLimit; omega
    intro vs9 ns9 c9 h9 tk9 F9 N9 I9 H9 P9
    replace N9 := news_drop2 N9
    (try dsimp only)
    (try k_fold)
    k_steps
    obtain ⟨g1, g2⟩ := pushpop_out hH a0 a1 P9
    exact hret _ _ _ _ _ _ _ (by k_asm) (by k_asm) I9 H9 g1 g2
  · have a1 : ¬ ns.getD (Int.toNat 0) 0 < x := by assumption
    exact hret _ _ _ _ _ _ _ (by k_asm) (by k_asm) hi hH (.refl _) fun z hz => Int.le_trans (Int.not_lt.mp a1) (hp_min hH hz)
  · have a0 : ¬ 0 < ns.length := by assumption
    have e : ns = [] := List.length_eq_zero_iff.mp (by omega)
    exact hret _ _ _ _ _ _ _ (by k_asm) (by k_asm) hi hH (.refl _) fun z hz => by rw [e] at hz; cases hz

theorem hpop (B : Below A₀ base outer h₀) (F : Fr h₀ L s.heap m) (X : (hd.heap_39 w.params).In h₀) (N : News h₀ L s.heap ((l, listOf vs.toArray c) :: rest)) (T : Top p loose mean mg mb h₀) (hk : cs.kind = .function)
    (hr : ∀ p ∈ rest, p.1 ≠ l) (hi : IntsAre vs ns) (hH : Hp ns) (hne : 0 < ns.length) (hl : ns.length < 90) (hdp : dp + 3 < recursionLimit)
    (hret : ∀ vs' ns' c' h' tk' y u, Fr h₀ L h' m → News h₀ L h' ((l, listOf vs'.toArray c') :: rest) → IntsAre vs' ns' → Hp ns' → (y :: ns').Perm ns → (∀ z ∈ ns', y ≤ z) → Q (.int y u) { s with heap := h', toks := tk' }) :
    wpAny (model PySem.Challenge.rw_xc0019_01.row.prog w) (ktrTop dp un gd cn cs L a ccd cl outer) (call (.ref 28) [.ref l]) Q E s := by
  w_top off
  revert X
  k_fill
  intro X
  have hvl := hi.length
  refine wpAny_call ?_
  k_dflt ktr_enter
  k_steps
  k_dflt (refine' truth_ints (ns := ns.dropLast) ?k1 (.head _) ?k2 ?k3 ?_)
  case k1 => k_asm
  case k2 => assumption
  case k3 => rw [List.length_dropLast]; omega
  (try dsimp only)
  (try k_fold)
  have hdl : ns.dropLast.length = ns.length - 1 := List.length_dropLast
  k_steps
  · have a0 : 0 < ns.dropLast.length := by assumption
    k_dflt (refine' siftU (ns := ns.dropLast.set (Int.toNat 0) (ns.getLastD 0)) ?k1 ?k2 ?k3 ?k4 ?k5 ?k6 hr ?k7 ?k8 ?k9 ?k11 ?_)
    case k1 => k_asm
    case k2 => k_asm
    case k3 => k_asm
    case k4 => k_asm
    case k5 => k_asm
    case k6 => rfl
    case k7 => assumption
    case k8 => exact hp_root_out (hp_dropLast hH) a0
    case k9 => rw [List.length_set]; omega
    case k11 => show dp + 1 + 2 < recursionLimit; omega
    intro vs9 ns9 c9 h9 tk9 F9 N9 I9 H9 P9
    (try dsimp only)
    (try k_fold)
    k_steps
    obtain ⟨g1, g2⟩ := pop_out hH a0 P9
    exact hret _ _ _ _ _ _ _ (by k_asm) (by k_asm) I9 H9 g1 g2
  · have a0 : ¬ 0 < ns.dropLast.length := by assumption
    obtain ⟨g1, g2⟩ := pop_one hne a0
    refine hret _ ns.dropLast _ _ _ _ _ (by k_asm) (by k_asm) (by assumption) (hp_dropLast hH) ?_ ?_
    · rw [g1]; exact List.Perm.of_eq g2
    · intro z hz; rw [g1] at hz; cases hz
end
end Mine

namespace Mine
def MidEnd {σ : Type} (h₀ : Heap) (L : Addr) (m : Str → Option Value) (s : Shared) (Led : σ → List (Addr × Obj)) (P : σ → Prop) (f : Flow) (s' : Shared) : Prop :=
  f = .next ∧ ∃ x h' tk', s' = { s with heap := h', toks := tk' } ∧ Fr h₀ L h' m ∧ News h₀ L h' (Led x) ∧ P x
theorem mid_join {prog : Program} {w : World} {A : Around} {E : Value → Shared → Prop} {Q : Flow → Shared → Prop} {s : Shared} {env : Env} {h₀ : Heap} {L : Addr} {m : Str → Option Value} {st : Stmt}
    {σ : Type} (_F : Fr h₀ L s.heap m) (Led : σ → List (Addr × Obj)) (P : σ → Prop) (h1 : wpAny (model prog w) A (exec st env) (MidEnd h₀ L m s Led P) E s)
    (h2 : ∀ x h' tk', Fr h₀ L h' m → News h₀ L h' (Led x) → P x → Q .next { s with heap := h', toks := tk' }) : wpAny (model prog w) A (exec st env) Q E s :=
  wpAny_mono h1 (fun f s' p => by
    obtain ⟨rfl, x, h', tk', rfl, F', N', r⟩ := p
    exact h2 x h' tk' F' N' r) fun _ _ x => x
end Mine

namespace Mine
theorem off3_map {I C D : Addr} {l l' : List (Addr × Obj)} (h : LCg.Off3 I C D l) (e : l'.map (·.1) = l.map (·.1)) : LCg.Off3 I C D l' := LCg.Off3.of fun p hp => by
  have h1 : p.1 ∈ l.map (·.1) := e ▸ List.mem_map.mpr ⟨p, hp, rfl⟩
  obtain ⟨q, hq, e2⟩ := List.mem_map.mp h1
  have := h.mem q hq
  rwa [e2] at this
def CoEnd {σ : Type} (h₀ : Heap) (L : Addr) (m : Str → Option Value) (s : Shared) (I C D : Addr) (oI oC oD : Obj) (Led : σ → List (Addr × Obj)) (P : Value → σ → Prop) (y : Value) (s₂ : Shared) : Prop :=
  ∃ st h' tk', s₂ = { s with heap := h', toks := tk' } ∧ Fr h₀ L h' m ∧ News h₀ L h' ((I, oI) :: (C, oC) :: (D, oD) :: Led st) ∧ P y st
theorem comp_state {prog : Program} {w : World} {A : Around} {h₀ : Heap} {L : Addr} {m : Str → Option Value} {env : Env} {elt : PySem.Expr} {x : Str} {scope : Scope} {cl : List (Str × Addr)} {s : Shared} {P : Nat → Value → Prop} {Fin : List Value → List (Addr × Obj) → Prop}
    {σ : Type} (Led : σ → List (Addr × Obj)) (adr : List Addr) (hadr : ∀ st, (Led st).map (·.1) = adr) (J : Nat → List Value → σ → Prop) (n : Nat)
    (turn : ∀ i ys st v I oI C oC D m₂ h tk (E' : Value → Shared → Prop), i < n → J i ys st → P i v → LCg.NsObj oC m₂ → m₂ x = some v → Fr h₀ L h m → News h₀ L h ((I, oI) :: (C, oC) :: (D, LCg.lst ys) :: Led st) → LCg.Off3 I C D (Led st) → ((@Ne Nat I C) ∧ (@Ne Nat I D) ∧ (@Ne Nat C D)) →
      wpAny (model prog w) A (eval elt (compEnvC scope cl C env)) (CoEnd h₀ L m s I C D oI oC (LCg.lst ys) Led (fun y st' => J (i + 1) (ys ++ [y]) st')) E' { s with heap := h, toks := tk })
    (fin : ∀ ys st, J n ys st → Fin ys (Led st)) :
    ∀ k i ys st, i + k = n → J i ys st → LCg.CompRest prog w A h₀ L m env elt x scope cl s (fun _ => True) P Fin k i ys (Led st) := by
  intro k
  induction k with
  | zero =>
    intro i ys st e hJ
    obtain rfl : i = n := by omega
    exact LCg.CompRest.zero (fin ys st hJ)
  | succ k ih =>
    intro i ys st e hJ
    refine LCg.CompRest.succ fun v I oI C oC D m₂ h tk E' hv hC hx F N off ne => ?_
    refine wpAny_mono (turn i ys st v I oI C oC D m₂ h tk E' (by omega) hJ hv hC hx F N off ne) (fun y s₂ q => ?_) fun _ _ x => x
    obtain ⟨st', h', tk', rfl, F', N', hJ'⟩ := q
    exact ⟨h', tk', Led st', rfl, F', N', off3_map off (by rw [hadr, hadr]), trivial, ih (i + 1) _ st' (by omega) hJ'⟩
end Mine

namespace Mine
theorem foldl_filter (n : Int) : ∀ (rs l : List Int), rs.foldl (fun (l : List Int) (k : Int) => if k < n then l ++ [k] else l) l = l ++ rs.filter (fun k => decide (k < n))
  | [], l => by simp
  | a :: r, l => by
    rw [List.foldl_cons, foldl_filter n r]
    by_cases h : a < n <;> simp [h]
theorem law_walk : PySem.Challenge.rw_xc0019_01.Holds := by
  refine hd ?_
  w_strict (k_go0; (all_goals try k_fold); k_steps)
  refine for_open ?_
  k_steps
  rename_i ww s0 s1 mg mb Gd Yk fa o0 pm0 doc0 ho0 hg0 KX XX Vl GL Tp Bt TE TW w11 w10 Mm cdA x1 hcd ns y4 y5 hLay y7 y8 y9 y10 lS vS y14 hLS y16 y17 y18 hIS y20 h63 y22 K0 y24 y25 y26 oN y28 dN y30 y31 D0 y33 y34 hI1 y36 y37 y38 y39 y40 y41 y42 y43 lH y45 l1a y47 oH dH y50 lR y52 l1b y54 lG y56 l1c hF fF fN
  replace K0 : Below callerA s1.heap [] s1.heap := K0
  have hM1 : 1 ≤ 1 + (List.take 1 ns).sum.fmod 6 := by have := Int.fmod_nonneg_of_pos (List.take 1 ns).sum (b := 6) (by decide); omega
  have hM2 : 1 + (List.take 1 ns).sum.fmod 6 ≤ 6 := by have := Int.fmod_lt_of_pos (List.take 1 ns).sum (b := 6) (by decide); omega
  generalize hM : 1 + (List.take 1 ns).sum.fmod 6 = M at *
  refine' for_cell (σ := (List Value × List Int × Nat) × (List Value × List Int × Nat) × (List Value × List Int × Nat))
    (fun st => [(lG, listOf st.2.2.1.toArray st.2.2.2.2), (lR, listOf st.2.1.1.toArray st.2.1.2.2), (lH, listOf st.1.1.toArray st.1.2.2), (s1.heap.objs.size + 1, oH)]) (fun _ => []) [Str.ofString "low", Str.ofString "high"]
    (fun pre st => IntsAre st.1.1 st.1.2.1 ∧ IntsAre st.2.1.1 st.2.1.2.1 ∧ IntsAre st.2.2.1 st.2.2.2.1 ∧ Inv M.toNat pre st.1.2.1 st.2.1.2.1 st.2.2.2.1) (([], [], 0), ([], [], 0), ([], [], 0)) rfl hLS hIS rfl rfl rfl fF (kst_newsOf fN (by k_allIn)) dN ?hadr ?hoff ?hps ?hp ?turn ?done ?hE
  case hadr => intro st; rfl
  case hoff => dsimp only; k_all
  case hps => exact List.forall_mem_nil _
  case hp => exact ⟨.nil, .nil, .nil, Inv.start _⟩
  case hE => first | passes_own | with_unfolding_all passes_own
  case done =>
    intro st u h tk oc v hP hoc fr nw
    obtain ⟨⟨us, hs, ch⟩, ⟨ws, rs, cr⟩, gv, gs, cg⟩ := st
    dsimp only at hP fr nw
    obtain ⟨iH, iR, iG, inv⟩ := hP
    clear fF fN
    have hh4 : hs.length ≤ 6 := by have := inv.len; omega
    have hr4 : rs.length ≤ 63 := by have := inv.rowP.length_eq; omega
    have hg4 : rs.length = gs.length + hs.length := inv.rsLen
    (try dsimp only)
    (try k_fold)
    k_steps
    rotate_left
    · exfalso
      rename List.Perm _ gs => pS
      rename ¬ _ = List.take _ rs => q7
      refine q7 ?_
      rw [← inv.cutL pS (by assumption)]
      congr 1
      omega
    · exfalso
      rename List.Perm _ ns => pS
      rename ¬ rs = _ => q7
      exact q7 (ksm_same (inv.rowP.trans pS.symm) inv.row (by assumption))
    k_dflt (refine LCg.Assign_ListComp_U (F₀ := by k_asm) (by rfl) (by with_unfolding_all rfl) (by with_unfolding_all rfl) (by decide) (by rfl) (by decide) (by rfl) (by rfl) (by rfl) ?_)
    k_steps
    k_dflt (refine LCg.CompSrc.range (n := ((hs.length : Int) - 0).toNat) (news := [(s1.heap.objs.size + 1 + 1, oc), (lG, listOf gv.toArray cg), (lR, listOf ws.toArray cr), (lH, listOf us.toArray ch), (s1.heap.objs.size + 1, oH)]) (by rfl) (by k_asm) (kst_newsOf (by k_asm) (by k_allIn)) (by assumption) (small_one (by omega) (by omega) (by omega) (by omega)) (rangeSize_nat _ _) (sizeLine_100 (by omega)) ?_)
    intro g5
    have hn5 : ((hs.length : Int) - 0).toNat = hs.length := by omega
    rw [hn5]
    refine comp_state (σ := List Value × List Int × Nat) (fun st => [(s1.heap.objs.size + 1 + 1, oc), (lG, listOf gv.toArray cg), (lR, listOf ws.toArray cr), (lH, listOf st.1.toArray st.2.2), (s1.heap.objs.size + 1, oH)]) [s1.heap.objs.size + 1 + 1, lG, lR, lH, s1.heap.objs.size + 1] (fun st => rfl)
      (fun i ys st => ∃ out, IntsAre ys out ∧ IntsAre st.1 st.2.1 ∧ Emp hs out st.2.1 ∧ st.2.1.length = hs.length - i) hs.length ?_ ?_ hs.length 0 [] (us, hs, ch) (by omega) ⟨[], .nil, iH, Emp.start inv.heap, rfl⟩
    · rintro i ys ⟨us5, hs5, ch5⟩ v5 I5 oI5 C5 oC5 D5 m5 h5 tk5 E5 hi5 ⟨out, iy5, iu5, em5, hl5⟩ hv5 hC5 hx5 F5 N5 off5 ne5
      dsimp only at N5 off5 iu5 em5 hl5
      simp only [LCg.Off3, and_true] at off5
      (try k_fold)
      k_steps
      k_dflt (refine' hpop (ns := hs5) (vs := us5) (rest := [(I5, oI5), (C5, oC5), (D5, LCg.lst ys), (s1.heap.objs.size + 1 + 1, oc), (lG, listOf gv.toArray cg), (lR, listOf ws.toArray cr), (s1.heap.objs.size + 1, oH)]) ?k1 ?k2 ?k3 (kst_newsOf N5 (by k_allIn)) ?k5 ?k6 ?kr iu5 em5.heap ?kn ?k9 ?k11 ?_)
      case k1 => k_asm
      case k2 => k_asm
      case k3 => k_asm
      case k5 => k_asm
      case k6 => rfl
      case kr => k_all
      case kn => omega
      case k9 => omega
      case k11 => decide
      intro us6 hs6 ch6 h6 tk6 y6 u6 fr6 nw6 iH6 hp6 pp6 lo6
      (try dsimp only)
      (try k_unfold)
      refine ⟨(us6, hs6, ch6), _, _, rfl, by k_asm, kst_newsOf nw6 (by k_allIn), out ++ [y6], iy5.append (.cons y6 u6 .nil), iH6, em5.step hp6 pp6 lo6, ?_⟩
      have := pp6.length_eq
      simp only [List.length_cons] at this
      dsimp only
      omega
    · rintro ys ⟨us5, hs5, ch5⟩ ⟨out, iy5, iu5, em5, hl5⟩
      dsimp only at iu5 em5 hl5 ⊢
      obtain ⟨e5, pO, sO⟩ := em5.done (by omega)
      subst e5
      have e6 := IntsAre.nil_inv iu5
      subst e6
      unfold LCg.FinA
      intro D6 h6 tk6 F6 N6 off6
      replace N6 : News s1.heap s1.heap.objs.size h6 ((D6, listOf ys.toArray ys.length) :: _) := N6
      simp only [LCg.Off1, and_true] at off6
      have hol : out.length = hs.length := pO.length_eq
      dsimp only
      k_steps
      · kc_close
      · exfalso
        rename ¬ out = _ => q7
        exact q7 ((inv.cut pO sO).symm.trans (by congr 1; omega))
  intro st pre n t post u h tk oc I oI e hP hoc hlt fr nw
  obtain ⟨⟨us, hs, ch⟩, ⟨ws, rs, cr⟩, gv, gs, cg⟩ := st
  dsimp only at hP hlt fr nw
  obtain ⟨iH, iR, iG, inv⟩ := hP
  clear fF fN
  replace hlt := allLt_of hlt
  simp only [AllLt, and_true] at hlt
  (try k_fold)
  k_steps
  have hpl : pre.length + 1 ≤ ns.length := by have := congrArg List.length e; simp only [List.length_append, List.length_cons] at this; omega
  have hrl : rs.length = pre.length := inv.rowP.length_eq
  have hhl := inv.len
  have hgl := inv.gsLen
  k_dflt (refine' insR (ns := rs) (vs := ws) (rest := [(I, oI), (s1.heap.objs.size + 1 + 1, oc), (lG, listOf gv.toArray cg), (lH, listOf us.toArray ch), (s1.heap.objs.size + 1, oH)]) ?k1 ?k2 ?k3 (kst_newsOf nw (by k_allIn)) ?k5 ?k6 ?kr iR inv.row ?k9 ?k11 ?_)
  case k1 => k_asm
  case k2 => k_asm
  case k3 => k_asm
  case k5 => k_asm
  case k6 => rfl
  case kr => k_all
  case k9 => omega
  case k11 => decide
  intro ws2 rs2 cr2 h2 tk2 fr2 nw2 iR2 sR2 pR2
  clear fr nw
  have hrl2 : rs2.length = pre.length + 1 := by rw [pR2.length_eq, List.length_cons, hrl]
  (try dsimp only)
  (try k_unfold)
  (try dsimp only)
  refine wpAny_execs_cons ?_
  refine mid_join (σ := (List Value × List Int × Nat) × (List Value × List Int × Nat)) fr2 (fun st => [(I, oI), (s1.heap.objs.size + 1 + 1, oc), (lG, listOf st.2.1.toArray st.2.2.2), (lR, listOf ws2.toArray cr2), (lH, listOf st.1.1.toArray st.1.2.2), (s1.heap.objs.size + 1, oH)])
    (fun st => IntsAre st.1.1 st.1.2.1 ∧ IntsAre st.2.1 st.2.2.1 ∧ Inv M.toNat (pre ++ [n]) st.1.2.1 rs2 st.2.2.1) ?_ ?_
  · k_steps
    · have a0 : (hs.length : Int) < M := by assumption
      k_dflt (refine' hpush (ns := hs) (vs := us) (rest := [(lR, listOf ws2.toArray cr2), (I, oI), (s1.heap.objs.size + 1 + 1, oc), (lG, listOf gv.toArray cg), (s1.heap.objs.size + 1, oH)]) ?k1 ?k2 ?k3 (kst_newsOf (by k_asm) (by k_allIn)) ?k5 ?k6 ?kr iH inv.heap ?k9 ?k11 ?_)
      case k1 => k_asm
      case k2 => k_asm
      case k3 => k_asm
      case k5 => k_asm
      case k6 => rfl
      case kr => k_all
      case k9 => omega
      case k11 => decide
      intro us3 hs3 ch3 h3 tk3 fr3 nw3 iH3 hp3 pp3
      (try dsimp only)
      (try k_fold)
      k_steps
      exact ⟨rfl, ((us3, hs3, ch3), (gv, gs, cg)), _, _, rfl, by k_asm, kst_newsOf nw3 (by k_allIn), iH3, iG, inv.push (by omega) sR2 pR2 hp3 pp3⟩
    · have a0 : ¬ (hs.length : Int) < M := by assumption
      k_dflt (refine' hpushpop (ns := hs) (vs := us) (rest := [(lR, listOf ws2.toArray cr2), (I, oI), (s1.heap.objs.size + 1 + 1, oc), (lG, listOf gv.toArray cg), (s1.heap.objs.size + 1, oH)]) ?k1 ?k2 ?k3 (kst_newsOf (by k_asm) (by k_allIn)) ?k5 ?k6 ?kr iH inv.heap ?k9 ?k11 ?_)
      case k1 => k_asm
      case k2 => k_asm
      case k3 => k_asm
      case k5 => k_asm
      case k6 => rfl
      case kr => k_all
      case k9 => omega
      case k11 => decide
      intro us3 hs3 ch3 h3 tk3 y3 u3 fr3 nw3 iH3 hp3 pp3 lo3
      (try dsimp only)
      (try k_fold)
      k_steps
      rename News _ _ _ _ => nw9
      simp only [List.push_toArray] at nw9
      exact ⟨rfl, ((us3, hs3, ch3), (gv ++ [.int y3 u3], gs ++ [y3], cg + 1)), _, _, rfl, by k_asm, kst_newsOf nw9 (by k_allIn), iH3, iG.append (.cons y3 u3 .nil), inv.pop (by omega) sR2 pR2 hp3 pp3 lo3⟩
  · rintro ⟨⟨us4, hs4, ch4⟩, gv4, gs4, cg4⟩ h4 tk4 fr4 nw4 ⟨iH4, iG4, inv4⟩
    have hh4 : hs4.length ≤ 6 := by have := inv4.len; dsimp only at this; omega
    have hh5 : 0 < hs4.length := by have := inv4.len; simp only [List.length_append, List.length_cons, List.length_nil] at this; omega
    have hr4 : rs2.length ≤ 63 := by omega
    have hg4 : gs4.length ≤ 63 := by have := inv4.rsLen; dsimp only at this; omega
    clear fr2 nw2 inv hrl hhl hgl iH iR iG
    dsimp only at nw4 iH4 iG4 inv4
    (try dsimp only)
    (try k_fold)
    k_steps
    rotate_left
    · exfalso
      rename List.Perm _ hs4 => pS
      rename List.Pairwise _ _ => oS
      rename ¬ _ = List.drop _ rs2 => q7
      refine q7 ?_
      rw [← inv4.cut pS oS]
      congr 1
      have := inv4.most
      split <;> omega
    rename List.Perm _ hs4 => pS
    rename List.Pairwise _ _ => oS
    k_dflt (refine LCt.ListComp_T (F₀ := by k_asm) (by with_unfolding_all rfl) (by decide) (by rfl) (by decide) (by rfl) ?_)
    k_steps
    k_dflt (refine LCt.CompSrcT.ledger (by rfl) (by k_asm) (by k_asm) (by k_mem) (by show gv4.toArray.size ≤ sizeLine; rw [List.size_toArray, iG4.length]; exact sizeLine_100 (by omega)) ?_)
    intro g9
    refine' kci_list (fun l _ => l) iG4 ?_ ?fin ?grow
    case grow => intro l k; exact Nat.le_succ _
    · intro k t9 I9 oI9 C9 oC9 D9 m9 ys9 l9 h9 tk9 E9 hk9 hy9 hC9 hx9 F9 N9 off9 ne9 mk9
      k_steps
      exfalso
      rename _ ∈ hs4 => qm
      have q1 := inv4.low k hk9 _ qm
      omega
    case fin =>
      unfold KPfDone
      intro ys9 iy9 _
      have e9 : gs4.foldl (fun (l : List Int) (_ : Int) => l) [] = [] := by
        generalize gs4 = gg
        induction gg with
        | nil => rfl
        | cons _ _ ih => exact ih
      rw [e9] at iy9
      have e8 := IntsAre.nil_inv iy9
      subst e8
      unfold LCg.FinE
      intro D9 h9 tk9 F9 N9 off9
      simp only [LCg.Off1, and_true] at off9
      dsimp only
      k_steps
      k_dflt (refine' bisL (ns := rs2) (vs := ws2) ?k1 ?k2 ?k3 ?k4 ?k5 ?k6 ?k7 iR2 sR2 ?k9 ?k11 ?_)
      case k1 => k_asm
      case k2 => k_asm
      case k3 => k_asm
      case k4 => k_asm
      case k5 => k_asm
      case k6 => rfl
      case k7 => k_mem
      case k9 => omega
      case k11 => decide
      intro t5 h5 tk5 fr5 nw5
      (try dsimp only)
      (try k_fold)
      k_steps
      k_dflt (refine' bisR (ns := rs2) (vs := ws2) (more := []) ?k1 ?k2 ?k3 ?k4 ?k5 ?k6 ?k7 iR2 sR2 ?k9 ?k11 (.inl rfl) ?_)
      case k1 => k_asm
      case k2 => k_asm
      case k3 => k_asm
      case k4 => k_asm
      case k5 => k_asm
      case k6 => rfl
      case k7 => k_mem
      case k9 => omega
      case k11 => decide
      intro t6 h6 tk6 fr6 nw6
      (try dsimp only)
      (try k_fold)
      k_steps
      k_dflt (refine LCt.ListComp_T (F₀ := by k_asm) (by with_unfolding_all rfl) (by decide) (by rfl) (by decide) (by rfl) ?_)
      k_steps
      k_dflt (refine LCt.CompSrcT.ledger (by rfl) (by k_asm) (by k_asm) (by k_mem) (by show ws2.toArray.size ≤ sizeLine; rw [List.size_toArray, iR2.length]; exact sizeLine_100 (by omega)) ?_)
      intro g7
      refine' kci_list (fun l k => if k < n then l ++ [k] else l) iR2 ?_ ?fin ?grow
      case grow => intro l k; dsimp only; split <;> simp
      · intro k t9 I9 oI9 C9 oC9 D8 m9 ys9 l9 h9 tk9 E9 hk9 hy9 hC9 hx9 F9 N9 off9 ne9 mk9
        k_steps
      case fin =>
        unfold KPfDone
        intro ys9 iy9 _
        have e9 : rs2.foldl (fun (l : List Int) (k : Int) => if k < n then l ++ [k] else l) [] = rs2.filter (fun k => decide (k < n)) := by
          exact foldl_filter n rs2 []
        rw [e9] at iy9
        unfold LCg.FinE
        intro D7 h7 tk7 F7 N7 off7
        replace N7 : News s1.heap s1.heap.objs.size h7 ((D7, listOf ys9.toArray ys9.length) :: _) := N7
        simp only [LCg.Off1, and_true] at off7
        have lfl := List.length_filter_le (fun k => decide (k < n)) rs2
        dsimp only
        k_steps
        · rename _ ≠ ((List.filter _ rs2).length : Int) => q7
          exact absurd (by rw [List.countP_eq_length_filter]) q7
        · rename _ ≠ ((List.count n rs2 : Nat) : Int) => q7
          exact absurd (by rw [count_cuts n rs2]; omega) q7
        · show FoEnd _ _ _ _ _ _ _ _ _ _ _ _
          refine ⟨((us4, hs4, ch4), (ws2, rs2, cr2), (gv4, gs4, cg4)), _, _, _, oc, _, rfl, by k_asm, kst_newsOf (by k_asm) (by k_allIn), hoc, List.forall_mem_nil _, ?_, ⟨iH4, iR2, iG4, inv4⟩⟩
          intro z _ h3
          simp only [List.contains_cons, List.contains_nil, Bool.or_false, Bool.or_eq_false_iff, beq_eq_false_iff_ne, ne_eq] at h3
          simp [h3, kstB]
end Mine

theorem PySem.Challenge.cw_xc0019_01_holds : PySem.Challenge.rw_xc0019_01.Holds :=
  Mine.law_walk

