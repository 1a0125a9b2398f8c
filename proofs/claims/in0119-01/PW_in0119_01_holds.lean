import PyProof.Rows.All
import Wide.All
import OpenK.AllK
import Wide.FinOn
import PySem.Challenge.RW_in0119_01
open PySem PySem.W PyProof.Rows
set_option Elab.async false
set_option maxRecDepth 100000
set_option linter.unusedVariables false
set_option linter.unusedSimpArgs false
namespace Mine
section
noncomputable abbrev Wd := List Nat

theorem wlt_irrefl (a : Wd) : ¬ a < a := List.lt_irrefl a
theorem wlt_trans {a b c : Wd} (h : a < b) (h' : b < c) : a < c := List.lt_trans h h'
theorem wlt_tri {a b : Wd} (h : ¬ a < b) (h' : ¬ b < a) : a = b := List.le_antisymm (List.not_lt.mp h') (List.not_lt.mp h)
theorem wlt_asymm {a b : Wd} (h : a < b) : ¬ b < a := fun h' => wlt_irrefl a (wlt_trans h h')
theorem wle_lt {a b c : Wd} (h : ¬ b < a) (h' : b < c) : a < c := by
  by_cases e : a < b
  · exact wlt_trans e h'
  · rw [wlt_tri e h]; exact h'
theorem wlt_le {a b c : Wd} (h : a < b) (h' : ¬ c < b) : a < c := by
  by_cases e : b < c
  · exact wlt_trans h e
  · rw [← wlt_tri e h']; exact h
theorem wlt_ne {a b : Wd} (h : a < b) : a ≠ b := fun e => wlt_irrefl a (by rw [← e] at h; exact h)

noncomputable abbrev Srt (l : List Wd) : Prop := l.Pairwise fun a b => ¬ b < a

noncomputable def lackB (one other : List Wd) (k : Nat) : Bool := match one[k]? with
  | some x => !decide (x ∈ other) && (!decide (x ∈ one.take k) || decide (other = []) || other.all fun y => decide (y < x))
  | none => false
noncomputable def lackU (one other : List Wd) (n : Nat) : List Wd := (List.range n).filterMap fun k => if lackB one other k then one[k]? else none

/-- how often x comes in what lacks -/
noncomputable def lackN (es as : List Wd) (x : Wd) : Nat := if x ∈ as then 0 else if (as.all fun y => decide (y < x)) = true then es.count x else if x ∈ es then 1 else 0

theorem lackU_succ (one other : List Wd) (n : Nat) : lackU one other (n + 1) = lackU one other n ++ (if lackB one other n then one[n]? else none).toList := by
  unfold lackU
  rw [List.range_succ, List.filterMap_append]
  cases h : (if lackB one other n then one[n]? else none) <;> simp [h]
theorem lackU_count (one other : List Wd) (x : Wd) : ∀ n, n ≤ one.length → (lackU one other n).count x = lackN (one.take n) other x
  | 0, _ => by simp [lackU, lackN]
  | n + 1, h => by
    have hn : n < one.length := h
    have ih := lackU_count one other x n (by omega)
    rw [lackU_succ, List.count_append, ih]
    have e1 : one.take (n + 1) = one.take n ++ [one[n]] := by rw [List.take_succ_eq_append_getElem hn]
    have e2 : one[n]? = some one[n] := List.getElem?_eq_getElem hn
    generalize one[n] = y at e1 e2
    unfold lackB
    rw [e1, e2]
    unfold lackN
    by_cases hx : y = x
    · subst hx
      by_cases h1 : y ∈ other
      · simp [h1]
      · by_cases h3 : (other.all fun z => decide (z < y)) = true
        · simp [h1, h3, List.count_append]
        · by_cases h2 : y ∈ one.take n
          · have h4 : other ≠ [] := fun e => h3 (by rw [e]; rfl)
            simp [h1, h2, h3, h4]
          · simp [h1, h2, h3]
    · have hc : ∀ b : Bool, (if b = true then some y else none).toList.count x = 0 := fun b => by cases b <;> simp [hx]
      have hm : x ∈ one.take n ++ [y] ↔ x ∈ one.take n := by simp [Ne.symm hx]
      rw [hc, List.count_append]
      simp only [hm]
      simp [hx]
theorem lackU_count' (one other : List Wd) (x : Wd) : (lackU one other one.length).count x = lackN one other x := by
  rw [lackU_count one other x _ (Nat.le_refl _), List.take_length]

noncomputable abbrev dropE (x : Wd) (l : List Wd) : List Wd := l.dropWhile fun y => decide (y = x)
theorem dropE_len (x : Wd) (l : List Wd) : (dropE x l).length ≤ l.length := (List.dropWhile_sublist _).length_le
noncomputable def sldG : Nat → List Wd → List Wd → List Wd × List Wd
  | 0 => fun es as => (es, as)
  | n + 1 => fun es as => @List.rec Wd (fun _ => List Wd × List Wd) ([], as) (fun e es _ => @List.rec Wd (fun _ => List Wd × List Wd) (e :: es, []) (fun a as _ =>
    if e < a then (e :: (sldG n (dropE e es) (a :: as)).1, (sldG n (dropE e es) (a :: as)).2)
    else if a < e then ((sldG n (e :: es) (dropE a as)).1, a :: (sldG n (e :: es) (dropE a as)).2)
    else sldG n (dropE e es) (dropE a as)) as) es
/-- what sorted_list_difference tells -/
noncomputable def sldP (es as : List Wd) : List Wd × List Wd := sldG (es.length + as.length) es as
theorem sldG_l (n : Nat) (as : List Wd) : sldG n [] as = ([], as) := by cases n <;> rfl
theorem sldG_r (n : Nat) (es : List Wd) : sldG n es [] = (es, []) := by cases n <;> cases es <;> rfl
theorem sldG_c (n : Nat) (e a : Wd) (es as : List Wd) : sldG (n + 1) (e :: es) (a :: as) =
    if e < a then (e :: (sldG n (dropE e es) (a :: as)).1, (sldG n (dropE e es) (a :: as)).2)
    else if a < e then ((sldG n (e :: es) (dropE a as)).1, a :: (sldG n (e :: es) (dropE a as)).2)
    else sldG n (dropE e es) (dropE a as) := rfl
theorem sld_less (x : Wd) (l r : List Wd) {n : Nat} (h : (x :: l).length + r.length ≤ n + 1) : (dropE x l).length + r.length ≤ n := by
  rw [List.length_cons, Nat.succ_add] at h
  exact Nat.le_trans (Nat.add_le_add_right (dropE_len x l) _) (Nat.le_of_succ_le_succ h)
theorem sld_less' (x : Wd) (l r : List Wd) {n : Nat} (h : r.length + (x :: l).length ≤ n + 1) : r.length + (dropE x l).length ≤ n := by
  rw [Nat.add_comm] at h ⊢; exact sld_less x l r h
theorem sldG_same : ∀ (n m : Nat) (es as : List Wd), es.length + as.length ≤ n → es.length + as.length ≤ m → sldG n es as = sldG m es as := by
  intro n
  induction n with
  | zero =>
    intro m es as h _
    cases es with
    | nil => rw [sldG_l, sldG_l]
    | cons e es => exact absurd h (by rw [List.length_cons, Nat.succ_add]; exact Nat.not_succ_le_zero _)
  | succ n ih =>
    intro m es as h h'
    cases es with
    | nil => rw [sldG_l, sldG_l]
    | cons e es =>
      cases as with
      | nil => rw [sldG_r, sldG_r]
      | cons a as =>
        cases m with
        | zero => exact absurd h' (by rw [List.length_cons, Nat.succ_add]; exact Nat.not_succ_le_zero _)
        | succ m =>
          have k := sld_less' a as (dropE e es) (Nat.le_succ_of_le (sld_less e es (a :: as) h))
          have k' := sld_less' a as (dropE e es) (Nat.le_succ_of_le (sld_less e es (a :: as) h'))
          rw [sldG_c, sldG_c, ih m (dropE e es) (a :: as) (sld_less e es _ h) (sld_less e es _ h'), ih m (e :: es) (dropE a as) (sld_less' a as _ h) (sld_less' a as _ h'), ih m (dropE e es) (dropE a as) k k']
theorem sldP_l (as : List Wd) : sldP [] as = ([], as) := sldG_l _ _
theorem sldP_r (es : List Wd) : sldP es [] = (es, []) := sldG_r _ _
theorem sldP_c (e a : Wd) (es as : List Wd) : sldP (e :: es) (a :: as) =
    if e < a then (e :: (sldP (dropE e es) (a :: as)).1, (sldP (dropE e es) (a :: as)).2)
    else if a < e then ((sldP (e :: es) (dropE a as)).1, a :: (sldP (e :: es) (dropE a as)).2)
    else sldP (dropE e es) (dropE a as) := by
  have h : (e :: es).length + (a :: as).length ≤ (es.length + (a :: as).length) + 1 := by rw [List.length_cons, Nat.succ_add]; exact Nat.le_refl _
  unfold sldP
  rw [sldG_same _ _ _ _ (Nat.le_refl _) h, sldG_c, sldG_same _ _ _ _ (sld_less e es _ h) (Nat.le_refl _), sldG_same _ _ _ _ (sld_less' a as _ h) (Nat.le_refl _),
    sldG_same _ _ _ _ (sld_less' a as (dropE e es) (Nat.le_succ_of_le (sld_less e es (a :: as) h))) (Nat.le_refl _)]
theorem sldP_ind {P : List Wd → List Wd → Prop} (c1 : ∀ as, P [] as) (c2 : ∀ e es, P (e :: es) [])
    (c3 : ∀ e es a as, e < a → P (dropE e es) (a :: as) → P (e :: es) (a :: as))
    (c4 : ∀ e es a as, ¬ e < a → a < e → P (e :: es) (dropE a as) → P (e :: es) (a :: as))
    (c5 : ∀ e es a as, ¬ e < a → ¬ a < e → P (dropE e es) (dropE a as) → P (e :: es) (a :: as)) (es as : List Wd) : P es as := by
  have : ∀ (n : Nat) (es as : List Wd), es.length + as.length ≤ n → P es as := by
    intro n
    induction n with
    | zero =>
      intro es as h
      cases es with
      | nil => exact c1 as
      | cons e es => exact absurd h (by rw [List.length_cons, Nat.succ_add]; exact Nat.not_succ_le_zero _)
    | succ n ih =>
      intro es as h
      cases es with
      | nil => exact c1 as
      | cons e es =>
        cases as with
        | nil => exact c2 e es
        | cons a as =>
          by_cases h1 : e < a
          · exact c3 e es a as h1 (ih _ _ (sld_less e es _ h))
          · by_cases h2 : a < e
            · exact c4 e es a as h1 h2 (ih _ _ (sld_less' a as _ h))
            · exact c5 e es a as h1 h2 (ih _ _ (sld_less' a as (dropE e es) (Nat.le_succ_of_le (sld_less e es (a :: as) h))))
  exact this _ es as (Nat.le_refl _)

theorem dropE_mem {x y : Wd} {l : List Wd} (h : y ≠ x) : y ∈ dropE x l ↔ y ∈ l := by
  induction l with
  | nil => simp
  | cons z l ih =>
    unfold dropE at ih ⊢
    rw [List.dropWhile_cons]
    by_cases hz : z = x
    · subst hz
      simp [ih, h]
    · simp [hz]
theorem dropE_count {x y : Wd} {l : List Wd} (h : y ≠ x) : (dropE x l).count y = l.count y := by
  induction l with
  | nil => simp
  | cons z l ih =>
    unfold dropE at ih ⊢
    rw [List.dropWhile_cons]
    by_cases hz : z = x
    · subst hz
      simp [ih, List.count_cons, Ne.symm h]
    · simp [hz]
theorem dropE_not {x : Wd} {l : List Wd} (s : Srt (x :: l)) : x ∉ dropE x l := by
  induction l with
  | nil => simp
  | cons z l ih =>
    unfold dropE at ih ⊢
    rw [List.dropWhile_cons]
    obtain ⟨h1, h2⟩ := List.pairwise_cons.mp s
    by_cases hz : z = x
    · subst hz
      simp only [decide_true, if_true]
      exact ih h2
    · simp only [hz, decide_false, Bool.false_eq_true, if_false]
      intro hm
      obtain ⟨h3, h4⟩ := List.pairwise_cons.mp h2
      rcases List.mem_cons.mp hm with e | hm
      · exact hz e.symm
      · exact hz (wlt_tri (h1 z List.mem_cons_self) (h3 x hm))
theorem dropE_sub (x : Wd) (l : List Wd) : (dropE x l).Sublist l := List.dropWhile_sublist _
theorem dropE_srt {x : Wd} {l : List Wd} (s : Srt l) : Srt (dropE x l) := s.sublist (dropE_sub x l)
theorem dropE_all {a x : Wd} {as : List Wd} (h : a < x) : ((dropE a as).all fun y => decide (y < x)) = ((a :: as).all fun y => decide (y < x)) := by
  rw [Bool.eq_iff_iff]
  simp only [List.all_eq_true, decide_eq_true_eq]
  constructor
  · intro hh y hy
    rcases List.mem_cons.mp hy with rfl | hy
    · exact h
    · by_cases e : y = a
      · rw [e]; exact h
      · exact hh y ((dropE_mem e).mpr hy)
  · intro hh y hy
    exact hh y (List.mem_cons_of_mem _ ((dropE_sub a as).subset hy))

theorem sldP_swap (es as : List Wd) : sldP as es = ((sldP es as).2, (sldP es as).1) := by
  induction es, as using sldP_ind with
  | c1 as => rw [sldP_l, sldP_r]
  | c2 e es => rw [sldP_l, sldP_r]
  | c3 e es a as h ih =>
    rw [sldP_c, sldP_c, if_neg (wlt_asymm h), if_pos h, if_pos h, ih]
  | c4 e es a as h h' ih =>
    rw [sldP_c, sldP_c, if_pos h', if_neg h, if_pos h', ih]
  | c5 e es a as h h' ih =>
    rw [sldP_c, sldP_c, if_neg h', if_neg h, if_neg h, if_neg h', ih]

theorem sldP_sub (es as : List Wd) : (sldP es as).1.Sublist es := by
  induction es, as using sldP_ind with
  | c1 as => rw [sldP_l]; exact List.Sublist.refl _
  | c2 e es => rw [sldP_r]; exact List.Sublist.refl _
  | c3 e es a as h ih => rw [sldP_c, if_pos h]; exact (ih.trans (dropE_sub _ _)).cons_cons _
  | c4 e es a as h h' ih => rw [sldP_c, if_neg h, if_pos h']; exact ih
  | c5 e es a as h h' ih => rw [sldP_c, if_neg h, if_neg h']; exact (ih.trans (dropE_sub _ _)).cons _

theorem sldP_count (es as : List Wd) (se : Srt es) (sa : Srt as) (x : Wd) : (sldP es as).1.count x = lackN es as x := by
  induction es, as using sldP_ind with
  | c1 as => rw [sldP_l]; simp [lackN]
  | c2 e es => rw [sldP_r]; simp [lackN]
  | c3 e es a as h ih =>
    rw [sldP_c, if_pos h]
    obtain ⟨he, se'⟩ := List.pairwise_cons.mp se
    have ih := ih (dropE_srt se') sa
    have hea : ∀ y ∈ a :: as, e < y := fun y hy => by
      rcases List.mem_cons.mp hy with rfl | hy
      · exact h
      · exact wlt_le h ((List.pairwise_cons.mp sa).1 y hy)
    show (e :: (sldP (dropE e es) (a :: as)).1).count x = _
    rw [List.count_cons, ih]
    by_cases hx : x = e
    · subst hx
      have h1 : x ∉ a :: as := fun hm => wlt_irrefl x (hea x hm)
      have h2 : ¬ ((a :: as).all fun y => decide (y < x)) = true := fun hh => by
        have := List.all_eq_true.mp hh a List.mem_cons_self
        exact wlt_asymm h (of_decide_eq_true this)
      have h3 : x ∉ dropE x es := dropE_not se
      unfold lackN
      rw [if_neg h1, if_neg h2, if_neg h3, if_neg h1, if_neg h2, if_pos List.mem_cons_self]
      simp
    · have hb : (e == x) = false := by simpa using (Ne.symm hx)
      have hm : x ∈ e :: es ↔ x ∈ dropE e es := by rw [dropE_mem hx]; simp [hx]
      have hcn : (e :: es).count x = (dropE e es).count x := by rw [dropE_count hx, List.count_cons]; simp [hb]
      unfold lackN
      simp only [hm, hcn, hb]
      simp
  | c4 e es a as h h' ih =>
    rw [sldP_c, if_neg h, if_pos h']
    obtain ⟨ha, sa'⟩ := List.pairwise_cons.mp sa
    have ih := ih se (dropE_srt sa')
    rw [show (((sldP (e :: es) (dropE a as)).1, a :: (sldP (e :: es) (dropE a as)).2) : List Wd × List Wd).1 = (sldP (e :: es) (dropE a as)).1 from rfl, ih]
    have hae : ∀ y ∈ e :: es, a < y := fun y hy => by
      rcases List.mem_cons.mp hy with rfl | hy
      · exact h'
      · exact wlt_le h' ((List.pairwise_cons.mp se).1 y hy)
    by_cases hes : x ∈ e :: es
    · have hax := hae x hes
      have hne : x ≠ a := Ne.symm (wlt_ne hax)
      have hm : x ∈ a :: as ↔ x ∈ dropE a as := by rw [dropE_mem hne]; simp [hne]
      unfold lackN
      rw [dropE_all hax]
      simp only [hm]
    · have hc : (e :: es).count x = 0 := List.count_eq_zero.mpr hes
      unfold lackN
      simp [hc, hes]
  | c5 e es a as h h' ih =>
    rw [sldP_c, if_neg h, if_neg h']
    obtain ⟨he, se'⟩ := List.pairwise_cons.mp se
    obtain ⟨ha, sa'⟩ := List.pairwise_cons.mp sa
    have ih := ih (dropE_srt se') (dropE_srt sa')
    have hea := wlt_tri h h'
    subst hea
    rw [ih]
    by_cases hx : x = e
    · subst hx
      have h3 : x ∉ dropE x es := dropE_not se
      have hc : (dropE x es).count x = 0 := List.count_eq_zero.mpr h3
      unfold lackN
      simp [h3, hc]
    · have hm1 : x ∈ e :: as ↔ x ∈ dropE e as := by rw [dropE_mem hx]; simp [hx]
      have hm2 : x ∈ e :: es ↔ x ∈ dropE e es := by rw [dropE_mem hx]; simp [hx]
      have hcn : (e :: es).count x = (dropE e es).count x := by rw [dropE_count hx, List.count_cons]; simp [Ne.symm hx]
      unfold lackN
      by_cases hes : x ∈ e :: es
      · have hex : e < x := by
          by_cases hlt : e < x
          · exact hlt
          · rcases List.mem_cons.mp hes with q | hm
            · exact absurd q hx
            · exact absurd (wlt_tri (he x hm) hlt) hx
        rw [dropE_all hex]
        simp only [hm1, hm2, hcn]
      · have hc : (e :: es).count x = 0 := List.count_eq_zero.mpr hes
        have hc' : (dropE e es).count x = 0 := by rw [← hcn]; exact hc
        have hes' : x ∉ dropE e es := fun q => hes (hm2.mpr q)
        simp [hc, hc', hes, hes']

theorem lackN_perm {es es' as as' : List Wd} (h : es.Perm es') (h' : as.Perm as') (x : Wd) : lackN es as x = lackN es' as' x := by
  unfold lackN
  have h1 : x ∈ as ↔ x ∈ as' := h'.mem_iff
  have h2 : x ∈ es ↔ x ∈ es' := h.mem_iff
  have h3 : (as.all fun y => decide (y < x)) = (as'.all fun y => decide (y < x)) := by
    rw [Bool.eq_iff_iff]
    simp only [List.all_eq_true]
    exact ⟨fun hh y hy => hh y (h'.mem_iff.mpr hy), fun hh y hy => hh y (h'.mem_iff.mp hy)⟩
  rw [h3, h.count_eq]
  simp only [h1, h2]

theorem srt_eq {a b : List Wd} (p : a.Perm b) (sa : Srt a) (sb : Srt b) : a = b :=
  p.eq_of_pairwise (fun x y _ _ h1 h2 => wlt_tri h2 h1) sa sb

/-- sorted_list_difference against what the law tells -/
theorem sld_law {n0 n1 e a o1 o2 : List Wd} (pe : e.Perm n0) (pa : a.Perm n1) (se : Srt e) (sa : Srt a)
    (p1 : o1.Perm (lackU n0 n1 n0.length)) (p2 : o2.Perm (lackU n1 n0 n1.length)) (s1 : Srt o1) (s2 : Srt o2) : sldP e a = (o1, o2) := by
  have key : ∀ {n0 n1 e a o1 : List Wd}, e.Perm n0 → a.Perm n1 → Srt e → Srt a → o1.Perm (lackU n0 n1 n0.length) → Srt o1 → (sldP e a).1 = o1 := by
    intro n0 n1 e a o1 pe pa se sa p1 s1
    refine srt_eq ?_ (se.sublist (sldP_sub e a)) s1
    rw [List.perm_iff_count]
    intro x
    rw [sldP_count e a se sa, p1.count_eq, lackU_count', lackN_perm pe pa]
  have h1 := key pe pa se sa p1 s1
  have h2 := key pa pe sa se p2 s2
  rw [sldP_swap] at h2
  exact Prod.ext h1 h2

theorem sld_cons {es as : List Wd} {i j : Nat} (hi : i < es.length) (hj : j < as.length) : es.drop i = es[i] :: es.drop (i + 1) ∧ as.drop j = as[j] :: as.drop (j + 1) :=
  ⟨List.drop_eq_getElem_cons hi, List.drop_eq_getElem_cons hj⟩
theorem sld_lt {es as : List Wd} {i j m : Nat} (hi : i < es.length) (hj : j < as.length) (h : es[i] < as[j]) (hm : es.drop m = dropE es[i] (es.drop (i + 1))) :
    sldP (es.drop i) (as.drop j) = (es[i] :: (sldP (es.drop m) (as.drop j)).1, (sldP (es.drop m) (as.drop j)).2) := by
  obtain ⟨e1, e2⟩ := sld_cons hi hj
  rw [hm, e1, e2, sldP_c, if_pos h]
theorem sld_gt {es as : List Wd} {i j m : Nat} (hi : i < es.length) (hj : j < as.length) (h : as[j] < es[i]) (hm : as.drop m = dropE as[j] (as.drop (j + 1))) :
    sldP (es.drop i) (as.drop j) = ((sldP (es.drop i) (as.drop m)).1, as[j] :: (sldP (es.drop i) (as.drop m)).2) := by
  obtain ⟨e1, e2⟩ := sld_cons hi hj
  rw [hm, e1, e2, sldP_c, if_neg (wlt_asymm h), if_pos h]
theorem sld_eq {es as : List Wd} {i j m l : Nat} (hi : i < es.length) (hj : j < as.length) (h : ¬ es[i] < as[j]) (h' : ¬ as[j] < es[i]) (hm : es.drop m = dropE es[i] (es.drop (i + 1))) (hl : as.drop l = dropE as[j] (as.drop (j + 1))) :
    sldP (es.drop i) (as.drop j) = sldP (es.drop m) (as.drop l) := by
  obtain ⟨e1, e2⟩ := sld_cons hi hj
  rw [hm, hl, e1, e2, sldP_c, if_neg h, if_neg h']

/-- what unorderable_list_difference tells, of the reversed first list -/
noncomputable def uldP : List Wd → List Wd → List Wd × List Wd
  | [], act => ([], act)
  | x :: xs, act => if x ∈ act then uldP xs (act.erase x) else (x :: (uldP xs act).1, (uldP xs act).2)
noncomputable def dec (c : Wd → Nat) (x : Wd) : Wd → Nat := fun y => if y = x then c y - 1 else c y
noncomputable def keepA (c : Wd → Nat) : List Wd → List Wd
  | [] => []
  | y :: ys => (if c y = 0 then [y] else []) ++ keepA (dec c y) ys
theorem keepA_congr : ∀ {l : List Wd} {c c' : Wd → Nat}, (∀ y ∈ l, c y = c' y) → keepA c l = keepA c' l
  | [], _, _, _ => rfl
  | y :: ys, c, c', h => by
    unfold keepA
    rw [h y List.mem_cons_self, keepA_congr (c := dec c y) (c' := dec c' y) fun z hz => by
      unfold dec
      rw [h z (List.mem_cons_of_mem _ hz)]]
theorem keepA_zero : ∀ {l : List Wd} {c : Wd → Nat}, (∀ y ∈ l, c y = 0) → keepA c l = l
  | [], _, _ => rfl
  | y :: ys, c, h => by
    unfold keepA
    rw [if_pos (h y List.mem_cons_self), keepA_zero (c := dec c y) fun z hz => by
      unfold dec
      rw [h z (List.mem_cons_of_mem _ hz)]; split <;> rfl]
    rfl
theorem keepA_erase : ∀ {l : List Wd} {c c' : Wd → Nat} {x : Wd}, c x = c' x + 1 → (∀ y, y ≠ x → c y = c' y) → x ∈ l → keepA c l = keepA c' (l.erase x)
  | y :: ys, c, c', x, h, h', hm => by
    by_cases hy : y = x
    · subst hy
      rw [List.erase_cons_head]
      show (if c y = 0 then [y] else []) ++ keepA (dec c y) ys = _
      rw [if_neg (by omega)]
      refine keepA_congr fun z _ => ?_
      unfold dec
      by_cases hz : z = y
      · subst hz; rw [if_pos rfl]; omega
      · rw [if_neg hz, h' z hz]
    · rw [List.erase_cons_tail (by simpa using hy)]
      have hm' : x ∈ ys := by
        rcases List.mem_cons.mp hm with e | hm
        · exact absurd e.symm hy
        · exact hm
      show (if c y = 0 then [y] else []) ++ keepA (dec c y) ys = (if c' y = 0 then [y] else []) ++ keepA (dec c' y) (ys.erase x)
      rw [h' y hy, keepA_erase (c := dec c y) (c' := dec c' y) (by unfold dec; rw [if_neg (Ne.symm hy), if_neg (Ne.symm hy)]; exact h) (fun z hz => by unfold dec; rw [h' z hz]) hm']
theorem uldP_left : ∀ (xs act : List Wd), (uldP xs act).2 = keepA (fun y => xs.count y) act
  | [], act => (keepA_zero fun y _ => rfl).symm
  | x :: xs, act => by
    unfold uldP
    by_cases h : x ∈ act
    · rw [if_pos h, uldP_left xs (act.erase x)]
      exact (keepA_erase (by simp) (fun y hy => by simp [List.count_cons, Ne.symm hy]) h).symm
    · rw [if_neg h]
      show (uldP xs act).2 = _
      rw [uldP_left xs act]
      refine keepA_congr fun y hy => ?_
      have : x ≠ y := fun e => h (e ▸ hy)
      simp [List.count_cons, this]
theorem uldP_miss : ∀ (xs act : List Wd), (uldP xs act).1 = keepA (fun y => act.count y) xs
  | [], act => rfl
  | x :: xs, act => by
    unfold uldP keepA
    by_cases h : x ∈ act
    · have hc : 0 < act.count x := List.count_pos_iff.mpr h
      rw [if_pos h, if_neg (by omega), uldP_miss xs (act.erase x)]
      refine keepA_congr fun y _ => ?_
      unfold dec
      by_cases hy : y = x
      · subst hy; rw [if_pos rfl, List.count_erase_self]
      · rw [if_neg hy, List.count_erase_of_ne hy]
    · have hc : act.count x = 0 := List.count_eq_zero.mpr h
      rw [if_neg h, if_pos hc]
      show x :: (uldP xs act).1 = [x] ++ _
      rw [uldP_miss xs act]
      show _ = x :: _
      congr 1
      refine keepA_congr fun y _ => ?_
      unfold dec
      by_cases hy : y = x
      · subst hy; rw [if_pos rfl]; show act.count y = act.count y - 1; omega
      · rw [if_neg hy]

theorem fm_congr {α β : Type} {f g : α → Option β} : ∀ {l : List α}, (∀ a ∈ l, f a = g a) → l.filterMap f = l.filterMap g
  | [], _ => rfl
  | a :: l, h => by rw [List.filterMap_cons, List.filterMap_cons, h a List.mem_cons_self, fm_congr fun b hb => h b (List.mem_cons_of_mem _ hb)]
noncomputable def leftU (c : Wd → Nat) (l : List Wd) : List Wd := (List.range l.length).filterMap fun k => (l[k]?).bind fun y => if c y < (l.take (k + 1)).count y then some y else none
noncomputable def missU (c : Wd → Nat) (l : List Wd) : List Wd := (List.range l.length).filterMap fun k => (l[k]?).bind fun y => if c y < (l.drop k).count y then some y else none
theorem missU_cons (c : Wd → Nat) (y : Wd) (ys : List Wd) : missU c (y :: ys) = (if c y < (y :: ys).count y then [y] else []) ++ missU c ys := by
  unfold missU
  rw [List.length_cons, List.range_succ_eq_map, List.filterMap_cons, List.filterMap_map]
  have e : List.filterMap ((fun k => ((y :: ys)[k]?).bind fun z => if c z < ((y :: ys).drop k).count z then some z else none) ∘ Nat.succ) (List.range ys.length)
      = List.filterMap (fun k => (ys[k]?).bind fun z => if c z < (ys.drop k).count z then some z else none) (List.range ys.length) := rfl
  rw [e]
  simp only [List.getElem?_cons_zero, Option.bind_some, List.drop_zero]
  by_cases h : c y < (y :: ys).count y
  · rw [if_pos h, if_pos h]; rfl
  · rw [if_neg h, if_neg h]; rfl
theorem leftU_cons (c : Wd → Nat) (y : Wd) (ys : List Wd) : leftU c (y :: ys) = (if c y = 0 then [y] else []) ++ leftU (dec c y) ys := by
  unfold leftU
  rw [List.length_cons, List.range_succ_eq_map, List.filterMap_cons, List.filterMap_map]
  have e : List.filterMap ((fun k => ((y :: ys)[k]?).bind fun z => if c z < ((y :: ys).take (k + 1)).count z then some z else none) ∘ Nat.succ) (List.range ys.length)
      = List.filterMap (fun k => (ys[k]?).bind fun z => if dec c y z < (ys.take (k + 1)).count z then some z else none) (List.range ys.length) := by
    refine fm_congr fun k hk => ?_
    have hk' : k < ys.length := List.mem_range.mp hk
    show ((y :: ys)[k + 1]?).bind (fun z => if c z < ((y :: ys).take (k + 1 + 1)).count z then some z else none) = _
    rw [List.getElem?_cons_succ, List.getElem?_eq_getElem hk', Option.bind_some, Option.bind_some, List.take_succ_cons, List.count_cons]
    generalize hz : ys[k] = z
    have hm : z ∈ ys.take (k + 1) := by
      rw [List.take_succ_eq_append_getElem hk', hz]; simp
    have hp : 0 < (ys.take (k + 1)).count z := List.count_pos_iff.mpr hm
    unfold dec
    by_cases hy : z = y
    · subst hy
      simp only [beq_self_eq_true, if_true]
      by_cases hc : c z < (ys.take (k + 1)).count z + 1
      · rw [if_pos hc, if_pos (by omega)]
      · rw [if_neg hc, if_neg (by omega)]
    · rw [if_neg hy]
      have : (y == z) = false := by simpa using Ne.symm hy
      rw [this]; rfl
  rw [e]
  have e1 : ((y :: ys)[0]?).bind (fun z => if c z < ((y :: ys).take (0 + 1)).count z then some z else none) = if c y = 0 then some y else none := by
    simp only [List.getElem?_cons_zero, Option.bind_some, List.take_succ_cons, List.take_zero, List.count_cons, beq_self_eq_true, if_true, List.count_nil]
    by_cases h : c y = 0
    · rw [if_pos h, if_pos (by omega)]
    · rw [if_neg h, if_neg (by omega)]
  rw [e1]
  by_cases h : c y = 0
  · rw [if_pos h, if_pos h]; rfl
  · rw [if_neg h, if_neg h]; rfl
theorem leftU_keepA : ∀ (l : List Wd) (c : Wd → Nat), leftU c l = keepA c l
  | [], _ => rfl
  | y :: ys, c => by rw [leftU_cons, leftU_keepA ys]; rfl
theorem keepA_snoc : ∀ (l : List Wd) (c : Wd → Nat) (y : Wd), keepA c (l ++ [y]) = keepA c l ++ (if c y < (l ++ [y]).count y then [y] else [])
  | [], c, y => by
    show (if c y = 0 then [y] else []) ++ [] = [] ++ _
    simp
  | x :: l, c, y => by
    show (if c x = 0 then [x] else []) ++ keepA (dec c x) (l ++ [y]) = ((if c x = 0 then [x] else []) ++ keepA (dec c x) l) ++ _
    rw [keepA_snoc l, List.append_assoc]
    congr 2
    have hp : 0 < (l ++ [y]).count y := List.count_pos_iff.mpr (by simp)
    rw [List.cons_append, List.count_cons]
    unfold dec
    by_cases hy : y = x
    · subst hy
      simp only [beq_self_eq_true, if_true]
      by_cases hc : c y < (l ++ [y]).count y + 1
      · rw [if_pos hc, if_pos (by omega)]
      · rw [if_neg hc, if_neg (by omega)]
    · rw [if_neg hy]
      have : (x == y) = false := by simpa using Ne.symm hy
      rw [this]; simp
theorem missU_rev : ∀ (l : List Wd) (c : Wd → Nat), (missU c l).reverse = keepA c l.reverse
  | [], _ => rfl
  | y :: ys, c => by
    rw [missU_cons, List.reverse_append, missU_rev ys, List.reverse_cons, keepA_snoc]
    congr 1
    have : (ys.reverse ++ [y]).count y = (y :: ys).count y := by
      rw [← List.reverse_cons]; exact (List.reverse_perm _).count_eq y
    rw [this]
    split <;> rfl
/-- unorderable_list_difference against what the law tells -/
theorem uld_law (n0 n1 : List Wd) : uldP n0.reverse n1 = ((missU (fun y => n1.count y) n0).reverse, leftU (fun y => n0.count y) n1) := by
  refine Prod.ext ?_ ?_
  · show (uldP n0.reverse n1).1 = (missU (fun y => n1.count y) n0).reverse
    rw [uldP_miss, missU_rev]
  · show (uldP n0.reverse n1).2 = leftU (fun y => n0.count y) n1
    rw [uldP_left, leftU_keepA]
    refine keepA_congr fun y _ => ?_
    exact (List.reverse_perm _).count_eq y
open PySem
section
variable {prog : Program} {w : World} {A : Around} {E : Value → Shared → Prop} {s : Shared}
theorem setitem_plain {l : Addr} {items : Array Value} {k : Int} {t : Tok} {v : Value} {Q : Unit → Shared → Prop} (hp : s.heap.PlainList l items)
    (h0 : 0 ≤ k) (hfit : k < 2 ^ 63) (hn : k < items.size)
    (hQ : ∀ h', h'.PlainList l (items.setIfInBounds k.toNat v) → Heap.SameBut l s.heap h' → Q () { s with heap := h' }) :
    wpAny (model prog w) A (setItem (.ref l) (.int k t) v) Q E s := by
  have hl := hp.isList
  obtain ⟨ne, ho⟩ := id hp
  have hd : ({ cls := .type "list", data := .seq items ne } : Obj).data = .seq items ne := rfl
  unfold setItem
  try with_reducible refine wpAny_holding ?_
  first | refine wpAny_bind (wpAny_pure ?_) | skip
  refine wpAny_bind (wpAny_sequenceKey hl.typeIs (by decide) ?_)
  refine wpAny_bind (wpAny_callSpecial?_slot (name := Str.ofString "__setitem__") hl.typeIs slot_list_setitem
    (wpAny_call_entry slot_list_setitem hl.typeIs entry_list_setitem ?_ (args_list_setitem _ _ _)))
  show wpAny _ _ (Builtin.List.listSubscript? (.int k t) >>= _) _ _ s
  refine wpAny_bind (wpAny_listSubscript_int (fitsIndex_of h0 hfit) ?_)
  clear hfit
  obtain ⟨j, rfl⟩ := Int.eq_ofNat_of_zero_le h0
  have hj : j < items.size := by omega
  have hx' : items[j]? = some items[j] := Array.getElem?_eq_getElem hj
  show wpAny _ _ ((seqItemAt l j >>= fun r => pure (r.map (j, ·))) >>= _) _ _ s
  refine wpAny_bind (wpAny_bind (wpAny_seqItemAt ho hd (wpAny_pure ?_)))
  rw [hx']
  show wpAny _ _ (setSeqItemAt l j v >>= _) _ _ s
  have hsz : ((items.setIfInBounds j v).size == items.size) = true := by simp
  have hm : Obj.mapSeq (·.setIfInBounds j v) { cls := .type "list", data := .seq items ne } = { cls := .type "list", data := .seq (items.setIfInBounds j v) ne } := by
    unfold Obj.mapSeq
    simp only [hsz, if_true]
  have hfin : (s.heap.update l (Obj.mapSeq (·.setIfInBounds j v))).PlainList l (items.setIfInBounds j v) :=
    ⟨ne, (Heap.get?_update_self _ ho (by rw [hm]; rfl)).trans (by rw [hm])⟩
  refine wpAny_bind (wpAny_setSeqItemAt ho hd ?_)
  first
    | exact wpAny_bind (wpAny_pure (wpAny_pure ⟨.none, rfl, wpAny_pure (hQ _ hfin (Heap.SameBut.update ..))⟩))
    | exact wpAny_pure ⟨.none, rfl, wpAny_pure (hQ _ hfin (Heap.SameBut.update ..))⟩
end
/-- the table of a code object, empty and with one entry: the only old object that the call changes -/
noncomputable abbrev tab0 : Obj := { cls := .none, data := .fields #[] }
noncomputable def tab1 (c : Addr) : Obj := { cls := .none, data := .fields #[rawInt 106, rawInt 39, .ref c] }
noncomputable def tabP : Addr := 64
/-- o stands at a, or o was the empty table and it has its entry now -/
noncomputable def KA (h : Heap) (a : Addr) (o : Obj) : Prop := h.get? a = some o ∨ (a = tabP ∧ o = tab0 ∧ ∃ c, h.get? a = some (tab1 c))
theorem KA.step {h h' : Heap} {a : Addr} {o : Obj} (x : KA h a o) (k : ∀ o', h.get? a = some o' → h'.get? a = some o') : KA h' a o := by
  rcases x with x | ⟨rfl, rfl, c, x⟩
  · exact .inl (k _ x)
  · exact .inr ⟨rfl, rfl, c, k _ x⟩
theorem KA.get {h : Heap} {a : Addr} {o : Obj} (x : KA h a o) (n : o ≠ tab0) : h.get? a = some o := by
  rcases x with x | ⟨_, e, _⟩
  · exact x
  · exact absurd e n
theorem KA.live {h : Heap} {a : Addr} {o : Obj} (x : KA h a o) : ∃ o', h.get? a = some o' := by
  rcases x with x | ⟨_, _, c, x⟩ <;> exact ⟨_, x⟩
noncomputable def Keep (h h' : Heap) : Prop := ∀ b o, h.get? b = some o → KA h' b o
theorem Keep.of {h h' : Heap} (k : ∀ b o, h.get? b = some o → h'.get? b = some o) : Keep h h' := fun b o e => .inl (k b o e)
theorem Keep.rfl' {h : Heap} : Keep h h := fun _ _ e => .inl e
theorem KA.keep {h h' : Heap} {a : Addr} {o : Obj} (x : KA h a o) (k : Keep h h') : KA h' a o := by
  rcases x with x | ⟨rfl, rfl, c, x⟩
  · exact k _ _ x
  · rcases k _ _ x with y | ⟨_, y, _⟩
    · exact .inr ⟨rfl, rfl, c, y⟩
    · exact absurd (congrArg Obj.data y) (fun h => by injection h with h; have h' : (3 : Nat) = 0 := congrArg Array.size h; cases h')
theorem ne_tab1 (c : Addr) : tab1 c ≠ tab0 := fun y => absurd (congrArg Obj.data y) (fun h => by injection h with h; have h' : (3 : Nat) = 0 := congrArg Array.size h; cases h')
theorem KA.thr {h h' : Heap} {a : Addr} {o : Obj} (x : KA h a o) (k : ∀ o', h.get? a = some o' → KA h' a o') : KA h' a o := by
  rcases x with x | ⟨rfl, rfl, c, x⟩
  · exact k _ x
  · exact .inr ⟨rfl, rfl, c, (k _ x).get (ne_tab1 c)⟩
theorem Keep.trans {a b c : Heap} (x : Keep a b) (y : Keep b c) : Keep a c := fun d o e => (x d o e).keep y
theorem Keep.push (h : Heap) (o : Obj) : Keep h (h.push o) := .of fun _ _ e => Heap.get?_push_of_some o e
theorem Keep.get {h h' : Heap} (k : Keep h h') {a : Addr} {o : Obj} (e : h.get? a = some o) (n : o ≠ tab0) : h'.get? a = some o := (k a o e).get n
theorem ne_cls {o : Obj} (h : o.cls ≠ .none) : o ≠ tab0 := fun e => h (by rw [e])
theorem ne_typ {o : Obj} {T : String} (h : o.cls = .type T) : o ≠ tab0 := fun e => by rw [e] at h; cases h
theorem ne_dat {o : Obj} {d : Data} (h : o.data = d) (n : d ≠ .fields #[]) : o ≠ tab0 := fun e => n (by rw [← h, e])
theorem kNs {h h' : Heap} {a : Addr} {m : Str → Option Value} (x : h.Ns a m) (k : Keep h h') : h'.Ns a m := by
  obtain ⟨o, es, ep, ho, hd, r⟩ := x
  exact ⟨o, es, ep, k.get ho (ne_dat hd (fun h => by cases h)), hd, r⟩
theorem kCell {h h' : Heap} {c : Addr} {v : Option Value} (x : h.IsCell c v) (k : Keep h h') : h'.IsCell c v := by
  obtain ⟨o, ho, hd⟩ := x
  exact ⟨o, k.get ho (ne_dat hd (fun h => by cases h)), hd⟩
theorem kPlain {h h' : Heap} {c : Addr} {v : Array Value} (x : h.PlainList c v) (k : Keep h h') : h'.PlainList c v := by
  obtain ⟨n, e⟩ := x
  exact ⟨n, k.get e (ne_typ (T := "list") rfl)⟩
theorem kList {h h' : Heap} {c : Addr} {v : Array Value} (x : h.IsList c v) (k : Keep h h') : h'.IsList c v := by
  obtain ⟨o, ho, hc, r⟩ := x
  exact ⟨o, k.get ho (ne_typ hc), hc, r⟩
theorem kTup {h h' : Heap} {c : Addr} {v : Array Value} (x : h.IsTuple c v) (k : Keep h h') : h'.IsTuple c v := by
  obtain ⟨o, ho, hc, r⟩ := x
  exact ⟨o, k.get ho (ne_typ hc), hc, r⟩
theorem kCode {h h' : Heap} {cd : Value} {q : Str} (x : h.CodeRec cd q) (k : Keep h h') : h'.CodeRec cd q := by
  obtain ⟨c, o, vs, t, e, g, hd, hv⟩ := x
  refine ⟨c, o, vs, t, e, k.get g (ne_dat hd (fun h => ?_)), hd, hv⟩
  injection h with h
  rw [h] at hv
  cases hv
theorem kLimit {h h' : Heap} (x : h.NoLimit) (k : Keep h h') : h'.NoLimit := let ⟨mc, n, e⟩ := x; ⟨mc, kNs n k, e⟩
theorem kRange {h h' : Heap} {r : Addr} {a b c : Int} {t u v : Tok} (x : IsRange h r a b c t u v) (k : Keep h h') : IsRange h' r a b c t u v := k.get x (ne_typ (T := "range") rfl)
/-- a look-up that gives v in every heap behind h -/
noncomputable def Looks (M : Model) (h : Heap) (m : Sem Value) (v : Value) : Prop := ∀ (A : Around) (Q : Value → Shared → Prop) (E : Value → Shared → Prop) (s : Shared), Keep h s.heap → Q v s → wpAny M A m Q E s
theorem Looks.keeps {M : Model} {h h' : Heap} {m : Sem Value} {v : Value} (x : Looks M h m v) (k : Keep h h') : Looks M h' m v := fun A Q E s k' q => x A Q E s (k.trans k') q

noncomputable def isSeq (o : Obj) : Bool := match o.data with
  | .seq _ _ => true
  | _ => false

/-- variables: a name, its value if it is known -/
inductive At : List (Str × Option Value) → Str → Value → Prop
  | here {x v l} : At ((x, some v) :: l) x v
  | there {p l x v} : At l x v → At (p :: l) x v
inductive Put : List (Str × Option Value) → Str → Value → List (Str × Option Value) → Prop
  | here {x o v l} : Put ((x, o) :: l) x v ((x, some v) :: l)
  | there {p l x v l'} : Put l x v l' → Put (p :: l) x v (p :: l')
theorem At.mem {l : List (Str × Option Value)} {x : Str} {v : Value} (a : At l x v) : (x, some v) ∈ l := by
  induction a with
  | here => exact List.mem_cons_self
  | there _ ih => exact List.mem_cons_of_mem _ ih
theorem At.name {l : List (Str × Option Value)} {x : Str} {v : Value} (a : At l x v) : x ∈ l.map (·.1) := List.mem_map_of_mem (f := (·.1)) a.mem
theorem Put.names {l l' : List (Str × Option Value)} {x : Str} {v : Value} (p : Put l x v l') : l'.map (·.1) = l.map (·.1) := by
  induction p with
  | here => rfl
  | there _ ih => simp only [List.map_cons, ih]
theorem Put.at {l l' : List (Str × Option Value)} {x : Str} {v : Value} (p : Put l x v l') : (l.map (·.1)).Nodup → ∀ {y u}, At l' y u → (y = x ∧ u = v) ∨ (y ≠ x ∧ At l y u) := by
  induction p with
  | here =>
    rename_i x o v l
    intro nd y u a
    cases a with
    | here => exact .inl ⟨rfl, rfl⟩
    | there a =>
      refine .inr ⟨?_, .there a⟩
      rintro rfl
      exact (List.nodup_cons.mp nd).1 a.name
  | there q ih =>
    rename_i p l x v l'
    intro nd y u a
    have nd' := List.nodup_cons.mp nd
    cases a with
    | here =>
      refine .inr ⟨?_, .here⟩
      rintro rfl
      refine nd'.1 ?_
      have : y ∈ l'.map (·.1) := by
        clear ih nd nd'
        induction q with
        | here => exact List.mem_cons_self
        | there _ ih => exact List.mem_cons_of_mem _ ih
      rw [q.names] at this
      exact this
    | there a =>
      rcases ih nd'.2 a with h | ⟨h, h'⟩
      · exact .inl h
      · exact .inr ⟨h, .there h'⟩

/-- variables held in cells -/
inductive AtC : List (Str × Addr × Option Value) → Str → Addr → Option Value → Prop
  | here {x c v l} : AtC ((x, c, v) :: l) x c v
  | there {p l x c v} : AtC l x c v → AtC (p :: l) x c v
inductive PutC : List (Str × Addr × Option Value) → Str → Addr → Value → List (Str × Addr × Option Value) → Prop
  | here {x c o v l} : PutC ((x, c, o) :: l) x c v ((x, c, some v) :: l)
  | there {p l x c v l'} : PutC l x c v l' → PutC (p :: l) x c v (p :: l')
theorem AtC.mem {l : List (Str × Addr × Option Value)} {x : Str} {c : Addr} {v : Option Value} (a : AtC l x c v) : (x, c, v) ∈ l := by
  induction a with
  | here => exact List.mem_cons_self
  | there _ ih => exact List.mem_cons_of_mem _ ih
theorem PutC.addrs {l l' : List (Str × Addr × Option Value)} {x : Str} {c : Addr} {v : Value} (p : PutC l x c v l') : l'.map (·.2.1) = l.map (·.2.1) := by
  induction p with
  | here => rfl
  | there _ ih => simp only [List.map_cons, ih]
theorem PutC.mem {l l' : List (Str × Addr × Option Value)} {x : Str} {c : Addr} {v : Value} (p : PutC l x c v l') : c ∈ l.map (·.2.1) := by
  induction p with
  | here => exact List.mem_cons_self
  | there _ ih => exact List.mem_cons_of_mem _ ih
theorem PutC.at {l l' : List (Str × Addr × Option Value)} {x : Str} {c : Addr} {v : Value} (p : PutC l x c v l') : (l.map (·.2.1)).Nodup →
    ∀ {y d u}, (y, d, u) ∈ l' → (d = c ∧ u = some v) ∨ (d ≠ c ∧ (y, d, u) ∈ l) := by
  induction p with
  | here =>
    rename_i x c o v l
    intro nd y d u a
    rcases List.mem_cons.mp a with e | a
    · cases e; exact .inl ⟨rfl, rfl⟩
    · refine .inr ⟨fun e => ?_, List.mem_cons_of_mem _ a⟩
      have a' : (y, d, u).2.1 ∈ l.map (·.2.1) := List.mem_map_of_mem (f := (·.2.1)) a
      exact (List.nodup_cons.mp nd).1 (e ▸ a')
  | there q ih =>
    rename_i p l x c v l'
    intro nd y d u a
    have nd' := List.nodup_cons.mp nd
    rcases List.mem_cons.mp a with e | a
    · subst e
      refine .inr ⟨?_, List.mem_cons_self⟩
      rintro rfl
      exact nd'.1 q.mem
    · rcases ih nd'.2 a with h | ⟨h, h'⟩
      · exact .inl h
      · exact .inr ⟨h, List.mem_cons_of_mem _ h'⟩

noncomputable def owned (L : Addr) (cs : List (Str × Addr × Option Value)) (ms : List (Addr × List Value)) : List Addr := L :: (cs.map (·.2.1) ++ ms.map (·.1))

/-- a frame at work: hb the heap when it was entered, hs a snapshot (all but what it owns stays), hz a snapshot of lists and tuples, h now -/
theorem ne_seq {o : Obj} (q : isSeq o = true) : o ≠ tab0 := fun e => by rw [e] at q; cases q
structure Fm (hb hs hz h : Heap) (L : Addr) (vs : List (Str × Option Value)) (cs : List (Str × Addr × Option Value)) (ms : List (Addr × List Value)) : Prop where
  loc : ∃ m, h.Ns L m ∧ ∀ x v, At vs x v → m x = some v
  nv : (vs.map (·.1)).Nodup
  cel : ∀ x c v, (x, c, v) ∈ cs → h.IsCell c v
  mls : ∀ p ∈ ms, h.PlainList p.1 p.2.toArray
  kb : Keep hb h
  ob : ∀ a ∈ owned L cs ms, hb.get? a = none
  k0 : ∀ a o, a ∉ owned L cs ms → hs.get? a = some o → KA h a o
  kz : ∀ a o, a ∉ ms.map (·.1) → hz.get? a = some o → isSeq o = true → h.get? a = some o
  nd : (owned L cs ms).Nodup

theorem mem_own_L {L : Addr} {cs : List (Str × Addr × Option Value)} {ms : List (Addr × List Value)} : L ∈ owned L cs ms := List.mem_cons_self
theorem mem_own_c {L : Addr} {cs : List (Str × Addr × Option Value)} {ms : List (Addr × List Value)} {c : Addr} (h : c ∈ cs.map (·.2.1)) : c ∈ owned L cs ms :=
  List.mem_cons_of_mem _ (List.mem_append_left _ h)
theorem mem_own_m {L : Addr} {cs : List (Str × Addr × Option Value)} {ms : List (Addr × List Value)} {c : Addr} (h : c ∈ ms.map (·.1)) : c ∈ owned L cs ms :=
  List.mem_cons_of_mem _ (List.mem_append_right _ h)

section
variable {hb hs hz h h' : Heap} {L : Addr} {vs vs' : List (Str × Option Value)} {cs cs' : List (Str × Addr × Option Value)} {ms : List (Addr × List Value)}

theorem Fm.keep (F : Fm hb hs hz h L vs cs ms) (k : Keep h h') : Fm hb hs hz h' L vs cs ms where
  loc := let ⟨m, n, a⟩ := F.loc; ⟨m, kNs n k, a⟩
  nv := F.nv
  cel := fun x c v m => kCell (F.cel x c v m) k
  mls := fun p m => kPlain (F.mls p m) k
  kb := F.kb.trans k
  ob := F.ob
  k0 := fun a o n e => (F.k0 a o n e).keep k
  kz := fun a o n e q => k.get (F.kz a o n e q) (ne_seq q)
  nd := F.nd

/-- the lists' snapshot taken anew -/
theorem Fm.now (F : Fm hb hs hz h L vs cs ms) : Fm hb hs h h L vs cs ms := { F with kz := fun _ _ _ e _ => e }
/-- the frame's snapshot taken anew -/
theorem Fm.here (F : Fm hb hs hz h L vs cs ms) : Fm hb h hz h L vs cs ms := { F with k0 := fun _ _ _ e => .inl e }
theorem Fm.live_L (F : Fm hb hs hz h L vs cs ms) : ∃ o, h.get? L = some o ∧ isSeq o = false := by
  obtain ⟨m, ⟨o, es, ep, ho, hd, _⟩, _⟩ := F.loc
  exact ⟨o, ho, by unfold isSeq; rw [hd]⟩
theorem Fm.live_c (F : Fm hb hs hz h L vs cs ms) {c : Addr} (hc : c ∈ cs.map (·.2.1)) : ∃ o, h.get? c = some o ∧ isSeq o = false := by
  obtain ⟨⟨x, c', v⟩, hm, rfl⟩ := List.mem_map.mp hc
  obtain ⟨o, ho, hd⟩ := F.cel x c' v hm
  exact ⟨o, ho, by unfold isSeq; rw [hd]⟩
theorem Fm.live (F : Fm hb hs hz h L vs cs ms) {a : Addr} (ha : a ∈ owned L cs ms) : ∃ o, h.get? a = some o := by
  rcases List.mem_cons.mp ha with rfl | ha
  · obtain ⟨o, ho, _⟩ := F.live_L; exact ⟨o, ho⟩
  · rcases List.mem_append.mp ha with ha | ha
    · obtain ⟨o, ho, _⟩ := F.live_c ha; exact ⟨o, ho⟩
    · obtain ⟨p, hp, rfl⟩ := List.mem_map.mp ha
      obtain ⟨n, ho⟩ := F.mls p hp
      exact ⟨_, ho⟩
theorem Fm.not_size (F : Fm hb hs hz h L vs cs ms) : h.objs.size ∉ owned L cs ms := fun ha => by
  obtain ⟨o, ho⟩ := F.live ha
  exact absurd (Heap.lt_size ho) (Nat.lt_irrefl _)

/-- what the walk of an iterator turns: nothing of the frame's -/
theorem Fm.but (F : Fm hb hs hz h L vs cs ms) {wr : List Addr} (k : ∀ b o, b ∉ wr → h.get? b = some o → h'.get? b = some o)
    (h1 : ∀ b ∈ wr, b ∉ owned L cs ms) (h2 : ∀ b ∈ wr, hb.get? b = none) (h3 : ∀ b ∈ wr, hs.get? b = none) (h4 : ∀ b ∈ wr, ∀ o, h.get? b = some o → isSeq o = false) : Fm hb hs hz h' L vs cs ms where
  loc := let ⟨m, n, a⟩ := F.loc; ⟨m, n.at' fun o e => k _ o (fun q => h1 _ q mem_own_L) e, a⟩
  nv := F.nv
  cel := fun x c v m => let ⟨o, ho, hd⟩ := F.cel x c v m; ⟨o, k _ o (fun q => h1 _ q (mem_own_c (List.mem_map_of_mem (f := (·.2.1)) m))) ho, hd⟩
  mls := fun p m => (F.mls p m).at fun o e => k _ o (fun q => h1 _ q (mem_own_m (List.mem_map_of_mem (f := (·.1)) m))) e
  kb := fun a o e => (F.kb a o e).step fun o' e' => k a o' (fun q => by rw [h2 a q] at e; cases e) e'
  ob := F.ob
  k0 := fun a o n e => (F.k0 a o n e).step fun o' e' => k a o' (fun q => by rw [h3 a q] at e; cases e) e'
  kz := fun a o n e q => k a o (fun w => by have := h4 a w o (F.kz a o n e q); rw [q] at this; cases this) (F.kz a o n e q)
  nd := F.nd

theorem Fm.setL (F : Fm hb hs hz h L vs cs ms) {x : Str} {v : Value} (p : Put vs x v vs') {m : Str → Option Value} (hm : ∀ y u, At vs y u → m y = some u)
    (hn : h'.Ns L (fun y => if y = x then some v else m y)) (k : Heap.SameBut L h h') : Fm hb hs hz h' L vs' cs ms where
  loc := ⟨_, hn, fun y u a => by
    rcases p.at F.nv a with ⟨rfl, rfl⟩ | ⟨hne, a⟩
    · exact if_pos rfl
    · show (if y = x then some v else m y) = some u
      rw [if_neg hne]; exact hm y u a⟩
  nv := by rw [p.names]; exact F.nv
  cel := fun x c v mm => (F.cel x c v mm).sameBut k fun e => by
    have hc : c ∈ cs.map (·.2.1) := List.mem_map_of_mem (f := (·.2.1)) mm
    rw [e] at hc
    exact (List.nodup_cons.mp F.nd).1 (List.mem_append_left _ hc)
  mls := fun p mm => (F.mls p mm).at fun o e => (k.2 _ fun q => (List.nodup_cons.mp F.nd).1 (List.mem_append_right _ (q ▸ List.mem_map_of_mem (f := (·.1)) mm))).trans e
  kb := fun a o e => (F.kb a o e).step fun o' e' => (k.2 a fun q => by have := F.ob L mem_own_L; rw [← q, e] at this; cases this).trans e'
  ob := F.ob
  k0 := fun a o n e => (F.k0 a o n e).step fun o' e' => (k.2 a fun q => n (q ▸ mem_own_L)).trans e'
  kz := fun a o n e q => (k.2 a fun w => by
    obtain ⟨o', ho', hq⟩ := F.live_L
    have e' := F.kz a o n e q
    rw [w, ho'] at e'
    cases e'
    rw [q] at hq; cases hq).trans (F.kz a o n e q)
  nd := F.nd

theorem Fm.setC (F : Fm hb hs hz h L vs cs ms) {x : Str} {c : Addr} {v : Value} (p : PutC cs x c v cs') (hv : h'.IsCell c (some v)) (k : Heap.SameBut c h h') : Fm hb hs hz h' L vs cs' ms where
  loc := let ⟨m, n, a⟩ := F.loc; ⟨m, n.sameBut k fun e => by
    have hc := p.mem
    rw [← e] at hc
    exact (List.nodup_cons.mp F.nd).1 (List.mem_append_left _ hc), a⟩
  nv := F.nv
  cel := fun y d u mm => by
    have nd := (List.nodup_append.mp (List.nodup_cons.mp F.nd).2).1
    rcases p.at nd mm with ⟨rfl, rfl⟩ | ⟨hne, mm⟩
    · exact hv
    · exact (F.cel y d u mm).sameBut k hne
  mls := fun p' mm => (F.mls p' mm).at fun o e => (k.2 _ fun q => by
    have h1 := p.mem
    have h2 : p'.1 ∈ ms.map (·.1) := List.mem_map_of_mem (f := (·.1)) mm
    exact (List.nodup_append.mp (List.nodup_cons.mp F.nd).2).2.2 c h1 p'.1 h2 q.symm).trans e
  kb := fun a o e => (F.kb a o e).step fun o' e' => (k.2 a fun q => by have := F.ob c (mem_own_c p.mem); rw [← q, e] at this; cases this).trans e'
  ob := by unfold owned; rw [p.addrs]; exact F.ob
  k0 := fun a o n e => (F.k0 a o (by unfold owned at n; rw [p.addrs] at n; exact n) e).step fun o' e' => (k.2 a fun q => n (by unfold owned; rw [p.addrs]; exact q ▸ mem_own_c p.mem)).trans e'
  kz := fun a o n e q => (k.2 a fun w => by
    obtain ⟨o', ho', hq⟩ := F.live_c p.mem
    have e' := F.kz a o n e q
    rw [w, ho'] at e'
    cases e'
    rw [q] at hq; cases hq).trans (F.kz a o n e q)
  nd := by unfold owned; rw [p.addrs]; exact F.nd

end

section
variable {M : Model} {A : Around} {E : Value → Shared → Prop} {s : Shared} {env : Env} {hb hs hz : Heap} {vs vs' : List (Str × Option Value)} {cs cs' : List (Str × Addr × Option Value)} {ms : List (Addr × List Value)}

theorem Fm.store {x : Str} {v : Value} {Q : Unit → Shared → Prop} (F : Fm hb hs hz s.heap env.locals vs cs ms) (p : Put vs x v vs')
    (q : ∀ h', Fm hb hs hz h' env.locals vs' cs ms → Q () { s with heap := h', toks := s.toks + 1 })
    (hk : env.scope.kind = .function := by rfl) (hl : env.kindOf x = some .local := by rfl) : wpAny M A (storeName env x v) Q E s := by
  obtain ⟨m, hn, hm⟩ := F.loc
  exact wpAny_storeName_local hl hn (fun h' hn' k => q h' (F.setL p hm hn' k)) (by rw [hk]; rfl)
theorem Fm.storec {x : Str} {c : Addr} {v : Value} {Q : Unit → Shared → Prop} (F : Fm hb hs hz s.heap env.locals vs cs ms) (p : PutC cs x c v cs')
    (q : ∀ h', Fm hb hs hz h' env.locals vs cs' ms → Q () { s with heap := h' })
    (hc : env.cells.lookup x = some c := by rfl)
    (hk : env.scope.kind = .function := by rfl) (hl : env.kindOf x = some .cell := by rfl) : wpAny M A (storeName env x v) Q E s := by
  have ⟨v₀, hv₀⟩ : ∃ v₀, s.heap.IsCell c v₀ := by
    have := p.mem
    obtain ⟨⟨y, c', v'⟩, hm, rfl⟩ := List.mem_map.mp this
    exact ⟨v', F.cel y c' v' hm⟩
  exact wpAny_storeName_cell hk hl hc hv₀ (fun h' hn' k => q h' (F.setC p hn' k))
theorem Fm.st {x : Str} {v : Value} {px : Pos} {Q : Unit → Shared → Prop} (F : Fm hb hs hz s.heap env.locals vs cs ms) (p : Put vs x v vs')
    (q : ∀ h', Fm hb hs hz h' env.locals vs' cs ms → Q () { s with heap := h', toks := s.toks + 1 })
    (hk : env.scope.kind = .function := by rfl) (hl : env.kindOf x = some .local := by rfl) : wpAny M A (assign (.Name x px) env v) Q E s :=
  wpAny_assign_Name (F.store p q hk hl)
theorem Fm.stc {x : Str} {c : Addr} {v : Value} {px : Pos} {Q : Unit → Shared → Prop} (F : Fm hb hs hz s.heap env.locals vs cs ms) (p : PutC cs x c v cs')
    (q : ∀ h', Fm hb hs hz h' env.locals vs cs' ms → Q () { s with heap := h' })
    (hc : env.cells.lookup x = some c := by rfl)
    (hk : env.scope.kind = .function := by rfl) (hl : env.kindOf x = some .cell := by rfl) : wpAny M A (assign (.Name x px) env v) Q E s :=
  wpAny_assign_Name (F.storec p q hc hk hl)

theorem Fm.ld {x : Str} {v : Value} {h : Heap} (F : Fm hb hs hz h env.locals vs cs ms) (a : At vs x v)
    (hk : env.scope.kind = .function := by rfl) (hl : env.kindOf x = some .local := by rfl) : Looks M h (loadName env x) v := fun A Q E s k q => by
  obtain ⟨m, hn, hm⟩ := F.loc
  exact wpAny_loadName_local hk hl (kNs hn k) (hm x v a) q
theorem Fm.ldc {x : Str} {c : Addr} {v : Value} {h : Heap} (F : Fm hb hs hz h env.locals vs cs ms) (a : AtC cs x c (some v)) (hc : env.cells.lookup x = some c := by rfl)
    (hk : env.scope.kind = .function := by rfl) (hl : env.kindOf x = some .cell := by rfl) : Looks M h (loadName env x) v := fun A Q E s k q =>
  wpAny_loadName_cell hk hl hc (kCell (F.cel x c _ a.mem) k) q
theorem ev_name {x : Str} {v : Value} {h : Heap} {pos : Pos} {Q : Value → Shared → Prop} (l : Looks M h (loadName env x) v) (k : Keep h s.heap) (q : Q v s)
    (hd : (x == ("__debug__" : Str)) = false := by decide) : wpAny M A (eval (.Name x pos) env) Q E s := wpAny_Name (l A Q E s k q) hd
end

/-- room around a call -/
structure Rm (A : Around) (n : Nat) : Prop where
  hd : A.handled = none
  depth : A.depth + n < 900
  units : A.units + 40 * n + 400 < cLine
theorem Rm.deeper {A : Around} {n : Nat} {env : Env} (r : Rm A (n + 1)) : Rm (A.deeper env) n :=
  ⟨r.hd, by have := r.depth; show A.depth + 1 + n < 900; omega, by have := r.units; show A.units + 3 + 40 * n + 400 < cLine; omega⟩
theorem Rm.in1 {A : Around} {n : Nat} (r : Rm A (n + 1)) : Rm A.in1 n :=
  ⟨r.hd, by have := r.depth; show A.depth + n < 900; omega, by have := r.units; show A.units + 1 + 40 * n + 400 < cLine; omega⟩
theorem Rm.mono {A : Around} {n m : Nat} (r : Rm A n) (h : m ≤ n) : Rm A m := ⟨r.hd, by have := r.depth; omega, by have := r.units; omega⟩
theorem Rm.cl {A : Around} {n : Nat} (r : Rm A n) : A.units < cLine := by have := r.units; omega
theorem Rm.cl64 {A : Around} {n : Nat} (r : Rm A n) : A.units + 64 < cLine := by have := r.units; omega
theorem Rm.room {A : Around} {n : Nat} (r : Rm A n) : A.depth < recursionLimit := by have := r.depth; show A.depth < 1000; omega

structure FnRec where
  name : Str
  params : Arguments
  body : List Stmt
  scope : Scope
noncomputable def fnOf (n : Nat) : FnRec := match PySem.Challenge.pw_in0119_01.main.body[n]? with
  | some (.FunctionDef name a b _ _ _ sc _ _ _) => ⟨name, a, b, sc⟩
  | _ => ⟨Str.empty, ⟨[], [], none, [], [], none, []⟩, [], { kind := .module, names := [], isGenerator := false, isCoroutine := false, more := [] }⟩

structure FnAt (h : Heap) (f : Addr) (r : FnRec) : Prop where
  ex : ∃ o pm cd doc, h.get? f = some o ∧ o.data = .func (Calls.docDef r.name r.params r.body r.scope pm cd doc) ∧ h.CodeRec cd r.name
theorem FnAt.keep {h h' : Heap} {f : Addr} {r : FnRec} (x : FnAt h f r) (k : Keep h h') : FnAt h' f r :=
  let ⟨o, pm, cd, doc, h1, h2, h3⟩ := x.ex; ⟨o, pm, cd, doc, k.get h1 (ne_dat h2 fun h => by cases h), h2, kCode h3 k⟩

section
variable {prog : Program} {w : World} {A : Around} {E : Value → Shared → Prop} {s : Shared}

noncomputable def nodupB : List Str → Bool
  | [] => true
  | x :: l => !(l.contains x) && nodupB l
theorem nodup_of : ∀ {l : List Str}, nodupB l = true → l.Nodup
  | [], _ => List.nodup_nil
  | x :: l, h => by
    unfold nodupB at h
    rw [Bool.and_eq_true] at h
    refine List.nodup_cons.mpr ⟨fun m => ?_, nodup_of h.2⟩
    have := h.1
    rw [show l.contains x = true from List.contains_iff_mem.mpr m] at this
    cases this
theorem map_at {α β : Type} {f g : α → β} : ∀ {l : List α}, l.map f = l.map g → ∀ x ∈ l, f x = g x
  | [], _, _, m => nomatch m
  | y :: l, h, x, m => by
    rw [List.map_cons, List.map_cons] at h
    rcases List.mem_cons.mp m with rfl | m
    · exact (List.cons.inj h).1
    · exact map_at (List.cons.inj h).2 x m

theorem enter {f : Addr} {r : FnRec} {args : List Value} {binds : List (Str × Value)} {n : Nat} {Q : Value → Shared → Prop} {hb : Heap}
    (vs : List (Str × Option Value)) (cs : List (Str × Addr × Option Value)) (offs : List Nat)
    (rm : Rm A (n + 1)) (k : Keep hb s.heap) (fn : FnAt hb f r) (hlim : hb.NoLimit)
    (hbind : ∀ pm cd doc, bindArgs (Calls.docDef r.name r.params r.body r.scope pm cd doc) ⟨args, []⟩ = pure binds)
    (h : ∀ h₁ tk cd, Fm s.heap s.heap s.heap h₁ s.heap.objs.size vs cs [] → Rm (A.deeper (envOfC r.name r.scope s.heap.objs.size f cd)) n →
      wpAny (model prog w) (A.deeper (envOfC r.name r.scope s.heap.objs.size f cd)) (execs r.body (envOfC r.name r.scope s.heap.objs.size f cd))
        (fun fl s' => Q (match fl with | .ret v => v | _ => .none) s') (fun _ _ => False) { s with heap := h₁, toks := tk })
    (hkind : ((binds.map (·.1)).all fun x => r.scope.names.lookup x == some .local || (r.scope.names.lookup x == some .cell && ((cellsFrom (s.heap.objs.size + 1) r.scope.names []).lookup x).isSome)) = true := by rfl)
    (hvs : vs.map (fun p => bindL (fun y => r.scope.names.lookup y) binds (fun _ => none) p.1) = vs.map (·.2) := by rfl)
    (hnv : nodupB (vs.map (·.1)) = true := by rfl)
    (hcs : cs.map (fun p => ((cellsFrom (s.heap.objs.size + 1) r.scope.names []).lookup p.1, bindC (fun y => r.scope.names.lookup y) binds (fun _ => none) p.1)) = cs.map (fun p => (some p.2.1, p.2.2)) := by rfl)
    (hoff : cs.map (·.2.1) = offs.map (fun k => s.heap.objs.size + k) := by rfl)
    (hno : (0 :: offs).Nodup := by decide)
    (hco : r.scope.isCoroutine = false := by rfl) (hgen : r.scope.isGenerator = false := by rfl) (hk : r.scope.kind = .function := by rfl) :
    wpAny (model prog w) A (call (.ref f) args) Q E s := by
  obtain ⟨o, pm, cd, doc, h1, h2, h3⟩ := fn.ex
  refine wpAny_call (call_cells_ret rm.room (k.get h1 (ne_dat h2 fun h => by cases h)) h2 (kLimit hlim k) (kCode h3 k) (hbind pm cd doc) (fun x hx => ?_) (fun h₁ tk F X => ?_) hco hgen hk)
  · have := List.all_eq_true.mp hkind x.1 (List.mem_map_of_mem (f := (·.1)) hx)
    rw [Bool.or_eq_true, Bool.and_eq_true, beq_iff_eq, beq_iff_eq] at this
    exact this
  have hkd : (envOfC r.name r.scope s.heap.objs.size f cd).kindOf = (fun y => r.scope.names.lookup y) := rfl
  rw [hkd] at F X
  have hcs' : ∀ x c v, (x, c, v) ∈ cs → (cellsFrom (s.heap.objs.size + 1) r.scope.names []).lookup x = some c ∧ bindC (fun y => r.scope.names.lookup y) binds (fun _ => none) x = v := fun x c v m => by
    have := map_at hcs (x, c, v) m
    exact ⟨(Prod.mk.inj this).1, (Prod.mk.inj this).2⟩
  refine h h₁ tk cd ?_ rm.deeper
  exact {
    loc := ⟨_, F.ns, fun x v a => map_at hvs (x, some v) a.mem⟩
    nv := nodup_of hnv
    cel := fun x c v m => by
      obtain ⟨e1, e2⟩ := hcs' x c v m
      exact e2 ▸ X.cell x c e1
    mls := fun p m => by cases m
    kb := .of F.keep
    ob := fun a ha => by
      have hle : s.heap.objs.size ≤ a := by
        rcases List.mem_cons.mp ha with rfl | ha
        · exact Nat.le_refl _
        · rw [List.map_nil, List.append_nil] at ha
          obtain ⟨⟨x, c, v⟩, hm, rfl⟩ := List.mem_map.mp ha
          obtain ⟨e1, _⟩ := hcs' x c v hm
          exact Nat.le_of_lt (X.above x c (mem_of_lookup e1))
      cases e : s.heap.get? a with
      | none => rfl
      | some o' => exact absurd (Heap.lt_size e) (Nat.not_lt.mpr hle)
    k0 := fun a o _ e => .inl (F.keep a o e)
    kz := fun a o _ e _ => F.keep a o e
    nd := by
      show (s.heap.objs.size :: (cs.map (·.2.1) ++ [])).Nodup
      rw [List.append_nil, hoff]
      have : (s.heap.objs.size :: offs.map (fun k => s.heap.objs.size + k)) = (0 :: offs).map (fun k => s.heap.objs.size + k) := rfl
      rw [this]
      exact List.Pairwise.map _ (fun a b hab e => hab (Nat.add_left_cancel e)) hno }

theorem ld_global {x : Str} {v : Value} {env : Env} {mg : Str → Option Value} {h : Heap} {M : Model} (hg : h.Ns mainGlobals mg) (hv : mg x = some v)
    (hk : env.scope.kind = .function := by rfl) (hx : env.kindOf x = some .globalImplicit := by rfl) (hgl : env.globals = mainGlobals := by rfl) : Looks M h (loadName env x) v := fun A Q E s k q => by
  unfold loadName
  simp only [Env.blockKind, hk, hx, ScopeKind.isAnnotationScope, Bool.false_and, Bool.false_eq_true, if_false]
  exact Calls.loadGlobal_global (hgl ▸ kNs hg k) hv q
theorem ld_builtin {x : Str} {v : Value} {env : Env} {mg mb : Str → Option Value} {h : Heap} {M : Model} (hg : h.Ns mainGlobals mg) (hb : h.Ns builtinsNs mb) (hm : mg x = none) (hv : mb x = some v)
    (hk : env.scope.kind = .function := by rfl) (hx : env.kindOf x = some .globalImplicit := by rfl) (hgl : env.globals = mainGlobals := by rfl) (hbl : env.builtins = builtinsNs := by rfl) :
    Looks M h (loadName env x) v := fun A Q E s k q => by
  unfold loadName
  simp only [Env.blockKind, hk, hx, ScopeKind.isAnnotationScope, Bool.false_and, Bool.false_eq_true, if_false]
  exact Calls.loadGlobal_builtin (hgl ▸ kNs hg k) hm (hbl ▸ kNs hb k) hv q
theorem ld_free {x : Str} {c : Addr} {v : Value} {env : Env} {h : Heap} {M : Model} (hv : h.IsCell c (some v)) (hc : env.cells.lookup x = some c)
    (hk : env.scope.kind = .function := by rfl) (hl : env.kindOf x = some .free := by rfl) (hn : (x == ("__classdict__" : Str)) = false := by decide) : Looks M h (loadName env x) v := fun A Q E s k q =>
  wpAny_loadName_free hk hl hc (kCell hv k) q hn

/-- a for loop over what an iterator gives, by what holds between its turns -/
theorem for_rule {x : Str} {px : Pos} {body : List Stmt} {env : Env} {Q : Flow → Shared → Prop}
    {hb hs : Heap} {I : Addr} {fp wr : List Addr} {n : Nat} {P : Nat → Value → Prop} {St : Nat → Heap → Prop}
    (W : Walks prog w A I fp wr n P St) (own : List Addr)
    (Inv : Nat → Heap → List (Str × Option Value) → List (Str × Addr × Option Value) → List (Addr × List Value) → Prop)
    (hown : ∀ i hz vs cs ms, Inv i hz vs cs ms → owned env.locals cs ms = own)
    (hst : St 0 s.heap) (hfo : ∀ b ∈ fp, b ∉ own) (hwb : ∀ b ∈ wr, hb.get? b = none) (hws : ∀ b ∈ wr, hs.get? b = none)
    (hseq : ∀ i h, St i h → ∀ b ∈ wr, ∀ o, h.get? b = some o → isSeq o = false) (hsol : ∀ i h, St i h → ∀ b ∈ fp, ∀ o, h.get? b = some o → o ≠ tab0)
    (start : ∃ hz vs cs ms, Inv 0 hz vs cs ms ∧ Fm hb hs hz s.heap env.locals vs cs ms)
    (turn : ∀ i v hs' hz h tk vs cs ms, i < n → P i v → Inv i hz vs cs ms → Fm hb hs' hz h env.locals vs cs ms →
      wpAny (model prog w) A (assign (.Name x px) env v) (fun _ s₂ => wpAny (model prog w) A (execs body env)
        (fun f s' => f = .next ∧ ∃ h' tk' hz' vs' cs' ms', s' = { s with heap := h', toks := tk' } ∧ Inv (i + 1) hz' vs' cs' ms' ∧ Fm hb hs' hz' h' env.locals vs' cs' ms') (fun _ _ => False) s₂) (fun _ _ => False) { s with heap := h, toks := tk })
    (done : ∀ hz h tk vs cs ms, Inv n hz vs cs ms → Fm hb hs hz h env.locals vs cs ms → Q .next { s with heap := h, toks := tk })
    (hx : ∀ v, letOwnedTupleGo (.Name x px) (.ref I) v = pure () := by intro _; rfl) :
    codeAny (model prog w) A (.forLoop (.Name x px) (.ref I) body [] env) (fun r s' => match r with | .ok f => Q f s' | .error e => cameBackBy (model prog w) A env E e s') s := by
  refine codeAny_forLoop
    (fun k s' => ∃ i h tk hz vs cs ms, s' = { s with heap := h, toks := tk } ∧ i ≤ n ∧ k = n - i ∧ St i h ∧ Inv i hz vs cs ms ∧ Fm hb hs hz h env.locals vs cs ms) ?_ n
    (by obtain ⟨hz, vs, cs, ms, i, F⟩ := start; exact ⟨0, s.heap, s.toks, hz, vs, cs, ms, rfl, Nat.zero_le _, rfl, hst, i, F⟩) hx
  rintro k s' ⟨i, h, tk, hz, vs, cs, ms, rfl, hi, rfl, hSt, hI, F⟩
  have ho := hown _ _ _ _ _ hI
  have hwo : ∀ b ∈ wr, b ∉ owned env.locals cs ms := fun b hb => ho ▸ hfo b (W.sub b hb)
  by_cases hlt : i < n
  · refine W.item i _ _ _ hlt hSt fun v h₁ tk₁ hPv hSt₁ hk₁ => ?_
    have F₁ := F.but hk₁ hwo hwb hws (hseq i h hSt)
    refine wpAny_mono (turn i v h₁ hz h₁ tk₁ vs cs ms hlt hPv hI F₁.here) (fun _ s₂ h₂ => ?_) (fun _ _ e => e.elim)
    refine wpAny_mono h₂ (fun f s₃ h₃ => ?_) (fun _ _ e => e.elim)
    obtain ⟨rfl, h', tk', hz', vs', cs', ms', rfl, hI', F'⟩ := h₃
    have ho' := hown _ _ _ _ _ hI'
    have hk' : ∀ a o, a ∉ own → h₁.get? a = some o → KA h' a o := fun a o n e => F'.k0 a o (ho' ▸ n) e
    have hk0 : ∀ a o, a ∉ owned env.locals cs' ms' → hs.get? a = some o → KA h' a o := fun a o m e => by
      rcases F₁.k0 a o (by rw [ho]; rw [ho'] at m; exact m) e with x | ⟨x1, x2, c, x⟩
      · exact hk' a o (ho' ▸ m) x
      · exact .inr ⟨x1, x2, c, (hk' a _ (ho' ▸ m) x).get (ne_tab1 c)⟩
    refine ⟨n - (i + 1), by omega, i + 1, h', tk', hz', vs', cs', ms', rfl, hlt, rfl, W.frame _ _ _ hSt₁ fun b hb o e => (hk' b o (hfo b hb) e).get (hsol _ _ hSt₁ b hb o e), hI', ?_⟩
    exact { F' with k0 := hk0 }
  · have hin : i = n := by omega
    subst hin
    refine W.done _ _ _ hSt fun h₁ tk₁ hk₁ => ?_
    exact wpAny_execs_nil (done hz h₁ tk₁ vs cs ms hI (F.but hk₁ hwo hwb hws (hseq i h hSt)))

/-- a while loop, by what holds between its turns -/
theorem while_rule {test : Expr} {pos : Pos} {body : List Stmt} {env : Env} {Q : Flow → Shared → Prop}
    (Inv : Nat → Heap → Prop)
    (start : ∃ n, Inv n s.heap)
    (turn : ∀ n h tk, Inv n h → wpAny (model prog w) A (isTrue test env (eval test env)) (fun b s₂ =>
        if b = true then wpAny (model prog w) A (execs body env) (fun f s₃ => f = .next ∧ ∃ h' tk' m, s₃ = { s with heap := h', toks := tk' } ∧ m < n ∧ Inv m h') (fun _ _ => False) s₂
        else Q .next s₂) (fun _ _ => False) { s with heap := h, toks := tk }) :
    wpAny (model prog w) A (exec (.While test body [] pos) env) Q E s := by
  obtain ⟨n, h0⟩ := start
  refine wpAny_While (codeAny_whileLoop (fun k s' => ∃ h tk, s' = { s with heap := h, toks := tk } ∧ Inv k h) ?_ n ⟨s.heap, s.toks, rfl, h0⟩)
  rintro n s' ⟨h, tk, rfl, hI⟩
  refine wpAny_mono (turn n h tk hI) (fun b s₂ h₂ => ?_) (fun _ _ e => e.elim)
  cases b with
  | false =>
    simp only [Bool.false_eq_true, if_false] at h₂ ⊢
    exact wpAny_execs_nil h₂
  | true =>
    simp only [if_true] at h₂ ⊢
    refine wpAny_mono h₂ (fun f s₃ h₃ => ?_) (fun _ _ e => e.elim)
    obtain ⟨rfl, h', tk', m, rfl, hm, hI'⟩ := h₃
    exact ⟨m, hm, h', tk', rfl, hI'⟩
end
mutual
/-- v stands for the data d in h, its lists and tuples at addresses that P takes -/
inductive Rep (P : Addr → Prop) (h : Heap) : Value → PyData → Prop
  | none : Rep P h .none .none
  | bool (b) : Rep P h (.bool b) (.bool b)
  | int (i t) : Rep P h (.int i t) (.int i)
  | str (x t) : Rep P h (.str x t) (.str x)
  | list {a o vs n xs} : P a → h.get? a = some o → o.cls = .type "list" → o.data = .seq vs n → o.dict = none → RepAll P h vs.toList xs → Rep P h (.ref a) (.list xs)
  | tuple {a o vs n xs} : P a → h.get? a = some o → o.cls = .type "tuple" → o.data = .seq vs n → RepAll P h vs.toList xs → Rep P h (.ref a) (.tuple xs)
inductive RepAll (P : Addr → Prop) (h : Heap) : List Value → List PyData → Prop
  | nil : RepAll P h [] []
  | cons {v vs d ds} : Rep P h v d → RepAll P h vs ds → RepAll P h (v :: vs) (d :: ds)
end

section
variable {P P' : Addr → Prop} {h h' : Heap}
mutual
theorem Rep.mono' (hp : ∀ a, P a → P' a) (k : ∀ a o, P a → h.get? a = some o → isSeq o = true → h'.get? a = some o) : ∀ {v d}, Rep P h v d → Rep P' h' v d
  | _, _, .none => .none
  | _, _, .bool b => .bool b
  | _, _, .int i t => .int i t
  | _, _, .str x t => .str x t
  | _, _, .list p e c d z r => .list (hp _ p) (k _ _ p e (by unfold isSeq; rw [d])) c d z (RepAll.mono' hp k r)
  | _, _, .tuple p e c d r => .tuple (hp _ p) (k _ _ p e (by unfold isSeq; rw [d])) c d (RepAll.mono' hp k r)
theorem RepAll.mono' (hp : ∀ a, P a → P' a) (k : ∀ a o, P a → h.get? a = some o → isSeq o = true → h'.get? a = some o) : ∀ {v d}, RepAll P h v d → RepAll P' h' v d
  | _, _, .nil => .nil
  | _, _, .cons r rs => .cons (Rep.mono' hp k r) (RepAll.mono' hp k rs)
end
theorem Rep.keep {v : Value} {d : PyData} (r : Rep P h v d) (k : Keep h h') : Rep P h' v d := r.mono' (fun _ p => p) fun a o _ e q => k.get e (ne_seq q)
theorem RepAll.keep {v : List Value} {d : List PyData} (r : RepAll P h v d) (k : Keep h h') : RepAll P h' v d := r.mono' (fun _ p => p) fun a o _ e q => k.get e (ne_seq q)
theorem Rep.weak {v : Value} {d : PyData} (r : Rep P h v d) (hp : ∀ a, P a → P' a) : Rep P' h v d := r.mono' hp fun a o _ e _ => e
theorem RepAll.weak {v : List Value} {d : List PyData} (r : RepAll P h v d) (hp : ∀ a, P a → P' a) : RepAll P' h v d := r.mono' hp fun a o _ e _ => e
theorem RepAll.length : ∀ {v : List Value} {d : List PyData}, RepAll P h v d → v.length = d.length
  | _, _, .nil => rfl
  | _, _, .cons _ rs => by rw [List.length_cons, List.length_cons, RepAll.length rs]
theorem RepAll.snoc : ∀ {vs : List Value} {ds : List PyData} {v d}, RepAll P h vs ds → Rep P h v d → RepAll P h (vs ++ [v]) (ds ++ [d])
  | _, _, _, _, .nil, r => .cons r .nil
  | _, _, _, _, .cons q qs, r => .cons q (RepAll.snoc qs r)
theorem RepAll.append : ∀ {vs : List Value} {ds : List PyData} {vs' ds'}, RepAll P h vs ds → RepAll P h vs' ds' → RepAll P h (vs ++ vs') (ds ++ ds')
  | _, _, _, _, .nil, r => r
  | _, _, _, _, .cons q qs, r => .cons q (RepAll.append qs r)
theorem RepAll.get : ∀ {vs : List Value} {ds : List PyData}, RepAll P h vs ds → ∀ {i : Nat} {v : Value}, vs[i]? = some v → ∃ d, ds[i]? = some d ∧ Rep P h v d
  | _, _, .nil, _, _, e => by simp at e
  | _, _, .cons q qs, 0, _, e => by simp at e; subst e; exact ⟨_, by simp, q⟩
  | _, _, .cons q qs, i + 1, _, e => by
    rw [List.getElem?_cons_succ] at e ⊢
    exact RepAll.get qs e
mutual
theorem Rep.live : ∀ {v d}, Rep P h v d → Rep (fun a => P a ∧ ∃ o, h.get? a = some o) h v d
  | _, _, .none => .none
  | _, _, .bool b => .bool b
  | _, _, .int i t => .int i t
  | _, _, .str x t => .str x t
  | _, _, .list p e c d z r => .list ⟨p, _, e⟩ e c d z (RepAll.live r)
  | _, _, .tuple p e c d r => .tuple ⟨p, _, e⟩ e c d (RepAll.live r)
theorem RepAll.live : ∀ {v d}, RepAll P h v d → RepAll (fun a => P a ∧ ∃ o, h.get? a = some o) h v d
  | _, _, .nil => .nil
  | _, _, .cons r rs => .cons (Rep.live r) (RepAll.live rs)
end
mutual
theorem Rep.reads : ∀ {v d}, Rep P h v d → ∃ as, Reads h v d as
  | _, _, .none => ⟨_, .none⟩
  | _, _, .bool b => ⟨_, .bool b⟩
  | _, _, .int i t => ⟨_, .int i t⟩
  | _, _, .str x t => ⟨_, .str x t⟩
  | _, _, .list p e c d z r => let ⟨as, q⟩ := RepAll.reads r; ⟨_, .list e c d q⟩
  | _, _, .tuple p e c d r => let ⟨as, q⟩ := RepAll.reads r; ⟨_, .tuple e c d q⟩
theorem RepAll.reads : ∀ {v d}, RepAll P h v d → ∃ as, ReadsAll h v d as
  | _, _, .nil => ⟨_, .nil⟩
  | _, _, .cons r rs => let ⟨as, q⟩ := Rep.reads r; let ⟨bs, q'⟩ := RepAll.reads rs; ⟨_, .cons q q'⟩
end
end
noncomputable abbrev Any : Addr → Prop := fun _ => True
noncomputable abbrev New (h : Heap) : Addr → Prop := fun a => h.get? a = none
theorem Rep.any {P : Addr → Prop} {h : Heap} {v : Value} {d : PyData} (r : Rep P h v d) : Rep Any h v d := r.weak fun _ _ => trivial
theorem New.back {h h' : Heap} (k : Keep h h') : ∀ a, New h' a → New h a := fun a n => by
  cases e : h.get? a with
  | none => exact e
  | some o => obtain ⟨o', ho'⟩ := (k a o e).live; rw [show h'.get? a = none from n] at ho'; cases ho'
theorem New.of_size {h : Heap} {a : Addr} (ha : h.objs.size ≤ a) : New h a := by
  cases e : h.get? a with
  | none => exact e
  | some o => exact absurd (Heap.lt_size e) (Nat.not_lt.mpr ha)

noncomputable def compEnvK (scope : Scope) (cl : List (Str × Addr)) (C : Addr) (env : Env) : Env :=
  { scope := relabel scope env, locals := C, globals := env.globals, cells := cellsFrom (C + 1) scope.names cl, qual := env.qual, func := none, code := env.code, frame := env.frame, builtins := env.builtins }

section
variable {prog : Program} {w : World} {A : Around} {E : Value → Shared → Prop} {s : Shared} {env : Env}

theorem new_comp_env {scope : Scope} {cl : List (Str × Addr)} {Q : Env → Shared → Prop}
    (q : Q { scope := scope, locals := s.heap.objs.size, globals := env.globals, cells := cellsFrom (s.heap.objs.size + 1) scope.names cl, qual := env.qual, func := none, code := env.code, frame := env.frame, builtins := env.builtins }
      { s with heap := pushCells (s.heap.push { cls := .type "dict", data := .dict #[] }) scope.names }) :
    wpAny (model prog w) A (newFunctionEnv scope env.globals cl [] env.qual none .none (some env)) Q E s := by
  simp only [newFunctionEnv, Option.isSome_some, if_true]
  refine wpAny_bind (wpAny_alloc ?_)
  refine wpAny_bind (wpAny_layCells _ (fun name kind cells => by cases hkc : kind == NameKind.cell <;> simp [hkc]) _ _ _ _ ?_)
  rw [show ({ s with heap := s.heap.push { cls := .type "dict", data := .dict #[] } } : Shared).heap.objs.size = s.heap.objs.size + 1 from Heap.size_push ..]
  refine wpAny_bind ?_
  rw [List.forIn_nil]
  exact wpAny_pure (wpAny_pure q)

noncomputable abbrev testsOf (ifs : List Expr) (env : Env) : Sem Bool :=
  forIn ifs true fun c r => if r = true then do let ok ← isTrue c env (eval c env); pure (ForInStep.yield ok) else pure (ForInStep.yield r)

inductive TestOk (r : Bool) (s₁ : Shared) (h : Heap) (ok : Bool) (s' : Shared) : Prop
  | mk (e : ok = r) (h' : Heap) (tk' : Nat) (es : s' = { s₁ with heap := h', toks := tk' }) (k : Keep h h') : TestOk r s₁ h ok s'
inductive EltOk (P : Addr → Prop) (d : PyData) (s₁ : Shared) (h : Heap) (y : Value) (s' : Shared) : Prop
  | mk (h' : Heap) (tk' : Nat) (es : s' = { s₁ with heap := h', toks := tk' }) (k : Keep h h') (r : Rep P h' y d) : EltOk P d s₁ h y s'
inductive CoreI (s₁ : Shared) (n : Nat) (St : Nat → Heap → Prop) (L D : Addr) (vs₀ : Option Value → List (Str × Option Value)) (cs₀ : Option Value → List (Str × Addr × Option Value)) (PP : Addr → Prop) (g : Nat → Option PyData) (k : Nat) (s' : Shared) : Prop
  | mk (i : Nat) (h : Heap) (tk : Nat) (o : Option Value) (ys : List Value) (e : s' = { s₁ with heap := h, toks := tk }) (hi : i ≤ n) (hk : k = n - i) (hS : St i h) (F : Fm s₁.heap s₁.heap s₁.heap h L (vs₀ o) (cs₀ o) [(D, ys)])
      (r : RepAll (fun a => (New s₁.heap a ∨ PP a) ∧ a ≠ D) h ys ((List.range i).filterMap g)) : CoreI s₁ n St L D vs₀ cs₀ PP g k s'
/-- the inner part of a comprehension: s₁ the state ahead of pyIter, s₂ behind it -/
theorem comp_core {elt iter : Expr} {x : Str} {px : Pos} {ifs : List Expr} {scope : Scope} {cl : List (Str × Addr)} {pos : Pos} {s₁ s₂ : Shared} {I : Addr} {fp wr : List Addr} {n : Nat} {P : Nat → Value → Prop}
    {St : Nat → Heap → Prop} {RR : Value → Addr → Result → Shared → Prop} (PP : Addr → Prop) (hPP : ∀ a, PP a → ∃ o, s₁.heap.get? a = some o) (W : Walks prog w A I fp wr n P St) (b : Bool) (g : Nat → Option PyData)
    (hs₂ : ∃ h tk, s₂ = { s₁ with heap := h, toks := tk } ∧ Keep s₁.heap h)
    (hst : St 0 s₂.heap) (hfp : ∀ a ∈ fp, a < s₂.heap.objs.size) (hwr : ∀ a ∈ wr, New s₁.heap a) (hseq : ∀ i h, St i h → ∀ a ∈ wr, ∀ o, h.get? a = some o → isSeq o = false) (hsol : ∀ i h, St i h → ∀ a ∈ fp, ∀ o, h.get? a = some o → o ≠ tab0)
    (hn : n < sizeLine)
    (hk : scope.kind = .function)
    (hx : (compEnvK scope cl 0 env).kindOf x = some (if b then .cell else .local))
    (hpc : ∀ H : Heap, pushCells H scope.names = if b then H.push { cls := .type "cell", data := .cell none } else H)
    (hcf : ∀ C : Addr, cellsFrom (C + 1) scope.names cl = (if b then [(x, C + 1)] else []) ++ cl)
    (test : ∀ C i v h tk, i < n → P i v → Keep s₁.heap h → s₂.heap.objs.size ≤ C → Looks (model prog w) h (loadName (compEnvK scope cl C env) x) v →
      (b = true → h.IsCell (C + 1) (some v)) →
      wpAny (model prog w) A (testsOf ifs (compEnvK scope cl C env)) (TestOk (g i).isSome s₁ h) (fun _ _ => False) { s₁ with heap := h, toks := tk })
    (telt : ∀ C i v h tk d, i < n → P i v → g i = some d → Keep s₁.heap h → s₂.heap.objs.size ≤ C → Looks (model prog w) h (loadName (compEnvK scope cl C env) x) v →
      (b = true → h.IsCell (C + 1) (some v)) →
      wpAny (model prog w) A (eval elt (compEnvK scope cl C env)) (EltOk (fun a => New h a ∨ PP a) d s₁ h) (fun _ _ => False) { s₁ with heap := h, toks := tk })
    (hRR : ∀ D C h' tk ys m', New s₁.heap D → New s₁.heap C → D ≠ C → h'.Ns C m' → h'.PlainList D ys → RepAll (fun a => (New s₁.heap a ∨ PP a) ∧ a ≠ D) h' ys.toList ((List.range n).filterMap g) →
      Keep s₁.heap h' → RR (.ref D) C (.ok .next) { s₁ with heap := h', toks := tk }) :
    wpAny (model prog w) A (newList []) (fun acc s₃ => wpAny (model prog w) A (newFunctionEnv scope env.globals cl [] env.qual none .none (some env)) (fun cenv s₄ =>
      codeAny (model prog w) A (.compStart (.ListComp elt [⟨.Name x px, iter, ifs, 0⟩] scope pos) 0 (.ref I) acc { cenv with scope := relabel scope env }) (RR acc cenv.locals) s₄) E s₃) E s₂ := by
  obtain ⟨H₂, tk₂, rfl, hk₂⟩ := hs₂
  refine wpAny_newObj_type (new_comp_env ?_)
  dsimp only at hst hfp test telt ⊢
  rw [hpc]
  generalize hH3 : H₂.push { cls := .type "list", dict := none, data := .seq ([] : List Value).toArray } = H3
  have hC : H3.objs.size = H₂.objs.size + 1 := by rw [← hH3, Heap.size_push]
  generalize hH4 : (if b = true then (H3.push { cls := .type "dict", data := .dict #[] }).push { cls := .type "cell", data := .cell none } else H3.push { cls := .type "dict", data := .dict #[] }) = H4
  have k23 : ∀ b o, H₂.get? b = some o → H3.get? b = some o := by
    rw [← hH3]; exact fun _ _ e => Heap.get?_push_of_some _ e
  have k34 : ∀ b o, H3.get? b = some o → H4.get? b = some o := by
    rw [← hH4]
    split
    · exact fun _ _ e => Heap.get?_push_of_some _ (Heap.get?_push_of_some _ e)
    · exact fun _ _ e => Heap.get?_push_of_some _ e
  have getD : H4.get? H₂.objs.size = some { cls := .type "list", dict := none, data := .seq ([] : List Value).toArray } := k34 _ _ (hH3 ▸ Heap.get?_push_size _ rfl)
  have getC : H4.get? H3.objs.size = some { cls := .type "dict", data := .dict #[] } := by
    rw [← hH4]
    split
    · exact Heap.get?_push_of_some _ (Heap.get?_push_size _ rfl)
    · exact Heap.get?_push_size _ rfl
  have getX : b = true → H4.get? (H3.objs.size + 1) = some { cls := .type "cell", data := .cell none } := fun hb => by
    rw [← hH4, if_pos hb]
    have := Heap.get?_push_size (H3.push { cls := .type "dict", data := .dict #[] }) (o := { cls := .type "cell", data := .cell none }) rfl
    rwa [Heap.size_push] at this
  have new₂ : ∀ a, H₂.objs.size ≤ a → New s₁.heap a := fun a ha => New.back hk₂ a (New.of_size ha)
  let vs₀ : Option Value → List (Str × Option Value) := fun o => if b then [] else [(x, o)]
  let cs₀ : Option Value → List (Str × Addr × Option Value) := fun o => if b then [(x, H3.objs.size + 1, o)] else []
  have own_eq : ∀ o ys, owned H3.objs.size (cs₀ o) [(H₂.objs.size, ys)] = H3.objs.size :: ((if b then [H3.objs.size + 1] else []) ++ [H₂.objs.size]) := fun o ys => by
    cases b <;> rfl
  have own_ge : ∀ o ys, ∀ a ∈ owned H3.objs.size (cs₀ o) [(H₂.objs.size, ys)], H₂.objs.size ≤ a := fun o ys a ha => by
    rw [own_eq] at ha
    have h3 : H₂.objs.size ≤ H3.objs.size := hC ▸ Nat.le_succ _
    rcases List.mem_cons.mp ha with rfl | ha
    · exact h3
    · rcases List.mem_append.mp ha with ha | ha
      · split at ha
        · rw [List.mem_singleton.mp ha]; exact Nat.le_succ_of_le h3
        · cases ha
      · rw [List.mem_singleton.mp ha]; exact Nat.le_refl _
  have hLD : H3.objs.size ≠ H₂.objs.size := by rw [hC]; exact Nat.succ_ne_self _
  have hXD : H3.objs.size + 1 ≠ H₂.objs.size := by rw [hC]; exact fun e => by have : H₂.objs.size + 1 + 1 = H₂.objs.size := e; omega
  have hXL : H3.objs.size + 1 ≠ H3.objs.size := Nat.succ_ne_self _
  have nd₀ : (H3.objs.size :: ((if b then [H3.objs.size + 1] else []) ++ [H₂.objs.size])).Nodup := by
    cases b
    · simp [hLD]
    · simp [hLD, hXD, Ne.symm hXL]
  have F₀ : Fm s₁.heap s₁.heap s₁.heap H4 H3.objs.size (vs₀ none) (cs₀ none) [(H₂.objs.size, [])] := {
    loc := ⟨fun _ => none, ⟨_, #[], 0, getC, rfl, fun _ he => by simp at he, fun _ => rfl⟩, fun y u a => by
      cases b
      · cases a with
        | there a => cases a
      · cases a⟩
    nv := by cases b <;> simp [vs₀]
    cel := fun y c u m => by
      cases b
      · cases m
      · rcases List.mem_cons.mp m with e | m
        · cases e; exact ⟨_, getX rfl, rfl⟩
        · cases m
    mls := fun p m => by
      rcases List.mem_cons.mp m with rfl | m
      · exact ⟨0, getD⟩
      · cases m
    kb := (hk₂.trans (.of k23)).trans (.of k34)
    ob := fun a ha => new₂ a (own_ge _ _ a ha)
    k0 := fun a o _ e => (hk₂ _ _ e).step fun o' e' => k34 _ _ (k23 _ _ e')
    kz := fun a o _ e q => k34 _ _ (k23 _ _ (hk₂.get e (ne_seq q)))
    nd := by rw [own_eq]; exact nd₀ }
  have kind_eq : ∀ C, (compEnvK scope cl C env).kindOf = (compEnvK scope cl 0 env).kindOf := fun _ => rfl
  have env_eq : ({ scope := relabel scope env, locals := H3.objs.size, globals := env.globals, cells := cellsFrom (H3.objs.size + 1) scope.names cl, qual := env.qual, func := none, code := env.code, frame := env.frame, builtins := env.builtins } : Env) = compEnvK scope cl H3.objs.size env := rfl
  rw [env_eq]
  have hkK : (compEnvK scope cl H3.objs.size env).scope.kind = .function := by show (relabel scope env).kind = _; exact hk
  have loop : ∀ s₃ : Shared, s₃ = { s₁ with heap := H4, toks := tk₂ } →
      codeAny (model prog w) A (.compLoop (.ListComp elt [⟨.Name x px, iter, ifs, 0⟩] scope pos) 0 (.ref I) (.ref H₂.objs.size) (compEnvK scope cl H3.objs.size env)) (RR (.ref H₂.objs.size) H3.objs.size) s₃ := by
    rintro s₃ rfl
    refine codeAny_compLoop_tests
      (CoreI s₁ n St H3.objs.size H₂.objs.size vs₀ cs₀ PP g) ?_ n
      ⟨0, H4, tk₂, none, [], rfl, Nat.zero_le _, rfl, W.frame _ _ _ hst fun a _ o e => k34 _ _ (k23 _ _ e), F₀, .nil⟩
    rintro k s' ⟨i, h, tk, o, ys, rfl, hi, rfl, hSt, F, hY⟩
    have hfo : ∀ a ∈ fp, a ∉ owned H3.objs.size (cs₀ o) [(H₂.objs.size, ys)] := fun a ha hm => absurd (own_ge _ _ a hm) (Nat.not_le.mpr (hfp a ha))
    by_cases hlt : i < n
    · refine W.item i _ _ _ hlt hSt fun v h₁ t₁ hPv hSt₁ hk₁ => ?_
      have F₁ := F.but hk₁ (fun a ha => hfo a (W.sub a ha)) hwr hwr (hseq i h hSt)
      have seqk : ∀ a o', h.get? a = some o' → isSeq o' = true → h₁.get? a = some o' := fun a o' e q => hk₁ a o' (fun ha => by have := hseq i h hSt a ha o' e; rw [q] at this; cases this) e
      have hY₁ := hY.mono' (P' := fun a => (New s₁.heap a ∨ PP a) ∧ a ≠ H₂.objs.size) (fun _ p => p) fun a o' _ e q => seqk a o' e q
      -- store
      have key : ∀ h₂ t₂, Fm s₁.heap s₁.heap s₁.heap h₂ H3.objs.size (vs₀ (some v)) (cs₀ (some v)) [(H₂.objs.size, ys)] → (∀ a o', a ∉ owned H3.objs.size (cs₀ o) [(H₂.objs.size, ys)] → h₁.get? a = some o' → KA h₂ a o') →
          wpAny (model prog w) A (testsOf ifs (compEnvK scope cl H3.objs.size env)) (fun ok s₃ =>
            if ok = true then wpAny (model prog w) A (eval elt (compEnvK scope cl H3.objs.size env)) (fun x s₄ =>
              wpAny (model prog w) A (call (.builtin "list.append") [.ref H₂.objs.size, x]) (fun _ s₅ => ∃ m, m < n - i ∧ CoreI s₁ n St H3.objs.size H₂.objs.size vs₀ cs₀ PP g m s₅)
                (fun _ _ => False) s₄) (fun _ _ => False) s₃
            else ∃ m, m < n - i ∧ CoreI s₁ n St H3.objs.size H₂.objs.size vs₀ cs₀ PP g m s₃) (fun _ _ => False) { s₁ with heap := h₂, toks := t₂ } := by
        intro h₂ t₂ F₂ k₂
        have hSt₂ : St (i + 1) h₂ := W.frame _ _ _ hSt₁ fun a ha o' e => (k₂ a o' (hfo a ha) e).get (hsol _ _ hSt₁ a ha o' e)
        have lk : Looks (model prog w) h₂ (loadName (compEnvK scope cl H3.objs.size env) x) v := by
          cases hb : b with
          | false =>
            subst hb
            exact Fm.ld (env := compEnvK scope cl H3.objs.size env) F₂ At.here hkK hx
          | true =>
            subst hb
            exact Fm.ldc (env := compEnvK scope cl H3.objs.size env) F₂ AtC.here (by show (cellsFrom _ _ _).lookup x = _; rw [hcf]; simp [List.lookup]) hkK hx
        have lc : b = true → h₂.IsCell (H3.objs.size + 1) (some v) := fun hb => by subst hb; exact F₂.cel x _ _ (List.mem_cons_self)
        have hCge : H₂.objs.size ≤ H3.objs.size := by rw [hC]; exact Nat.le_succ _
        have hY₂ := hY₁.mono' (h' := h₂) (P' := fun a => (New s₁.heap a ∨ PP a) ∧ a ≠ H₂.objs.size) (fun _ p => p) fun a o' p e q => by
          refine (k₂ a o' (fun hm => ?_) e).get (ne_seq q)
          rw [own_eq] at hm
          have : a = H3.objs.size ∨ (b = true ∧ a = H3.objs.size + 1) ∨ a = H₂.objs.size := by cases b <;> simpa using hm
          rcases this with rfl | ⟨hb, rfl⟩ | rfl
          · obtain ⟨o'', ho'', hq⟩ := F₁.live_L; rw [e] at ho''; cases ho''; rw [q] at hq; cases hq
          · subst hb
            obtain ⟨o'', ho'', hq⟩ := F₁.live_c (c := H3.objs.size + 1) (by simp [cs₀]); rw [e] at ho''; cases ho''; rw [q] at hq; cases hq
          · exact p.2 rfl
        refine wpAny_mono (test H3.objs.size i v h₂ t₂ hlt hPv F₂.kb hCge lk lc) (fun ok s₃ h₃ => ?_) (fun _ _ e => e.elim)
        obtain ⟨rfl, h₃, t₃, rfl, k₃⟩ := h₃
        have F₃ := F₂.keep k₃
        have hY₃ := hY₂.keep k₃
        have hSt₃ : St (i + 1) h₃ := W.frame _ _ _ hSt₂ fun a ha o' e => k₃.get e (hsol _ _ hSt₂ a ha o' e)
        cases hg : g i with
        | none =>
          simp only [Option.isSome_none, Bool.false_eq_true, if_false]
          refine ⟨n - (i + 1), by omega, i + 1, h₃, t₃, some v, ys, rfl, hlt, rfl, hSt₃, F₃, ?_⟩
          rw [List.range_succ, List.filterMap_append]
          simpa [hg] using hY₃
        | some d =>
          simp only [Option.isSome_some, if_true]
          refine wpAny_mono (telt H3.objs.size i v h₃ t₃ d hlt hPv hg F₃.kb hCge (lk.keeps k₃) (fun hb => kCell (lc hb) k₃)) (fun y s₄ h₄ => ?_) (fun _ _ e => e.elim)
          obtain ⟨h₄, t₄, rfl, k₄, ry⟩ := h₄
          have F₄ := F₃.keep k₄
          have hY₄ := hY₃.keep k₄
          obtain ⟨nD, gD⟩ := F₃.mls (H₂.objs.size, ys) List.mem_cons_self
          have ry' : Rep (fun a => (New s₁.heap a ∨ PP a) ∧ a ≠ H₂.objs.size) h₄ y d := ry.weak fun a na => by
            rcases na with na | pa
            · exact ⟨.inl (New.back F₃.kb a na), fun e => by rw [e] at na; rw [show h₃.get? H₂.objs.size = none from na] at gD; cases gD⟩
            · exact ⟨.inr pa, fun e => by obtain ⟨o, ho⟩ := hPP a pa; rw [e, show s₁.heap.get? H₂.objs.size = none from new₂ _ (Nat.le_refl _)] at ho; cases ho⟩
          have hys : ys.toArray.size ≤ sizeLine := by
            have e1 := hY.length
            have e2 : ((List.range i).filterMap g).length ≤ (List.range i).length := List.length_filterMap_le _ _
            rw [List.length_range] at e2
            rw [List.size_toArray]; omega
          refine wpAny_list_append_plain (hsz := hys) (F₄.mls (H₂.objs.size, ys) List.mem_cons_self) fun h₅ hl₅ hs₅ => ?_
          have hDn : ∀ a o', a ≠ H₂.objs.size → h₄.get? a = some o' → h₅.get? a = some o' := fun a o' ne e => (hs₅.2 a ne).trans e
          refine ⟨n - (i + 1), by omega, i + 1, h₅, t₄, some v, ys ++ [y], rfl, hlt, rfl, W.frame _ _ _ hSt₃ fun a ha o' e => hDn a o' (fun q => hfo a ha (by rw [q, own_eq]; simp)) (k₄.get e (hsol _ _ hSt₃ a ha o' e)), ?_, ?_⟩
          · have nd₄ := F₄.nd
            rw [own_eq] at nd₄
            exact {
              loc := let ⟨m, n, a⟩ := F₄.loc; ⟨m, n.at' fun o e => hDn _ o hLD e, a⟩
              nv := F₄.nv
              cel := fun y' c u m => let ⟨o', ho, hd⟩ := F₄.cel y' c u m; ⟨o', hDn _ _ (fun q => by
                cases b
                · cases m
                · rcases List.mem_cons.mp m with e | m
                  · cases e; exact hXD q
                  · cases m) ho, hd⟩
              mls := fun p m => by
                rcases List.mem_cons.mp m with rfl | m
                · simpa using hl₅
                · cases m
              kb := fun a o' e => (F₄.kb a o' e).step fun o'' e' => hDn a o'' (fun q => by rw [q] at e; rw [show s₁.heap.get? H₂.objs.size = none from new₂ _ (Nat.le_refl _)] at e; cases e) e'
              ob := fun a ha => new₂ a (own_ge (some v) (ys ++ [y]) a ha)
              k0 := fun a o' na e => (F₄.k0 a o' (by rw [own_eq] at na ⊢; exact na) e).step fun o'' e' => hDn a o'' (fun q => na (by rw [q, own_eq]; simp)) e'
              kz := fun a o' na e q => hDn a o' (fun w' => na (by rw [w']; simp)) (F₄.kz a o' na e q)
              nd := by rw [own_eq]; exact nd₄ }
          · rw [List.range_succ, List.filterMap_append]
            have e1 : [i].filterMap g = [d] := by simp [hg]
            rw [e1]
            refine RepAll.snoc (hY₄.mono' (fun _ p => p) fun a o' p e _ => hDn a o' p.2 e) (ry'.mono' (fun _ p => p) fun a o' p e _ => hDn a o' p.2 e)
      have own_o : ∀ o' ys', owned H3.objs.size (cs₀ o') [(H₂.objs.size, ys')] = owned H3.objs.size (cs₀ o) [(H₂.objs.size, ys)] := fun o' ys' => by rw [own_eq, own_eq]
      have up : ∀ h₂, Fm s₁.heap h₁ s₁.heap h₂ H3.objs.size (vs₀ (some v)) (cs₀ (some v)) [(H₂.objs.size, ys)] → Fm s₁.heap s₁.heap s₁.heap h₂ H3.objs.size (vs₀ (some v)) (cs₀ (some v)) [(H₂.objs.size, ys)] := fun h₂ F₂ =>
        { F₂ with k0 := fun a o' na e => (F₁.k0 a o' (by rw [own_o] at na; exact na) e).thr fun o'' e' => F₂.k0 a o'' na e' }
      have kk : ∀ h₂, Fm s₁.heap h₁ s₁.heap h₂ H3.objs.size (vs₀ (some v)) (cs₀ (some v)) [(H₂.objs.size, ys)] → ∀ a o', a ∉ owned H3.objs.size (cs₀ o) [(H₂.objs.size, ys)] → h₁.get? a = some o' → KA h₂ a o' :=
        fun h₂ F₂ a o' na e => F₂.k0 a o' (by rw [own_o]; exact na) e
      have fin : wpAny (model prog w) A (assign (.Name x px) (compEnvK scope cl H3.objs.size env) v) (fun _ s₂ => wpAny (model prog w) A (testsOf ifs (compEnvK scope cl H3.objs.size env)) (fun ok s₃ =>
            if ok = true then wpAny (model prog w) A (eval elt (compEnvK scope cl H3.objs.size env)) (fun x s₄ =>
              wpAny (model prog w) A (call (.builtin "list.append") [.ref H₂.objs.size, x]) (fun _ s₅ => ∃ m, m < n - i ∧ CoreI s₁ n St H3.objs.size H₂.objs.size vs₀ cs₀ PP g m s₅)
                (fun _ _ => False) s₄) (fun _ _ => False) s₃
            else ∃ m, m < n - i ∧ CoreI s₁ n St H3.objs.size H₂.objs.size vs₀ cs₀ PP g m s₃) (fun _ _ => False) s₂) (fun _ _ => False)
            { s₁ with heap := h₁, toks := t₁ } := by
        cases hb : b with
        | false =>
          have hx' : (compEnvK scope cl H3.objs.size env).kindOf x = some .local := by rw [kind_eq, hx, hb]; rfl
          have hp : Put (vs₀ o) x v (vs₀ (some v)) := by simp only [vs₀, hb, Bool.false_eq_true, if_false]; exact Put.here
          have hc : cs₀ o = cs₀ (some v) := by simp only [cs₀, hb, Bool.false_eq_true, if_false]
          refine Fm.st (env := compEnvK scope cl H3.objs.size env) F₁.here hp (fun h₂ F₂ => ?_) hkK hx'
          have F₂' : Fm s₁.heap h₁ s₁.heap h₂ H3.objs.size (vs₀ (some v)) (cs₀ (some v)) [(H₂.objs.size, ys)] := hc ▸ F₂
          exact key h₂ _ (up h₂ F₂') (kk h₂ F₂')
        | true =>
          have hx' : (compEnvK scope cl H3.objs.size env).kindOf x = some .cell := by rw [kind_eq, hx, hb]; rfl
          have hp : PutC (cs₀ o) x (H3.objs.size + 1) v (cs₀ (some v)) := by simp only [cs₀, hb, if_true]; exact PutC.here
          have hc : vs₀ o = vs₀ (some v) := by simp only [vs₀, hb, if_true]
          have hlk : (compEnvK scope cl H3.objs.size env).cells.lookup x = some (H3.objs.size + 1) := by show (cellsFrom _ _ _).lookup x = _; rw [hcf, hb]; simp
          refine Fm.stc (env := compEnvK scope cl H3.objs.size env) F₁.here hp (fun h₂ F₂ => ?_) hlk hkK hx'
          have F₂' : Fm s₁.heap h₁ s₁.heap h₂ H3.objs.size (vs₀ (some v)) (cs₀ (some v)) [(H₂.objs.size, ys)] := hc ▸ F₂
          exact key h₂ _ (up h₂ F₂') (kk h₂ F₂')
      refine wpAny_mono fin (fun _ s' h' => wpAny_mono h' (fun ok s'' h'' => ?_) fun _ _ e => e.elim) fun _ _ e => e.elim
      cases ok with
      | false => simpa using h''
      | true =>
        simp only [if_true] at h'' ⊢
        exact wpAny_mono h'' (fun y s₃ h₃ => wpAny_mono h₃ (fun _ _ z => z) fun _ _ e => e.elim) fun _ _ e => e.elim
    · have hin : i = n := by omega
      subst hin
      refine W.done _ _ _ hSt fun h₁ t₁ hk₁ => ?_
      have F₁ := F.but hk₁ (fun a ha => hfo a (W.sub a ha)) hwr hwr (hseq i h hSt)
      have hY₁ := hY.mono' (P' := fun a => (New s₁.heap a ∨ PP a) ∧ a ≠ H₂.objs.size) (h' := h₁) (fun _ p => p) fun a o' _ e q => hk₁ a o' (fun ha => by have := hseq i h hSt a ha o' e; rw [q] at this; cases this) e
      obtain ⟨m', hm', _⟩ := F₁.loc
      refine hRR _ _ h₁ t₁ ys.toArray m' (new₂ _ (Nat.le_refl _)) (new₂ _ (hC ▸ Nat.le_succ _)) (Ne.symm hLD) hm' (F₁.mls _ List.mem_cons_self) (by simpa using hY₁) F₁.kb
  exact codeAny_compStart_list (loop _ rfl) (W.self 0 _ _ _ (W.frame _ _ _ hst fun a _ o e => k34 _ _ (k23 _ _ e)) (loop _ rfl))
end
/-- what an iterator over xv gives: n values, the i-th as P says -/
noncomputable def IterOf (prog : Program) (w : World) (h : Heap) (xv : Value) (n : Nat) (P : Nat → Value → Prop) : Prop :=
  ∀ (A : Around) (s : Shared) (Q : Value → Shared → Prop) (E : Value → Shared → Prop), A.handled = none → Keep h s.heap →
    (∀ I fp wr St h', Walks prog w A I fp wr n P St → St 0 h' → Keep s.heap h' → (∀ a ∈ fp, a < h'.objs.size) → (∀ a ∈ wr, New s.heap a) →
      (∀ i h, St i h → ∀ a ∈ wr, ∀ o, h.get? a = some o → isSeq o = false) → (∀ i h, St i h → ∀ a ∈ fp, ∀ o, h.get? a = some o → o ≠ tab0) → (∀ a ∈ fp, a ∈ wr ∨ xv = .ref a) → Q (.ref I) { s with heap := h' }) →
    wpAny (model prog w) A (pyIter xv) Q E s

section
variable {prog : Program} {w : World} {h h' : Heap}
theorem IterOf.keep {xv : Value} {n : Nat} {P : Nat → Value → Prop} (x : IterOf prog w h xv n P) (k : Keep h h') : IterOf prog w h' xv n P := fun A s Q E hh k' q => x A s Q E hh (k.trans k') q

theorem iter_list {l : Addr} {items : Array Value} (hl : h.IsList l items) : IterOf prog w h (.ref l) items.size (fun i v => items[i]? = some v) := fun A s Q E hh k q => by
  have hl' : s.heap.IsList l items := kList hl k
  have hlt : l < s.heap.objs.size := let ⟨o, ho, _⟩ := hl'; Heap.lt_size ho
  refine wpAny_pyIter_list hl' ?_
  have gI : (s.heap.push { cls := .type "list_iterator", data := .fields #[.ref l, .int 0 0] }).get? s.heap.objs.size = some { cls := .type "list_iterator", data := .fields #[.ref l, .int 0 0] } := Heap.get?_push_size _ rfl
  refine q s.heap.objs.size _ _ _ _ (Walks.list hh _ l (Nat.ne_of_lt hlt) items) ⟨⟨_, gI, rfl, rfl⟩, hl'.push _⟩ (Keep.push _ _) ?_ ?_ ?_ ?_ ?_
  · intro a ha
    rw [Heap.size_push]
    rcases List.mem_cons.mp ha with rfl | ha
    · exact Nat.lt_succ_self _
    · rw [List.mem_singleton.mp ha]; exact Nat.lt_succ_of_lt hlt
  · intro a ha
    rw [List.mem_singleton.mp ha]; exact New.of_size (Nat.le_refl _)
  · intro i h₁ st a ha o e
    rw [List.mem_singleton.mp ha] at e
    obtain ⟨⟨o', ho', _, hd⟩, _⟩ := st
    rw [ho'] at e; cases e
    unfold isSeq; rw [hd]
  · intro i h₁ st a ha o e
    obtain ⟨⟨o', ho', hc, hd⟩, hl₂⟩ := st
    rcases List.mem_cons.mp ha with rfl | ha
    · rw [ho'] at e; cases e; exact ne_typ hc
    · rw [List.mem_singleton.mp ha] at e
      obtain ⟨o₂, ho₂, hc₂, _⟩ := hl₂
      rw [ho₂] at e; cases e; exact ne_typ hc₂
  · intro a ha
    rcases List.mem_cons.mp ha with rfl | ha
    · exact .inl List.mem_cons_self
    · rw [List.mem_singleton.mp ha]; exact .inr rfl
theorem iter_tuple {l : Addr} {items : Array Value} (hl : h.IsTuple l items) : IterOf prog w h (.ref l) items.size (fun i v => items[i]? = some v) := fun A s Q E hh k q => by
  have hl' : s.heap.IsTuple l items := kTup hl k
  have hlt : l < s.heap.objs.size := let ⟨o, ho, _⟩ := hl'; Heap.lt_size ho
  refine wpAny_pyIter_tuple hl' ?_
  have gI : (s.heap.push { cls := .type "tuple_iterator", data := .fields #[.ref l, .int 0 0] }).get? s.heap.objs.size = some { cls := .type "tuple_iterator", data := .fields #[.ref l, .int 0 0] } := Heap.get?_push_size _ rfl
  refine q s.heap.objs.size _ _ _ _ (Walks.tuple hh _ l (Nat.ne_of_lt hlt) items) ⟨⟨_, gI, rfl, rfl⟩, kTup hl' (Keep.push _ _)⟩ (Keep.push _ _) ?_ ?_ ?_ ?_ ?_
  · intro a ha
    rw [Heap.size_push]
    rcases List.mem_cons.mp ha with rfl | ha
    · exact Nat.lt_succ_self _
    · rw [List.mem_singleton.mp ha]; exact Nat.lt_succ_of_lt hlt
  · intro a ha
    rw [List.mem_singleton.mp ha]; exact New.of_size (Nat.le_refl _)
  · intro i h₁ st a ha o e
    rw [List.mem_singleton.mp ha] at e
    obtain ⟨⟨o', ho', _, hd⟩, _⟩ := st
    rw [ho'] at e; cases e
    unfold isSeq; rw [hd]
  · intro i h₁ st a ha o e
    obtain ⟨⟨o', ho', hc, hd⟩, hl₂⟩ := st
    rcases List.mem_cons.mp ha with rfl | ha
    · rw [ho'] at e; cases e; exact ne_typ hc
    · rw [List.mem_singleton.mp ha] at e
      obtain ⟨o₂, ho₂, hc₂, _⟩ := hl₂
      rw [ho₂] at e; cases e; exact ne_typ hc₂
  · intro a ha
    rcases List.mem_cons.mp ha with rfl | ha
    · exact .inl List.mem_cons_self
    · rw [List.mem_singleton.mp ha]; exact .inr rfl
theorem iter_range {r : Addr} {a b c : Int} {t u v : Tok} {n : Nat} (hr : IsRange h r a b c t u v) (hsmall : Builtin.Range.small a b c = true) (hn : Builtin.Range.rangeSize a b c = (n : Int)) :
    IterOf prog w h (.ref r) n (fun i v => ∃ t, v = .int (a + i * c) t) := fun A s Q E hh k q => by
  have hr' : IsRange s.heap r a b c t u v := kRange hr k
  refine wpAny_pyIter_range hr' hsmall ?_
  refine q s.heap.objs.size _ _ _ _ (Walks.range hh s.heap.objs.size a c n) ?_ (Keep.push _ _) ?_ ?_ ?_ ?_ ?_
  · show IsRangeIter _ _ _ _ _
    rw [hn]
    simpa using Heap.get?_push_size _ rfl
  · intro a ha
    rw [Heap.size_push, List.mem_singleton.mp ha]; exact Nat.lt_succ_self _
  · intro a ha
    rw [List.mem_singleton.mp ha]; exact New.of_size (Nat.le_refl _)
  · intro i h₁ st a ha o e
    rw [List.mem_singleton.mp ha] at e
    have st' : h₁.get? _ = some _ := st
    rw [st'] at e; cases e
    rfl
  · intro i h₁ st a ha o e
    rw [List.mem_singleton.mp ha] at e
    have st' : h₁.get? _ = some _ := st
    rw [st'] at e; cases e
    exact ne_typ (T := "range_iterator") rfl
  · intro a ha; exact .inl ha
theorem iter_str {x : Str} {t : Tok} : IterOf prog w h (.str x t) x.cps.size (SignAt x) := fun A s Q E hh k q => by
  have fin : ∀ ty (o : Obj), (Walks prog w A s.heap.objs.size [s.heap.objs.size] [s.heap.objs.size] x.cps.size (SignAt x) (fun i h => h.IsStrIter s.heap.objs.size ty x t i)) → (s.heap.push o).IsStrIter s.heap.objs.size ty x t 0 →
      Q (.ref s.heap.objs.size) { s with heap := s.heap.push o } := fun ty o W st => by
    refine q s.heap.objs.size _ _ _ _ W st (Keep.push _ _) ?_ ?_ ?_ ?_ ?_
    · intro a ha
      rw [Heap.size_push, List.mem_singleton.mp ha]; exact Nat.lt_succ_self _
    · intro a ha
      rw [List.mem_singleton.mp ha]; exact New.of_size (Nat.le_refl _)
    · intro i h₁ st a ha o e
      rw [List.mem_singleton.mp ha] at e
      obtain ⟨o', ho', _, hd⟩ := st
      rw [ho'] at e; cases e
      unfold isSeq; rw [hd]
    · intro i h₁ st a ha o e
      rw [List.mem_singleton.mp ha] at e
      obtain ⟨o', ho', hc, hd⟩ := st
      rw [ho'] at e; cases e
      exact ne_typ hc
    · intro a ha; exact .inl ha
  cases ha : x.cps.all (· < 128)
  · exact wpAny_pyIter_wide ha (fin _ _ (Walks.strWide hh _ x t) ⟨_, Heap.get?_push_size _ rfl, rfl, rfl⟩)
  · exact wpAny_pyIter_ascii ha (fin _ _ (Walks.strAscii hh _ x t) ⟨_, Heap.get?_push_size _ rfl, rfl, rfl⟩)
end

section
variable {prog : Program} {w : World} {A : Around} {E : Value → Shared → Prop} {s : Shared} {env : Env}

/-- what a comprehension asks of its test and its element -/
structure CompAt (prog : Program) (w : World) (A : Around) (env : Env) (scope : Scope) (cl : List (Str × Addr)) (x : Str) (ifs : List Expr) (elt : Expr) (b : Bool) (n : Nat) (P : Nat → Value → Prop) (g : Nat → Option PyData) (s₁ : Shared) : Prop where
  test : ∀ C i v h tk, i < n → P i v → Keep s₁.heap h → New s₁.heap C → Looks (model prog w) h (loadName (compEnvK scope cl C env) x) v → (b = true → h.IsCell (C + 1) (some v)) →
    wpAny (model prog w) A (testsOf ifs (compEnvK scope cl C env)) (TestOk (g i).isSome s₁ h) (fun _ _ => False) { s₁ with heap := h, toks := tk }
  elt : ∀ C i v h tk d, i < n → P i v → g i = some d → Keep s₁.heap h → New s₁.heap C → Looks (model prog w) h (loadName (compEnvK scope cl C env) x) v → (b = true → h.IsCell (C + 1) (some v)) →
    wpAny (model prog w) A (eval elt (compEnvK scope cl C env)) (EltOk (New h) d s₁ h) (fun _ _ => False) { s₁ with heap := h, toks := tk }

/-- what a comprehension asks of its test and its element -/
structure CompAtP (prog : Program) (w : World) (A : Around) (env : Env) (scope : Scope) (cl : List (Str × Addr)) (x : Str) (ifs : List Expr) (elt : Expr) (b : Bool) (n : Nat) (P : Nat → Value → Prop) (g : Nat → Option PyData) (s₁ : Shared) (PP : Addr → Prop) : Prop where
  test : ∀ C i v h tk, i < n → P i v → Keep s₁.heap h → New s₁.heap C → Looks (model prog w) h (loadName (compEnvK scope cl C env) x) v → (b = true → h.IsCell (C + 1) (some v)) →
    wpAny (model prog w) A (testsOf ifs (compEnvK scope cl C env)) (TestOk (g i).isSome s₁ h) (fun _ _ => False) { s₁ with heap := h, toks := tk }
  elt : ∀ C i v h tk d, i < n → P i v → g i = some d → Keep s₁.heap h → New s₁.heap C → Looks (model prog w) h (loadName (compEnvK scope cl C env) x) v → (b = true → h.IsCell (C + 1) (some v)) →
    wpAny (model prog w) A (eval elt (compEnvK scope cl C env)) (EltOk (fun a => New h a ∨ PP a) d s₁ h) (fun _ _ => False) { s₁ with heap := h, toks := tk }

/-- what of a comprehension's scope is looked at -/
structure CompSc (env : Env) (scope : Scope) (cl : List (Str × Addr)) (x : Str) (b : Bool) : Prop where
  clos : closureFor scope env = pure cl
  kind : scope.kind = .function
  names : ∀ y ∈ scope.names, y.2 = .local → scope.names.lookup y.1 = some .local
  hx : (compEnvK scope cl 0 env).kindOf x = some (if b then .cell else .local)
  pc : ∀ H : Heap, pushCells H scope.names = if b then H.push { cls := .type "cell", data := .cell none } else H
  cf : ∀ C : Addr, cellsFrom (C + 1) scope.names cl = (if b then [(x, C + 1)] else []) ++ cl

inductive ListGot (R : Addr → Prop) (h : Heap) (D : Addr) (ds : List PyData) : Prop
  | mk (ys : Array Value) (hl : h.PlainList D ys) (r : RepAll R h ys.toList ds) : ListGot R h D ds
inductive CompOb (prog : Program) (w : World) (A : Around) (env : Env) (scope : Scope) (cl : List (Str × Addr)) (x : Str) (ifs : List Expr) (elt : Expr) (b : Bool) (Q : Value → Shared → Prop) (xv : Value) (s₁ : Shared) : Prop
  | mk (n : Nat) (P : Nat → Value → Prop) (g : Nat → Option PyData) (it : IterOf prog w s₁.heap xv n P) (hn : n < sizeLine) (ca : CompAt prog w A env scope cl x ifs elt b n P g s₁)
      (q : ∀ D h' tk, Keep s₁.heap h' → New s₁.heap D → ListGot (fun a => New s₁.heap a ∧ a ≠ D) h' D ((List.range n).filterMap g) → Q (.ref D) { s₁ with heap := h', toks := tk }) : CompOb prog w A env scope cl x ifs elt b Q xv s₁
inductive CompObP (prog : Program) (w : World) (A : Around) (env : Env) (scope : Scope) (cl : List (Str × Addr)) (x : Str) (ifs : List Expr) (elt : Expr) (b : Bool) (PP : Addr → Prop) (Q : Value → Shared → Prop) (xv : Value) (s₁ : Shared) : Prop
  | mk (n : Nat) (P : Nat → Value → Prop) (g : Nat → Option PyData) (it : IterOf prog w s₁.heap xv n P) (hn : n < sizeLine) (hPP : ∀ a, PP a → ∃ o, s₁.heap.get? a = some o) (ca : CompAtP prog w A env scope cl x ifs elt b n P g s₁ PP)
      (q : ∀ D h' tk, Keep s₁.heap h' → New s₁.heap D → ListGot (fun a => (New s₁.heap a ∨ PP a) ∧ a ≠ D) h' D ((List.range n).filterMap g) → Q (.ref D) { s₁ with heap := h', toks := tk }) : CompObP prog w A env scope cl x ifs elt b PP Q xv s₁
inductive CompOb2 (prog : Program) (w : World) (A : Around) (env : Env) (scope : Scope) (cl : List (Str × Addr)) (x : Str) (ifs : List Expr) (elt : Expr) (b : Bool) (y : Str) (vs : List (Str × Option Value)) (vs' : Addr → List (Str × Option Value)) (h₀ : Heap) (F : Heap → Addr → Prop) (Q : Flow → Shared → Prop) (xv : Value) (s₁ : Shared) : Prop
  | mk (n : Nat) (P : Nat → Value → Prop) (g : Nat → Option PyData) (it : IterOf prog w s₁.heap xv n P) (hn : n < sizeLine) (ca : CompAt prog w A env scope cl x ifs elt b n P g s₁) (k : Keep h₀ s₁.heap)
      (q : ∀ D, Put vs y (.ref D) (vs' D) ∧ ∀ h' tk, New s₁.heap D → ListGot (fun a => New s₁.heap a ∧ a ≠ D) h' D ((List.range n).filterMap g) → F h' D → Q .next { s₁ with heap := h', toks := tk }) : CompOb2 prog w A env scope cl x ifs elt b y vs vs' h₀ F Q xv s₁
theorem comp_eval {elt iter : Expr} {x : Str} {px : Pos} {ifs : List Expr} {scope : Scope} {cl : List (Str × Addr)} {pos : Pos} {Q : Value → Shared → Prop} (b : Bool)
    (hh : A.handled = none) (sc : CompSc env scope cl x b)
    (h : wpAny (model prog w) A (eval iter env) (CompOb prog w A env scope cl x ifs elt b Q) E s)
    (hs : ∀ x, foldedSetIterable iter env x = pure x := by intro _; rfl) :
    wpAny (model prog w) A (eval (.ListComp elt [⟨.Name x px, iter, ifs, 0⟩] scope pos) env) Q E s := by
  rw [eval_ListComp]
  refine wpAny_comprehension_free (use := none) rfl hs sc.clos sc.kind sc.names (wpAny_mono h (fun xv s₁ h₁ => ?_) fun _ _ e => e)
  obtain ⟨n, P, g, it, hn, ca, hQ⟩ := h₁
  refine it A s₁ _ _ hh Keep.rfl' (fun I fp wr St h' W hst k hfp hwr hseq hsol hf => ?_)
  refine comp_core (RR := fun acc C => compPost (model prog w) A E none Q acc C) (s₁ := s₁) (fun _ => False) (fun _ h => h.elim) W b g ⟨h', s₁.toks, rfl, k⟩ hst hfp hwr hseq hsol hn sc.kind sc.hx sc.pc sc.cf
    (fun C i v h tk hi hP hk hC l c => ca.test C i v h tk hi hP hk (New.back k C (New.of_size hC)) l c) (fun C i v h tk d hi hP hg hk hC l c => wpAny_mono (ca.elt C i v h tk d hi hP hg hk (New.back k C (New.of_size hC)) l c) (fun y s' ⟨h', tk', e, k', r⟩ => ⟨h', tk', e, k', r.weak fun _ n => .inl n⟩) fun _ _ e => e) ?_
  intro D C h'' tk ys m' nD nC hDC hn' hl hr hk'
  replace hr := hr.weak (P' := fun a => New s₁.heap a ∧ a ≠ D) fun a p => ⟨p.1.elim id False.elim, p.2⟩
  refine ⟨m', hn', fun h₃ hs₃ => ?_⟩
  have kk : ∀ a o, a ≠ C → h''.get? a = some o → h₃.get? a = some o := fun a o ne e => (hs₃.2 a ne).trans e
  refine hQ D h₃ tk (fun a o e => (hk' a o e).step fun o' e' => kk a o' (fun q => by rw [q] at e; rw [show s₁.heap.get? C = none from nC] at e; cases e) e') nD
    ⟨ys, hl.at fun o e => kk D o hDC e, hr.mono' (fun _ p => p) fun a o _ e q => kk a o (fun w => ?_) e⟩
  obtain ⟨oc, es, ep, hc, hd, _⟩ := hn'
  rw [w, hc] at e; cases e
  unfold isSeq at q; rw [hd] at q; cases q

theorem comp_evalP {elt iter : Expr} {x : Str} {px : Pos} {ifs : List Expr} {scope : Scope} {cl : List (Str × Addr)} {pos : Pos} {Q : Value → Shared → Prop} (b : Bool) (PP : Addr → Prop)
    (hh : A.handled = none) (sc : CompSc env scope cl x b)
    (h : wpAny (model prog w) A (eval iter env) (CompObP prog w A env scope cl x ifs elt b PP Q) E s)
    (hs : ∀ x, foldedSetIterable iter env x = pure x := by intro _; rfl) :
    wpAny (model prog w) A (eval (.ListComp elt [⟨.Name x px, iter, ifs, 0⟩] scope pos) env) Q E s := by
  rw [eval_ListComp]
  refine wpAny_comprehension_free (use := none) rfl hs sc.clos sc.kind sc.names (wpAny_mono h (fun xv s₁ h₁ => ?_) fun _ _ e => e)
  obtain ⟨n, P, g, it, hn, hPP, ca, hQ⟩ := h₁
  refine it A s₁ _ _ hh Keep.rfl' (fun I fp wr St h' W hst k hfp hwr hseq hsol hf => ?_)
  refine comp_core (RR := fun acc C => compPost (model prog w) A E none Q acc C) (s₁ := s₁) PP hPP W b g ⟨h', s₁.toks, rfl, k⟩ hst hfp hwr hseq hsol hn sc.kind sc.hx sc.pc sc.cf
    (fun C i v h tk hi hP hk hC l c => ca.test C i v h tk hi hP hk (New.back k C (New.of_size hC)) l c) (fun C i v h tk d hi hP hg hk hC l c => ca.elt C i v h tk d hi hP hg hk (New.back k C (New.of_size hC)) l c) ?_
  intro D C h'' tk ys m' nD nC hDC hn' hl hr hk'
  refine ⟨m', hn', fun h₃ hs₃ => ?_⟩
  have kk : ∀ a o, a ≠ C → h''.get? a = some o → h₃.get? a = some o := fun a o ne e => (hs₃.2 a ne).trans e
  refine hQ D h₃ tk (fun a o e => (hk' a o e).step fun o' e' => kk a o' (fun q => by rw [q] at e; rw [show s₁.heap.get? C = none from nC] at e; cases e) e') nD
    ⟨ys, hl.at fun o e => kk D o hDC e, hr.mono' (fun _ p => p) fun a o _ e q => kk a o (fun w => ?_) e⟩
  obtain ⟨oc, es, ep, hc, hd, _⟩ := hn'
  rw [w, hc] at e; cases e
  unfold isSeq at q; rw [hd] at q; cases q

theorem comp_assign2 {elt iter : Expr} {x y : Str} {px py : Pos} {ifs : List Expr} {scope : Scope} {cl : List (Str × Addr)} {pos spos : Pos} {Q : Flow → Shared → Prop} (b : Bool)
    {hb hs hz : Heap} {vs : List (Str × Option Value)} (vs' : Addr → List (Str × Option Value)) {cs : List (Str × Addr × Option Value)} {ms : List (Addr × List Value)}
    (F : Fm hb hs hz s.heap env.locals vs cs ms)
    (hh : A.handled = none) (sc : CompSc env scope cl x b) (hk : env.scope.kind = .function) (hy : env.kindOf y = some .local)
    (hsw : swapsWith (.ListComp elt [⟨.Name x px, iter, ifs, 0⟩] scope pos) (some (.Name y py)) spos.line env = pure true)
    (h : wpAny (model prog w) A (eval iter env) (CompOb2 prog w A env scope cl x ifs elt b y vs vs' s.heap (fun h' D => Fm hb hs hz h' env.locals (vs' D) cs ms) Q) E s)
    (hs' : ∀ x, foldedSetIterable iter env x = pure x := by intro _; rfl) :
    wpAny (model prog w) A (exec (.Assign [.Name y py] (.ListComp elt [⟨.Name x px, iter, ifs, 0⟩] scope pos) spos) env) Q E s := by
  rw [exec_Assign_Name_used _ _ _ _ hsw]
  refine wpAny_bind (wpAny_standAt (wpAny_bind ?_))
  show wpAny _ A (do let _ ← comprehension (.ListComp elt [⟨.Name x px, iter, ifs, 0⟩] scope pos) scope env _ (newList []) false (eval iter env) (some (assign (.Name y py) env))) _ _ s
  refine wpAny_bind (wpAny_mono (wpAny_comprehension_free (use := some (assign (.Name y py) env)) (Q := fun _ s' => Q .next s') rfl hs' sc.clos sc.kind sc.names
    (wpAny_mono h (fun xv s₁ h₁ => ?_) fun _ _ e => e)) (fun _ s' hq => wpAny_pure (wpAny_pure hq)) fun _ _ e => e)
  obtain ⟨n, P, g, it, hn, ca, ks, hQ⟩ := h₁
  have F₁ := F.keep ks
  refine it A s₁ _ _ hh Keep.rfl' (fun I fp wr St h' W hst k hfp hwr hseq hsol hf => ?_)
  refine comp_core (RR := fun acc C => compPost (model prog w) A E (some (assign (.Name y py) env)) (fun _ s' => Q .next s') acc C) (s₁ := s₁) (fun _ => False) (fun _ h => h.elim) W b g ⟨h', s₁.toks, rfl, k⟩ hst hfp hwr hseq hsol hn sc.kind sc.hx sc.pc sc.cf
    (fun C i v h tk hi hP hk hC l c => ca.test C i v h tk hi hP hk (New.back k C (New.of_size hC)) l c) (fun C i v h tk d hi hP hg hk hC l c => wpAny_mono (ca.elt C i v h tk d hi hP hg hk (New.back k C (New.of_size hC)) l c) (fun y s' ⟨h', tk', e, k', r⟩ => ⟨h', tk', e, k', r.weak fun _ n => .inl n⟩) fun _ _ e => e) ?_
  intro D C h'' tk ys m' nD nC hDC hn' hl hr hk'
  replace hr := hr.weak (P' := fun a => New s₁.heap a ∧ a ≠ D) fun a p => ⟨p.1.elim id False.elim, p.2⟩
  obtain ⟨hp, hQ⟩ := hQ D
  have F₂ := F₁.keep hk'
  obtain ⟨oL, goL, soL⟩ := F₁.live_L
  have hLC : env.locals ≠ C := fun q => by rw [q, show s₁.heap.get? C = none from nC] at goL; cases goL
  have hLD : env.locals ≠ D := fun q => by rw [q, show s₁.heap.get? D = none from nD] at goL; cases goL
  show wpAny _ A (assign (.Name y py) env (.ref D)) _ _ _
  refine Fm.st F₂.here hp (fun h₂ F₃ => ?_) hk hy
  have nown : ∀ a, New s₁.heap a → a ∉ owned env.locals cs ms := fun a na ha => by
    obtain ⟨o, ho⟩ := F₁.live ha
    rw [show s₁.heap.get? a = none from na] at ho; cases ho
  have nC0 : ∀ o, h''.get? C = some o → o ≠ tab0 := fun o e => by
    obtain ⟨oc, es, ep, hc, hd, _⟩ := hn'
    rw [hc] at e; cases e
    exact ne_dat hd (fun h => by cases h)
  refine ⟨m', hn'.at' fun o e => (F₃.k0 C o (nown C nC) e).get (nC0 o e), fun h₃ hs₃ => ?_⟩
  have nC₂ : ∃ o, h₂.get? C = some o ∧ isSeq o = false := by
    obtain ⟨oc, es, ep, hc, hd, _⟩ := hn'
    exact ⟨oc, (F₃.k0 C oc (nown C nC) hc).get (nC0 oc hc), by unfold isSeq; rw [hd]⟩
  obtain ⟨oc, goc, soc⟩ := nC₂
  have F₃' : Fm hb hs hz h₂ env.locals (vs' D) cs ms := { F₃ with k0 := fun a o na e => (F₂.k0 a o na e).thr fun o' e' => F₃.k0 a o' na e' }
  have F₄ : Fm hb hs hz h₃ env.locals (vs' D) cs ms := F₃'.but (wr := [C]) (fun a o ne e => (hs₃.2 a fun q => ne (by rw [q]; exact List.mem_singleton.mpr rfl)).trans e)
    (fun a ha => by rw [List.mem_singleton.mp ha]; exact nown C nC)
    (fun a ha => by
      rw [List.mem_singleton.mp ha]
      exact New.back F₁.kb C nC)
    (fun a ha => by
      rw [List.mem_singleton.mp ha]
      cases e : hs.get? C with
      | none => rfl
      | some o => obtain ⟨o', ho'⟩ := (F₁.k0 C o (nown C nC) e).live; rw [show s₁.heap.get? C = none from nC] at ho'; cases ho')
    (fun a ha o e => by rw [List.mem_singleton.mp ha] at e; rw [goc] at e; cases e; exact soc)
  have kk : ∀ a o, a ≠ C → a ≠ env.locals → a ∉ owned env.locals cs ms → o ≠ tab0 → h''.get? a = some o → h₃.get? a = some o := fun a o n1 n2 n3 n4 e => (hs₃.2 a n1).trans ((F₃.k0 a o n3 e).get n4)
  refine hQ h₃ _ nD ⟨ys, (by obtain ⟨n, e⟩ := hl; exact ⟨n, kk D _ hDC (Ne.symm hLD) (nown D nD) (ne_typ (T := "list") rfl) e⟩), hr.mono' (fun _ p => p) fun a o p e q => kk a o (fun w => ?_) (fun w => ?_) (nown a p.1) (ne_seq q) e⟩ F₄
  · obtain ⟨oc', es, ep, hc, hd, _⟩ := hn'
    rw [w, hc] at e; cases e
    unfold isSeq at q; rw [hd] at q; cases q
  · have := nown a p.1
    rw [w] at this
    exact this mem_own_L

inductive ForNext (Inv : Nat → Heap → List (Str × Option Value) → List (Str × Addr × Option Value) → List (Addr × List Value) → Prop) (hb hs' : Heap) (L : Addr) (s : Shared) (i : Nat) (f : Flow) (s' : Shared) : Prop
  | mk (hf : f = .next) (h' : Heap) (tk' : Nat) (hz' : Heap) (vs' : List (Str × Option Value)) (cs' : List (Str × Addr × Option Value)) (ms' : List (Addr × List Value)) (e : s' = { s with heap := h', toks := tk' })
      (I : Inv (i + 1) hz' vs' cs' ms') (F : Fm hb hs' hz' h' L vs' cs' ms') : ForNext Inv hb hs' L s i f s'
inductive ForOb (prog : Program) (w : World) (A : Around) (env : Env) (x : Str) (px : Pos) (body : List Stmt) (own : List Addr) (Inv : Nat → Heap → List (Str × Option Value) → List (Str × Addr × Option Value) → List (Addr × List Value) → Prop) (hb hs : Heap) (R : Flow → Shared → Prop) (Q : Flow → Shared → Prop) (xv : Value) (s₁ : Shared) : Prop
  | mk (n : Nat) (P : Nat → Value → Prop) (hz : Heap) (vs : List (Str × Option Value)) (cs : List (Str × Addr × Option Value)) (ms : List (Addr × List Value)) (it : IterOf prog w s₁.heap xv n P) (F : Fm hb hs hz s₁.heap env.locals vs cs ms) (I : Inv 0 hz vs cs ms) (hx : ∀ a, xv = .ref a → a ∉ own)
      (turn : ∀ i v hs' hz h tk vs cs ms, i < n → P i v → Inv i hz vs cs ms → Fm hb hs' hz h env.locals vs cs ms →
        wpAny (model prog w) A (assign (.Name x px) env v) (fun _ s₂ => wpAny (model prog w) A (execs body env)
          (fun f s' => ForNext Inv hb hs' env.locals s₁ i f s' ∨ R f s') (fun _ _ => False) s₂) (fun _ _ => False) { s₁ with heap := h, toks := tk })
      (done : ∀ hz h tk vs cs ms, Inv n hz vs cs ms → Fm hb hs hz h env.locals vs cs ms → Q .next { s₁ with heap := h, toks := tk }) : ForOb prog w A env x px body own Inv hb hs R Q xv s₁
inductive ForOb1 (prog : Program) (w : World) (A : Around) (env : Env) (x : Str) (px : Pos) (body : List Stmt) (own : List Addr) (Inv : Nat → Heap → List (Str × Option Value) → List (Str × Addr × Option Value) → List (Addr × List Value) → Prop) (hb hs : Heap) (Q : Flow → Shared → Prop) (xv : Value) (s₁ : Shared) : Prop
  | mk (n : Nat) (P : Nat → Value → Prop) (hz : Heap) (vs : List (Str × Option Value)) (cs : List (Str × Addr × Option Value)) (ms : List (Addr × List Value)) (it : IterOf prog w s₁.heap xv n P) (F : Fm hb hs hz s₁.heap env.locals vs cs ms) (I : Inv 0 hz vs cs ms) (hx : ∀ a, xv = .ref a → a ∉ own)
      (turn : ∀ i v hs' hz h tk vs cs ms, i < n → P i v → Inv i hz vs cs ms → Fm hb hs' hz h env.locals vs cs ms →
        wpAny (model prog w) A (assign (.Name x px) env v) (fun _ s₂ => wpAny (model prog w) A (execs body env)
          (ForNext Inv hb hs' env.locals s₁ i) (fun _ _ => False) s₂) (fun _ _ => False) { s₁ with heap := h, toks := tk })
      (done : ∀ hz h tk vs cs ms, Inv n hz vs cs ms → Fm hb hs hz h env.locals vs cs ms → Q .next { s₁ with heap := h, toks := tk }) : ForOb1 prog w A env x px body own Inv hb hs Q xv s₁
theorem for_stmt {x : Str} {px pos : Pos} {iter : Expr} {body : List Stmt} {Q : Flow → Shared → Prop} {hb hs : Heap} (hh : A.handled = none) (own : List Addr)
    (Inv : Nat → Heap → List (Str × Option Value) → List (Str × Addr × Option Value) → List (Addr × List Value) → Prop)
    (hown : ∀ i hz vs cs ms, Inv i hz vs cs ms → owned env.locals cs ms = own)
    (h : wpAny (model prog w) A (eval iter env) (ForOb1 prog w A env x px body own Inv hb hs Q) E s)
    (hsf : ∀ x, foldedSetIterable iter env x = pure x := by intro _; rfl) :
    wpAny (model prog w) A (exec (.For (.Name x px) iter body [] pos) env) Q E s := by
  refine wpAny_For (wpAny_mono h (fun xv s₁ h₁ => ?_) fun _ _ e => e) hsf
  obtain ⟨n, P, hz, vs, cs, ms, it, F, hI, hx, turn, done⟩ := h₁
  have ho := hown _ _ _ _ _ hI
  have nown : ∀ a, New s₁.heap a → a ∉ own := fun a na ha => by
    obtain ⟨o, hov⟩ := F.live (ho ▸ ha)
    rw [show s₁.heap.get? a = none from na] at hov; cases hov
  refine it A s₁ _ _ hh Keep.rfl' (fun I fp wr St h' W hst k hfp hwr hseq hsol hf => ?_)
  refine for_rule (s := { s₁ with heap := h' }) (hb := hb) (hs := hs) W own Inv hown hst (fun b hb' => ?_) (fun b hb' => New.back F.kb b (hwr b hb')) (fun b hb' => ?_) hseq hsol ⟨hz, vs, cs, ms, hI, F.keep k⟩
    (fun i v hs' hz h tk vs cs ms a1 a2 a3 a4 => wpAny_mono (turn i v hs' hz h tk vs cs ms a1 a2 a3 a4) (fun _ _ x => wpAny_mono x (fun f s' ⟨e1, h1, t1, z1, v1, c1, m1, e2, I1, F1⟩ => ⟨e1, h1, t1, z1, v1, c1, m1, e2, I1, F1⟩) fun _ _ e => e) fun _ _ e => e) done
  · rcases hf b hb' with hw | hv
    · exact nown b (hwr b hw)
    · exact hx b hv
  · cases e : hs.get? b with
    | none => rfl
    | some o => obtain ⟨o', ho'⟩ := (F.k0 b o (ho ▸ nown b (hwr b hb')) e).live; rw [show s₁.heap.get? b = none from hwr b hb'] at ho'; cases ho'

noncomputable def notSuper : Expr → Bool
  | .Call (.Name _ _) [] [] _ => false
  | _ => true
theorem base_of {o : Expr} {name : Str} {t : Sem Value} (h : notSuper o = true) : attributeBase o name env t = t := by
  unfold attributeBase
  split
  · cases h
  · rfl
theorem mcall {o : Expr} {name : Str} {apos pos : Pos} {args : List Expr} {Q : Value → Shared → Prop}
    (h : wpAny (model prog w) A (eval o env) (fun ov s₁ => wpAny (model prog w) A (getMethod ov name (do return (← importBound o env).getD true)) (fun fx s₂ => wpAny (model prog w) A (callWith pos fx.1 fx.2 (backTo pos (starEach args env)) []) Q E s₂) E s₁) E s)
    (hn : notSuper o = true)
    (hf : methodCallForm (args.length + ([] : List Keyword).length) (backTo pos (starEach args env)) [] = true)
    (hl : (apos.endLine == pos.line) = true) :
    wpAny (model prog w) A (eval (.Call (.Attribute o name apos) args [] pos) env) Q E s := by
  have e : eval (.Call (.Attribute o name apos) args [] pos) env = (do
      let ov ← attributeBase o name env (eval o env)
      standAt apos.atName
      methodCall o name apos pos env ov (args.length + ([] : List Keyword).length) (backTo pos (starEach args env)) []) := rfl
  rw [e, base_of hn]
  refine wpAny_bind (wpAny_mono h (fun ov s₁ h₁ => wpAny_bind (wpAny_standAt ?_)) fun _ _ x => x)
  unfold methodCall
  rw [hf]
  refine wpAny_bind (wpAny_holding (wpAny_mono h₁ (fun fx s₂ h₂ => ?_) fun _ _ x => x))
  obtain ⟨f, first⟩ := fx
  refine wpAny_bind ?_
  unfold methodCallPos
  rw [if_pos (by rw [hl]; rfl)]
  exact wpAny_pure h₂

theorem star1 {e : Expr} {rest : List Expr} (h : isStarred e = false) : starEach (e :: rest) env = (false, eval e env) :: starEach rest env := by
  cases e <;> first | rfl | cases h
theorem stars_plain {pos : Pos} : ∀ {l : List Expr}, l.all (fun e => !isStarred e) = true → (backTo pos (starEach l env)).any (·.1) = false
  | [], _ => rfl
  | e :: l, h => by
    rw [List.all_cons, Bool.and_eq_true] at h
    have h1 : isStarred e = false := by simpa using h.1
    rw [star1 h1]
    show (false || (backTo pos (starEach l env)).any (·.1)) = false
    rw [stars_plain h.2]; rfl
section
variable {M : Model}
theorem aN {e : Expr} {rest : List Expr} {pos : Pos} {Q : List Value → Shared → Prop}
    (h : wpAny M A (eval e env) (fun v s₁ => wpAny M A (spliced (backTo pos (starEach rest env))) (fun vs s₂ => Q (v :: vs) s₂) E s₁) E s)
    (hs : isStarred e = false) : wpAny M A (spliced (backTo pos (starEach (e :: rest) env))) Q E s := args_cons h (star1 hs)
theorem cB {pos : Pos} {id : String} {e : Expr} {rest : List Expr} {Q : Value → Shared → Prop}
    (h : wpAny M A (spliced (backTo pos (starEach (e :: rest) env))) (fun vs s₁ => wpAny M A (call (.builtin id) vs) Q E s₁) E s)
    (hs : isStarred e = false) (hr : rest.all (fun e => !isStarred e) = true) :
    wpAny M A (callWith pos (.builtin id) [] (backTo pos (starEach (e :: rest) env)) []) Q E s := callWith_builtin1 h (star1 hs) (stars_plain hr)
theorem cM {pos : Pos} {id : String} {first : List Value} {e : Expr} {rest : List Expr} {Q : Value → Shared → Prop}
    (h : wpAny M A (spliced (backTo pos (starEach (e :: rest) env))) (fun vs s₁ => wpAny M A (call (.builtin id) (first ++ vs)) Q E s₁) E s)
    (hs : isStarred e = false) (hr : rest.all (fun e => !isStarred e) = true) :
    wpAny M A (callWith pos (.builtin id) first (backTo pos (starEach (e :: rest) env)) []) Q E s := callWith_method1 h (star1 hs) (stars_plain hr)
theorem cT {pos : Pos} {T : String} {e : Expr} {Q : Value → Shared → Prop}
    (h : wpAny M A (eval e env) (fun v s₁ => wpAny M A (call (.type T) [v]) Q E s₁) E s)
    (hs : isStarred e = false) : wpAny M A (callWith pos (.type T) [] (backTo pos (starEach [e] env)) []) Q E s := by
  rw [star1 hs]; exact callWith_type1 h
theorem cD {pos : Pos} {f : Addr} {r : FnRec} {hb : Heap} {e : Expr} {rest : List Expr} {Q : Value → Shared → Prop} (fn : FnAt hb f r)
    (h : wpAny M A (spliced (backTo pos (starEach (e :: rest) env))) (fun vs s₁ => Keep hb s₁.heap ∧ wpAny M A (call (.ref f) vs) Q E s₁) E s)
    (hs : isStarred e = false) : wpAny M A (callWith pos (.ref f) [] (backTo pos (starEach (e :: rest) env)) []) Q E s := by
  obtain ⟨o, pm, cd, doc, h1, h2, h3⟩ := fn.ex
  exact callWith_def h2 (wpAny_mono h (fun vs s₁ h₁ => ⟨h₁.1.get h1 (ne_dat h2 fun h => by cases h), h₁.2⟩) fun _ _ e => e) (star1 hs)
theorem cll {func : Expr} {args : List Expr} {pos : Pos} {Q : Value → Shared → Prop} (hn : ∃ x p, func = .Name x p)
    (h : wpAny M A (eval func env) (fun f s₁ => wpAny M A (callWith pos f [] (backTo pos (starEach args env)) []) Q E s₁) E s) :
    wpAny M A (eval (.Call func args [] pos) env) Q E s := by
  obtain ⟨x, p, rfl⟩ := hn
  exact Call_ h
end

theorem ld_cell {x : Str} {c : Addr} {v : Value} {h : Heap} {M : Model} (hv : h.IsCell c (some v)) (hc : env.cells.lookup x = some c := by rfl)
    (hk : env.scope.kind = .function := by rfl) (hl : env.kindOf x = some .cell := by rfl) : Looks M h (loadName env x) v := fun A Q E s k q =>
  wpAny_loadName_cell hk hl hc (kCell hv k) q

noncomputable def isSliceE : Expr → Bool
  | .Slice .. => true
  | _ => false
theorem sub_plain {slice : Expr} {o i : Value} (h : isSliceE slice = false) : subscripted slice false o i = operate [o, i] (getItem o i) := by
  unfold subscripted
  split <;> first | rfl | (cases h; done) | contradiction
theorem sub_slice {a b : Option Expr} {p : Pos} {o i : Value} : subscripted (.Slice a b none p) false o i = operate [i, o] (getItem o i) := rfl
theorem temp_str {value : Expr} {x : Str} {t : Tok} {r : Value} : letTemporaryGo value (.str x t) r = pure () := by
  unfold letTemporaryGo
  split <;> first | rfl | contradiction
theorem temp_name {x : Str} {p : Pos} {o r : Value} : letTemporaryGo (.Name x p) o r = pure () := rfl

theorem sitem {value slice : Expr} {x : Str} {t u : Tok} {c n : Nat} {Q : Value → Shared → Prop} (hc : x.cps[n]? = some c) (hl : n < 2 ^ 62)
    (q : Q (.str ⟨#[c]⟩ s.toks) { s with toks := s.toks + 1 }) (hs : isSliceE slice = false) :
    wpAny (model prog w) A (subscriptTail value slice (.str x t) (.int (n : Int) u)) Q E s := by
  have hn : n < x.cps.size := (Array.getElem?_eq_some_iff.mp hc).1
  have hL : x.length = x.cps.size := rfl
  have e : Txt.item x (n : Int) = ⟨#[c]⟩ := item_meets (by omega) (by simpa using hc)
  refine item_str ?_ (by omega) (by omega) (fun _ => by rw [e]; exact q) (sub_plain hs) (fun _ => temp_str)
  unfold fitsSsize
  rw [decide_eq_false (by omega), decide_eq_false (by omega)]; rfl
theorem min2 {a b : Int} {t u : Tok} {Q : Value → Shared → Prop} (hh : A.handled = none)
    (q : ∀ t' h' tk, Keep s.heap h' → Q (.int (min a b) t') { s with heap := h', toks := tk }) : wpAny (model prog w) A (call (.builtin "min") [.int a t, .int b u]) Q E s := by
  refine min_two_ints hh fun h' tk k => ?_
  split
  · rename_i hlt
    have := q u h' tk (.of k)
    rwa [show min a b = b by omega] at this
  · rename_i hlt
    have := q t h' tk (.of k)
    rwa [show min a b = a by omega] at this
theorem lenS {x : Str} {t : Tok} {Q : Value → Shared → Prop} (hl : x.cps.size < 2 ^ 62)
    (q : ∀ t' tk, Q (.int (x.cps.size : Int) t') { s with toks := tk }) : wpAny (model prog w) A (call (.builtin "len") [.str x t]) Q E s :=
  PyProof.Rows.len_str (by show ¬ (x.cps.size : Int) ≥ 2 ^ 63; omega) (q _ _)
theorem lenL {D : Addr} {items : Array Value} {Q : Value → Shared → Prop} (hD : s.heap.IsList D items) (hl : items.size < 2 ^ 62)
    (q : ∀ t' tk, Q (.int (items.size : Int) t') { s with toks := tk }) : wpAny (model prog w) A (call (.builtin "len") [.ref D]) Q E s :=
  PySem.Calls.call_len_list hD (by omega) (q _ _)
end
local macro_rules | `(tactic| walk_at "keep") => `(tactic| first | exact Keep.rfl' | assumption | (refine Keep.trans ?kk (Fm.kb (by assumption)); (case kk => assumption)) | (refine Keep.trans ?kk (by assumption); (case kk => walk_at "keep1")))
local macro_rules | `(tactic| walk_at "keep1") => `(tactic| first | assumption | (refine Keep.trans ?kk (Fm.kb (by assumption)); (case kk => assumption)) | (refine Keep.trans ?kk (by assumption); (case kk => walk_at "keep2")))
local macro_rules | `(tactic| walk_at "keep2") => `(tactic| first | assumption | (refine Keep.trans ?kk (Fm.kb (by assumption)); (case kk => assumption)) | (refine Keep.trans ?kk (by assumption); (case kk => assumption)))
local macro_rules | `(tactic| walk_at "at") => `(tactic| first | (with_reducible exact At.here) | ((with_reducible refine' At.there ?ra); (case ra => walk_at "at")))
local macro_rules | `(tactic| walk_at "atc") => `(tactic| first | (with_reducible exact AtC.here) | ((with_reducible refine' AtC.there ?ra); (case ra => walk_at "atc")))
local macro_rules | `(tactic| walk_at "put") => `(tactic| first | (with_reducible exact Put.here) | ((with_reducible refine' Put.there ?ra); (case ra => walk_at "put")))
local macro_rules | `(tactic| walk_at "putc") => `(tactic| first | (with_reducible exact PutC.here) | ((with_reducible refine' PutC.there ?ra); (case ra => walk_at "putc")))
local macro_rules | `(tactic| walk_at "nm") => `(tactic| first
  | (refine' ev_name ?l ?k ?q ?d; (case l => with_reducible assumption); (case k => walk_at "keep"); (case d => decide))
  | (refine' ev_name (Fm.ld ?f ?a ?x ?y) ?k ?q ?d; (case f => assumption); (case a => walk_at "at"); (case x => rfl); (case y => rfl); (case k => walk_at "keep"); (case d => decide))
  | (refine' ev_name (Fm.ldc ?f ?a ?z ?x ?y) ?k ?q ?d; (case f => assumption); (case a => walk_at "atc"); (case z => rfl); (case x => rfl); (case y => rfl); (case k => walk_at "keep"); (case d => decide))
  | (refine' ev_name (ld_cell ?f ?z ?x ?y) ?k ?q ?d; (case z => rfl); (case f => with_reducible assumption); (case x => rfl); (case y => rfl); (case k => walk_at "keep"); (case d => decide)))
local macro_rules | `(tactic| walk_at "ev") => `(tactic| ((walk_at "ev1"); try dsimp only))
local macro_rules | `(tactic| walk_at "ev1") => `(tactic| first
  | ((with_reducible show wpAny _ _ (eval (Expr.Name _ _) _) _ _ _); walk_at "nm")
  | (with_reducible refine wpAny_Constant_int ?_)
  | (with_reducible refine wpAny_Constant_str ?_)
  | (with_reducible refine wpAny_Constant_none ?_)
  | (with_reducible refine wpAny_Constant_bool ?_)
  | (with_reducible refine wpAny_BinOp ?_)
  | ((with_reducible refine wpAny_Compare1 ?h ?m); (case m => with_unfolding_all rfl))
  | (with_reducible refine Subscript_ ?_)
  | (with_reducible refine PyProof.Rows.neg_int ?_)
  | (with_reducible refine BoolOp_one ?_)
  | (with_reducible refine BoolOp_and ?_)
  | (with_reducible refine BoolOp_or ?_)
  | (with_reducible refine PyProof.Rows.truthy_int ?_)
  | ((with_reducible refine wpAny_Assign_Subscript ?h ?m); (case m => rfl))
  | ((with_reducible refine wpAny_Assign_two ?h ?m ?n); (case m => rfl); (case n => rfl))
  | ((with_reducible refine Assign_Tuple ?h ?m ?n); (case m => rfl); (case n => rfl))
  | (with_reducible refine wpAny_assign_Name ?_)
  | (with_reducible refine wpAny_IfExp ?_)
  | ((with_reducible refine mcall ?h ?a ?b ?c); (case a => rfl); (case b => rfl); (case c => rfl))
  | ((with_reducible refine cll ?a ?h); (case a => exact ⟨_, _, rfl⟩))
  | (with_reducible refine List_ ?_)
  | (with_reducible refine Tuple_ ?_)
  | ((with_reducible refine wpAny_isTrue_Compare1 ?h ?m); (case m => with_unfolding_all rfl))
  | (with_reducible refine wpAny_isTrue_Not ?_)
  | (with_reducible refine wpAny_isTrue_BoolOp ?_)
  | ((with_reducible refine wpAny_isTrue_value ?h ?m); (case m => rfl))
  | (with_reducible refine wpAny_allTrue_And_nil ?_)
  | (with_reducible refine wpAny_allTrue_Or_nil ?_)
  | (with_reducible refine wpAny_allTrue_And_cons ?_)
  | (with_reducible refine wpAny_allTrue_Or_cons ?_)
  | (with_reducible refine wpAny_truthy_bool ?_)
  | (with_reducible refine wpAny_If ?_)
  | (with_reducible refine wpAny_Return_some ?_)
  | ((with_reducible refine wpAny_Assign_Name ?h ?m); (case m => rfl))
  | (with_reducible refine wpAny_AugAssign_Name ?_)
  | ((with_reducible refine wpAny_Expr ?h ?m ?n); (case m => rfl); (case n => rfl))
  | ((with_reducible show wpAny _ _ (loadName _ _) _ _ _); first
      | (refine' (Fm.ld ?f ?a ?x ?y) _ _ _ _ ?k ?q; (case f => assumption); (case a => walk_at "at"); (case x => rfl); (case y => rfl); (case k => walk_at "keep"))
      | (refine' (Fm.ldc ?f ?a ?z ?x ?y) _ _ _ _ ?k ?q; (case f => assumption); (case a => walk_at "atc"); (case z => rfl); (case x => rfl); (case y => rfl); (case k => walk_at "keep")))
  | ((with_reducible show wpAny _ _ (storeName _ _ _) _ _ _); first
      | (refine' Fm.store ?f ?p ?q ?x ?y; (case f => assumption); (case p => walk_at "put"); (case x => rfl); (case y => rfl); intro _ _)
      | (refine' Fm.storec ?f ?p ?q ?z ?x ?y; (case f => assumption); (case p => walk_at "putc"); (case z => rfl); (case x => rfl); (case y => rfl); intro _ _))
  | ((with_reducible show wpAny _ _ (execs _ _) _ _ _); first | (refine wpAny_execs_cons ?_) | (refine wpAny_execs_nil ?_))
  | (with_reducible refine args_nil ?_)
  | ((with_reducible refine aN ?h ?a); (case a => rfl))
  | (with_reducible refine add_int ?_)
  | (with_reducible refine iadd_int ?_)
  | (with_reducible refine isub_int ?_)
  | (with_reducible refine sub_int ?_)
  | ((with_reducible refine mul_int ?h ?m); (case m => exact .of_right (by decide +kernel)))
  | ((with_reducible refine mul_int ?h ?m); (case m => exact .of_left (by decide +kernel)))
  | (with_reducible refine eq_int ?_)
  | (with_reducible refine PyProof.Rows.ge_int ?_)
  | (with_reducible refine PySem.P.ne_int ?_)
  | (with_reducible refine lt_int ?_)
  | (with_reducible refine gt_int ?_)
  | (with_reducible refine eq_str ?_)
  | (with_reducible refine ne_str ?_)
  | ((with_reducible refine cB ?h ?a ?b); (case a => rfl); (case b => rfl))
  | (with_reducible refine callWith_method0 ?_)
  | ((with_reducible refine cM ?h ?a ?b); (case a => rfl); (case b => rfl))
  | ((with_reducible refine cT ?h ?a); (case a => rfl))
  | ((with_reducible refine lenS ?hl ?h); (case hl => omega); intro _ _)
  | (walk_at "ev2"))
local macro_rules | `(tactic| walk_at "ev2") => `(tactic| fail "ev: no line")
noncomputable def r5s : { r : FnRec // fnOf 5 = r } := by
  refine ⟨?r, ?h⟩
  case h => conv => lhs; whnf
noncomputable def r6s : { r : FnRec // fnOf 6 = r } := by
  refine ⟨?r, ?h⟩
  case h => conv => lhs; whnf
noncomputable def r10s : { r : FnRec // fnOf 10 = r } := by
  refine ⟨?r, ?h⟩
  case h => conv => lhs; whnf
noncomputable def r12s : { r : FnRec // fnOf 12 = r } := by
  refine ⟨?r, ?h⟩
  case h => conv => lhs; whnf
noncomputable def r14s : { r : FnRec // fnOf 14 = r } := by
  refine ⟨?r, ?h⟩
  case h => conv => lhs; whnf
noncomputable def r15s : { r : FnRec // fnOf 15 = r } := by
  refine ⟨?r, ?h⟩
  case h => conv => lhs; whnf
noncomputable def r17s : { r : FnRec // fnOf 17 = r } := by
  refine ⟨?r, ?h⟩
  case h => conv => lhs; whnf
noncomputable def r18s : { r : FnRec // fnOf 18 = r } := by
  refine ⟨?r, ?h⟩
  case h => conv => lhs; whnf
noncomputable def r19s : { r : FnRec // fnOf 19 = r } := by
  refine ⟨?r, ?h⟩
  case h => conv => lhs; whnf
noncomputable def r20s : { r : FnRec // fnOf 20 = r } := by
  refine ⟨?r, ?h⟩
  case h => conv => lhs; whnf
noncomputable def r21s : { r : FnRec // fnOf 21 = r } := by
  refine ⟨?r, ?h⟩
  case h => conv => lhs; whnf
noncomputable def r22s : { r : FnRec // fnOf 22 = r } := by
  refine ⟨?r, ?h⟩
  case h => conv => lhs; whnf
noncomputable def r23s : { r : FnRec // fnOf 23 = r } := by
  refine ⟨?r, ?h⟩
  case h => conv => lhs; whnf
noncomputable def r24s : { r : FnRec // fnOf 24 = r } := by
  refine ⟨?r, ?h⟩
  case h => conv => lhs; whnf
noncomputable def r25s : { r : FnRec // fnOf 25 = r } := by
  refine ⟨?r, ?h⟩
  case h => conv => lhs; whnf
noncomputable def r5 : FnRec := r5s.1
noncomputable def r6 : FnRec := r6s.1
noncomputable def r10 : FnRec := r10s.1
noncomputable def r12 : FnRec := r12s.1
noncomputable def r14 : FnRec := r14s.1
noncomputable def r15 : FnRec := r15s.1
noncomputable def r17 : FnRec := r17s.1
noncomputable def r18 : FnRec := r18s.1
noncomputable def r19 : FnRec := r19s.1
noncomputable def r20 : FnRec := r20s.1
noncomputable def r21 : FnRec := r21s.1
noncomputable def r22 : FnRec := r22s.1
noncomputable def r23 : FnRec := r23s.1
noncomputable def r24 : FnRec := r24s.1
noncomputable def r25 : FnRec := r25s.1

/-- what the walk leans on of the top: names, functions, constants -/
structure Bs (mg mb : Str → Option Value) (h : Heap) : Prop where
  g : h.Ns mainGlobals mg
  b : h.Ns builtinsNs mb
  lim : h.NoLimit
  sub : ∃ f, mg "_substitution_cost" = some (.ref f) ∧ FnAt h f r5
  lev : ∃ f, mg "_levenshtein_distance" = some (.ref f) ∧ FnAt h f r6
  esc : ∃ f, mg "escape" = some (.ref f) ∧ FnAt h f r10
  trl : ∃ f, mg "_translate" = some (.ref f) ∧ FnAt h f r12
  sld : ∃ f, mg "sorted_list_difference" = some (.ref f) ∧ FnAt h f r14
  uld : ∃ f, mg "unorderable_list_difference" = some (.ref f) ∧ FnAt h f r15
  word : ∃ f, mg "_law_word" = some (.ref f) ∧ FnAt h f r17
  pats : ∃ f, mg "_law_patterns" = some (.ref f) ∧ FnAt h f r18
  takes : ∃ f, mg "_law_takes" = some (.ref f) ∧ FnAt h f r19
  taken : ∃ f, mg "_law_taken" = some (.ref f) ∧ FnAt h f r20
  chosen : ∃ f, mg "_law_chosen" = some (.ref f) ∧ FnAt h f r21
  cost : ∃ f, mg "_law_cost" = some (.ref f) ∧ FnAt h f r22
  lack : ∃ f, mg "_law_lacking" = some (.ref f) ∧ FnAt h f r23
  told : ∃ f, mg "_law_told" = some (.ref f) ∧ FnAt h f r24
  mv : ∃ t, mg "_MOVE_COST" = some (.int 2 t)
  cc : ∃ t, mg "_CASE_COST" = some (.int 1 t)
  mx : ∃ t, mg "_MAX_STRING_SIZE" = some (.int 40 t)
  blen : mg "len" = none ∧ mb "len" = some (.builtin "len")
  brange : mg "range" = none ∧ mb "range" = some (.type "range")
  blist : mg "list" = none ∧ mb "list" = some (.type "list")
  bstr : mg "str" = none ∧ mb "str" = some (.type "str")
  bmin : mg "min" = none ∧ mb "min" = some (.builtin "min")
  bmax : mg "max" = none ∧ mb "max" = some (.builtin "max")
  bsorted : mg "sorted" = none ∧ mb "sorted" = some (.builtin "sorted")
  bisi : mg "isinstance" = none ∧ mb "isinstance" = some (.builtin "isinstance")
  bie : mg "IndexError" = none ∧ mb "IndexError" = some (.type "IndexError")
  bve : mg "ValueError" = none ∧ mb "ValueError" = some (.type "ValueError")

noncomputable def subC (x y : Str) : Int := if (x == y) = true then 0 else if (Txt.lower x == Txt.lower y) = true then 1 else 2

section
variable {prog : Program} {w : World} {A : Around} {E : Value → Shared → Prop} {s : Shared} {mg mb : Str → Option Value} {hb : Heap}

theorem sub_call {f : Addr} {x y : Str} {t u : Tok} {Q : Value → Shared → Prop} (B : Bs mg mb hb) (k : Keep hb s.heap) (fn : FnAt hb f r5) (rm : Rm A 1)
    (hx : Builtin.Str.tooLong (Txt.lower x).length = false) (hy : Builtin.Str.tooLong (Txt.lower y).length = false)
    (q : ∀ h' t' tk, Keep s.heap h' → Q (.int (subC x y) t') { s with heap := h', toks := tk }) :
    wpAny (model prog w) A (call (.ref f) [.str x t, .str y u]) Q E s := by
  refine enter (n := 0) (binds := [("ch_a", .str x t), ("ch_b", .str y u)]) [("ch_a", some (.str x t)), ("ch_b", some (.str y u))] [] [] rm k fn B.lim (fun _ _ _ => rfl) fun h₁ tk cd F rm' => ?_
  generalize hA : A.deeper _ = A' at rm'
  obtain ⟨tc, hc⟩ := B.cc
  obtain ⟨tm, hm⟩ := B.mv
  have lc := ld_global (M := model prog w) (env := envOfC r5.name r5.scope s.heap.objs.size f cd) B.g hc
  have lm := ld_global (M := model prog w) (env := envOfC r5.name r5.scope s.heap.objs.size f cd) B.g hm
  have post : ∀ c t' tk, c = subC x y → Q (.int c t') { s with heap := h₁, toks := tk } := fun c t' tk e => e ▸ q h₁ t' tk F.kb
  walk_at "ev"
  walk_at "ev"
  walk_at "ev"
  walk_at "ev"
  walk_at "ev"
  walk_at "ev"
  walk_at "ev"
  unfold subC at post
  by_cases h : (x == y) = true
  · rw [if_pos h]
    iterate 3 walk_at "ev"
    exact post _ _ _ (by rw [if_pos h])
  · rw [if_neg h]
    walk_at "ev"
    show wpAny _ _ _ _ _ _
    iterate 5 walk_at "ev"
    with_reducible refine GM.lower ?_
    walk_at "ev"
    with_reducible refine SC.lower hx ?_
    iterate 2 walk_at "ev"
    with_reducible refine GM.lower ?_
    walk_at "ev"
    with_reducible refine SC.lower hy ?_
    iterate 2 walk_at "ev"
    by_cases h2 : (Txt.lower x == Txt.lower y) = true
    · rw [if_pos h2]
      iterate 3 walk_at "ev"
      exact post _ _ _ (by rw [if_neg h, if_pos h2])
    · rw [if_neg h2]
      walk_at "ev"
      show wpAny _ _ _ _ _ _
      iterate 3 walk_at "ev"
      exact post _ _ _ (by rw [if_neg h, if_neg h2])
end
section
variable {prog : Program} {w : World} {A : Around} {E : Value → Shared → Prop} {s : Shared} {env : Env} {M : Model}

theorem callWith_t1 {pos : Pos} {T : String} {e : Expr} {Q : Value → Shared → Prop}
    (h : wpAny M A (eval e env) (fun v s₁ => wpAny M A (call (.type T) [v]) Q E s₁) E s)
    (he : starEach [e] env = [(false, eval e env)] := by rfl) :
    wpAny M A (callWith pos (.type T) [] (backTo pos (starEach [e] env)) []) Q E s := by
  rw [he]; exact callWith_type1 h

theorem rangeSize0 {n : Nat} : Builtin.Range.rangeSize 0 (n : Int) 1 = (n : Int) := by rw [rangeSize_one]; split <;> omega
theorem small0 {n : Nat} (h : n < 2 ^ 62) : Builtin.Range.small 0 (n : Int) 1 = true := small_one (by decide) (by decide) (by omega) (by omega)

/-- range(n) as a source -/
theorem range1 {n : Nat} {t : Tok} {Q : Value → Shared → Prop} (hn : n < 2 ^ 62)
    (q : ∀ r h' tk, Keep s.heap h' → IterOf prog w h' (.ref r) n (fun i v => ∃ t, v = .int (i : Int) t) → Q (.ref r) { s with heap := h', toks := tk }) :
    wpAny (model prog w) A (call (.type "range") [.int (n : Int) t]) Q E s := by
  refine call_range_1 ?_
  have hr := IsRange.new s.heap 0 (n : Int) 1 s.toks t (s.toks + 1)
  refine q _ _ _ (Keep.push _ _) ?_
  have := iter_range (prog := prog) (w := w) hr (small0 hn) rangeSize0
  simpa using this

theorem strsAre_of {P : Addr → Prop} {h : Heap} : ∀ {ys : List Str} {vs : List Value}, RepAll P h vs (ys.map .str) → StrsAre vs ys
  | [], _, .nil => .nil
  | y :: ys, _, .cons r rs => by
    cases r
    exact .cons _ _ (strsAre_of rs)

theorem lnew {vs : List Value} {Q : Value → Shared → Prop} (hsz : vs.length ≤ sizeLine)
    (q : ∀ D h', Keep s.heap h' → New s.heap D → h'.PlainList D vs.toArray → Q (.ref D) { s with heap := h' }) : wpAny M A (newList vs) Q E s :=
  wpAny_newObj_type (q _ _ (Keep.push _ _) (New.of_size (Nat.le_refl _)) ⟨0, Heap.get?_push_size _ rfl⟩) (by show vs.toArray.size ≤ sizeLine; rw [List.size_toArray]; exact hsz)
theorem tnew {vs : List Value} {Q : Value → Shared → Prop} (hsz : vs.length ≤ sizeLine)
    (q : ∀ D h', Keep s.heap h' → New s.heap D → h'.get? D = some { cls := .type "tuple", data := .seq vs.toArray } → Q (.ref D) { s with heap := h' }) : wpAny M A (newTuple vs) Q E s :=
  wpAny_newObj_type (q _ _ (Keep.push _ _) (New.of_size (Nat.le_refl _)) (Heap.get?_push_size _ rfl)) (by show vs.toArray.size ≤ sizeLine; rw [List.size_toArray]; exact hsz)
theorem ladd {l b : Addr} {vs ws : List Value} {Q : Value → Shared → Prop} (hl : s.heap.IsList l vs.toArray) (hb : s.heap.IsList b ws.toArray) (hsz : vs.length + ws.length ≤ sizeLine)
    (q : ∀ D h', Keep s.heap h' → New s.heap D → h'.PlainList D (vs ++ ws).toArray → Q (.ref D) { s with heap := h' }) : wpAny (model prog w) A (binaryOp .Add (.ref l) (.ref b)) Q E s := by
  obtain ⟨⟨cls, dd, data, sl⟩, ho, hc, n, hd⟩ := id hl
  obtain ⟨⟨cls2, dd2, data2, sl2⟩, ho2, hc2, n2, hd2⟩ := id hb
  simp only at hc hd hc2 hd2
  subst hc hd hc2 hd2
  have e : vs.toArray ++ ws.toArray = (vs ++ ws).toArray := by simp
  refine concat_meets ⟨_, ho, rfl⟩ ⟨_, ho2, rfl⟩ noFill_list_add seq_list_add PySem.F.slot_list_add PySem.F.entry_list_add (PySem.F.args_list_add_2 _ _) (list_addW l b vs.toArray ws.toArray n n2 dd dd2 sl sl2 (by simpa using hsz)) ⟨ho, ho2, ?_⟩
  rw [e]
  exact q _ _ (Keep.push _ _) (New.of_size (Nat.le_refl _)) ⟨0, Heap.get?_push_size _ rfl⟩
theorem Rep.ofList {P : Addr → Prop} {h : Heap} {D : Addr} {vs : List Value} {ds : List PyData} (p : P D) (hl : h.PlainList D vs.toArray) (r : RepAll P h vs ds) : Rep P h (.ref D) (.list ds) := by
  obtain ⟨n, e⟩ := hl
  exact .list p e rfl rfl rfl (by simpa using r)
theorem Rep.toList {P : Addr → Prop} {h : Heap} {v : Value} {ds : List PyData} (r : Rep P h v (.list ds)) : ∃ D vs, v = .ref D ∧ P D ∧ h.IsList D vs.toArray ∧ RepAll P h vs ds := by
  cases r with
  | list p e c d z r => exact ⟨_, _, rfl, p, ⟨_, e, c, _, by rw [d]⟩, r⟩
theorem Rep.toListD {P : Addr → Prop} {h : Heap} {v : Value} {ds : List PyData} (r : Rep P h v (.list ds)) : ∃ D vs o n, v = .ref D ∧ P D ∧ h.get? D = some o ∧ o.cls = .type "list" ∧ o.data = .seq vs n ∧ o.dict = Option.none ∧ RepAll P h vs.toList ds := by
  cases r with
  | list p e c d z r => exact ⟨_, _, _, _, rfl, p, e, c, d, z, r⟩
theorem Rep.str_inv {P : Addr → Prop} {h : Heap} {v : Value} {x : Str} (r : Rep P h v (.str x)) : ∃ t, v = .str x t := by cases r; exact ⟨_, rfl⟩
theorem Rep.int_inv {P : Addr → Prop} {h : Heap} {v : Value} {x : Int} (r : Rep P h v (.int x)) : ∃ t, v = .int x t := by cases r; exact ⟨_, rfl⟩

theorem Fm.rep {hb hs hz h : Heap} {L : Addr} {vs : List (Str × Option Value)} {cs : List (Str × Addr × Option Value)} {P : Addr → Prop} {v : Value} {d : PyData} (F : Fm hb hs hz h L vs cs []) (r : Rep P hz v d) : Rep P h v d :=
  r.mono' (fun _ p => p) fun a o _ e q => F.kz a o (by simp) e q
theorem fm_get {α β : Type} (f : α → β) : ∀ (l : List α), (List.range l.length).filterMap (fun i => (l[i]?).map f) = l.map f
  | [] => rfl
  | a :: l => by
    rw [List.length_cons, List.range_succ_eq_map, List.filterMap_cons, List.filterMap_map]
    simp only [List.getElem?_cons_zero, Option.map_some, List.map_cons]
    congr 1
    exact fm_get f l
theorem RepAll.at_str {P : Addr → Prop} {h : Heap} {vs : List Value} {ys : List Str} (r : RepAll P h vs (ys.map .str)) {i : Nat} {v : Value} (e : vs[i]? = some v) : ∃ y t, ys[i]? = some y ∧ v = .str y t := by
  obtain ⟨d, hd, hr⟩ := r.get e
  rw [List.getElem?_map] at hd
  cases hy : ys[i]? with
  | none => rw [hy] at hd; cases hd
  | some y =>
    rw [hy] at hd
    cases hd
    obtain ⟨t, rfl⟩ := hr.str_inv
    exact ⟨y, t, rfl, rfl⟩
theorem fm_some {α β : Type} (f : α → β) (l : List α) : l.filterMap (fun i => some (f i)) = l.map f := by
  induction l with
  | nil => rfl
  | cons a l ih => simp

noncomputable def letter (i : Int) : Nat := if i = 0 then 97 else if i = 1 then 98 else if i = 2 then 91 else 42
noncomputable def wordL (x : Int) : List Nat := (List.range (x.fmod 4).toNat).map fun k => letter (((x.fdiv 4).fdiv ((4 : Int) ^ k)).fmod 4)
noncomputable def wordS (x : Int) : Str := ⟨(wordL x).toArray⟩

theorem item_ab {i : Int} (h0 : 0 ≤ i) (h1 : i < 4) : Txt.item "ab[*" i = ⟨#[letter i]⟩ := by
  have : i = 0 ∨ i = 1 ∨ i = 2 ∨ i = 3 := by omega
  rcases this with rfl | rfl | rfl | rfl <;> decide +kernel
theorem len_ab : (Str.ofString "ab[*").length = 4 := by decide +kernel

theorem word_call {f : Addr} {x : Int} {t : Tok} {Q : Value → Shared → Prop} {mg mb : Str → Option Value} {hb : Heap} (B : Bs mg mb hb) (k : Keep hb s.heap) (fn : FnAt hb f r17) (rm : Rm A 2)
    (q : ∀ h' t' tk, Keep s.heap h' → Q (.str (wordS x) t') { s with heap := h', toks := tk }) :
    wpAny (model prog w) A (call (.ref f) [.int x t]) Q E s := by
  refine enter (n := 1) (binds := [("x", .int x t)]) [] [("x", s.heap.objs.size + 1, some (.int x t))] [1] rm k fn B.lim (fun _ _ _ => rfl) fun h₁ tk cd F rm' => ?_
  generalize hA : A.deeper _ = A' at rm'
  have lr := ld_builtin (M := model prog w) (env := envOfC r17.name r17.scope s.heap.objs.size f cd) B.g B.b B.brange.1 B.brange.2
  walk_at "ev"
  walk_at "ev"
  walk_at "ev"
  walk_at "ev"
  with_reducible refine GM.join ?_
  walk_at "ev"
  walk_at "ev"
  have ic : h₁.IsCell (s.heap.objs.size + 1) (some (.int x t)) := F.cel _ _ _ List.mem_cons_self
  have hm0 : 0 ≤ x.fmod 4 := Int.fmod_nonneg_of_pos _ (by decide)
  have hm1 : x.fmod 4 < 4 := Int.fmod_lt_of_pos _ (by decide)
  refine comp_eval (cl := [("x", s.heap.objs.size + 1)]) false rm'.hd ⟨by rfl, by rfl, by decide, by rfl, fun _ => by rfl, fun _ => by rfl⟩ ?_
  walk_at "ev"
  walk_at "ev"
  walk_at "ev"
  walk_at "ev"
  walk_at "ev"
  walk_at "ev"
  refine mod_int (by decide) ?_
  obtain ⟨n, hn⟩ := Int.eq_ofNat_of_zero_le hm0
  rw [hn]
  refine range1 (by omega) (fun r h' tk' k' it => ?_)
  refine ⟨n, _, fun i => some (.str ⟨#[letter (((x.fdiv 4).fdiv ((4 : Int) ^ i)).fmod 4)]⟩), it, by rw [sizeLine_eq]; omega, ⟨?_, ?_⟩, ?_⟩
  · intro C i v h tk hi hP hk hC lk lc
    exact wpAny_pure ⟨rfl, h, tk, rfl, Keep.rfl'⟩
  · intro C i v h tk d hi hP hg hk hC lk lc
    cases hg
    obtain ⟨t', rfl⟩ := hP
    have ic' := kCell ic (k'.trans hk)
    walk_at "ev"
    walk_at "ev"
    walk_at "ev"
    walk_at "ev"
    walk_at "ev"
    walk_at "ev"
    walk_at "ev"
    refine floordiv_int (by decide) ?_ (.inl (PyProof.noPylong_small (by decide)))
    dsimp only
    walk_at "ev"
    walk_at "ev"
    walk_at "ev"
    have hi4 : i < 4 := by omega
    refine pow_int (by omega) ?_ ?_
    · rw [show Builtin.Int.intBits 4 = 3 from by decide +kernel]; omega
    dsimp only
    rw [Int.toNat_natCast]
    have hp : (4 : Int) ^ i ≠ 0 ∧ ((4 : Int) ^ i).natAbs < 1073741824 := by
      have : i = 0 ∨ i = 1 ∨ i = 2 ∨ i = 3 := by omega
      rcases this with rfl | rfl | rfl | rfl <;> decide
    refine floordiv_int hp.1 ?_ (.inl (PyProof.noPylong_small hp.2))
    dsimp only
    walk_at "ev"
    refine mod_int (by decide) ?_
    dsimp only
    generalize hv : ((x.fdiv 4).fdiv ((4 : Int) ^ i)).fmod 4 = v
    have h0 : 0 ≤ v := hv ▸ Int.fmod_nonneg_of_pos _ (by decide)
    have h4 : v < 4 := hv ▸ Int.fmod_lt_of_pos _ (by decide)
    refine item_str ?_ (by rw [len_ab]; omega) (by rw [len_ab]; omega) (fun _ => ?_)
    · unfold fitsSsize
      rw [decide_eq_false (by omega), decide_eq_false (by omega)]; rfl
    refine ⟨_, _, rfl, Keep.rfl', ?_⟩
    rw [item_ab h0 h4]
    exact .str _ _
  · intro D h'' tk'' k'' nD hD
    obtain ⟨ys, hl, hr⟩ := hD
    walk_at "ev"
    have e : (List.range n).filterMap (fun i => some (PyData.str ⟨#[letter (((x.fdiv 4).fdiv ((4 : Int) ^ i)).fmod 4)]⟩)) = ((wordL x).map fun c => (⟨#[c]⟩ : Str)).map .str := by
      unfold wordL
      rw [hn, Int.toNat_natCast, List.map_map, List.map_map, fm_some]
      rfl
    rw [e] at hr
    have hlen : (wordL x).length = n := by unfold wordL; rw [hn, Int.toNat_natCast, List.length_map, List.length_range]
    refine join_list (t := tk + 0) hl.isList (strsAre_of hr) ?_ (fun t' tk' => ?_)
    · have : (((wordL x).map fun c => (⟨#[c]⟩ : Str)).map (·.length)).sum = n := by
        rw [List.map_map]
        have : ((fun x => x.length) ∘ fun c => (⟨#[c]⟩ : Str)) = fun _ => 1 := rfl
        rw [this, List.map_const', List.sum_replicate_nat, hlen]; omega
      rw [this]
      have : (Str.ofString "").length = 0 := by decide +kernel
      rw [this]; omega
    · have he : Txt.join "" ((wordL x).map fun c => (⟨#[c]⟩ : Str)) = wordS x := by
        rw [show Txt.join "" ((wordL x).map fun c => (⟨#[c]⟩ : Str)) = Str.join "" ((wordL x).map fun c => (⟨#[c]⟩ : Str)) from beq_iff_eq.mp (join_plain_closes _ _),
          show (Str.ofString "") = ⟨#[]⟩ from by decide +kernel, join_ones]
        rfl
      rw [he]
      exact q _ _ _ ((F.kb.trans k').trans k'')
end
noncomputable abbrev Vs := List (Str × Option Value)
noncomputable abbrev Cs := List (Str × Addr × Option Value)
noncomputable abbrev S (l : List Nat) : Str := ⟨l.toArray⟩
noncomputable abbrev pyS (l : List (List Nat)) : PyData := .list ((l.map S).map .str)
noncomputable def chosenL (l : List Nat) : List (List Nat) := l.foldl (fun rows c => rows ++ rows.map (· ++ [c])) [[]]
theorem chosenL_snoc (l : List Nat) (c : Nat) : chosenL (l ++ [c]) = chosenL l ++ (chosenL l).map (· ++ [c]) := by
  unfold chosenL; rw [List.foldl_append]; rfl
theorem chosenL_len : ∀ (l : List Nat), l.length ≤ 3 → (chosenL l).length ≤ 8 ∧ ∀ x ∈ chosenL l, x.length ≤ 3
  | [], _ => by decide
  | [a], _ => by simp [chosenL]
  | [a, b], _ => by simp [chosenL]
  | [a, b, c], _ => by simp [chosenL]
  | a :: b :: c :: d :: l, h => by simp at h

section
variable {prog : Program} {w : World} {A : Around} {E : Value → Shared → Prop} {s : Shared} {env : Env} {M : Model}

inductive ChoI (s : Shared) (x : Str) (t : Tok) (i : Nat) (hz : Heap) (vs : Vs) (cs : Cs) (ms : List (Addr × List Value)) : Prop
  | mk (rv : Value) (o : Option Value)
      (f0 : vs = ([("word", some (.str x t)), ("rows", some rv)] : Vs))
      (f1 : cs = ([("sign", s.heap.objs.size + 1, o)] : Cs))
      (f2 : ms = [])
      (f3 : Rep Any hz rv (pyS (chosenL (x.cps.toList.take i))))
      : ChoI s x t i hz vs cs ms
theorem chosen_call {f : Addr} {x : Str} {t : Tok} {Q : Value → Shared → Prop} {mg mb : Str → Option Value} {hb : Heap} (B : Bs mg mb hb) (k : Keep hb s.heap) (fn : FnAt hb f r21) (rm : Rm A 2) (hx : x.cps.size ≤ 3)
    (q : ∀ v h' tk, Keep s.heap h' → Rep Any h' v (pyS (chosenL x.cps.toList)) → Q v { s with heap := h', toks := tk }) :
    wpAny (model prog w) A (call (.ref f) [.str x t]) Q E s := by
  refine enter (n := 1) (binds := [("word", .str x t)]) [("word", some (.str x t)), ("rows", none)] [("sign", s.heap.objs.size + 1, none)] [1] rm k fn B.lim (fun _ _ _ => rfl) fun h₁ tk cd F rm' => ?_
  generalize hA : A.deeper _ = A' at rm'
  walk_at "ev"
  walk_at "ev"
  walk_at "ev"
  walk_at "ev"
  walk_at "ev"
  walk_at "ev"
  refine lnew (by rw [sizeLine_eq]; simp) (fun D h₂ k₂ nD hD => ?_)
  have F₂ := (F.keep k₂).now
  walk_at "ev"
  rename_i h₃ F₃
  walk_at "ev"
  refine for_stmt (hb := s.heap) (hs := s.heap) rm'.hd [s.heap.objs.size, s.heap.objs.size + 1]
    (ChoI s x t) ?_ ?_
  · rintro i hz vs cs ms ⟨rv, o, rfl, rfl, rfl, _⟩
    rfl
  walk_at "ev"
  refine ⟨x.cps.size, _, _, _, _, _, iter_str, F₃, ⟨_, _, rfl, rfl, rfl, ?_⟩, (fun a e => by cases e), ?_, ?_⟩
  · refine Rep.ofList trivial hD (.cons ?_ .nil)
    exact .str _ _
  · rintro i v hs' hz h tk vs cs ms hi hP ⟨rv, o, rfl, rfl, rfl, hr⟩ F₄
    obtain ⟨c, u, hc, rfl⟩ := hP
    refine F₄.stc PutC.here (fun h₅ F₅ => ?_)
    dsimp only
    walk_at "ev"
    walk_at "ev"
    walk_at "ev"
    walk_at "ev"
    obtain ⟨D, us, rfl, _, hl, ra⟩ := (F₅.rep hr).toList
    have ic := F₅.cel _ _ _ List.mem_cons_self
    have hun : us.length = (chosenL (x.cps.toList.take i)).length := by have := ra.length; simpa using this
    have hlt : (x.cps.toList.take i).length ≤ 3 := by rw [List.length_take, Array.length_toList]; omega
    obtain ⟨h8, h3⟩ := chosenL_len _ hlt
    refine comp_eval (cl := [("sign", s.heap.objs.size + 1)]) false rm'.hd ⟨by rfl, by rfl, by decide, by rfl, fun _ => by rfl, fun _ => by rfl⟩ ?_
    walk_at "ev"
    refine ⟨us.toArray.size, _, fun j => ((chosenL (x.cps.toList.take i))[j]?).map fun r => .str (S (r ++ [c])), iter_list hl, by rw [sizeLine_eq, List.size_toArray]; omega, ⟨?_, ?_⟩, ?_⟩
    · intro C j v h tk hj hP hk hC lk lc
      refine wpAny_pure ⟨?_, h, tk, rfl, Keep.rfl'⟩
      rw [List.size_toArray, hun] at hj
      simp [hj]
    · intro C j v h tk d hj hP hg hk hC lk lc
      have hP' : us[j]? = some v := by simpa using hP
      obtain ⟨y, t', hy, rfl⟩ := ra.at_str hP'
      rw [List.getElem?_map] at hy
      cases hr' : (chosenL (x.cps.toList.take i))[j]? with
      | none => rw [hr'] at hg; cases hg
      | some r =>
        rw [hr'] at hg hy
        cases hg
        cases hy
        have hr3 := h3 r (List.mem_of_getElem? hr')
        have ic' := kCell ic hk
        walk_at "ev"
        walk_at "ev"
        walk_at "ev"
        refine add_str (fun t' tk => ?_) ?_
        · refine ⟨_, _, rfl, Keep.rfl', ?_⟩
          have : S r ++ (⟨#[c]⟩ : Str) = S (r ++ [c]) := by
            show (⟨r.toArray ++ #[c]⟩ : Str) = _
            simp
          rw [this]; exact .str _ _
        · show r.toArray.size + 1 ≤ sizeLine
          rw [List.size_toArray, sizeLine_eq]; omega
    · intro D' h₆ tk₆ k₆ nD' hD'
      obtain ⟨ys, hl', hr'⟩ := hD'
      rw [List.size_toArray, hun, fm_get] at hr'
      have hyl : ys.toList.length = us.length := by have := hr'.length; rw [List.length_map] at this; rw [this, hun]
      refine ladd (vs := us) (ws := ys.toList) (kList hl k₆) (by simpa using hl'.isList) (by rw [sizeLine_eq]; omega) (fun D₂ h₇ k₇ nD₂ hD₂ => ?_)
      have F₇ := (F₅.keep (k₆.trans k₇)).now
      walk_at "ev"
      rename_i h₈ F₈
      walk_at "ev"
      refine ⟨rfl, _, _, _, _, _, _, rfl, ⟨_, _, rfl, rfl, rfl, Rep.ofList trivial hD₂ ?_⟩, F₈⟩
      have e1 : x.cps.toList.take (i + 1) = x.cps.toList.take i ++ [c] := by
        rw [List.take_add_one]
        have : x.cps.toList[i]? = some c := by simpa using hc
        rw [this]; rfl
      rw [e1, chosenL_snoc, List.map_append, List.map_append]
      refine RepAll.append ((ra.keep (k₆.trans k₇))) ?_
      have := (hr'.keep k₇).weak (P' := Any) fun _ _ => trivial
      rw [List.map_map, List.map_map]
      exact this
  · rintro hz h tk vs cs ms ⟨rv, o, rfl, rfl, rfl, hr⟩ F₄
    walk_at "ev"
    walk_at "ev"
    walk_at "ev"
    refine q _ _ _ F₄.kb ?_
    have := F₄.rep hr
    rwa [List.take_of_length_le (by rw [Array.length_toList]; omega)] at this
end
noncomputable def unl (a b : List Nat) : Nat := ((List.range a.length).filterMap fun (j : Nat) => if a[j]? = b[j]? then none else some (PyData.int (j : Int))).length
noncomputable def stepC (m : Nat) (a : List Nat) (f : Int) (b : List Nat) : Int := if a.length = b.length then min f ((m : Int) - 2 * a.length + unl a b) else f
noncomputable def costL (w n : List Nat) : Int := 2 * (chosenL w).foldl (fun f a => (chosenL n).foldl (stepC (w.length + n.length) a) f) ((w.length + n.length : Nat) : Int)

section
variable {prog : Program} {w : World} {A : Around} {E : Value → Shared → Prop} {s : Shared} {env : Env} {M : Model}

theorem chr_ne {c c' : Nat} : ((⟨#[c]⟩ : Str) != ⟨#[c']⟩) = !decide (c = c') := by
  by_cases h : c = c'
  · subst h; simp
  · have : (⟨#[c]⟩ : Str) ≠ ⟨#[c']⟩ := fun e => h (by injection e with e; simpa using e)
    rw [bne_iff_ne.mpr this, decide_eq_false h]; rfl
theorem Fm.no_seq {hb hs hz h : Heap} {L : Addr} {vs : Vs} {cs : Cs} (F : Fm hb hs hz h L vs cs []) {D : Addr} {o : Obj} (e : h.get? D = some o) (q : isSeq o = true) : D ∉ owned L cs [] := fun m => by
  rcases List.mem_cons.mp m with rfl | m
  · obtain ⟨o', ho, hq⟩ := F.live_L; rw [e] at ho; cases ho; rw [q] at hq; cases hq
  · rw [List.map_nil, List.append_nil] at m
    obtain ⟨o', ho, hq⟩ := F.live_c m; rw [e] at ho; cases ho; rw [q] at hq; cases hq
theorem Fm.no_list {hb hs hz h : Heap} {L : Addr} {vs : Vs} {cs : Cs} (F : Fm hb hs hz h L vs cs []) {D : Addr} {vv : Array Value} (l : h.IsList D vv) : ∀ a, Value.ref D = .ref a → a ∉ owned L cs [] := fun a e => by
  cases e
  obtain ⟨o, ho, _, n, hd⟩ := l
  exact F.no_seq ho (by unfold isSeq; rw [hd])

inductive CostO (s : Shared) (x y : Str) (t u : Tok) (i : Nat) (hz : Heap) (vs : Vs) (cs : Cs) (ms : List (Addr × List Value)) : Prop
  | mk (t' : Tok) (o1 : Option Value) (o2 : Option Value) (o3 : Option Value)
      (f0 : vs = ([("word", some (.str x t)), ("name", some (.str y u)), ("fewest", some (.int (((chosenL x.cps.toList).take i).foldl (fun f a => (chosenL y.cps.toList).foldl (stepC (x.cps.toList.length + y.cps.toList.length) a) f) ((x.cps.toList.length + y.cps.toList.length : Nat) : Int)) t')), ("unlike", o1)] : Vs))
      (f1 : cs = ([("one", s.heap.objs.size + 1, o2), ("two", s.heap.objs.size + 2, o3)] : Cs))
      (f2 : ms = [])
      : CostO s x y t u i hz vs cs ms
inductive CostI (s : Shared) (x y : Str) (t u t'' : Tok) (a : List Nat) (f0 : Int) (j : Nat) (hz : Heap) (vs : Vs) (cs : Cs) (ms : List (Addr × List Value)) : Prop
  | mk (t' : Tok) (o1 : Option Value) (o3 : Option Value)
      (g0 : vs = ([("word", some (.str x t)), ("name", some (.str y u)), ("fewest", some (.int (((chosenL y.cps.toList).take j).foldl (stepC (x.cps.toList.length + y.cps.toList.length) a) f0) t')), ("unlike", o1)] : Vs))
      (f1 : cs = ([("one", s.heap.objs.size + 1, some (.str (S a) t'')), ("two", s.heap.objs.size + 2, o3)] : Cs))
      (f2 : ms = [])
      : CostI s x y t u t'' a f0 j hz vs cs ms
theorem cost_call {f : Addr} {x y : Str} {t u : Tok} {Q : Value → Shared → Prop} {mg mb : Str → Option Value} {hb : Heap} (B : Bs mg mb hb) (k : Keep hb s.heap) (fn : FnAt hb f r22) (rm : Rm A 4)
    (hx : x.cps.size ≤ 3) (hy : y.cps.size ≤ 3)
    (q : ∀ t' h' tk, Keep s.heap h' → Q (.int (costL x.cps.toList y.cps.toList) t') { s with heap := h', toks := tk }) :
    wpAny (model prog w) A (call (.ref f) [.str x t, .str y u]) Q E s := by
  refine enter (n := 3) (binds := [("word", .str x t), ("name", .str y u)]) [("word", some (.str x t)), ("name", some (.str y u)), ("fewest", none), ("unlike", none)]
    [("one", s.heap.objs.size + 1, none), ("two", s.heap.objs.size + 2, none)] [1, 2] rm k fn B.lim (fun _ _ _ => rfl) fun h₁ tk cd F rm' => ?_
  generalize hA : A.deeper _ = A' at rm'
  obtain ⟨fC, hC, fnC⟩ := B.chosen
  have llen := ld_builtin (M := model prog w) (env := envOfC r22.name r22.scope s.heap.objs.size f cd) B.g B.b B.blen.1 B.blen.2
  have lran := ld_builtin (M := model prog w) (env := envOfC r22.name r22.scope s.heap.objs.size f cd) B.g B.b B.brange.1 B.brange.2
  have lmin := ld_builtin (M := model prog w) (env := envOfC r22.name r22.scope s.heap.objs.size f cd) B.g B.b B.bmin.1 B.bmin.2
  have lcho := ld_global (M := model prog w) (env := envOfC r22.name r22.scope s.heap.objs.size f cd) B.g hC
  repeat walk_at "ev"
  rename_i h₂ F₂
  refine for_stmt (hb := s.heap) (hs := s.heap) rm'.hd [s.heap.objs.size, s.heap.objs.size + 1, s.heap.objs.size + 2]
    (CostO s x y t u) ?_ ?_
  · rintro i hz vs cs ms ⟨_, _, _, _, rfl, rfl, rfl⟩
    rfl
  repeat walk_at "ev"
  refine cD fnC ?h ?a
  case a => rfl
  repeat walk_at "ev"
  have kB₂ : Keep hb h₂ := k.trans F₂.kb
  refine ⟨kB₂, chosen_call B kB₂ fnC (rm'.mono (by omega)) hx (fun v₁ h₃ tk₃ k₃ r₃ => ?_)⟩
  obtain ⟨D, us, rfl, _, hl, ra⟩ := r₃.toList
  have hun : us.length = (chosenL x.cps.toList).length := by have := ra.length; simpa using this
  have F₃ := (F₂.keep k₃).now
  obtain ⟨h8, h3⟩ := chosenL_len x.cps.toList (by rw [Array.length_toList]; exact hx)
  obtain ⟨h8', h3'⟩ := chosenL_len y.cps.toList (by rw [Array.length_toList]; exact hy)
  have nD := F₃.no_list hl
  refine ⟨us.toArray.size, _, _, _, _, _, iter_list hl, F₃, ⟨_, _, _, _, rfl, rfl, rfl⟩, nD, ?_, ?_⟩
  · rintro i v hs' hz h tk vs cs ms hi hP ⟨t', o1, o2, o3, rfl, rfl, rfl⟩ F₄
    rw [List.size_toArray, hun] at hi
    have hP' : us[i]? = some v := by simpa using hP
    obtain ⟨y', t'', hy', rfl⟩ := ra.at_str hP'
    rw [List.getElem?_map] at hy'
    obtain ⟨a, ha, rfl⟩ := Option.map_eq_some_iff.mp hy'
    have hal := h3 a (List.mem_of_getElem? ha)
    have has : (S a).cps.size = a.length := by simp
    refine F₄.stc PutC.here (fun h₅ F₅ => ?_)
    repeat walk_at "ev"
    generalize hf0 : ((chosenL x.cps.toList).take i).foldl (fun f a => (chosenL y.cps.toList).foldl (stepC (x.cps.toList.length + y.cps.toList.length) a) f) ((x.cps.toList.length + y.cps.toList.length : Nat) : Int) = f0 at F₄ F₅ ⊢
    refine for_stmt (hb := s.heap) (hs := hs') rm'.hd [s.heap.objs.size, s.heap.objs.size + 1, s.heap.objs.size + 2]
      (CostI s x y t u t'' a f0) ?_ ?_
    · rintro i hz vs cs ms ⟨_, _, _, rfl, rfl, rfl⟩
      rfl
    repeat walk_at "ev"
    refine cD fnC ?h ?a
    case a => rfl
    repeat walk_at "ev"
    have kB₅ : Keep hb h₅ := k.trans F₅.kb
    refine ⟨kB₅, chosen_call B kB₅ fnC (rm'.mono (by omega)) hy (fun v₁ h₆ tk₆ k₆ r₆ => ?_)⟩
    obtain ⟨D', us', rfl, _, hl', ra'⟩ := r₆.toList
    have hun' : us'.length = (chosenL y.cps.toList).length := by have := ra'.length; simpa using this
    have F₆ := (F₅.keep k₆).now
    have nD' := F₆.no_list hl'
    refine ⟨us'.toArray.size, _, _, _, _, _, iter_list hl', F₆, ⟨_, _, _, rfl, rfl, rfl⟩, nD', ?_, ?_⟩
    · rintro j v hs' hz h tk vs cs ms hj hP ⟨t', o1, o3, rfl, rfl, rfl⟩ F₄
      rw [List.size_toArray, hun'] at hj
      have hP' : us'[j]? = some v := by simpa using hP
      obtain ⟨y', t3, hy', rfl⟩ := ra'.at_str hP'
      rw [List.getElem?_map] at hy'
      obtain ⟨b, hb', rfl⟩ := Option.map_eq_some_iff.mp hy'
      have hbl := h3' b (List.mem_of_getElem? hb')
      have hbs : (S b).cps.size = b.length := by simp
      refine F₄.stc (PutC.there PutC.here) (fun h₇ F₇ => ?_)
      repeat walk_at "ev"
      by_cases he : a.length = b.length
      · rw [if_pos (by rw [has, hbs, he]; exact beq_self_eq_true _)]
        repeat walk_at "ev"
        have ic1 := F₇.cel _ _ _ List.mem_cons_self
        have ic2 := F₇.cel _ _ _ (List.mem_cons_of_mem _ List.mem_cons_self)
        refine comp_eval (cl := [("two", s.heap.objs.size + 2), ("one", s.heap.objs.size + 1)]) false rm'.hd ⟨by rfl, by rfl, by decide, by rfl, fun _ => by rfl, fun _ => by rfl⟩ ?_
        repeat walk_at "ev"
        rw [has]
        refine range1 (by omega) (fun r h₈ tk₈ k₈ it => ?_)
        refine ⟨a.length, _, fun (j : Nat) => if a[j]? = b[j]? then none else some (PyData.int (j : Int)), it, by rw [sizeLine_eq]; omega, ⟨?_, ?_⟩, ?_⟩
        · intro C l v h tk hl hP hk hC lk lc
          obtain ⟨t', rfl⟩ := hP
          have ic1' := kCell ic1 (k₈.trans hk)
          have ic2' := kCell ic2 (k₈.trans hk)
          refine wpAny_tests_one ?_
          repeat walk_at "ev"
          obtain ⟨c, hc⟩ : ∃ c, a[l]? = some c := ⟨_, List.getElem?_eq_getElem hl⟩
          obtain ⟨c', hc'⟩ : ∃ c, b[l]? = some c := ⟨_, List.getElem?_eq_getElem (he ▸ hl)⟩
          refine sitem (c := c) ?sz1a ?sz1b ?sz1q ?sz1s
          case sz1s => rfl
          case sz1a => simpa using hc
          case sz1b => omega
          try dsimp only
          repeat walk_at "ev"
          refine sitem (c := c') ?sz2a ?sz2b ?sz2q ?sz2s
          case sz2s => rfl
          case sz2a => simpa using hc'
          case sz2b => omega
          try dsimp only
          repeat walk_at "ev"
          refine ⟨?_, _, _, rfl, Keep.rfl'⟩
          rw [hc, hc', chr_ne]
          by_cases h : c = c' <;> simp [h]
        · intro C l v h tk d hl hP hg hk hC lk lc
          obtain ⟨t', rfl⟩ := hP
          repeat walk_at "ev"
          refine ⟨_, _, rfl, Keep.rfl', ?_⟩
          have hg' : (if a[l]? = b[l]? then none else some (PyData.int (l : Int))) = some d := hg
          split at hg'
          · cases hg'
          · cases hg'
            exact .int _ _
        · intro D₂ h₉ tk₉ k₉ nD₂ hD₂
          obtain ⟨ys, hlD, hrD⟩ := hD₂
          repeat walk_at "ev"
          have hyl : ys.size = unl a b := by have := hrD.length; simpa [unl] using this
          have hul : unl a b ≤ 3 := by
            refine Nat.le_trans (List.length_filterMap_le _ _) ?_
            rw [List.length_range]; omega
          refine lenL hlD.isList (by omega) (fun t₉ tk₉ => ?_)
          have F₈ := F₇.keep (k₈.trans k₉)
          repeat walk_at "ev"
          refine min2 rm'.hd (fun t₁ h₁ tk₁ k₁ => ?_)
          have F₉ := Fm.keep ‹_› k₁
          repeat walk_at "ev"
          have F₁₀ := ‹Fm _ _ _ _ _ _ _ _›
          have e : min (((chosenL y.cps.toList).take j).foldl (stepC (x.cps.toList.length + y.cps.toList.length) a) f0) ((x.cps.size : Int) + (y.cps.size : Int) - 2 * (a.toArray.size : Int) + (ys.size : Int)) = ((chosenL y.cps.toList).take (j + 1)).foldl (stepC (x.cps.toList.length + y.cps.toList.length) a) f0 := by
            rw [List.take_add_one, List.foldl_append, hb']
            simp [stepC, he, hyl]
          rw [e] at F₁₀
          exact ⟨rfl, _, _, _, _, _, _, rfl, ⟨_, _, _, rfl, rfl, rfl⟩, F₁₀⟩
      · rw [if_neg (by rw [has, hbs]; intro h; exact he (by have := eq_of_beq h; omega))]
        repeat walk_at "ev"
        have e : ((chosenL y.cps.toList).take j).foldl (stepC (x.cps.toList.length + y.cps.toList.length) a) f0 = ((chosenL y.cps.toList).take (j + 1)).foldl (stepC (x.cps.toList.length + y.cps.toList.length) a) f0 := by
          rw [List.take_add_one, List.foldl_append, hb']
          simp [stepC, he]
        exact ⟨rfl, _, _, _, _, _, _, rfl, ⟨t', o1, _, by rw [e], rfl, rfl⟩, F₇⟩
    · rintro hz h tk vs cs ms ⟨t', o1, o3, rfl, rfl, rfl⟩ F₈
      repeat walk_at "ev"
      have e : ((chosenL y.cps.toList).take us'.toArray.size).foldl (stepC (x.cps.toList.length + y.cps.toList.length) a) f0 = ((chosenL x.cps.toList).take (i + 1)).foldl (fun f a => (chosenL y.cps.toList).foldl (stepC (x.cps.toList.length + y.cps.toList.length) a) f) ((x.cps.toList.length + y.cps.toList.length : Nat) : Int) := by
        rw [List.take_add_one, List.foldl_append, ha, ← hf0, List.size_toArray, hun', List.take_length]
        rfl
      exact ⟨rfl, _, _, _, _, _, _, rfl, ⟨t', o1, _, o3, by rw [e], rfl, rfl⟩, F₈⟩
  · rintro hz h tk vs cs ms ⟨t', o1, o2, o3, rfl, rfl, rfl⟩ F₈
    repeat walk_at "ev"
    rw [List.size_toArray, hun, List.take_length]
    exact q _ _ _ F₈.kb
end
noncomputable def lowAt (n : Nat) (lo : Option Int) : Nat := lo.elim 0 (clipAt n)
noncomputable def highAt (n : Nat) (hi : Option Int) : Nat := hi.elim n (clipAt n)
noncomputable def cutL {α : Type} (l : List α) (lo hi : Option Int) : List α := (l.drop (lowAt l.length lo)).take (highAt l.length hi - lowAt l.length lo)
theorem strSlice_plain (lo hi : Option Int) (n : Nat) : Builtin.Str.strSliceIndices lo hi 1 n = sliceRange (lowAt n lo : Nat) (highAt n hi : Nat) 1 := by
  cases lo <;> cases hi <;> simp [Builtin.Str.strSliceIndices, lowAt, highAt, clipAt_cast]
theorem clipAt_le (n : Nat) (i : Int) : clipAt n i ≤ n := by
  have := clipAt_cast n i
  omega
theorem lowAt_le (n : Nat) (i : Option Int) : lowAt n i ≤ n := by cases i <;> simp [lowAt, clipAt_le]
theorem highAt_le (n : Nat) (i : Option Int) : highAt n i ≤ n := by cases i <;> simp [highAt, clipAt_le]
theorem cutL_all {α : Type} (l : List α) (lo hi : Option Int) (h : highAt l.length hi - lowAt l.length lo = l.length) : cutL l lo hi = l := by
  have h1 := lowAt_le l.length lo
  have h2 := highAt_le l.length hi
  unfold cutL
  rcases Nat.eq_zero_or_pos l.length with h0 | h0
  · have : l = [] := List.eq_nil_of_length_eq_zero h0
    subst this; simp
  · have e : lowAt l.length lo = 0 := by omega
    rw [h, e]; simp
theorem sliceS (l : List Nat) (lo hi : Option Int) : Txt.slice (S l) lo hi = S (cutL l lo hi) := by
  have hl : (S l).length = l.length := by show l.toArray.size = _; simp
  have e : (Builtin.Str.strSliceIndices lo hi 1 l.length).length = highAt l.length hi - lowAt l.length lo := by
    rw [strSlice_plain, sliceRange_one]; simp
  unfold Txt.slice
  rw [hl]
  split
  · rename_i h
    rw [Bool.and_eq_true, beq_iff_eq, beq_iff_eq, e] at h
    rw [cutL_all l lo hi h.2]
  · rw [strSlice_plain, sliceRange_one]
    have hp := pick_run l.toArray (lowAt l.length lo) (highAt l.length hi - lowAt l.length lo)
    show (⟨(List.filterMap (fun x => l.toArray[x]?) _).toArray⟩ : Str) = _
    rw [hp]
    rfl
theorem slicePick_cut (items : Array Value) (lo hi : Option Int) : slicePick items lo hi none = (cutL items.toList lo hi).toArray := by
  rw [slicePick_plain]
  unfold cutL lowAt highAt
  rw [Array.length_toList]

section
variable {prog : Program} {w : World} {A : Around} {E : Value → Shared → Prop} {s : Shared} {env : Env} {M : Model}

/-- a slice of v, its parts at hand -/
noncomputable def SlPost (M : Model) (A : Around) (E : Value → Shared → Prop) (Q : Value → Shared → Prop) (value : Expr) (lo hi st : Option Expr) (p : Pos) (v vl vu vst : Value) (s : Shared) : Prop :=
  wpAny M A (subscriptTail value (.Slice lo hi st p) v (.ref s.heap.objs.size)) Q E { s with heap := s.heap.push { cls := .type "slice", data := .fields #[vl, vu, vst] } }
theorem ev_sl {value : Expr} {lo hi st : Option Expr} {p pos : Pos} {Q : Value → Shared → Prop}
    (h : wpAny M A (eval value env) (fun v s₁ => wpAny M A (evalPart lo env) (fun vl s₂ => wpAny M A (evalPart hi env) (fun vu s₃ => wpAny M A (evalPart st env) (fun vst s₄ => SlPost M A E Q value lo hi st p v vl vu vst s₄) E s₃) E s₂) E s₁) E s) :
    wpAny M A (eval (.Subscript value (.Slice lo hi st p) pos) env) Q E s :=
  Subscript_ (wpAny_mono h (fun _ _ h₁ => wpAny_Slice h₁) fun _ _ e => e)
theorem part_none {Q : Value → Shared → Prop} (q : Q .none s) : wpAny M A (evalPart none env) Q E s := wpAny_pure q
theorem part_some {e : Expr} {Q : Value → Shared → Prop} (q : wpAny M A (eval e env) Q E s) : wpAny M A (evalPart (some e) env) Q E s := q
theorem part_pair {v : Value} {o : Option Int} (x : IsPart v o) : ∃ p : Option (Int × Tok), v = partValue p ∧ p.map (·.1) = o := by
  cases x with
  | none => exact ⟨none, rfl, rfl⟩
  | int i t => exact ⟨some (i, t), rfl, rfl⟩

theorem slT_str {value : Expr} {lo hi : Option Expr} {p : Pos} {l : List Nat} {t : Tok} {vl vu : Value} {a b : Option Int} {Q : Value → Shared → Prop} (pl : IsPart vl a) (pu : IsPart vu b) (hsz : l.length ≤ sizeLine)
    (q : ∀ h' t' k, Keep s.heap h' → Q (.str (S (cutL l a b)) t') { s with heap := h', toks := k }) :
    SlPost (model prog w) A E Q value lo hi none p (.str (S l) t) vl vu .none s := by
  unfold SlPost
  have kk : KeptH (fun h => Keep s.heap h) := fun h ob k => k.trans (Keep.push _ _)
  have hs : (S l).length ≤ sizeLine := by show (S l).cps.size ≤ _; simpa using hsz
  have q' : ∀ h' t' k, Keep s.heap h' → Q (.str (Txt.slice (S l) a b) t') { s with heap := h', toks := k } := fun h' t' k x => by rw [sliceS]; exact q h' t' k x
  cases pl with
  | none => cases pu with
    | none => exact tail_of_ItemOn (SBH.sliceItem_nn kk Keep.rfl' q' hs) sub_slice (fun _ => temp_str)
    | int j u => exact tail_of_ItemOn (SBH.sliceItem_ns kk Keep.rfl' q' hs) sub_slice (fun _ => temp_str)
  | int i u => cases pu with
    | none => exact tail_of_ItemOn (SBH.sliceItem_sn kk Keep.rfl' q' hs) sub_slice (fun _ => temp_str)
    | int j u' => exact tail_of_ItemOn (SBH.sliceItem_ss kk Keep.rfl' q' hs) sub_slice (fun _ => temp_str)

theorem slT_list {x : Str} {px : Pos} {lo hi : Option Expr} {p : Pos} {D : Addr} {vs : List Value} {vl vu : Value} {a b : Option Int} {Q : Value → Shared → Prop} (hl : s.heap.IsList D vs.toArray) (pl : IsPart vl a) (pu : IsPart vu b) (hsz : vs.length ≤ sizeLine)
    (q : ∀ D' h', Keep s.heap h' → New s.heap D' → h'.PlainList D' (cutL vs a b).toArray → Q (.ref D') { s with heap := h' }) :
    SlPost (model prog w) A E Q (.Name x px) lo hi none p (.ref D) vl vu .none s := by
  unfold SlPost
  have k1 := Keep.push s.heap { cls := .type "slice", data := .fields #[vl, vu, .none] }
  have hl' : (s.heap.push { cls := .type "slice", data := .fields #[vl, vu, .none] }).IsList D vs.toArray := kList hl k1
  refine subscriptTail_ops (ops := [.ref s.heap.objs.size, .ref D]) (Heap.IsList.typeIs (s := { s with heap := s.heap.push { cls := .type "slice", data := .fields #[vl, vu, .none] } }) hl') list_getitem_lookup
    (wpAny_getItem_list_slice hl' (Heap.IsSliceOf.new ..) pl pu .none (by simp) ?_ (by simpa using hsz)) sub_slice (fun _ => temp_name)
  rw [slicePick_cut]
  have nw : New s.heap (s.heap.push { cls := .type "slice", data := .fields #[vl, vu, .none] }).objs.size := New.of_size (by rw [Heap.size_push]; exact Nat.le_succ _)
  exact q _ _ (k1.trans (Keep.push _ _)) nw ⟨0, Heap.get?_push_size _ rfl⟩

theorem cT1 {pos : Pos} {T : String} {e : Expr} {rest : List Expr} {Q : Value → Shared → Prop}
    (h : wpAny M A (spliced (backTo pos (starEach (e :: rest) env))) (fun vs s₁ => wpAny M A (call (.type T) vs) Q E s₁) E s)
    (hs : isStarred e = false) (hr : rest.all (fun e => !isStarred e) = true) :
    wpAny M A (callWith pos (.type T) [] (backTo pos (starEach (e :: rest) env)) []) Q E s := PyProof.Rows.callWith_type1 h (star1 hs) (stars_plain hr)
theorem trS {l : List Nat} {t : Tok} {Q : Bool → Shared → Prop} (hl : l.length < 2 ^ 62) (q : ∀ tk, Q (decide (l ≠ [])) { s with toks := tk }) : wpAny (model prog w) A (truthy (.str (S l) t)) Q E s := by
  have e : (S l).length = l.length := by show l.toArray.size = _; simp
  refine PySem.P.truthy_str (by rw [e]; omega) ?_
  have : ((S l).length : Int) != 0 ↔ l ≠ [] := by
    rw [e, bne_iff_ne]
    cases l with
    | nil => simp
    | cons x l => simp only [List.length_cons, ne_eq, reduceCtorEq, not_false_eq_true, iff_true]; omega
  have e2 : (((S l).length : Int) != 0) = decide (l ≠ []) := by
    cases h : (((S l).length : Int) != 0)
    · rw [h] at this; exact (decide_eq_false (fun h => by have := this.mpr h; cases this)).symm
    · exact (decide_eq_true (this.mp h)).symm
  rw [e2]
  exact q _
inductive WNext (Inv : Nat → Heap → Prop) (s : Shared) (n : Nat) (f : Flow) (s₃ : Shared) : Prop
  | mk (hf : f = .next) (h' : Heap) (tk' m : Nat) (e : s₃ = { s with heap := h', toks := tk' }) (hm : m < n) (I : Inv m h') : WNext Inv s n f s₃
inductive WEnd (Inv : Nat → Heap → Prop) (s : Shared) (s₂ : Shared) : Prop
  | mk (h' : Heap) (tk' : Nat) (e : s₂ = { s with heap := h', toks := tk' }) (I : Inv 0 h') : WEnd Inv s s₂
theorem while_stmt {test : Expr} {pos : Pos} {body : List Stmt} {Q : Flow → Shared → Prop}
    (Inv : Nat → Heap → Prop)
    (start : ∃ n, Inv n s.heap)
    (turn : ∀ n h tk, Inv n h → wpAny (model prog w) A (isTrue test env (eval test env)) (fun b s₂ =>
        if b = true then wpAny (model prog w) A (execs body env) (WNext Inv s n) (fun _ _ => False) s₂
        else WEnd Inv s s₂) (fun _ _ => False) { s with heap := h, toks := tk })
    (done : ∀ h tk, Inv 0 h → Q .next { s with heap := h, toks := tk }) :
    wpAny (model prog w) A (exec (.While test body [] pos) env) Q E s := by
  refine while_rule Inv start fun n h tk hI => wpAny_mono (turn n h tk hI) (fun b s₂ h₂ => ?_) fun _ _ e => e
  cases b with
  | false =>
    simp only [Bool.false_eq_true, if_false] at h₂ ⊢
    obtain ⟨h', tk', rfl, hI'⟩ := h₂
    exact done _ _ hI'
  | true =>
    simp only [if_true] at h₂ ⊢
    exact wpAny_mono h₂ (fun f s₃ ⟨e, h', tk', m, e2, hm, I⟩ => ⟨e, h', tk', m, e2, hm, I⟩) fun _ _ e => e
theorem tuple2 {a b : Value} {x y : Str} {px py tp : Pos} {k : Nat} {Q : Unit → Shared → Prop} (hh : A.handled = none) {T : Addr} (hT : s.heap.get? T = some { cls := .type "tuple", data := .seq [a, b].toArray })
    (q : ∀ h', Keep s.heap h' → wpAny (model prog w) A (assign (.Name x px) env a) (fun _ s₁ => wpAny (model prog w) A (assign (.Name y py) env b) Q E s₁) E { s with heap := h' }) :
    wpAny (model prog w) A (assign (.Tuple [.Name x px, .Name y py] k tp) env (.ref T)) Q E s := by
  refine wpAny_assign_Tuple hh (items := [a, b].toArray) ⟨_, hT, rfl, 0, rfl⟩ rfl rfl fun h' k' => ?_
  have kk : Keep s.heap h' := .of fun b o e => k' b o (fun q => by have := Heap.lt_size e; rw [q] at this; exact Nat.lt_irrefl _ this) e
  refine assignInOrder_cons (wpAny_mono (q h' kk) (fun _ s₁ h₁ => assignInOrder_cons (wpAny_mono h₁ (fun _ s₂ h₂ => assignInOrder_nil h₂) fun _ _ e => e)) fun _ _ e => e)

theorem litem {x : Str} {px : Pos} {slice : Expr} {D : Addr} {vs : List Value} {n : Nat} {u : Tok} {v : Value} {Q : Value → Shared → Prop} (hl : s.heap.IsList D vs.toArray) (hv : vs[n]? = some v) (hn : n < 2 ^ 62)
    (q : Q v s) (hs : isSliceE slice = false) : wpAny (model prog w) A (subscriptTail (.Name x px) slice (.ref D) (.int (n : Int) u)) Q E s := by
  refine subscriptTail_ops (ops := [.ref D, .int (n : Int) u]) hl.typeIs list_getitem_lookup (wpAny_getItem_list hl (by omega) (by omega) (by simpa using hv) q) (sub_plain hs) (fun _ => temp_name)

theorem call_list_range' {a b c : Int} {n : Nat} {Q : Value → Shared → Prop} {r : Addr} {t u v : Tok} (hh : A.handled = none) (hr : IsRange s.heap r a b c t u v) (hsmall : Builtin.Range.small a b c = true)
    (hn : Builtin.Range.rangeSize a b c = n) (hlen : n ≤ 2 ^ 24)
    (q : ∀ D h' tk (vs : List Value), Keep s.heap h' → New s.heap D → h'.PlainList D vs.toArray → vs.length = n → (∀ (i : Nat) (v : Value), vs[i]? = some v → ∃ t, v = .int (a + i * c) t) → Q (.ref D) { s with heap := h', toks := tk }) :
    wpAny (model prog w) A (call (.type "list") [.ref r]) Q E s := by
  refine call_list_range hh hr hsmall hn hlen fun h' tk acc c' k hD hI => ?_
  exact q _ h' tk acc.toList (.of k) (New.of_size (Nat.le_refl _)) (by rw [Array.toArray_toList]; exact ⟨c', hD⟩) (by simpa using hI.1) (fun i v e => hI.2 i v (by simpa using e))
end

section
variable {hb hs hz h h' : Heap} {L : Addr} {vs : Vs} {cs : Cs} {ms : List (Addr × List Value)}
theorem Fm.own (F : Fm hb hs hz h L vs cs ms) {D : Addr} {l : List Value} (hl : h.PlainList D l.toArray) (hD : D ∉ owned L cs ms) (nb : hb.get? D = none) : Fm hb hs hz h L vs cs (ms ++ [(D, l)]) where
  loc := F.loc
  nv := F.nv
  cel := F.cel
  mls := fun p hp => by
    rcases List.mem_append.mp hp with hp | hp
    · exact F.mls p hp
    · rw [List.mem_singleton.mp hp]; exact hl
  kb := F.kb
  ob := fun a ha => by
    have : a ∈ owned L cs ms ∨ a = D := by
      simp only [owned, List.map_append, List.map_cons, List.map_nil, List.mem_cons, List.mem_append, List.mem_singleton, List.not_mem_nil, or_false] at ha ⊢
      rcases ha with h | h | h | h <;> simp [h]
    rcases this with h | rfl
    · exact F.ob a h
    · exact nb
  k0 := fun a o na e => F.k0 a o (fun m => na (by
      simp only [owned, List.map_append, List.map_cons, List.map_nil, List.mem_cons, List.mem_append] at m ⊢
      rcases m with h | h | h <;> simp [h])) e
  kz := fun a o na e q => F.kz a o (fun m => na (by rw [List.map_append]; exact List.mem_append_left _ m)) e q
  nd := by
    have e : owned L cs (ms ++ [(D, l)]) = owned L cs ms ++ [D] := by simp [owned]
    rw [e]
    refine List.nodup_append.mpr ⟨F.nd, by simp, fun a ha b hb' => ?_⟩
    rw [List.mem_singleton.mp hb']
    rintro rfl
    exact hD ha

inductive PutM : List (Addr × List Value) → Addr → List Value → List (Addr × List Value) → Prop
  | here {D o l r} : PutM ((D, o) :: r) D l ((D, l) :: r)
  | there {p r D l r'} : PutM r D l r' → PutM (p :: r) D l (p :: r')
theorem PutM.addrs {r r' : List (Addr × List Value)} {D : Addr} {l : List Value} (p : PutM r D l r') : r'.map (·.1) = r.map (·.1) := by
  induction p with
  | here => rfl
  | there _ ih => simp only [List.map_cons, ih]
theorem PutM.mem {r r' : List (Addr × List Value)} {D : Addr} {l : List Value} (p : PutM r D l r') : D ∈ r.map (·.1) := by
  induction p with
  | here => exact List.mem_cons_self
  | there _ ih => exact List.mem_cons_of_mem _ ih
theorem PutM.at {r r' : List (Addr × List Value)} {D : Addr} {l : List Value} (p : PutM r D l r') : (r.map (·.1)).Nodup → ∀ {d u}, (d, u) ∈ r' → (d = D ∧ u = l) ∨ (d ≠ D ∧ (d, u) ∈ r) := by
  induction p with
  | here =>
    intro nd d u m
    rcases List.mem_cons.mp m with e | m2
    · cases e; exact .inl ⟨rfl, rfl⟩
    · refine .inr ⟨fun e => ?_, List.mem_cons_of_mem _ m2⟩
      have m' : (d, u).1 ∈ _ := List.mem_map_of_mem (f := (·.1)) m2
      rw [show (d, u).1 = d from rfl, e] at m'
      exact (List.nodup_cons.mp nd).1 m'
  | there q ih =>
    intro nd d u m
    have nd' := List.nodup_cons.mp nd
    rcases List.mem_cons.mp m with e | m
    · subst e
      refine .inr ⟨?_, List.mem_cons_self⟩
      rintro rfl
      exact nd'.1 q.mem
    · rcases ih nd'.2 m with h | ⟨h, h'⟩
      · exact .inl h
      · exact .inr ⟨h, List.mem_cons_of_mem _ h'⟩
theorem Fm.setM (F : Fm hb hs hz h L vs cs ms) {D : Addr} {l : List Value} {ms' : List (Addr × List Value)} (p : PutM ms D l ms') (hl : h'.PlainList D l.toArray) (k : Heap.SameBut D h h') : Fm hb hs hz h' L vs cs ms' := by
  have hD := mem_own_m (L := L) (cs := cs) p.mem
  have e : owned L cs ms' = owned L cs ms := by unfold owned; rw [p.addrs]
  have nd := F.nd
  exact {
    loc := let ⟨m, n, a⟩ := F.loc; ⟨m, n.sameBut k fun e => by
      subst e
      exact (List.nodup_cons.mp nd).1 (List.mem_append_right _ p.mem), a⟩
    nv := F.nv
    cel := fun y d u mm => (F.cel y d u mm).sameBut k fun e => by
      have h1 : d ∈ cs.map (·.2.1) := List.mem_map_of_mem (f := (·.2.1)) mm
      exact (List.nodup_append.mp (List.nodup_cons.mp nd).2).2.2 d h1 D p.mem e
    mls := fun q mm => by
      obtain ⟨d, u⟩ := q
      rcases p.at (List.nodup_append.mp (List.nodup_cons.mp nd).2).2.1 mm with ⟨rfl, rfl⟩ | ⟨hd, mm⟩
      · exact hl
      · exact (F.mls (d, u) mm).at fun o e => (k.2 d hd).trans e
    kb := fun a o e => (F.kb a o e).step fun o' e' => (k.2 a fun q => by have := F.ob D hD; rw [← q, e] at this; cases this).trans e'
    ob := by rw [e]; exact F.ob
    k0 := fun a o n e' => (F.k0 a o (by rw [← e]; exact n) e').step fun o' e'' => (k.2 a fun q => n (by rw [e]; exact q ▸ hD)).trans e''
    kz := fun a o n e q => (k.2 a fun q => n (by rw [p.addrs]; exact q ▸ p.mem)).trans (F.kz a o (by rw [← p.addrs]; exact n) e q)
    nd := by rw [e]; exact F.nd }
end

section
variable {prog : Program} {w : World} {A : Around} {E : Value → Shared → Prop} {s : Shared}
/-- a for loop over what an iterator gives, by what holds between its turns -/
theorem for_rule2 {x : Str} {px : Pos} {body : List Stmt} {env : Env} {Q : Flow → Shared → Prop}
    {hb hs : Heap} {I : Addr} {fp wr : List Addr} {n : Nat} {P : Nat → Value → Prop} {St : Nat → Heap → Prop}
    (W : Walks prog w A I fp wr n P St) (own : List Addr)
    (Inv : Nat → Heap → List (Str × Option Value) → List (Str × Addr × Option Value) → List (Addr × List Value) → Prop)
    (hown : ∀ i hz vs cs ms, Inv i hz vs cs ms → owned env.locals cs ms = own)
    (hst : St 0 s.heap) (hfo : ∀ b ∈ fp, b ∉ own) (hwb : ∀ b ∈ wr, hb.get? b = none) (hws : ∀ b ∈ wr, hs.get? b = none)
    (hseq : ∀ i h, St i h → ∀ b ∈ wr, ∀ o, h.get? b = some o → isSeq o = false) (hsol : ∀ i h, St i h → ∀ b ∈ fp, ∀ o, h.get? b = some o → o ≠ tab0)
    (start : ∃ hz vs cs ms, Inv 0 hz vs cs ms ∧ Fm hb hs hz s.heap env.locals vs cs ms)
    (turn : ∀ i v hs' hz h tk vs cs ms, i < n → P i v → Inv i hz vs cs ms → Fm hb hs' hz h env.locals vs cs ms →
      wpAny (model prog w) A (assign (.Name x px) env v) (fun _ s₂ => wpAny (model prog w) A (execs body env)
        (fun f s' => (f = .next ∧ ∃ h' tk' hz' vs' cs' ms', s' = { s with heap := h', toks := tk' } ∧ Inv (i + 1) hz' vs' cs' ms' ∧ Fm hb hs' hz' h' env.locals vs' cs' ms') ∨ ∃ v, f = .ret v ∧ Q (.ret v) s') (fun _ _ => False) s₂) (fun _ _ => False) { s with heap := h, toks := tk })
    (done : ∀ hz h tk vs cs ms, Inv n hz vs cs ms → Fm hb hs hz h env.locals vs cs ms → Q .next { s with heap := h, toks := tk })
    (hx : ∀ v, letOwnedTupleGo (.Name x px) (.ref I) v = pure () := by intro _; rfl) :
    codeAny (model prog w) A (.forLoop (.Name x px) (.ref I) body [] env) (fun r s' => match r with | .ok f => Q f s' | .error e => cameBackBy (model prog w) A env E e s') s := by
  refine codeAny_forLoop
    (fun k s' => ∃ i h tk hz vs cs ms, s' = { s with heap := h, toks := tk } ∧ i ≤ n ∧ k = n - i ∧ St i h ∧ Inv i hz vs cs ms ∧ Fm hb hs hz h env.locals vs cs ms) ?_ n
    (by obtain ⟨hz, vs, cs, ms, i, F⟩ := start; exact ⟨0, s.heap, s.toks, hz, vs, cs, ms, rfl, Nat.zero_le _, rfl, hst, i, F⟩) hx
  rintro k s' ⟨i, h, tk, hz, vs, cs, ms, rfl, hi, rfl, hSt, hI, F⟩
  have ho := hown _ _ _ _ _ hI
  have hwo : ∀ b ∈ wr, b ∉ owned env.locals cs ms := fun b hb => ho ▸ hfo b (W.sub b hb)
  by_cases hlt : i < n
  · refine W.item i _ _ _ hlt hSt fun v h₁ tk₁ hPv hSt₁ hk₁ => ?_
    have F₁ := F.but hk₁ hwo hwb hws (hseq i h hSt)
    refine wpAny_mono (turn i v h₁ hz h₁ tk₁ vs cs ms hlt hPv hI F₁.here) (fun _ s₂ h₂ => ?_) (fun _ _ e => e.elim)
    refine wpAny_mono h₂ (fun f s₃ h₃ => ?_) (fun _ _ e => e.elim)
    rcases h₃ with ⟨rfl, h', tk', hz', vs', cs', ms', rfl, hI', F'⟩ | ⟨v, rfl, hv⟩
    rotate_left
    · exact hv
    have ho' := hown _ _ _ _ _ hI'
    have hk' : ∀ a o, a ∉ own → h₁.get? a = some o → KA h' a o := fun a o n e => F'.k0 a o (ho' ▸ n) e
    have hk0 : ∀ a o, a ∉ owned env.locals cs' ms' → hs.get? a = some o → KA h' a o := fun a o m e => by
      rcases F₁.k0 a o (by rw [ho]; rw [ho'] at m; exact m) e with x | ⟨x1, x2, c, x⟩
      · exact hk' a o (ho' ▸ m) x
      · exact .inr ⟨x1, x2, c, (hk' a _ (ho' ▸ m) x).get (ne_tab1 c)⟩
    refine ⟨n - (i + 1), by omega, i + 1, h', tk', hz', vs', cs', ms', rfl, hlt, rfl, W.frame _ _ _ hSt₁ fun b hb o e => (hk' b o (hfo b hb) e).get (hsol _ _ hSt₁ b hb o e), hI', ?_⟩
    exact { F' with k0 := hk0 }
  · have hin : i = n := by omega
    subst hin
    refine W.done _ _ _ hSt fun h₁ tk₁ hk₁ => ?_
    exact wpAny_execs_nil (done hz h₁ tk₁ vs cs ms hI (F.but hk₁ hwo hwb hws (hseq i h hSt)))

end
section
variable {prog : Program} {w : World} {A : Around} {E : Value → Shared → Prop} {s : Shared} {env : Env}
theorem for_stmt2 {x : Str} {px pos : Pos} {iter : Expr} {body : List Stmt} {Q : Flow → Shared → Prop} {hb hs : Heap} (hh : A.handled = none) (own : List Addr)
    (Inv : Nat → Heap → List (Str × Option Value) → List (Str × Addr × Option Value) → List (Addr × List Value) → Prop)
    (hown : ∀ i hz vs cs ms, Inv i hz vs cs ms → owned env.locals cs ms = own)
    (h : wpAny (model prog w) A (eval iter env) (ForOb prog w A env x px body own Inv hb hs (fun f s' => ∃ v, f = .ret v ∧ Q (.ret v) s') Q) E s)
    (hsf : ∀ x, foldedSetIterable iter env x = pure x := by intro _; rfl) :
    wpAny (model prog w) A (exec (.For (.Name x px) iter body [] pos) env) Q E s := by
  refine wpAny_For (wpAny_mono h (fun xv s₁ h₁ => ?_) fun _ _ e => e) hsf
  obtain ⟨n, P, hz, vs, cs, ms, it, F, hI, hx, turn, done⟩ := h₁
  have ho := hown _ _ _ _ _ hI
  have nown : ∀ a, New s₁.heap a → a ∉ own := fun a na ha => by
    obtain ⟨o, hov⟩ := F.live (ho ▸ ha)
    rw [show s₁.heap.get? a = none from na] at hov; cases hov
  refine it A s₁ _ _ hh Keep.rfl' (fun I fp wr St h' W hst k hfp hwr hseq hsol hf => ?_)
  refine for_rule2 (s := { s₁ with heap := h' }) (hb := hb) (hs := hs) W own Inv hown hst (fun b hb' => ?_) (fun b hb' => New.back F.kb b (hwr b hb')) (fun b hb' => ?_) hseq hsol ⟨hz, vs, cs, ms, hI, F.keep k⟩
    (fun i v hs' hz h tk vs cs ms a1 a2 a3 a4 => wpAny_mono (turn i v hs' hz h tk vs cs ms a1 a2 a3 a4) (fun _ _ x => wpAny_mono x (fun f s' y => y.imp (fun ⟨e1, h1, t1, z1, v1, c1, m1, e2, I1, F1⟩ => ⟨e1, h1, t1, z1, v1, c1, m1, e2, I1, F1⟩) id) fun _ _ e => e) fun _ _ e => e) done
  · rcases hf b hb' with hw | hv
    · exact nown b (hwr b hw)
    · exact hx b hv
  · cases e : hs.get? b with
    | none => rfl
    | some o => obtain ⟨o', ho'⟩ := (F.k0 b o (ho ▸ nown b (hwr b hb')) e).live; rw [show s₁.heap.get? b = none from hwr b hb'] at ho'; cases ho'

end
local macro_rules | `(tactic| walk_at "ev1") => `(tactic| first
  | (with_reducible refine ev_sl ?_)
  | (with_reducible refine part_none ?_)
  | (with_reducible refine part_some ?_)
  | ((with_reducible refine trS ?h ?q); (case h => omega); intro _)
  | ((with_reducible refine cT ?h ?a); (case a => rfl))
  | ((with_reducible refine cT1 ?h ?a ?b); (case a => rfl); (case b => rfl)))
noncomputable def preL : List Nat → List Nat → Nat
  | x :: a, y :: b => if x = y then preL a b + 1 else 0
  | _, _ => 0
theorem preL_le : ∀ a b, preL a b ≤ a.length ∧ preL a b ≤ b.length
  | [], _ => by simp [preL]
  | _ :: _, [] => by simp [preL]
  | x :: a, y :: b => by
    unfold preL
    have := preL_le a b
    split <;> simp <;> omega
noncomputable def sufL (a b : List Nat) : Nat := preL a.reverse b.reverse
noncomputable def subN (x y : Nat) : Int := if x = y then 0 else 2
noncomputable abbrev StI := List Int × Int × Int × Int
noncomputable def stepI (c : Nat) (a : List Nat) (st : StI) (k : Nat) : StI :=
  let sub := st.2.1 + subN c (a.getD k 0)
  let d := st.1.getD k 0
  let r := min (min st.2.2.1 d + 2) sub
  (st.1.set k r, d, r, if r < st.2.2.2 then r else st.2.2.2)
noncomputable def rowI (c : Nat) (a : List Nat) (row : List Int) (j : Nat) (k : Nat) : StI := (List.range k).foldl (stepI c a) (row, (j : Int) * 2, (j : Int) * 2, 9223372036854775807)
noncomputable def outL (m : Int) (a : List Nat) : Nat → List Nat → List Int → Int → Int
  | _, [], _, res => res
  | j, c :: cs, row, _ => if (rowI c a row j a.length).2.2.2 > m then m + 1 else outL m a (j + 1) cs (rowI c a row j a.length).1 (rowI c a row j a.length).2.2.1
noncomputable def tabL (m : Int) (a b : List Nat) : Int :=
  if ((b.length : Int) - a.length) * 2 > m then m + 1 else outL m a 0 b ((List.range a.length).map fun (i : Nat) => 2 + (i : Int) * 2) 0
noncomputable def midL (m : Int) (a b : List Nat) : Int :=
  if a = [] ∨ b = [] then 2 * ((a.length : Int) + b.length) else if b.length < a.length then tabL m b a else tabL m a b
noncomputable def cutS (a b : List Nat) : List Nat := a.take (a.length - sufL a b)
noncomputable def levL (a b : List Nat) (m : Int) : Int :=
  if a = b then 0 else midL m (cutS (a.drop (preL a b)) (b.drop (preL a b))) (cutS (b.drop (preL a b)) (a.drop (preL a b)))

noncomputable abbrev lv (a b m pre post row result bindex bchar distance minimum index substitute insdel : Option Value) : Vs :=
  [("a", a), ("b", b), ("max_cost", m), ("pre", pre), ("post", post), ("row", row), ("result", result), ("bindex", bindex), ("bchar", bchar), ("distance", distance), ("minimum", minimum), ("index", index), ("substitute", substitute), ("insert_delete", insdel)]
theorem S_beq (a b : List Nat) : (S a == S b) = decide (a = b) := by
  by_cases h : a = b
  · subst h; simp
  · have : S a ≠ S b := fun e => h (by injection e with e; simpa using e)
    rw [decide_eq_false h]
    exact beq_eq_false_iff_ne.mpr this
theorem chr_eq {c c' : Nat} : ((⟨#[c]⟩ : Str) == ⟨#[c']⟩) = decide (c = c') := by
  have := @chr_ne c c'
  unfold bne at this
  cases h : ((⟨#[c]⟩ : Str) == ⟨#[c']⟩) <;> rw [h] at this <;> cases h2 : decide (c = c') <;> rw [h2] at this <;> first | rfl | cases this
theorem drop_none {l : List Nat} {i : Nat} (h : l[i]? = none) : l.drop i = [] := List.drop_eq_nil_of_le (List.getElem?_eq_none_iff.mp h)
theorem drop_some {l : List Nat} {i x : Nat} (h : l[i]? = some x) : l.drop i ≠ [] := fun e => by
  have := (List.getElem?_eq_some_iff.mp h).1
  have h2 := congrArg List.length e
  rw [List.length_drop] at h2
  simp at h2
  omega
theorem preL_comm : ∀ a b, preL a b = preL b a
  | [], b => by cases b <;> rfl
  | _ :: _, [] => rfl
  | x :: a, y :: b => by
    unfold preL
    rw [preL_comm a b]
    by_cases h : x = y
    · rw [if_pos h, if_pos h.symm]
    · rw [if_neg h, if_neg (Ne.symm h)]
theorem sufL_comm (a b : List Nat) : sufL a b = sufL b a := preL_comm _ _
theorem preL_nil {a b : List Nat} (h : a = [] ∨ b = []) : preL a b = 0 := by
  rcases h with rfl | rfl
  · rfl
  · cases a <;> rfl
theorem preL_drop {a b : List Nat} {i : Nat} {x y : Nat} (ha : a[i]? = some x) (hb : b[i]? = some y) : preL (a.drop i) (b.drop i) = if x = y then preL (a.drop (i + 1)) (b.drop (i + 1)) + 1 else 0 := by
  rw [← List.getElem_cons_drop (List.getElem?_eq_some_iff.mp ha).1, ← List.getElem_cons_drop (List.getElem?_eq_some_iff.mp hb).1]
  rw [(List.getElem?_eq_some_iff.mp ha).2, (List.getElem?_eq_some_iff.mp hb).2]
  rfl
theorem cut_from {α : Type} (l : List α) (i : Nat) : cutL l (some (i : Int)) none = l.drop i := by
  unfold cutL lowAt highAt
  simp only [Option.elim, clipAt_nat]
  rcases Nat.le_total i l.length with h | h
  · rw [Nat.min_eq_left h]; exact List.take_of_length_le (by rw [List.length_drop]; omega)
  · rw [Nat.min_eq_right h]; simp [List.drop_eq_nil_of_le h]
theorem cut_upto {α : Type} (l : List α) (i : Nat) : cutL l none (some (i : Int)) = l.take i := by
  unfold cutL lowAt highAt
  simp only [Option.elim, clipAt_nat, List.drop_zero, Nat.sub_zero]
  rcases Nat.le_total i l.length with h | h
  · rw [Nat.min_eq_left h]
  · rw [Nat.min_eq_right h]; simp [List.take_of_length_le h]
theorem cut_neg {α : Type} (l : List α) (i : Nat) (hi : 1 ≤ i) : cutL l none (some (-(i : Int))) = l.take (l.length - i) := by
  unfold cutL lowAt highAt
  simp only [Option.elim, clipAt_neg l.length i hi, List.drop_zero, Nat.sub_zero]
theorem cut_all {α : Type} (l : List α) : cutL l none none = l := by
  unfold cutL lowAt highAt
  simp

section
variable {prog : Program} {w : World} {A : Around} {E : Value → Shared → Prop} {s : Shared} {env : Env} {M : Model}

theorem post_or {x : Str} {px pn pos : Pos} {i : Nat} {t : Tok} {h : Heap} {Q : Value → Shared → Prop} (l : Looks (model prog w) h (loadName env x) (.int (-(i : Int)) t)) (k : Keep h s.heap)
    (q : ∀ v, IsPart v (if i = 0 then none else some (-(i : Int))) → Q v s) (hd : (x == ("__debug__" : Str)) = false := by decide) :
    wpAny (model prog w) A (evalPart (some (.BoolOp .Or [.Name x px, .Constant .none 0 pn] pos)) env) Q E s := by
  refine part_some (BoolOp_or (ev_name l k (PyProof.Rows.truthy_int ?_) hd))
  by_cases hi : i = 0
  · subst hi
    rw [if_neg (by decide)]
    refine BoolOp_one (wpAny_Constant_none (q _ ?_))
    rw [if_pos rfl]; exact .none
  · rw [if_pos (by rw [bne_iff_ne]; omega)]
    refine q _ ?_
    rw [if_neg hi]; exact .int _ _
theorem cut_post {α : Type} (l : List α) (i : Nat) : cutL l none (if i = 0 then none else some (-(i : Int))) = l.take (l.length - i) := by
  by_cases hi : i = 0
  · subst hi
    rw [if_pos rfl, cut_all]; simp
  · rw [if_neg hi, cut_neg l i (by omega)]
theorem sneg {value slice : Expr} {l : List Nat} {t u : Tok} {c i : Nat} {Q : Value → Shared → Prop} (hc : l.reverse[i]? = some c) (hl : l.length < 2 ^ 62)
    (q : Q (.str ⟨#[c]⟩ s.toks) { s with toks := s.toks + 1 }) (hs : isSliceE slice = false) :
    wpAny (model prog w) A (subscriptTail value slice (.str (S l) t) (.int (-(i : Int) - 1) u)) Q E s := by
  have hn : i < l.length := by have := (List.getElem?_eq_some_iff.mp hc).1; simpa using this
  have hL : (S l).length = l.length := by show l.toArray.size = _; simp
  have e : Txt.item (S l) (-(i : Int) - 1) = ⟨#[c]⟩ := by
    rw [beq_iff_eq.mp (item_closes_neg (x := S l) (i := -(i : Int) - 1) (j := ((l.length - 1 - i : Nat) : Int)) (by omega) (by rw [hL]; omega) (by rw [hL]; omega))]
    rw [List.getElem?_reverse hn] at hc
    simp [hc]
  refine item_str ?_ (by rw [hL]; omega) (by rw [hL]; omega) (fun _ => by rw [e]; exact q) (sub_plain hs) (fun _ => temp_str)
  unfold fitsSsize
  rw [decide_eq_false (by omega), decide_eq_false (by omega)]; rfl

noncomputable def Lets (l : List Nat) : Prop := ∀ x ∈ l, x = 97 ∨ x = 98 ∨ x = 91 ∨ x = 42

end
local macro_rules | `(tactic| walk_at "ev1") => `(tactic| ((with_reducible show wpAny _ _ (evalPart (some (Expr.BoolOp BoolOp.Or _ _)) _) _ _ _); (refine' post_or (Fm.ld ?f ?a ?x ?y) ?k ?q ?d; (case f => assumption); (case a => walk_at "at"); (case x => rfl); (case y => rfl); (case k => walk_at "keep"); (case d => decide)); intro _ _))
section
variable {prog : Program} {w : World} {A : Around} {E : Value → Shared → Prop} {s : Shared} {env : Env} {M : Model}

theorem lrange {a b c : Int} {n : Nat} {t u v : Tok} {Q : Value → Shared → Prop} (hh : A.handled = none) (hc : c ≠ 0) (hp : Builtin.divisionGoesByPylong (b - a) c = false) (hsmall : Builtin.Range.small a b c = true)
    (hn : Builtin.Range.rangeSize a b c = n) (hlen : n ≤ 2 ^ 24)
    (q : ∀ D h' tk (vs : List Value), Keep s.heap h' → New s.heap D → h'.PlainList D vs.toArray → vs.length = n → (∀ (i : Nat) (v : Value), vs[i]? = some v → ∃ t, v = .int (a + i * c) t) → Q (.ref D) { s with heap := h', toks := tk }) :
    wpAny (model prog w) A (call (.type "range") [.int a t, .int b u, .int c v]) (fun r s₁ => wpAny (model prog w) A (call (.type "list") [r]) Q E s₁) E s := by
  refine call_range_3 hc ?_ (Or.inl hp)
  have hr := IsRange.new s.heap a b c t u v
  refine' call_list_range' hh ?hr hsmall hn hlen (fun D h' tk vs k nD hD hl hv => ?_)
  case hr => exact hr
  exact q D h' tk vs ((Keep.push _ _).trans k) (New.back (Keep.push _ _) D nD) hD hl hv

theorem range1n {n : Nat} {t : Tok} {Q : Value → Shared → Prop} (hn : n < 2 ^ 62)
    (q : ∀ r h' tk, Keep s.heap h' → New s.heap r → IterOf prog w h' (.ref r) n (fun i v => ∃ t, v = .int (i : Int) t) → Q (.ref r) { s with heap := h', toks := tk }) :
    wpAny (model prog w) A (call (.type "range") [.int (n : Int) t]) Q E s := by
  refine call_range_1 ?_
  have hr := IsRange.new s.heap 0 (n : Int) 1 s.toks t (s.toks + 1)
  refine q _ _ _ (Keep.push _ _) (New.of_size (Nat.le_refl _)) ?_
  have := iter_range (prog := prog) (w := w) hr (small0 hn) rangeSize0
  simpa using this
theorem Fm.fresh {hb hs hz h : Heap} {L : Addr} {vs : Vs} {cs : Cs} {ms : List (Addr × List Value)} (F : Fm hb hs hz h L vs cs ms) {r : Addr} (n : New h r) : ∀ a, Value.ref r = .ref a → a ∉ owned L cs ms := fun a e m => by
  cases e
  obtain ⟨o, ho⟩ := F.live m
  rw [show h.get? r = none from n] at ho; cases ho

noncomputable def IntsR (rv : List Value) (ri : List Int) : Prop := rv.length = ri.length ∧ ∀ (i : Nat) (x : Int), ri[i]? = some x → ∃ t, rv[i]? = some (.int x t)
theorem IntsR.set {rv : List Value} {ri : List Int} (h : IntsR rv ri) (k : Nat) (x : Int) (t : Tok) : IntsR (rv.set k (.int x t)) (ri.set k x) := by
  refine ⟨by rw [List.length_set, List.length_set, h.1], fun i y hy => ?_⟩
  by_cases hk : k = i
  · subst hk
    rw [List.getElem?_set] at hy ⊢
    have := h.1
    split at hy
    · split at hy
      · cases hy
        exact ⟨t, by rw [if_pos rfl, if_pos (by omega)]⟩
      · cases hy
    · omega
  · rw [List.getElem?_set_ne hk] at hy ⊢
    exact h.2 i y hy
theorem rowI_succ (c : Nat) (a : List Nat) (row : List Int) (j k : Nat) : rowI c a row j (k + 1) = stepI c a (rowI c a row j k) k := by
  unfold rowI
  rw [List.range_succ, List.foldl_append]; rfl
theorem rowI_len (c : Nat) (a : List Nat) (row : List Int) (j : Nat) : ∀ k, (rowI c a row j k).1.length = row.length
  | 0 => rfl
  | k + 1 => by
    rw [rowI_succ]
    show ((rowI c a row j k).1.set k _).length = _
    rw [List.length_set, rowI_len c a row j k]
theorem outL_cons (m : Int) (a : List Nat) (j c : Nat) (cs : List Nat) (row : List Int) (res : Int) : outL m a j (c :: cs) row res = if (rowI c a row j a.length).2.2.2 > m then m + 1 else outL m a (j + 1) cs (rowI c a row j a.length).1 (rowI c a row j a.length).2.2.1 := rfl
theorem unpack2 {a b : Value} {Q : List Value → Shared → Prop} (hh : A.handled = none) {T : Addr} (hT : s.heap.get? T = some { cls := .type "tuple", data := .seq [a, b].toArray })
    (q : ∀ h', Keep s.heap h' → Q [a, b] { s with heap := h' }) :
    wpAny (model prog w) A (unpackItems (.ref T) 2 none) Q E s := by
  refine wpAny_unpackItems_tuple (items := [a, b].toArray) hh ⟨_, hT, rfl, 0, rfl⟩ fun h' k' => ?_
  exact q h' (.of fun b o e => k' b o (fun q => by have := Heap.lt_size e; rw [q] at this; exact Nat.lt_irrefl _ this) e)
theorem low_ok {x : Nat} (h : x = 97 ∨ x = 98 ∨ x = 91 ∨ x = 42) : Builtin.Str.tooLong (Txt.lower (⟨#[x]⟩ : Str)).length = false := by
  rcases h with rfl | rfl | rfl | rfl <;> decide +kernel
theorem subC_eq {x y : Nat} (h : x = 97 ∨ x = 98 ∨ x = 91 ∨ x = 42) (h' : y = 97 ∨ y = 98 ∨ y = 91 ∨ y = 42) : subC (⟨#[x]⟩ : Str) (⟨#[y]⟩ : Str) = subN x y := by
  rcases h with rfl | rfl | rfl | rfl <;> rcases h' with rfl | rfl | rfl | rfl <;> decide +kernel

inductive LevN (a b : List Nat) (m p z : Int) (R : Addr) (j c : Nat) (st : StI) (hz : Heap) (vs : Vs) (cs : Cs) (ms : List (Addr × List Value)) : Prop
  | mk (rv : List Value) (tp tq tr ts tres v t1 t2 t3 t4 : Tok) (o5 o6 o7 : Option Value)
      (f0 : vs = lv (some (.str (S a) tp)) (some (.str (S b) tq)) (some (.int m v)) (some (.int p tr)) (some (.int z ts)) (some (.ref R)) (some (.int (st).2.2.1 tres)) (some (.int (j : Int) t1)) (some (.str (⟨#[c]⟩ : Str) t2)) (some (.int (st).2.1 t3)) (some (.int (st).2.2.2 t4)) o5 o6 o7)
      (f1 : cs = ([] : Cs))
      (f2 : ms = [(R, rv)])
      (f3 : IntsR rv (st).1)
      : LevN a b m p z R j c st hz vs cs ms
inductive LevO (a b : List Nat) (m p z : Int) (R : Addr) (row : List Int) (j : Nat) (hz : Heap) (vs : Vs) (cs : Cs) (ms : List (Addr × List Value)) : Prop
  | mk (rv : List Value) (ri : List Int) (res : Int) (tp tq tr ts tres v : Tok) (o1 o2 o3 o4 o5 o6 o7 : Option Value)
      (f0 : vs = lv (some (.str (S a) tp)) (some (.str (S b) tq)) (some (.int m v)) (some (.int p tr)) (some (.int z ts)) (some (.ref R)) (some (.int res tres)) o1 o2 o3 o4 o5 o6 o7)
      (f1 : cs = ([] : Cs))
      (f2 : ms = [(R, rv)])
      (f3 : IntsR rv ri)
      (f4 : ri.length = a.length)
      (f5 : outL m a j (b.drop j) ri res = outL m a 0 b row 0)
      : LevO a b m p z R row j hz vs cs ms
set_option maxHeartbeats 0 in
theorem lev_tab {a b : List Nat} {m p z : Int} {tp tq tr ts v : Tok} {Q : Value → Shared → Prop} {mg mb : Str → Option Value} {hb h₀ hz : Heap} {f L : Addr} {cd : Value} (B : Bs mg mb hb) (k : Keep hb h₀) (rm : Rm A 3)
    (ha : a.length ≤ 3) (hb3 : b.length ≤ 3) (hab : a.length ≤ b.length) (la : Lets a) (lb : Lets b)
    (F : Fm h₀ h₀ hz s.heap L (lv (some (.str (S a) tp)) (some (.str (S b) tq)) (some (.int m v)) (some (.int p tr)) (some (.int z ts)) none none none none none none none none none) [] [])
    (q : ∀ t' h' tk, Keep h₀ h' → Q (.int (tabL m a b) t') { s with heap := h', toks := tk }) :
    wpAny (model prog w) A (execs (r6.body.drop 12) (envOfC r6.name r6.scope L f cd)) (fun fl s' => Q (match fl with | .ret v => v | _ => .none) s') (fun _ _ => False) s := by
  obtain ⟨fS, hS, fnS⟩ := B.sub
  obtain ⟨tm, hm⟩ := B.mv
  have llen := ld_builtin (M := model prog w) (env := envOfC r6.name r6.scope L f cd) B.g B.b B.blen.1 B.blen.2
  have lran := ld_builtin (M := model prog w) (env := envOfC r6.name r6.scope L f cd) B.g B.b B.brange.1 B.brange.2
  have llis := ld_builtin (M := model prog w) (env := envOfC r6.name r6.scope L f cd) B.g B.b B.blist.1 B.blist.2
  have lmin := ld_builtin (M := model prog w) (env := envOfC r6.name r6.scope L f cd) B.g B.b B.bmin.1 B.bmin.2
  have lsub := ld_global (M := model prog w) (env := envOfC r6.name r6.scope L f cd) B.g hS
  have lmov := ld_global (M := model prog w) (env := envOfC r6.name r6.scope L f cd) B.g hm
  have hsa : (S a).cps.size = a.length := by simp
  have hsb : (S b).cps.size = b.length := by simp
  have kB : Keep hb s.heap := k.trans F.kb
  conv => arg 3; arg 1; whnf
  repeat walk_at "ev"
  have ea : ((a.toArray.size : Int)) = a.length := by simp
  have eb : ((b.toArray.size : Int)) = b.length := by simp
  by_cases hc : ((b.length : Int) - a.length) * 2 > m
  · rw [if_pos (by rw [ea, eb]; exact decide_eq_true hc)]
    repeat walk_at "ev"
    unfold tabL at q
    rw [if_pos hc] at q
    exact q _ _ _ F.kb
  rw [if_neg (by rw [ea, eb, decide_eq_false hc]; exact Bool.false_ne_true)]
  repeat walk_at "ev"
  unfold tabL at q
  rw [if_neg hc] at q
  rw [ea]
  have hrs : Builtin.Range.small 2 (2 * ((a.length : Int) + 1)) 2 = true ∧ Builtin.Range.rangeSize 2 (2 * ((a.length : Int) + 1)) 2 = (a.length : Int) := by
    have : a.length = 0 ∨ a.length = 1 ∨ a.length = 2 ∨ a.length = 3 := by omega
    rcases this with h | h | h | h <;> rw [h] <;> decide +kernel
  refine lrange rm.hd (by decide) (PyProof.noPylong_small (by decide)) hrs.1 hrs.2 (by omega) (fun R h₂ tk₂ rv K₂ nR hR lR iR => ?_)
  have F₂ := F.keep K₂
  have nRo : R ∉ owned (envOfC r6.name r6.scope L f cd).locals [] [] := fun m => by
    obtain ⟨o, ho⟩ := F.live m
    rw [show s.heap.get? R = none from nR] at ho; cases ho
  have F₃ := (F₂.own hR nRo (New.back F.kb R nR)).now
  generalize hrow : ((List.range a.length).map fun (i : Nat) => 2 + (i : Int) * 2) = row at q
  have hRr : IntsR rv row := by
    subst hrow
    refine ⟨by simp [lR], fun i x hx => ?_⟩
    rw [List.getElem?_map] at hx
    have hi : i < a.length := by
      rcases Nat.lt_or_ge i a.length with h | h
      · exact h
      · rw [List.getElem?_eq_none (by rw [List.length_range]; exact h)] at hx; cases hx
    rw [List.getElem?_range hi] at hx
    cases hx
    have hv : rv[i]? = some rv[i] := List.getElem?_eq_getElem (by omega)
    obtain ⟨t, ht⟩ := iR i _ hv
    exact ⟨t, by rw [hv, ht]⟩
  have lrow : row.length = a.length := by rw [← hRr.1, lR]
  clear hrow iR
  dsimp only [List.nil_append] at F₃
  repeat walk_at "ev"
  refine for_stmt2 (hb := h₀) (hs := h₀) rm.hd [L, R]
    (LevO a b m p z R row) ?_ ?_
  · rintro i hz vs cs ms ⟨rv, ri, res, tp, tq, tr, ts, tres, v, o1, o2, o3, o4, o5, o6, o7, rfl, rfl, rfl, _⟩
    rfl
  repeat walk_at "ev"
  have F₆ := ‹Fm _ _ _ _ _ _ _ _›
  rw [eb]
  have kB₆ : Keep hb _ := k.trans F₆.kb
  refine range1n (by omega) (fun r h₇ tk₇ K₇ nr it => ?_)
  have F₇ := F₆.keep K₇
  refine ⟨b.length, _, _, _, _, _, it, F₇, ⟨_, _, _, _, _, _, _, _, _, _, _, _, _, _, _, _, rfl, rfl, rfl, hRr, lrow, rfl⟩, ?_, ?_, ?_⟩
  · exact F₆.fresh nr
  · rintro j v' hs' hz' h tk vs cs ms hj ⟨tj, rfl⟩ ⟨rv, ri, res, tp, tq, tr, ts, tres, v, o1, o2, o3, o4, o5, o6, o7, rfl, rfl, rfl, hR', lR', hout⟩ F₈
    repeat walk_at "ev"
    obtain ⟨c, hc'⟩ : ∃ c, b[j]? = some c := ⟨_, List.getElem?_eq_getElem hj⟩
    refine sitem (c := c) ?sz3a ?sz3b ?sz3q ?sz3s
    case sz3s => rfl
    case sz3a => simpa using hc'
    case sz3b => omega
    try dsimp only
    repeat walk_at "ev"
    have kB₈ : Keep hb _ := k.trans F₈.kb
    have lc := lb c (List.mem_of_getElem? hc')
    refine for_stmt (hb := h₀) (hs := hs') rm.hd [L, R]
      (fun i => LevN a b m p z R j c (rowI c a ri j i)) ?_ ?_
    · rintro i hz vs cs ms ⟨rv, tp, tq, tr, ts, tres, v, t1, t2, t3, t4, o5, o6, o7, rfl, rfl, rfl, _⟩
      rfl
    repeat walk_at "ev"
    have F₉ := ‹Fm _ _ _ _ _ _ _ _›
    rw [ea]
    refine range1n (by omega) (fun r h₇ tk₇ K₇ nr it => ?_)
    have F₁₀ := F₉.keep K₇
    refine ⟨a.length, _, _, _, _, _, it, F₁₀, ⟨_, _, _, _, _, _, _, _, _, _, _, _, _, _, rfl, rfl, rfl, hR'⟩, F₉.fresh nr, ?_, ?_⟩
    · rintro i v' hs' hz' h tk vs cs ms hi ⟨ti, rfl⟩ ⟨rv, tp, tq, tr, ts, tres, v, t1, t2, t3, t4, o5, o6, o7, rfl, rfl, rfl, hR''⟩ F₁₁
      repeat walk_at "ev"
      refine cD fnS ?h1 ?a1
      case a1 => rfl
      obtain ⟨x, hx⟩ : ∃ x, a[i]? = some x := ⟨_, List.getElem?_eq_getElem hi⟩
      have lx := la x (List.mem_of_getElem? hx)
      have len_st := rowI_len c a ri j i
      have es := rowI_succ c a ri j i
      generalize rowI c a ri j i = st at *
      obtain ⟨d, hd⟩ : ∃ d, st.1[i]? = some d := ⟨_, List.getElem?_eq_getElem (by omega)⟩
      obtain ⟨td, hdv⟩ := hR''.2 i d hd
      repeat walk_at "ev"
      refine sitem (c := x) ?sz4a ?sz4b ?sz4q ?sz4s
      case sz4s => rfl
      case sz4a => simpa using hx
      case sz4b => omega
      try dsimp only
      repeat walk_at "ev"
      have F₁₂ := ‹Fm _ _ _ _ _ _ _ _›
      have kB₁₂ : Keep hb _ := k.trans F₁₂.kb
      refine ⟨kB₁₂, sub_call B kB₁₂ fnS (rm.mono (by omega)) (low_ok lc) (low_ok lx) (fun h' t' tk' K' => ?_)⟩
      have F₁₃ := F₁₂.keep K'
      rw [subC_eq lc lx]
      repeat walk_at "ev"
      have F₁₄ := ‹Fm _ _ _ _ _ _ _ _›
      refine litem (F₁₄.mls (R, rv) List.mem_cons_self).isList hdv (by omega) ?_ rfl
      repeat walk_at "ev"
      have F₁₅ := ‹Fm _ _ _ _ _ _ _ _›
      have kB₁₅ : Keep hb _ := k.trans F₁₅.kb
      refine min2 rm.hd (fun t₁ h₁₆ tk₁₆ K₁₆ => ?_)
      have F₁₆ := F₁₅.keep K₁₆
      repeat walk_at "ev"
      have F₁₇ := ‹Fm _ _ _ _ _ _ _ _›
      have kB₁₇ : Keep hb _ := k.trans F₁₇.kb
      refine min2 rm.hd (fun t₂ h₁₈ tk₁₈ K₁₈ => ?_)
      have F₁₈ := F₁₇.keep K₁₈
      repeat walk_at "ev"
      have F₁₉ := ‹Fm _ _ _ _ _ _ _ _›
      refine setitem_plain (F₁₉.mls (R, rv) List.mem_cons_self) (by omega) (by omega) (by rw [List.size_toArray, hR''.1, len_st]; omega) (fun h₂₀ pl sb => ?_)
      rw [Int.toNat_natCast] at pl
      have F₂₀ := F₁₉.setM PutM.here (l := rv.set i (.int (min (min st.2.2.1 d + 2) (st.2.1 + subN c x)) t₂)) (by simpa using pl) sb
      have hR₂ := hR''.set i (min (min st.2.2.1 d + 2) (st.2.1 + subN c x)) t₂
      have es' : stepI c a st i = (st.1.set i (min (min st.2.2.1 d + 2) (st.2.1 + subN c x)), d, min (min st.2.2.1 d + 2) (st.2.1 + subN c x), if min (min st.2.2.1 d + 2) (st.2.1 + subN c x) < st.2.2.2 then min (min st.2.2.1 d + 2) (st.2.1 + subN c x) else st.2.2.2) := by
        unfold stepI
        simp [hd, hx]
      rw [es'] at es
      repeat walk_at "ev"
      generalize min (min st.2.2.1 d + 2) (st.2.1 + subN c x) = rr at *
      by_cases hlt : rr < st.2.2.2
      · rw [if_pos hlt] at es
        rw [if_pos (decide_eq_true hlt)]
        repeat walk_at "ev"
        have F₂₁ := ‹Fm _ _ _ _ _ _ _ _›
        refine ⟨rfl, _, _, _, _, _, _, rfl, ?_, F₂₁⟩
        rw [es]
        exact ⟨_, _, _, _, _, _, _, _, _, _, _, _, _, _, rfl, rfl, rfl, hR₂⟩
      · rw [if_neg hlt] at es
        rw [if_neg (by rw [decide_eq_false hlt]; exact Bool.false_ne_true)]
        repeat walk_at "ev"
        refine ⟨rfl, _, _, _, _, _, _, rfl, ?_, F₂₀⟩
        rw [es]
        exact ⟨_, _, _, _, _, _, _, _, _, _, _, _, _, _, rfl, rfl, rfl, hR₂⟩
    · rintro hz' h tk vs cs ms ⟨rv, tp, tq, tr, ts, tres, v, t1, t2, t3, t4, o5, o6, o7, rfl, rfl, rfl, hR''⟩ F₁₁
      repeat walk_at "ev"
      generalize hst : rowI c a ri j a.length = st at *
      have hlst : st.1.length = ri.length := by rw [← hst]; exact rowI_len ..
      have hdj : b.drop j = c :: b.drop (j + 1) := by
        rw [← List.getElem_cons_drop hj, (List.getElem?_eq_some_iff.mp hc').2]
      rw [hdj, outL_cons, hst] at hout
      by_cases hm : st.2.2.2 > m
      · rw [if_pos hm] at hout
        rw [if_pos (decide_eq_true hm)]
        repeat walk_at "ev"
        refine .inr ⟨_, rfl, ?_⟩
        rw [hout]
        exact q _ _ _ F₁₁.kb
      · rw [if_neg hm] at hout
        rw [if_neg (by rw [decide_eq_false hm]; exact Bool.false_ne_true)]
        repeat walk_at "ev"
        exact .inl ⟨rfl, _, _, _, _, _, _, rfl, ⟨_, _, _, _, _, _, _, _, _, _, _, _, _, _, _, _, rfl, rfl, rfl, hR'', by omega, hout⟩, F₁₁⟩
  · rintro hz' h tk vs cs ms ⟨rv, ri, res, tp, tq, tr, ts, tres, v, o1, o2, o3, o4, o5, o6, o7, rfl, rfl, rfl, hR', lR', hout⟩ F₈
    repeat walk_at "ev"
    rw [List.drop_length] at hout
    have := q tres h tk F₈.kb
    rw [← hout] at this
    exact this

theorem lev_mid {a b : List Nat} {m p z : Int} {tp tq tr ts v : Tok} {Q : Value → Shared → Prop} {mg mb : Str → Option Value} {hb h₀ hz : Heap} {f L : Addr} {cd : Value} (B : Bs mg mb hb) (k : Keep hb h₀) (rm : Rm A 3)
    (ha : a.length ≤ 3) (hb3 : b.length ≤ 3) (la : Lets a) (lb : Lets b)
    (F : Fm h₀ h₀ hz s.heap L (lv (some (.str (S a) tp)) (some (.str (S b) tq)) (some (.int m v)) (some (.int p tr)) (some (.int z ts)) none none none none none none none none none) [] [])
    (q : ∀ t' h' tk, Keep h₀ h' → Q (.int (midL m a b) t') { s with heap := h', toks := tk }) :
    wpAny (model prog w) A (execs (r6.body.drop 9) (envOfC r6.name r6.scope L f cd)) (fun fl s' => Q (match fl with | .ret v => v | _ => .none) s') (fun _ _ => False) s := by
  have kB : Keep hb s.heap := k.trans F.kb
  obtain ⟨tm, hm⟩ := B.mv
  obtain ⟨tx, hx⟩ := B.mx
  have llen := ld_builtin (M := model prog w) (env := envOfC r6.name r6.scope L f cd) B.g B.b B.blen.1 B.blen.2
  have lmov := ld_global (M := model prog w) (env := envOfC r6.name r6.scope L f cd) B.g hm
  have lmax := ld_global (M := model prog w) (env := envOfC r6.name r6.scope L f cd) B.g hx
  have hsa : (S a).cps.size = a.length := by simp
  have hsb : (S b).cps.size = b.length := by simp
  have ea : ((a.toArray.size : Int)) = a.length := by simp
  have eb : ((b.toArray.size : Int)) = b.length := by simp
  unfold midL at q
  conv => arg 3; arg 1; whnf
  repeat walk_at "ev"
  by_cases hae : a = []
  · rw [if_pos (by rw [decide_eq_false (fun h => h hae)]; rfl), if_pos rfl]
    repeat walk_at "ev"
    rw [if_pos (.inl hae)] at q
    rw [ea, eb]
    exact q _ _ _ F.kb
  rw [if_neg (by rw [decide_eq_true hae]; exact Bool.false_ne_true)]
  repeat walk_at "ev"
  by_cases hbe : b = []
  · rw [if_pos (by rw [decide_eq_false (fun h => h hbe)]; rfl), if_pos rfl]
    repeat walk_at "ev"
    rw [if_pos (.inr hbe)] at q
    rw [ea, eb]
    exact q _ _ _ F.kb
  rw [if_neg (by rw [decide_eq_true hbe]; exact Bool.false_ne_true)]
  rw [if_neg (fun h => h.elim hae hbe)] at q
  repeat walk_at "ev"
  rw [if_neg Bool.false_ne_true]
  repeat walk_at "ev"
  rw [if_neg (by rw [ea, decide_eq_false (by omega)]; exact Bool.false_ne_true)]
  repeat walk_at "ev"
  rw [if_neg (by rw [eb, decide_eq_false (by omega)]; exact Bool.false_ne_true)]
  repeat walk_at "ev"
  rw [if_neg Bool.false_ne_true]
  repeat walk_at "ev"
  by_cases hl : b.length < a.length
  · rw [if_pos hl] at q
    rw [if_pos (by rw [ea, eb]; exact decide_eq_true (by omega))]
    walk_at "ev"
    refine Assign_Tuple_swapped (names := ["a", "b"]) ?hh ?m1 ?m2
    case m1 => rfl
    case m2 => rfl
    repeat walk_at "ev"
    refine tnew ?sz (fun T h₂ k₂ nT hT => ?_)
    case sz => rw [sizeLine_eq]; exact Nat.le_of_ble_eq_true rfl
    have F₂ := F.keep k₂
    refine unpack2 rm.hd hT (fun h₃ k₃ => ?_)
    have F₃ := F₂.keep k₃
    refine assignInOrder_cons (wpAny_bindName ?_)
    walk_at "ev"
    refine assignInOrder_cons (wpAny_bindName ?_)
    walk_at "ev"
    refine assignInOrder_nil ?_
    have F₄ := ‹Fm _ _ _ _ _ _ _ _›
    walk_at "ev"
    refine' lev_tab B k rm hb3 ha (by omega) lb la ?FF ?_
    case FF => exact F₄
    exact q
  · rw [if_neg hl] at q
    rw [if_neg (by rw [ea, eb, decide_eq_false (by omega)]; exact Bool.false_ne_true)]
    walk_at "ev"
    refine' lev_tab B k rm ha hb3 (by omega) la lb ?FF ?_
    case FF => exact F
    exact q
end
section
variable {prog : Program} {w : World} {A : Around} {E : Value → Shared → Prop} {s : Shared} {env : Env} {M : Model}
inductive PostI (s : Shared) (a b : List Nat) (m : Int) (v : Tok) (n : Nat) (h : Heap) : Prop
  | mk (i : Nat) (t' tp tq tr : Tok) (p : Int)
      (f0 : i + n = sufL a b)
      (f1 : preL (a.reverse.drop i) (b.reverse.drop i) = n)
      (f2 : Fm s.heap s.heap s.heap h s.heap.objs.size (lv (some (.str (S a) tp)) (some (.str (S b) tq)) (some (.int m v)) (some (.int p tr)) (some (.int (-(i : Int)) t')) none none none none none none none none none) [] [])
      : PostI s a b m v n h
inductive PreI (s : Shared) (a b : List Nat) (m : Int) (t u v : Tok) (n : Nat) (h : Heap) : Prop
  | mk (i : Nat) (t' : Tok)
      (f0 : i + n = preL a b)
      (f1 : preL (a.drop i) (b.drop i) = n)
      (f2 : Fm s.heap s.heap s.heap h s.heap.objs.size (lv (some (.str (S a) t)) (some (.str (S b) u)) (some (.int m v)) (some (.int (i : Int) t')) none none none none none none none none none none) [] [])
      : PreI s a b m t u v n h
set_option maxHeartbeats 0 in
theorem lev_call {f : Addr} {a b : List Nat} {m : Int} {t u v : Tok} {Q : Value → Shared → Prop} {mg mb : Str → Option Value} {hb : Heap} (B : Bs mg mb hb) (k : Keep hb s.heap) (fn : FnAt hb f r6) (rm : Rm A 4)
    (ha : a.length ≤ 3) (hb3 : b.length ≤ 3) (la : Lets a) (lb : Lets b)
    (q : ∀ t' h' tk, Keep s.heap h' → Q (.int (levL a b m) t') { s with heap := h', toks := tk }) :
    wpAny (model prog w) A (call (.ref f) [.str (S a) t, .str (S b) u, .int m v]) Q E s := by
  refine enter (n := 3) (binds := [("a", .str (S a) t), ("b", .str (S b) u), ("max_cost", .int m v)])
    [("a", some (.str (S a) t)), ("b", some (.str (S b) u)), ("max_cost", some (.int m v)), ("pre", none), ("post", none), ("row", none), ("result", none), ("bindex", none), ("bchar", none), ("distance", none), ("minimum", none), ("index", none), ("substitute", none), ("insert_delete", none)]
    [] [] rm k fn B.lim (fun _ _ _ => rfl) fun h₁ tk cd F rm' => ?_
  generalize hA : A.deeper _ = A' at rm'
  obtain ⟨fS, hS, fnS⟩ := B.sub
  obtain ⟨tm, hm⟩ := B.mv
  obtain ⟨tx, hx⟩ := B.mx
  have llen := ld_builtin (M := model prog w) (env := envOfC r6.name r6.scope s.heap.objs.size f cd) B.g B.b B.blen.1 B.blen.2
  have lran := ld_builtin (M := model prog w) (env := envOfC r6.name r6.scope s.heap.objs.size f cd) B.g B.b B.brange.1 B.brange.2
  have llis := ld_builtin (M := model prog w) (env := envOfC r6.name r6.scope s.heap.objs.size f cd) B.g B.b B.blist.1 B.blist.2
  have lmin := ld_builtin (M := model prog w) (env := envOfC r6.name r6.scope s.heap.objs.size f cd) B.g B.b B.bmin.1 B.bmin.2
  have lsub := ld_global (M := model prog w) (env := envOfC r6.name r6.scope s.heap.objs.size f cd) B.g hS
  have lmov := ld_global (M := model prog w) (env := envOfC r6.name r6.scope s.heap.objs.size f cd) B.g hm
  have lmax := ld_global (M := model prog w) (env := envOfC r6.name r6.scope s.heap.objs.size f cd) B.g hx
  repeat walk_at "ev"
  by_cases hab : a = b
  · rw [if_pos (by rw [S_beq]; exact decide_eq_true hab)]
    repeat walk_at "ev"
    have e : levL a b m = 0 := by unfold levL; rw [if_pos hab]
    rw [e] at q
    exact q _ _ _ F.kb
  rw [if_neg (by rw [S_beq, decide_eq_false hab]; exact Bool.false_ne_true)]
  repeat walk_at "ev"
  have hp := preL_le a b
  refine while_stmt (PreI s a b m t u v) ?_ ?_ ?_
  · exact ⟨preL a b, 0, _, by omega, rfl, by assumption⟩
  · rintro n h tk ⟨i, t', hi, hn, F₂⟩
    repeat walk_at "ev"
    refine slT_str (.int _ _) .none (by rw [sizeLine_eq]; omega) (fun h₃ t₃ k₃ K₃ => ?_)
    have hda : (cutL a (some (i : Int)) none).length ≤ 3 := by rw [cut_from, List.length_drop]; omega
    have hdb : (cutL b (some (i : Int)) none).length ≤ 3 := by rw [cut_from, List.length_drop]; omega
    have F₃ := F₂.keep K₃
    repeat walk_at "ev"
    rcases hxa : a[i]? with _ | x
    · have e := drop_none hxa
      rw [if_neg (by rw [cut_from, e]; decide), if_neg Bool.false_ne_true]
      exact ⟨_, _, rfl, i, _, by rw [e, preL_nil (.inl rfl)] at hn; omega, by rw [e]; exact preL_nil (.inl rfl), F₃⟩
    have hia := (List.getElem?_eq_some_iff.mp hxa).1
    rw [if_pos (by rw [cut_from]; exact decide_eq_true (drop_some hxa))]
    repeat walk_at "ev"
    refine slT_str (.int _ _) .none (by rw [sizeLine_eq]; omega) (fun h₄ t₄ k₄ K₄ => ?_)
    have F₄ := F₃.keep K₄
    repeat walk_at "ev"
    rcases hxb : b[i]? with _ | y
    · have e := drop_none hxb
      rw [if_neg (by rw [cut_from, e]; decide), if_neg Bool.false_ne_true]
      exact ⟨_, _, rfl, i, _, by rw [e, preL_nil (.inr rfl)] at hn; omega, by rw [e]; exact preL_nil (.inr rfl), F₄⟩
    have hib := (List.getElem?_eq_some_iff.mp hxb).1
    rw [if_pos (by rw [cut_from]; exact decide_eq_true (drop_some hxb))]
    repeat walk_at "ev"
    refine sitem (c := x) ?sz5a ?sz5b ?sz5q ?sz5s
    case sz5s => rfl
    case sz5a => simpa using hxa
    case sz5b => omega
    try dsimp only
    repeat walk_at "ev"
    refine sitem (c := y) ?sz6a ?sz6b ?sz6q ?sz6s
    case sz6s => rfl
    case sz6a => simpa using hxb
    case sz6b => omega
    try dsimp only
    repeat walk_at "ev"
    rw [preL_drop hxa hxb] at hn
    by_cases hxy : x = y
    · rw [if_pos hxy] at hn
      rw [if_pos (by rw [chr_eq]; exact decide_eq_true hxy)]
      repeat walk_at "ev"
      rw [if_pos rfl]
      repeat walk_at "ev"
      have F₅ := ‹Fm _ _ _ _ _ _ _ _›
      exact ⟨rfl, _, _, _, rfl, (by omega : preL (a.drop (i + 1)) (b.drop (i + 1)) < n), i + 1, _, by omega, rfl, F₅⟩
    · rw [if_neg hxy] at hn
      rw [if_neg (by rw [chr_eq, decide_eq_false hxy]; exact Bool.false_ne_true), if_neg Bool.false_ne_true]
      exact ⟨_, _, rfl, i, _, by omega, by rw [preL_drop hxa hxb, if_neg hxy], F₄⟩
  rintro h tk ⟨i, t', hi, hn, F₂⟩
  rw [Nat.add_zero] at hi
  subst hi
  have q' : ∀ t' h' tk, Keep s.heap h' → Q (.int (midL m (cutS (a.drop (preL a b)) (b.drop (preL a b))) (cutS (b.drop (preL a b)) (a.drop (preL a b)))) t') { s with heap := h', toks := tk } := fun t' h' tk k => by
    have := q t' h' tk k
    unfold levL at this
    rwa [if_neg hab] at this
  have la' : Lets (a.drop (preL a b)) := fun x hx => la x (List.mem_of_mem_drop hx)
  have lb' : Lets (b.drop (preL a b)) := fun x hx => lb x (List.mem_of_mem_drop hx)
  have ha' : (a.drop (preL a b)).length ≤ 3 := by rw [List.length_drop]; omega
  have hb' : (b.drop (preL a b)).length ≤ 3 := by rw [List.length_drop]; omega
  repeat walk_at "ev"
  refine slT_str (.int _ _) .none (by rw [sizeLine_eq]; omega) (fun h₃ t₃ k₃ K₃ => ?_)
  have F₃ := F₂.keep K₃
  rw [cut_from]
  repeat walk_at "ev"
  refine slT_str (.int _ _) .none (by rw [sizeLine_eq]; omega) (fun h₃ t₃ k₃ K₃ => ?_)
  have F₄ := Fm.keep ‹Fm _ _ _ _ _ _ _ _› K₃
  rw [cut_from]
  clear F₃ F₂ K₃
  generalize a.drop (preL a b) = a at *
  generalize b.drop (preL _ b) = b at *
  repeat walk_at "ev"
  rename_i h₅ F₅
  clear F₄
  have hp2 := preL_le a.reverse b.reverse
  rw [List.length_reverse, List.length_reverse] at hp2
  refine while_stmt (PostI s a b m v) ?_ ?_ ?_
  · exact ⟨sufL a b, 0, _, _, _, _, _, by omega, rfl, F₅⟩
  · rintro n h tk ⟨i, t', tp, tq, tr, p, hi, hn, F₂⟩
    repeat walk_at "ev"
    refine slT_str .none ‹_› (by rw [sizeLine_eq]; omega) (fun h₃ t₃ k₃ K₃ => ?_)
    have hda : (cutL a none (if i = 0 then none else some (-(i : Int)))).length ≤ 3 := by rw [cut_post, List.length_take]; omega
    have hdb : (cutL b none (if i = 0 then none else some (-(i : Int)))).length ≤ 3 := by rw [cut_post, List.length_take]; omega
    have F₃ := F₂.keep K₃
    repeat walk_at "ev"
    rcases hxa : a.reverse[i]? with _ | x
    · have e := drop_none hxa
      have hia := List.getElem?_eq_none_iff.mp hxa
      rw [List.length_reverse] at hia
      rw [if_neg (by rw [cut_post, Nat.sub_eq_zero_of_le hia, List.take_zero]; decide), if_neg Bool.false_ne_true]
      exact ⟨_, _, rfl, i, _, _, _, _, _, by rw [e, preL_nil (.inl rfl)] at hn; omega, by rw [e]; exact preL_nil (.inl rfl), F₃⟩
    have hia := (List.getElem?_eq_some_iff.mp hxa).1
    rw [List.length_reverse] at hia
    rw [if_pos (by rw [cut_post]; exact decide_eq_true (fun e => by have := congrArg List.length e; rw [List.length_take] at this; simp at this; omega))]
    repeat walk_at "ev"
    refine slT_str .none ‹_› (by rw [sizeLine_eq]; omega) (fun h₄ t₄ k₄ K₄ => ?_)
    have F₄ := F₃.keep K₄
    repeat walk_at "ev"
    rcases hxb : b.reverse[i]? with _ | y
    · have e := drop_none hxb
      have hib := List.getElem?_eq_none_iff.mp hxb
      rw [List.length_reverse] at hib
      rw [if_neg (by rw [cut_post, Nat.sub_eq_zero_of_le hib, List.take_zero]; decide), if_neg Bool.false_ne_true]
      exact ⟨_, _, rfl, i, _, _, _, _, _, by rw [e, preL_nil (.inr rfl)] at hn; omega, by rw [e]; exact preL_nil (.inr rfl), F₄⟩
    have hib := (List.getElem?_eq_some_iff.mp hxb).1
    rw [List.length_reverse] at hib
    rw [if_pos (by rw [cut_post]; exact decide_eq_true (fun e => by have := congrArg List.length e; rw [List.length_take] at this; simp at this; omega))]
    repeat walk_at "ev"
    refine sneg hxa (by omega) ?_ rfl
    repeat walk_at "ev"
    refine sneg hxb (by omega) ?_ rfl
    repeat walk_at "ev"
    rw [preL_drop hxa hxb] at hn
    by_cases hxy : x = y
    · rw [if_pos hxy] at hn
      rw [if_pos (by rw [chr_eq]; exact decide_eq_true hxy)]
      repeat walk_at "ev"
      rw [if_pos rfl]
      repeat walk_at "ev"
      have F₅ := ‹Fm _ _ _ _ _ _ _ _›
      rw [show -(i : Int) - 1 = -((i + 1 : Nat) : Int) by omega] at F₅
      exact ⟨rfl, _, _, _, rfl, (by omega : preL (a.reverse.drop (i + 1)) (b.reverse.drop (i + 1)) < n), i + 1, _, _, _, _, _, by omega, rfl, F₅⟩
    · rw [if_neg hxy] at hn
      rw [if_neg (by rw [chr_eq, decide_eq_false hxy]; exact Bool.false_ne_true), if_neg Bool.false_ne_true]
      exact ⟨_, _, rfl, i, _, _, _, _, _, by omega, by rw [preL_drop hxa hxb, if_neg hxy], F₄⟩
  rintro h tk ⟨i, t', tp, tq, tr, p, hi, hn, F₂⟩
  rw [Nat.add_zero] at hi
  repeat walk_at "ev"
  refine slT_str .none ‹_› (by rw [sizeLine_eq]; omega) (fun h₃ t₃ k₃ K₃ => ?_)
  have F₃ := F₂.keep K₃
  rw [cut_post, hi]
  repeat walk_at "ev"
  refine slT_str .none ‹_› (by rw [sizeLine_eq]; omega) (fun h₃ t₃ k₃ K₃ => ?_)
  have F₄ := Fm.keep ‹Fm _ _ _ _ _ _ _ _› K₃
  rw [cut_post, hi]
  walk_at "ev"
  have F₅ := ‹Fm _ _ _ _ _ _ _ _›
  refine' lev_mid B k rm' ?_ ?_ ?_ ?_ ?FF ?_
  case FF => exact F₅
  · rw [List.length_take]; omega
  · rw [List.length_take]; omega
  · exact fun x hx => la' x (List.mem_of_mem_take hx)
  · exact fun x hx => lb' x (List.mem_of_mem_take hx)
  · unfold cutS at q'
    rw [sufL_comm b a] at q'
    exact q'
end
section
variable {prog : Program} {w : World} {A : Around} {E : Value → Shared → Prop} {s : Shared} {env : Env} {M : Model}

theorem ev_usub {op : UnaryOp} {x : Expr} {pos : Pos} {Q : Value → Shared → Prop} (h : wpAny M A (eval x env) (fun v s₁ => wpAny M A (unaryOp op v) Q E s₁) E s) : wpAny M A (eval (.UnaryOp op x pos) env) Q E s := by
  show wpAny M A (do let v ← eval x env; standAt pos; holding [v] (unaryOp op v)) Q E s
  exact wpAny_bind (wpAny_mono h (fun v s₁ h₁ => wpAny_bind (wpAny_standAt (wpAny_holding h₁))) fun _ _ e => e)
theorem S_append (a b : List Nat) : (S a ++ S b : Str) = S (a ++ b) := by
  show (⟨a.toArray ++ b.toArray⟩ : Str) = _
  simp
theorem addS {x y : Str} {a b : List Nat} {t u : Tok} {Q : Value → Shared → Prop} (hx : x = S a) (hy : y = S b) (hsz : a.length + b.length ≤ sizeLine)
    (q : ∀ t' tk, Q (.str (S (a ++ b)) t') { s with toks := tk }) : wpAny (model prog w) A (binaryOp .Add (.str x t) (.str y u)) Q E s := by
  subst hx hy
  refine PyProof.Rows.add_str (fun t' tk => ?_) (by show a.toArray.size + b.toArray.size ≤ _; simpa using hsz)
  rw [S_append]; exact q _ _
theorem join_S : ∀ l : List (List Nat), Str.join ⟨#[]⟩ (l.map S) = S l.flatten
  | [] => rfl
  | [k] => by simp [Str.join]
  | k :: m :: r => by
    have ih := join_S (m :: r)
    show (S k : Str) ++ S [] ++ Str.join ⟨#[]⟩ ((m :: r).map S) = _
    rw [ih, S_append, S_append]
    simp
theorem joinS {D : Addr} {items : List Value} {ls : List (List Nat)} {t : Tok} {Q : Value → Shared → Prop} {P : Addr → Prop} (hl : s.heap.IsList D items.toArray) (r : RepAll P s.heap items (ls.map fun l => .str (S l))) (hsz : ls.flatten.length ≤ 16777216)
    (q : ∀ t' k, Q (.str (S ls.flatten) t') { s with toks := k }) : wpAny (model prog w) A (call (.builtin "str.join") [.str "" t, .ref D]) Q E s := by
  have e0 : (Str.ofString "") = ⟨#[]⟩ := by decide +kernel
  have r' : RepAll P s.heap items ((ls.map S).map .str) := by rw [List.map_map]; exact r
  refine join_list hl (strsAre_of r') ?_ (fun t' k => ?_)
  · have : ((ls.map S).map (·.length)).sum = ls.flatten.length := by
      rw [List.map_map, List.length_flatten]
      congr 1
    rw [this, e0]
    show _ + _ * 0 ≤ _
    omega
  · rw [show Txt.join "" (ls.map S) = Str.join "" (ls.map S) from beq_iff_eq.mp (join_plain_closes _ _), e0, join_S]
    exact q _ _

theorem RepAll.take {P : Addr → Prop} {h : Heap} : ∀ {vs : List Value} {ds : List PyData}, RepAll P h vs ds → ∀ k, RepAll P h (vs.take k) (ds.take k)
  | _, _, .nil, k => by rw [List.take_nil, List.take_nil]; exact .nil
  | _, _, .cons r rs, 0 => .nil
  | _, _, .cons r rs, k + 1 => .cons r (RepAll.take rs k)
theorem RepAll.drop {P : Addr → Prop} {h : Heap} : ∀ {vs : List Value} {ds : List PyData}, RepAll P h vs ds → ∀ k, RepAll P h (vs.drop k) (ds.drop k)
  | _, _, .nil, k => by rw [List.drop_nil, List.drop_nil]; exact .nil
  | _, _, .cons r rs, 0 => .cons r rs
  | _, _, .cons r rs, k + 1 => RepAll.drop rs k

theorem inplace_seq {T id : String} {a b : Value} {Q : Value → Shared → Prop} (ha : s.TypeIs a T) (hb : s.TypeIs b T) (hlk : typeLookup (.type T) (dunderI "add") = pure (some (.builtin id))) (hsq : isSeqSlot (some (.builtin id)) = true)
    (hfill : fillsNumberSlot (.type T) "add" = pure false) (hsi : seqSlot? (.type T) (dunderI "add") = pure (some (.builtin id)))
    (hc : wpAny M A (call (.builtin id) [a, b]) Q E s) : wpAny M A (inplaceOp .Add a b) Q E s := by
  unfold inplaceOp
  refine wpAny_holding ?_
  have hfi : fillsInplaceSlot (.type T) "add" (Operator.Add == .Add) = pure false := by
    unfold fillsInplaceSlot
    show (typeLookup (.type T) (dunderI "add") >>= fun fi => pure (fi.isSome && !isSeqSlot fi)) = pure false
    rw [hlk]
    show (pure ((some (Value.builtin id)).isSome && !isSeqSlot (some (.builtin id))) : Sem Bool) = _
    rw [hsq]; rfl
  refine wpAny_bind (wpAny_typeOf ha (wpAny_bind (wpAny_of_eq hfi ?_)))
  show wpAny M A (if false = true then _ else _) Q E s
  rw [if_neg Bool.false_ne_true]
  refine wpAny_bind (wpAny_binaryOp1_none (nm := "add") ha hb hfill ?_)
  refine wpAny_bind (wpAny_of_eq hsi ?_)
  exact wpAny_bind (wpAny_rule hc)

theorem plain_update {h : Heap} {D : Addr} {l : List Value} (x : h.PlainList D l.toArray) (f : Array Value → Array Value) (l' : List Value) (e : f l.toArray = l'.toArray) : (h.update D (Obj.mapSeq f)).PlainList D l'.toArray ∧ Heap.SameBut D h (h.update D (Obj.mapSeq f)) := by
  obtain ⟨n, hD⟩ := x
  have := IsL.update (n := n) hD f
  rw [e] at this
  exact ⟨⟨_, this⟩, Heap.SameBut.update ..⟩

section
variable {hb hs hz : Heap} {L : Addr} {vs : Vs} {cs : Cs} {ms ms' : List (Addr × List Value)}
theorem Fm.iadd {D b : Addr} {l ws : List Value} {Q : Value → Shared → Prop} (F : Fm hb hs hz s.heap L vs cs ms) (hm : (D, l) ∈ ms) (p : PutM ms D (l ++ ws) ms') (hB : s.heap.PlainList b ws.toArray) (hsz : l.length + ws.length ≤ 1048576)
    (q : ∀ h', Fm hb hs hz h' L vs cs ms' → Q (.ref D) { s with heap := h' }) : wpAny (model prog w) A (inplaceOp .Add (.ref D) (.ref b)) Q E s := by
  have hl := F.mls _ hm
  obtain ⟨n, hD⟩ := id hl
  obtain ⟨n2, hB'⟩ := hB
  refine inplace_seq (T := "list") (id := "list.__iadd__") ⟨_, hD, rfl⟩ ⟨_, hB', rfl⟩ PySem.F.slot_list_iadd.lookup (by decide +kernel) noFill_list_add (PySem.seqSlot_of PySem.F.slot_list_iadd.lookup (by decide +kernel)) ?_
  refine call_meets PySem.F.slot_list_iadd ⟨_, hD, rfl⟩ PySem.F.entry_list_iadd (PySem.F.args_list_iadd_2 _ _) (AutoSeq1.list___iadd___list_list_0 D l.toArray n b ws.toArray n2 ?_ ?_ ?_) ⟨hD, hB', ?_⟩
  · intro h
    rw [Bool.and_eq_true] at h
    have h2 : decide (l.toArray.size + ws.toArray.size > sizeLine) = true := h.2
    have := of_decide_eq_true h2
    rw [List.size_toArray, List.size_toArray, sizeLine_eq] at this
    omega
  · rw [List.size_toArray, sizeLine_eq]; omega
  · rw [List.size_toArray, List.size_toArray, sizeLine_eq]; omega
  · obtain ⟨h1, h2⟩ := plain_update hl (fun x => x ++ ws.toArray) (l ++ ws) (by simp)
    exact q _ (F.setM p h1 h2)
theorem Fm.app {D : Addr} {l : List Value} {x : Value} {Q : Value → Shared → Prop} (F : Fm hb hs hz s.heap L vs cs ms) (hm : (D, l) ∈ ms) (p : PutM ms D (l ++ [x]) ms') (hsz : l.length ≤ sizeLine)
    (q : ∀ h', Fm hb hs hz h' L vs cs ms' → Q .none { s with heap := h' }) : wpAny (model prog w) A (call (.builtin "list.append") [.ref D, x]) Q E s :=
  wpAny_list_append_plain (hsz := by simpa using hsz) (F.mls _ hm) fun h' hl hs' => q h' (F.setM p (by simpa using hl) hs')
end
theorem gml {name : Str} {id : String} {pl : Sem Bool} {D : Addr} {vs : Array Value} {Q : Value × List Value → Shared → Prop} (slot : Slot "list" name id)
    (hty : typeOf (.builtin id) = pure (.type "method_descriptor")) (hl : s.heap.PlainList D vs) (h : Q (.builtin id, [.ref D]) s) :
    wpAny (model prog w) A (getMethod (.ref D) name pl) Q E s :=
  getMethod_list_of slot hty hl.isList (by obtain ⟨n, e⟩ := hl; exact ⟨_, e, rfl⟩) h
end
local macro_rules | `(tactic| walk_at "ev1") => `(tactic| first
  | (with_reducible refine ev_usub ?_))
noncomputable def patT (t : Nat) : List Nat := if t = 91 ∨ t = 42 then [91, t, 93] else [t]
noncomputable def rowD (row : List Nat) : PyData := .list (row.map fun t => .str (S (patT t)))
noncomputable def toksA (w : List Nat) (k : Nat) : List (List Nat) := [w] ++ (List.range k).flatMap fun k => [w.take k ++ [63] ++ w.drop (k + 1), w.take k ++ w.drop (k + 1)]
noncomputable def toksB (w : List Nat) (k : Nat) : List (List Nat) := toksA w w.length ++ (List.range k).map fun k => w.take k ++ [63] ++ w.drop k
noncomputable def toksL (w : List Nat) : List (List Nat) := toksB w (w.length + 1)
theorem patT_len (t : Nat) : (patT t).length ≤ 3 := by unfold patT; split <;> simp
theorem toksA_succ (w : List Nat) (k : Nat) : toksA w (k + 1) = toksA w k ++ [w.take k ++ [63] ++ w.drop (k + 1), w.take k ++ w.drop (k + 1)] := by
  unfold toksA
  rw [List.range_succ, List.flatMap_append, ← List.append_assoc]
  simp
theorem toksA_len (w : List Nat) : ∀ k, (toksA w k).length = 1 + 2 * k
  | 0 => rfl
  | k + 1 => by rw [toksA_succ, List.length_append, toksA_len w k]; simp; omega
theorem toksB_succ (w : List Nat) (k : Nat) : toksB w (k + 1) = toksB w k ++ [w.take k ++ [63] ++ w.drop k] := by
  unfold toksB
  rw [List.range_succ, List.map_append, ← List.append_assoc]
  simp

theorem toksB_len (w : List Nat) : ∀ k, (toksB w k).length = 1 + 2 * w.length + k
  | 0 => by unfold toksB; rw [List.length_append, toksA_len]; simp
  | k + 1 => by rw [toksB_succ, List.length_append, toksB_len w k]; simp; omega
theorem toksA_mem (w : List Nat) : ∀ k, ∀ r ∈ toksA w k, r.length ≤ w.length + 1
  | 0 => fun r h => by simp [toksA] at h; rw [h]; omega
  | k + 1 => fun r h => by
    rw [toksA_succ, List.mem_append] at h
    rcases h with h | h
    · exact toksA_mem w k r h
    · simp only [List.mem_cons, List.not_mem_nil, or_false] at h
      rcases h with h | h <;> rw [h] <;> simp [List.length_take, List.length_drop] <;> omega
theorem toksB_mem (w : List Nat) : ∀ k, ∀ r ∈ toksB w k, r.length ≤ w.length + 1
  | 0 => fun r h => by rw [show toksB w 0 = toksA w w.length by simp [toksB]] at h; exact toksA_mem w _ r h
  | k + 1 => fun r h => by
    rw [toksB_succ, List.mem_append] at h
    rcases h with h | h
    · exact toksB_mem w k r h
    · simp only [List.mem_cons, List.not_mem_nil, or_false] at h
      rw [h]; simp [List.length_take, List.length_drop]; omega
theorem flat_len (r : List Nat) : (r.flatMap patT).length ≤ 3 * r.length := by
  induction r with
  | nil => simp
  | cons a r ih => rw [List.flatMap_cons, List.length_append, List.length_cons]; have := patT_len a; omega

section
variable {prog : Program} {w : World} {A : Around} {E : Value → Shared → Prop} {s : Shared} {env : Env} {M : Model}

theorem inS {c : Nat} {l : List Nat} {x : Str} {t u : Tok} {Q : Value → Shared → Prop} (hx : x = S l) (q : Q (.bool (decide (c ∈ l))) s) : wpAny (model prog w) A (compareOp .In (.str ⟨#[c]⟩ u) (.str x t)) Q E s := by
  subst hx
  refine in_str ?_
  rw [StrLaws.found_one]
  exact q

theorem notInS {c : Nat} {l : List Nat} {x : Str} {t u : Tok} {Q : Value → Shared → Prop} (hx : x = S l) (q : Q (.bool (!decide (c ∈ l))) s) : wpAny (model prog w) A (compareOp .NotIn (.str ⟨#[c]⟩ u) (.str x t)) Q E s := by
  subst hx
  refine notIn_str ?_
  rw [StrLaws.found_one]
  exact q
theorem strs_move {P P' : Addr → Prop} {h h' : Heap} {α : Type} (g : α → Str) : ∀ {l : List α} {vs : List Value}, RepAll P h vs (l.map fun a => .str (g a)) → RepAll P' h' vs (l.map fun a => .str (g a))
  | [], _, .nil => .nil
  | a :: l, _, .cons r rs => by
    cases r
    exact .cons (.str _ _) (strs_move g rs)
noncomputable abbrev Nt (R : Addr) : Addr → Prop := fun a => a ≠ R
theorem ne_of_new {h : Heap} {R D : Addr} (hR : ∃ o, h.get? R = some o) (n : New h D) : D ≠ R := fun e => by
  obtain ⟨o, ho⟩ := hR
  rw [← e, show h.get? D = none from n] at ho; cases ho
theorem rowD_inv {P : Addr → Prop} {h : Heap} {D : Addr} {row : List Nat} (r : Rep P h (.ref D) (rowD row)) : ∃ vs, h.IsList D vs.toArray ∧ RepAll P h vs (row.map fun t => .str (S (patT t))) ∧ vs.length = row.length := by
  obtain ⟨D', vs, e, _, hl, ra⟩ := r.toList
  cases e
  exact ⟨vs, hl, ra, by have := ra.length; simpa using this⟩
theorem slD_upto {x : Str} {px : Pos} {hi : Option Expr} {p : Pos} {R D : Addr} {row : List Nat} {k : Nat} {u : Tok} {Q : Value → Shared → Prop} (r : Rep (Nt R) s.heap (.ref D) (rowD row)) (hR : ∃ o, s.heap.get? R = some o) (hsz : row.length ≤ sizeLine)
    (q : ∀ D' h', Keep s.heap h' → Rep (Nt R) h' (.ref D') (rowD (row.take k)) → Q (.ref D') { s with heap := h' }) :
    SlPost (model prog w) A E Q (.Name x px) none hi none p (.ref D) .none (.int (k : Int) u) .none s := by
  obtain ⟨vs, hl, ra, hlen⟩ := rowD_inv r
  refine slT_list hl .none (.int _ _) (by omega) (fun D' h' kk nD pD => q D' h' kk ?_)
  rw [cut_upto] at pD
  unfold rowD
  rw [List.map_take]
  exact Rep.ofList (ne_of_new hR nD) pD ((ra.take k).keep kk)
theorem slD_from {x : Str} {px : Pos} {lo : Option Expr} {p : Pos} {R D : Addr} {row : List Nat} {k : Nat} {u : Tok} {Q : Value → Shared → Prop} (r : Rep (Nt R) s.heap (.ref D) (rowD row)) (hR : ∃ o, s.heap.get? R = some o) (hsz : row.length ≤ sizeLine)
    (q : ∀ D' h', Keep s.heap h' → Rep (Nt R) h' (.ref D') (rowD (row.drop k)) → Q (.ref D') { s with heap := h' }) :
    SlPost (model prog w) A E Q (.Name x px) lo none none p (.ref D) (.int (k : Int) u) .none .none s := by
  obtain ⟨vs, hl, ra, hlen⟩ := rowD_inv r
  refine slT_list hl (.int _ _) .none (by omega) (fun D' h' kk nD pD => q D' h' kk ?_)
  rw [cut_from] at pD
  unfold rowD
  rw [List.map_drop]
  exact Rep.ofList (ne_of_new hR nD) pD ((ra.drop k).keep kk)
theorem addD {R D1 D2 : Addr} {r1 r2 : List Nat} {Q : Value → Shared → Prop} (x : Rep (Nt R) s.heap (.ref D1) (rowD r1)) (y : Rep (Nt R) s.heap (.ref D2) (rowD r2)) (hR : ∃ o, s.heap.get? R = some o) (hsz : r1.length + r2.length ≤ sizeLine)
    (q : ∀ D' h', Keep s.heap h' → Rep (Nt R) h' (.ref D') (rowD (r1 ++ r2)) → Q (.ref D') { s with heap := h' }) :
    wpAny (model prog w) A (binaryOp .Add (.ref D1) (.ref D2)) Q E s := by
  obtain ⟨v1, hl1, ra1, hlen1⟩ := rowD_inv x
  obtain ⟨v2, hl2, ra2, hlen2⟩ := rowD_inv y
  refine ladd hl1 hl2 (by omega) (fun D' h' kk nD pD => q D' h' kk ?_)
  unfold rowD
  rw [List.map_append]
  exact Rep.ofList (ne_of_new hR nD) pD ((ra1.append ra2).keep kk)
theorem newQ {R : Addr} {x : Str} {t : Tok} {Q : Value → Shared → Prop} (hx : x = S [63]) (hR : ∃ o, s.heap.get? R = some o) 
    (q : ∀ D' h', Keep s.heap h' → Rep (Nt R) h' (.ref D') (rowD [63]) → Q (.ref D') { s with heap := h' }) :
    wpAny (model prog w) A (newList [.str x t]) Q E s := by
  subst hx
  refine lnew (by rw [sizeLine_eq]; exact Nat.le_of_ble_eq_true rfl) (fun D' h' kk nD pD => q D' h' kk ?_)
  exact Rep.ofList (ne_of_new hR nD) pD (.cons (.str _ _) .nil)
theorem Fm.repm {hb hs hz h : Heap} {L R : Addr} {vs : Vs} {cs : Cs} {rv : List Value} {v : Value} {d : PyData} (F : Fm hb hs hz h L vs cs [(R, rv)]) (r : Rep (Nt R) hz v d) : Rep (Nt R) h v d :=
  r.mono' (fun _ p => p) fun a o p e q => F.kz a o (by simpa using p) e q
theorem Fm.repms {hb hs hz h : Heap} {L R : Addr} {vs : Vs} {cs : Cs} {rv : List Value} {v : List Value} {d : List PyData} (F : Fm hb hs hz h L vs cs [(R, rv)]) (r : RepAll (Nt R) hz v d) : RepAll (Nt R) h v d :=
  r.mono' (fun _ p => p) fun a o p e q => F.kz a o (by simpa using p) e q
theorem Fm.liveM {hb hs hz h : Heap} {L R : Addr} {vs : Vs} {cs : Cs} {rv : List Value} (F : Fm hb hs hz h L vs cs [(R, rv)]) : ∃ o, h.get? R = some o := F.live (mem_own_m (by simp))

inductive PatA (l : List Nat) (t : Tok) (D R : Addr) (i : Nat) (hz : Heap) (vs : Vs) (cs : Cs) (ms : List (Addr × List Value)) : Prop
  | mk (rv : List Value) (o : Option Value)
      (f0 : vs = ([("word", some (.str (S l) t)), ("signs", some (.ref D)), ("rows", some (.ref R)), ("k", o)] : Vs))
      (f1 : cs = ([] : Cs))
      (f2 : ms = [(R, rv)])
      (f3 : Rep (Nt R) hz (.ref D) (rowD l))
      (f4 : RepAll (Nt R) hz rv ((toksA l i).map rowD))
      : PatA l t D R i hz vs cs ms
inductive PatB (l : List Nat) (t : Tok) (D R : Addr) (i : Nat) (hz : Heap) (vs : Vs) (cs : Cs) (ms : List (Addr × List Value)) : Prop
  | mk (rv : List Value) (o : Option Value)
      (f0 : vs = ([("word", some (.str (S l) t)), ("signs", some (.ref D)), ("rows", some (.ref R)), ("k", o)] : Vs))
      (f1 : cs = ([] : Cs))
      (f2 : ms = [(R, rv)])
      (f3 : Rep (Nt R) hz (.ref D) (rowD l))
      (f4 : RepAll (Nt R) hz rv ((toksB l i).map rowD))
      : PatB l t D R i hz vs cs ms
set_option maxHeartbeats 0 in
theorem pats_call {f : Addr} {l : List Nat} {t : Tok} {Q : Value → Shared → Prop} {mg mb : Str → Option Value} {hb : Heap} (B : Bs mg mb hb) (k : Keep hb s.heap) (fn : FnAt hb f r18) (rm : Rm A 2)
    (hl3 : l.length ≤ 3) (q : ∀ v h' tk, Keep s.heap h' → Rep Any h' v (pyS ((toksL l).map fun r => r.flatMap patT)) → Q v { s with heap := h', toks := tk }) :
    wpAny (model prog w) A (call (.ref f) [.str (S l) t]) Q E s := by
  refine enter (n := 1) (binds := [("word", .str (S l) t)]) [("word", some (.str (S l) t)), ("signs", none), ("rows", none), ("k", none)] [] [] rm k fn B.lim (fun _ _ _ => rfl) fun h₁ tk cd F rm' => ?_
  generalize hA : A.deeper _ = A' at rm'
  have llen := ld_builtin (M := model prog w) (env := envOfC r18.name r18.scope s.heap.objs.size f cd) B.g B.b B.blen.1 B.blen.2
  have lran := ld_builtin (M := model prog w) (env := envOfC r18.name r18.scope s.heap.objs.size f cd) B.g B.b B.brange.1 B.brange.2
  walk_at "ev"
  have hsz : (S l).cps.size = l.length := by simp
  refine comp_assign2 (cl := []) false (fun D => [("word", some (.str (S l) t)), ("signs", some (.ref D)), ("rows", none), ("k", none)]) F rm'.hd ⟨by rfl, by rfl, by decide, by rfl, fun _ => by rfl, fun _ => by rfl⟩ ?k1 ?k2 ?k3 ?main
  case k1 => rfl
  case k2 => rfl
  case k3 => rfl
  case main =>
  walk_at "ev"
  refine ⟨l.length, SignAt (S l), fun i => (l[i]?).map fun c => .str (S (patT c)), by rw [← hsz]; exact iter_str, by rw [sizeLine_eq]; omega, ⟨?_, ?_⟩, Keep.rfl', fun D => ⟨Put.there Put.here, ?_⟩⟩
  · intro C i v h tk hi hP hk hC lk lc
    exact wpAny_pure ⟨by simp [hi], h, tk, rfl, Keep.rfl'⟩
  · intro C i v h tk d hi hP hg hk hC lk lc
    obtain ⟨c, u, hc, rfl⟩ := hP
    have hc' : l[i]? = some c := by simpa using hc
    rw [hc'] at hg
    cases hg
    repeat walk_at "ev"
    refine inS (l := [91, 42]) (by decide +kernel) ?_
    repeat walk_at "ev"
    by_cases hcc : c ∈ [91, 42]
    · rw [if_pos (decide_eq_true hcc)]
      repeat walk_at "ev"
      refine addS (a := [91]) (b := [c]) (by decide +kernel) rfl (by rw [sizeLine_eq]; exact Nat.le_of_ble_eq_true rfl) (fun t' tk' => ?_)
      repeat walk_at "ev"
      refine addS (a := [91] ++ [c]) (b := [93]) rfl (by decide +kernel) (by rw [sizeLine_eq]; exact Nat.le_of_ble_eq_true rfl) (fun t' tk' => ?_)
      refine ⟨_, _, rfl, Keep.rfl', ?_⟩
      have : patT c = [91] ++ [c] ++ [93] := by unfold patT; rw [if_pos (by simpa using hcc)]; rfl
      rw [this]; exact .str _ _
    · rw [if_neg (by rw [decide_eq_false hcc]; exact Bool.false_ne_true)]
      repeat walk_at "ev"
      refine ⟨_, _, rfl, Keep.rfl', ?_⟩
      have : patT c = [c] := by unfold patT; rw [if_neg (by simpa using hcc)]
      rw [this]; exact .str _ _
  intro h' tk' nD hD F₂
  obtain ⟨ys, hl, hr⟩ := hD
  rw [fm_get] at hr
  walk_at "ev"
  walk_at "ev"
  walk_at "ev"
  walk_at "ev"
  repeat walk_at "ev"
  refine lnew (by rw [sizeLine_eq]; exact Nat.le_of_ble_eq_true rfl) (fun R h₃ k₃ nR pR => ?_)
  have F₃ := F₂.keep k₃
  have nRo : R ∉ owned (envOfC r18.name r18.scope s.heap.objs.size f cd).locals ([] : Cs) ([] : List (Addr × List Value)) := fun m => by
    obtain ⟨o, ho⟩ := F₂.live m
    rw [show h'.get? R = none from nR] at ho; cases ho
  have F₄ := (F₃.own pR nRo (New.back F₂.kb R nR)).now
  dsimp only [List.nil_append] at F₄
  have hDlive : ∃ o, h'.get? D = some o := by obtain ⟨n, e⟩ := hl; exact ⟨_, e⟩
  have rD : Rep (Nt R) h₃ (.ref D) (rowD l) := by
    refine Rep.ofList (P := Nt R) (fun e => ?_) (vs := ys.toList) (by simpa using (kPlain hl k₃)) ?_
    · obtain ⟨o, ho⟩ := hDlive
      rw [e, show h'.get? R = none from nR] at ho; cases ho
    · exact strs_move (fun c => S (patT c)) hr
  repeat walk_at "ev"
  rename_i h₄ F₅
  refine for_stmt (hb := s.heap) (hs := s.heap) rm'.hd [s.heap.objs.size, R]
    (PatA l t D R) ?_ ?_
  · rintro i hz vs cs ms ⟨rv, o, rfl, rfl, rfl, _⟩
    rfl
  have rD4 := F₅.repm rD
  obtain ⟨vD, hvD, raD, lvD⟩ := rowD_inv rD4
  repeat walk_at "ev"
  refine lenL hvD (by rw [List.size_toArray]; omega) (fun t₅ tk₅ => ?_)
  repeat walk_at "ev"
  rw [List.size_toArray, lvD]
  refine range1n (by omega) (fun r h₆ tk₆ k₆ nr it => ?_)
  refine ⟨l.length, _, _, _, _, _, it, (F₅.keep k₆).now, ⟨_, _, rfl, rfl, rfl, rD4.keep k₆, ?_⟩, F₅.fresh nr, ?_, ?_⟩
  · exact .cons (rD4.keep k₆) .nil
  · rintro i v' hs' hz' h tk vs cs ms hi ⟨ti, rfl⟩ ⟨rv, o, rfl, rfl, rfl, rD, rR⟩ F₇
    repeat walk_at "ev"
    rename_i h₈ F₈
    have rD := F₈.repm rD
    have rR := F₈.repms rR
    refine slD_upto rD F₈.liveM (by rw [sizeLine_eq]; omega) (fun A1 g1 k1 r1 => ?_)
    have F₉ := F₈.keep k1
    repeat walk_at "ev"
    refine newQ (by decide +kernel) F₉.liveM (fun A2 g2 k2 r2 => ?_)
    have F₁₀ := F₉.keep k2
    repeat walk_at "ev"
    refine addD (r1.keep k2) r2 F₁₀.liveM (by rw [sizeLine_eq, List.length_take]; simp; omega) (fun A3 g3 k3 r3 => ?_)
    have F₁₁ := F₁₀.keep k3
    have K3 := (k1.trans k2).trans k3
    repeat walk_at "ev"
    refine slD_from (k := i + 1) (rD.keep K3) F₁₁.liveM (by rw [sizeLine_eq]; omega) (fun A4 g4 k4 r4 => ?_)
    have F₁₂ := F₁₁.keep k4
    repeat walk_at "ev"
    refine addD (r3.keep k4) r4 F₁₂.liveM (by rw [sizeLine_eq, List.length_append, List.length_take, List.length_drop]; simp; omega) (fun A5 g5 k5 r5 => ?_)
    have F₁₃ := F₁₂.keep k5
    have K5 := (K3.trans k4).trans k5
    repeat walk_at "ev"
    refine slD_upto (rD.keep K5) F₁₃.liveM (by rw [sizeLine_eq]; omega) (fun A6 g6 k6 r6 => ?_)
    have F₁₄ := F₁₃.keep k6
    have K6 := K5.trans k6
    repeat walk_at "ev"
    refine slD_from (k := i + 1) (rD.keep K6) F₁₄.liveM (by rw [sizeLine_eq]; omega) (fun A7 g7 k7 r7 => ?_)
    have F₁₅ := F₁₄.keep k7
    repeat walk_at "ev"
    refine addD (r6.keep k7) r7 F₁₅.liveM (by rw [sizeLine_eq, List.length_take, List.length_drop]; omega) (fun A8 g8 k8 r8 => ?_)
    have F₁₆ := F₁₅.keep k8
    repeat walk_at "ev"
    refine lnew (by rw [sizeLine_eq]; exact Nat.le_of_ble_eq_true rfl) (fun A9 g9 k9 n9 p9 => ?_)
    have F₁₇ := (F₁₆.keep k9).now
    have lrv : rv.length = 1 + 2 * i := by have := rR.length; rwa [List.length_map, toksA_len] at this
    have K8 := ((K6.trans k7).trans k8).trans k9
    refine F₁₇.iadd (l := rv) (ws := [.ref A5, .ref A8]) (by simp) PutM.here p9 (by simp; omega) (fun g10 F₁₈ => ?_)
    have rR2 := F₁₈.repms ((rR.keep K8).append (.cons (r5.keep (((k6.trans k7).trans k8).trans k9)) (.cons (r8.keep k9) .nil)))
    have rD2 := F₁₈.repm (rD.keep K8)
    have F₁₉ := F₁₈.now
    repeat walk_at "ev"
    rename_i F₂₀
    refine ⟨rfl, _, _, _, _, _, _, rfl, ⟨_, _, rfl, rfl, rfl, rD2, ?_⟩, F₂₀⟩
    rw [toksA_succ, List.map_append]
    exact rR2
  · rintro hz' h tk vs cs ms ⟨rv, o, rfl, rfl, rfl, rD, rR⟩ F₇
    have rD := F₇.repm rD
    have rR := F₇.repms rR
    clear rD4 raD hvD lvD vD F₅ F₄ F₃ F₂
    repeat walk_at "ev"
    refine for_stmt (hb := s.heap) (hs := s.heap) rm'.hd [s.heap.objs.size, R]
      (PatB l t D R) ?_ ?_
    · rintro i hz vs cs ms ⟨rv, o, rfl, rfl, rfl, _⟩
      rfl
    obtain ⟨vD, hvD, raD, lvD⟩ := rowD_inv rD
    repeat walk_at "ev"
    refine lenL hvD (by rw [List.size_toArray]; omega) (fun t₅ tk₅ => ?_)
    repeat walk_at "ev"
    rw [List.size_toArray, lvD]
    refine range1n (n := l.length + 1) (by omega) (fun r h₆ tk₆ k₆ nr it => ?_)
    refine ⟨l.length + 1, _, _, _, _, _, it, (F₇.keep k₆).now, ⟨_, _, rfl, rfl, rfl, rD.keep k₆, ?_⟩, F₇.fresh nr, ?_, ?_⟩
    · rw [show toksB l 0 = toksA l l.length by simp [toksB]]
      exact rR.keep k₆
    · rintro i v' hs' hz' h tk vs cs ms hi ⟨ti, rfl⟩ ⟨rv, o, rfl, rfl, rfl, rD, rR⟩ F₇
      repeat walk_at "ev"
      rename_i h₈ F₈
      have rD := F₈.repm rD
      have rR := F₈.repms rR
      refine gml PySem.F.slot_list_append PySem.F.type_list_append (F₈.mls (R, rv) (by simp)) ?_
      repeat walk_at "ev"
      refine slD_upto rD F₈.liveM (by rw [sizeLine_eq]; omega) (fun A1 g1 k1 r1 => ?_)
      have F₉ := F₈.keep k1
      repeat walk_at "ev"
      refine newQ (by decide +kernel) F₉.liveM (fun A2 g2 k2 r2 => ?_)
      have F₁₀ := F₉.keep k2
      repeat walk_at "ev"
      refine addD (r1.keep k2) r2 F₁₀.liveM (by rw [sizeLine_eq, List.length_take]; simp; omega) (fun A3 g3 k3 r3 => ?_)
      have F₁₁ := F₁₀.keep k3
      have K3 := (k1.trans k2).trans k3
      repeat walk_at "ev"
      refine slD_from (k := i) (rD.keep K3) F₁₁.liveM (by rw [sizeLine_eq]; omega) (fun A4 g4 k4 r4 => ?_)
      have F₁₂ := F₁₁.keep k4
      repeat walk_at "ev"
      refine addD (r3.keep k4) r4 F₁₂.liveM (by rw [sizeLine_eq, List.length_append, List.length_take, List.length_drop]; simp; omega) (fun A5 g5 k5 r5 => ?_)
      have F₁₃ := (F₁₂.keep k5).now
      have K5 := (K3.trans k4).trans k5
      repeat walk_at "ev"
      have lrv : rv.length = 1 + 2 * l.length + i := by have := rR.length; rwa [List.length_map, toksB_len] at this
      show wpAny _ _ (call (.builtin "list.append") [.ref R, .ref A5]) _ _ _
      refine F₁₃.app (l := rv) (by simp) PutM.here (by rw [sizeLine_eq]; omega) (fun g6 F₁₄ => ?_)
      have rR2 := F₁₄.repms ((rR.keep K5).append (.cons r5 .nil))
      have rD2 := F₁₄.repm (rD.keep K5)
      have F₁₅ := F₁₄.now
      repeat walk_at "ev"
      refine ⟨rfl, _, _, _, _, _, _, rfl, ⟨_, _, rfl, rfl, rfl, rD2, ?_⟩, F₁₅⟩
      rw [toksB_succ, List.map_append]
      exact rR2
    · rintro hz' h tk vs cs ms ⟨rv, o, rfl, rfl, rfl, rD, rR⟩ F₇
      have rR := F₇.repms rR
      have lrv : rv.length = (toksL l).length := by have := rR.length; rwa [List.length_map] at this
      have ltl : (toksL l).length ≤ 11 := by show (toksB l (l.length + 1)).length ≤ 11; rw [toksB_len]; omega
      repeat walk_at "ev"
      refine comp_eval (cl := []) false rm'.hd ⟨by rfl, by rfl, by decide, by rfl, fun _ => by rfl, fun _ => by rfl⟩ ?_
      repeat walk_at "ev"
      refine ⟨rv.toArray.size, _, fun j => ((toksL l)[j]?).map fun r => .str (S (r.flatMap patT)), iter_list (F₇.mls (R, rv) (by simp)).isList, by rw [sizeLine_eq, List.size_toArray]; omega, ⟨?_, ?_⟩, ?_⟩
      · intro C j v h tk hj hP hk hC lk lc
        refine wpAny_pure ⟨?_, h, tk, rfl, Keep.rfl'⟩
        rw [List.size_toArray, lrv] at hj
        simp [hj]
      · intro C j v h tk d hj hP hg hk hC lk lc
        have hP' : rv[j]? = some v := by simpa using hP
        obtain ⟨dd, hdd, rv'⟩ := rR.get hP'
        rw [List.getElem?_map] at hdd
        cases hr' : (toksB l (l.length + 1))[j]? with
        | none => rw [hr'] at hdd; cases hdd
        | some r =>
          have hg' : ((toksB l (l.length + 1))[j]?).map (fun r => PyData.str (S (r.flatMap patT))) = some d := hg
          rw [hr'] at hdd hg'
          cases hdd
          cases hg'
          obtain ⟨vD, vs', rfl, _, hvl, hra⟩ := (rv'.keep hk).toList
          have hr4 := toksB_mem l _ r (List.mem_of_getElem? hr')
          repeat walk_at "ev"
          with_reducible refine GM.join ?_
          repeat walk_at "ev"
          refine joinS (P := Nt R) (ls := r.map patT) hvl ?_ ?_ (fun t' k => ?_)
          · rw [List.map_map]; exact hra
          · rw [← List.flatMap_def]; have := flat_len r; omega
          · refine ⟨_, _, rfl, Keep.rfl', ?_⟩
            rw [← List.flatMap_def]
            exact .str _ _
      · intro D' h₆ tk₆ k₆ nD' hD'
        obtain ⟨ys, hl', hr'⟩ := hD'
        rw [List.size_toArray, lrv, fm_get] at hr'
        repeat walk_at "ev"
        refine q _ _ _ ((F₇.keep k₆).kb) ?_
        refine Rep.ofList (vs := ys.toList) trivial (by simpa using hl') ?_
        rw [List.map_map, List.map_map]
        exact hr'.weak fun _ _ => trivial
end
mutual
noncomputable def plD : PyData → Bool
  | .int _ => true
  | .str x => PyData.strOk x
  | .list xs => plDs xs
  | .tuple xs => plDs xs
  | _ => false
noncomputable def plDs : List PyData → Bool
  | [] => true
  | x :: xs => plD x && plDs xs
end
mutual
theorem plD_lay : ∀ d, plD d = true → PyData.canLay0 d = true
  | .int _, _ => rfl
  | .str x, h => by unfold plD at h; unfold PyData.canLay0; exact h
  | .list xs, h => by unfold plD at h; unfold PyData.canLay0; exact plDs_lay xs h
  | .tuple xs, h => by unfold plD at h; unfold PyData.canLay0; exact plDs_lay xs h
  | .none, h => by cases h
  | .bool _, h => by cases h
  | .dict _, h => by cases h
theorem plDs_lay : ∀ d, plDs d = true → PyData.canLayAll0 d = true
  | [], _ => rfl
  | x :: xs, h => by
    unfold plDs at h
    rw [Bool.and_eq_true] at h
    unfold PyData.canLayAll0
    rw [plD_lay x h.1, plDs_lay xs h.2]; rfl
end
mutual
theorem eqv_iff : ∀ d e, plD d = true → plD e = true → (PyData.eqv d e = true ↔ d = e)
  | .int i, .int j, _, _ => by simp [PyData.eqv]
  | .str x, .str y, _, _ => by simp [PyData.eqv]
  | .list xs, .list ys, h, h' => by
    have := eqvs_iff xs ys h h'
    simp [PyData.eqv, this]
  | .tuple xs, .tuple ys, h, h' => by
    have := eqvs_iff xs ys h h'
    simp [PyData.eqv, this]
  | .int _, .str _, _, _ => by simp [PyData.eqv]
  | .int _, .list _, _, _ => by simp [PyData.eqv]
  | .int _, .tuple _, _, _ => by simp [PyData.eqv]
  | .str _, .int _, _, _ => by simp [PyData.eqv]
  | .str _, .list _, _, _ => by simp [PyData.eqv]
  | .str _, .tuple _, _, _ => by simp [PyData.eqv]
  | .list _, .int _, _, _ => by simp [PyData.eqv]
  | .list _, .str _, _, _ => by simp [PyData.eqv]
  | .list _, .tuple _, _, _ => by simp [PyData.eqv]
  | .tuple _, .int _, _, _ => by simp [PyData.eqv]
  | .tuple _, .str _, _, _ => by simp [PyData.eqv]
  | .tuple _, .list _, _, _ => by simp [PyData.eqv]
  | .none, _, h, _ => by cases h
  | .bool _, _, h, _ => by cases h
  | .dict _, _, h, _ => by cases h
  | _, .none, _, h => by cases h
  | _, .bool _, _, h => by cases h
  | _, .dict _, _, h => by cases h
theorem eqvs_iff : ∀ d e, plDs d = true → plDs e = true → (PyData.eqvAll d e = true ↔ d = e)
  | [], [], _, _ => by simp [PyData.eqvAll]
  | x :: xs, y :: ys, h, h' => by
    unfold plDs at h h'
    rw [Bool.and_eq_true] at h h'
    have h1 := eqv_iff x y h.1 h'.1
    have h2 := eqvs_iff xs ys h.2 h'.2
    simp [PyData.eqvAll, h1, h2]
  | [], _ :: _, _, _ => by simp [PyData.eqvAll]
  | _ :: _, [], _, _ => by simp [PyData.eqvAll]
end
theorem plDs_map {α : Type} (f : α → PyData) : ∀ l : List α, (∀ a ∈ l, plD (f a) = true) → plDs (l.map f) = true
  | [], _ => rfl
  | a :: l, h => by
    show (plD (f a) && plDs (l.map f)) = true
    rw [h a List.mem_cons_self, plDs_map f l fun b m => h b (List.mem_cons_of_mem _ m)]; rfl

section
variable {prog : Program} {w : World} {A : Around} {E : Value → Shared → Prop} {s : Shared} {env : Env} {M : Model}
theorem eqData {P P' : Addr → Prop} {a b : Value} {da db : PyData} {n : Nat} {Q : Value → Shared → Prop} (rm : Rm A n) (ra : Rep P s.heap a da) (rb : Rep P' s.heap b db) (ha : plD da = true) (hb : plD db = true) (hd : da.depth ≤ 100)
    (q : ∀ c, (c = true ↔ da = db) → Q (.bool c) s) : wpAny (model prog w) A (compareOp .Eq a b) Q E s := by
  obtain ⟨as, ra⟩ := ra.reads
  obtain ⟨bs, rb⟩ := rb.reads
  exact SeqAt.compareEq_reads ra rb (plD_lay _ ha) (plD_lay _ hb) (by have := rm.units; omega) (q _ (eqv_iff _ _ ha hb))
theorem neData {P P' : Addr → Prop} {a b : Value} {da db : PyData} {n : Nat} {Q : Value → Shared → Prop} (rm : Rm A n) (ra : Rep P s.heap a da) (rb : Rep P' s.heap b db) (ha : plD da = true) (hb : plD db = true) (hd : da.depth ≤ 100)
    (q : ∀ c, (c = true ↔ da ≠ db) → Q (.bool c) s) : wpAny (model prog w) A (compareOp .NotEq a b) Q E s := by
  obtain ⟨as, ra⟩ := ra.reads
  obtain ⟨bs, rb⟩ := rb.reads
  refine SeqAt.compareNe_reads ra rb (plD_lay _ ha) (plD_lay _ hb) (by have := rm.units; omega) (q _ ?_)
  have := eqv_iff _ _ ha hb
  cases h : PyData.eqv da db
  · rw [h] at this; simpa using this
  · rw [h] at this; simpa using this
end

theorem depth_map {α : Type} (f : α → PyData) (m : Nat) (hm : ∀ a, (f a).depth ≤ m) : ∀ l : List α, PyData.depthAll (l.map f) ≤ m
  | [] => by unfold PyData.depthAll; exact Nat.zero_le _
  | a :: l => by
    rw [List.map_cons]
    unfold PyData.depthAll
    have := depth_map f m hm l
    have := hm a
    omega
noncomputable def outT (t : Nat) : List Nat := if t = 63 then [97, 110, 121] else if t = 91 then [91, 92, 91, 93] else if t = 42 then [91, 42, 93] else [t]
noncomputable def innT (t : Nat) : List Nat := if t = 63 then [97, 110, 121] else if t = 91 then [92, 91] else if t = 42 then [42] else [t]
noncomputable abbrev TkOk (t : Nat) : Prop := t = 97 ∨ t = 98 ∨ t = 63 ∨ t = 91 ∨ t = 42
noncomputable def badK (row n : List Nat) (k : Nat) : Bool := match row[k]?, n[k]? with
  | some t, some c => t != 63 && !decide (c ∈ innT t)
  | _, _ => false
noncomputable def takesT (row n : List Nat) : Bool := decide (row.length = n.length) && ((List.range row.length).filterMap fun (k : Nat) => if badK row n k then some (PyData.int (k : Int)) else none).isEmpty
noncomputable abbrev partsD (row : List Nat) : PyData := .list (row.map fun t => .str (S (outT t)))

section
variable {prog : Program} {w : World} {A : Around} {E : Value → Shared → Prop} {s : Shared} {env : Env} {M : Model}
set_option maxHeartbeats 0 in
theorem takes_call {f : Addr} {pv : Value} {row n : List Nat} {t : Tok} {Q : Value → Shared → Prop} {mg mb : Str → Option Value} {hb : Heap} (B : Bs mg mb hb) (k : Keep hb s.heap) (fn : FnAt hb f r19) (rm : Rm A 2)
    (hr4 : row.length ≤ 4) (hn3 : n.length ≤ 3) (hok : ∀ t ∈ row, TkOk t) (rp : Rep Any s.heap pv (partsD row))
    (q : ∀ h' tk, Keep s.heap h' → Q (.bool (takesT row n)) { s with heap := h', toks := tk }) :
    wpAny (model prog w) A (call (.ref f) [pv, .str (S n) t]) Q E s := by
  refine enter (n := 1) (binds := [("parts", pv), ("name", .str (S n) t)]) [] [("parts", s.heap.objs.size + 1, some pv), ("name", s.heap.objs.size + 2, some (.str (S n) t)), ("inner", s.heap.objs.size + 3, none)] [1, 2, 3] rm k fn B.lim (fun _ _ _ => rfl) fun h₁ tk cd F rm' => ?_
  generalize hA : A.deeper _ = A' at rm'
  have llen := ld_builtin (M := model prog w) (env := envOfC r19.name r19.scope s.heap.objs.size f cd) B.g B.b B.blen.1 B.blen.2
  have lran := ld_builtin (M := model prog w) (env := envOfC r19.name r19.scope s.heap.objs.size f cd) B.g B.b B.brange.1 B.brange.2
  obtain ⟨D, vs, rfl, _, hvl, ra⟩ := (rp.keep F.kb).toList
  have lvs : vs.length = row.length := by have := ra.length; simpa using this
  have hns : (S n).cps.size = n.length := by simp
  repeat walk_at "ev"
  refine lenL hvl (by rw [List.size_toArray]; omega) (fun t₅ tk₅ => ?_)
  repeat walk_at "ev"
  have en : ((n.toArray.size : Int)) = n.length := by simp
  rw [List.size_toArray, lvs, en]
  by_cases hlen : row.length = n.length
  · rw [if_neg (by rw [hlen]; simp)]
    repeat walk_at "ev"
    refine comp_eval (cl := []) false rm'.hd ⟨by rfl, by rfl, by decide, by rfl, fun _ => by rfl, fun _ => by rfl⟩ ?_
    repeat walk_at "ev"
    refine ⟨vs.toArray.size, _, fun j => (row[j]?).map fun t => .str (S (innT t)), iter_list hvl, by rw [sizeLine_eq, List.size_toArray]; omega, ⟨?_, ?_⟩, ?_⟩
    · intro C j v h tk' hj hP hk hC lk lc
      refine wpAny_pure ⟨?_, h, tk', rfl, Keep.rfl'⟩
      rw [List.size_toArray, lvs] at hj
      simp [hj]
    · intro C j v h tk' d hj hP hg hk hC lk lc
      have hP' : vs[j]? = some v := by simpa using hP
      obtain ⟨dd, hdd, rv'⟩ := ra.get hP'
      rw [List.getElem?_map] at hdd
      cases hr' : row[j]? with
      | none => rw [hr'] at hdd; cases hdd
      | some t =>
        rw [hr'] at hdd hg
        cases hdd
        cases hg
        obtain ⟨tt, rfl⟩ := rv'.str_inv
        have tkt := hok t (List.mem_of_getElem? hr')
        repeat walk_at "ev"
        obtain ⟨c, hc, hcc⟩ : ∃ c, (outT t)[0]? = some c ∧ ((⟨#[c]⟩ : Str) == Str.ofString "[") = decide (t = 91 ∨ t = 42) := by
          rcases tkt with rfl | rfl | rfl | rfl | rfl <;> exact ⟨_, rfl, by decide +kernel⟩
        refine sitem (n := 0) (c := c) ?sa ?sb ?sq ?ss
        case ss => rfl
        case sa => simpa using hc
        case sb => exact Nat.lt_of_sub_ne_zero (by decide)
        repeat walk_at "ev"
        rw [hcc]
        by_cases ht : t = 91 ∨ t = 42
        · rw [if_pos (decide_eq_true ht)]
          repeat walk_at "ev"
          refine slT_str (.int _ _) (.int _ _) (by rw [sizeLine_eq]; rcases ht with rfl | rfl <;> exact Nat.le_of_ble_eq_true rfl) (fun h₃ t₃ k₃ K₃ => ?_)
          refine ⟨_, _, rfl, K₃, ?_⟩
          have : innT t = cutL (outT t) (some 1) (some (-1)) := by rcases ht with rfl | rfl <;> decide +kernel
          rw [this]; exact .str _ _
        · rw [if_neg (by rw [decide_eq_false ht]; exact Bool.false_ne_true)]
          repeat walk_at "ev"
          refine ⟨_, _, rfl, Keep.rfl', ?_⟩
          have : innT t = outT t := by unfold innT outT; rw [if_neg (fun h => ht (.inl h)), if_neg (fun h => ht (.inr h)), if_neg (fun h => ht (.inl h)), if_neg (fun h => ht (.inr h))]
          rw [this]; exact .str _ _
    · intro D' h₆ tk₆ k₆ nD' hD'
      obtain ⟨ys, hl', hr'⟩ := hD'
      rw [List.size_toArray, lvs, fm_get] at hr'
      have F₆ := (F.keep k₆).now
      repeat walk_at "ev"
      rename_i h₇ F₇
      obtain ⟨_, vs2, e, _, hvl2, ra2⟩ := (F₇.rep ((rp.keep F.kb).keep k₆)).toList
      cases e
      have lvs2 : vs2.length = row.length := by have := ra2.length; simpa using this
      obtain ⟨_, ws, e, _, hwl, rw2⟩ := (F₇.rep (Rep.ofList (P := Any) (vs := ys.toList) trivial (by simpa using hl') ((strs_move (fun t => S (innT t)) hr') : RepAll Any h₆ ys.toList _))).toList
      cases e
      have lws : ws.length = row.length := by have := rw2.length; simpa using this
      have ic1 := F₇.cel _ _ _ List.mem_cons_self
      have ic2 := F₇.cel _ _ _ (List.mem_cons_of_mem _ List.mem_cons_self)
      have ic3 := F₇.cel _ _ _ (List.mem_cons_of_mem _ (List.mem_cons_of_mem _ List.mem_cons_self))
      refine comp_eval (cl := [("parts", s.heap.objs.size + 1), ("name", s.heap.objs.size + 2), ("inner", s.heap.objs.size + 3)]) false rm'.hd ⟨by rfl, by rfl, by decide, by rfl, fun _ => by rfl, fun _ => by rfl⟩ ?_
      repeat walk_at "ev"
      refine lenL hvl2 (by rw [List.size_toArray]; omega) (fun t₅ tk₅ => ?_)
      repeat walk_at "ev"
      rw [List.size_toArray, lvs2]
      refine range1 (by omega) (fun r h₈ tk₈ k₈ it => ?_)
      refine ⟨row.length, _, fun (k : Nat) => if badK row n k then some (PyData.int (k : Int)) else none, it, by rw [sizeLine_eq]; omega, ⟨?_, ?_⟩, ?_⟩
      · intro C j v h tk' hj hP hk hC lk lc
        obtain ⟨t', rfl⟩ := hP
        have ic1' := kCell ic1 (k₈.trans hk)
        have ic2' := kCell ic2 (k₈.trans hk)
        have ic3' := kCell ic3 (k₈.trans hk)
        have hvl3 := kList hvl2 (k₈.trans hk)
        have hwl3 := kList hwl (k₈.trans hk)
        refine wpAny_tests_one ?_
        repeat walk_at "ev"
        obtain ⟨t, ht⟩ : ∃ t, row[j]? = some t := ⟨_, List.getElem?_eq_getElem hj⟩
        obtain ⟨c, hc⟩ : ∃ c, n[j]? = some c := ⟨_, List.getElem?_eq_getElem (hlen ▸ hj)⟩
        have tkt := hok t (List.mem_of_getElem? ht)
        obtain ⟨v1, hv1⟩ : ∃ v, vs2[j]? = some v := ⟨_, List.getElem?_eq_getElem (by omega)⟩
        obtain ⟨v2, hv2⟩ : ∃ v, ws[j]? = some v := ⟨_, List.getElem?_eq_getElem (by omega)⟩
        obtain ⟨d1, hd1, r1⟩ := ra2.get hv1
        obtain ⟨d2, hd2, r2⟩ := rw2.get hv2
        rw [List.getElem?_map, ht] at hd1 hd2
        cases hd1
        cases hd2
        obtain ⟨u1, rfl⟩ := r1.str_inv
        obtain ⟨u2, rfl⟩ := r2.str_inv
        have hbad : badK row n j = (t != 63 && !decide (c ∈ innT t)) := by unfold badK; rw [ht, hc]
        have hne : (S (outT t) != Str.ofString "any") = (t != 63) := by rcases tkt with rfl | rfl | rfl | rfl | rfl <;> decide +kernel
        refine litem hvl3 hv1 (by omega) ?_ rfl
        repeat walk_at "ev"
        rw [hne]
        by_cases h63 : (t != 63) = true
        · rw [if_pos h63]
          rw [h63, Bool.true_and] at hbad
          repeat walk_at "ev"
          refine sitem (c := c) ?sz7a ?sz7b ?sz7q ?sz7s
          case sz7s => rfl
          case sz7a => simpa using hc
          case sz7b => omega
          try dsimp only
          repeat walk_at "ev"
          refine litem hwl3 hv2 (by omega) ?_ rfl
          repeat walk_at "ev"
          refine notInS rfl ?_
          repeat walk_at "ev"
          cases hd : (!decide (c ∈ innT t))
          · rw [if_neg Bool.false_ne_true]
            rw [hd] at hbad
            refine ⟨?_, _, _, rfl, Keep.rfl'⟩
            rw [hbad]; rfl
          · rw [if_pos rfl]
            rw [hd] at hbad
            repeat walk_at "ev"
            refine ⟨?_, _, _, rfl, Keep.rfl'⟩
            rw [hbad]; rfl
        · rw [if_neg h63]
          have : (t != 63) = false := by simpa using h63
          rw [this, Bool.false_and] at hbad
          refine ⟨?_, _, _, rfl, Keep.rfl'⟩
          rw [hbad]; rfl
      · intro C j v h tk' d hj hP hg hk hC lk lc
        obtain ⟨t', rfl⟩ := hP
        repeat walk_at "ev"
        refine ⟨_, _, rfl, Keep.rfl', ?_⟩
        have hg' : (if badK row n j then some (PyData.int (j : Int)) else none) = some d := hg
        split at hg'
        · cases hg'
          exact .int _ _
        · cases hg'
      · intro D₂ h₉ tk₉ k₉ nD₂ hD₂
        obtain ⟨ys₂, hlD, hrD⟩ := hD₂
        repeat walk_at "ev"
        refine lnew (by rw [sizeLine_eq]; exact Nat.le_of_ble_eq_true rfl) (fun D₃ h₁₀ k₁₀ n₁₀ p₁₀ => ?_)
        have e0 : ((List.range row.length).filterMap fun (k : Nat) => if badK row n k then some (PyData.int (k : Int)) else none) = ((List.range row.length).filter fun k => badK row n k).map fun (k : Nat) => PyData.int (k : Int) := by
          rw [← List.filterMap_eq_map, ← List.filterMap_eq_filter, List.filterMap_filterMap]
          congr 1; funext k
          simp [Option.guard]
          split <;> simp [*]
        rw [e0] at hrD
        have r₁ : Rep Any h₁₀ (.ref D₂) (.list _) := Rep.ofList (vs := ys₂.toList) trivial (by simpa using (kPlain hlD k₁₀)) ((hrD.weak fun _ _ => trivial).keep k₁₀)
        have r₂ : Rep Any h₁₀ (.ref D₃) (.list []) := Rep.ofList (P := Any) trivial p₁₀ .nil
        refine eqData rm' r₁ r₂ (plDs_map _ _ fun _ _ => rfl) rfl ?_ (fun c hc => ?_)
        · show PyData.depth (.list _) ≤ 100
          unfold PyData.depth
          have := depth_map (fun (k : Nat) => PyData.int (k : Int)) 0 (fun _ => by unfold PyData.depth; exact Nat.le_refl _) ((List.range row.length).filter fun k => badK row n k)
          omega
        · have e : takesT row n = c := by
            unfold takesT
            rw [decide_eq_true hlen, Bool.true_and, e0]
            rw [Bool.eq_iff_iff, hc, List.isEmpty_iff]
            exact ⟨fun h => by rw [h], fun h => by injection h⟩
          rw [← e]
          exact q _ _ (((F₇.keep k₈).keep k₉).keep k₁₀).kb
  · rw [if_pos (by simpa using (by omega : ¬ ((row.length : Int) = n.length)))]
    repeat walk_at "ev"
    have e : takesT row n = false := by unfold takesT; rw [decide_eq_false hlen]; rfl
    rw [e] at q
    exact q _ _ F.kb
end
theorem sub_ke_le : isSubtype (.type "KeyError") (.type "LookupError") = pure true := by kernel_rfl

section
variable {prog : Program} {w : World} {A : Around} {E : Value → Shared → Prop} {s : Shared} {env : Env} {M : Model}

theorem tableLookup_keep {d : Addr} {c : Nat} {f : Int → Option Value} {Q : Builtin.Str.Mapped → Shared → Prop} (hm : s.heap.MapOf (intKind prog w) d f) (hv : f (c : Int) = none) (hd : (d == sysModules) = false) (hh : A.handled = none)
    (q : ∀ h' tk, Keep s.heap h' → Q .keep { s with heap := h', toks := tk }) : wpAny (model prog w) A (Builtin.Str.tableLookup (.ref d) c) Q E s := by
  unfold Builtin.Str.tableLookup
  refine wpAny_bind (wpAny_attempt ?_)
  refine wpAny_bind (wpAny_mkInt ?_)
  refine wpAny_getItem_missing_of (k := (c : Int)) (knd := intKind prog w) ?_ hd hh hm hv fun h' e hne => ?_
  · exact decide_eq_true rfl
  · obtain ⟨o, _, ho, hc, _⟩ := hne.there
    refine wpAny_bind (wpAny_isInstance (T := "KeyError") ⟨o, ho, hc⟩ sub_ke_le ?_)
    rw [if_pos rfl]
    refine wpAny_bind (wpAny_rule (wpAny_pure ?_))
    exact q _ _ (.of hne.keeps)

theorem translate_one {d : Addr} {c : Nat} {t : Tok} {f : Int → Option Value} {Q : Value → Shared → Prop} (hc : c = 97 ∨ c = 98) (hm : s.heap.MapOf (intKind prog w) d f) (hv : f (c : Int) = none) (hd : (d == sysModules) = false) (hh : A.handled = none)
    (q : ∀ h' t' tk, Keep s.heap h' → Q (.str (S [c]) t') { s with heap := h', toks := tk }) : wpAny (model prog w) A (call (.builtin "str.translate") [.str (S [c]) t, .ref d]) Q E s := by
  refine wpAny_call_entry PySem.F.slot_str_translate (typeIs_str ..) PySem.F.entry_str_translate ?_ (PySem.F.args_str_translate_2 _ _)
  unfold Builtin.«str.translate»
  have hkeep : ∀ (A : Around) (E : Value → Shared → Prop) (s' : Shared) (Q : Builtin.Str.Mapped → Shared → Prop), A.handled = none → s'.heap = s.heap → (∀ h' tk, Keep s.heap h' → Q .keep { s' with heap := h', toks := tk }) → wpAny (model prog w) A (Builtin.Str.tableLookup (.ref d) c) Q E s' :=
    fun A E s' Q hh e q => by
      refine tableLookup_keep (f := f) (by rw [e]; exact hm) hv hd hh (fun h' tk k => q h' tk (by rw [← e]; exact k))
  refine wpAny_bind (m := Builtin.Str.strOneArg "translate" ⟨[.str (S [c]) t, .ref d], []⟩) (wpAny_pure ?_)
  dsimp only
  have h1 : ((S [c]).length == 0) = false := by rfl
  rw [h1]
  simp only [Bool.false_eq_true, if_false]
  have h2 : ((S [c]).cps.all fun x => decide (x < 128)) = true := by rcases hc with rfl | rfl <;> decide +kernel
  rw [h2]
  have h3 : Builtin.Str.tooLong 0 = false := by decide +kernel
  rw [show (#[c] : Array Nat) = [c].toArray from rfl]
  rw [List.forIn_toArray, List.forIn_cons]
  dsimp only
  rw [h3]
  simp only [Bool.false_eq_true, if_false, if_true, List.lookup]
  refine wpAny_bind (wpAny_bind ?_)
  refine wpAny_bind (hkeep _ _ _ _ hh rfl (fun h' tk k => ?_))
  dsimp only
  refine wpAny_bind (wpAny_pure ?_)
  dsimp only
  refine wpAny_pure ?_
  dsimp only
  rw [List.forIn_nil]
  refine wpAny_pure ?_
  dsimp only
  have h4 : Builtin.Str.tooLong (0 + 1) = false := by decide +kernel
  rw [h4]
  simp only [Bool.false_eq_true, if_false]
  have h5 : ({ cps := List.foldl (fun acc p => acc ++ p.cps) #[] [({ cps := #[c] } : Str)].reverse } : Str) = S [c] := by simp
  rw [h5]
  unfold retStr
  refine wpAny_bind (wpAny_mkStr ?_ ?_)
  · exact wpAny_pure ⟨_, rfl, q _ _ _ k⟩
  · rw [sizeLine_eq]; exact Nat.le_of_ble_eq_true rfl
end
open PySem Builtin
theorem md_get : typeLookup (.type "method_descriptor") "__get__" = pure (some (.builtin "method_descriptor.__get__")) := by rw [typeLookup_type, builtinLookup_eq_fast]; kernel_rfl
theorem md_set : typeLookup (.type "method_descriptor") "__set__" = pure none := by rw [typeLookup_type, builtinLookup_eq_fast]; kernel_rfl
theorem md_del : typeLookup (.type "method_descriptor") "__delete__" = pure none := by rw [typeLookup_type, builtinLookup_eq_fast]; kernel_rfl
theorem slot_md_get : Slot "method_descriptor" "__get__" "method_descriptor.__get__" :=
  .of (owner := "method_descriptor") (n := "__get__") (by rw [typeLookup_type, builtinLookup_eq_fast]; kernel_rfl) (by decide +kernel) (by decide +kernel) (by decide +kernel)
    (by first | exact .inl (by decide +kernel) | exact .inr (by decide +kernel)) (by rw [isSubtype_type]; kernel_rfl)
theorem entry_md_get : entryFor table "method_descriptor.__get__" = some Builtin.«method_descriptor.__get__» := entryFor_of_tree (by kernel_rfl)
theorem args_md_get (a b c : Value) : argsOk "method_descriptor.__get__" ⟨[a, b, c], []⟩ := by unfold argsOk; kernel_rfl
section
variable {prog : Program} {w : World} {A : Around} {E : Value → Shared → Prop} {s : Shared}

noncomputable def bmObj (R : Addr) : Obj := { cls := .type "builtin_function_or_method", data := .fields #[.builtin "list.append", .ref R] }

set_option maxHeartbeats 1000000 in
theorem ga_append {a : Addr} {xs : Array Value} {k : Nat} {u : Tok} {Q : Fin → Shared → Prop} (hx : s.heap.get? a = some { cls := .type "list", dict := none, data := .seq xs k, slots := #[] })
    (q : ∀ tk, Q (.done (.ret (.ref s.heap.objs.size))) { s with heap := s.heap.push (bmObj a), toks := tk }) :
    wpAny (model prog w) A (Builtin.«object.__getattribute__» ⟨[.ref a, .str "append" u], []⟩) Q E s := by
  obtain ⟨hp, g, d, tk, os⟩ := s
  have hT : ∀ tk', (⟨hp, g, d, tk', os⟩ : Shared).TypeIs (.ref a) "list" := fun _ => ⟨_, hx, rfl⟩
  have f1 := PySem.F.slot_list_append.lookup
  have f2 := PySem.F.type_list_append
  have f3 := md_get
  have f4 := md_set
  have f5 := md_del
  unfold Builtin.«object.__getattribute__»
  repeat (any_goals (first | assumption | exact hT _ | ((with_reducible show wpAny _ _ (call (Value.builtin "method_descriptor.__get__") _ _) _ _ _); refine wpAny_call_entry slot_md_get PySem.F.type_list_append entry_md_get ?_ (args_md_get _ _ _); unfold Builtin.«method_descriptor.__get__») | wp_step))
  have f6 : ".".intercalate ("list.append".cutAt '.').dropLast = "list" := by decide +kernel
  rw [f6]
  refine wpAny_of_eq (a := true) PySem.F.sub_list_list ?_
  have hT' : True := trivial
  rw [if_neg (by decide)]
  refine wpAny_pure ?_
  refine wpAny_bind (wpAny_newObj_type ?_)
  refine wpAny_pure ⟨_, rfl, ?_⟩
  exact wpAny_pure (q _)

theorem getAttr_append {a : Addr} {xs : Array Value} {k : Nat} {Q : Value → Shared → Prop} (hx : s.heap.get? a = some { cls := .type "list", dict := none, data := .seq xs k, slots := #[] })
    (q : ∀ D h' tk, (∀ b o, s.heap.get? b = some o → h'.get? b = some o) → s.heap.get? D = none → h'.get? D = some (bmObj a) → Q (.ref D) { s with heap := h', toks := tk }) :
    wpAny (model prog w) A (getAttr (.ref a) "append" true) Q E s := by
  obtain ⟨hp, g, d, tk, os⟩ := s
  have hT : ∀ tk', (⟨hp, g, d, tk', os⟩ : Shared).TypeIs (.ref a) "list" := fun _ => ⟨_, hx, rfl⟩
  have f3 := PySem.F.slot_list_getattribute.lookup
  have f4 := PySem.F.slot_list_getattribute.bind (.ref a)
  have f5 := am_list_getattr_none
  unfold getAttr getAttrBy
  repeat (any_goals (first | assumption | exact hT _ | ((with_reducible show wpAny _ _ (call (Value.builtin "list.__getattribute__") _ _) _ _ _); refine wpAny_call_entry PySem.F.slot_list_getattribute (hT _) am_entry_list_getattribute (ga_append hx fun tk' => ?_) (PySem.F.args_list_getattribute_2 _ _)) | wp_step))
  refine ⟨_, rfl, ?_⟩
  exact wpAny_pure (q _ _ _ (fun _ _ e => Heap.get?_push_of_some _ e) (by
    cases e : hp.get? hp.objs.size with
    | none => rfl
    | some o => exact absurd (Heap.lt_size e) (Nat.lt_irrefl _)) (Heap.get?_push_size _ rfl))
end
open PySem Builtin
section
variable {prog : Program} {w : World} {A : Around} {E : Value → Shared → Prop} {s : Shared} {env : Env}
theorem sub_list_type : isSubtype (.type "list") (.type "type") = pure false := by rw [isSubtype_type]; kernel_rfl
theorem sub_list_module : isSubtype (.type "list") (.type "module") = pure false := by rw [isSubtype_type]; kernel_rfl
set_option maxHeartbeats 1000000 in
theorem call_bm {D R : Addr} {x : Value} {l : List Value} {Q : Value → Shared → Prop} (hD : s.heap.get? D = some (bmObj R)) (hl : s.heap.PlainList R l.toArray) (hsz : l.length ≤ sizeLine)
    (q : ∀ h', h'.PlainList R (l ++ [x]).toArray → Heap.SameBut R s.heap h' → Q .none { s with heap := h' }) : wpAny (model prog w) A (call (.ref D) [x]) Q E s := by
  refine wpAny_call ?_
  refine codeAny_of_tree ?_
  show wpAny _ A.in1 (callAny (.ref D) ⟨[x], []⟩) _ _ s
  unfold callAny
  refine wpAny_bind (wpAny_load hD ?_)
  have hT := hl.isList.typeIs
  obtain ⟨n, hR⟩ := id hl
  have f1 := sub_list_module
  have k1 : builtinKind "list.append" = some .method := by decide +kernel
  have k2 : (Manifest.varargsMethods.contains "list.append") = false := by decide +kernel
  show wpAny _ A.in1 (do checkBoundCall "list.append" ⟨[.ref R, x], []⟩; again (Code.builtin "list.append" ⟨[.ref R, x], []⟩)) _ _ s
  refine wpAny_bind ?_
  unfold checkBoundCall
  have hs : Manifest.signature? "list.append" = some ⟨.oneArg, "list.append", "append", .self, [⟨"object", .posOnly, true⟩]⟩ := by
    rw [signature?_of (id := "list.append") (n := ['d', 'n', 'e', 'p', 'p', 'a']) (o := ['t', 's', 'i', 'l']) (by kernel_rfl) PySem.F.owner_list]; kernel_rfl
  rw [hs, k1]
  dsimp only
  have k3 : ((Manifest.AttrKind.method != Manifest.AttrKind.method && Manifest.AttrKind.method != Manifest.AttrKind.classMethod)) = false := by decide
  rw [k3]
  simp only [Bool.false_eq_true, if_false]
  refine wpAny_bind (wpAny_isInstance hT f1 ?_)
  rw [k2]
  simp only [Bool.false_or, Bool.false_eq_true, if_false]
  refine wpAny_bind (m := isType (.ref R)) (wpAny_bind (m := loadHead R) (wpAny_loadPart hR (wpAny_pure ?_)))
  simp only [Bool.false_eq_true, if_false]
  refine wpAny_bind (wpAny_typeOf hT ?_)
  dsimp only
  refine wpAny_of_eq (a := ()) (by kernel_rfl) ?_
  refine wpAny_pure ⟨plainId_quiet PySem.F.slot_list_append.plain _, ?_⟩
  refine codeAny_builtin PySem.F.entry_list_append ?_
  show wpAny _ _ (updateSeq R (·.push x) >>= fun _ => ret .none) _ _ s
  refine wpAny_bind ?_
  refine wpAny_updateSeq hR rfl (wpAny_pure ?_) (hz := by rw [List.size_toArray]; exact hsz)
  have h1 : (s.heap.update R (Obj.mapSeq (·.push x))).PlainList R (l ++ [x]).toArray := by
    have := IsL.update (n := n) hR (·.push x)
    have e : l.toArray.push x = (l ++ [x]).toArray := by simp
    rw [e] at this
    exact ⟨_, this⟩
  exact q _ h1 (Heap.SameBut.update ..)
theorem callWith_bm {M : Model} {pos : Pos} {D R : Addr} {e : Expr} {rest : List Expr} {Q : Value → Shared → Prop}
    (h : wpAny M A (spliced (backTo pos (starEach (e :: rest) env))) (fun vs s₁ => s₁.heap.get? D = some (bmObj R) ∧ wpAny M A (call (.ref D) vs) Q E s₁) E s)
    (he : starEach (e :: rest) env = (false, eval e env) :: starEach rest env) (hplain : (backTo pos (starEach rest env)).any (·.1) = false) :
    wpAny M A (callWith pos (.ref D) [] (backTo pos (starEach (e :: rest) env)) []) Q E s := by
  rw [he] at h ⊢
  unfold callWith
  refine wpAny_bind (wpAny_holding (PySem.Calls.evalArgs_plain (wpAny_mono h (fun vs s₁ h₁ => wpAny_bind (wpAny_standAt ?_)) fun _ _ x => x)))
  obtain ⟨hD, hc⟩ := h₁
  have hst : ((backTo pos ((false, eval e env) :: starEach rest env)).any (·.1) || ([] : List (Option Str × Sem Value)).any (·.1.isNone)) = false := by
    show ((false || (backTo pos (starEach rest env)).any (·.1)) || false) = false
    rw [hplain]; rfl
  rw [hst]
  have hk : ∀ Q : Keeper → Shared → Prop, Q .machine s₁ → wpAny M A (keeperOf (.ref D)) Q E s₁ := fun Q q => by
    unfold keeperOf
    refine wpAny_bind (wpAny_load hD ?_)
    show wpAny M A (if _ then _ else _) _ _ _
    rw [if_pos (by rfl)]
    exact wpAny_pure q
  refine wpAny_bind (m := keeperOf (.ref D)) (hk _ ?_)
  show wpAny M A (call (.ref D) ([] ++ vs) [] >>= fun r => holding [r] point >>= fun _ => pure r) Q E s₁
  exact wpAny_bind (wpAny_mono hc (fun r s₂ hr => wpAny_bind (wpAny_holding (wpAny_point (wpAny_pure hr)))) fun _ _ x => x)
end
open PySem Builtin Builtin.Re
theorem pa_re : PlainAttrs "re.Pattern" :=
  ⟨⟨"object.__getattribute__", by rw [typeLookup_type, builtinLookup_eq_fast]; kernel_rfl, by decide +kernel⟩, by rw [typeLookup_type, builtinLookup_eq_fast]; kernel_rfl⟩
theorem slot_sub : Slot "re.Pattern" "sub" "re.Pattern.sub" :=
  .of (owner := "re.Pattern") (n := "sub") (by rw [typeLookup_type, builtinLookup_eq_fast]; kernel_rfl) (by decide +kernel) (by decide +kernel) (by decide +kernel)
    (by first | exact .inl (by decide +kernel) | exact .inr (by decide +kernel)) (by rw [isSubtype_type]; kernel_rfl)
theorem type_sub : typeOf (.builtin "re.Pattern.sub") = pure (.type "method_descriptor") := by show builtinType _ = _; rw [builtinType_eq_fast]; kernel_rfl
theorem entry_sub : entryFor table "re.Pattern.sub" = some Builtin.«re.Pattern.sub» := entryFor_of_tree (by kernel_rfl)
theorem entry_loop : entryFor table "re.Pattern.sub.loop" = some Builtin.«re.Pattern.sub.loop» := entryFor_of_tree (by kernel_rfl)
theorem args_sub (a b c : Value) : argsOk "re.Pattern.sub" ⟨[a, b, c], []⟩ := by unfold argsOk; kernel_rfl
theorem fn_call : typeLookup (.type "function") "__call__" = pure (some (.builtin "function.__call__")) := by rw [typeLookup_type, builtinLookup_eq_fast]; kernel_rfl
theorem sub_str_ba : isSubtype (.type "str") (.type "bytearray") = pure false := by rw [isSubtype_type]; kernel_rfl
theorem plain_loop : plainId "re.Pattern.sub.loop" = true := by decide +kernel

noncomputable def codeA : Array Nat := #[14, 14, 4, 1, 1, 9, 0, 64, 0, 1342177280, 0, 0, 0, 0, 0, 17, 0, 13, 11, 9, 0, 64, 0, 1342177280, 0, 0, 0, 0, 0, 17, 1, 1]
noncomputable def drv : Nat → Sre.M → Option Sre.M
  | 0, _ => none
  | k + 1, m => if (m.runFor reTurnSteps).outcome.isSome then some (m.runFor reTurnSteps) else drv k (m.runFor reTurnSteps)
theorem none_91 : (drv 40 (Sre.forSearch codeA #[91] 1 0 1 false)).map (fun m => m.outcome.map fun | .failed => true | _ => false) = some (some true) := by decide +kernel
theorem none_42 : (drv 40 (Sre.forSearch codeA #[42] 1 0 1 false)).map (fun m => m.outcome.map fun | .failed => true | _ => false) = some (some true) := by decide +kernel

section
variable {prog : Program} {w : World} {A : Around} {E : Value → Shared → Prop} {s : Shared} {M : Model}
theorem drive : ∀ (k n : Nat) (m m' : Sre.M) (Q : Sre.M → Shared → Prop), drv k m = some m' → k ≤ n → Q m' s → wpAny M A (reDrive n m) Q E s
  | 0, _, _, _, _, h, _, _ => by cases h
  | k + 1, 0, _, _, _, _, h, _ => by omega
  | k + 1, n + 1, m, m', Q, h, hn, q => by
    unfold drv at h
    unfold reDrive
    dsimp only
    cases ho : (m.runFor reTurnSteps).outcome.isSome
    · rw [ho] at h
      simp only [Bool.false_eq_true, if_false] at h ⊢
      exact wpAny_bind (wpAny_rule (drive k n _ m' Q h (by omega) q))
    · rw [ho] at h
      simp only [if_true] at h ⊢
      cases h
      exact wpAny_pure q
theorem rules : ∀ (l : List Nat) (c : Nat → Bool) (f : Nat → String) (Q : Unit → Shared → Prop), Q () s → wpAny M A (forIn l PUnit.unit fun i _ => if c i = true then (do rule (f i); pure (ForInStep.yield PUnit.unit)) else pure (ForInStep.yield PUnit.unit)) Q E s
  | [], _, _, Q, q => by rw [List.forIn_nil]; exact wpAny_pure q
  | i :: l, c, f, Q, q => by
    rw [List.forIn_cons]
    refine wpAny_bind ?_
    cases c i
    · simp only [Bool.false_eq_true, if_false]
      exact wpAny_pure (rules l c f Q q)
    · simp only [if_true]
      exact wpAny_bind (wpAny_rule (wpAny_pure (rules l c f Q q)))
theorem run_none {m : Sre.M} {k : Nat} (h : (drv k m).map (fun m => m.outcome.map fun | .failed => true | _ => false) = some (some true)) (hk : k ≤ 1000) {Q : Option Sre.M → Shared → Prop} (q : Q none s) : wpAny M A (reRunToEnd m) Q E s := by
  obtain ⟨m', hm, ho⟩ : ∃ m', drv k m = some m' ∧ m'.outcome = some .failed := by
    cases hm : drv k m with
    | none => rw [hm] at h; cases h
    | some m' =>
      refine ⟨m', rfl, ?_⟩
      rw [hm] at h
      simp only [Option.map_some, Option.some.injEq] at h
      cases ho : m'.outcome with
      | none => rw [ho] at h; cases h
      | some o =>
        rw [ho] at h
        cases o <;> first | rfl | (simp at h)
  unfold reRunToEnd
  refine wpAny_bind (drive k (2 ^ 64) m m' _ hm (by omega) ?_)
  refine wpAny_bind (rules _ _ _ _ ?_)
  rw [ho]
  exact wpAny_pure q

structure RePat (h : Heap) (p : Addr) : Prop where
  ex : ∃ vs q n, h.get? p = some { cls := .type "re.Pattern", data := .fields vs } ∧ reRawNat (vs.getD 2 .none) = 1 ∧ vs.getD 5 .none = .ref q ∧ reRawNat (vs.getD 6 .none) = 0 ∧
    ∃ items, h.get? q = some { cls := .type "tuple", data := .seq items n } ∧ (items.map reRawOf).map (·.toNat) = codeA

theorem RePat.kp {h h' : Heap} {p : Addr} (x : RePat h p) (k : ∀ b o, h.get? b = some o → h'.get? b = some o) : RePat h' p := by
  obtain ⟨vs, qa, n, hp, h2, h5, h6, items, hq, hc⟩ := x.ex
  exact ⟨vs, qa, n, k _ _ hp, h2, h5, h6, items, k _ _ hq, hc⟩
theorem whole {p : Addr} {c : Nat} {t : Tok} (X : RePat s.heap p) {Q : ReTarget → Shared → Prop} (q : Q { pattern := .ref p, string := .str ⟨#[c]⟩ t, code := codeA, text := #[c], kind := 0, groups := 1, pos := 0, lim := 1 } s) :
    wpAny M A (reWholeTarget (.ref p) (.str ⟨#[c]⟩ t)) Q E s := by
  obtain ⟨vs, qa, n, hp, h2, h5, h6, items, hq, hc⟩ := X.ex
  obtain ⟨hp', g, d, tk, os⟩ := s
  unfold reWholeTarget
  repeat (any_goals (first | assumption | wp_step))
  rw [h6, h5, h2, if_neg (by decide)]
  dsimp only
  refine wpAny_bind (m := reNoCollectionInside _ 0) (wpAny_pure ?_)
  have hT : (⟨hp', g, d, tk, os⟩ : Shared).TypeIs (.ref qa) "tuple" := ⟨_, hq, rfl⟩
  unfold reRawItems
  repeat (any_goals (first | assumption | exact hT | wp_step))
  have hc' : Array.map (fun x => x.toNat) (Array.map reRawOf ((some items).getD #[])) = codeA := hc
  rw [hc']
  exact q

set_option maxHeartbeats 2000000 in
theorem re_sub {p L : Addr} {c : Nat} {t : Tok} {oL : Obj} {Q : Value → Shared → Prop} (hc : c = 91 ∨ c = 42) (X : RePat s.heap p) (hL : s.heap.get? L = some oL) (hLc : oL.cls = .type "function")
    (q : ∀ h' t' tk, (∀ b o, s.heap.get? b = some o → h'.get? b = some o) → Q (.str ⟨#[c]⟩ t') { s with heap := h', toks := tk }) :
    wpAny (model prog w) A (call (.builtin "re.Pattern.sub") [.ref p, .ref L, .str ⟨#[c]⟩ t]) Q E s := by
  have hT : s.TypeIs (.ref p) "re.Pattern" := by obtain ⟨vs, qa, n, hp, _⟩ := X.ex; exact ⟨_, hp, rfl⟩
  refine wpAny_call (codeAny_call_builtin slot_sub.plain entry_sub (slot_sub.check _ _ _ _ _ _ _ _ hT (args_sub _ _ _) ?_))
  unfold Builtin.«re.Pattern.sub» reSubstitute
  have hTL : s.TypeIs (.ref L) "function" := ⟨oL, hL, hLc⟩
  refine wpAny_bind (m := reNamed _ _ _ _ _ _) (wpAny_of_eq (a := [some (.ref L), some (.str ⟨#[c]⟩ t), none]) (by first | rfl | kernel_rfl) ?_)
  dsimp only
  refine wpAny_bind (wpAny_pure ?_)
  refine wpAny_bind (wpAny_specialOf hTL fn_call ?_)
  simp only [Option.isSome_some, if_true]
  refine wpAny_bind (wpAny_pure ?_)
  refine wpAny_bind (wpAny_pure ?_)
  dsimp only
  refine wpAny_bind (wpAny_holding (whole X ?_))
  simp only [beq_self_eq_true, if_true]
  refine wpAny_bind (m := reNotHeld _ _) (wpAny_bind (wpAny_isInstance (T := "str") (typeIs_str _ _ _) sub_str_ba ?_))
  simp only [Bool.false_eq_true, if_false]
  refine wpAny_pure ?_
  refine wpAny_bind (wpAny_newObj_type ?_)
  refine wpAny_pure ⟨plainId_quiet plain_loop _, ?_⟩
  refine codeAny_builtin entry_loop ?_
  unfold Builtin.«re.Pattern.sub.loop»
  simp only [rawInt]
  refine wpAny_bind (whole (X.kp fun _ _ e => Heap.get?_push_of_some _ e) ?_)
  have w1 : ((1 : Int) == 0) = false := rfl
  simp only [w1, Bool.false_eq_true, if_false]
  have w2 : ((0 : Int) != 0) = false := rfl
  simp only [w2, Bool.false_and, Bool.false_eq_true, if_false]
  unfold reNextFound
  dsimp only
  refine wpAny_bind (run_none (k := 40) ?_ (by decide) ?_)
  · rcases hc with rfl | rfl
    · exact none_91
    · exact none_42
  dsimp only
  rw [if_pos (by decide)]
  have r1 : reSlice #[c] 0 (Int.toNat 0) 1 = mkStr ⟨#[c]⟩ := rfl
  have r2 : reSlice #[c] 0 0 0 = mkStr ⟨#[]⟩ := rfl
  rw [r1, r2]
  refine wpAny_bind (wpAny_mkStr ?_ ?_)
  rotate_left
  · rw [sizeLine_eq]; exact Nat.le_of_ble_eq_true rfl
  have hD : (s.heap.push { cls := .type "list", data := .seq ([] : List Value).toArray }).get? s.heap.objs.size = some { cls := .type "list", data := .seq ([] : List Value).toArray } := Heap.get?_push_size _ rfl
  refine wpAny_bind (wpAny_updateSeq hD rfl ?_)
  have hD2 := IsL.update (n := 0) hD (fun x => x.push (.str ⟨#[c]⟩ s.toks))
  have k2 : ∀ b o, s.heap.get? b = some o → ((s.heap.push { cls := .type "list", data := .seq ([] : List Value).toArray }).update s.heap.objs.size (Obj.mapSeq fun x => x.push (.str ⟨#[c]⟩ s.toks))).get? b = some o := fun b o e =>
    (Heap.get?_update_other _ _ (Nat.ne_of_gt (Heap.lt_size e))).trans (Heap.get?_push_of_some _ e)
  generalize (s.heap.push { cls := .type "list", data := .seq ([] : List Value).toArray }).update s.heap.objs.size (Obj.mapSeq fun x => x.push (.str ⟨#[c]⟩ s.toks)) = h2 at hD2 k2 ⊢
  refine wpAny_bind (wpAny_mkStr ?_ ?_)
  rotate_left
  · rw [sizeLine_eq]; exact Nat.le_of_ble_eq_true rfl
  dsimp only
  refine wpAny_bind (m := seqItems? (.ref s.heap.objs.size)) (wpAny_bind (wpAny_load hD2 (wpAny_pure ?_)))
  have e1 : ((some ((fun x => Array.push x (Value.str ⟨#[c]⟩ s.toks)) ([] : List Value).toArray)).getD #[]).isEmpty = false := rfl
  rw [if_neg (by rw [e1]; exact Bool.false_ne_true)]
  refine wpAny_bind ?_
  have hi : PyProof.Rows.StrsAre ((fun x => Array.push x (Value.str ⟨#[c]⟩ s.toks)) ([] : List Value).toArray).toList [⟨#[c]⟩] := .cons _ _ .nil
  refine PyProof.Rows.join_list (x := ⟨#[]⟩) (IsL.isList hD2) hi ?_ (fun t' k => ?_)
  · show 1 + 0 + 1 * 0 ≤ 16777216
    omega
  · have ej : Txt.join (⟨#[]⟩ : Str) [⟨#[c]⟩] = ⟨#[c]⟩ := by
      rw [show Txt.join (⟨#[]⟩ : Str) [(⟨#[c]⟩ : Str)] = Str.join (⟨#[]⟩ : Str) [⟨#[c]⟩] from beq_iff_eq.mp (PyProof.Rows.join_plain_closes _ _)]
      rfl
    rw [ej]
    exact wpAny_pure (q _ _ _ k2)
end
structure Bt (mg mb : Str → Option Value) (h : Heap) : Prop extends Bs mg mb h where
  tr : ∃ f o pm doc c, mg "_translate" = some (.ref f) ∧ h.get? f = some o ∧ o.data = .func (Calls.docDef r12.name r12.params r12.body r12.scope pm (.ref c) doc) ∧ h.CodeRec (.ref c) r12.name ∧ CodeHd h c tabP
  tab : h.get? tabP = some tab0
  bat : h.BuiltinsAt mg tabP
  twin : ∃ p, mg "_twin_re_1" = some (.ref p) ∧ RePat h p
  map : ∃ d, mg "_special_chars_map" = some (.ref d) ∧ d ≠ sysModules ∧ ∀ prog w, ∃ f, h.MapOf (intKind prog w) d f ∧ f 97 = none ∧ f 98 = none
theorem kHd {h h' : Heap} {c P : Addr} (x : CodeHd h c P) (k : Keep h h') : CodeHd h' c P := by
  obtain ⟨o, vs, file, tf, flags, tg, inF, text, tt, e1, e2, r⟩ := x
  exact ⟨o, vs, file, tf, flags, tg, inF, text, tt, k.get e1 (ne_typ e2), e2, r⟩
theorem kBat {h h' : Heap} {mg : Str → Option Value} {P : Addr} (x : h.BuiltinsAt mg P) (k : Keep h h') : h'.BuiltinsAt mg P := by
  obtain ⟨bm, o, h1, h2, h3, h4, h5, h6, r⟩ := x
  exact ⟨bm, o, h1, h2, h3, h4, k.get h5 (ne_typ h6), h6, r⟩

section
variable {prog : Program} {w : World} {A : Around} {E : Value → Shared → Prop} {s : Shared} {env : Env} {M : Model} {mg mb : Str → Option Value} {hb : Heap}

theorem lam_eval {params : Arguments} {body : Expr} {scope : Scope} {pos : Pos} {c : Addr} {Q : Value → Shared → Prop} (B : Bt mg mb hb) (k : Keep hb s.heap) (hcode : env.code = .ref c) (C : CodeHd hb c tabP) (hgl : env.globals = mainGlobals)
    (hcl : closureFor scope env = pure []) (hd : params.defaults = []) (hk0 : params.kw_defaults = []) (hl : pos.line = 106) (hc : pos.col = 39)
    (q : ∀ D h' tk o, Keep s.heap h' → New s.heap D → h'.get? D = some o → o.cls = .type "function" → Q (.ref D) { s with heap := h', toks := tk }) :
    wpAny M A (eval (.Lambda params body scope pos) env) Q E s := by
  rw [arm_eval_Lambda, defaultsOf_eq, hk0, hd]
  show wpAny M A (do let dv ← evalAll (evalEach [] env); let kdv ← holding dv (evalAllOpt []); makeFunction "<lambda>" (env.qual ++ "<lambda>") params (.expr body) scope env dv kdv [] pos pos.line) Q E s
  refine wpAny_bind (kdv_all0 (wpAny_bind (wpAny_holding (wpAny_pure ?_))))
  rw [makeFunction_eq]
  simp only [List.zip_nil_right, List.filterMap_nil, List.isEmpty_nil, if_true, pure_bind]
  have C' := kHd C k
  have hg' := kNs B.g k
  have hb' := kBat B.bat k
  rcases k _ _ B.tab with ht | ⟨_, _, c', ht⟩
  · refine kdv_makeTail hcl hgl hg' hcode C' (ps := #[]) ht ?_ ?_ (by decide) hb' (fun c' ctv doc h' tk hx hge hlt hrec ht' => ?_)
    · trivial
    · rfl
    · refine q _ _ _ _ ?_ ?_ (Heap.get?_push_size _ rfl) rfl
      · refine Keep.trans (b := h') (fun b o e => ?_) (Keep.push _ _)
        by_cases hbP : b = tabP
        · subst hbP
          rw [show s.heap.get? tabP = some tab0 from ht] at e; cases e
          refine .inr ⟨rfl, rfl, c', ?_⟩
          rw [ht']
          rw [hl, hc]
          rfl
        · exact .inl (hx b o hbP e)
      · exact New.of_size (Nat.le_of_lt (Nat.lt_of_le_of_lt hge hlt))
  · refine kdv_makeTailHit hcl hgl hg' hcode C' (ps := #[rawInt 106, rawInt 39, .ref c']) (cv := .ref c') ht trivial ?_ hb' (fun ctv doc h' tk hx hge => ?_)
    · obtain ⟨l, cc, el, ec⟩ := pos
      dsimp only at hl hc
      subst hl hc
      rfl
    · exact q _ _ _ _ (Keep.trans (.of hx) (Keep.push _ _)) (New.of_size hge) (Heap.get?_push_size _ rfl) rfl
end
section
variable {prog : Program} {w : World} {A : Around} {E : Value → Shared → Prop} {s : Shared} {env : Env} {M : Model} {mg mb : Str → Option Value} {hb : Heap}

theorem kMap {h h' : Heap} {a : Addr} {f : Int → Option Value} (x : h.MapOf (intKind prog w) a f) (k : Keep h h') : h'.MapOf (intKind prog w) a f := by
  obtain ⟨o, es, ep, ho, hx, hd, r⟩ := x
  exact ⟨o, es, ep, k.get ho (ne_dat hd fun h => by cases h), hx, hd, r⟩
set_option maxHeartbeats 0 in
theorem esc_call {f : Addr} {c : Nat} {t : Tok} {Q : Value → Shared → Prop} (B : Bt mg mb hb) (k : Keep hb s.heap) (fn : FnAt hb f r10) (rm : Rm A 1) (hc : c = 97 ∨ c = 98)
    (q : ∀ h' t' tk, Keep s.heap h' → Q (.str (S [c]) t') { s with heap := h', toks := tk }) :
    wpAny (model prog w) A (call (.ref f) [.str (S [c]) t]) Q E s := by
  refine enter (n := 0) (binds := [("pattern", .str (S [c]) t)]) [("pattern", some (.str (S [c]) t))] [] [] rm k fn B.lim (fun _ _ _ => rfl) fun h₁ tk cd F rm' => ?_
  generalize hA : A.deeper _ = A' at rm'
  obtain ⟨d, hd, hds, hm⟩ := B.map
  obtain ⟨f', hm', h97, h98⟩ := hm prog w
  have lisi := ld_builtin (M := model prog w) (env := envOfC r10.name r10.scope s.heap.objs.size f cd) B.g B.b B.bisi.1 B.bisi.2
  have lstr := ld_builtin (M := model prog w) (env := envOfC r10.name r10.scope s.heap.objs.size f cd) B.g B.b B.bstr.1 B.bstr.2
  have lmap := ld_global (M := model prog w) (env := envOfC r10.name r10.scope s.heap.objs.size f cd) B.g hd
  repeat walk_at "ev"
  refine PySem.IsiPair.str_str ?_
  repeat walk_at "ev"
  rw [if_pos rfl]
  repeat walk_at "ev"
  refine getMethod_builtin (typeIs_str _ _ _) PySem.F.plainAttrs_str PySem.F.slot_str_translate PySem.F.type_str_translate (fun a e => by cases e) ?_
  repeat walk_at "ev"
  show wpAny _ _ (call (.builtin "str.translate") [.str (S [c]) t, .ref d]) _ _ _
  have kk : Keep hb h₁ := k.trans F.kb
  refine translate_one hc (kMap hm' kk) (by rcases hc with rfl | rfl; exact h97; exact h98) (by simpa using hds) rm'.hd (fun h' t' tk' k' => ?_)
  exact q _ _ _ (F.kb.trans k')
end
section
variable {prog : Program} {w : World} {A : Around} {E : Value → Shared → Prop} {s : Shared}
theorem enterC {cd : Value} {f : Addr} {r : FnRec} {args : List Value} {binds : List (Str × Value)} {n : Nat} {Q : Value → Shared → Prop} {hb : Heap}
    (vs : List (Str × Option Value)) (cs : List (Str × Addr × Option Value)) (offs : List Nat)
    (rm : Rm A (n + 1)) (k : Keep hb s.heap) (fn : ∃ o pm doc, hb.get? f = some o ∧ o.data = .func (Calls.docDef r.name r.params r.body r.scope pm cd doc) ∧ hb.CodeRec cd r.name) (hlim : hb.NoLimit)
    (hbind : ∀ pm cd doc, bindArgs (Calls.docDef r.name r.params r.body r.scope pm cd doc) ⟨args, []⟩ = pure binds)
    (h : ∀ h₁ tk, Fm s.heap s.heap s.heap h₁ s.heap.objs.size vs cs [] → Rm (A.deeper (envOfC r.name r.scope s.heap.objs.size f cd)) n →
      wpAny (model prog w) (A.deeper (envOfC r.name r.scope s.heap.objs.size f cd)) (execs r.body (envOfC r.name r.scope s.heap.objs.size f cd))
        (fun fl s' => Q (match fl with | .ret v => v | _ => .none) s') (fun _ _ => False) { s with heap := h₁, toks := tk })
    (hkind : ((binds.map (·.1)).all fun x => r.scope.names.lookup x == some .local || (r.scope.names.lookup x == some .cell && ((cellsFrom (s.heap.objs.size + 1) r.scope.names []).lookup x).isSome)) = true := by rfl)
    (hvs : vs.map (fun p => bindL (fun y => r.scope.names.lookup y) binds (fun _ => none) p.1) = vs.map (·.2) := by rfl)
    (hnv : nodupB (vs.map (·.1)) = true := by rfl)
    (hcs : cs.map (fun p => ((cellsFrom (s.heap.objs.size + 1) r.scope.names []).lookup p.1, bindC (fun y => r.scope.names.lookup y) binds (fun _ => none) p.1)) = cs.map (fun p => (some p.2.1, p.2.2)) := by rfl)
    (hoff : cs.map (·.2.1) = offs.map (fun k => s.heap.objs.size + k) := by rfl)
    (hno : (0 :: offs).Nodup := by decide)
    (hco : r.scope.isCoroutine = false := by rfl) (hgen : r.scope.isGenerator = false := by rfl) (hk : r.scope.kind = .function := by rfl) :
    wpAny (model prog w) A (call (.ref f) args) Q E s := by
  obtain ⟨o, pm, doc, h1, h2, h3⟩ := fn
  refine wpAny_call (call_cells_ret rm.room (k.get h1 (ne_dat h2 fun h => by cases h)) h2 (kLimit hlim k) (kCode h3 k) (hbind pm cd doc) (fun x hx => ?_) (fun h₁ tk F X => ?_) hco hgen hk)
  · have := List.all_eq_true.mp hkind x.1 (List.mem_map_of_mem (f := (·.1)) hx)
    rw [Bool.or_eq_true, Bool.and_eq_true, beq_iff_eq, beq_iff_eq] at this
    exact this
  have hkd : (envOfC r.name r.scope s.heap.objs.size f cd).kindOf = (fun y => r.scope.names.lookup y) := rfl
  rw [hkd] at F X
  have hcs' : ∀ x c v, (x, c, v) ∈ cs → (cellsFrom (s.heap.objs.size + 1) r.scope.names []).lookup x = some c ∧ bindC (fun y => r.scope.names.lookup y) binds (fun _ => none) x = v := fun x c v m => by
    have := map_at hcs (x, c, v) m
    exact ⟨(Prod.mk.inj this).1, (Prod.mk.inj this).2⟩
  refine h h₁ tk ?_ rm.deeper
  exact {
    loc := ⟨_, F.ns, fun x v a => map_at hvs (x, some v) a.mem⟩
    nv := nodup_of hnv
    cel := fun x c v m => by
      obtain ⟨e1, e2⟩ := hcs' x c v m
      exact e2 ▸ X.cell x c e1
    mls := fun p m => by cases m
    kb := .of F.keep
    ob := fun a ha => by
      have hle : s.heap.objs.size ≤ a := by
        rcases List.mem_cons.mp ha with rfl | ha
        · exact Nat.le_refl _
        · rw [List.map_nil, List.append_nil] at ha
          obtain ⟨⟨x, c, v⟩, hm, rfl⟩ := List.mem_map.mp ha
          obtain ⟨e1, _⟩ := hcs' x c v hm
          exact Nat.le_of_lt (X.above x c (mem_of_lookup e1))
      cases e : s.heap.get? a with
      | none => rfl
      | some o' => exact absurd (Heap.lt_size e) (Nat.not_lt.mpr hle)
    k0 := fun a o _ e => .inl (F.keep a o e)
    kz := fun a o _ e _ => F.keep a o e
    nd := by
      show (s.heap.objs.size :: (cs.map (·.2.1) ++ [])).Nodup
      rw [List.append_nil, hoff]
      have : (s.heap.objs.size :: offs.map (fun k => s.heap.objs.size + k)) = (0 :: offs).map (fun k => s.heap.objs.size + k) := rfl
      rw [this]
      exact List.Pairwise.map _ (fun a b hab e => hab (Nat.add_left_cancel e)) hno }

end

theorem flat_take_succ (row : List Nat) (j t : Nat) (h : row[j]? = some t) : (row.take (j + 1)).flatMap patT = (row.take j).flatMap patT ++ patT t := by
  rw [List.take_add_one, h, List.flatMap_append]; simp
theorem flat_split (row : List Nat) (j t : Nat) (h : row[j]? = some t) : row.flatMap patT = (row.take j).flatMap patT ++ (patT t ++ (row.drop (j + 1)).flatMap patT) := by
  have hj := (List.getElem?_eq_some_iff.mp h).1
  have e : row.drop j = t :: row.drop (j + 1) := by rw [← List.getElem_cons_drop hj, (List.getElem?_eq_some_iff.mp h).2]
  have e2 : row.flatMap patT = (row.take j ++ row.drop j).flatMap patT := by rw [List.take_append_drop]
  rw [e2, List.flatMap_append, e, List.flatMap_cons]
theorem lsz {l : List Value} (h : l.length ≤ 4) : l.length ≤ sizeLine := by rw [sizeLine_eq]; omega
theorem cut_run {α : Type} (l : List α) (a b : Nat) (h : b ≤ l.length) : cutL l (some (a : Int)) (some (b : Int)) = (l.drop a).take (b - a) := by
  unfold cutL lowAt highAt
  simp only [Option.elim, clipAt_nat]
  rw [Nat.min_eq_left h]
  rcases Nat.le_total a l.length with h' | h'
  · rw [Nat.min_eq_left h']
  · rw [Nat.min_eq_right h', List.drop_eq_nil_of_le h', List.drop_length]; simp
theorem kRe {h h' : Heap} {p : Addr} (x : RePat h p) (k : Keep h h') : RePat h' p := by
  obtain ⟨vs, qa, n, hp, h2, h5, h6, items, hq, hc⟩ := x.ex
  exact ⟨vs, qa, n, k.get hp (ne_typ (T := "re.Pattern") rfl), h2, h5, h6, items, k.get hq (ne_typ (T := "tuple") rfl), hc⟩
section
variable {prog : Program} {w : World} {A : Around} {E : Value → Shared → Prop} {s : Shared}
theorem replace_no {x y z : Str} {t u v : Tok} {Q : Value → Shared → Prop} (hno : (Builtin.Str.occurrences x y 0 x.length (x.length + 1)).isEmpty = true) (q : ∀ t' k, Q (.str x t') { s with toks := k }) :
    wpAny (model prog w) A (call (.builtin "str.replace") [.str x t, .str y u, .str z v]) Q E s := by
  refine call_gives PySem.F.slot_str_replace (typeIs_str _ _ _) PySem.F.entry_str_replace (PySem.F.args_str_replace_3 _ _ _) (gives_str_replace x y z t u v fun h => ?_) ?_
  · rw [hno] at h; cases h
  · rw [hno]
    exact q _ _
end
section
variable {prog : Program} {w : World} {A : Around} {E : Value → Shared → Prop} {s : Shared}
theorem inTup {T : Addr} {x y z : Str} {u v v' : Tok} {n : Nat} {Q : Value → Shared → Prop} (rm : Rm A n) (hT : s.heap.get? T = some { cls := .type "tuple", data := .seq [Value.str y v, .str z v'].toArray }) (hx : PyData.strOk x = true) (hy : PyData.strOk y = true) (hz : PyData.strOk z = true)
    (q : Q (.bool (y == x || z == x)) s) : wpAny (model prog w) A (compareOp .In (.str x u) (.ref T)) Q E s := by
  have rT : Rep Any s.heap (.ref T) (.tuple [.str y, .str z]) := .tuple trivial hT rfl rfl (.cons (.str _ _) (.cons (.str _ _) .nil))
  obtain ⟨as, ra⟩ := rT.reads
  obtain ⟨bs, rb⟩ := (Rep.str (P := Any) (h := s.heap) x u).reads
  have hd : (PyData.str x).depth = 0 := by unfold PyData.depth; rfl
  refine SeqAt.in_tuple_reads ra rb (by simp [PyData.canLayAll0, PyData.canLay0, hy, hz]) (by simp [PyData.canLay0, hx]) ?_ ?_
  · rw [hd]; have := rm.units; omega
  simpa [PyData.eqv] using q
theorem fstr3 {e : Expr} {k₁ k₂ : Nat} {p1 p2 p3 p4 : Pos} {env : Env} {Q : Value → Shared → Prop}
    (h : wpAny (model prog w) A (eval e env) (fun v s₁ => ∃ (xs : List Nat) (t : Tok), v = .str (S xs) t ∧ xs.length ≤ 10 ∧ ∀ t' tk, Q (.str (S ([91] ++ xs ++ [93])) t') { s₁ with toks := tk }) E { s with toks := s.toks + 1 }) :
    wpAny (model prog w) A (eval (.JoinedStr [.Constant (.str "[") k₁ p1, .FormattedValue e (-1) none p2, .Constant (.str "]") k₂ p3] p4) env) Q E s := by
  refine JoinedStr_many (joinParts_cons (wpAny_Constant_str ?_))
  dsimp only
  have e1 : (Str.empty ++ Str.ofString "[" : Str) = S [91] := by decide +kernel
  rw [e1]
  refine ⟨by show [91].toArray.size ≤ sizeLine; rw [sizeLine_eq]; exact Nat.le_of_ble_eq_true rfl, joinParts_cons (FormattedValue_plain (wpAny_mono h (fun v s₁ h₁ => ?_) fun _ _ e => e))⟩
  obtain ⟨xs, t, rfl, hxs, hq⟩ := h₁
  have hs : (S xs).length = xs.length := by show xs.toArray.size = _; simp
  refine formatField_str (fun t' tk => ?_) (by rw [hs, sizeLine_eq]; omega)
  dsimp only
  rw [S_append]
  refine ⟨?_, joinParts_cons (wpAny_Constant_str ?_)⟩
  · show ([91] ++ xs).toArray.size ≤ _
    rw [List.size_toArray, List.length_append, sizeLine_eq]; simp; omega
  dsimp only
  have e2 : (Str.ofString "]" : Str) = S [93] := by decide +kernel
  rw [e2, S_append]
  have hs2 : (S ([91] ++ xs ++ [93])).length ≤ sizeLine := by
    show ([91] ++ xs ++ [93]).toArray.size ≤ _
    rw [List.size_toArray, List.length_append, List.length_append, sizeLine_eq]; simp; omega
  exact ⟨hs2, joinParts_nil (hq _ _) hs2⟩
end
noncomputable abbrev tv (pat star any res add i n c j stuff chunks k chunk : Option Value) : Vs :=
  [("pat", pat), ("STAR", star), ("QUESTION_MARK", any), ("res", res), ("add", add), ("i", i), ("n", n), ("c", c), ("j", j), ("stuff", stuff), ("chunks", chunks), ("k", k), ("chunk", chunk)]

section
variable {prog : Program} {w : World} {A : Around} {E : Value → Shared → Prop} {s : Shared} {env : Env} {M : Model} {mg mb : Str → Option Value} {hb : Heap}
inductive TrlO (s : Shared) (f c₀ : Addr) (h₅ : Heap) (row : List Nat) (st : Str) (R D : Addr) (n : Nat) (h : Heap) : Prop
  | mk (j : Nat) (rv : List Value) (hz : Heap) (tp tu tv' ti tn : Tok) (o1 o2 o3 o4 o5 o6 : Option Value)
      (f0 : j + n = row.length)
      (f1 : RepAll Any h rv ((row.take j).map fun t => .str (S (outT t))))
      (f2 : Fm s.heap h₅ hz h (envOfC r12.name r12.scope s.heap.objs.size f (.ref c₀)).locals (tv (some (.str (S (row.flatMap patT)) tp)) (some (.str st tu)) (some (.str "any" tv')) (some (.ref R)) (some (.ref D)) (some (.int (((row.take j).flatMap patT).length : Int) ti)) (some (.int ((row.flatMap patT).length : Int) tn)) o1 o2 o3 o4 o5 o6) [] [(R, rv)])
      : TrlO s f c₀ h₅ row st R D n h
inductive TrlI (s : Shared) (f c₀ : Addr) (h₅ : Heap) (row : List Nat) (st : Str) (R D : Addr) (j : Nat) (rv : List Value) (hz : Heap) (n : Nat) (h : Heap) : Prop
  | mk (b : Nat) (tp tu tv' ti tn tc tj : Tok) (o2 o3 o4 o5 : Option Value)
      (f0 : b + n = 1)
      (f1 : Fm s.heap h₅ hz h (envOfC r12.name r12.scope s.heap.objs.size f (.ref c₀)).locals (tv (some (.str (S (row.flatMap patT)) tp)) (some (.str st tu)) (some (.str "any" tv')) (some (.ref R)) (some (.ref D)) (some (.int ((((row.take j).flatMap patT).length : Int) + 1) ti)) (some (.int ((row.flatMap patT).length : Int) tn)) (some (.str (⟨#[91]⟩ : Str) tc)) (some (.int ((((row.take j).flatMap patT).length + 1 + b : Nat) : Int) tj)) o2 o3 o4 o5) [] [(R, rv)])
      : TrlI s f c₀ h₅ row st R D j rv hz n h
set_option maxHeartbeats 0 in
theorem trl_call {f c₀ : Addr} {row : List Nat} {t u v : Tok} {st : Str} {Q : Value → Shared → Prop} (B : Bt mg mb hb) (k : Keep hb s.heap)
    (fn : ∃ o pm doc, hb.get? f = some o ∧ o.data = .func (Calls.docDef r12.name r12.params r12.body r12.scope pm (.ref c₀) doc) ∧ hb.CodeRec (.ref c₀) r12.name) (C : CodeHd hb c₀ tabP) (rm : Rm A 3)
    (hl : row.length ≤ 4) (hok : ∀ t ∈ row, TkOk t)
    (q : ∀ v h' tk, Keep s.heap h' → Rep (New s.heap) h' v (partsD row) → Q v { s with heap := h', toks := tk }) :
    wpAny (model prog w) A (call (.ref f) [.str (S (row.flatMap patT)) t, .str st u, .str "any" v]) Q E s := by
  refine enterC (n := 2) (binds := [("pat", .str (S (row.flatMap patT)) t), ("STAR", .str st u), ("QUESTION_MARK", .str "any" v)])
    (tv (some (.str (S (row.flatMap patT)) t)) (some (.str st u)) (some (.str "any" v)) none none none none none none none none none none) [] [] rm k fn B.lim (fun _ _ _ => rfl) fun h₁ tk F rm' => ?_
  generalize hA : A.deeper _ = A' at rm'
  obtain ⟨fE, hE, fnE⟩ := B.esc
  obtain ⟨pRe, hpRe, hRe⟩ := B.twin
  have ltwin := ld_global (M := model prog w) (env := envOfC r12.name r12.scope s.heap.objs.size f (.ref c₀)) B.g hpRe
  have llen := ld_builtin (M := model prog w) (env := envOfC r12.name r12.scope s.heap.objs.size f (.ref c₀)) B.g B.b B.blen.1 B.blen.2
  have lesc := ld_global (M := model prog w) (env := envOfC r12.name r12.scope s.heap.objs.size f (.ref c₀)) B.g hE
  repeat walk_at "ev"
  refine lnew (by rw [sizeLine_eq]; exact Nat.le_of_ble_eq_true rfl) (fun R h₂ k₂ nR pR => ?_)
  have F₂ := F.keep k₂
  have nRo : R ∉ owned (envOfC r12.name r12.scope s.heap.objs.size f (.ref c₀)).locals ([] : Cs) ([] : List (Addr × List Value)) := fun m => by
    obtain ⟨o, ho⟩ := F.live m
    rw [show h₁.get? R = none from nR] at ho; cases ho
  have nR0 : New s.heap R := New.back F.kb R nR
  have F₃ := (F₂.own pR nRo (New.back F.kb R nR)).now
  dsimp only [List.nil_append] at F₃
  repeat walk_at "ev"
  refine Attribute_name ?_
  repeat walk_at "ev"
  rename_i h₄ F₄
  obtain ⟨nR', eR⟩ := F₄.mls (R, []) (by simp)
  refine getAttr_append eR (fun D h₅ tk₅ k₅ nD gD => ?_)
  have nDo : ∀ rv, D ∉ owned (envOfC r12.name r12.scope s.heap.objs.size f (.ref c₀)).locals ([] : Cs) [(R, rv)] := fun rv m => by
    obtain ⟨o, ho⟩ := F₄.live (by simpa [owned] using m)
    rw [show h₄.get? D = none from nD] at ho; cases ho
  have F₅ := (F₄.keep (.of k₅)).here
  repeat walk_at "ev"
  have hsz : (S (row.flatMap patT)).cps.size = (row.flatMap patT).length := by simp
  have hfl := flat_len row
  have en : (((row.flatMap patT).toArray.size : Int)) = (row.flatMap patT).length := by simp
  rename_i F₆
  have hD : ∀ {hz h vs rv}, Fm s.heap h₅ hz h (envOfC r12.name r12.scope s.heap.objs.size f (.ref c₀)).locals vs ([] : Cs) [(R, rv)] → h.get? D = some (bmObj R) := fun F => (F.k0 D _ (nDo _) gD).get (ne_typ (T := "builtin_function_or_method") rfl)
  refine Assign_Tuple_swapped (names := ["i", "n"]) ?hh ?m1 ?m2
  case m1 => rfl
  case m2 => rfl
  repeat walk_at "ev"
  rw [en]
  refine tnew ?sz (fun T h₇ k₇ nT hT => ?_)
  case sz => rw [sizeLine_eq]; exact Nat.le_of_ble_eq_true rfl
  have F₇ := F₆.keep k₇
  refine unpack2 rm'.hd hT (fun h₈ k₈ => ?_)
  have F₈ := F₇.keep k₈
  refine assignInOrder_cons (wpAny_bindName ?_)
  walk_at "ev"
  refine assignInOrder_cons (wpAny_bindName ?_)
  walk_at "ev"
  refine assignInOrder_nil ?_
  have F₉ := ‹Fm _ _ _ _ _ _ _ _›
  clear F₈ F₇ F₆
  repeat walk_at "ev"
  refine while_stmt (TrlO s f c₀ h₅ row st R D) ?_ ?_ ?_
  · exact ⟨row.length, 0, [], _, _, _, _, _, _, _, _, _, _, _, _, by omega, .nil, F₉⟩
  · rintro n h tk ⟨j, rv, hz, tp, tu, tv', ti, tn, o1, o2, o3, o4, o5, o6, hj, rr, F⟩
    repeat walk_at "ev"
    by_cases hjl : j < row.length
    · obtain ⟨t, ht⟩ : ∃ t, row[j]? = some t := ⟨_, List.getElem?_eq_getElem hjl⟩
      have tkt := hok t (List.mem_of_getElem? ht)
      have hsp := flat_split row j t ht
      have hsu := flat_take_succ row j t ht
      have hpl : 1 ≤ (patT t).length := by unfold patT; split <;> simp
      have hlt : ((row.take j).flatMap patT).length + (patT t).length ≤ (row.flatMap patT).length := by rw [hsp, List.length_append, List.length_append]; omega
      have hget : ∀ k, k < (patT t).length → (row.flatMap patT)[((row.take j).flatMap patT).length + k]? = (patT t)[k]? := fun k hk => by
        rw [hsp, List.getElem?_append_right (by omega), List.getElem?_append_left (by omega)]
        congr 1; omega
      have fin : ∀ {h' hz' : Heap} {rv' : List Value} {i' : Int} {tp tu tv' ti tn : Tok} {o1 o2 o3 o4 o5 o6 : Option Value} {tt : Tok}, i' = (((row.take (j + 1)).flatMap patT).length : Int) → rv' = rv ++ [.str (S (outT t)) tt] →
          Fm s.heap h₅ hz' h' (envOfC r12.name r12.scope s.heap.objs.size f (.ref c₀)).locals (tv (some (.str (S (row.flatMap patT)) tp)) (some (.str st tu)) (some (.str "any" tv')) (some (.ref R)) (some (.ref D)) (some (.int i' ti)) (some (.int ((row.flatMap patT).length : Int) tn)) o1 o2 o3 o4 o5 o6) [] [(R, rv')] →
          TrlO s f c₀ h₅ row st R D (n - 1) h' := by
        rintro h' hz' rv' i' tp tu tv' ti tn o1 o2 o3 o4 o5 o6 tt rfl rfl F'
        refine ⟨j + 1, _, _, _, _, _, _, _, _, _, _, _, _, _, by omega, ?_, F'⟩
        have e : row.take (j + 1) = row.take j ++ [t] := by rw [List.take_add_one, ht]; rfl
        rw [e, List.map_append]
        exact RepAll.append (strs_move (fun t => S (outT t)) rr) (.cons (.str _ _) .nil)
      have lrv : rv.length ≤ 4 := by have := rr.length; rw [List.length_map, List.length_take] at this; omega
      rw [if_pos (decide_eq_true (by omega))]
      repeat walk_at "ev"
      by_cases hbr : t = 91 ∨ t = 42
      · have hp3 : patT t = [91, t, 93] := by unfold patT; rw [if_pos hbr]
        have hp3l : (patT t).length = 3 := by rw [hp3]; rfl
        have hc0 : (row.flatMap patT)[((row.take j).flatMap patT).length]? = some 91 := by have := hget 0 (by omega); rw [hp3] at this; simpa using this
        have hc1 : (row.flatMap patT)[((row.take j).flatMap patT).length + 1]? = some t := by have := hget 1 (by omega); rw [hp3] at this; simpa using this
        have hc2 : (row.flatMap patT)[((row.take j).flatMap patT).length + 2]? = some 93 := by have := hget 2 (by omega); rw [hp3] at this; simpa using this
        refine sitem (c := 91) ?sz8a ?sz8b ?sz8q ?sz8s
        case sz8s => rfl
        case sz8a => simpa using hc0
        case sz8b => omega
        try dsimp only
        repeat walk_at "ev"
        rw [show ((⟨#[91]⟩ : Str) == Str.ofString "*") = false from by decide +kernel, if_neg Bool.false_ne_true]
        repeat walk_at "ev"
        rw [show ((⟨#[91]⟩ : Str) == Str.ofString "?") = false from by decide +kernel, if_neg Bool.false_ne_true]
        repeat walk_at "ev"
        rw [show ((⟨#[91]⟩ : Str) == Str.ofString "[") = true from by decide +kernel, if_pos rfl]
        repeat walk_at "ev"
        have eq1 : ((⟨#[t]⟩ : Str) == Str.ofString "!") = false := by rcases hbr with rfl | rfl <;> decide +kernel
        have eq2 : ((⟨#[t]⟩ : Str) == Str.ofString "]") = false := by rcases hbr with rfl | rfl <;> decide +kernel
        rw [if_pos (decide_eq_true (by omega))]
        repeat walk_at "ev"
        refine sitem (n := ((row.take j).flatMap patT).length + 1) (c := t) ?sa1 ?sb1 ?_ rfl
        case sa1 => simpa using hc1
        case sb1 => omega
        repeat walk_at "ev"
        rw [eq1, if_neg Bool.false_ne_true, if_neg Bool.false_ne_true]
        repeat walk_at "ev"
        rw [if_pos (decide_eq_true (by omega))]
        repeat walk_at "ev"
        refine sitem (n := ((row.take j).flatMap patT).length + 1) (c := t) ?sa2 ?sb2 ?_ rfl
        case sa2 => simpa using hc1
        case sb2 => omega
        repeat walk_at "ev"
        rw [eq2, if_neg Bool.false_ne_true, if_neg Bool.false_ne_true]
        repeat walk_at "ev"
        have Fa := ‹Fm _ _ _ _ _ _ _ _›
        clear F
        refine while_stmt (TrlI s f c₀ h₅ row st R D j rv hz) ?_ ?_ ?_
        · exact ⟨1, 0, _, _, _, _, _, _, _, _, _, _, _, by omega, Fa⟩
        · rintro n h tk ⟨b, tp, tu, tv', ti, tn, tc, tj, o2, o3, o4, o5, hb1, Fb⟩
          repeat walk_at "ev"
          rw [if_pos (decide_eq_true (by omega))]
          repeat walk_at "ev"
          rcases Nat.eq_zero_or_pos b with rfl | hb0
          · refine sitem (n := ((row.take j).flatMap patT).length + 1 + 0) (c := t) ?sa3 ?sb3 ?_ rfl
            case sa3 => simpa using hc1
            case sb3 => omega
            repeat walk_at "ev"
            rw [show ((⟨#[t]⟩ : Str) != Str.ofString "]") = true from by rcases hbr with rfl | rfl <;> decide +kernel, if_pos rfl]
            repeat walk_at "ev"
            rw [if_pos rfl]
            repeat walk_at "ev"
            have Fc := ‹Fm _ _ _ _ _ _ _ _›
            exact ⟨rfl, _, _, 0, rfl, by omega, 1, _, _, _, _, _, _, _, _, _, _, _, by omega, Fc⟩
          · have hb' : b = 1 := by omega
            subst hb'
            refine sitem (n := ((row.take j).flatMap patT).length + 1 + 1) (c := 93) ?sa4 ?sb4 ?_ rfl
            case sa4 => simpa using hc2
            case sb4 => omega
            repeat walk_at "ev"
            rw [show ((⟨#[93]⟩ : Str) != Str.ofString "]") = false from by decide +kernel, if_neg Bool.false_ne_true, if_neg Bool.false_ne_true]
            exact ⟨_, _, rfl, 1, _, _, _, _, _, _, _, _, _, _, _, by omega, Fb⟩
        rintro h tk ⟨b, tp, tu, tv', ti, tn, tc, tj, o2, o3, o4, o5, hb1, Fb⟩
        have hb' : b = 1 := by omega
        subst hb'
        clear Fa
        repeat walk_at "ev"
        rw [if_neg (by rw [decide_eq_false (by omega)]; exact Bool.false_ne_true)]
        repeat walk_at "ev"
        refine slT_str (.int _ _) (.int _ _) (by rw [sizeLine_eq]; omega) (fun h₃ t₃ k₃ K₃ => ?_)
        have Fd := Fb.keep K₃
        have hcut : cutL (row.flatMap patT) (some ((((row.take j).flatMap patT).length : Int) + 1)) (some ((((row.take j).flatMap patT).length + 1 + 1 : Nat) : Int)) = [t] := by
          have := cut_run (row.flatMap patT) (((row.take j).flatMap patT).length + 1) (((row.take j).flatMap patT).length + 1 + 1) (by omega)
          rw [show ((((row.take j).flatMap patT).length : Int) + 1) = ((((row.take j).flatMap patT).length + 1 : Nat) : Int) from rfl, this]
          rw [← List.getElem_cons_drop (by omega : ((row.take j).flatMap patT).length + 1 < (row.flatMap patT).length), (List.getElem?_eq_some_iff.mp hc1).2]
          simp
        rw [hcut]
        repeat walk_at "ev"
        rw [show Str.ofString "-" = ⟨#[45]⟩ from by decide +kernel]
        refine notInS (l := [t]) rfl ?_
        repeat walk_at "ev"
        rw [show decide (45 ∈ [t]) = false from by rcases hbr with rfl | rfl <;> rfl, Bool.not_false, if_pos rfl]
        repeat walk_at "ev"
        with_reducible refine GM.replace ?_
        repeat walk_at "ev"
        show wpAny _ _ (call (.builtin "str.replace") [.str (S [t]) _, .str _ _, .str _ _]) _ _ _
        refine replace_no ?_ (fun t₅ k₅ => ?_)
        · rcases hbr with rfl | rfl <;> decide +kernel
        repeat walk_at "ev"
        have Fe := ‹Fm _ _ _ _ _ _ _ _›
        have kBe : Keep hb _ := k.trans Fe.kb
        have Xe := kRe hRe kBe
        refine getMethod_builtin (T := "re.Pattern") ?_ pa_re slot_sub type_sub ?_ ?_
        · obtain ⟨vs, qa, n, hp, _⟩ := Xe.ex; exact ⟨_, hp, rfl⟩
        · intro a e
          cases e
          obtain ⟨vs, qa, n, hp, _⟩ := Xe.ex; exact ⟨_, hp, rfl⟩
        repeat walk_at "ev"
        refine lam_eval B kBe rfl C rfl rfl rfl rfl rfl rfl (fun Lm h₇ tk₇ oL kL nL gL cL => ?_)
        have Ff := Fe.keep kL
        repeat walk_at "ev"
        show wpAny _ _ (call (.builtin "re.Pattern.sub") [.ref pRe, .ref Lm, .str (S [t]) _]) _ _ _
        refine re_sub hbr (kRe Xe kL) gL cL (fun h₈ t₈ tk₈ k₈ => ?_)
        have Fg := Ff.keep (.of k₈)
        rw [show (⟨#[t]⟩ : Str) = S [t] from rfl]
        repeat walk_at "ev"
        refine trS (l := [t]) (by show 1 < 2 ^ 62; decide) (fun tk₉ => ?_)
        rw [show (!decide ([t] ≠ [])) = false from rfl, if_neg Bool.false_ne_true]
        repeat walk_at "ev"
        rw [show ((S [t] : Str) == Str.ofString "!") = false from eq1, if_neg Bool.false_ne_true]
        repeat walk_at "ev"
        refine sitem (n := 0) (c := t) ?sa5 ?sb5 ?_ rfl
        case sa5 => rfl
        case sb5 => decide
        repeat walk_at "ev"
        rw [eq1, if_neg Bool.false_ne_true]
        repeat walk_at "ev"
        refine sitem (n := 0) (c := t) ?sa6 ?sb6 ?_ rfl
        case sa6 => rfl
        case sb6 => decide
        repeat walk_at "ev"
        refine tnew ?sz2 (fun T h₁₀ k₁₀ nT hT => ?_)
        case sz2 => rw [sizeLine_eq]; exact Nat.le_of_ble_eq_true rfl
        have Fh := Fm.keep ‹Fm _ _ _ _ _ _ _ _› k₁₀
        refine inTup rm' hT (by rcases hbr with rfl | rfl <;> decide +kernel) (by decide +kernel) (by decide +kernel) ?_
        repeat walk_at "ev"
        have hlen3 : (((((row.take j).flatMap patT).length + 1 + 1 : Nat) : Int) + 1) = (((row.take (j + 1)).flatMap patT).length : Int) := by rw [hsu, hp3]; simp; omega
        rcases hbr with rfl | rfl
        · rw [show (Str.ofString "^" == (⟨#[91]⟩ : Str) || Str.ofString "[" == (⟨#[91]⟩ : Str)) = true from by decide +kernel, if_pos rfl]
          repeat walk_at "ev"
          refine addS (a := [92]) (b := [91]) (by decide +kernel) rfl (by rw [sizeLine_eq]; exact Nat.le_of_ble_eq_true rfl) (fun t' tk' => ?_)
          repeat walk_at "ev"
          refine callWith_bm (R := R) ?_ (star1 rfl) rfl
          refine aN ?FA1 ?FB1
          case FB1 => rfl
          refine fstr3 ?_
          repeat walk_at "ev"
          refine ⟨[92] ++ [91], _, rfl, by decide, fun t' tk' => ?_⟩
          repeat walk_at "ev"
          have Fz := ‹Fm _ _ _ _ _ _ _ _›
          refine ⟨hD Fz, call_bm (hD Fz) (Fz.mls (R, rv) (by simp)) (lsz lrv) (fun h' pl sb => ?_)⟩
          have Fy := Fz.setM PutM.here pl sb
          repeat walk_at "ev"
          exact ⟨rfl, _, _, n - 1, rfl, by omega, fin hlen3 (by rfl) Fy⟩
        · rw [show (Str.ofString "^" == (⟨#[42]⟩ : Str) || Str.ofString "[" == (⟨#[42]⟩ : Str)) = false from by decide +kernel, if_neg Bool.false_ne_true]
          repeat walk_at "ev"
          refine callWith_bm (R := R) ?_ (star1 rfl) rfl
          refine aN ?FA2 ?FB2
          case FB2 => rfl
          refine fstr3 ?_
          repeat walk_at "ev"
          refine ⟨[42], _, rfl, by decide, fun t' tk' => ?_⟩
          repeat walk_at "ev"
          have Fz := ‹Fm _ _ _ _ _ _ _ _›
          refine ⟨hD Fz, call_bm (hD Fz) (Fz.mls (R, rv) (by simp)) (lsz lrv) (fun h' pl sb => ?_)⟩
          have Fy := Fz.setM PutM.here pl sb
          repeat walk_at "ev"
          exact ⟨rfl, _, _, n - 1, rfl, by omega, fin hlen3 (by rfl) Fy⟩
      · have hp1 : patT t = [t] := by unfold patT; rw [if_neg hbr]
        have hc0 : (row.flatMap patT)[((row.take j).flatMap patT).length]? = some t := by have := hget 0 (by omega); rw [hp1] at this; simpa using this
        have hlen1 : (((row.take j).flatMap patT).length : Int) + 1 = (((row.take (j + 1)).flatMap patT).length : Int) := by rw [hsu, hp1]; simp
        refine sitem (c := t) ?sz9a ?sz9b ?sz9q ?sz9s
        case sz9s => rfl
        case sz9a => simpa using hc0
        case sz9b => omega
        try dsimp only
        repeat walk_at "ev"
        have e1 : ((⟨#[t]⟩ : Str) == Str.ofString "*") = false := by rcases tkt with rfl | rfl | rfl | rfl | rfl <;> first | decide +kernel | (exact absurd (by simp) hbr)
        rw [e1, if_neg Bool.false_ne_true]
        repeat walk_at "ev"
        by_cases h63 : t = 63
        · subst h63
          have e2 : ((⟨#[63]⟩ : Str) == Str.ofString "?") = true := by decide +kernel
          rw [e2, if_pos rfl]
          repeat walk_at "ev"
          refine callWith_bm (R := R) ?_ (star1 rfl) rfl
          repeat walk_at "ev"
          have F₂ := ‹Fm _ _ _ _ _ _ _ _›
          refine ⟨hD F₂, call_bm (hD F₂) (F₂.mls (R, rv) (by simp)) (lsz lrv) (fun h' pl sb => ?_)⟩
          have F₃ := F₂.setM PutM.here pl sb
          repeat walk_at "ev"
          have e63 : S (outT 63) = Str.ofString "any" := by decide +kernel
          exact ⟨rfl, _, _, n - 1, rfl, by omega, fin hlen1 (by rw [e63]) F₃⟩
        · have hab : t = 97 ∨ t = 98 := by
            rcases tkt with h | h | h | h | h
            · exact .inl h
            · exact .inr h
            · exact absurd h h63
            · exact absurd (Or.inl h) hbr
            · exact absurd (Or.inr h) hbr
          have e2 : ((⟨#[t]⟩ : Str) == Str.ofString "?") = false := by rcases hab with rfl | rfl <;> decide +kernel
          have e3 : ((⟨#[t]⟩ : Str) == Str.ofString "[") = false := by rcases hab with rfl | rfl <;> decide +kernel
          rw [e2, if_neg Bool.false_ne_true]
          repeat walk_at "ev"
          rw [e3, if_neg Bool.false_ne_true]
          repeat walk_at "ev"
          refine callWith_bm (R := R) ?_ (star1 rfl) rfl
          repeat walk_at "ev"
          refine cD fnE ?h1 ?a1
          case a1 => rfl
          repeat walk_at "ev"
          have F₂ := ‹Fm _ _ _ _ _ _ _ _›
          have kB₂ : Keep hb _ := k.trans F₂.kb
          refine ⟨kB₂, esc_call B kB₂ fnE (rm'.mono (by omega)) hab (fun h' t' tk' k' => ?_)⟩
          have F₃ := F₂.keep k'
          repeat walk_at "ev"
          refine ⟨hD F₃, call_bm (hD F₃) (F₃.mls (R, rv) (by simp)) (lsz lrv) (fun h' pl sb => ?_)⟩
          have F₄ := F₃.setM PutM.here pl sb
          repeat walk_at "ev"
          have eab : outT t = [t] := by rcases hab with rfl | rfl <;> rfl
          exact ⟨rfl, _, _, n - 1, rfl, by omega, fin hlen1 (by rw [eab]) F₄⟩
    · have hje : j = row.length := by omega
      rw [if_neg (by rw [hje, List.take_length, decide_eq_false (by omega)]; exact Bool.false_ne_true)]
      exact ⟨_, _, rfl, j, rv, hz, tp, tu, tv', ti, tn, o1, o2, o3, o4, o5, o6, by omega, rr, F⟩
  · rintro h tk ⟨j, rv, hz, tp, tu, tv', ti, tn, o1, o2, o3, o4, o5, o6, hj, rr, F⟩
    rw [Nat.add_zero] at hj
    subst hj
    rw [List.take_length] at rr
    repeat walk_at "ev"
    refine wpAny_Assert_holds ?_
    repeat walk_at "ev"
    refine ⟨by rw [List.take_length]; exact beq_self_eq_true _, ?_⟩
    repeat walk_at "ev"
    refine q _ _ _ F.kb (Rep.ofList (P := New s.heap) nR0 (F.mls (R, rv) (by simp)) (strs_move (fun t => S (outT t)) rr))
end
noncomputable def takenL (w : List Nat) (ns : List (List Nat)) : List (List Nat) := ns.filter fun n => (toksL w).any fun r => takesT r n
theorem toks_ok {l : List Nat} (la : Lets l) : ∀ r ∈ toksL l, ∀ t ∈ r, TkOk t := by
  have h0 : ∀ t ∈ l, TkOk t := fun t ht => by rcases la t ht with h | h | h | h <;> simp [TkOk, h]
  have hA : ∀ k, ∀ r ∈ toksA l k, ∀ t ∈ r, TkOk t := fun k => by
    induction k with
    | zero => intro r hr; simp [toksA] at hr; subst hr; exact h0
    | succ k ih =>
      intro r hr t ht
      rw [toksA_succ, List.mem_append] at hr
      rcases hr with hr | hr
      · exact ih r hr t ht
      · simp only [List.mem_cons, List.not_mem_nil, or_false] at hr
        rcases hr with rfl | rfl
        · rcases List.mem_append.mp ht with ht | ht
          · rcases List.mem_append.mp ht with ht | ht
            · exact h0 t (List.mem_of_mem_take ht)
            · rw [List.mem_singleton.mp ht]; exact .inr (.inr (.inl rfl))
          · exact h0 t (List.mem_of_mem_drop ht)
        · rcases List.mem_append.mp ht with ht | ht
          · exact h0 t (List.mem_of_mem_take ht)
          · exact h0 t (List.mem_of_mem_drop ht)
  have hB : ∀ k, ∀ r ∈ toksB l k, ∀ t ∈ r, TkOk t := fun k => by
    induction k with
    | zero => intro r hr; rw [show toksB l 0 = toksA l l.length by simp [toksB]] at hr; exact hA _ r hr
    | succ k ih =>
      intro r hr t ht
      rw [toksB_succ, List.mem_append] at hr
      rcases hr with hr | hr
      · exact ih r hr t ht
      · simp only [List.mem_cons, List.not_mem_nil, or_false] at hr
        subst hr
        rcases List.mem_append.mp ht with ht | ht
        · rcases List.mem_append.mp ht with ht | ht
          · exact h0 t (List.mem_of_mem_take ht)
          · rw [List.mem_singleton.mp ht]; exact .inr (.inr (.inl rfl))
        · exact h0 t (List.mem_of_mem_drop ht)
  exact hB _
theorem fm_bind {α β : Type} (f : α → Option β) : ∀ l : List α, (List.range l.length).filterMap (fun i => (l[i]?).bind f) = l.filterMap f
  | [] => rfl
  | a :: l => by
    rw [List.length_cons, List.range_succ_eq_map, List.filterMap_cons, List.filterMap_map]
    simp only [List.getElem?_cons_zero, Option.bind_some]
    have ih := fm_bind f l
    have e : List.filterMap ((fun i => ((a :: l)[i]?).bind f) ∘ Nat.succ) (List.range l.length) = l.filterMap f := ih
    rw [e, List.filterMap_cons]
theorem fm_if {α β : Type} (c : α → Bool) (f : α → β) : ∀ l : List α, l.filterMap (fun n => if c n = true then some (f n) else none) = (l.filter c).map f
  | [] => rfl
  | a :: l => by
    rw [List.filterMap_cons, List.filter_cons, fm_if c f l]
    cases c a <;> rfl
section
variable {prog : Program} {w : World} {A : Around} {E : Value → Shared → Prop} {s : Shared} {env : Env} {M : Model} {mg mb : Str → Option Value} {hb : Heap}
set_option maxHeartbeats 0 in
theorem taken_call {f : Addr} {l : List Nat} {ns : List (List Nat)} {nv : Value} {t : Tok} {Q : Value → Shared → Prop} (B : Bt mg mb hb) (k : Keep hb s.heap) (fn : FnAt hb f r20) (rm : Rm A 5)
    (hl : l.length ≤ 3) (la : Lets l) (hn : ns.length ≤ 20) (h3 : ∀ n ∈ ns, n.length ≤ 3) (rn : Rep Any s.heap nv (pyS ns))
    (q : ∀ v h' tk, Keep s.heap h' → Rep (New s.heap) h' v (pyS (takenL l ns)) → Q v { s with heap := h', toks := tk }) :
    wpAny (model prog w) A (call (.ref f) [.str (S l) t, nv]) Q E s := by
  refine enter (n := 4) (binds := [("word", .str (S l) t), ("names", nv)]) [("word", some (.str (S l) t)), ("names", some nv)] [("star", s.heap.objs.size + 1, none), ("sieves", s.heap.objs.size + 2, none)] [1, 2] rm k fn B.lim (fun _ _ _ => rfl) fun h₁ tk cd F rm' => ?_
  generalize hA : A.deeper _ = A' at rm'
  obtain ⟨fP, hP, fnP⟩ := B.pats
  obtain ⟨fK, hK, fnK⟩ := B.takes
  obtain ⟨fT, oT, pmT, docT, cT, hT, gT, dT, crT, CT⟩ := B.tr
  have fnT : FnAt hb fT r12 := ⟨⟨oT, pmT, _, docT, gT, dT, crT⟩⟩
  have lpat := ld_global (M := model prog w) (env := envOfC r20.name r20.scope s.heap.objs.size f cd) B.g hP
  repeat walk_at "ev"
  rename_i h₂ F₂
  have ic1 := F₂.cel _ _ _ List.mem_cons_self
  refine comp_eval (cl := [("star", s.heap.objs.size + 1)]) false rm'.hd ⟨by rfl, by rfl, by decide, by rfl, fun _ => by rfl, fun _ => by rfl⟩ ?_
  repeat walk_at "ev"
  refine cD fnP ?h1 ?a1
  case a1 => rfl
  repeat walk_at "ev"
  have kB₂ : Keep hb h₂ := k.trans F₂.kb
  refine ⟨kB₂, pats_call B.toBs kB₂ fnP (rm'.mono (by omega)) hl (fun v₃ h₃ tk₃ k₃ r₃ => ?_)⟩
  obtain ⟨D, us, rfl, _, hul, ra⟩ := r₃.toList
  have F₃ := F₂.keep k₃
  have hus : us.length = (toksL l).length := by have := ra.length; simpa using this
  have ltl : (toksL l).length ≤ 11 := by show (toksB l (l.length + 1)).length ≤ 11; rw [toksB_len]; omega
  refine ⟨us.toArray.size, _, fun j => ((toksL l)[j]?).map partsD, iter_list hul, by rw [sizeLine_eq, List.size_toArray]; omega, ⟨?_, ?_⟩, ?_⟩
  · intro C' j v h tk hj hP' hk hC lk lc
    refine wpAny_pure ⟨?_, h, tk, rfl, Keep.rfl'⟩
    rw [List.size_toArray, hus] at hj
    simp [hj]
  · intro C' j v h tk d hj hP' hg hk hC lk lc
    have hv : us[j]? = some v := by simpa using hP'
    obtain ⟨y', t', hy, rfl⟩ := ra.at_str hv
    rw [List.map_map, List.getElem?_map] at hy
    cases hr' : (toksL l)[j]? with
    | none => rw [hr'] at hy; cases hy
    | some r =>
      rw [hr'] at hg hy
      cases hg
      cases hy
      have hmem := List.mem_of_getElem? hr'
      have ic' := kCell ic1 (k₃.trans hk)
      have ltr := ld_global (M := model prog w) (env := compEnvK { kind := .function, names := [(".0", .local), ("pattern", .local), ("_translate", .globalImplicit), ("star", .free)], isGenerator := false, isCoroutine := false } [("star", s.heap.objs.size + 1)] C' (envOfC r20.name r20.scope s.heap.objs.size f cd)) B.g hT
      repeat walk_at "ev"
      refine cD fnT ?h2 ?a2
      case a2 => rfl
      repeat walk_at "ev"
      have kBh : Keep hb h := (kB₂.trans k₃).trans hk
      have hr4 := toksB_mem l _ r hmem
      exact ⟨kBh, trl_call B kBh ⟨oT, pmT, docT, gT, dT, crT⟩ CT (rm'.mono (by omega)) (by omega) (toks_ok la r hmem) (fun v h' tk k' r' => ⟨_, _, rfl, k', r'⟩)⟩
  · intro D₂ h₄ tk₄ k₄ nD₂ hD₂
    obtain ⟨ys, hl₄, hr₄⟩ := hD₂
    rw [List.size_toArray, hus, fm_get] at hr₄
    have F₄ := (F₃.keep k₄).now
    have rs₄ : Rep Any h₄ (.ref D₂) (.list ((toksL l).map partsD)) := Rep.ofList (vs := ys.toList) trivial (by simpa using hl₄) (hr₄.weak fun _ _ => trivial)
    have rn₄ : Rep Any h₄ nv (pyS ns) := rn.keep F₄.kb
    repeat walk_at "ev"
    rename_i h₅ F₅
    have rs₅ := F₅.rep rs₄
    obtain ⟨DN, nvs, rfl, _, hnl, ran⟩ := (F₅.rep rn₄).toList
    have hns : nvs.length = ns.length := by have := ran.length; simpa using this
    have ic2 := F₅.cel _ _ _ (List.mem_cons_of_mem _ List.mem_cons_self)
    refine comp_eval (cl := [("sieves", s.heap.objs.size + 2)]) true rm'.hd ⟨by rfl, by rfl, by decide, by rfl, fun _ => by rfl, fun _ => by rfl⟩ ?_
    repeat walk_at "ev"
    refine ⟨nvs.toArray.size, _, fun j => (ns[j]?).bind fun n => if (toksL l).any (fun r => takesT r n) then some (.str (S n)) else none, iter_list hnl, by rw [sizeLine_eq, List.size_toArray]; omega, ⟨?_, ?_⟩, ?_⟩
    · intro C' j v h tk hj hP' hk hC lk lc
      have hv : nvs[j]? = some v := by simpa using hP'
      obtain ⟨y', t', hy, rfl⟩ := ran.at_str hv
      rw [List.getElem?_map] at hy
      obtain ⟨n, hnj, rfl⟩ := Option.map_eq_some_iff.mp hy
      have icN := lc rfl
      have icS := kCell ic2 hk
      have rsh := rs₅.keep hk
      refine wpAny_tests_one ?_
      repeat walk_at "ev"
      obtain ⟨_, us2, e, _, hul2, ra2⟩ := rsh.toList
      cases e
      have hus2 : us2.length = (toksL l).length := by have := ra2.length; simpa using this
      have kBh : Keep hb h := (k.trans F₅.kb).trans hk
      have n3 := h3 n (List.mem_of_getElem? hnj)
      refine comp_evalP (cl := [("name", C' + 1)]) false (fun a => ∃ o, h.get? a = some o) rm'.hd ⟨by rfl, by rfl, by decide, by rfl, fun _ => by rfl, fun _ => by rfl⟩ ?_
      repeat walk_at "ev"
      refine ⟨us2.toArray.size, _, fun j => ((toksL l)[j]?).bind fun r => if takesT r n then some (partsD r) else none, iter_list hul2, by rw [sizeLine_eq, List.size_toArray]; omega, fun _ p => p, ⟨?_, ?_⟩, ?_⟩
      · intro C₂ i v h' tk' hi hPi hk' hC₂ lk' lc'
        have hv' : us2[i]? = some v := by simpa using hPi
        obtain ⟨d, hd, rv⟩ := ra2.get hv'
        rw [List.getElem?_map] at hd
        obtain ⟨r, hr', rfl⟩ := Option.map_eq_some_iff.mp hd
        have hmem := List.mem_of_getElem? hr'
        have hr4 := toksB_mem l _ r hmem
        have icN' := kCell icN hk'
        have ltk := ld_global (M := model prog w) (env := compEnvK { kind := .function, names := [(".0", .local), ("parts", .local), ("_law_takes", .globalImplicit), ("name", .free)], isGenerator := false, isCoroutine := false } [("name", C' + 1)] C₂ (compEnvK { kind := .function, names := [(".0", .local), ("name", .cell), ("sieves", .free)], isGenerator := false, isCoroutine := false } [("sieves", s.heap.objs.size + 2)] C' (envOfC r20.name r20.scope s.heap.objs.size f cd))) B.g hK
        refine wpAny_tests_one ?_
        repeat walk_at "ev"
        refine cD fnK ?h3 ?a3
        case a3 => rfl
        repeat walk_at "ev"
        have kBh' := kBh.trans hk'
        refine ⟨kBh', takes_call B.toBs kBh' fnK (rm'.mono (by omega)) (by omega) n3 (toks_ok la r hmem) (rv.keep hk') (fun h'' tk'' k'' => ?_)⟩
        repeat walk_at "ev"
        refine ⟨?_, _, _, rfl, k''⟩
        show _ = (((toksL l)[i]?).bind fun r => if takesT r n then some (partsD r) else none).isSome
        rw [hr', Option.bind_some]
        cases takesT r n <;> rfl
      · intro C₂ i v h' tk' d hi hPi hg hk' hC₂ lk' lc'
        have hv' : us2[i]? = some v := by simpa using hPi
        obtain ⟨d', hd, rv⟩ := ra2.get hv'
        rw [List.getElem?_map] at hd
        obtain ⟨r, hr', rfl⟩ := Option.map_eq_some_iff.mp hd
        have hg' : ((toksL l)[i]?).bind (fun r => if takesT r n then some (partsD r) else none) = some d := hg
        rw [hr', Option.bind_some] at hg'
        split at hg'
        · cases hg'
          repeat walk_at "ev"
          obtain ⟨Dp, vs', o, n', rfl, _, ho, hc, hd', hz, rap⟩ := rv.toListD
          exact ⟨_, _, rfl, Keep.rfl', .list (.inr ⟨o, ho⟩) (hk'.get ho (ne_typ hc)) hc hd' hz (strs_move (fun t => S (outT t)) rap)⟩
        · cases hg'
      · intro D₃ h₆ tk₆ k₆ nD₃ hD₃
        obtain ⟨zs, hl₆, hr₆⟩ := hD₃
        rw [List.size_toArray, hus2, fm_bind, fm_if] at hr₆
        repeat walk_at "ev"
        refine lnew (by rw [sizeLine_eq]; exact Nat.le_of_ble_eq_true rfl) (fun D₄ h₇ k₇ nD₄ pD₄ => ?_)
        have r1 : Rep Any h₇ (.ref D₃) (.list (((toksL l).filter fun r => takesT r n).map partsD)) := Rep.ofList (vs := zs.toList) trivial (by simpa using (kPlain hl₆ k₇)) ((hr₆.weak fun _ _ => trivial).keep k₇)
        have r2 : Rep Any h₇ (.ref D₄) (.list []) := Rep.ofList (P := Any) trivial pD₄ .nil
        refine neData rm' r1 r2 (plDs_map _ _ fun r hr => ?_) rfl ?_ (fun c hc => ?_)
        · have ht := toks_ok la r (List.mem_filter.mp hr).1
          show plD (.list _) = true
          unfold plD
          refine plDs_map _ _ fun t htm => ?_
          rcases ht t htm with rfl | rfl | rfl | rfl | rfl <;> decide +kernel
        · show PyData.depth (.list _) ≤ 100
          unfold PyData.depth
          have := depth_map partsD 1 (fun r => by
            show PyData.depth (.list _) ≤ 1
            unfold PyData.depth
            have := depth_map (fun t => PyData.str (S (outT t))) 0 (fun t => by unfold PyData.depth; exact Nat.le_refl _) r
            omega) ((toksL l).filter fun r => takesT r n)
          omega
        · repeat walk_at "ev"
          refine ⟨?_, _, _, rfl, k₆.trans k₇⟩
          show c = ((ns[j]?).bind fun n => if (toksL l).any (fun r => takesT r n) then some (PyData.str (S n)) else none).isSome
          rw [hnj, Option.bind_some]
          have h1 : c = true ↔ (toksL l).any (fun r => takesT r n) = true := by
            rw [hc, List.any_eq_true]
            constructor
            · intro hne
              cases hf : (toksL l).filter fun r => takesT r n with
              | nil => rw [hf] at hne; exact absurd rfl hne
              | cons a b =>
                have : a ∈ (toksL l).filter fun r => takesT r n := by rw [hf]; exact List.mem_cons_self
                exact ⟨a, (List.mem_filter.mp this).1, (List.mem_filter.mp this).2⟩
            · rintro ⟨r, hr, hrt⟩ he
              injection he with he
              have : r ∈ (toksL l).filter fun r => takesT r n := List.mem_filter.mpr ⟨hr, hrt⟩
              rw [List.map_eq_nil_iff.mp he] at this
              cases this
          cases ha : (toksL l).any (fun r => takesT r n)
          · rw [ha] at h1
            cases c
            · rfl
            · exact absurd (h1.mp rfl) Bool.false_ne_true
          · rw [ha] at h1
            rw [h1.mpr rfl]; rfl
    · intro C' j v h tk d hj hP' hg hk hC lk lc
      have hv : nvs[j]? = some v := by simpa using hP'
      obtain ⟨y', t', hy, rfl⟩ := ran.at_str hv
      rw [List.getElem?_map] at hy
      obtain ⟨n, hnj, rfl⟩ := Option.map_eq_some_iff.mp hy
      have hg' : ((ns[j]?).bind fun n => if (toksL l).any (fun r => takesT r n) then some (PyData.str (S n)) else none) = some d := hg
      rw [hnj, Option.bind_some] at hg'
      split at hg'
      · cases hg'
        repeat walk_at "ev"
        exact ⟨_, _, rfl, Keep.rfl', .str _ _⟩
      · cases hg'
    · intro D₃ h₆ tk₆ k₆ nD₃ hD₃
      obtain ⟨zs, hl₆, hr₆⟩ := hD₃
      repeat walk_at "ev"
      refine q _ _ _ (F₅.keep k₆).kb ?_
      refine Rep.ofList (P := New s.heap) (vs := zs.toList) (New.back F₅.kb D₃ nD₃) (by simpa using hl₆) ?_
      rw [List.size_toArray, hns, fm_bind, fm_if] at hr₆
      rw [List.map_map]
      exact strs_move S hr₆
end
theorem ltL_total {a b : List Nat} (h : ¬ a < b) : b ≤ a := List.not_lt.mp h
theorem best_max (ls : List (List Nat)) (n : Nat) : ∀ k, argBest (fun i j => decide (ls.getD j [] < ls.getD i [])) k ≤ k ∧ ∀ j, j ≤ k → ¬ (ls.getD (argBest (fun i j => decide (ls.getD j [] < ls.getD i [])) k) [] < ls.getD j [])
  | 0 => ⟨Nat.le_refl _, fun j hj => by
    have : j = 0 := by omega
    subst this
    exact List.lt_irrefl _⟩
  | k + 1 => by
    obtain ⟨h1, h2⟩ := best_max ls n k
    unfold argBest
    by_cases hb : decide (ls.getD (argBest (fun i j => decide (ls.getD j [] < ls.getD i [])) k) [] < ls.getD (k + 1) []) = true
    · rw [if_pos hb]
      refine ⟨Nat.le_refl _, fun j hj hlt => ?_⟩
      rcases Nat.lt_or_ge j (k + 1) with hj' | hj'
      · exact h2 j (by omega) (List.lt_trans (of_decide_eq_true hb) hlt)
      · have : j = k + 1 := by omega
        subst this
        exact List.lt_irrefl _ hlt
    · rw [if_neg hb]
      refine ⟨Nat.le_succ_of_le h1, fun j hj hlt => ?_⟩
      rcases Nat.lt_or_ge j (k + 1) with hj' | hj'
      · exact h2 j (by omega) hlt
      · have : j = k + 1 := by omega
        subst this
        exact hb (decide_eq_true hlt)

noncomputable abbrev Nms (o : List (List Nat)) : Prop := ∀ n ∈ o, n.length ≤ 3 ∧ Lets n
theorem okS {l : List Nat} (la : Lets l) : PyData.strOk (S l) = true := by
  unfold PyData.strOk
  show l.toArray.all _ = true
  rw [List.all_toArray, List.all_eq_true]
  intro x hx
  rcases la x hx with rfl | rfl | rfl | rfl <;> decide
theorem plS {l : List Nat} (la : Lets l) : plD (.str (S l)) = true := by unfold plD; exact okS la
theorem plSs {o : List (List Nat)} (h : Nms o) : plDs ((o.map S).map .str) = true := by
  rw [List.map_map]
  exact plDs_map _ _ fun n hn => plS (h n hn).2
theorem any_eqv {o : List (List Nat)} {x : List Nat} (h : Nms o) (hx : Lets x) : (((o.map S).map PyData.str).any fun y => PyData.eqv y (.str (S x))) = decide (x ∈ o) := by
  rw [Bool.eq_iff_iff, List.any_eq_true, decide_eq_true_iff]
  constructor
  · rintro ⟨y, hy, he⟩
    rw [List.map_map] at hy
    obtain ⟨n, hn, rfl⟩ := List.mem_map.mp hy
    have := (eqv_iff _ _ (plS (h n hn).2) (plS hx)).mp he
    have e : S n = S x := by injection this
    have e2 : n = x := by
      have := congrArg (fun z : Str => z.cps.toList) e
      simpa using this
    exact e2 ▸ hn
  · intro hm
    exact ⟨.str (S x), by rw [List.map_map]; exact List.mem_map_of_mem (f := PyData.str ∘ S) hm, (eqv_iff _ _ (plS hx) (plS hx)).mpr rfl⟩


theorem ltCps_iff : ∀ a b : List Nat, PySem.Spec.ltCps a b = true ↔ a < b
  | [], [] => by simp [PySem.Spec.ltCps]
  | [], _ :: _ => by simp [PySem.Spec.ltCps]
  | _ :: _, [] => by simp [PySem.Spec.ltCps]
  | a :: r, b :: t => by
    have ih := ltCps_iff r t
    unfold PySem.Spec.ltCps
    rw [List.cons_lt_cons_iff]
    simp [ih]
theorem strsM {P P' : Addr → Prop} {h h' : Heap} {o : List (List Nat)} {vs : List Value} (r : RepAll P h vs ((o.map S).map .str)) : RepAll P' h' vs ((o.map S).map .str) := by
  rw [List.map_map] at r ⊢
  exact strs_move S r
theorem srt_rising : ∀ (l : List Str) (p : Str), risingS p l = true → (∀ x ∈ l, ¬ x.cps.toList < p.cps.toList) ∧ Srt (l.map (·.cps.toList))
  | [], _, _ => ⟨(fun x hx => by cases hx), List.Pairwise.nil⟩
  | x :: r, p, h => by
    unfold risingS at h
    rw [Bool.and_eq_true] at h
    have h1 : ¬ x.cps.toList < p.cps.toList := fun hlt => by
      rw [(ltCps_iff _ _).mpr hlt] at h
      exact absurd h.1 (by decide)
    obtain ⟨h2, h3⟩ := srt_rising r x h.2
    refine ⟨fun y hy => ?_, ?_⟩
    · rcases List.mem_cons.mp hy with rfl | hy
      · exact h1
      · exact fun hlt => h2 y hy (wlt_le hlt h1)
    · rw [List.map_cons]
      refine List.pairwise_cons.mpr ⟨fun z hz => ?_, h3⟩
      obtain ⟨y, hy, rfl⟩ := List.mem_map.mp hz
      exact h2 y hy
theorem srt_sortedS {l : List Str} (h : sortedS l = true) : Srt (l.map (·.cps.toList)) := by
  cases l with
  | nil => exact List.Pairwise.nil
  | cons x r =>
    obtain ⟨h1, h2⟩ := srt_rising r x h
    rw [List.map_cons]
    refine List.pairwise_cons.mpr ⟨fun z hz => ?_, h2⟩
    obtain ⟨y, hy, rfl⟩ := List.mem_map.mp hz
    exact h1 y hy
theorem map_S_back (l : List Str) : (l.map (·.cps.toList)).map S = l := by
  rw [List.map_map]
  exact (List.map_congr_left fun x _ => by show (⟨x.cps.toList.toArray⟩ : Str) = x; rw [Array.toArray_toList]).trans (List.map_id l)
theorem S_map_back (l : List (List Nat)) : (l.map S).map (·.cps.toList) = l := by
  rw [List.map_map]
  exact (List.map_congr_left fun x _ => rfl).trans (List.map_id l)
theorem rep_of_strsAre {P : Addr → Prop} {h : Heap} : ∀ {vs : List Value} {ss : List Str}, StrsAre vs ss → RepAll P h vs (ss.map .str)
  | _, _, .nil => .nil
  | _, _, .cons _ _ r => .cons (.str _ _) (rep_of_strsAre r)
section
variable {prog : Program} {w : World} {A : Around} {E : Value → Shared → Prop} {s : Shared} {env : Env} {M : Model} {mg mb : Str → Option Value} {hb : Heap}
theorem maxS {D : Addr} {P : Addr → Prop} {vs : List Value} {ls : List (List Nat)} {Q : Value → Shared → Prop} (hh : A.handled = none) (hl : s.heap.IsList D vs.toArray) (ra : RepAll P s.heap vs ((ls.map S).map .str)) (hne : ls ≠ [])
    (q : ∀ m t h' tk, Keep s.heap h' → m ∈ ls → (∀ y ∈ ls, ¬ m < y) → Q (.str (S m) t) { s with heap := h', toks := tk }) : wpAny (model prog w) A (call (.builtin "max") [.ref D]) Q E s := by
  have hlen : vs.length = ls.length := by have := ra.length; simpa using this
  have hpos : 0 < ls.length := List.length_pos_iff.mpr hne
  refine call_max_walk ?_
  refine iter_list hl A.in1 s _ _ hh Keep.rfl' (fun I fp wr St h' W hst k hfp hwr hseq hsol hf => ?_)
  refine ⟨I, fp, wr, _, _, St, fun i j => decide (ls.getD j [] < ls.getD i []), rfl, W, hst, hfp, by rw [List.size_toArray, hlen]; exact hpos, ?_, ?_⟩
  · intro i j vi vj s' Q' E' hi hj hq
    have hi' : vs[i]? = some vi := by simpa using hi
    have hj' : vs[j]? = some vj := by simpa using hj
    obtain ⟨xi, ti, ei, rfl⟩ := ra.at_str hi'
    obtain ⟨xj, tj, ej, rfl⟩ := ra.at_str hj'
    rw [List.getElem?_map] at ei ej
    obtain ⟨li, eli, rfl⟩ := Option.map_eq_some_iff.mp ei
    obtain ⟨lj, elj, rfl⟩ := Option.map_eq_some_iff.mp ej
    refine richCompare_gives (op := .Gt) (typeIs_str _ _ _) (typeIs_str _ _ _) PySem.F.slot_str_gt PySem.F.entry_str_gt (PySem.F.args_str_gt_2 _ _) (gives_str_gt _ _ _ _) (fun e => nomatch e) ?_
    have e1 : ls.getD i [] = li := by simp [eli]
    have e2 : ls.getD j [] = lj := by simp [elj]
    dsimp only at hq
    rw [e1, e2] at hq
    exact hq
  · intro v h'' tk hP hk
    have hb := best_max ls ls.length (vs.toArray.size - 1)
    rw [List.size_toArray, hlen] at hb hP
    have hv : vs[argBest (fun i j => decide (ls.getD j [] < ls.getD i [])) (ls.length - 1)]? = some v := by simpa using hP
    obtain ⟨x, t, ex, rfl⟩ := ra.at_str hv
    rw [List.getElem?_map] at ex
    obtain ⟨m, em, rfl⟩ := Option.map_eq_some_iff.mp ex
    have e1 : ls.getD (argBest (fun i j => decide (ls.getD j [] < ls.getD i [])) (ls.length - 1)) [] = m := by rw [List.getD_eq_getElem?_getD, em]; rfl
    refine q m t h'' tk (fun b o e => ?_) (List.mem_of_getElem? em) (fun y hy hlt => ?_)
    · exact (k b o e).step fun o' e' => hk b o' (fun hw => by have := hwr b hw; rw [show s.heap.get? b = none from this] at e; cases e) e'
    · obtain ⟨j, hj, ej⟩ := List.getElem_of_mem hy
      have := hb.2 j (by omega)
      rw [e1] at this
      exact this (by simpa [hj, ej] using hlt)

theorem depth_strs (o : List (List Nat)) : PyData.depthAll ((o.map S).map PyData.str) = 0 := by
  induction o with
  | nil => rfl
  | cons a o ih => rw [List.map_cons, List.map_cons]; unfold PyData.depthAll PyData.depth; rw [ih]; rfl
theorem inLL {P : Addr → Prop} {v : Value} {o : List (List Nat)} {x : List Nat} {t : Tok} {n : Nat} {Q : Value → Shared → Prop} (rm : Rm A n) (r : Rep P s.heap v (pyS o)) (h : Nms o) (hx : Lets x)
    (q : Q (.bool (decide (x ∈ o))) s) : wpAny (model prog w) A (compareOp .In (.str (S x) t) v) Q E s := by
  obtain ⟨as, ra⟩ := r.reads
  refine SeqAt.in_list_reads ra (.str _ _) (plDs_lay _ (plSs h)) (plD_lay _ (plS hx)) ?_ (by rw [any_eqv h hx]; exact q)
  rw [depth_strs]; have := rm.units; omega
theorem notInLL {P : Addr → Prop} {v : Value} {o : List (List Nat)} {x : List Nat} {t : Tok} {n : Nat} {Q : Value → Shared → Prop} (rm : Rm A n) (r : Rep P s.heap v (pyS o)) (h : Nms o) (hx : Lets x)
    (q : Q (.bool (!decide (x ∈ o))) s) : wpAny (model prog w) A (compareOp .NotIn (.str (S x) t) v) Q E s := by
  obtain ⟨as, ra⟩ := r.reads
  refine SeqAt.notIn_list_reads ra (.str _ _) (plDs_lay _ (plSs h)) (plD_lay _ (plS hx)) ?_ (by rw [any_eqv h hx]; exact q)
  rw [depth_strs]; have := rm.units; omega

theorem sortL {P : Addr → Prop} {v : Value} {o : List (List Nat)} {Q : Value → Shared → Prop} (r : Rep P s.heap v (pyS o)) (hl : o.length < 64)
    (q : ∀ v' h' (out : List (List Nat)), Keep s.heap h' → out.Perm o → Srt out → Rep (New s.heap) h' v' (pyS out) → Q v' { s with heap := h' }) : wpAny (model prog w) A (call (.builtin "sorted") [v]) Q E s := by
  obtain ⟨D, vs, rfl, _, hD, ra⟩ := r.toList
  have hlen : vs.length = o.length := by have := ra.length; simpa using this
  refine sorted_strs hD (strsAre_of ra) (by omega) (fun out ss' hs hp hso => ?_)
  obtain ⟨e, he⟩ := sortedAll_at s.heap vs out
  refine q _ _ (ss'.map (·.cps.toList)) (.of fun _ _ => sortedAll_old) (by rw [← S_map_back o]; exact hp.map _) (srt_sortedS hso) ?_
  have hpl : (sortedAll s.heap vs out).PlainList (s.heap.objs.size + 1) out.toList.toArray := by rw [Array.toArray_toList]; exact ⟨e, he⟩
  refine Rep.ofList (P := New s.heap) (New.of_size (Nat.le_succ _)) hpl ?_
  rw [map_S_back]
  exact rep_of_strsAre hs
inductive LackI (o1 o2 : List (List Nat)) (D1 D2 R : Addr) (i : Nat) (hz : Heap) (vs : Vs) (cs : Cs) (ms : List (Addr × List Value)) : Prop
  | mk (rv : List Value) (o : Option Value)
      (f0 : vs = ([("one", some (.ref D1)), ("other", some (.ref D2)), ("row", some (.ref R)), ("k", o)] : Vs))
      (f1 : cs = ([] : Cs))
      (f2 : ms = [(R, rv)])
      (f3 : Rep (Nt R) hz (.ref D1) (pyS o1))
      (f4 : Rep (Nt R) hz (.ref D2) (pyS o2))
      (f5 : RepAll Any hz rv (((lackU o1 o2 i).map S).map .str))
      : LackI o1 o2 D1 D2 R i hz vs cs ms
set_option maxHeartbeats 0 in
theorem lack_call {f : Addr} {o1 o2 : List (List Nat)} {v1 v2 : Value} {Q : Value → Shared → Prop} (B : Bs mg mb hb) (k : Keep hb s.heap) (fn : FnAt hb f r23) (rm : Rm A 4)
    (h1 : o1.length ≤ 20) (h2 : o2.length ≤ 20) (m1 : Nms o1) (m2 : Nms o2) (rv1 : Rep Any s.heap v1 (pyS o1)) (rv2 : Rep Any s.heap v2 (pyS o2))
    (q : ∀ v h' tk (out : List (List Nat)), Keep s.heap h' → out.Perm (lackU o1 o2 o1.length) → Srt out → Rep (New s.heap) h' v (pyS out) → Q v { s with heap := h', toks := tk }) :
    wpAny (model prog w) A (call (.ref f) [v1, v2]) Q E s := by
  refine enter (n := 3) (binds := [("one", v1), ("other", v2)]) [("one", some v1), ("other", some v2), ("row", none), ("k", none)] [] [] rm k fn B.lim (fun _ _ _ => rfl) fun h₁ tk cd F rm' => ?_
  generalize hA : A.deeper _ = A' at rm'
  have llen := ld_builtin (M := model prog w) (env := envOfC r23.name r23.scope s.heap.objs.size f cd) B.g B.b B.blen.1 B.blen.2
  have lran := ld_builtin (M := model prog w) (env := envOfC r23.name r23.scope s.heap.objs.size f cd) B.g B.b B.brange.1 B.brange.2
  have lmax := ld_builtin (M := model prog w) (env := envOfC r23.name r23.scope s.heap.objs.size f cd) B.g B.b B.bmax.1 B.bmax.2
  have lsrt := ld_builtin (M := model prog w) (env := envOfC r23.name r23.scope s.heap.objs.size f cd) B.g B.b B.bsorted.1 B.bsorted.2
  repeat walk_at "ev"
  refine lnew (by rw [sizeLine_eq]; exact Nat.le_of_ble_eq_true rfl) (fun R h₂ k₂ nR pR => ?_)
  have F₂ := F.keep k₂
  have nR0 : New s.heap R := New.back F.kb R nR
  have nRo : R ∉ owned (envOfC r23.name r23.scope s.heap.objs.size f cd).locals ([] : Cs) ([] : List (Addr × List Value)) := fun m => by
    obtain ⟨o, ho⟩ := F.live m
    rw [show h₁.get? R = none from nR] at ho; cases ho
  have F₃ := (F₂.own pR nRo nR0).now
  dsimp only [List.nil_append] at F₃
  have K₂ : Keep s.heap h₂ := F₂.kb
  have hne : ∀ {a : Addr}, (Any a ∧ ∃ o, s.heap.get? a = some o) → a ≠ R := fun l e => by
    obtain ⟨_, o, ho⟩ := l
    rw [e, show s.heap.get? R = none from nR0] at ho; cases ho
  obtain ⟨D1, u1, rfl, _, hu1, ra1⟩ := rv1.toList
  obtain ⟨D2, u2, rfl, _, hu2, ra2⟩ := rv2.toList
  have lu1 : u1.length = o1.length := by have := ra1.length; simpa using this
  have lu2 : u2.length = o2.length := by have := ra2.length; simpa using this
  have rp1 : Rep (Nt R) h₂ (.ref D1) (pyS o1) := (rv1.live.weak fun _ p => hne p).keep K₂
  have rp2 : Rep (Nt R) h₂ (.ref D2) (pyS o2) := (rv2.live.weak fun _ p => hne p).keep K₂
  repeat walk_at "ev"
  rename_i h₄ F₅
  refine for_stmt (hb := s.heap) (hs := s.heap) rm'.hd [s.heap.objs.size, R]
    (LackI o1 o2 D1 D2 R) ?_ ?_
  · rintro i hz vs cs ms ⟨rv, o, rfl, rfl, rfl, _⟩
    rfl
  have rq1 := F₅.repm rp1
  obtain ⟨_, w1, e, _, hw1, rw1⟩ := rq1.toList
  cases e
  have lw1 : w1.length = o1.length := by have := rw1.length; simpa using this
  repeat walk_at "ev"
  refine lenL hw1 (by rw [List.size_toArray]; omega) (fun t₅ tk₅ => ?_)
  repeat walk_at "ev"
  rw [List.size_toArray, lw1]
  refine range1n (by omega) (fun r h₆ tk₆ k₆ nr it => ?_)
  refine ⟨o1.length, _, _, _, _, _, it, (F₅.keep k₆).now, ⟨_, _, rfl, rfl, rfl, rq1.keep k₆, (F₅.repm rp2).keep k₆, .nil⟩, F₅.fresh nr, ?_, ?_⟩
  · rintro i v' hs' hz' h tk vs cs ms hi ⟨ti, rfl⟩ ⟨rv, o, rfl, rfl, rfl, r1, r2, rR⟩ F₇
    iterate 4 walk_at "ev"
    rename_i h₈ F₈
    have q1 := F₈.repm r1
    have q2 := F₈.repm r2
    obtain ⟨_, w1, e, _, hw1, rw1⟩ := q1.toList
    cases e
    obtain ⟨_, w2, e, _, hw2, rw2⟩ := q2.toList
    cases e
    have lw1 : w1.length = o1.length := by have := rw1.length; simpa using this
    have lw2 : w2.length = o2.length := by have := rw2.length; simpa using this
    have hi' : i < w1.length := by omega
    have hv1 : w1[i]? = some w1[i] := List.getElem?_eq_getElem hi'
    obtain ⟨y, ty, hy, ev⟩ := rw1.at_str hv1
    rw [List.getElem?_map] at hy
    obtain ⟨x, hx, rfl⟩ := Option.map_eq_some_iff.mp hy
    rw [ev] at hv1
    have mx := m1 x (List.mem_of_getElem? hx)
    refine wpAny_mono (Q := fun b s' => b = lackB o1 o2 i ∧ ∃ h' tk', s' = { s with heap := h', toks := tk' } ∧ Keep h₈ h') (E := fun _ _ => False) ?test (fun b s' hb => ?_) (fun _ _ e => e.elim)
    case test =>
      repeat walk_at "ev"
      refine litem hw1 hv1 (by omega) ?_ rfl
      repeat walk_at "ev"
      refine notInLL rm' q2 m2 mx.2 ?_
      iterate 1 walk_at "ev"
      have hL : lackB o1 o2 i = (!decide (x ∈ o2) && (!decide (x ∈ o1.take i) || decide (o2 = []) || o2.all fun y => decide (y < x))) := by
        unfold lackB; rw [hx]
      by_cases c1 : x ∈ o2
      · rw [decide_eq_true c1] at hL ⊢
        exact ⟨hL.symm, _, _, rfl, Keep.rfl'⟩
      rw [decide_eq_false c1] at hL ⊢
      simp only [Bool.not_false, Bool.true_and, if_true] at hL ⊢
      repeat walk_at "ev"
      refine litem hw1 hv1 (by omega) ?_ rfl
      repeat walk_at "ev"
      refine slT_list hw1 .none (.int _ _) (by rw [sizeLine_eq]; omega) (fun D' h₉ k₉ n₉ p₉ => ?_)
      rw [cut_upto] at p₉
      have r₉ : Rep Any h₉ (.ref D') (pyS (o1.take i)) := Rep.ofList (P := Any) trivial p₉ (by rw [List.map_take, List.map_take]; exact (strsM rw1).take i)
      repeat walk_at "ev"
      refine notInLL rm' r₉ (fun n hn => m1 n (List.mem_of_mem_take hn)) mx.2 ?_
      iterate 1 walk_at "ev"
      by_cases c2 : x ∈ o1.take i
      · rw [decide_eq_true c2] at hL ⊢
        simp only [Bool.not_true, Bool.false_or, Bool.false_eq_true, if_false] at hL ⊢
        repeat walk_at "ev"
        refine lnew (by rw [sizeLine_eq]; exact Nat.le_of_ble_eq_true rfl) (fun D₄ h₁₀ k₁₀ n₁₀ p₁₀ => ?_)
        have q2' := (q2.keep k₉).keep k₁₀
        refine eqData rm' q2' (Rep.ofList (P := Any) trivial p₁₀ .nil) (plSs m2) rfl (by
          show PyData.depth (.list _) ≤ 100
          unfold PyData.depth
          rw [depth_strs]; decide) (fun c hc => ?_)
        have c3 : c = decide (o2 = []) := by
          rw [Bool.eq_iff_iff, hc, decide_eq_true_iff]
          constructor
          · intro e
            injection e with e
            have := List.map_eq_nil_iff.mp e
            exact List.map_eq_nil_iff.mp this
          · rintro rfl; rfl
        subst c3
        iterate 1 walk_at "ev"
        by_cases c3 : o2 = []
        · rw [decide_eq_true c3] at hL ⊢
          simp only [Bool.true_or, if_true] at hL ⊢
          repeat walk_at "ev"
          exact ⟨hL.symm, _, _, rfl, k₉.trans k₁₀⟩
        rw [decide_eq_false c3] at hL ⊢
        simp only [Bool.false_or, Bool.false_eq_true, if_false] at hL ⊢
        repeat walk_at "ev"
        refine litem (kList (kList hw1 k₉) k₁₀) hv1 (by omega) ?_ rfl
        repeat walk_at "ev"
        have q2'' := q2'.toList
        obtain ⟨_, z2, e, _, hz2, rz2⟩ := q2''
        cases e
        refine maxS rm'.hd hz2 rz2 c3 (fun mm tm h₁₁ tk₁₁ k₁₁ mm1 mm2 => ?_)
        have c4 : (o2.all fun y => decide (y < x)) = decide (mm < x) := by
          rw [Bool.eq_iff_iff, List.all_eq_true, decide_eq_true_iff]
          constructor
          · intro hh; exact of_decide_eq_true (hh mm mm1)
          · intro hh y hy
            exact decide_eq_true (wle_lt (mm2 y hy) hh)
        rw [c4] at hL
        refine PySem.P.gt_str ?_
        iterate 1 walk_at "ev"
        show if decide (mm < x) = true then _ else _
        by_cases c5 : mm < x
        · rw [decide_eq_true c5] at hL ⊢
          simp only [if_true]
          repeat walk_at "ev"
          exact ⟨hL.symm, _, _, rfl, (k₉.trans k₁₀).trans k₁₁⟩
        · rw [decide_eq_false c5] at hL ⊢
          simp only [Bool.false_eq_true, if_false]
          repeat walk_at "ev"
          exact ⟨hL.symm, _, _, rfl, (k₉.trans k₁₀).trans k₁₁⟩
      · rw [decide_eq_false c2] at hL ⊢
        simp only [Bool.not_false, Bool.true_or, if_true] at hL ⊢
        repeat walk_at "ev"
        exact ⟨hL.symm, _, _, rfl, k₉⟩
    obtain ⟨rfl, h₂₀, tk₂₀, rfl, k₂₀⟩ := hb
    have F₂₀ := F₈.keep k₂₀
    have lR : rv.length = (lackU o1 o2 i).length := by have := rR.length; simpa using this
    have lR' : (lackU o1 o2 i).length ≤ 20 := by
      refine Nat.le_trans (List.length_filterMap_le _ _) ?_
      rw [List.length_range]; omega
    cases hB : lackB o1 o2 i with
    | true =>
      simp only [if_true]
      repeat walk_at "ev"
      refine gml PySem.F.slot_list_append PySem.F.type_list_append (F₂₀.mls (R, rv) (by simp)) ?_
      repeat walk_at "ev"
      refine litem (kList hw1 k₂₀) hv1 (by omega) ?_ rfl
      repeat walk_at "ev"
      show wpAny _ _ (call (.builtin "list.append") [.ref R, .str (S x) ty]) _ _ _
      refine F₂₀.app (l := rv) (by simp) PutM.here (by rw [sizeLine_eq]; omega) (fun g6 F₂₁ => ?_)
      repeat walk_at "ev"
      refine ⟨rfl, _, _, _, _, _, _, rfl, ⟨rv ++ [.str (S x) ty], _, rfl, rfl, rfl, r1, r2, ?_⟩, F₂₁⟩
      rw [lackU_succ, hB, hx]
      simp only [if_true, Option.toList_some, List.map_append, List.map_cons, List.map_nil]
      exact rR.snoc (.str _ _)
    | false =>
      simp only [Bool.false_eq_true, if_false]
      repeat walk_at "ev"
      refine ⟨rfl, _, _, _, _, _, _, rfl, ⟨rv, _, rfl, rfl, rfl, r1, r2, ?_⟩, F₂₀⟩
      rw [lackU_succ, hB]
      simpa using rR
  · rintro hz' h tk vs cs ms ⟨rv, o, rfl, rfl, rfl, r1, r2, rR⟩ F₇
    repeat walk_at "ev"
    have lrv : rv.length = (lackU o1 o2 o1.length).length := by have := rR.length; simpa using this
    have llk : (lackU o1 o2 o1.length).length ≤ 20 := by
      refine Nat.le_trans (List.length_filterMap_le _ _) ?_
      rw [List.length_range]; exact h1
    refine sortL (Rep.ofList (P := Any) trivial (vs := rv) (F₇.mls (R, rv) (by simp)) (strsM rR)) (by omega) (fun v' h' out k' hp hs r' => ?_)
    repeat walk_at "ev"
    exact q _ _ _ _ (F₇.keep k').kb hp hs (r'.weak (New.back F₇.kb))
end
/-- a heap without the object at a -/
noncomputable def woA (h : Heap) (a : Addr) : Heap := h.update a fun o => { o with data := .freed }
theorem woA_get (h : Heap) (a b : Addr) : (woA h a).get? b = if b = a then none else h.get? b := by
  unfold woA
  by_cases e : b = a
  · subst e
    rw [if_pos rfl]
    unfold Heap.update Heap.get?
    show (match (h.objs.modify b _)[b]? with | some ⟨_, _, .freed, _⟩ => none | o => o) = none
    rw [Array.getElem?_modify]
    simp only [if_true]
    cases h.objs[b]? <;> rfl
  · rw [if_neg e]
    exact Heap.get?_update_other _ _ (Ne.symm e)
theorem woA_some {h : Heap} {a b : Addr} {o : Obj} (e : (woA h a).get? b = some o) : b ≠ a ∧ h.get? b = some o := by
  rw [woA_get] at e
  by_cases q : b = a
  · rw [if_pos q] at e; cases e
  · rw [if_neg q] at e; exact ⟨q, e⟩
theorem woA_none {h : Heap} {a b : Addr} (e : h.get? b = none) : (woA h a).get? b = none := by
  rw [woA_get]; split
  · rfl
  · exact e
theorem woA_self {h : Heap} {a : Addr} : (woA h a).get? a = none := by rw [woA_get, if_pos rfl]

/-- h₀ but for the slots of the frame at K -/
noncomputable def Snap (h₀ : Heap) (K : Addr) (hs : Heap) : Prop := (∀ a, a ≠ K → hs.get? a = h₀.get? a) ∧ ∃ o sl, h₀.get? K = some o ∧ hs.get? K = some { o with slots := sl }
theorem Snap.self {h₀ : Heap} {K : Addr} {o : Obj} (e : h₀.get? K = some o) : Snap h₀ K h₀ := ⟨fun _ _ => rfl, o, o.slots, e, e⟩

/-- what an exception's step turns: the slots of frames, and what stands in wr -/
structure Chg (Ls wr : List Addr) (h h' : Heap) : Prop where
  old : ∀ b o, b ∉ wr → b ∉ Ls → h.get? b = some o → h'.get? b = some o
  fr : ∀ b ∈ Ls, ∀ o, h.get? b = some o → ∃ sl, h'.get? b = some { o with slots := sl }
theorem Chg.refl {Ls wr : List Addr} {h : Heap} : Chg Ls wr h h := ⟨fun _ _ _ _ e => e, fun _ _ o e => ⟨o.slots, e⟩⟩
theorem Chg.trans {Ls wr : List Addr} {a b c : Heap} (x : Chg Ls wr a b) (y : Chg Ls wr b c) : Chg Ls wr a c :=
  ⟨fun d o h1 h2 e => y.old d o h1 h2 (x.old d o h1 h2 e), fun d hd o e => let ⟨_, e1⟩ := x.fr d hd o e; let ⟨sl, e2⟩ := y.fr d hd _ e1; ⟨sl, e2⟩⟩
theorem Chg.mono {Ls wr wr' : List Addr} {h h' : Heap} (x : Chg Ls wr h h') (m : ∀ b ∈ wr, b ∈ wr') : Chg Ls wr' h h' :=
  ⟨fun b o h1 h2 e => x.old b o (fun q => h1 (m b q)) h2 e, x.fr⟩

theorem isSeq_slots {o : Obj} {sl : Array (Option Value)} : isSeq { o with slots := sl } = isSeq o := rfl

theorem Fm.chg {hb h₀ hs hz h h' : Heap} {L K : Addr} {vs : List (Str × Option Value)} {cs : List (Str × Addr × Option Value)} {ms : List (Addr × List Value)} {wr : List Addr}
    (F : Fm hb hs hz h L vs cs ms) (sn : Snap h₀ K hs) (nK : K ∉ owned L cs ms) (hK : hb.get? K = none) (dK : ∀ o, h₀.get? K = some o → ∃ es n, o.data = .dict es n) (c : Chg [L, K] wr h h')
    (hw : ∀ b ∈ wr, hb.get? b = none ∧ h₀.get? b = none ∧ ∀ o, h.get? b = some o → ∃ ws, o.data = .fields ws) :
    ∃ hs', Snap h₀ K hs' ∧ Fm hb hs' hz h' L vs cs ms := by
  obtain ⟨sn1, oK, slK, eK, eK'⟩ := sn
  have nd := F.nd
  have wo : ∀ b ∈ wr, b ∉ owned L cs ms := fun b hbw hbo => by
    obtain ⟨_, _, hd⟩ := hw b hbw
    rcases List.mem_cons.mp hbo with rfl | hbo
    · obtain ⟨m, ⟨o, es, ep, ho, hod, _⟩, _⟩ := F.loc
      obtain ⟨ws, hws⟩ := hd o ho
      rw [hod] at hws; cases hws
    · rcases List.mem_append.mp hbo with hbo | hbo
      · obtain ⟨⟨x, c', v⟩, hm, rfl⟩ := List.mem_map.mp hbo
        obtain ⟨o, ho, hod⟩ := F.cel x c' v hm
        obtain ⟨ws, hws⟩ := hd o ho
        rw [hod] at hws; cases hws
      · obtain ⟨p, hp, rfl⟩ := List.mem_map.mp hbo
        obtain ⟨n, ho⟩ := F.mls p hp
        obtain ⟨ws, hws⟩ := hd _ ho
        cases hws
  have nKL : K ≠ L := fun q => nK (q ▸ mem_own_L)
  obtain ⟨ndL, _⟩ := List.nodup_cons.mp nd
  -- K now
  have kK : h.get? K = some { oK with slots := slK } := by
    obtain ⟨es, n, hd⟩ := dK oK eK
    exact (F.k0 K _ nK eK').get (ne_dat (d := .dict es n) hd (fun q => by cases q))
  have hfr : ∀ {sl : Array (Option Value)}, ({ oK with slots := sl } : Obj).isFreed = false := fun {sl} => by
    obtain ⟨es, n, hd⟩ := dK oK eK
    obtain ⟨c0, d0, dt0, s0⟩ := oK
    obtain rfl : dt0 = _ := hd
    rfl
  have hsq : isSeq oK = false := by
    obtain ⟨es, n, hd⟩ := dK oK eK
    unfold isSeq; rw [hd]
  obtain ⟨slK', eK2⟩ := c.fr K (by simp) _ kK
  have other : ∀ b o, b ∉ owned L cs ms → b ≠ K → (b ∉ wr) → h.get? b = some o → h'.get? b = some o := fun b o h1 h2 h3 e =>
    c.old b o h3 (by
      simp only [List.mem_cons, List.not_mem_nil, or_false]
      rintro (q | q)
      · exact h1 (q ▸ mem_own_L)
      · exact h2 q) e
  have mine : ∀ b o, b ∈ owned L cs ms → b ≠ L → h.get? b = some o → h'.get? b = some o := fun b o h1 h2 e =>
    c.old b o (fun q => wo b q h1) (by
      simp only [List.mem_cons, List.not_mem_nil, or_false]
      rintro (q | q)
      · exact h2 q
      · exact nK (q ▸ h1)) e
  refine ⟨h₀.update K (fun o => { o with slots := slK' }), ⟨fun a ha => Heap.get?_update_other _ _ (Ne.symm ha), oK, slK', eK, ?_⟩, ?_⟩
  · exact Heap.get?_update_self _ eK hfr
  exact {
    loc := by
      obtain ⟨m, ⟨o, es, ep, ho, hod, r⟩, a⟩ := F.loc
      obtain ⟨sl, e⟩ := c.fr L (by simp) o ho
      exact ⟨m, ⟨_, es, ep, e, hod, r⟩, a⟩
    nv := F.nv
    cel := fun x c' v m => by
      obtain ⟨o, ho, hd⟩ := F.cel x c' v m
      have hc : c' ∈ cs.map (·.2.1) := List.mem_map_of_mem (f := (·.2.1)) m
      exact ⟨o, mine _ o (mem_own_c hc) (fun q => ndL (List.mem_append_left _ (q ▸ hc))) ho, hd⟩
    mls := fun p m => by
      have hc : p.1 ∈ ms.map (·.1) := List.mem_map_of_mem (f := (·.1)) m
      exact (F.mls p m).at fun o e => mine _ o (mem_own_m hc) (fun q => ndL (List.mem_append_right _ (q ▸ hc))) e
    kb := fun a o e => (F.kb a o e).step fun o' e' => c.old a o' (fun q => by rw [(hw a q).1] at e; cases e) (by
      simp only [List.mem_cons, List.not_mem_nil, or_false]
      rintro (q | q)
      · rw [q, F.ob L mem_own_L] at e; cases e
      · rw [q, hK] at e; cases e) e'
    ob := F.ob
    k0 := fun a o na e => by
      by_cases q : a = K
      · subst q
        rw [Heap.get?_update_self (fun o => { o with slots := slK' }) eK hfr] at e
        cases e
        exact .inl eK2
      · rw [Heap.get?_update_other _ _ (Ne.symm q)] at e
        have e' : hs.get? a = some o := (sn1 a q).trans e
        exact (F.k0 a o na e').step fun o' e'' => other a o' na q (fun w => by rw [(hw a w).2.1] at e; cases e) e''
    kz := fun a o na e q => by
      have e1 := F.kz a o na e q
      by_cases q1 : a = K
      · subst q1
        rw [kK] at e1
        cases e1
        rw [isSeq_slots, hsq] at q
        cases q
      · by_cases q2 : a ∈ owned L cs ms
        · by_cases q3 : a = L
          · subst q3
            obtain ⟨o', ho', hq⟩ := F.live_L
            rw [ho'] at e1; cases e1
            rw [q] at hq; cases hq
          · exact mine a o q2 q3 e1
        · exact other a o q2 q1 (fun w => by
            obtain ⟨_, _, hd⟩ := hw a w
            obtain ⟨ws, hws⟩ := hd o e1
            unfold isSeq at q
            rw [hws] at q; cases q) e1
    nd := F.nd }
structure Kx (hb h₀ : Heap) (K : Addr) : Prop where
  hK : hb.get? K = none
  dK : ∀ o, h₀.get? K = some o → ∃ es n, o.data = .dict es n
  sub : ∀ b, h₀.get? b = none → hb.get? b = none
noncomputable def Fx (hb h₀ hz h : Heap) (K L : Addr) (vs : List (Str × Option Value)) (cs : List (Str × Addr × Option Value)) (ms : List (Addr × List Value)) : Prop :=
  K ∉ owned L cs ms ∧ ∃ hs, Snap h₀ K hs ∧ Fm hb hs hz h L vs cs ms

section
variable {hb h₀ h₁ hz hz' h h' : Heap} {K L : Addr} {vs vs' : List (Str × Option Value)} {cs cs' : List (Str × Addr × Option Value)} {ms ms' : List (Addr × List Value)}
theorem Fx.chg (kx : Kx hb h₀ K) (x : Fx hb h₀ hz h K L vs cs ms) {wr : List Addr} (c : Chg [L, K] wr h h') (hw : ∀ b ∈ wr, h₀.get? b = none ∧ ∀ o, h.get? b = some o → ∃ ws, o.data = .fields ws) :
    Fx hb h₀ hz h' K L vs cs ms := by
  obtain ⟨nK, hs, sn, F⟩ := x
  exact ⟨nK, F.chg sn nK kx.hK kx.dK c fun b hb => ⟨kx.sub b (hw b hb).1, hw b hb⟩⟩
theorem Fx.kK (kx : Kx hb h₀ K) (x : Fx hb h₀ hz h K L vs cs ms) : ∃ o, h.get? K = some o ∧ ∃ es n, o.data = .dict es n := by
  obtain ⟨nK, hs, ⟨sn1, oK, slK, eK, eK'⟩, F⟩ := x
  obtain ⟨es, n, hd⟩ := kx.dK oK eK
  exact ⟨_, (F.k0 K _ nK eK').get (ne_dat (d := .dict es n) hd (fun q => by cases q)), es, n, hd⟩
theorem Fx.new (kx : Kx hb h₀ K) (x : Fx hb h₀ hz h K L vs cs ms) {T : Addr} (e : h.get? T = none) : h₀.get? T = none := by
  obtain ⟨o', ho', _⟩ := x.kK kx
  obtain ⟨nK, hs, ⟨sn1, oK, slK, eK, eK'⟩, F⟩ := x
  by_cases q : T = K
  · subst q; rw [ho'] at e; cases e
  · by_cases q2 : T ∈ owned L cs ms
    · obtain ⟨o, ho⟩ := F.live q2; rw [ho] at e; cases e
    · cases e0 : h₀.get? T with
      | none => rfl
      | some o =>
        obtain ⟨o2, ho2⟩ := (F.k0 T o q2 ((sn1 T q).trans e0)).live
        rw [e] at ho2; cases ho2
theorem Fx.self (kx : Kx hb h₀ K) (x : Fx hb h₀ hz h K L vs cs ms) : Kx hb h K ∧ Fx hb h hz h K L vs cs ms := by
  obtain ⟨o, ho, es, n, hd⟩ := x.kK kx
  have nw := fun T (e : h.get? T = none) => x.new kx e
  obtain ⟨nK, hs, sn, F⟩ := x
  exact ⟨⟨kx.hK, fun o' e => by rw [ho] at e; cases e; exact ⟨es, n, hd⟩, fun b e => kx.sub b (nw b e)⟩, nK, h, Snap.self ho, F.here⟩
/-- what stood at h₁ stands yet -/
theorem Fx.get (x : Fx hb h₁ hz h K L vs cs ms) {a : Addr} {o : Obj} (e : h₁.get? a = some o) (nK : a ≠ K) (no : a ∉ owned L cs ms) (nt : o ≠ tab0) : h.get? a = some o := by
  obtain ⟨_, hs, ⟨sn1, _⟩, F⟩ := x
  exact (F.k0 a o no ((sn1 a nK).trans e)).get nt
theorem Fx.up (kx : Kx hb h₀ K) (x1 : Fx hb h₀ hz h₁ K L vs cs ms) (x2 : Fx hb h₁ hz' h K L vs' cs' ms') (own : owned L cs ms = owned L cs' ms') : Fx hb h₀ hz' h K L vs' cs' ms' := by
  obtain ⟨nK1, hs1, ⟨sa, oK, slK, eK, eK'⟩, F1⟩ := x1
  obtain ⟨nK2, hs2, ⟨sb, oK2, slK2, eK2, eK2'⟩, F2⟩ := x2
  obtain ⟨es, n, hd⟩ := kx.dK oK eK
  have e1 := (F1.k0 K _ nK1 eK').get (ne_dat (d := .dict es n) hd (fun q => by cases q))
  rw [eK2] at e1
  cases e1
  have e2 := (F2.k0 K _ nK2 eK2').get (ne_dat (d := .dict es n) hd (fun q => by cases q))
  have hfr : ∀ {sl : Array (Option Value)}, ({ oK with slots := sl } : Obj).isFreed = false := fun {sl} => by
    obtain ⟨c0, d0, dt0, s0⟩ := oK
    obtain rfl : dt0 = _ := hd
    rfl
  refine ⟨nK2, h₀.update K (fun o => { o with slots := slK2 }), ⟨fun a ha => Heap.get?_update_other _ _ (Ne.symm ha), oK, slK2, eK, Heap.get?_update_self _ eK hfr⟩, { F2 with k0 := fun a o na e => ?_ }⟩
  by_cases q : a = K
  · subst q
    rw [Heap.get?_update_self (fun o => { o with slots := slK2 }) eK hfr] at e
    cases e
    exact .inl e2
  · rw [Heap.get?_update_other _ _ (Ne.symm q)] at e
    exact (F1.k0 a o (own ▸ na) ((sa a q).trans e)).thr fun o' e' => F2.k0 a o' na ((sb a q).trans e')

/-- the exception at e: its context c2, what its traceback's head says (none: it has none yet) -/
noncomputable def ExcAt (h₀ h : Heap) (e : Addr) (X : String) (c2 : Value) (fl : Option Value) : Prop :=
  h₀.get? e = none ∧ ∃ oe ws, h.get? e = some oe ∧ oe.cls = .type X ∧ oe.data = .fields ws ∧ ws[2]? = some c2 ∧
    match fl with
    | none => ws[1]? = some .none
    | some f => ∃ T oT ts, ws[1]? = some (.ref T) ∧ h₀.get? T = none ∧ T ≠ e ∧ h.get? T = some oT ∧ oT.data = .fields ts ∧ ts[3]? = some f
theorem Fx.exc (x : Fx hb h₁ hz h K L vs cs ms) (kx : Kx hb h₁ K) {e : Addr} {X : String} {c2 : Value} {f : Value} (y : ExcAt h₀ h₁ e X c2 (some f)) (hx : Fx hb h₁ hz' h₁ K L vs' cs' ms') (own : owned L cs' ms' = owned L cs ms) : ExcAt h₀ h e X c2 (some f) := by
  obtain ⟨h0, oe, ws, he, hc, hd, h2, T, oT, ts, h1, hT0, hTe, hT, hdT, h3⟩ := y
  have nn : ∀ {a : Addr} {o : Obj} {w : Array Value}, h₁.get? a = some o → o.data = .fields w → a ≠ K ∧ a ∉ owned L cs ms := fun {a o w} ea hw => by
    obtain ⟨_, hs1, _, F1⟩ := id hx
    refine ⟨fun q => ?_, fun q => ?_⟩
    · obtain ⟨oK, hoK, es, n, hdK⟩ := hx.kK kx
      subst q; rw [ea] at hoK; cases hoK; rw [hw] at hdK; cases hdK
    · rw [← own] at q
      rcases List.mem_cons.mp q with rfl | q
      · obtain ⟨m, ⟨o', es, ep, ho, hod, _⟩, _⟩ := F1.loc
        rw [ea] at ho; cases ho; rw [hw] at hod; cases hod
      · rcases List.mem_append.mp q with q | q
        · obtain ⟨⟨xx, c', v⟩, hm, rfl⟩ := List.mem_map.mp q
          obtain ⟨o', ho, hod⟩ := F1.cel xx c' v hm
          rw [ea] at ho; cases ho; rw [hw] at hod; cases hod
        · obtain ⟨p, hp, rfl⟩ := List.mem_map.mp q
          obtain ⟨n, ho⟩ := F1.mls p hp
          rw [ea] at ho; cases ho; cases hw
  refine ⟨h0, oe, ws, x.get he (nn he hd).1 (nn he hd).2 (ne_typ hc), hc, hd, h2, T, oT, ts, h1, hT0, hTe, x.get hT (nn hT hdT).1 (nn hT hdT).2 (ne_dat hdT fun q => ?_), hdT, h3⟩
  injection q with q
  rw [q] at h3; simp at h3
end

structure Frs (A : Around) (env env2 : Env) (L K : Addr) : Prop where
  hfr : A.frames = some [env, env2]
  f1 : env.frame = some L
  f2 : env2.frame = some K
  k1 : env.scope.kind ≠ .module
  k2 : env2.scope.kind ≠ .module
theorem Frs.mark {A : Around} {env env2 : Env} {L K : Addr} (f : Frs A env env2 L K) (v : Option Value) : Frs (A.mark v) env env2 L K := ⟨f.hfr, f.f1, f.f2, f.k1, f.k2⟩

section
variable {prog : Program} {w : World} {M : Model} {A : Around} {E : Value → Shared → Prop} {s : Shared} {env env2 : Env} {hb h₀ hz : Heap} {K L e : Addr} {X : String} {c2 : Value}
  {vs : List (Str × Option Value)} {cs : List (Str × Addr × Option Value)} {ms : List (Addr × List Value)}

theorem Fx.frames (kx : Kx hb h₀ K) (x : Fx hb h₀ hz s.heap K L vs cs ms) (fr : Frs A env env2 L K) : s.heap.FunFrames hb [env, env2] := by
  obtain ⟨oK, hoK, es, n, hdK⟩ := x.kK kx
  obtain ⟨_, _, _, F⟩ := x
  obtain ⟨m, ⟨o', es', ep, ho, hod, _⟩, _⟩ := F.loc
  exact ⟨fr.k1, ⟨L, o', fr.f1, F.ob L mem_own_L, ho, fun vs q => by rw [hod] at q; cases q⟩, fr.k2, ⟨K, oK, fr.f2, kx.hK, hoK, fun vs q => by rw [hdK] at q; cases q⟩, trivial⟩

theorem note1 {Q : Unit → Shared → Prop} (kx : Kx hb h₀ K) (x : Fx hb h₀ hz s.heap K L vs cs ms) (fr : Frs A env env2 L K) (ex : ExcAt h₀ s.heap e X c2 none)
    (q : ∀ h', Fx hb h₀ hz h' K L vs cs ms → ExcAt h₀ h' e X c2 (some (rawInt L)) → Q () { s with heap := h' }) : wpAny M A (noteFrame (.ref e) env) Q E s := by
  have hl := x.frames kx fr
  have nw := fun T (e : s.heap.get? T = none) => x.new kx e
  obtain ⟨he0, oe, ws, he, hc, hd, h2, h1⟩ := ex
  have hsz : 1 < ws.size := (Array.getElem?_eq_some_iff.mp h1).1
  have hfm : [env, env2].filterMap (·.frame) = [L, K] := by simp [fr.f1, fr.f2]
  have hene : e ∉ [L, K] := fun hm => by
    rw [← hfm] at hm
    obtain ⟨_, o, ho, hnf⟩ := hl.mem hm
    rw [he] at ho; injection ho with ho; subst ho; exact hnf ws hd
  unfold noteFrame
  simp only [fr.f1]
  refine wpAny_bind (wpAny_field he hd h1 ?_)
  rw [if_neg (by decide)]
  refine wpAny_bind (wpAny_frameOf_fun fr.hfr hl fr.f1 fun h₁ hs₁ => ?_)
  rw [hfm] at hs₁
  refine wpAny_bind (wpAny_entryPlaceOf fun pl hpl => ?_)
  unfold EntryCells.newEntry newFields
  refine wpAny_bind (wpAny_newObj_type ?_ (hpl.sizeOk5 _ _ _ _ _))
  have he₁ : h₁.get? e = some oe := (hs₁.2.1 e hene).trans he
  have he₂ := Heap.get?_push_of_some (h := h₁) { cls := .type "traceback", dict := none, data := .fields ([Value.none, .ref L, .none, rawInt L, .none] ++ (if pl.isEmpty then List.replicate 6 Value.none else pl)).toArray } he₁
  have hTe : h₁.objs.size ≠ e := Nat.ne_of_gt (Heap.lt_size he₁)
  have hd₃ := Obj.data_mapFields hd (·.setIfInBounds 1 (Value.ref h₁.objs.size))
  have hT0 : h₀.get? h₁.objs.size = none := nw _ (by rw [hs₁.1]; exact Heap.get?_none_of_le (Nat.le_refl _))
  have hT₃ := (Heap.get?_update_other (h₁.push { cls := .type "traceback", dict := none, data := .fields ([Value.none, .ref L, .none, rawInt L, .none] ++ (if pl.isEmpty then List.replicate 6 Value.none else pl)).toArray })
    (Obj.mapFields (·.setIfInBounds 1 (Value.ref h₁.objs.size))) (Ne.symm hTe)).trans (Heap.get?_push_size h₁ rfl)
  refine wpAny_setField he₂ hd hsz (q _ (Fx.chg kx x (wr := [e]) ⟨fun b o h1 h2 eb => ?_, fun b hbm o eb => ?_⟩ fun b hbm => ?_) ⟨he0, _, _, Heap.get?_update_self _ he₂ (Obj.isFreed_of_fields hd₃), (Obj.cls_mapFields _ _).trans hc, hd₃, ?_, h₁.objs.size, _, _, ?_, hT0, hTe, hT₃, rfl, ?_⟩)
  · rw [Heap.get?_update_other _ _ (fun q => h1 (by rw [← q]; exact List.mem_singleton.mpr rfl))]
    exact Heap.get?_push_of_some _ ((hs₁.2.1 b h2).trans eb)
  · obtain ⟨sl, e1⟩ := hs₁.2.2 b o eb
    refine ⟨sl, ?_⟩
    rw [Heap.get?_update_other _ _ (fun q => hene (by rw [q]; exact hbm))]
    exact Heap.get?_push_of_some _ e1
  · rw [List.mem_singleton.mp hbm]
    exact ⟨he0, fun o eo => by rw [he] at eo; cases eo; exact ⟨_, hd⟩⟩
  · rw [Array.getElem?_setIfInBounds_ne (by decide)]; exact h2
  · simp [hsz]
  · first | (simp; done) | (rcases hpl with rfl | ⟨_, _, _, _, _, _, _, rfl⟩ <;> simp)

theorem note2 {Q : Unit → Shared → Prop} (fr : Frs A env env2 L K) (ex : ExcAt h₀ s.heap e X c2 (some (rawInt L))) (q : Q () s) : wpAny M A (noteFrame (.ref e) env) Q E s := by
  obtain ⟨he0, oe, ws, he, hc, hd, h2, T, oT, ts, h1, hT0, hTe, hT, hdT, h3⟩ := ex
  exact wpAny_noteFrame_inFlight fr.f1 he hd h1 hT hdT h3 q

theorem noteX {Q : Unit → Shared → Prop} {fl : Option Value} (kx : Kx hb h₀ K) (x : Fx hb h₀ hz s.heap K L vs cs ms) (fr : Frs A env env2 L K) (ex : ExcAt h₀ s.heap e X c2 fl) (hfl : fl = none ∨ fl = some (rawInt L))
    (q : ∀ h', Fx hb h₀ hz h' K L vs cs ms → ExcAt h₀ h' e X c2 (some (rawInt L)) → Q () { s with heap := h' }) : wpAny M A (noteFrame (.ref e) env) Q E s := by
  rcases hfl with rfl | rfl
  · exact note1 kx x fr ex q
  · exact note2 fr ex (q s.heap x ex)

theorem setFl {Q : Unit → Shared → Prop} {f : Value} {to : Option Addr} (kx : Kx hb h₀ K) (x : Fx hb h₀ hz s.heap K L vs cs ms) (ex : ExcAt h₀ s.heap e X c2 (some f))
    (q : ∀ h', Fx hb h₀ hz h' K L vs cs ms → ExcAt h₀ h' e X c2 (some (to.elim .none fun f => rawInt f)) → Q () { s with heap := h' }) : wpAny M A (setFlight (.ref e) to) Q E s := by
  obtain ⟨he0, oe, ws, he, hc, hd, h2, T, oT, ts, h1, hT0, hTe, hT, hdT, h3⟩ := ex
  have hsz : 3 < ts.size := (Array.getElem?_eq_some_iff.mp h3).1
  obtain ⟨oK, hoK, es, n, hdK⟩ := x.kK kx
  have hTLK : T ∉ [L, K] := fun hm => by
    obtain ⟨_, _, _, F⟩ := id x
    obtain ⟨m, ⟨o', es', ep, ho, hod, _⟩, _⟩ := F.loc
    simp only [List.mem_cons, List.not_mem_nil, or_false] at hm
    rcases hm with rfl | rfl
    · rw [hT] at ho; cases ho; rw [hdT] at hod; cases hod
    · rw [hT] at hoK; cases hoK; rw [hdT] at hdK; cases hdK
  unfold setFlight
  refine wpAny_bind (wpAny_field he hd h1 ?_)
  rw [if_pos (show (Value.ref T != Value.none) = true from by simp)]
  refine wpAny_setField hT hdT hsz (q _ (Fx.chg kx x (wr := [T]) ⟨fun b o h1 h2 eb => ?_, fun b hbm o eb => ⟨o.slots, ?_⟩⟩ fun b hbm => ?_) ⟨he0, oe, ws, (Heap.get?_update_other _ _ hTe).trans he, hc, hd, h2, T, _, _, h1, hT0, hTe,
    Heap.get?_update_self _ hT (Obj.isFreed_of_fields (Obj.data_mapFields hdT _)), Obj.data_mapFields hdT _, ?_⟩)
  · exact (Heap.get?_update_other _ _ (fun q => h1 (by rw [← q]; exact List.mem_singleton.mpr rfl))).trans eb
  · exact (Heap.get?_update_other _ _ (fun q => hTLK (by rw [q]; exact hbm))).trans eb
  · rw [List.mem_singleton.mp hbm]
    exact ⟨hT0, fun o eo => by rw [hT] at eo; cases eo; exact ⟨_, hdT⟩⟩
  · simp [hsz]

theorem ExcAt.head {h : Heap} {f : Value} (ex : ExcAt h₀ h e X c2 (some f)) : ∃ oe ws T, h.get? e = some oe ∧ oe.data = .fields ws ∧ ws[1]? = some (.ref T) := by
  obtain ⟨he0, oe, ws, he, hc, hd, h2, T, oT, ts, h1, _⟩ := ex
  exact ⟨_, _, _, he, hd, h1⟩

theorem cameB {f : Value} (kx : Kx hb h₀ K) (x : Fx hb h₀ hz s.heap K L vs cs ms) (fr : Frs A env env2 L K) (ex : ExcAt h₀ s.heap e X c2 (some f))
    (q : ∀ h', Fx hb h₀ hz h' K L vs cs ms → ExcAt h₀ h' e X c2 (some (rawInt L)) → E (.ref e) { s with heap := h' }) : cameBackBy M A env E (.ref e) s := by
  obtain ⟨oe, ws, T, he, hd, h1⟩ := ex.head
  unfold cameBackBy
  refine wpAny_bind (wpAny_field he hd h1 ?_)
  rw [if_neg (show ¬ ((Value.ref T == Value.none) = true) from by simp)]
  have fin := fun (Q : Unit → Shared → Prop) (hq : ∀ h', Fx hb h₀ hz h' K L vs cs ms → ExcAt h₀ h' e X c2 (some (rawInt L)) → Q () { s with heap := h' }) => setFl (M := M) (A := A) (E := E) (to := env.frame) (Q := Q) kx x ex (fun h' x' ex' => hq h' x' (by rw [fr.f1] at ex'; exact ex'))
  first
    | exact fin _ q
    | exact wpAny_bind (wpAny_pure (fin _ q))

theorem notedCame {fl : Option Value} {A' : Around} (kx : Kx hb h₀ K) (x : Fx hb h₀ hz s.heap K L vs cs ms) (fr : Frs A env env2 L K) (fr' : Frs A' env env2 L K) (ex : ExcAt h₀ s.heap e X c2 fl) (hfl : fl = none ∨ fl = some (rawInt L))
    (q : ∀ h', Fx hb h₀ hz h' K L vs cs ms → ExcAt h₀ h' e X c2 (some (rawInt L)) → E (.ref e) { s with heap := h' }) : notedBy M A env (cameBackBy M A' env E) (.ref e) s := by
  unfold notedBy
  exact noteX kx x fr ex hfl fun h' x' ex' => cameB (s := { s with heap := h' }) kx x' fr' ex' q

theorem passX {α : Type} {what : String} {f : Value} {Q : α → Shared → Prop} (kx : Kx hb h₀ K) (x : Fx hb h₀ hz s.heap K L vs cs ms) (fr : Frs A env env2 L K) (ex : ExcAt h₀ s.heap e X c2 (some f))
    (q : ∀ h', Fx hb h₀ hz h' K L vs cs ms → ExcAt h₀ h' e X c2 (some (rawInt L)) → E (.ref e) { s with heap := h' }) : wpAny M A (PySem.passOn what (.ref e) env : Sem α) Q E s := by
  obtain ⟨oe, ws, T, he, hd, h1⟩ := ex.head
  unfold PySem.passOn
  refine wpAny_bind (wpAny_field he hd h1 ?_)
  rw [if_neg (show ¬ ((Value.ref T == Value.none) = true) from by simp)]
  have fin := fun (Q : Unit → Shared → Prop) (hq : ∀ h', Fx hb h₀ hz h' K L vs cs ms → ExcAt h₀ h' e X c2 (some (rawInt L)) → Q () { s with heap := h' }) => setFl (M := M) (A := A) (E := E) (to := env.frame) (Q := Q) kx x ex (fun h' x' ex' => hq h' x' (by rw [fr.f1] at ex'; exact ex'))
  first
    | exact wpAny_bind (fin _ fun h' x' ex' => wpAny_throw (q h' x' ex'))
    | exact wpAny_bind (wpAny_pure (wpAny_bind (fin _ fun h' x' ex' => wpAny_throw (q h' x' ex'))))

theorem ExcAt.of_new {h : Heap} (x : Heap.NewExc h s.heap e X) (n : h₀.get? e = none) : ExcAt h₀ s.heap e X .none none := by
  obtain ⟨ob, t, ho, hc, hd⟩ := x.there
  exact ⟨n, ob, _, ho, hc, hd, rfl, rfl⟩
end
theorem entry_unchain : entryFor table "proto.unchain" = some Builtin.«proto.unchain» := entryFor_of_tree (by kernel_rfl)
theorem plain_unchain : plainId "proto.unchain" = true := by decide +kernel

/-- an exception raised while e1 is handled -/
structure NewExcC (h h' : Heap) (e : Addr) (cls : String) (c2 : Value) : Prop where
  keeps : ∀ b o, h.get? b = some o → h'.get? b = some o
  new : h.get? e = none
  there : ∃ ob t, h'.get? e = some ob ∧ ob.cls = .type cls ∧ ob.data = .fields #[t, .none, c2, .none, .bool false, .none]

section
variable {prog : Program} {w : World} {A : Around} {E : Value → Shared → Prop} {s : Shared}
theorem raiseNewC {α : Type} {e1 e2 : Addr} {oe o2 : Obj} {ws w2 : Array Value} {Q : α → Shared → Prop} (hh : A.handled = some (.ref e1))
    (he : s.heap.get? e1 = some oe) (hd : oe.data = .fields ws) (h2 : ws[2]? = some .none) (he2 : s.heap.get? e2 = some o2) (hd2 : o2.data = .fields w2) (hsz : 2 < w2.size) (hne : e1 ≠ e2)
    (h : E (.ref e2) { s with heap := s.heap.update e2 (Obj.mapFields (·.setIfInBounds 2 (.ref e1))) }) : wpAny (model prog w) A (raiseNew (.ref e2) : Sem α) Q E s := by
  unfold raiseNew
  refine wpAny_bind (wpAny_handled ?_)
  rw [hh]
  dsimp only
  have hneq : (Value.ref e1 != Value.ref e2) = true := by simpa using hne
  rw [if_pos hneq]
  refine wpAny_bind (wpAny_holding (wpAny_runValue (codeAny_builtin entry_unchain ?_)))
  show wpAny (model prog w) (A.under _) (do
    let context ← field (.ref e1) 2
    if context == .none then return ← ret .none
    if context == (.ref e2) then
      rule "raise.context-cycle-cut"
      setField (.ref e1) 2 .none
      return ← ret .none
    if context == (.ref e1) then rule "raise.context-old-cycle"; return ← ret .none
    let slow ← pure (.ref e1)
    again (.builtin "proto.unchain" ⟨[.ref e2, context, slow, .bool true], []⟩)) _ _ s
  refine wpAny_bind (wpAny_field he hd h2 ?_)
  rw [if_pos (by decide)]
  refine wpAny_pure ?_
  show wpAny (model prog w) A (setField (.ref e2) 2 (.ref e1) >>= fun _ => throw (.ref e2)) Q E s
  exact wpAny_bind (wpAny_setField he2 hd2 hsz (wpAny_throw h))
theorem raiseWordsC {α : Type} {cls msg : String} {e1 : Addr} {oe : Obj} {ws : Array Value} {Q : α → Shared → Prop} (hp : PlainExc cls) (hh : A.handled = some (.ref e1))
    (he : s.heap.get? e1 = some oe) (hd : oe.data = .fields ws) (h2 : ws[2]? = some .none)
    (h : ∀ h' tk e, NewExcC s.heap h' e cls (.ref e1) → E (.ref e) { s with heap := h', toks := tk }) :
    wpAny (model prog w) A (raiseErrorWords cls msg : Sem α) Q E s := by
  unfold raiseErrorWords
  refine wpAny_bind (wpAny_mkText (wpAny_bind ?_))
  unfold newExc newTuple
  refine wpAny_bind (wpAny_newObj_type ?_)
  refine wpAny_bind (m := firstArgMember _ _) (wpAny_of_eq (a := Value.none) (by simp only [firstArgMember, hp.first]; rfl) ?_)
  rw [hp.own]
  refine wpAny_newObj_type ?_
  have hlt := Heap.lt_size he
  have hne : e1 ≠ s.heap.objs.size + 1 := Nat.ne_of_lt (Nat.lt_succ_of_lt hlt)
  have sz1 : ∀ o, (s.heap.push o).objs.size = s.heap.objs.size + 1 := fun o => Heap.size_push ..
  refine raiseNewC hh (Heap.get?_push_of_some _ (Heap.get?_push_of_some _ he)) hd h2 (Heap.get?_push_size _ rfl) rfl (show 2 < 6 from by decide) (by
    show e1 ≠ (s.heap.push _).objs.size
    rw [sz1]; exact hne) ?_
  refine h _ _ _ ⟨fun b o hb => ?_, Heap.get?_none_of_le (by simp), _, .ref s.heap.objs.size, Heap.get?_update_self _ (Heap.get?_push_size _ rfl) rfl, rfl, ?_⟩
  · rw [Heap.get?_update_other _ _ (fun q => ?_)]
    · exact Heap.get?_push_of_some _ (Heap.get?_push_of_some _ hb)
    · have := Heap.lt_size hb
      rw [← q] at this
      have e3 : (s.heap.push { cls := .type "tuple", data := .seq #[Value.str (Str.ofString msg) s.toks] }).objs.size = s.heap.objs.size + 1 := sz1 _
      have t2 : (s.heap.push { cls := .type "tuple", data := .seq #[Value.str (Str.ofString msg) s.toks] }).objs.size < s.heap.objs.size := this
      rw [e3] at t2
      exact absurd t2 (Nat.not_lt.mpr (Nat.le_succ _))
  · rfl

theorem getItem_outK {l : Addr} {items : Array Value} {k : Int} {j : Nat} {t : Tok} {e1 : Addr} {oe : Obj} {ws : Array Value} {Q : Value → Shared → Prop} (hh : A.handled = some (.ref e1))
    (he : s.heap.get? e1 = some oe) (hd : oe.data = .fields ws) (h2 : ws[2]? = some .none) (hl : s.heap.IsList l items) (hk : k = (j : Int)) (hout : items.size ≤ j) (hfit : Builtin.List.listFitsIndex k = true)
    (h : ∀ h' tk e, NewExcC s.heap h' e "IndexError" (.ref e1) → E (.ref e) { s with heap := h', toks := tk }) :
    wpAny (model prog w) A (getItem (.ref l) (.int k t)) Q E s := by
  obtain ⟨o, ho, hc, ne, hd'⟩ := id hl
  unfold getItem
  try with_reducible refine wpAny_holding ?_
  first | refine wpAny_bind (wpAny_pure ?_) | skip
  refine wpAny_bind (wpAny_sequenceKey hl.typeIs (by decide) ?_)
  refine wpAny_bind (wpAny_callSpecial?_slot (name := Str.ofString "__getitem__") hl.typeIs slot_list_getitem
    (wpAny_call_entry slot_list_getitem hl.typeIs entry_list_getitem ?_ (args_list_getitem _ _)))
  show wpAny _ _ (Builtin.List.listSubscript? (.int k t) >>= _) _ _ s
  refine wpAny_bind (wpAny_listSubscript_int hfit ?_)
  subst hk
  have hx : items[j]? = none := Array.getElem?_eq_none hout
  show wpAny _ _ ((seqItemAt l j >>= fun r => pure (r.map (j, ·))) >>= _) _ _ s
  refine wpAny_bind (wpAny_bind (wpAny_seqItemAt ho hd' (wpAny_pure ?_)))
  rw [hx]
  first
    | exact wpAny_bind (wpAny_rule (raiseWordsC plainExc_IndexError hh he hd h2 h))
    | exact wpAny_bind (wpAny_rule (wpAny_bind (raiseWordsC plainExc_IndexError hh he hd h2 h)))
    | exact wpAny_bind (wpAny_bind (wpAny_rule (raiseWordsC plainExc_IndexError hh he hd h2 h)))
    | exact wpAny_rule (raiseWordsC plainExc_IndexError hh he hd h2 h)
theorem getItem_out {l : Addr} {items : Array Value} {j : Nat} {t : Tok} {e1 : Addr} {oe : Obj} {ws : Array Value} {Q : Value → Shared → Prop} (hh : A.handled = some (.ref e1))
    (he : s.heap.get? e1 = some oe) (hd : oe.data = .fields ws) (h2 : ws[2]? = some .none) (hl : s.heap.IsList l items) (hout : items.size ≤ j) (hhi : j < 2 ^ 62)
    (h : ∀ h' tk e, NewExcC s.heap h' e "IndexError" (.ref e1) → E (.ref e) { s with heap := h', toks := tk }) :
    wpAny (model prog w) A (getItem (.ref l) (.int (j : Int) t)) Q E s :=
  getItem_outK hh he hd h2 hl rfl hout (fitsIndex_both (by omega) (by omega)) h
end
section
variable {hb h₀ h₁ hz hz' h h' : Heap} {K L : Addr} {vs vs' : Vs} {cs cs' : Cs} {ms ms' : List (Addr × List Value)}
theorem Fx.keep (x : Fx hb h₀ hz h K L vs cs ms) (k : Keep h h') : Fx hb h₀ hz h' K L vs cs ms := by
  obtain ⟨nK, hs, sn, F⟩ := x
  exact ⟨nK, hs, sn, F.keep k⟩
theorem Fm.seqL {hs : Heap} (F : Fm hb hs hz h L vs cs ms) {D : Addr} {v : Array Value} (hl : hz.IsList D v) (hD : D ∉ ms.map (·.1)) : h.IsList D v := by
  obtain ⟨o, ho, hc, n, hd⟩ := hl
  exact ⟨o, F.kz D o hD ho (by unfold isSeq; rw [hd]), hc, n, hd⟩
theorem Fx.seqL (x : Fx hb h₀ hz h K L vs cs ms) {D : Addr} {v : Array Value} (hl : hz.IsList D v) (hD : D ∉ ms.map (·.1)) : h.IsList D v := by
  obtain ⟨nK, hs, sn, F⟩ := x
  exact F.seqL hl hD
end

theorem NewExcC.of {h h' : Heap} {e : Addr} {X : String} (x : Heap.NewExc h h' e X) : NewExcC h h' e X .none := ⟨x.keeps, x.new, x.there⟩
theorem ExcAt.ofC {h₀ h h' : Heap} {e : Addr} {X : String} {c2 : Value} (x : NewExcC h h' e X c2) (n : h₀.get? e = none) : ExcAt h₀ h' e X c2 none := by
  obtain ⟨ob, t, ho, hc, hd⟩ := x.there
  exact ⟨n, ob, _, ho, hc, hd, rfl, rfl⟩
/-- what is handled: nothing, or an exception that has no context -/
noncomputable def HndOk (A : Around) (h : Heap) : Prop := A.handled = none ∨ ∃ e1 oe ws, A.handled = some (.ref e1) ∧ h.get? e1 = some oe ∧ oe.data = .fields ws ∧ ws[2]? = some .none

section
variable {prog : Program} {w : World} {A : Around} {E : Value → Shared → Prop} {s : Shared} {env env2 : Env}
theorem litem_out {x : Str} {px : Pos} {slice : Expr} {D : Addr} {vs : List Value} {n : Nat} {u : Tok} {Q : Value → Shared → Prop} (hl : s.heap.IsList D vs.toArray) (hv : vs.length ≤ n) (hn : n < 2 ^ 62)
    (hA : HndOk A s.heap) (q : ∀ h' tk e c2, (A.handled = none → c2 = .none) → NewExcC s.heap h' e "IndexError" c2 → E (.ref e) { s with heap := h', toks := tk }) (hs : isSliceE slice = false) :
    wpAny (model prog w) A (subscriptTail (.Name x px) slice (.ref D) (.int (n : Int) u)) Q E s := by
  refine subscriptTail_ops (ops := [.ref D, .int (n : Int) u]) hl.typeIs list_getitem_lookup ?_ (sub_plain hs) (fun _ => temp_name)
  rcases hA with hA | ⟨e1, oe, ws, hA, he, hd, h2⟩
  · exact wpAny_getItem_list_out hA hl (.inr (by rw [List.size_toArray]; omega)) (by omega) (by omega) fun h' tk e x => q h' tk e _ (fun _ => rfl) (.of x)
  · exact getItem_out hA he hd h2 hl (by rw [List.size_toArray]; exact hv) hn fun h' tk e x => q h' tk e _ (fun z => by rw [hA] at z; cases z) x

theorem whileX {test : Expr} {pos : Pos} {body : List Stmt} {Q : Flow → Shared → Prop} (Inv : Nat → Heap → Prop) (RZ : Value → Shared → Prop)
    (hz : ∀ e s', RZ e s' → notedBy (model prog w) A env (cameBackBy (model prog w) A env E) e s')
    (start : ∃ n, Inv n s.heap)
    (turn : ∀ n h tk, Inv n h → wpAny (model prog w) A (isTrue test env (eval test env)) (fun b s₂ =>
        if b = true then wpAny (model prog w) A (execs body env) (fun f s₃ => WNext Inv s n f s₃ ∨ (f = .brk ∧ Q .next s₃)) RZ s₂
        else Q .next s₂) RZ { s with heap := h, toks := tk }) :
    wpAny (model prog w) A (exec (.While test body [] pos) env) Q E s := by
  obtain ⟨n, h0⟩ := start
  refine wpAny_While (codeAny_whileLoop (fun k s' => ∃ h tk, s' = { s with heap := h, toks := tk } ∧ Inv k h) ?_ n ⟨s.heap, s.toks, rfl, h0⟩)
  rintro n s' ⟨h, tk, rfl, hI⟩
  refine wpAny_mono (turn n h tk hI) (fun b s₂ h₂ => ?_) hz
  cases b with
  | false =>
    simp only [Bool.false_eq_true, if_false] at h₂ ⊢
    exact wpAny_execs_nil h₂
  | true =>
    simp only [if_true] at h₂ ⊢
    refine wpAny_mono h₂ (fun f s₃ h₃ => ?_) hz
    rcases h₃ with ⟨rfl, h', tk', m, rfl, hm, hI'⟩ | ⟨rfl, hq⟩
    · exact ⟨m, hm, h', tk', rfl, hI'⟩
    · exact hq

theorem drop_cons {lst : List Wd} {m : Nat} (h : m < lst.length) : lst.drop m = lst[m] :: lst.drop (m + 1) := List.drop_eq_getElem_cons h
inductive SkipX (A : Around) (vsOf : Nat → Tok → Vs) (cs : Cs) (ms : List (Addr × List Value)) (lst : List Wd) (x : Wd) (hb h₀ hz : Heap) (K L : Addr) (n : Nat) (s : Shared) (e : Value) (s' : Shared) : Prop
  | mk (a : Addr) (h : Heap) (tk : Nat) (c2 : Value) (t' : Tok)
      (f0 : (A.handled = none → c2 = .none))
      (f1 : e = .ref a)
      (f2 : s' = { s with heap := h, toks := tk })
      (f3 : dropE x (lst.drop n) = [])
      (f4 : Fx hb h₀ hz h K L (vsOf lst.length t') cs ms)
      (f5 : ExcAt h₀ h a "IndexError" c2 none)
      : SkipX A vsOf cs ms lst x hb h₀ hz K L n s e s'
inductive SkipI (vsOf : Nat → Tok → Vs) (cs : Cs) (ms : List (Addr × List Value)) (lst : List Wd) (x : Wd) (hb h₀ hz : Heap) (K L : Addr) (n : Nat) (k : Nat) (h : Heap) : Prop
  | mk (m : Nat) (t : Tok)
      (f0 : k = lst.length - m)
      (f1 : n ≤ m)
      (f2 : m ≤ lst.length)
      (f3 : dropE x (lst.drop m) = dropE x (lst.drop n))
      (f4 : Fx hb h₀ hz h K L (vsOf m t) cs ms)
      : SkipI vsOf cs ms lst x hb h₀ hz K L n k h
set_option maxHeartbeats 0 in
theorem skip_loop {X I V : Str} {p1 p2 p3 p4 p5 p6 p7 p8 p9 : Pos} {vsOf : Nat → Tok → Vs} {cs : Cs} {ms : List (Addr × List Value)} {D : Addr} {us : List Value} {lst : List Wd} {x : Wd} {tx : Tok} {hb h₀ hz : Heap} {K : Addr} {Q : Flow → Shared → Prop}
    (kx : Kx hb h₀ K) (fr : Frs A env env2 env.locals K) (hk : env.scope.kind = .function) (kX : env.kindOf X = some .local) (kI : env.kindOf I = some .local) (kV : env.kindOf V = some .local)
    (dX : (X == ("__debug__" : Str)) = false) (dI : (I == ("__debug__" : Str)) = false) (dV : (V == ("__debug__" : Str)) = false)
    (aX : ∀ m t, At (vsOf m t) X (.ref D)) (aI : ∀ m t, At (vsOf m t) I (.int (m : Int) t)) (aV : ∀ m t, At (vsOf m t) V (.str (S x) tx)) (pI : ∀ m t m' t', Put (vsOf m t) I (.int ((m' : Nat) : Int) t') (vsOf m' t'))
    (hD : D ∉ ms.map (·.1)) (hl : hz.IsList D us.toArray) (ra : RepAll Any hz us ((lst.map S).map .str)) (hlen : lst.length ≤ 64)
    (hA : ∀ m t h, Fx hb h₀ hz h K env.locals (vsOf m t) cs ms → HndOk A h)
    {n : Nat} {t : Tok} (hn : n ≤ lst.length) (F : Fx hb h₀ hz s.heap K env.locals (vsOf n t) cs ms)
    (q1 : ∀ m h' tk t', n ≤ m → m ≤ lst.length → lst.drop m = dropE x (lst.drop n) → Fx hb h₀ hz h' K env.locals (vsOf m t') cs ms → Q .next { s with heap := h', toks := tk })
    (q2 : ∀ h' tk a c2 t', (A.handled = none → c2 = .none) → dropE x (lst.drop n) = [] → Fx hb h₀ hz h' K env.locals (vsOf lst.length t') cs ms → ExcAt h₀ h' a "IndexError" c2 (some (rawInt env.locals)) → E (.ref a) { s with heap := h', toks := tk }) :
    wpAny (model prog w) A (exec (.While (.Compare (.Subscript (.Name X p1) (.Name I p2) p3) [.Eq] [.Name V p4] p5) [.AugAssign (.Name I p6) .Add (.Constant (.int 1) 0 p7) p8] [] p9) env) Q E s := by
  have lus : us.length = lst.length := by have := ra.length; simpa using this
  refine whileX (SkipI vsOf cs ms lst x hb h₀ hz K env.locals n)
    (SkipX A vsOf cs ms lst x hb h₀ hz K env.locals n s) ?_ ⟨_, n, t, rfl, Nat.le_refl _, hn, rfl, F⟩ ?_
  · rintro e s' ⟨a, h, tk, c2, t', hc, rfl, rfl, hdr, F', ex⟩
    exact notedCame kx F' fr fr ex (.inl rfl) fun h' F'' ex' => q2 h' tk a c2 t' hc hdr F'' ex'
  · rintro k h tk ⟨m, t, rfl, hnm, hml, hdr, F'⟩
    obtain ⟨nK, hs, sn, Fm'⟩ := id F'
    refine wpAny_isTrue_Compare1 ?_ (by with_unfolding_all rfl)
    refine Subscript_ ?_
    refine ev_name (Fm.ld Fm' (aX m t) hk kX) Keep.rfl' ?_ dX
    refine ev_name (Fm.ld Fm' (aI m t) hk kI) Keep.rfl' ?_ dI
    have hl' := F'.seqL hl hD
    by_cases hm : m < lst.length
    · have hum : m < us.length := by omega
      have hv : us[m]? = some us[m] := List.getElem?_eq_getElem hum
      obtain ⟨y, ty, hy, ev⟩ := ra.at_str hv
      rw [List.getElem?_map, List.getElem?_eq_getElem hm] at hy
      cases hy
      rw [ev] at hv
      refine litem hl' hv (by omega) ?_ rfl
      refine ev_name (Fm.ld Fm' (aV m t) hk kV) Keep.rfl' ?_ dV
      refine eq_str ?_
      refine wpAny_truthy_bool ?_
      rw [S_beq]
      have hdc := drop_cons hm
      by_cases hyx : lst[m] = x
      · rw [decide_eq_true hyx]
        simp only [if_true]
        refine wpAny_execs_cons ?_
        refine wpAny_AugAssign_Name ?_
        refine Fm.ld Fm' (aI m t) hk kI _ _ _ _ Keep.rfl' ?_
        refine wpAny_Constant_int ?_
        refine iadd_int ?_
        have ecast : (m : Int) + 1 = ((m + 1 : Nat) : Int) := by omega
        rw [ecast]
        refine Fm.store Fm' (pI m t (m + 1) _) (fun h' F'' => ?_) hk kI
        refine wpAny_execs_nil ?_
        refine .inl ⟨rfl, _, _, _, rfl, ?_, m + 1, _, rfl, by omega, by omega, ?_, nK, hs, sn, F''⟩
        · omega
        · rw [← hdr, hdc, hyx]
          unfold dropE
          rw [List.dropWhile_cons]
          simp
      · rw [decide_eq_false hyx]
        simp only [Bool.false_eq_true, if_false]
        refine q1 m h tk t hnm hml ?_ F'
        rw [← hdr, hdc]
        unfold dropE
        rw [List.dropWhile_cons, decide_eq_false hyx]
        rfl
    · have hme : m = lst.length := by omega
      subst hme
      refine litem_out hl' (by omega) (by omega) (hA _ _ _ F') (fun h' tk e c2 hc x => ?_) rfl
      refine ⟨e, h', tk, c2, t, hc, rfl, rfl, ?_, F'.keep (.of x.keeps), .ofC x (F'.new kx x.new)⟩
      rw [← hdr, List.drop_length]; rfl
end
theorem Fm.hbw {hb hb' hs hz h : Heap} {L : Addr} {vs : Vs} {cs : Cs} {ms : List (Addr × List Value)} (F : Fm hb hs hz h L vs cs ms) (k : ∀ b o, hb'.get? b = some o → hb.get? b = some o) : Fm hb' hs hz h L vs cs ms :=
  { F with
    kb := fun a o e => F.kb a o (k a o e)
    ob := fun a ha => by
      cases e : hb'.get? a with
      | none => rfl
      | some o => have := k a o e; rw [F.ob a ha] at this; cases this }
section
variable {prog : Program} {w : World} {A : Around} {E : Value → Shared → Prop} {s : Shared} {env env2 : Env} {hb h₀ hz : Heap} {K L e : Addr} {X : String} {c2 : Value}
  {vs : Vs} {cs : Cs} {ms : List (Addr × List Value)}

theorem caught {fl : Option Value} {t : Expr} {b₀ : Stmt} {suite : List Stmt} {pos : Pos} {Q : Flow → Shared → Prop} (kx : Kx hb h₀ K) (fr : Frs A env env2 L K) (x : Fx hb h₀ hz s.heap K L vs cs ms) (ex : ExcAt h₀ s.heap e X c2 fl) (hfl : fl = none ∨ fl = some (rawInt L))
    (hexc : isSubtype (.type X) (.type "BaseException") = pure true) (hnt : isSubtype (.type ((Manifest.find? X).elim "type" fun y => y.metatype)) (.type "tuple") = pure false) (hsub : isSubtype (.type X) (.type X) = pure true)
    (hname : ∀ h' Q' E', Fx hb h₀ hz h' K L vs cs ms → Q' (.type X) { s with heap := h' } → wpAny (model prog w) (A.mark (some (.ref e))) (eval t env) Q' E' { s with heap := h' })
    (k : ∀ h', Fx hb h₀ hz h' K L vs cs ms → wpAny (model prog w) (A.mark (some (.ref e))) (execs (b₀ :: suite) env) Q (fun _ _ => False) { s with heap := h' }) :
    wpAny (model prog w) A (noteFrame (.ref e) env) (fun _ s₂ => wpAny (model prog w) A (setFlight (.ref e) none) (fun _ s₃ =>
      wpAny (model prog w) A (handleBy (.ref e) env [.ExceptHandler (some t) none (b₀ :: suite) pos]) Q E s₃) E s₂) E s := by
  refine noteX kx x fr ex hfl fun h₁ x₁ ex₁ => ?_
  refine setFl (s := { s with heap := h₁ }) kx x₁ ex₁ fun h₂ x₂ ex₂ => ?_
  refine wpAny_handleBy_builtin (X := X) (T := X) (b := true) hexc hnt hsub (hname h₂ _ _ x₂ ⟨rfl, ?_, ?_⟩)
  · obtain ⟨_, oe, ws, he, hc, _⟩ := ex₂
    exact ⟨oe, he, hc⟩
  · rw [if_pos rfl]
    refine setFl (s := { s with heap := h₂ }) kx x₂ ex₂ fun h₃ x₃ ex₃ => ?_
    exact wpAny_mono (k h₃ x₃) (fun _ _ q => q) (fun _ _ q => q.elim)

theorem finR {fl : Option Value} {f₀ : Stmt} {fs : List Stmt} {Q : Flow → Shared → Prop} {E' : Value → Shared → Prop} (kx : Kx hb h₀ K) (fr : Frs A env env2 L K) (x : Fx hb h₀ hz s.heap K L vs cs ms) (ex : ExcAt h₀ s.heap e X c2 fl) (hfl : fl = none ∨ fl = some (rawInt L))
    (k : ∀ h', Fx hb h₀ hz h' K L vs cs ms → ExcAt h₀ h' e X c2 (some .none) → wpAny (model prog w) (A.mark (some (.ref e))) (execs (f₀ :: fs) env)
      (fun g s₂ => match g with | .next => wpAny (model prog w) A (PySem.passOn "try.finally" (.ref e) env) Q E s₂ | g => wpAny (model prog w) A (setFlight (.ref e) none) (fun _ s₃ => Q g s₃) E s₂)
      (notedBy (model prog w) (A.mark (some (.ref e))) env (cameBackBy (model prog w) A env E)) { s with heap := h' }) :
    wpAny (model prog w) A (noteFrame (.ref e) env) (fun _ s₂ => FinallyRaised prog w A E env (f₀ :: fs) Q (.ref e) s₂) E' s := by
  refine noteX kx x fr ex hfl fun h₁ x₁ ex₁ => ⟨ref_ne_byPass e, ?_⟩
  refine note2 (s := { s with heap := h₁ }) fr ex₁ ?_
  exact setFl (s := { s with heap := h₁ }) kx x₁ ex₁ fun h₂ x₂ ex₂ => k h₂ x₂ ex₂
end

section
variable {prog : Program} {w : World} {A : Around} {E : Value → Shared → Prop} {s : Shared} {hb hs hz : Heap} {L : Addr} {vs : Vs} {cs : Cs} {ms ms' : List (Addr × List Value)}
theorem Fm.ext {D b : Addr} {l ws : List Value} {Q : Value → Shared → Prop} (F : Fm hb hs hz s.heap L vs cs ms) (hm : (D, l) ∈ ms) (p : PutM ms D (l ++ ws) ms') (hB : s.heap.PlainList b ws.toArray) (hsz : l.length + ws.length ≤ 1048576)
    (q : ∀ h', Fm hb hs hz h' L vs cs ms' → Q .none { s with heap := h' }) : wpAny (model prog w) A (call (.builtin "list.extend") [.ref D, .ref b]) Q E s := by
  have hl := F.mls _ hm
  obtain ⟨n, hD⟩ := id hl
  obtain ⟨n2, hB'⟩ := hB
  refine call_meets PySem.F.slot_list_extend ⟨_, hD, rfl⟩ PySem.F.entry_list_extend (PySem.F.args_list_extend_2 _ _) (AutoSeq1.list_extend_list_list_0 D l.toArray n b ws.toArray n2 ?_ ?_ ?_) ⟨hD, hB', ?_⟩
  · intro h
    rw [Bool.and_eq_true] at h
    have h2 : decide (l.toArray.size + ws.toArray.size > sizeLine) = true := h.2
    have := of_decide_eq_true h2
    rw [List.size_toArray, List.size_toArray, sizeLine_eq] at this
    omega
  · rw [List.size_toArray, sizeLine_eq]; omega
  · rw [List.size_toArray, List.size_toArray, sizeLine_eq]; omega
  · obtain ⟨h1, h2⟩ := plain_update hl (fun x => x ++ ws.toArray) (l ++ ws) (by simp)
    exact q _ (F.setM p h1 h2)
end
theorem strsAre_app : ∀ {vs us : List Value} {xs ys : List Str}, StrsAre vs xs → StrsAre us ys → StrsAre (vs ++ us) (xs ++ ys)
  | _, _, _, _, .nil, h => h
  | _, _, _, _, .cons x t r, h => .cons x t (strsAre_app r h)
noncomputable abbrev sv (D1 D2 : Addr) (i j mi un e a : Option Value) : Vs :=
  [("expected", some (.ref D1)), ("actual", some (.ref D2)), ("i", i), ("j", j), ("missing", mi), ("unexpected", un), ("e", e), ("a", a)]

/-- between the turns of the outer loop -/
inductive SldI (es as : List Wd) (hb h₀ : Heap) (K L D1 D2 R1 R2 : Addr) (n : Nat) (h : Heap) : Prop
  | mk (i j : Nat) (ti tj : Tok) (oe oa : Option Value) (mv uv : List Value) (M U : List Wd)
      (f0 : n = (es.length - i) + (as.length - j))
      (f1 : i ≤ es.length)
      (f2 : j ≤ as.length)
      (f3 : sldP es as = (M ++ (sldP (es.drop i) (as.drop j)).1, U ++ (sldP (es.drop i) (as.drop j)).2))
      (f4 : StrsAre mv (M.map S))
      (f5 : StrsAre uv (U.map S))
      (f6 : M.length ≤ i)
      (f7 : U.length ≤ j)
      (f8 : Fx hb h₀ h₀ h K L (sv D1 D2 (some (.int (i : Int) ti)) (some (.int (j : Int) tj)) (some (.ref R1)) (some (.ref R2)) oe oa) [] [(R1, mv), (R2, uv)])
      : SldI es as hb h₀ K L D1 D2 R1 R2 n h
/-- when an item is lacking -/
inductive SldE (es as : List Wd) (hb h₀ : Heap) (K L D1 D2 R1 R2 : Addr) (h : Heap) : Prop
  | mk (i j : Nat) (ti tj : Tok) (oe oa : Option Value) (mv uv : List Value) (M U : List Wd)
      (f0 : i ≤ es.length)
      (f1 : j ≤ as.length)
      (f2 : sldP es as = (M ++ es.drop i, U ++ as.drop j))
      (f3 : StrsAre mv (M.map S))
      (f4 : StrsAre uv (U.map S))
      (f5 : M.length ≤ i)
      (f6 : U.length ≤ j)
      (f7 : Fx hb h₀ h₀ h K L (sv D1 D2 (some (.int (i : Int) ti)) (some (.int (j : Int) tj)) (some (.ref R1)) (some (.ref R2)) oe oa) [] [(R1, mv), (R2, uv)])
      : SldE es as hb h₀ K L D1 D2 R1 R2 h
inductive SldX (es as : List Wd) (hb h₀ : Heap) (K L D1 D2 R1 R2 : Addr) (s : Shared) (e : Value) (s' : Shared) : Prop
  | mk (a : Addr) (h : Heap) (tk : Nat) (c2 : Value) (fl : Option Value)
      (f0 : e = .ref a)
      (f1 : s' = { s with heap := h, toks := tk })
      (f2 : SldE es as hb h₀ K L D1 D2 R1 R2 h)
      (f3 : ExcAt h₀ h a "IndexError" c2 fl)
      (f4 : (fl = none ∨ fl = some (rawInt L)))
      : SldX es as hb h₀ K L D1 D2 R1 R2 s e s'
theorem sldP_nil_r (es : List Wd) : sldP es [] = (es, []) := sldP_r es
theorem sldP_nil_l (as : List Wd) : sldP [] as = ([], as) := sldP_l as

section
variable {prog : Program} {w : World} {A : Around} {E : Value → Shared → Prop} {s : Shared} {mg mb : Str → Option Value} {hG : Heap}
set_option maxHeartbeats 0 in
theorem sld_call {f K : Addr} {env2 : Env} {es as : List Wd} {v1 v2 : Value} {Q : Value → Shared → Prop} (B : Bs mg mb hG) (k : Keep hG s.heap) (nG : hG.get? K = none) (fn : FnAt hG f r14) (rm : Rm A 4)
    (hfr : A.frames = some [env2]) (hf2 : env2.frame = some K) (hk2 : env2.scope.kind ≠ .module) (hKd : ∃ o es n, s.heap.get? K = some o ∧ o.data = .dict es n)
    (h1 : es.length ≤ 20) (h2 : as.length ≤ 20) (rv1 : Rep Any s.heap v1 (pyS es)) (rv2 : Rep Any s.heap v2 (pyS as))
    (q : ∀ v h' tk, Keep (woA s.heap K) h' → (∃ sl oK, s.heap.get? K = some oK ∧ h'.get? K = some { oK with slots := sl }) → Rep (New s.heap) h' v (.tuple [pyS (sldP es as).1, pyS (sldP es as).2]) → Q v { s with heap := h', toks := tk }) :
    wpAny (model prog w) A (call (.ref f) [v1, v2]) Q E s := by
  obtain ⟨D1, u1, rfl, _, hu1, ra1⟩ := rv1.toList
  obtain ⟨D2, u2, rfl, _, hu2, ra2⟩ := rv2.toList
  have lu1 : u1.length = es.length := by have := ra1.length; simpa using this
  have lu2 : u2.length = as.length := by have := ra2.length; simpa using this
  obtain ⟨oK, kes, kn, hoK, hdK⟩ := hKd
  refine enter (n := 3) (binds := [("expected", .ref D1), ("actual", .ref D2)]) (sv D1 D2 none none none none none none) [] [] rm k fn B.lim (fun _ _ _ => rfl) fun h₁ tk cd F₁ rm' => ?_
  have kW : Keep hG (woA s.heap K) := fun b o e => by
    have hb : b ≠ K := fun q => by rw [q, nG] at e; cases e
    refine (k b o e).step fun o' e' => ?_
    rw [woA_get, if_neg hb]; exact e'
  have kx : Kx (woA s.heap K) s.heap K := ⟨woA_self, fun o e => by rw [hoK] at e; cases e; exact ⟨_, _, hdK⟩, fun b e => woA_none e⟩
  have fr : Frs (A.deeper (envOfC r14.name r14.scope s.heap.objs.size f cd)) (envOfC r14.name r14.scope s.heap.objs.size f cd) env2 s.heap.objs.size K :=
    ⟨by show A.frames.map _ = _; rw [hfr]; rfl, rfl, hf2, by show ScopeKind.function ≠ _; decide, hk2⟩
  generalize hA : A.deeper _ = A' at rm' fr
  have lie := ld_builtin (M := model prog w) (env := envOfC r14.name r14.scope s.heap.objs.size f cd) B.g B.b B.bie.1 B.bie.2
  have F := F₁.hbw (hb' := woA s.heap K) fun b o e => (woA_some e).2
  clear F₁
  have hKlt : K < s.heap.objs.size := Heap.lt_size hoK
  have liveS : ∀ {R : Addr}, New s.heap R → R ≠ K := fun {R} n e => by have n' : s.heap.get? R = none := n; rw [e, hoK] at n'; cases n'
  repeat walk_at "ev"
  refine lnew (by rw [sizeLine_eq]; exact Nat.le_of_ble_eq_true rfl) (fun R1 h₂ k₂ nR1 pR1 => ?_)
  rename_i h₀' F₀'
  have nK0 : K ∉ owned (envOfC r14.name r14.scope s.heap.objs.size f cd).locals ([] : Cs) ([] : List (Addr × List Value)) := fun m => by
    rcases List.mem_cons.mp m with e | m
    · exact absurd e (Nat.ne_of_lt hKlt)
    · cases m
  have nR1' : New s.heap R1 := Fx.new kx ⟨nK0, _, Snap.self hoK, F₀'⟩ nR1
  have nR1o : R1 ∉ owned (envOfC r14.name r14.scope s.heap.objs.size f cd).locals ([] : Cs) ([] : List (Addr × List Value)) := fun m => by
    obtain ⟨o, ho⟩ := F₀'.live m
    rw [show h₀'.get? R1 = none from nR1] at ho; cases ho
  have F₂ := (F₀'.keep k₂).own pR1 nR1o (woA_none nR1')
  dsimp only [List.nil_append] at F₂
  clear F₀'
  repeat walk_at "ev"
  refine lnew (by rw [sizeLine_eq]; exact Nat.le_of_ble_eq_true rfl) (fun R2 h₄ k₄ nR2 pR2 => ?_)
  rename_i h₃ F₃
  have nK1 : K ∉ owned (envOfC r14.name r14.scope s.heap.objs.size f cd).locals ([] : Cs) [(R1, ([] : List Value))] := fun m => by
    rcases List.mem_cons.mp m with e | m
    · exact absurd e (Nat.ne_of_lt hKlt)
    · exact liveS nR1' (List.mem_singleton.mp m).symm
  have nR2' : New s.heap R2 := Fx.new kx ⟨nK1, _, Snap.self hoK, F₃⟩ nR2
  have nR2o : R2 ∉ owned (envOfC r14.name r14.scope s.heap.objs.size f cd).locals ([] : Cs) [(R1, ([] : List Value))] := fun m => by
    obtain ⟨o, ho⟩ := F₃.live m
    rw [show h₃.get? R2 = none from nR2] at ho; cases ho
  have F₄ := (F₃.keep k₄).own pR2 nR2o (woA_none nR2')
  dsimp only [List.cons_append, List.nil_append] at F₄
  clear F₃
  repeat walk_at "ev"
  rename_i h₅ F₅
  have nK2 : ∀ mv uv, K ∉ owned (envOfC r14.name r14.scope s.heap.objs.size f cd).locals ([] : Cs) [(R1, mv), (R2, uv)] := fun mv uv m => by
    rcases List.mem_cons.mp m with e | m
    · exact absurd e (Nat.ne_of_lt hKlt)
    · rcases List.mem_cons.mp m with e | m
      · exact liveS nR1' e.symm
      · exact liveS nR2' (List.mem_singleton.mp m).symm
  have liveN : ∀ {D R : Addr} {v : Array Value}, s.heap.IsList D v → New s.heap R → D ≠ R := fun {D R v} l n e => by
    obtain ⟨o, ho, _⟩ := l
    have n' : s.heap.get? R = none := n
    rw [← e, ho] at n'; cases n'
  have nD1 : D1 ≠ R1 ∧ D1 ≠ R2 := ⟨liveN hu1 nR1', liveN hu1 nR2'⟩
  have nD2 : D2 ≠ R1 ∧ D2 ≠ R2 := ⟨liveN hu2 nR1', liveN hu2 nR2'⟩
  refine wpAny_mono (Q := fun f s' => f = .next ∧ ∃ h tk mv uv i j e a, s' = { s with heap := h, toks := tk } ∧ StrsAre mv ((sldP es as).1.map S) ∧ StrsAre uv ((sldP es as).2.map S) ∧
    Fx (woA s.heap K) s.heap s.heap h K s.heap.objs.size (sv D1 D2 i j (some (.ref R1)) (some (.ref R2)) e a) [] [(R1, mv), (R2, uv)]) (E := fun _ _ => False) ?loop (fun f s' hf => ?_) (fun _ _ e => e.elim)
  case loop =>
    refine whileX (SldI es as (woA s.heap K) s.heap K s.heap.objs.size D1 D2 R1 R2) (fun _ _ => False) (fun _ _ x => x.elim) ⟨_, 0, 0, _, _, _, _, [], [], [], [], rfl, Nat.zero_le _, Nat.zero_le _, rfl, .nil, .nil, Nat.le_refl _, Nat.le_refl _, nK2 _ _, _, Snap.self hoK, F₅⟩ ?_
    rintro n h tk ⟨i, j, ti, tj, oe, oa, mv, uv, M, U, rfl, hi, hj, hsl, hmv, huv, hMi, hUj, nK, hs, sn, F⟩
    repeat walk_at "ev"
    rw [if_pos rfl]
    refine wpAny_execs_cons ?_
    refine wpAny_Try_except ?_
    refine wpAny_mono (Q := fun f s' => f = .next ∧ ∃ h' tk' m, s' = { s with heap := h', toks := tk' } ∧ m < (es.length - i) + (as.length - j) ∧ SldI es as (woA s.heap K) s.heap K s.heap.objs.size D1 D2 R1 R2 m h')
      (E := SldX es as (woA s.heap K) s.heap K s.heap.objs.size D1 D2 R1 R2 s) ?body ?ok ?err
    case ok =>
      rintro f' s' ⟨rfl, h', tk', m, rfl, hm, hI⟩
      refine wpAny_execs_nil ?_
      refine wpAny_execs_nil ?_
      exact .inl ⟨rfl, _, _, _, rfl, hm, hI⟩
    case err =>
      rintro e s' ⟨a, h', tk', c2, fl, rfl, rfl, ⟨i', j', ti', tj', oe', oa', mv', uv', M', U', hi', hj', hsl', hmv', huv', hMi', hUj', Fx'⟩, ex, hfl⟩
      refine caught (s := { s with heap := h', toks := tk' }) kx fr Fx' ex hfl PySem.F.isExc_IndexError PySem.F.notTuple_IndexError PySem.F.self_IndexError (fun h₆ Q' E' x hq => ?_) (fun h₆ x => ?_)
      · obtain ⟨_, _, _, F₆⟩ := x
        exact ev_name lie (kW.trans F₆.kb) hq (by decide)
      · obtain ⟨nK₆, hs₆, sn₆, F₆⟩ := x
        have lm' : mv'.length = M'.length := by have := hmv'.len_eq; simpa using this
        have lu' : uv'.length = U'.length := by have := huv'.len_eq; simpa using this
        repeat walk_at "ev"
        refine gml PySem.F.slot_list_extend PySem.F.type_list_extend (F₆.mls (R1, mv') (by simp)) ?_
        repeat walk_at "ev"
        refine slT_list (F₆.seqL hu1 (by simpa using ⟨nD1.1, nD1.2⟩)) (.int _ _) .none (by rw [sizeLine_eq]; omega) (fun D' h₇ k₇ n₇ p₇ => ?_)
        rw [cut_from] at p₇
        have F₇ := F₆.keep k₇
        repeat walk_at "ev"
        show wpAny _ _ (call (.builtin "list.extend") [.ref R1, .ref D']) _ _ _
        have ld1 : (u1.drop i').length ≤ 20 := by rw [List.length_drop]; omega
        refine F₇.ext (l := mv') (by simp) PutM.here p₇ (by omega) (fun h₈ F₈ => ?_)
        repeat walk_at "ev"
        refine gml PySem.F.slot_list_extend PySem.F.type_list_extend (F₈.mls (R2, uv') (by simp)) ?_
        repeat walk_at "ev"
        refine slT_list (F₈.seqL hu2 (by simpa using ⟨nD2.1, nD2.2⟩)) (.int _ _) .none (by rw [sizeLine_eq]; omega) (fun D₂ h₉ k₉ n₉ p₉ => ?_)
        rw [cut_from] at p₉
        have F₉ := F₈.keep k₉
        repeat walk_at "ev"
        show wpAny _ _ (call (.builtin "list.extend") [.ref R2, .ref D₂]) _ _ _
        have ld2 : (u2.drop j').length ≤ 20 := by rw [List.length_drop]; omega
        refine F₉.ext (l := uv') (by simp) (PutM.there PutM.here) p₉ (by omega) (fun h₁₀ F₁₀ => ?_)
        repeat walk_at "ev"
        refine wpAny_Break ?_
        refine .inr ⟨rfl, rfl, _, _, _, _, _, _, _, _, rfl, ?_, ?_, nK2 _ _, hs₆, sn₆, F₁₀⟩
        · rw [hsl', List.map_append, List.map_drop]
          exact strsAre_app hmv' ((strsAre_of ra1).drop' i')
        · rw [hsl', List.map_append, List.map_drop]
          exact strsAre_app huv' ((strsAre_of ra2).drop' j')
    case body =>
      repeat walk_at "ev"
      have hd1 := F.seqL hu1 (by simpa using ⟨nD1.1, nD1.2⟩)
      have hd2 := F.seqL hu2 (by simpa using ⟨nD2.1, nD2.2⟩)
      by_cases ci : i < es.length
      · have hv : u1[i]? = some (u1[i]'(by omega)) := List.getElem?_eq_getElem (by omega)
        obtain ⟨y, ty, hy, ev⟩ := ra1.at_str hv
        rw [List.getElem?_map, List.getElem?_eq_getElem ci] at hy
        cases hy
        rw [ev] at hv
        refine litem hd1 hv (by omega) ?_ rfl
        repeat walk_at "ev"
        rename_i h₆ F₆
        clear F
        have hd2 := F₆.seqL hu2 (by simpa using ⟨nD2.1, nD2.2⟩)
        by_cases cj : j < as.length
        · have hv2 : u2[j]? = some (u2[j]'(by omega)) := List.getElem?_eq_getElem (by omega)
          obtain ⟨y2, ta, hy2, ev2⟩ := ra2.at_str hv2
          rw [List.getElem?_map, List.getElem?_eq_getElem cj] at hy2
          cases hy2
          rw [ev2] at hv2
          refine litem hd2 hv2 (by omega) ?_ rfl
          repeat walk_at "ev"
          rename_i h₇ F₇
          clear F₆
          refine PyProof.Rows.lt_str ?_
          iterate 1 walk_at "ev"
          show if decide (es[i] < as[j]) = true then _ else _
          have eci : (i : Int) + 1 = ((i + 1 : Nat) : Int) := by omega
          have ecj : (j : Int) + 1 = ((j + 1 : Nat) : Int) := by omega
          have lmv : mv.length = M.length := by have := hmv.len_eq; simpa using this
          have luv : uv.length = U.length := by have := huv.len_eq; simpa using this
          by_cases clt : es[i] < as[j]
          · rw [if_pos (decide_eq_true clt)]
            repeat walk_at "ev"
            refine gml PySem.F.slot_list_append PySem.F.type_list_append (F₇.mls (R1, mv) (by simp)) ?_
            repeat walk_at "ev"
            show wpAny _ _ (call (.builtin "list.append") [.ref R1, .str (S es[i]) ty]) _ _ _
            refine F₇.app (l := mv) (by simp) PutM.here (by rw [sizeLine_eq]; omega) (fun h₈ F₈ => ?_)
            repeat walk_at "ev"
            rename_i h₉ F₉
            rw [eci] at F₉
            refine skip_loop (vsOf := fun m t => sv D1 D2 (some (.int ((m : Nat) : Int) t)) (some (.int (j : Int) tj)) (some (.ref R1)) (some (.ref R2)) (some (.str (S es[i]) ty)) (some (.str (S as[j]) ta))) kx fr rfl rfl rfl rfl (by decide) (by decide) (by decide)
              (fun _ _ => At.here) (fun _ _ => At.there (At.there At.here)) (fun _ _ => At.there (At.there (At.there (At.there (At.there (At.there At.here)))))) (fun _ _ _ _ => Put.there (Put.there Put.here))
              (by simpa using ⟨nD1.1, nD1.2⟩) hu1 ra1 (by omega) (fun _ _ _ _ => .inl rm'.hd) ci ⟨nK2 _ _, hs, sn, F₉⟩ (fun m h' tk' t' hm1 hm2 hm3 x => ?_) (fun h' tk' a c2 t' hc hdr x ex => ?_)
            · repeat walk_at "ev"
              refine ⟨rfl, _, _, _, rfl, ?_, m, j, t', tj, _, _, _, uv, M ++ [es[i]], U, rfl, hm2, hj, ?_, ?_, huv, ?_, hUj, x⟩
              · omega
              · rw [hsl, sld_lt ci cj clt hm3]; simp
              · rw [List.map_append]; exact strsAre_app hmv (.cons _ _ .nil)
              · rw [List.length_append]; simp; omega
            · refine ⟨a, h', tk', c2, _, rfl, rfl, ⟨es.length, j, t', tj, _, _, _, uv, M ++ [es[i]], U, Nat.le_refl _, hj, ?_, ?_, huv, ?_, hUj, x⟩, ex, .inr rfl⟩
              · rw [hsl, sld_lt (m := es.length) ci cj clt (by rw [hdr, List.drop_length]), List.drop_length, sldP_nil_l]; simp
              · rw [List.map_append]; exact strsAre_app hmv (.cons _ _ .nil)
              · rw [List.length_append]; simp; omega
          · rw [if_neg (by rw [decide_eq_false clt]; exact Bool.false_ne_true)]
            repeat walk_at "ev"
            refine PySem.P.gt_str ?_
            iterate 1 walk_at "ev"
            show if decide (as[j] < es[i]) = true then _ else _
            by_cases cgt : as[j] < es[i]
            · rw [if_pos (decide_eq_true cgt)]
              repeat walk_at "ev"
              refine gml PySem.F.slot_list_append PySem.F.type_list_append (F₇.mls (R2, uv) (by simp)) ?_
              repeat walk_at "ev"
              show wpAny _ _ (call (.builtin "list.append") [.ref R2, .str (S as[j]) ta]) _ _ _
              refine F₇.app (l := uv) (by simp) (PutM.there PutM.here) (by rw [sizeLine_eq]; omega) (fun h₈ F₈ => ?_)
              repeat walk_at "ev"
              rename_i h₉ F₉
              rw [ecj] at F₉
              refine skip_loop (vsOf := fun m t => sv D1 D2 (some (.int (i : Int) ti)) (some (.int ((m : Nat) : Int) t)) (some (.ref R1)) (some (.ref R2)) (some (.str (S es[i]) ty)) (some (.str (S as[j]) ta))) kx fr rfl rfl rfl rfl (by decide) (by decide) (by decide)
                (fun _ _ => At.there At.here) (fun _ _ => At.there (At.there (At.there At.here))) (fun _ _ => At.there (At.there (At.there (At.there (At.there (At.there (At.there At.here))))))) (fun _ _ _ _ => Put.there (Put.there (Put.there Put.here)))
                (by simpa using ⟨nD2.1, nD2.2⟩) hu2 ra2 (by omega) (fun _ _ _ _ => .inl rm'.hd) cj ⟨nK2 _ _, hs, sn, F₉⟩ (fun m h' tk' t' hm1 hm2 hm3 x => ?_) (fun h' tk' a c2 t' hc hdr x ex => ?_)
              · repeat walk_at "ev"
                refine ⟨rfl, _, _, _, rfl, ?_, i, m, ti, t', _, _, mv, _, M, U ++ [as[j]], rfl, hi, hm2, ?_, hmv, ?_, hMi, ?_, x⟩
                · omega
                · rw [hsl, sld_gt ci cj cgt hm3]; simp
                · rw [List.map_append]; exact strsAre_app huv (.cons _ _ .nil)
                · rw [List.length_append]; simp; omega
              · refine ⟨a, h', tk', c2, _, rfl, rfl, ⟨i, as.length, ti, t', _, _, mv, _, M, U ++ [as[j]], hi, Nat.le_refl _, ?_, hmv, ?_, hMi, ?_, x⟩, ex, .inr rfl⟩
                · rw [hsl, sld_gt (m := as.length) ci cj cgt (by rw [hdr, List.drop_length]), List.drop_length, sldP_nil_r]; simp
                · rw [List.map_append]; exact strsAre_app huv (.cons _ _ .nil)
                · rw [List.length_append]; simp; omega
            · rw [if_neg (by rw [decide_eq_false cgt]; exact Bool.false_ne_true)]
              repeat walk_at "ev"
              rename_i h₈ F₈
              rw [eci] at F₈
              refine wpAny_Try_finally ?_
              refine wpAny_execs_cons ?_
              refine skip_loop (vsOf := fun m t => sv D1 D2 (some (.int ((m : Nat) : Int) t)) (some (.int (j : Int) tj)) (some (.ref R1)) (some (.ref R2)) (some (.str (S es[i]) ty)) (some (.str (S as[j]) ta))) kx fr rfl rfl rfl rfl (by decide) (by decide) (by decide)
                (fun _ _ => At.here) (fun _ _ => At.there (At.there At.here)) (fun _ _ => At.there (At.there (At.there (At.there (At.there (At.there At.here)))))) (fun _ _ _ _ => Put.there (Put.there Put.here))
                (by simpa using ⟨nD1.1, nD1.2⟩) hu1 ra1 (by omega) (fun _ _ _ _ => .inl rm'.hd) ci ⟨nK2 _ _, hs, sn, F₈⟩ (fun m h' tk' t' hm1 hm2 hm3 x => ?_) (fun h' tk' a c2 t' hc hdr x ex => ?_)
              · obtain ⟨nKx, hs2, sn2, F₉⟩ := x
                repeat walk_at "ev"
                rename_i h₁₀ F₁₀
                rw [ecj] at F₁₀
                refine skip_loop (vsOf := fun l t => sv D1 D2 (some (.int (m : Int) t')) (some (.int ((l : Nat) : Int) t)) (some (.ref R1)) (some (.ref R2)) (some (.str (S es[i]) ty)) (some (.str (S as[j]) ta))) kx fr rfl rfl rfl rfl (by decide) (by decide) (by decide)
                  (fun _ _ => At.there At.here) (fun _ _ => At.there (At.there (At.there At.here))) (fun _ _ => At.there (At.there (At.there (At.there (At.there (At.there (At.there At.here))))))) (fun _ _ _ _ => Put.there (Put.there (Put.there Put.here)))
                  (by simpa using ⟨nD2.1, nD2.2⟩) hu2 ra2 (by omega) (fun _ _ _ _ => .inl rm'.hd) cj ⟨nK2 _ _, hs2, sn2, F₁₀⟩ (fun l h'' tk'' t'' hl1 hl2 hl3 x => ?_) (fun h'' tk'' a c2 t'' hc hdr x ex => ?_)
                · repeat walk_at "ev"
                  refine ⟨rfl, _, _, _, rfl, ?_, m, l, t', t'', _, _, mv, uv, M, U, rfl, hm2, hl2, ?_, hmv, huv, ?_, ?_, x⟩
                  · omega
                  · rw [hsl, sld_eq ci cj clt cgt hm3 hl3]
                  · omega
                  · omega
                · refine notedCame kx x fr fr ex (.inr rfl) (fun h₃ x₃ ex₃ => ?_)
                  refine ⟨a, h₃, tk'', c2, _, rfl, rfl, ⟨m, as.length, t', t'', _, _, mv, uv, M, U, hm2, Nat.le_refl _, ?_, hmv, huv, ?_, ?_, x₃⟩, ex₃, .inr rfl⟩
                  · rw [hsl, sld_eq (l := as.length) ci cj clt cgt hm3 (by rw [hdr, List.drop_length]), List.drop_length, sldP_nil_r]
                  · omega
                  · omega
              · have hc := hc rm'.hd
                subst hc
                refine finR (s := { s with heap := h', toks := tk' }) kx fr x ex (.inr rfl) (fun h₁₁ x₁ ex₁ => ?_)
                obtain ⟨kx2, x₂⟩ := x₁.self kx
                have x₂' := x₂
                obtain ⟨nKx, hs2, sn2, F₉⟩ := x₂
                repeat walk_at "ev"
                rename_i h₁₀ F₁₀
                rw [ecj] at F₁₀
                refine skip_loop (vsOf := fun l t => sv D1 D2 (some (.int ((es.length : Nat) : Int) t')) (some (.int ((l : Nat) : Int) t)) (some (.ref R1)) (some (.ref R2)) (some (.str (S es[i]) ty)) (some (.str (S as[j]) ta))) kx2 (fr.mark _) rfl rfl rfl rfl (by decide) (by decide) (by decide)
                  (fun _ _ => At.there At.here) (fun _ _ => At.there (At.there (At.there At.here))) (fun _ _ => At.there (At.there (At.there (At.there (At.there (At.there (At.there At.here))))))) (fun _ _ _ _ => Put.there (Put.there (Put.there Put.here)))
                  (by simpa using ⟨nD2.1, nD2.2⟩) hu2 ra2 (by omega) (fun l t hh x => ?_) cj ⟨nK2 _ _, hs2, sn2, F₁₀⟩ (fun l h'' tk'' t'' hl1 hl2 hl3 x => ?_) (fun h'' tk'' a2 c2 t'' hc hdr2 x ex => ?_)
                · obtain ⟨_, oe, ws, he, hcl, hd, h2, _⟩ := x.exc kx2 ex₁ x₂' rfl
                  exact .inr ⟨a, oe, ws, rfl, he, hd, h2⟩
                · repeat walk_at "ev"
                  refine passX kx (x₁.up kx x rfl) fr (x.exc kx2 ex₁ x₂' rfl) (fun h₃ x₃ ex₃ => ?_)
                  refine ⟨a, h₃, tk'', .none, _, rfl, rfl, ⟨es.length, l, t', t'', _, _, mv, uv, M, U, Nat.le_refl _, hl2, ?_, hmv, huv, ?_, ?_, x₃⟩, ex₃, .inr rfl⟩
                  · rw [hsl, sld_eq (m := es.length) ci cj clt cgt (by rw [hdr, List.drop_length]) hl3, List.drop_length, sldP_nil_l]
                  · omega
                  · omega
                · have x₄ := x₁.up kx x rfl
                  have ex₄ : ExcAt s.heap h'' a2 "IndexError" c2 (some (rawInt s.heap.objs.size)) := by
                    obtain ⟨e0, oe, ws, he, hcl, hd, h2, T, oT, ts, e1, eT, eTe, hT, hdT, h3⟩ := ex
                    exact ⟨x₁.new kx e0, oe, ws, he, hcl, hd, h2, T, oT, ts, e1, x₁.new kx eT, eTe, hT, hdT, h3⟩
                  refine notedCame kx x₄ (fr.mark _) fr ex₄ (.inr rfl) (fun h₃ x₃ ex₃ => ?_)
                  refine ⟨a2, h₃, tk'', c2, _, rfl, rfl, ⟨es.length, as.length, t', t'', _, _, mv, uv, M, U, Nat.le_refl _, Nat.le_refl _, ?_, hmv, huv, ?_, ?_, x₃⟩, ex₃, .inr rfl⟩
                  · rw [hsl, sld_eq (m := es.length) (l := as.length) ci cj clt cgt (by rw [hdr, List.drop_length]) (by rw [hdr2, List.drop_length]), List.drop_length, List.drop_length, sldP_nil_l]
                  · omega
                  · omega
        · refine litem_out hd2 (by omega) (by omega) (.inl rm'.hd) (fun h' tk e c2 hc x => ?_) rfl
          have ej : as.drop j = [] := List.drop_eq_nil_of_le (by omega)
          refine ⟨e, h', tk, c2, none, rfl, rfl, ⟨i, j, ti, tj, _, _, mv, uv, M, U, hi, hj, by rw [hsl, ej, sldP_nil_r], hmv, huv, hMi, hUj, Fx.keep ⟨nK2 _ _, hs, sn, F₆⟩ (.of x.keeps)⟩, .ofC x (Fx.new kx ⟨nK2 _ _, hs, sn, F₆⟩ x.new), .inl rfl⟩
      · refine litem_out hd1 (by omega) (by omega) (.inl rm'.hd) (fun h' tk e c2 hc x => ?_) rfl
        have ei : es.drop i = [] := List.drop_eq_nil_of_le (by omega)
        exact ⟨e, h', tk, c2, none, rfl, rfl, ⟨i, j, ti, tj, _, _, mv, uv, M, U, hi, hj, by rw [hsl, ei, sldP_nil_l], hmv, huv, hMi, hUj, Fx.keep ⟨nK2 _ _, hs, sn, F⟩ (.of x.keeps)⟩, .ofC x (Fx.new kx ⟨nK2 _ _, hs, sn, F⟩ x.new), .inl rfl⟩
  obtain ⟨rfl, h, tk, mv, uv, i, j, e, a, rfl, hmv, huv, nK, hs, sn, F⟩ := hf
  repeat walk_at "ev"
  refine tnew (by rw [sizeLine_eq]; exact Nat.le_of_ble_eq_true rfl) (fun T h₆ k₆ nT gT => ?_)
  have F₆ := F.keep k₆
  refine q _ _ _ F₆.kb ?_ ?_
  · obtain ⟨sn1, oK', slK, eK, eK'⟩ := sn
    rw [hoK] at eK; cases eK
    exact ⟨slK, oK, hoK, (F₆.k0 K _ nK eK').get (ne_dat (d := .dict kes kn) hdK (fun q => by cases q))⟩
  · refine .tuple (Fx.new kx ⟨nK, hs, sn, F⟩ nT) gT rfl rfl ?_
    refine .cons ?_ (.cons ?_ .nil)
    · exact Rep.ofList (P := New s.heap) nR1' (F₆.mls (R1, mv) (by simp)) (rep_of_strsAre hmv)
    · exact Rep.ofList (P := New s.heap) nR2' (F₆.mls (R2, uv) (by simp)) (rep_of_strsAre huv)
end
theorem erase_at : ∀ {act : List Wd} {x : Wd}, x ∈ act → ∃ j, act[j]? = some x ∧ (∀ m y, m < j → act[m]? = some y → y ≠ x) ∧ act.erase x = act.eraseIdx j
  | a :: act, x, h => by
    by_cases e : a = x
    · subst e
      exact ⟨0, rfl, (fun m y hm _ => by omega), by simp⟩
    · rcases List.mem_cons.mp h with q | h
      · exact absurd q.symm e
      · obtain ⟨j, h1, h2, h3⟩ := erase_at h
        refine ⟨j + 1, by simpa using h1, fun m y hm hy => ?_, ?_⟩
        · cases m with
          | zero => simp at hy; subst hy; exact e
          | succ m => exact h2 m y (by omega) (by simpa using hy)
        · rw [List.erase_cons_tail (by simpa using e), h3]; rfl
theorem strsAre_erase : ∀ {vs : List Value} {ss : List Str}, StrsAre vs ss → ∀ j, StrsAre (vs.eraseIdx j) (ss.eraseIdx j)
  | _, _, .nil, _ => .nil
  | _, _, .cons _ _ r, 0 => r
  | _, _, .cons x t r, j + 1 => .cons x t (strsAre_erase r j)
theorem map_eraseIdx {α β : Type} (f : α → β) : ∀ (l : List α) (j : Nat), (l.eraseIdx j).map f = (l.map f).eraseIdx j
  | [], _ => rfl
  | _ :: _, 0 => rfl
  | a :: l, j + 1 => by
    show f a :: (l.eraseIdx j).map f = f a :: (l.map f).eraseIdx j
    rw [map_eraseIdx f l j]
theorem isStrOf_S {x y : Wd} {t : Tok} : isStrOf (S x) (.str (S y) t) = decide (y = x) := by
  show (S y == S x) = _
  rw [S_beq]
section
variable {prog : Program} {w : World} {A : Around} {E : Value → Shared → Prop} {s : Shared} {hb hs hz : Heap} {L : Addr} {vs : Vs} {cs : Cs} {ms ms' : List (Addr × List Value)}
theorem Fm.pop {D : Addr} {l : List Value} {y : Value} {Q : Value → Shared → Prop} (F : Fm hb hs hz s.heap L vs cs ms) (hm : (D, l ++ [y]) ∈ ms) (p : PutM ms D l ms') (hsz : l.length ≤ 100)
    (q : ∀ h', Fm hb hs hz h' L vs cs ms' → Q y { s with heap := h' }) : wpAny (model prog w) A (call (.builtin "list.pop") [.ref D]) Q E s := by
  have hl := F.mls _ hm
  obtain ⟨n, hD⟩ := id hl
  refine call_meets PySem.F.slot_list_pop ⟨_, hD, rfl⟩ PySem.F.entry_list_pop (PySem.F.args_list_pop_1 _) (MeetsSeq.list_pop_last D (l ++ [y]).toArray n y (by simp) (by rw [List.size_toArray, List.length_append, sizeLine_eq]; simp; omega)) ⟨hD, ?_⟩
  obtain ⟨h1, h2⟩ := plain_update hl (fun x => x.eraseIdxIfInBounds ((l ++ [y]).toArray.size - 1)) l (by simp [Array.eraseIdxIfInBounds, List.eraseIdx_append_of_length_le (Nat.le_refl l.length)])
  exact q _ (F.setM p h1 h2)
theorem Fm.remove {D : Addr} {l : List Value} {act : List Wd} {x : Wd} {t : Tok} {Q : Value → Shared → Prop} (msOf : List Value → List (Addr × List Value)) (F : Fm hb hs hz s.heap L vs cs (msOf l)) (hm : (D, l) ∈ msOf l) (p : ∀ l', PutM (msOf l) D l' (msOf l')) (hst : StrsAre l (act.map S)) (hx : x ∈ act) (hsz : act.length ≤ 100)
    (q : ∀ h' l', StrsAre l' ((act.erase x).map S) → Fm hb hs hz h' L vs cs (msOf l') → Q .none { s with heap := h' }) : wpAny (model prog w) A (call (.builtin "list.remove") [.ref D, .str (S x) t]) Q E s := by
  have hl := F.mls _ hm
  obtain ⟨n, hD⟩ := id hl
  have llen : l.length = act.length := by have := hst.len_eq; simpa using this
  obtain ⟨j, j1, j2, j3⟩ := erase_at hx
  have hj : j < act.length := (List.getElem?_eq_some_iff.mp j1).1
  have at_ : ∀ m (hm : m < l.length), ∃ y u, act[m]? = some y ∧ l[m] = .str (S y) u := fun m hm => by
    have ha : act[m]? = some act[m] := List.getElem?_eq_getElem (by omega)
    obtain ⟨u, hu⟩ := hst.at (j := m) (y := S act[m]) (by rw [List.getElem?_map, ha]; rfl)
    refine ⟨_, u, ha, ?_⟩
    rw [List.getElem?_eq_getElem hm] at hu
    exact Option.some.inj hu
  refine call_meets PySem.F.slot_list_remove ⟨_, hD, rfl⟩ PySem.F.entry_list_remove (PySem.F.args_list_remove_2 _ _) (MeetsSeq.list_remove D l.toArray n (.str (S x) t) (isStrOf (S x)) (fun y hy => eq_isStrOf (S x) t hst y (by simpa using hy)) j (by simpa using (by omega : j < l.length)) ?_ ?_ (by rw [List.size_toArray, sizeLine_eq]; omega)) ⟨hD, ?_⟩
  · obtain ⟨y, u, h1, h2⟩ := at_ j (by omega)
    rw [j1] at h1; cases h1
    show isStrOf (S x) (l[j]'(by omega)) = true
    rw [h2, isStrOf_S]; simp
  · intro m hm hmj
    obtain ⟨y, u, h1, h2⟩ := at_ m (by simpa using hm)
    show isStrOf (S x) (l[m]'(by simpa using hm)) = false
    rw [h2, isStrOf_S]
    exact decide_eq_false (j2 m y hmj h1)
  · obtain ⟨h1, h2⟩ := plain_update hl (fun x => x.eraseIdxIfInBounds j) (l.eraseIdx j) (by
      rw [Array.eraseIdxIfInBounds, dif_pos (by simpa using (by omega : j < l.length))]
      simp)
    refine q _ (l.eraseIdx j) ?_ (F.setM (p _) h1 h2)
    rw [j3, map_eraseIdx]
    exact strsAre_erase hst j
theorem Fm.remove_none {D : Addr} {l : List Value} {act : List Wd} {x : Wd} {t : Tok} {Q : Value → Shared → Prop} (hh : A.handled = none) (F : Fm hb hs hz s.heap L vs cs ms) (hm : (D, l) ∈ ms) (hst : StrsAre l (act.map S)) (hx : x ∉ act)
    (q : ∀ h' tk e, Heap.NewExc s.heap h' e "ValueError" → E (.ref e) { s with heap := h', toks := tk }) : wpAny (model prog w) A (call (.builtin "list.remove") [.ref D, .str (S x) t]) Q E s := by
  have hl := F.mls _ hm
  obtain ⟨n, hD⟩ := id hl
  have llen : l.length = act.length := by have := hst.len_eq; simpa using this
  refine call_meets PySem.F.slot_list_remove ⟨_, hD, rfl⟩ PySem.F.entry_list_remove (PySem.F.args_list_remove_2 _ _) (MeetsSeq.list_remove_none D l.toArray n (.str (S x) t) (isStrOf (S x)) (fun y hy => eq_isStrOf (S x) t hst y (by simpa using hy)) ?_) ⟨hD, hh, fun h' tk e x => q h' tk e x⟩
  intro m hm
  have hm' : m < l.length := by simpa using hm
  have ha : act[m]? = some act[m] := List.getElem?_eq_getElem (by omega)
  obtain ⟨u, hu⟩ := hst.at (j := m) (y := S act[m]) (by rw [List.getElem?_map, ha]; rfl)
  rw [List.getElem?_eq_getElem hm'] at hu
  show isStrOf (S x) l[m] = false
  rw [Option.some.inj hu, isStrOf_S]
  refine decide_eq_false fun e => hx ?_
  rw [← e]; exact List.getElem_mem _
end

noncomputable abbrev uv4 (D1 D2 : Addr) (mi it : Option Value) : Vs := [("expected", some (.ref D1)), ("actual", some (.ref D2)), ("missing", mi), ("item", it)]
theorem uld_in {xs act : List Wd} {x : Wd} (h : x ∈ act) : uldP (xs ++ [x]).reverse act = uldP xs.reverse (act.erase x) := by
  rw [List.reverse_append]; show uldP (x :: xs.reverse) act = _
  rw [uldP, if_pos h]
theorem uld_out {xs act : List Wd} {x : Wd} (h : x ∉ act) : uldP (xs ++ [x]).reverse act = (x :: (uldP xs.reverse act).1, (uldP xs.reverse act).2) := by
  rw [List.reverse_append]; show uldP (x :: xs.reverse) act = _
  rw [uldP, if_neg h]
theorem strsAre_snoc_inv {vs : List Value} {ss : List Str} {x : Str} (h : StrsAre vs (ss ++ [x])) : ∃ us t, vs = us ++ [.str x t] ∧ StrsAre us ss := by
  induction ss generalizing vs with
  | nil =>
    cases h with
    | cons x t r => cases r; exact ⟨[], t, rfl, .nil⟩
  | cons a ss ih =>
    cases h with
    | cons x t r =>
      obtain ⟨us, t', rfl, r'⟩ := ih r
      exact ⟨_ :: us, t', rfl, .cons _ _ r'⟩

inductive UldI (es as : List Wd) (hb h₀ : Heap) (K L D1 D2 R : Addr) (n : Nat) (h : Heap) : Prop
  | mk (xs act M : List Wd) (it : Option Value) (l1 l2 mv : List Value)
      (f0 : n = xs.length)
      (f1 : uldP es.reverse as = (M ++ (uldP xs.reverse act).1, (uldP xs.reverse act).2))
      (f2 : StrsAre l1 (xs.map S))
      (f3 : StrsAre l2 (act.map S))
      (f4 : StrsAre mv (M.map S))
      (f5 : xs.length + M.length ≤ es.length)
      (f6 : act.length ≤ as.length)
      (f7 : Fx hb h₀ h₀ h K L (uv4 D1 D2 (some (.ref R)) it) [] [(D1, l1), (D2, l2), (R, mv)])
      : UldI es as hb h₀ K L D1 D2 R n h
section
variable {prog : Program} {w : World} {A : Around} {E : Value → Shared → Prop} {s : Shared} {mg mb : Str → Option Value} {hG : Heap}
set_option maxHeartbeats 0 in
theorem uld_call {f K D1 D2 : Addr} {env2 : Env} {es as : List Wd} {u1 u2 : List Value} {Q : Value → Shared → Prop} (B : Bs mg mb hG) (k : Keep hG s.heap) (nG : hG.get? K = none) (nG1 : hG.get? D1 = none) (nG2 : hG.get? D2 = none) (fn : FnAt hG f r15) (rm : Rm A 4)
    (hfr : A.frames = some [env2]) (hf2 : env2.frame = some K) (hk2 : env2.scope.kind ≠ .module) (hKd : ∃ o es n, s.heap.get? K = some o ∧ o.data = .dict es n)
    (h1 : es.length ≤ 20) (h2 : as.length ≤ 20) (hu1 : s.heap.PlainList D1 u1.toArray) (hu2 : s.heap.PlainList D2 u2.toArray) (hne : D1 ≠ D2) (st1 : StrsAre u1 (es.map S)) (st2 : StrsAre u2 (as.map S))
    (q : ∀ v h' tk, Keep (woA (woA (woA s.heap K) D1) D2) h' → (∃ sl oK, s.heap.get? K = some oK ∧ h'.get? K = some { oK with slots := sl }) → Rep (fun a => New s.heap a ∨ a = D2) h' v (.tuple [pyS (uldP es.reverse as).1, pyS (uldP es.reverse as).2]) → Q v { s with heap := h', toks := tk }) :
    wpAny (model prog w) A (call (.ref f) [.ref D1, .ref D2]) Q E s := by
  obtain ⟨oK, kes, kn, hoK, hdK⟩ := hKd
  refine enter (n := 3) (binds := [("expected", .ref D1), ("actual", .ref D2)]) (uv4 D1 D2 none none) [] [] rm k fn B.lim (fun _ _ _ => rfl) fun h₁ tk cd F₁ rm' => ?_
  have hw : ∀ b o, (woA (woA (woA s.heap K) D1) D2).get? b = some o → s.heap.get? b = some o := fun b o e => (woA_some (woA_some (woA_some e).2).2).2
  have kW : Keep hG (woA (woA (woA s.heap K) D1) D2) := fun b o e => by
    have hb : b ≠ K := fun q => by rw [q, nG] at e; cases e
    have hb1 : b ≠ D1 := fun q => by rw [q, nG1] at e; cases e
    have hb2 : b ≠ D2 := fun q => by rw [q, nG2] at e; cases e
    refine (k b o e).step fun o' e' => ?_
    rw [woA_get, if_neg hb2, woA_get, if_neg hb1, woA_get, if_neg hb]; exact e'
  have kx : Kx (woA (woA (woA s.heap K) D1) D2) s.heap K := ⟨woA_none (woA_none woA_self), fun o e => by rw [hoK] at e; cases e; exact ⟨_, _, hdK⟩, fun b e => woA_none (woA_none (woA_none e))⟩
  have fr : Frs (A.deeper (envOfC r15.name r15.scope s.heap.objs.size f cd)) (envOfC r15.name r15.scope s.heap.objs.size f cd) env2 s.heap.objs.size K :=
    ⟨by show A.frames.map _ = _; rw [hfr]; rfl, rfl, hf2, by show ScopeKind.function ≠ _; decide, hk2⟩
  generalize hA : A.deeper _ = A' at rm' fr
  have lve := ld_builtin (M := model prog w) (env := envOfC r15.name r15.scope s.heap.objs.size f cd) B.g B.b B.bve.1 B.bve.2
  have hKlt : K < s.heap.objs.size := Heap.lt_size hoK
  obtain ⟨n1, g1⟩ := id hu1
  obtain ⟨n2, g2⟩ := id hu2
  have hD1lt := Heap.lt_size g1
  have hD2lt := Heap.lt_size g2
  have nKD1 : K ≠ D1 := fun e => by rw [e, g1] at hoK; cases hoK; cases hdK
  have nKD2 : K ≠ D2 := fun e => by rw [e, g2] at hoK; cases hoK; cases hdK
  have F0 := F₁.hbw (hb' := woA (woA (woA s.heap K) D1) D2) hw
  have P1 : h₁.PlainList D1 u1.toArray := kPlain hu1 F₁.kb
  have P2 : h₁.PlainList D2 u2.toArray := kPlain hu2 F₁.kb
  clear F₁
  have F1 := F0.own P1 (fun m => by
    rcases List.mem_cons.mp m with e | m
    · exact absurd e (Nat.ne_of_lt hD1lt)
    · cases m) (woA_none woA_self)
  have F := F1.own P2 (fun m => by
    rcases List.mem_cons.mp m with e | m
    · exact absurd e (Nat.ne_of_lt hD2lt)
    · exact hne (List.mem_singleton.mp m).symm) woA_self
  dsimp only [List.nil_append, List.cons_append] at F
  clear F0 F1
  have liveS : ∀ {R : Addr}, New s.heap R → R ≠ K ∧ R ≠ D1 ∧ R ≠ D2 := fun {R} n => by
    have n' : s.heap.get? R = none := n
    refine ⟨fun e => ?_, fun e => ?_, fun e => ?_⟩
    · rw [e, hoK] at n'; cases n'
    · rw [e, g1] at n'; cases n'
    · rw [e, g2] at n'; cases n'
  have nK0 : K ∉ owned (envOfC r15.name r15.scope s.heap.objs.size f cd).locals ([] : Cs) [(D1, u1), (D2, u2)] := fun m => by
    rcases List.mem_cons.mp m with e | m
    · exact absurd e (Nat.ne_of_lt hKlt)
    · rcases List.mem_cons.mp m with e | m
      · exact nKD1 e
      · exact nKD2 (List.mem_singleton.mp m)
  repeat walk_at "ev"
  refine lnew (by rw [sizeLine_eq]; exact Nat.le_of_ble_eq_true rfl) (fun R h₂ k₂ nR pR => ?_)
  have nR' : New s.heap R := Fx.new kx ⟨nK0, _, Snap.self hoK, F⟩ nR
  have nRo : R ∉ owned (envOfC r15.name r15.scope s.heap.objs.size f cd).locals ([] : Cs) [(D1, u1), (D2, u2)] := fun m => by
    obtain ⟨o, ho⟩ := F.live m
    rw [show h₁.get? R = none from nR] at ho; cases ho
  have F₂ := (F.keep k₂).own pR nRo (kx.sub R nR')
  dsimp only [List.nil_append, List.cons_append] at F₂
  clear F
  repeat walk_at "ev"
  rename_i h₃ F₃
  have nK2 : ∀ l1 l2 mv, K ∉ owned (envOfC r15.name r15.scope s.heap.objs.size f cd).locals ([] : Cs) [(D1, l1), (D2, l2), (R, mv)] := fun l1 l2 mv m => by
    rcases List.mem_cons.mp m with e | m
    · exact absurd e (Nat.ne_of_lt hKlt)
    · rcases List.mem_cons.mp m with e | m
      · exact nKD1 e
      · rcases List.mem_cons.mp m with e | m
        · exact nKD2 e
        · exact (liveS nR').1 (List.mem_singleton.mp m).symm
  refine wpAny_mono (Q := fun f s' => f = .next ∧ ∃ h tk l1 l2 mv it, s' = { s with heap := h, toks := tk } ∧ StrsAre mv ((uldP es.reverse as).1.map S) ∧ StrsAre l2 ((uldP es.reverse as).2.map S) ∧
    Fx (woA (woA (woA s.heap K) D1) D2) s.heap s.heap h K s.heap.objs.size (uv4 D1 D2 (some (.ref R)) it) [] [(D1, l1), (D2, l2), (R, mv)]) (E := fun _ _ => False) ?loop (fun f s' hf => ?_) (fun _ _ e => e.elim)
  case loop =>
    refine whileX (UldI es as (woA (woA (woA s.heap K) D1) D2) s.heap K s.heap.objs.size D1 D2 R) (fun _ _ => False) (fun _ _ x => x.elim) ⟨_, es, as, [], _, u1, u2, [], rfl, rfl, st1, st2, .nil, by simp, Nat.le_refl _, nK2 _ _ _, _, Snap.self hoK, F₃⟩ ?_
    rintro n h tk ⟨xs, act, M, it, l1, l2, mv, rfl, hsl, hl1, hl2, hmv, hxM, hac, nK, hs, sn, F⟩
    repeat walk_at "ev"
    have ll1 : l1.length = xs.length := by have := hl1.len_eq; simpa using this
    have hP1 : h.PlainList D1 l1.toArray := F.mls (D1, l1) (by simp)
    refine wpAny_truthy_list hP1.isList (by rw [List.size_toArray]; omega) ?_
    rcases List.eq_nil_or_concat xs with rfl | ⟨zs, x, e⟩
    · have e1 : l1 = [] := by cases hl1; rfl
      subst e1
      rw [if_neg (by simp)]
      refine ⟨rfl, h, _, [], l2, mv, it, rfl, ?_, ?_, nK, hs, sn, F⟩
      · rw [hsl]; simpa [uldP] using hmv
      · rw [hsl]; simpa [uldP] using hl2
    · rw [List.concat_eq_append] at e
      subst e
      rw [List.map_append] at hl1
      obtain ⟨us, t, rfl, hus⟩ := strsAre_snoc_inv hl1
      rw [List.length_append, List.length_append] at ll1
      simp only [List.length_cons, List.length_nil] at ll1
      rw [List.length_append] at hxM
      simp only [List.length_cons, List.length_nil] at hxM
      rw [if_pos (by simp)]
      repeat walk_at "ev"
      refine gml PySem.F.slot_list_pop PySem.F.type_list_pop hP1 ?_
      repeat walk_at "ev"
      refine F.pop (D := D1) (l := us) (y := .str (S x) t) (by simp) PutM.here (by omega) (fun h₄ F₄ => ?_)
      clear F
      repeat walk_at "ev"
      rename_i h₅ F₅
      have x₅ : Fx (woA (woA (woA s.heap K) D1) D2) s.heap s.heap h₅ K s.heap.objs.size (uv4 D1 D2 (some (.ref R)) (some (.str (S x) t))) [] [(D1, us), (D2, l2), (R, mv)] := ⟨nK2 _ _ _, hs, sn, F₅⟩
      have lmv : mv.length = M.length := by have := hmv.len_eq; simpa using this
      refine wpAny_Try_except ?_
      repeat walk_at "ev"
      refine gml PySem.F.slot_list_remove PySem.F.type_list_remove (F₅.mls (D2, l2) (by simp)) ?_
      repeat walk_at "ev"
      show wpAny _ _ (call (.builtin "list.remove") [.ref D2, .str (S x) t]) _ _ _
      by_cases hx : x ∈ act
      · refine Fm.remove (fun l => [(D1, us), (D2, l), (R, mv)]) F₅ (by simp) (fun _ => PutM.there PutM.here) hl2 hx (by omega) (fun h₆ l' hl' F₆ => ?_)
        repeat walk_at "ev"
        refine .inl ⟨rfl, _, _, zs.length, rfl, by rw [List.length_append]; simp, zs, act.erase x, M, _, us, l', mv, rfl, ?_, hus, hl', hmv, by omega, ?_, nK2 _ _ _, hs, sn, F₆⟩
        · rw [hsl, uld_in hx]
        · exact Nat.le_trans (List.length_erase_le) hac
      · refine Fm.remove_none rm'.hd F₅ (by simp) hl2 hx (fun h' tk' e X => ?_)
        have x₆ := x₅.keep (.of X.keeps)
        refine caught (s := { s with heap := h', toks := tk' }) kx fr x₆ (.ofC (.of X) (x₅.new kx X.new)) (.inl rfl) PySem.F.isExc_ValueError PySem.F.notTuple_ValueError PySem.F.self_ValueError (fun h₆ Q' E' z hq => ?_) (fun h₆ z => ?_)
        · obtain ⟨_, _, _, F₆⟩ := z
          exact ev_name lve (kW.trans F₆.kb) hq (by decide)
        · obtain ⟨nK₆, hs₆, sn₆, F₆⟩ := z
          repeat walk_at "ev"
          refine gml PySem.F.slot_list_append PySem.F.type_list_append (F₆.mls (R, mv) (by simp)) ?_
          repeat walk_at "ev"
          show wpAny _ _ (call (.builtin "list.append") [.ref R, .str (S x) t]) _ _ _
          refine F₆.app (l := mv) (by simp) (PutM.there (PutM.there PutM.here)) (by rw [sizeLine_eq]; omega) (fun h₈ F₈ => ?_)
          repeat walk_at "ev"
          refine .inl ⟨rfl, _, _, zs.length, rfl, by rw [List.length_append]; simp, zs, act, M ++ [x], _, us, l2, _, rfl, ?_, hus, hl2, ?_, ?_, hac, nK2 _ _ _, hs₆, sn₆, F₈⟩
          · rw [hsl, uld_out hx]; simp
          · rw [List.map_append]; exact strsAre_app hmv (.cons _ _ .nil)
          · rw [List.length_append]; simp; omega
  obtain ⟨rfl, h, tk, l1, l2, mv, it, rfl, hmv, hl2, nK, hs, sn, F⟩ := hf
  repeat walk_at "ev"
  refine tnew (by rw [sizeLine_eq]; exact Nat.le_of_ble_eq_true rfl) (fun T h₆ k₆ nT gT => ?_)
  have F₆ := F.keep k₆
  refine q _ _ _ F₆.kb ?_ ?_
  · obtain ⟨sn1, oK', slK, eK, eK'⟩ := sn
    rw [hoK] at eK; cases eK
    exact ⟨slK, oK, hoK, (F₆.k0 K _ nK eK').get (ne_dat (d := .dict kes kn) hdK (fun q => by cases q))⟩
  · refine .tuple (.inl (Fx.new kx ⟨nK, hs, sn, F⟩ nT)) gT rfl rfl ?_
    refine .cons ?_ (.cons ?_ .nil)
    · exact Rep.ofList (P := fun a => New s.heap a ∨ a = D2) (.inl nR') (F₆.mls (R, mv) (by simp)) (rep_of_strsAre hmv)
    · exact Rep.ofList (P := fun a => New s.heap a ∨ a = D2) (.inr rfl) (F₆.mls (D2, l2) (by simp)) (rep_of_strsAre hl2)
end
theorem countIn_S (o : List Wd) (x : Wd) : PySem.Spec.countIn (.str (S x)) ((o.map S).map PyData.str) = (o.count x : Nat) := by
  induction o with
  | nil => rfl
  | cons a o ih =>
    rw [List.map_cons, List.map_cons, PySem.Spec.countIn, ih, List.count_cons]
    have e : PySem.Spec.same (PyData.str (S a)) (PyData.str (S x)) = decide (a = x) := by
      show (S a == S x) = _
      rw [S_beq]
    have e' : PySem.Spec.same (PyData.str (S x)) (PyData.str (S a)) = decide (a = x) := by
      show (S x == S a) = _
      rw [S_beq]; exact decide_eq_decide.mpr eq_comm
    by_cases h : a = x
    · subst h
      simp [e]; omega
    · have hb : (a == x) = false := by simpa using h
      simp [e, e', h, hb]
theorem fm_strs {α : Type} (l : List α) (f : α → Option Wd) (g : α → Option PyData) (h : ∀ a, g a = (f a).map fun x => PyData.str (S x)) : l.filterMap g = ((l.filterMap f).map S).map PyData.str := by
  rw [List.map_map, List.map_filterMap]
  exact fm_congr fun a _ => h a
theorem rev_rep {P : Addr → Prop} {h : Heap} : ∀ {vs : List Value} {ds : List PyData}, RepAll P h vs ds → RepAll P h vs.reverse ds.reverse
  | _, _, .nil => .nil
  | _, _, .cons r rs => by rw [List.reverse_cons, List.reverse_cons]; exact (rev_rep rs).snoc r
theorem Rep.noDict {P : Addr → Prop} {h : Heap} {D : Addr} {ds : List PyData} (r : Rep P h (.ref D) (.list ds)) : h.NoDictAt (.ref D) := by
  obtain ⟨D', vs, o, n, e, _, ho, _, _, hz, _⟩ := r.toListD
  cases e
  exact ⟨o, ho, hz⟩
section
variable {prog : Program} {w : World} {A : Around} {E : Value → Shared → Prop} {s : Shared} {env : Env} {M : Model}
theorem gmD {name : Str} {id : String} {pl : Sem Bool} {P : Addr → Prop} {D : Addr} {ds : List PyData} {Q : Value × List Value → Shared → Prop} (slot : Slot "list" name id)
    (hty : typeOf (.builtin id) = pure (.type "method_descriptor")) (r : Rep P s.heap (.ref D) (.list ds)) (h : Q (.builtin id, [.ref D]) s) :
    wpAny (model prog w) A (getMethod (.ref D) name pl) Q E s := by
  obtain ⟨D', vs, e, _, hl, _⟩ := r.toList
  cases e
  exact getMethod_list_of slot hty hl r.noDict h
theorem countL {P : Addr → Prop} {D : Addr} {o : List Wd} {x : Wd} {t : Tok} {Q : Value → Shared → Prop} (r : Rep P s.heap (.ref D) (pyS o)) (q : ∀ t' k, Q (.int ((o.count x : Nat) : Int) t') { s with toks := k }) :
    wpAny (model prog w) A (call (.builtin "list.count") [.ref D, .str (S x) t]) Q E s := by
  obtain ⟨D', vs, e, _, hl, ra⟩ := r.toList
  cases e
  refine count_list_strs hl (strsAre_of ra) ?_
  rw [countIn_S]
  exact q _ _
theorem slT_rev {x : Str} {px : Pos} {p : Pos} {st : Expr} {D : Addr} {vs : List Value} {u : Tok} {Q : Value → Shared → Prop} (hl : s.heap.IsList D vs.toArray) (hsz : vs.length ≤ sizeLine)
    (q : ∀ D' h', Keep s.heap h' → New s.heap D' → h'.PlainList D' vs.reverse.toArray → Q (.ref D') { s with heap := h' }) :
    SlPost (model prog w) A E Q (.Name x px) none none (some st) p (.ref D) .none .none (.int (-1) u) s := by
  unfold SlPost
  have k1 := Keep.push s.heap { cls := .type "slice", data := .fields #[.none, .none, .int (-1) u] }
  have hl' : (s.heap.push { cls := .type "slice", data := .fields #[.none, .none, .int (-1) u] }).IsList D vs.toArray := kList hl k1
  refine subscriptTail_ops (ops := [.ref D, .ref s.heap.objs.size]) (Heap.IsList.typeIs (s := { s with heap := s.heap.push { cls := .type "slice", data := .fields #[.none, .none, .int (-1) u] } }) hl') list_getitem_lookup
    (wpAny_getItem_list_slice hl' (Heap.IsSliceOf.new ..) .none .none (.int _ _) (by simp) ?_ (by simpa using hsz)) rfl (fun _ => temp_name)
  rw [PySem.W.krv_pick]
  have nw : New s.heap (s.heap.push { cls := .type "slice", data := .fields #[.none, .none, .int (-1) u] }).objs.size := New.of_size (by rw [Heap.size_push]; exact Nat.le_succ _)
  exact q _ _ (k1.trans (Keep.push _ _)) nw ⟨0, Heap.get?_push_size _ rfl⟩
end
section
variable {prog : Program} {w : World} {A : Around} {E : Value → Shared → Prop} {s : Shared} {mg mb : Str → Option Value} {hb : Heap}
set_option maxHeartbeats 0 in
theorem told_call {f : Addr} {n0 n1 : List Wd} {v1 v2 : Value} {Q : Value → Shared → Prop} (B : Bs mg mb hb) (k : Keep hb s.heap) (fn : FnAt hb f r24) (rm : Rm A 6)
    (h1 : n0.length ≤ 20) (h2 : n1.length ≤ 20) (m1 : Nms n0) (m2 : Nms n1) (rv1 : Rep Any s.heap v1 (pyS n0)) (rv2 : Rep Any s.heap v2 (pyS n1))
    (q : ∀ v h' tk (o1 o2 : List Wd), Keep s.heap h' → o1.Perm (lackU n0 n1 n0.length) → Srt o1 → o2.Perm (lackU n1 n0 n1.length) → Srt o2 →
      Rep (New s.heap) h' v (.list [.tuple [pyS o1, pyS o2], .tuple [pyS (missU (fun y => n1.count y) n0).reverse, pyS (leftU (fun y => n0.count y) n1)]]) → Q v { s with heap := h', toks := tk }) :
    wpAny (model prog w) A (call (.ref f) [v1, v2]) Q E s := by
  refine enter (n := 5) (binds := [("first", v1), ("second", v2)]) [("missing", none), ("left", none)] [("first", s.heap.objs.size + 1, some v1), ("second", s.heap.objs.size + 2, some v2)] [1, 2] rm k fn B.lim (fun _ _ _ => rfl) fun h₁ tk cd F rm' => ?_
  generalize hA : A.deeper _ = A' at rm'
  have llen := ld_builtin (M := model prog w) (env := envOfC r24.name r24.scope s.heap.objs.size f cd) B.g B.b B.blen.1 B.blen.2
  have lran := ld_builtin (M := model prog w) (env := envOfC r24.name r24.scope s.heap.objs.size f cd) B.g B.b B.brange.1 B.brange.2
  obtain ⟨fL, hL, fnL⟩ := B.lack
  have llk := ld_global (M := model prog w) (env := envOfC r24.name r24.scope s.heap.objs.size f cd) B.g hL
  obtain ⟨D1, u1, rfl, _, hu1, ra1⟩ := rv1.toList
  obtain ⟨D2, u2, rfl, _, hu2, ra2⟩ := rv2.toList
  have lu1 : u1.length = n0.length := by have := ra1.length; simpa using this
  have lu2 : u2.length = n1.length := by have := ra2.length; simpa using this
  have ic1 := F.cel _ _ _ List.mem_cons_self
  have ic2 := F.cel _ _ _ (List.mem_cons_of_mem _ List.mem_cons_self)
  have r1 : Rep Any h₁ (.ref D1) (pyS n0) := rv1.keep F.kb
  have r2 : Rep Any h₁ (.ref D2) (pyS n1) := rv2.keep F.kb
  have hl1 := kList hu1 F.kb
  have hl2 := kList hu2 F.kb
  walk_at "ev"
  refine comp_assign2 (cl := [("second", s.heap.objs.size + 2), ("first", s.heap.objs.size + 1)]) false (fun D => [("missing", some (.ref D)), ("left", none)]) F rm'.hd ⟨by rfl, by rfl, by decide, by rfl, fun _ => by rfl, fun _ => by rfl⟩ ?k1 ?k2 ?k3 ?main
  case k1 => rfl
  case k2 => rfl
  case k3 => rfl
  case main =>
  repeat walk_at "ev"
  refine lenL hl1 (by rw [List.size_toArray]; omega) (fun t₅ tk₅ => ?_)
  repeat walk_at "ev"
  rw [List.size_toArray, lu1]
  refine range1 (by omega) (fun r h₂ tk₂ k₂ it => ?_)
  refine ⟨n0.length, _, fun i => (n0[i]?).bind fun y => if n1.count y < (n0.drop i).count y then some (.str (S y)) else none, it, by rw [sizeLine_eq]; omega, ⟨?_, ?_⟩, k₂, ?_⟩
  · intro C j v h tk' hj hP hk hC lk lc
    obtain ⟨t', rfl⟩ := hP
    have ic1' := kCell ic1 (k₂.trans hk)
    have ic2' := kCell ic2 (k₂.trans hk)
    have r1' := r1.keep (k₂.trans hk)
    have r2' := r2.keep (k₂.trans hk)
    have hl1' := kList hl1 (k₂.trans hk)
    have hv : u1[j]? = some (u1[j]'(by omega)) := List.getElem?_eq_getElem (by omega)
    obtain ⟨y, ty, hy, ev⟩ := ra1.at_str hv
    rw [List.getElem?_map, List.getElem?_eq_getElem hj] at hy
    cases hy
    rw [ev] at hv
    refine wpAny_tests_one ?_
    repeat walk_at "ev"
    refine slT_list hl1' (.int _ _) .none (by rw [sizeLine_eq]; omega) (fun D' h₉ k₉ n₉ p₉ => ?_)
    rw [cut_from] at p₉
    have r₉ : Rep Any h₉ (.ref D') (pyS (n0.drop j)) := Rep.ofList (P := Any) trivial p₉ (by rw [List.map_drop, List.map_drop]; exact (strsM ra1).drop j)
    repeat walk_at "ev"
    refine gml PySem.F.slot_list_count PySem.F.type_list_count p₉ ?_
    repeat walk_at "ev"
    refine litem (kList hl1' k₉) hv (by omega) ?_ rfl
    repeat walk_at "ev"
    show wpAny _ _ (call (.builtin "list.count") [.ref D', .str (S n0[j]) ty]) _ _ _
    refine countL r₉ (fun t₆ tk₆ => ?_)
    repeat walk_at "ev"
    refine gmD PySem.F.slot_list_count PySem.F.type_list_count (r2'.keep k₉) ?_
    repeat walk_at "ev"
    refine litem (kList hl1' k₉) hv (by omega) ?_ rfl
    repeat walk_at "ev"
    show wpAny _ _ (call (.builtin "list.count") [.ref D2, .str (S n0[j]) ty]) _ _ _
    refine countL (r2'.keep k₉) (fun t₇ tk₇ => ?_)
    repeat walk_at "ev"
    refine ⟨?_, _, _, rfl, k₉⟩
    show _ = ((n0[j]?).bind fun y => if n1.count y < (n0.drop j).count y then some (PyData.str (S y)) else none).isSome
    rw [List.getElem?_eq_getElem hj, Option.bind_some]
    by_cases hc : n1.count n0[j] < (n0.drop j).count n0[j]
    · rw [if_pos hc]
      exact decide_eq_true (by omega)
    · rw [if_neg hc]
      exact decide_eq_false (by omega)
  · intro C j v h tk' d hj hP hg hk hC lk lc
    obtain ⟨t', rfl⟩ := hP
    have ic1' := kCell ic1 (k₂.trans hk)
    have hl1' := kList hl1 (k₂.trans hk)
    have hv : u1[j]? = some (u1[j]'(by omega)) := List.getElem?_eq_getElem (by omega)
    obtain ⟨y, ty, hy, ev⟩ := ra1.at_str hv
    rw [List.getElem?_map, List.getElem?_eq_getElem hj] at hy
    cases hy
    rw [ev] at hv
    have hg' : ((n0[j]?).bind fun y => if n1.count y < (n0.drop j).count y then some (PyData.str (S y)) else none) = some d := hg
    rw [List.getElem?_eq_getElem hj, Option.bind_some] at hg'
    split at hg'
    · cases hg'
      repeat walk_at "ev"
      refine litem hl1' hv (by omega) ?_ rfl
      exact ⟨_, _, rfl, Keep.rfl', .str _ _⟩
    · cases hg'
  intro D₃
  refine ⟨Put.here, ?_⟩
  intro h₃ tk₃ nD₃ hD₃ F₃
  obtain ⟨ys, hl₃, hr₃⟩ := hD₃
  rw [fm_strs (f := fun i => (n0[i]?).bind fun y => if n1.count y < (n0.drop i).count y then some y else none) (h := fun i => by
    cases n0[i]? with
    | none => rfl
    | some y => simp only [Option.bind_some]; split <;> rfl)] at hr₃
  have hr₃ : RepAll Any h₃ ys.toList (((missU (fun y => n1.count y) n0).map S).map .str) := strsM hr₃
  have nD₃ : New s.heap D₃ := New.back (F.kb.trans k₂) _ nD₃
  have F₃ := F₃.now
  have K₃ := F₃.kb
  have rp₃ : Rep (New s.heap) h₃ (.ref D₃) (pyS (missU (fun y => n1.count y) n0)) := Rep.ofList (P := New s.heap) (vs := ys.toList) nD₃ (by simpa using hl₃) (strsM hr₃)
  have lms : ys.toList.length ≤ 20 := by
    have e := hr₃.length
    rw [List.length_map, List.length_map] at e
    have : (missU (fun y => n1.count y) n0).length ≤ (List.range n0.length).length := List.length_filterMap_le _ _
    rw [List.length_range] at this
    omega
  have ic1 := F₃.cel _ _ _ List.mem_cons_self
  have ic2 := F₃.cel _ _ _ (List.mem_cons_of_mem _ List.mem_cons_self)
  have r1 : Rep Any h₃ (.ref D1) (pyS n0) := rv1.keep K₃
  have r2 : Rep Any h₃ (.ref D2) (pyS n1) := rv2.keep K₃
  have hl1 := kList hu1 K₃
  have hl2 := kList hu2 K₃
  walk_at "ev"
  refine comp_assign2 (cl := [("second", s.heap.objs.size + 2), ("first", s.heap.objs.size + 1)]) false (fun D => [("missing", some (.ref D₃)), ("left", some (.ref D))]) F₃ rm'.hd ⟨by rfl, by rfl, by decide, by rfl, fun _ => by rfl, fun _ => by rfl⟩ ?k1 ?k2 ?k3 ?main
  case k1 => rfl
  case k2 => rfl
  case k3 => rfl
  case main =>
  repeat walk_at "ev"
  refine lenL hl2 (by rw [List.size_toArray]; omega) (fun t₅ tk₅ => ?_)
  repeat walk_at "ev"
  rw [List.size_toArray, lu2]
  refine range1 (by omega) (fun r h₂ tk₂ k₂ it => ?_)
  refine ⟨n1.length, _, fun i => (n1[i]?).bind fun y => if n0.count y < (n1.take (i + 1)).count y then some (.str (S y)) else none, it, by rw [sizeLine_eq]; omega, ⟨?_, ?_⟩, k₂, ?_⟩
  · intro C j v h tk' hj hP hk hC lk lc
    obtain ⟨t', rfl⟩ := hP
    have ic1' := kCell ic1 (k₂.trans hk)
    have ic2' := kCell ic2 (k₂.trans hk)
    have r1' := r1.keep (k₂.trans hk)
    have r2' := r2.keep (k₂.trans hk)
    have hl2' := kList hl2 (k₂.trans hk)
    have hv : u2[j]? = some (u2[j]'(by omega)) := List.getElem?_eq_getElem (by omega)
    obtain ⟨y, ty, hy, ev⟩ := ra2.at_str hv
    rw [List.getElem?_map, List.getElem?_eq_getElem hj] at hy
    cases hy
    rw [ev] at hv
    have ecj : (j : Int) + 1 = ((j + 1 : Nat) : Int) := by omega
    refine wpAny_tests_one ?_
    repeat walk_at "ev"
    rw [ecj]
    refine slT_list hl2' .none (.int _ _) (by rw [sizeLine_eq]; omega) (fun D' h₉ k₉ n₉ p₉ => ?_)
    rw [cut_upto] at p₉
    have r₉ : Rep Any h₉ (.ref D') (pyS (n1.take (j + 1))) := Rep.ofList (P := Any) trivial p₉ (by rw [List.map_take, List.map_take]; exact (strsM ra2).take (j + 1))
    repeat walk_at "ev"
    refine gml PySem.F.slot_list_count PySem.F.type_list_count p₉ ?_
    repeat walk_at "ev"
    refine litem (kList hl2' k₉) hv (by omega) ?_ rfl
    repeat walk_at "ev"
    show wpAny _ _ (call (.builtin "list.count") [.ref D', .str (S n1[j]) ty]) _ _ _
    refine countL r₉ (fun t₆ tk₆ => ?_)
    repeat walk_at "ev"
    refine gmD PySem.F.slot_list_count PySem.F.type_list_count (r1'.keep k₉) ?_
    repeat walk_at "ev"
    refine litem (kList hl2' k₉) hv (by omega) ?_ rfl
    repeat walk_at "ev"
    show wpAny _ _ (call (.builtin "list.count") [.ref D1, .str (S n1[j]) ty]) _ _ _
    refine countL (r1'.keep k₉) (fun t₇ tk₇ => ?_)
    repeat walk_at "ev"
    refine ⟨?_, _, _, rfl, k₉⟩
    show _ = ((n1[j]?).bind fun y => if n0.count y < (n1.take (j + 1)).count y then some (PyData.str (S y)) else none).isSome
    rw [List.getElem?_eq_getElem hj, Option.bind_some]
    by_cases hc : n0.count n1[j] < (n1.take (j + 1)).count n1[j]
    · rw [if_pos hc]
      exact decide_eq_true (by omega)
    · rw [if_neg hc]
      exact decide_eq_false (by omega)
  · intro C j v h tk' d hj hP hg hk hC lk lc
    obtain ⟨t', rfl⟩ := hP
    have ic2' := kCell ic2 (k₂.trans hk)
    have hl2' := kList hl2 (k₂.trans hk)
    have hv : u2[j]? = some (u2[j]'(by omega)) := List.getElem?_eq_getElem (by omega)
    obtain ⟨y, ty, hy, ev⟩ := ra2.at_str hv
    rw [List.getElem?_map, List.getElem?_eq_getElem hj] at hy
    cases hy
    rw [ev] at hv
    have hg' : ((n1[j]?).bind fun y => if n0.count y < (n1.take (j + 1)).count y then some (PyData.str (S y)) else none) = some d := hg
    rw [List.getElem?_eq_getElem hj, Option.bind_some] at hg'
    split at hg'
    · cases hg'
      repeat walk_at "ev"
      refine litem hl2' hv (by omega) ?_ rfl
      exact ⟨_, _, rfl, Keep.rfl', .str _ _⟩
    · cases hg'
  intro D₄
  refine ⟨Put.there Put.here, ?_⟩
  intro h₄ tk₄ nD₄ hD₄ F₄
  obtain ⟨zs, hl₄, hr₄⟩ := hD₄
  rw [fm_strs (f := fun i => (n1[i]?).bind fun y => if n0.count y < (n1.take (i + 1)).count y then some y else none) (h := fun i => by
    cases n1[i]? with
    | none => rfl
    | some y => simp only [Option.bind_some]; split <;> rfl)] at hr₄
  have nD₄ : New s.heap D₄ := New.back (F₃.kb.trans k₂) _ nD₄
  have rp₃ := F₄.rep rp₃
  have rp₄ : Rep (New s.heap) h₄ (.ref D₄) (pyS (leftU (fun y => n0.count y) n1)) := Rep.ofList (P := New s.heap) (vs := zs.toList) nD₄ (by simpa using hl₄) (strsM hr₄)
  have hr₄ : RepAll Any h₄ zs.toList (((leftU (fun y => n0.count y) n1).map S).map .str) := strsM hr₄
  repeat walk_at "ev"
  refine cD fnL ?c1 ?a1
  case a1 => rfl
  repeat walk_at "ev"
  have kB := k.trans F₄.kb
  refine ⟨kB, lack_call B kB fnL (rm'.mono (by omega)) h1 h2 m1 m2 (rv1.keep F₄.kb) (rv2.keep F₄.kb) (fun va h₅ tk₅ o1 k₅ hp1 hs1 ro1 => ?_)⟩
  have F₅ := F₄.keep k₅
  repeat walk_at "ev"
  refine cD fnL ?c2 ?a2
  case a2 => rfl
  repeat walk_at "ev"
  have kB₅ := k.trans F₅.kb
  refine ⟨kB₅, lack_call B kB₅ fnL (rm'.mono (by omega)) h2 h1 m2 m1 (rv2.keep F₅.kb) (rv1.keep F₅.kb) (fun vb h₆ tk₆ o2 k₆ hp2 hs2 ro2 => ?_)⟩
  have F₆ := F₅.keep k₆
  repeat walk_at "ev"
  refine tnew (by rw [sizeLine_eq]; exact Nat.le_of_ble_eq_true rfl) (fun T1 h₇ k₇ nT1 gT1 => ?_)
  have F₇ := F₆.keep k₇
  repeat walk_at "ev"
  have rp₃ := rp₃.keep ((k₅.trans k₆).trans k₇)
  obtain ⟨_, ws, e, _, hws, rws⟩ := rp₃.toList
  cases e
  have lws : ws.length ≤ 20 := by
    have e := rws.length
    have e2 := hr₃.length
    omega
  refine slT_rev hws (by rw [sizeLine_eq]; omega) (fun D₈ h₈ k₈ n₈ p₈ => ?_)
  have F₈ := F₇.keep k₈
  repeat walk_at "ev"
  refine tnew (by rw [sizeLine_eq]; exact Nat.le_of_ble_eq_true rfl) (fun T2 h₉ k₉ nT2 gT2 => ?_)
  have F₉ := F₈.keep k₉
  repeat walk_at "ev"
  refine lnew (by rw [sizeLine_eq]; exact Nat.le_of_ble_eq_true rfl) (fun T3 h₁₀ k₁₀ nT3 pT3 => ?_)
  have F₁₀ := F₉.keep k₁₀
  repeat walk_at "ev"
  refine q _ _ _ o1 o2 F₁₀.kb hp1 hs1 hp2 hs2 ?_
  have nb : ∀ {h : Heap} {a : Addr} {vs : Vs} {cs : Cs} {hz hs : Heap}, Fm s.heap hs hz h s.heap.objs.size vs cs [] → New h a → New s.heap a := fun F n => New.back F.kb _ n
  have ra1' : Rep (New s.heap) h₁₀ va (pyS o1) := ((((((ro1.weak fun _ n => nb F₄ n).keep k₆).keep k₇).keep k₈).keep k₉).keep k₁₀)
  have ra2' : Rep (New s.heap) h₁₀ vb (pyS o2) := (((((ro2.weak fun _ n => nb F₅ n).keep k₇).keep k₈).keep k₉).keep k₁₀)
  have ra3' : Rep (New s.heap) h₁₀ (.ref D₈) (pyS (missU (fun y => n1.count y) n0).reverse) := by
    refine Rep.keep (h := h₈) ?_ (k₉.trans k₁₀)
    refine Rep.ofList (P := New s.heap) (nb F₇ n₈) p₈ ?_
    rw [List.map_reverse, List.map_reverse]
    exact rev_rep (strsM rws)
  have ra4' : Rep (New s.heap) h₁₀ (.ref D₄) (pyS (leftU (fun y => n0.count y) n1)) := rp₄.keep (((((k₅.trans k₆).trans k₇).trans k₈).trans k₉).trans k₁₀)
  have t1 : Rep (New s.heap) h₁₀ (.ref T1) (.tuple [pyS o1, pyS o2]) := .tuple (nb F₆ nT1) (((k₈.trans k₉).trans k₁₀).get gT1 (ne_typ (T := "tuple") rfl)) rfl rfl (.cons ra1' (.cons ra2' .nil))
  have t2 : Rep (New s.heap) h₁₀ (.ref T2) (.tuple [pyS (missU (fun y => n1.count y) n0).reverse, pyS (leftU (fun y => n0.count y) n1)]) := .tuple (nb F₈ nT2) (k₁₀.get gT2 (ne_typ (T := "tuple") rfl)) rfl rfl (.cons ra3' (.cons ra4' .nil))
  exact Rep.ofList (P := New s.heap) (nb F₉ nT3) pT3 (.cons t1 (.cons t2 .nil))
end
noncomputable abbrev pyI (l : List Int) : PyData := .list (l.map .int)
theorem wordL_len (x : Int) : (wordL x).length ≤ 3 := by
  unfold wordL
  rw [List.length_map, List.length_range]
  have h1 := Int.fmod_lt_of_pos x (show (0 : Int) < 4 by decide)
  omega
theorem wordL_lets (x : Int) : Lets (wordL x) := by
  intro c hc
  unfold wordL at hc
  obtain ⟨k, _, rfl⟩ := List.mem_map.mp hc
  unfold letter
  split
  · exact .inl rfl
  · split
    · exact .inr (.inl rfl)
    · split
      · exact .inr (.inr (.inl rfl))
      · exact .inr (.inr (.inr rfl))
theorem nms_words (l : List Int) : Nms (l.map wordL) := fun n hn => by
  obtain ⟨x, _, rfl⟩ := List.mem_map.mp hn
  exact ⟨wordL_len x, wordL_lets x⟩
theorem RepAll.cut {P : Addr → Prop} {h : Heap} {vs : List Value} {ds : List PyData} (r : RepAll P h vs ds) (lo hi : Option Int) : RepAll P h (cutL vs lo hi) (cutL ds lo hi) := by
  unfold cutL
  rw [r.length]
  exact (r.drop _).take _
theorem cutL_map {α β : Type} (f : α → β) (l : List α) (lo hi : Option Int) : cutL (l.map f) lo hi = (cutL l lo hi).map f := by
  unfold cutL
  rw [List.length_map, List.map_take, List.map_drop]
theorem RepAll.at_int {P : Addr → Prop} {h : Heap} {vs : List Value} {ys : List Int} (r : RepAll P h vs (ys.map .int)) {i : Nat} {v : Value} (e : vs[i]? = some v) : ∃ y t, ys[i]? = some y ∧ v = .int y t := by
  obtain ⟨d, hd, rv⟩ := r.get e
  rw [List.getElem?_map] at hd
  obtain ⟨y, hy, rfl⟩ := Option.map_eq_some_iff.mp hd
  obtain ⟨t, rfl⟩ := rv.int_inv
  exact ⟨y, t, hy, rfl⟩
theorem intsM {P P' : Addr → Prop} {h h' : Heap} : ∀ {o : List Int} {vs : List Value}, RepAll P h vs (o.map .int) → RepAll P' h' vs (o.map .int)
  | [], _, r => by cases r; exact .nil
  | a :: o, _, r => by
    cases r with
    | cons r rs =>
      obtain ⟨t, rfl⟩ := r.int_inv
      exact .cons (.int _ _) (intsM rs)
theorem ints_of {P : Addr → Prop} {h : Heap} : ∀ {o : List Int} {vs : List Value}, IntsAre vs o → RepAll P h vs (o.map .int)
  | _, _, .nil => .nil
  | _, _, .cons n t r => .cons (.int _ _) (ints_of r)

noncomputable def namesX (xs : List Int) : List Int := cutL xs (some 2) (some 8) ++ [5, 9, 38, 231, 34, 58, 0, 26, 9]
noncomputable def wordsX (xs : List Int) : List Int := cutL xs none (some 2) ++ cutL [38, 58] (some ((cutL xs none (some 2)).length : Int)) none
theorem namesX_len (xs : List Int) : (namesX xs).length ≤ 15 := by
  have h : (cutL xs (some ((2 : Nat) : Int)) (some ((8 : Nat) : Int))).length ≤ 6 := by
    unfold cutL lowAt highAt
    simp only [Option.elim, clipAt_nat]
    refine Nat.le_trans (List.length_take_le _ _) ?_
    rcases Nat.le_total 2 xs.length with h | h
    · rw [Nat.min_eq_left h]; exact Nat.le_trans (Nat.sub_le_sub_right (Nat.min_le_left 8 _) 2) (by decide)
    · rw [Nat.min_eq_right h, Nat.min_eq_right (Nat.le_trans h (by decide)), Nat.sub_self]; exact Nat.zero_le _
  unfold namesX
  rw [List.length_append]
  exact Nat.add_le_add_right h 9
theorem wordsX_len (xs : List Int) : (wordsX xs).length = 2 := by
  have e : cutL xs none (some 2) = xs.take 2 := cut_upto xs 2
  unfold wordsX
  rw [e, cut_from, List.length_append, List.length_drop, List.length_take]
  simp only [List.length_cons, List.length_nil]
  omega
noncomputable def namesL (xs : List Int) : List Wd := (namesX xs).map wordL
noncomputable def wordsL (xs : List Int) : List Wd := (wordsX xs).map wordL
/-- what the plain law says of words of none to three signs -/
structure PlainLaw : Prop where
  a : ∀ w n : Wd, w.length ≤ 3 → n.length ≤ 3 → Lets w → Lets n → ∀ b ∈ ([0, 1, 2, 6] : List Int), min (levL w n b) (b + 1) = min (costL w n) (b + 1)
  b : ∀ w n : Wd, w.length ≤ 3 → n.length ≤ 3 → Lets w → Lets n → ((toksL w).any fun r => takesT r n) = decide (costL w n < 3)
theorem plD_ints (l : List Int) : plD (pyI l) = true := by
  show plD (.list _) = true
  unfold plD
  exact plDs_map _ _ fun _ _ => rfl
theorem plD_intss (l : List (List Int)) : plD (.list (l.map pyI)) = true := by
  unfold plD
  exact plDs_map _ _ fun a _ => plD_ints a
theorem dep_intss (l : List (List Int)) : PyData.depth (.list (l.map pyI)) ≤ 100 := by
  unfold PyData.depth
  have := depth_map pyI 1 (fun r => by
    show PyData.depth (.list _) ≤ 1
    unfold PyData.depth
    have := depth_map PyData.int 0 (fun t => by unfold PyData.depth; exact Nat.le_refl _) r
    omega) l
  omega
noncomputable def costsL (xs : List Int) : List (List Int) := (wordsL xs).map fun w => (namesL xs).map fun n => costL w n

theorem Fm.wo {hb hs hz h h' : Heap} {L : Addr} {vs : Vs} {cs : Cs} {ms : List (Addr × List Value)} {W : List Addr} (F : Fm hb hs hz h L vs cs ms) (k : ∀ b o, b ≠ L → b ∉ W → h.get? b = some o → KA h' b o)
    (hW : ∀ b ∈ W, b ∉ owned L cs ms ∧ hb.get? b = none ∧ hs.get? b = none) (hL : ∃ sl oL, h.get? L = some oL ∧ h'.get? L = some { oL with slots := sl }) : Fm hb hs h' h' L vs cs ms := by
  obtain ⟨ndL, _⟩ := List.nodup_cons.mp F.nd
  exact {
    loc := by
      obtain ⟨m, ⟨o, es, ep, ho, hod, r⟩, a⟩ := F.loc
      obtain ⟨sl, oL, h1, h2⟩ := hL
      rw [ho] at h1; cases h1
      exact ⟨m, ⟨_, es, ep, h2, hod, r⟩, a⟩
    nv := F.nv
    cel := fun x c' v m => by
      obtain ⟨o, ho, hd⟩ := F.cel x c' v m
      have hc : c' ∈ cs.map (·.2.1) := List.mem_map_of_mem (f := (·.2.1)) m
      exact ⟨o, (k _ o (fun q => ndL (List.mem_append_left _ (q ▸ hc))) (fun q => (hW _ q).1 (mem_own_c hc)) ho).get (ne_dat hd (fun h => by cases h)), hd⟩
    mls := fun p m => by
      have hc : p.1 ∈ ms.map (·.1) := List.mem_map_of_mem (f := (·.1)) m
      obtain ⟨n, ho⟩ := F.mls p m
      exact ⟨n, (k _ _ (fun q => ndL (List.mem_append_right _ (q ▸ hc))) (fun q => (hW _ q).1 (mem_own_m hc)) ho).get (ne_typ (T := "list") rfl)⟩
    kb := fun a o e => (F.kb a o e).thr fun o' e' => k a o' (fun q => by rw [q, F.ob L mem_own_L] at e; cases e) (fun q => by rw [(hW _ q).2.1] at e; cases e) e'
    ob := F.ob
    k0 := fun a o na e => (F.k0 a o na e).thr fun o' e' => k a o' (fun q => na (q ▸ mem_own_L)) (fun q => by rw [(hW _ q).2.2] at e; cases e) e'
    kz := fun _ _ _ e _ => e
    nd := F.nd }
section
variable {prog : Program} {w : World} {A : Around} {E : Value → Shared → Prop} {s : Shared}
theorem listCopy {P : Addr → Prop} {v : Value} {o : List Wd} {Q : Value → Shared → Prop} (r : Rep P s.heap v (pyS o)) (hl : o.length ≤ 1000)
    (q : ∀ D h' us, Keep s.heap h' → New s.heap D → h'.PlainList D us.toArray → StrsAre us (o.map S) → Q (.ref D) { s with heap := h' }) : wpAny (model prog w) A (call (.type "list") [v]) Q E s := by
  obtain ⟨D, vs, rfl, _, hD, ra⟩ := r.toList
  have hlen : vs.length = o.length := by have := ra.length; simpa using this
  obtain ⟨ob, ho, hc, n, hd⟩ := hD
  exact call_list_seq D (.inl rfl) ho hc hd (fun h' c' k e => q _ h' vs (.of k) (New.of_size (Nat.le_refl _)) ⟨c', e⟩ (strsAre_of ra)) (by rw [List.size_toArray, sizeLine_eq]; omega)
end
theorem lackU_mem {one other : List Wd} {n : Nat} {x : Wd} (h : x ∈ lackU one other n) : x ∈ one := by
  unfold lackU at h
  obtain ⟨k, _, hk⟩ := List.mem_filterMap.mp h
  split at hk
  · exact List.mem_of_getElem? hk
  · cases hk
theorem missU_mem {c : Wd → Nat} {l : List Wd} {x : Wd} (h : x ∈ missU c l) : x ∈ l := by
  unfold missU at h
  obtain ⟨k, _, hk⟩ := List.mem_filterMap.mp h
  obtain ⟨y, hy, hk⟩ := Option.bind_eq_some_iff.mp hk
  split at hk
  · cases hk; exact List.mem_of_getElem? hy
  · cases hk
theorem leftU_mem {c : Wd → Nat} {l : List Wd} {x : Wd} (h : x ∈ leftU c l) : x ∈ l := by
  unfold leftU at h
  obtain ⟨k, _, hk⟩ := List.mem_filterMap.mp h
  obtain ⟨y, hy, hk⟩ := Option.bind_eq_some_iff.mp hk
  split at hk
  · cases hk; exact List.mem_of_getElem? hy
  · cases hk
theorem plD_said {a b c d : List Wd} (ha : Nms a) (hb : Nms b) (hc : Nms c) (hd : Nms d) : plD (.list [.tuple [pyS a, pyS b], .tuple [pyS c, pyS d]]) = true := by
  simp only [plD, plDs, plSs ha, plSs hb, plSs hc, plSs hd, Bool.and_self]
theorem dep_said {a b c d : List Wd} : PyData.depth (.list [.tuple [pyS a, pyS b], .tuple [pyS c, pyS d]]) ≤ 100 := by
  simp only [PyData.depth, PyData.depthAll, depth_strs]
  decide
noncomputable def nearR (xs : List Int) (w : Wd) : List Wd := (namesL xs).filter fun n => decide (costL w n < 3)
theorem nearR_len (xs : List Int) (w : Wd) : (nearR xs w).length ≤ 15 := by
  refine Nat.le_trans (List.length_filter_le _ _) ?_
  unfold namesL
  rw [List.length_map]; exact namesX_len xs
theorem nms_near (xs : List Int) (w : Wd) : Nms (nearR xs w) := fun n hn => nms_words _ n (List.mem_filter.mp hn).1
theorem plD_strss (l : List (List Wd)) (h : ∀ o ∈ l, Nms o) : plD (.list (l.map pyS)) = true := by
  unfold plD
  exact plDs_map _ _ fun a ha => by
    show plD (.list _) = true
    unfold plD
    exact plSs (h a ha)
theorem dep_strss (l : List (List Wd)) : PyData.depth (.list (l.map pyS)) ≤ 100 := by
  unfold PyData.depth
  have := depth_map pyS 1 (fun r => by
    show PyData.depth (.list _) ≤ 1
    unfold PyData.depth
    rw [depth_strs]; decide) l
  omega
section
variable {prog : Program} {w : World} {A : Around} {E : Value → Shared → Prop} {s : Shared} {mg mb : Str → Option Value}
theorem SlPost.any {env : Env} {value : Expr} {lo hi st : Option Expr} {p : Pos} {v vl vu vst : Value} {Q : Value → Shared → Prop}
    (h : SlPost (model prog w) A E Q (.Name (Str.ofString "_") ⟨0, 0, 0, 0⟩) lo hi st p v vl vu vst s) : SlPost (model prog w) A E Q value lo hi st p v vl vu vst s := by
  unfold SlPost at h ⊢
  exact PySem.W.kba_turn (value' := .Name (Str.ofString "_") ⟨0, 0, 0, 0⟩) (fun _ => rfl) h
inductive LawI (s : Shared) (xs : List Int) (D DW DC DN : Addr) (i : Nat) (hz : Heap) (vs : Vs) (cs : Cs) (ms : List (Addr × List Value)) : Prop
  | mk (ob oa : Option Value)
      (f0 : vs = ([("script", some (.ref D)), ("words", some (.ref DW)), ("costs", some (.ref DC)), ("asked", oa), ("near", none), ("said", none)] : Vs))
      (f1 : cs = ([("names", s.heap.objs.size + 1, some (.ref DN)), ("bound", s.heap.objs.size + 2, ob)] : Cs))
      (f2 : ms = ([] : List (Addr × List Value)))
      (f3 : Rep Any hz (.ref DN) (pyS (namesL xs)))
      (f4 : Rep Any hz (.ref DW) (pyS (wordsL xs)))
      (f5 : Rep Any hz (.ref DC) (.list ((costsL xs).map pyI)))
      : LawI s xs D DW DC DN i hz vs cs ms
set_option maxHeartbeats 0 in
theorem law_call {f D : Addr} {xs : List Int} {us : List Value} {Q : Value → Shared → Prop} (pl : PlainLaw) (B : Bt mg mb s.heap) (fn : FnAt s.heap f r25) (rm : Rm A 10) (hfr : A.frames = some [])
    (hl : s.heap.IsList D us.toArray) (hi : IntsAre us xs) (hlen : xs.length ≤ 63)
    (q : ∀ h' tk, Keep s.heap h' → Q (.bool true) { s with heap := h', toks := tk }) :
    wpAny (model prog w) A (call (.ref f) [.ref D]) Q E s := by
  refine enter (n := 9) (binds := [("script", .ref D)]) [("script", some (.ref D)), ("words", none), ("costs", none), ("asked", none), ("near", none), ("said", none)] [("names", s.heap.objs.size + 1, none), ("bound", s.heap.objs.size + 2, none)] [1, 2] rm Keep.rfl' fn B.lim (fun _ _ _ => rfl) fun h₁ tk cd F rm' => ?_
  have hfr' : (A.deeper (envOfC r25.name r25.scope s.heap.objs.size f cd)).frames = some [envOfC r25.name r25.scope s.heap.objs.size f cd] := by show A.frames.map _ = _; rw [hfr]; rfl
  generalize hA : A.deeper _ = A' at rm' hfr'
  have k0 : Keep s.heap s.heap := Keep.rfl'
  have llen := ld_builtin (M := model prog w) (env := envOfC r25.name r25.scope s.heap.objs.size f cd) B.g B.b B.blen.1 B.blen.2
  obtain ⟨fW, hW, fnW⟩ := B.word
  have lus : us.length = xs.length := hi.length
  have hl₁ := kList hl F.kb
  repeat walk_at "ev"
  refine comp_eval (cl := []) false rm'.hd ⟨by rfl, by rfl, by decide, by rfl, fun _ => by rfl, fun _ => by rfl⟩ ?_
  repeat walk_at "ev"
  refine slT_list hl₁ (.int _ _) (.int _ _) (by rw [sizeLine_eq]; omega) (fun D₁ h₂ k₂ n₂ p₂ => ?_)
  have F₂ := F.keep k₂
  repeat walk_at "ev"
  refine lnew (by rw [sizeLine_eq]; exact Nat.le_of_ble_eq_true rfl) (fun D₂ h₃ k₃ n₃ p₃ => ?_)
  repeat walk_at "ev"
  have lcut : (cutL us (some 2) (some 8)).length ≤ 63 := by
    unfold cutL
    rw [List.length_take, List.length_drop]; omega
  refine ladd (kPlain p₂ k₃).isList p₃.isList (by rw [sizeLine_eq]; simp only [List.length_cons, List.length_nil]; omega) (fun D₃ h₄ k₄ n₄ p₄ => ?_)
  have ru : RepAll Any h₄ us (xs.map .int) := ints_of hi
  obtain ⟨cv, hcv, p₄⟩ : ∃ cv, RepAll Any h₄ cv (([5, 9, 38, 231, 34, 58, 0, 26, 9] : List Int).map .int) ∧ h₄.PlainList D₃ (cutL us (some 2) (some 8) ++ cv).toArray :=
    ⟨_, (.cons (.int _ _) (.cons (.int _ _) (.cons (.int _ _) (.cons (.int _ _) (.cons (.int _ _) (.cons (.int _ _) (.cons (.int _ _) (.cons (.int _ _) (.cons (.int _ _) .nil))))))))), p₄⟩
  have rI : RepAll Any h₄ (cutL us (some 2) (some 8) ++ cv) ((namesX xs).map .int) := by
    unfold namesX
    rw [List.map_append, ← cutL_map]
    exact (ru.cut _ _).append hcv
  have lnx := namesX_len xs
  have lI := rI.length
  rw [List.length_map] at lI
  have F₄ := (F₂.keep k₃).keep k₄
  refine ⟨_, _, fun j => ((namesX xs)[j]?).map fun x => .str (S (wordL x)), iter_list p₄.isList, by rw [sizeLine_eq, List.size_toArray]; omega, ⟨?_, ?_⟩, ?_⟩
  · intro C j v h tk hj hP hk hC lk lc
    refine wpAny_pure ⟨?_, h, tk, rfl, Keep.rfl'⟩
    rw [List.size_toArray, lI] at hj
    simp [hj]
  · intro C j v h tk d hj hP hg hk hC lk lc
    have hP' := hP
    rw [List.getElem?_toArray] at hP'
    obtain ⟨x, tx, hx, rfl⟩ := rI.at_int hP'
    have hg' : ((namesX xs)[j]?).map (fun x => PyData.str (S (wordL x))) = some d := hg
    rw [hx] at hg'
    cases hg'
    have lwd := ld_global (M := model prog w) (env := compEnvK { kind := .function, names := [(".0", .local), ("x", .local), ("_law_word", .globalImplicit)], isGenerator := false, isCoroutine := false } [] C (envOfC r25.name r25.scope s.heap.objs.size f cd)) B.g hW
    have kBh : Keep s.heap h := F₄.kb.trans hk
    repeat walk_at "ev"
    refine cD fnW ?c1 ?a1
    case a1 => rfl
    repeat walk_at "ev"
    exact ⟨kBh, word_call B.toBs kBh fnW (rm'.mono (by omega)) (fun h' t' tk' k' => ⟨_, _, rfl, k', .str _ _⟩)⟩
  intro DN h₅ tk₅ k₅ nN hDN
  obtain ⟨ys, hlN, hrN⟩ := hDN
  rw [List.size_toArray, lI, fm_get] at hrN
  have rN : Rep Any h₅ (.ref DN) (pyS (namesL xs)) := Rep.ofList (P := Any) (vs := ys.toList) trivial (by simpa using hlN) (by
    unfold namesL
    rw [List.map_map, List.map_map]
    exact hrN.weak fun _ _ => trivial)
  have F₅ := (F₄.keep k₅).now
  clear F F₂ F₄
  repeat walk_at "ev"
  rename_i h₆ F₆
  have rN := F₆.rep rN
  have F₆ := F₆.now
  have hl₆ := kList hl F₆.kb
  refine comp_assign2 (cl := []) false (fun D' => [("script", some (.ref D)), ("words", some (.ref D')), ("costs", none), ("asked", none), ("near", none), ("said", none)]) F₆ rm'.hd ⟨by rfl, by rfl, by decide, by rfl, fun _ => by rfl, fun _ => by rfl⟩ ?k1 ?k2 ?k3 ?main
  case k1 => rfl
  case k2 => rfl
  case k3 => rfl
  case main =>
  repeat walk_at "ev"
  refine slT_list hl₆ .none (.int _ _) (by rw [sizeLine_eq]; omega) (fun D₁ h₂ k₂ n₂ p₂ => ?_)
  repeat walk_at "ev"
  refine lnew (by rw [sizeLine_eq]; exact Nat.le_of_ble_eq_true rfl) (fun D₂ h₃ k₃ n₃ p₃ => ?_)
  obtain ⟨cv, hcv, p₃⟩ : ∃ cv, RepAll Any h₃ cv (([38, 58] : List Int).map .int) ∧ h₃.PlainList D₂ cv.toArray := ⟨_, (.cons (.int _ _) (.cons (.int _ _) .nil)), p₃⟩
  have lcv : cv.length = 2 := hcv.length
  repeat walk_at "ev"
  refine slT_list (kList hl₆ (k₂.trans k₃)) .none (.int _ _) (by rw [sizeLine_eq]; omega) (fun D₃ h₄ k₄ n₄ p₄ => ?_)
  repeat walk_at "ev"
  have lcut : (cutL us none (some 2)).length ≤ 63 := by
    unfold cutL
    rw [List.length_take, List.length_drop]; omega
  refine lenL p₄.isList (by rw [List.size_toArray]; omega) (fun t₅ tk₅ => ?_)
  repeat walk_at "ev"
  refine SlPost.any (env := envOfC r25.name r25.scope s.heap.objs.size f cd) (slT_list (kPlain p₃ k₄).isList (.int _ _) .none (by rw [sizeLine_eq]; omega) (fun D₄ h₅ k₅ n₅ p₅ => ?_))
  rw [List.size_toArray] at p₅
  have lcut2 : (cutL cv (some ((cutL us none (some 2)).length : Int)) none).length ≤ 2 := by
    unfold cutL
    rw [List.length_take, List.length_drop]; omega
  repeat walk_at "ev"
  refine ladd (kPlain p₂ ((k₃.trans k₄).trans k₅)).isList p₅.isList (by rw [sizeLine_eq]; omega) (fun D₅ h₇ k₇ n₇ p₇ => ?_)
  have K₇ : Keep h₆ h₇ := (((k₂.trans k₃).trans k₄).trans k₅).trans k₇
  have ru : RepAll Any h₇ us (xs.map .int) := ints_of hi
  have lcu : (cutL us none (some 2)).length = (cutL xs none (some 2)).length := by
    have := (ru.cut none (some 2)).length
    rwa [cutL_map, List.length_map] at this
  rw [lcu] at p₇
  have rI : RepAll Any h₇ (cutL us none (some 2) ++ cutL cv (some ((cutL xs none (some 2)).length : Int)) none) ((wordsX xs).map .int) := by
    unfold wordsX
    rw [List.map_append, ← cutL_map, ← cutL_map]
    exact (ru.cut _ _).append ((intsM hcv).cut _ _)
  have lwx := wordsX_len xs
  have lI := rI.length
  rw [List.length_map] at lI
  have F₇ := F₆.keep K₇
  refine ⟨_, _, fun j => ((wordsX xs)[j]?).map fun x => .str (S (wordL x)), iter_list p₇.isList, by rw [sizeLine_eq, List.size_toArray]; omega, ⟨?_, ?_⟩, K₇, fun DW => ⟨Put.there Put.here, ?_⟩⟩
  · intro C j v h tk hj hP hk hC lk lc
    refine wpAny_pure ⟨?_, h, tk, rfl, Keep.rfl'⟩
    rw [List.size_toArray, lI] at hj
    simp [hj]
  · intro C j v h tk d hj hP hg hk hC lk lc
    have hP' := hP
    rw [List.getElem?_toArray] at hP'
    obtain ⟨x, tx, hx, rfl⟩ := rI.at_int hP'
    have hg' : ((wordsX xs)[j]?).map (fun x => PyData.str (S (wordL x))) = some d := hg
    rw [hx] at hg'
    cases hg'
    have lwd := ld_global (M := model prog w) (env := compEnvK { kind := .function, names := [(".0", .local), ("x", .local), ("_law_word", .globalImplicit)], isGenerator := false, isCoroutine := false } [] C (envOfC r25.name r25.scope s.heap.objs.size f cd)) B.g hW
    have kBh : Keep s.heap h := F₇.kb.trans hk
    repeat walk_at "ev"
    refine cD fnW ?c2 ?a2
    case a2 => rfl
    repeat walk_at "ev"
    exact ⟨kBh, word_call B.toBs kBh fnW (rm'.mono (by omega)) (fun h' t' tk' k' => ⟨_, _, rfl, k', .str _ _⟩)⟩
  intro h₈ tk₈ nW hDW F₈
  obtain ⟨ys, hlW, hrW⟩ := hDW
  rw [List.size_toArray, lI, fm_get] at hrW
  have rW : Rep Any h₈ (.ref DW) (pyS (wordsL xs)) := Rep.ofList (P := Any) (vs := ys.toList) trivial (by simpa using hlW) (by
    unfold wordsL
    rw [List.map_map, List.map_map]
    exact hrW.weak fun _ _ => trivial)
  have rN := F₈.rep rN
  have F₈ := F₈.now
  obtain ⟨fC, hC, fnC⟩ := B.cost
  have lnW : (wordsL xs).length = 2 := by unfold wordsL; rw [List.length_map]; exact lwx
  have lnN : (namesL xs).length ≤ 15 := by unfold namesL; rw [List.length_map]; exact lnx
  have nmW : Nms (wordsL xs) := nms_words _
  have nmN : Nms (namesL xs) := nms_words _
  repeat walk_at "ev"
  obtain ⟨_, wv, e, _, hwv, raW⟩ := rW.toList
  cases e
  obtain ⟨_, nv, e, _, hnv, raN⟩ := rN.toList
  cases e
  have lwv : wv.length = 2 := by have := raW.length; simpa [lnW] using this
  have lnv : nv.length = (namesL xs).length := by have := raN.length; simpa using this
  have icn := F₈.cel _ _ _ List.mem_cons_self
  refine comp_assign2 (cl := [("names", s.heap.objs.size + 1)]) true (fun D' => [("script", some (.ref D)), ("words", some (.ref DW)), ("costs", some (.ref D')), ("asked", none), ("near", none), ("said", none)]) F₈ rm'.hd ⟨by rfl, by rfl, by decide, by rfl, fun _ => by rfl, fun _ => by rfl⟩ ?m1 ?m2 ?m3 ?main2
  case m1 => rfl
  case m2 => rfl
  case m3 => rfl
  case main2 =>
  repeat walk_at "ev"
  refine ⟨wv.toArray.size, _, fun j => ((wordsL xs)[j]?).map fun w => pyI ((namesL xs).map fun n => costL w n), iter_list hwv, by rw [sizeLine_eq, List.size_toArray]; omega, ⟨?_, ?_⟩, Keep.rfl', fun DC => ⟨Put.there (Put.there Put.here), ?_⟩⟩
  · intro C j v h tk hj hP hk hC' lk lc
    refine wpAny_pure ⟨?_, h, tk, rfl, Keep.rfl'⟩
    rw [List.size_toArray, lwv] at hj
    simp [lnW, hj]
  · intro C j v h tk d hj hP hg hk hC' lk lc
    have hv : wv[j]? = some v := by simpa using hP
    obtain ⟨y', t', hy, rfl⟩ := raW.at_str hv
    rw [List.getElem?_map] at hy
    obtain ⟨wd, hwd, rfl⟩ := Option.map_eq_some_iff.mp hy
    have hg' : ((wordsL xs)[j]?).map (fun w => pyI ((namesL xs).map fun n => costL w n)) = some d := hg
    rw [hwd] at hg'
    cases hg'
    have mw := nmW wd (List.mem_of_getElem? hwd)
    have icw := lc rfl
    have icn' := kCell icn hk
    have hnv' := kList hnv hk
    have kBh : Keep s.heap h := F₈.kb.trans hk
    refine comp_eval (cl := [("word", C + 1)]) false rm'.hd ⟨by rfl, by rfl, by decide, by rfl, fun _ => by rfl, fun _ => by rfl⟩ ?_
    repeat walk_at "ev"
    refine ⟨nv.toArray.size, _, fun i => ((namesL xs)[i]?).map fun n => .int (costL wd n), iter_list hnv', by rw [sizeLine_eq, List.size_toArray]; omega, ⟨?_, ?_⟩, ?_⟩
    · intro C₂ i v h' tk' hi' hPi hk' hC₂ lk' lc'
      refine wpAny_pure ⟨?_, h', tk', rfl, Keep.rfl'⟩
      rw [List.size_toArray, lnv] at hi'
      simp [hi']
    · intro C₂ i v h' tk' d hi' hPi hg hk' hC₂ lk' lc'
      have hv' : nv[i]? = some v := by simpa using hPi
      obtain ⟨y', t'', hy, rfl⟩ := raN.at_str hv'
      rw [List.getElem?_map] at hy
      obtain ⟨nm, hnm, rfl⟩ := Option.map_eq_some_iff.mp hy
      have hg' : ((namesL xs)[i]?).map (fun n => PyData.int (costL wd n)) = some d := hg
      rw [hnm] at hg'
      cases hg'
      have mn := nmN nm (List.mem_of_getElem? hnm)
      have icw' := kCell icw hk'
      have lcs := ld_global (M := model prog w) (env := compEnvK { kind := .function, names := [(".0", .local), ("name", .local), ("_law_cost", .globalImplicit), ("word", .free)], isGenerator := false, isCoroutine := false } [("word", C + 1)] C₂ (compEnvK { kind := .function, names := [(".0", .local), ("word", .cell), ("names", .free)], isGenerator := false, isCoroutine := false } [("names", s.heap.objs.size + 1)] C (envOfC r25.name r25.scope s.heap.objs.size f cd))) B.g hC
      have kBh' : Keep s.heap h' := kBh.trans hk'
      repeat walk_at "ev"
      refine cD fnC ?c3 ?a3
      case a3 => rfl
      repeat walk_at "ev"
      refine ⟨kBh', cost_call B.toBs kBh' fnC (rm'.mono (by omega)) (by simpa using mw.1) (by simpa using mn.1) (fun t₃ h₃ tk₃ k₃ => ⟨_, _, rfl, k₃, .int _ _⟩)⟩
    · intro D₃ h₉ tk₉ k₉ nD₃ hD₃
      obtain ⟨zs, hl₉, hr₉⟩ := hD₃
      rw [List.size_toArray, lnv, fm_get] at hr₉
      refine ⟨_, _, rfl, k₉, Rep.ofList (P := New h) (vs := zs.toList) nD₃ (by simpa using hl₉) ?_⟩
      rw [List.map_map]
      exact hr₉.weak fun _ p => p.1
  intro h₉ tk₉ nC hDC F₉
  obtain ⟨ys, hlC, hrC⟩ := hDC
  rw [List.size_toArray, lwv, ← lnW, fm_get] at hrC
  have rC : Rep Any h₉ (.ref DC) (.list ((costsL xs).map pyI)) := Rep.ofList (P := Any) (vs := ys.toList) trivial (by simpa using hlC) (by
    unfold costsL
    rw [List.map_map]
    exact hrC.weak fun _ _ => trivial)
  have rN := F₉.rep rN
  have rW := F₉.rep rW
  have F₉ := F₉.now
  obtain ⟨fV, hV, fnV⟩ := B.lev
  repeat walk_at "ev"
  refine for_stmt (hb := s.heap) (hs := s.heap) rm'.hd [s.heap.objs.size, s.heap.objs.size + 1, s.heap.objs.size + 2]
    (LawI s xs D DW DC DN) ?_ ?_
  · rintro i hz vs cs ms ⟨ob, oa, rfl, rfl, rfl, _⟩
    rfl
  repeat walk_at "ev"
  refine tnew (by rw [sizeLine_eq]; exact Nat.le_of_ble_eq_true rfl) (fun T h₂ k₂ nT gT => ?_)
  obtain ⟨bv, hbv, gT⟩ : ∃ bv, RepAll Any h₂ bv (([0, 1, 2, 6] : List Int).map .int) ∧ h₂.get? T = some { cls := .type "tuple", data := .seq bv.toArray } := ⟨_, (.cons (.int _ _) (.cons (.int _ _) (.cons (.int _ _) (.cons (.int _ _) .nil)))), gT⟩
  have lbv : bv.length = 4 := hbv.length
  refine ⟨_, _, _, _, _, _, iter_tuple ⟨_, gT, rfl, _, rfl⟩, (F₉.keep k₂).now, ⟨_, _, rfl, rfl, rfl, rN.keep k₂, rW.keep k₂, rC.keep k₂⟩, F₉.fresh nT, ?_, ?_⟩
  · rintro i v hs' hz' h tk vs cs ms hi hP ⟨ob, oa, rfl, rfl, rfl, rN, rW, rC⟩ F
    rw [List.getElem?_toArray] at hP
    obtain ⟨b, tb, hb, rfl⟩ := hbv.at_int hP
    have hbm := List.mem_of_getElem? hb
    repeat walk_at "ev"
    rename_i g₁ F₁
    have rN := F₁.rep rN
    have rW := F₁.rep rW
    have rC := F₁.rep rC
    have F₁ := F₁.now
    clear F
    obtain ⟨_, wv, e, _, hwv, raW⟩ := rW.toList
    cases e
    obtain ⟨_, nv, e, _, hnv, raN⟩ := rN.toList
    cases e
    have lwv : wv.length = 2 := by have := raW.length; simpa [lnW] using this
    have lnv : nv.length = (namesL xs).length := by have := raN.length; simpa using this
    have icn := F₁.cel _ _ _ List.mem_cons_self
    have icb := F₁.cel _ _ _ (List.mem_cons_of_mem _ List.mem_cons_self)
    refine comp_assign2 (cl := [("names", s.heap.objs.size + 1), ("bound", s.heap.objs.size + 2)]) true (fun D' => [("script", some (.ref D)), ("words", some (.ref DW)), ("costs", some (.ref DC)), ("asked", some (.ref D')), ("near", none), ("said", none)]) F₁ rm'.hd ⟨by rfl, by rfl, by decide, by rfl, fun _ => by rfl, fun _ => by rfl⟩ ?w1 ?w2 ?w3 ?main3
    case w1 => rfl
    case w2 => rfl
    case w3 => rfl
    case main3 =>
    repeat walk_at "ev"
    refine ⟨wv.toArray.size, _, fun j => ((wordsL xs)[j]?).map fun w => pyI ((namesL xs).map fun n => min (levL w n b) (b + 1)), iter_list hwv, by rw [sizeLine_eq, List.size_toArray]; omega, ⟨?_, ?_⟩, Keep.rfl', fun DA => ⟨Put.there (Put.there (Put.there Put.here)), ?_⟩⟩
    · intro C j v h tk hj hP hk hC' lk lc
      refine wpAny_pure ⟨?_, h, tk, rfl, Keep.rfl'⟩
      rw [List.size_toArray, lwv] at hj
      simp [lnW, hj]
    · intro C j v h tk d hj hP hg hk hC' lk lc
      have hv : wv[j]? = some v := by simpa using hP
      obtain ⟨y', t', hy, rfl⟩ := raW.at_str hv
      rw [List.getElem?_map] at hy
      obtain ⟨wd, hwd, rfl⟩ := Option.map_eq_some_iff.mp hy
      have hg' : ((wordsL xs)[j]?).map (fun w => pyI ((namesL xs).map fun n => min (levL w n b) (b + 1))) = some d := hg
      rw [hwd] at hg'
      cases hg'
      have mw := nmW wd (List.mem_of_getElem? hwd)
      have icw := lc rfl
      have icn' := kCell icn hk
      have icb' := kCell icb hk
      have hnv' := kList hnv hk
      have kBh : Keep s.heap h := F₁.kb.trans hk
      refine comp_eval (cl := [("word", C + 1), ("bound", s.heap.objs.size + 2)]) false rm'.hd ⟨by rfl, by rfl, by decide, by rfl, fun _ => by rfl, fun _ => by rfl⟩ ?_
      repeat walk_at "ev"
      refine ⟨nv.toArray.size, _, fun i => ((namesL xs)[i]?).map fun n => .int (min (levL wd n b) (b + 1)), iter_list hnv', by rw [sizeLine_eq, List.size_toArray]; omega, ⟨?_, ?_⟩, ?_⟩
      · intro C₂ i v h' tk' hi' hPi hk' hC₂ lk' lc'
        refine wpAny_pure ⟨?_, h', tk', rfl, Keep.rfl'⟩
        rw [List.size_toArray, lnv] at hi'
        simp [hi']
      · intro C₂ i v h' tk' d hi' hPi hg hk' hC₂ lk' lc'
        have hv' : nv[i]? = some v := by simpa using hPi
        obtain ⟨y', t'', hy, rfl⟩ := raN.at_str hv'
        rw [List.getElem?_map] at hy
        obtain ⟨nm, hnm, rfl⟩ := Option.map_eq_some_iff.mp hy
        have hg' : ((namesL xs)[i]?).map (fun n => PyData.int (min (levL wd n b) (b + 1))) = some d := hg
        rw [hnm] at hg'
        cases hg'
        have mn := nmN nm (List.mem_of_getElem? hnm)
        have icw' := kCell icw hk'
        have icb'' := kCell icb' hk'
        have lvs := ld_global (M := model prog w) (env := compEnvK { kind := .function, names := [(".0", .local), ("name", .local), ("min", .globalImplicit), ("_levenshtein_distance", .globalImplicit), ("bound", .free), ("word", .free)], isGenerator := false, isCoroutine := false } [("word", C + 1), ("bound", s.heap.objs.size + 2)] C₂ (compEnvK { kind := .function, names := [(".0", .local), ("word", .cell), ("bound", .free), ("names", .free)], isGenerator := false, isCoroutine := false } [("names", s.heap.objs.size + 1), ("bound", s.heap.objs.size + 2)] C (envOfC r25.name r25.scope s.heap.objs.size f cd))) B.g hV
        have lmn := ld_builtin (M := model prog w) (env := compEnvK { kind := .function, names := [(".0", .local), ("name", .local), ("min", .globalImplicit), ("_levenshtein_distance", .globalImplicit), ("bound", .free), ("word", .free)], isGenerator := false, isCoroutine := false } [("word", C + 1), ("bound", s.heap.objs.size + 2)] C₂ (compEnvK { kind := .function, names := [(".0", .local), ("word", .cell), ("bound", .free), ("names", .free)], isGenerator := false, isCoroutine := false } [("names", s.heap.objs.size + 1), ("bound", s.heap.objs.size + 2)] C (envOfC r25.name r25.scope s.heap.objs.size f cd))) B.g B.b B.bmin.1 B.bmin.2
        have kBh' : Keep s.heap h' := kBh.trans hk'
        repeat walk_at "ev"
        refine cD fnV ?c4 ?a4
        case a4 => rfl
        repeat walk_at "ev"
        refine ⟨kBh', lev_call B.toBs kBh' fnV (rm'.mono (by omega)) mw.1 mn.1 mw.2 mn.2 (fun t₃ h₃ tk₃ k₃ => ?_)⟩
        have icb₃ := kCell icb'' k₃
        repeat walk_at "ev"
        refine min2 rm'.hd (fun t₄ h₄ tk₄ k₄ => ?_)
        exact ⟨_, _, rfl, k₃.trans k₄, .int _ _⟩
      · intro D₃ h₉ tk₉ k₉ nD₃ hD₃
        obtain ⟨zs, hl₉, hr₉⟩ := hD₃
        rw [List.size_toArray, lnv, fm_get] at hr₉
        refine ⟨_, _, rfl, k₉, Rep.ofList (P := New h) (vs := zs.toList) nD₃ (by simpa using hl₉) ?_⟩
        rw [List.map_map]
        exact hr₉.weak fun _ p => p.1
    intro g₂ tk₂ nA hDA F₂
    obtain ⟨ys, hlA, hrA⟩ := hDA
    rw [List.size_toArray, lwv, ← lnW, fm_get] at hrA
    have rA : Rep Any g₂ (.ref DA) (.list (((wordsL xs).map fun w => (namesL xs).map fun n => min (levL w n b) (b + 1)).map pyI)) := Rep.ofList (P := Any) (vs := ys.toList) trivial (by simpa using hlA) (by
      rw [List.map_map]
      exact hrA.weak fun _ _ => trivial)
    have rN := F₂.rep rN
    have rW := F₂.rep rW
    have rC := F₂.rep rC
    have F₂ := F₂.now
    clear F₁
    repeat walk_at "ev"
    have icb := F₂.cel _ _ _ (List.mem_cons_of_mem _ List.mem_cons_self)
    obtain ⟨_, cv, e, _, hcv, raC⟩ := rC.toList
    cases e
    have lnC : (costsL xs).length = 2 := by unfold costsL; rw [List.length_map]; exact lnW
    have lcv : cv.length = 2 := by have := raC.length; simpa [lnC] using this
    refine comp_eval (cl := [("bound", s.heap.objs.size + 2)]) false rm'.hd ⟨by rfl, by rfl, by decide, by rfl, fun _ => by rfl, fun _ => by rfl⟩ ?_
    repeat walk_at "ev"
    refine ⟨cv.toArray.size, _, fun j => ((costsL xs)[j]?).map fun row => pyI (row.map fun c => min c (b + 1)), iter_list hcv, by rw [sizeLine_eq, List.size_toArray]; omega, ⟨?_, ?_⟩, ?_⟩
    · intro C j v h tk hj hP hk hC' lk lc
      refine wpAny_pure ⟨?_, h, tk, rfl, Keep.rfl'⟩
      rw [List.size_toArray, lcv] at hj
      simp [lnC, hj]
    · intro C j v h tk d hj hP hg hk hC' lk lc
      have hv : cv[j]? = some v := by simpa using hP
      obtain ⟨d', hd', rv⟩ := raC.get hv
      rw [List.getElem?_map] at hd'
      obtain ⟨row, hrow, rfl⟩ := Option.map_eq_some_iff.mp hd'
      have hg' : ((costsL xs)[j]?).map (fun row => pyI (row.map fun c => min c (b + 1))) = some d := hg
      rw [hrow] at hg'
      cases hg'
      have lrow : row.length ≤ 15 := by
        have hm := List.mem_of_getElem? hrow
        unfold costsL at hm
        obtain ⟨wd, _, rfl⟩ := List.mem_map.mp hm
        rw [List.length_map]; exact lnN
      obtain ⟨DR, rv', rfl, _, hrv, rar⟩ := (rv.keep hk).toList
      have lrv : rv'.length = row.length := by have := rar.length; simpa using this
      have icb' := kCell icb hk
      have kBh : Keep s.heap h := F₂.kb.trans hk
      refine comp_eval (cl := [("bound", s.heap.objs.size + 2)]) false rm'.hd ⟨by rfl, by rfl, by decide, by rfl, fun _ => by rfl, fun _ => by rfl⟩ ?_
      repeat walk_at "ev"
      refine ⟨rv'.toArray.size, _, fun i => (row[i]?).map fun c => .int (min c (b + 1)), iter_list hrv, by rw [sizeLine_eq, List.size_toArray]; omega, ⟨?_, ?_⟩, ?_⟩
      · intro C₂ i v h' tk' hi' hPi hk' hC₂ lk' lc'
        refine wpAny_pure ⟨?_, h', tk', rfl, Keep.rfl'⟩
        rw [List.size_toArray, lrv] at hi'
        simp [hi']
      · intro C₂ i v h' tk' d hi' hPi hg hk' hC₂ lk' lc'
        have hv' : rv'[i]? = some v := by simpa using hPi
        obtain ⟨c, tc, hc, rfl⟩ := rar.at_int hv'
        have hg' : (row[i]?).map (fun c => PyData.int (min c (b + 1))) = some d := hg
        rw [hc] at hg'
        cases hg'
        have icb'' := kCell icb' hk'
        have lmn := ld_builtin (M := model prog w) (env := compEnvK { kind := .function, names := [(".0", .local), ("cost", .local), ("min", .globalImplicit), ("bound", .free)], isGenerator := false, isCoroutine := false } [("bound", s.heap.objs.size + 2)] C₂ (compEnvK { kind := .function, names := [(".0", .local), ("row", .local), ("bound", .free)], isGenerator := false, isCoroutine := false } [("bound", s.heap.objs.size + 2)] C (envOfC r25.name r25.scope s.heap.objs.size f cd))) B.g B.b B.bmin.1 B.bmin.2
        have kBh' : Keep s.heap h' := kBh.trans hk'
        repeat walk_at "ev"
        refine min2 rm'.hd (fun t₄ h₄ tk₄ k₄ => ?_)
        exact ⟨_, _, rfl, k₄, .int _ _⟩
      · intro D₃ h₉ tk₉ k₉ nD₃ hD₃
        obtain ⟨zs, hl₉, hr₉⟩ := hD₃
        rw [List.size_toArray, lrv, fm_get] at hr₉
        refine ⟨_, _, rfl, k₉, Rep.ofList (P := New h) (vs := zs.toList) nD₃ (by simpa using hl₉) ?_⟩
        rw [List.map_map]
        exact hr₉.weak fun _ p => p.1
    intro DB g₃ tk₃ k₃ nB hDB
    obtain ⟨zs, hlB, hrB⟩ := hDB
    rw [List.size_toArray, lcv, ← lnC, fm_get] at hrB
    have rB : Rep Any g₃ (.ref DB) (.list (((costsL xs).map fun row => row.map fun c => min c (b + 1)).map pyI)) := Rep.ofList (P := Any) (vs := zs.toList) trivial (by simpa using hlB) (by
      rw [List.map_map]
      exact hrB.weak fun _ _ => trivial)
    refine neData rm' (rA.keep k₃) rB (plD_intss _) (plD_intss _) (dep_intss _) (fun c hc => ?_)
    have heq : ((wordsL xs).map fun w => (namesL xs).map fun n => min (levL w n b) (b + 1)) = (costsL xs).map fun row => row.map fun c => min c (b + 1) := by
      unfold costsL
      rw [List.map_map]
      refine List.map_congr_left fun wd hwd => ?_
      show _ = ((namesL xs).map fun n => costL wd n).map _
      rw [List.map_map]
      exact List.map_congr_left fun nm hnm => pl.a wd nm (nmW wd hwd).1 (nmN nm hnm).1 (nmW wd hwd).2 (nmN nm hnm).2 b hbm
    have hcf : c = false := by
      cases c
      · rfl
      · exact absurd (by rw [heq]) (hc.mp rfl)
    subst hcf
    have F₃ := F₂.keep k₃
    repeat walk_at "ev"
    rw [if_neg Bool.false_ne_true]
    repeat walk_at "ev"
    exact ⟨rfl, _, _, _, _, _, _, rfl, ⟨_, _, rfl, rfl, rfl, rN, rW, rC⟩, F₃⟩
  · rintro hz' h tk vs cs ms ⟨ob, oa, rfl, rfl, rfl, rN, rW, rC⟩ F
    have rN := F.rep rN
    have rW := F.rep rW
    have rC := F.rep rC
    have F := F.now
    repeat walk_at "ev"
    obtain ⟨_, cv, e, _, hcv, raC⟩ := rC.toList
    cases e
    have lnC : (costsL xs).length = 2 := by unfold costsL; rw [List.length_map]; exact lnW
    have lcv : cv.length = 2 := by have := raC.length; simpa [lnC] using this
    obtain ⟨_, nv, e, _, hnv, raN⟩ := rN.toList
    cases e
    have lnv : nv.length = (namesL xs).length := by have := raN.length; simpa using this
    have icn := F.cel _ _ _ List.mem_cons_self
    refine comp_assign2 (cl := [("names", s.heap.objs.size + 1)]) true (fun D' => [("script", some (.ref D)), ("words", some (.ref DW)), ("costs", some (.ref DC)), ("asked", oa), ("near", some (.ref D')), ("said", none)]) F rm'.hd ⟨by rfl, by rfl, by decide, by rfl, fun _ => by rfl, fun _ => by rfl⟩ ?y1 ?y2 ?y3 ?main4
    case y1 => rfl
    case y2 => rfl
    case y3 => rfl
    case main4 =>
    repeat walk_at "ev"
    refine ⟨cv.toArray.size, _, fun j => ((wordsL xs)[j]?).map fun w => pyS (nearR xs w), iter_list hcv, by rw [sizeLine_eq, List.size_toArray]; omega, ⟨?_, ?_⟩, Keep.rfl', fun DR => ⟨Put.there (Put.there (Put.there (Put.there Put.here))), ?_⟩⟩
    · intro C j v h tk hj hP hk hC' lk lc
      refine wpAny_pure ⟨?_, h, tk, rfl, Keep.rfl'⟩
      rw [List.size_toArray, lcv] at hj
      simp [lnW, hj]
    · intro C j v h tk d hj hP hg hk hC' lk lc
      have hv : cv[j]? = some v := by simpa using hP
      obtain ⟨d', hd', rv⟩ := raC.get hv
      have hcw : (costsL xs)[j]? = ((wordsL xs)[j]?).map fun w => (namesL xs).map fun n => costL w n := by unfold costsL; rw [List.getElem?_map]
      rw [List.getElem?_map, hcw] at hd'
      obtain ⟨row, hrow, rfl⟩ := Option.map_eq_some_iff.mp hd'
      obtain ⟨wd, hwd, rfl⟩ := Option.map_eq_some_iff.mp hrow
      have hg' : ((wordsL xs)[j]?).map (fun w => pyS (nearR xs w)) = some d := hg
      rw [hwd] at hg'
      cases hg'
      obtain ⟨DRo, rv', rfl, _, hrv, rar⟩ := (rv.keep hk).toList
      have lrv : rv'.length = (namesL xs).length := by have := rar.length; simpa using this
      have icr := lc rfl
      have icn' := kCell icn hk
      have hnv' := kList hnv hk
      have kBh : Keep s.heap h := F.kb.trans hk
      have ll := ld_builtin (M := model prog w) (env := compEnvK { kind := .function, names := [(".0", .local), ("row", .cell), ("range", .globalImplicit), ("len", .globalImplicit), ("names", .free)], isGenerator := false, isCoroutine := false } [("names", s.heap.objs.size + 1)] C (envOfC r25.name r25.scope s.heap.objs.size f cd)) B.g B.b B.blen.1 B.blen.2
      have lr := ld_builtin (M := model prog w) (env := compEnvK { kind := .function, names := [(".0", .local), ("row", .cell), ("range", .globalImplicit), ("len", .globalImplicit), ("names", .free)], isGenerator := false, isCoroutine := false } [("names", s.heap.objs.size + 1)] C (envOfC r25.name r25.scope s.heap.objs.size f cd)) B.g B.b B.brange.1 B.brange.2
      refine comp_eval (cl := [("row", C + 1), ("names", s.heap.objs.size + 1)]) false rm'.hd ⟨by rfl, by rfl, by decide, by rfl, fun _ => by rfl, fun _ => by rfl⟩ ?_
      repeat walk_at "ev"
      refine lenL hnv' (by rw [List.size_toArray]; omega) (fun t₅ tk₅ => ?_)
      repeat walk_at "ev"
      rw [List.size_toArray, lnv]
      refine range1 (by omega) (fun r h₂ tk₂ k₂ it => ?_)
      refine ⟨(namesL xs).length, _, fun i => ((namesL xs)[i]?).bind fun n => if decide (costL wd n < 3) then some (.str (S n)) else none, it, by rw [sizeLine_eq]; omega, ⟨?_, ?_⟩, ?_⟩
      · intro C₂ i v h' tk' hi' hPi hk' hC₂ lk' lc'
        obtain ⟨ti, rfl⟩ := hPi
        have icr' := kCell icr (k₂.trans hk')
        have kBh' : Keep s.heap h' := (kBh.trans k₂).trans hk'
        obtain ⟨nm, hnm⟩ : ∃ nm, (namesL xs)[i]? = some nm := ⟨_, List.getElem?_eq_getElem hi'⟩
        have hv' : rv'[i]? = some (rv'[i]'(by omega)) := List.getElem?_eq_getElem (by omega)
        obtain ⟨c, tc, hc, ev⟩ := rar.at_int hv'
        rw [List.getElem?_map, hnm] at hc
        cases hc
        rw [ev] at hv'
        refine wpAny_tests_one ?_
        repeat walk_at "ev"
        refine litem (kList hrv (k₂.trans hk')) hv' (by omega) ?_ rfl
        repeat walk_at "ev"
        refine ⟨?_, _, _, rfl, Keep.rfl'⟩
        show _ = (((namesL xs)[i]?).bind fun n => if decide (costL wd n < 3) then some (PyData.str (S n)) else none).isSome
        rw [hnm, Option.bind_some]
        cases decide (costL wd nm < 3) <;> rfl
      · intro C₂ i v h' tk' d hi' hPi hg hk' hC₂ lk' lc'
        obtain ⟨ti, rfl⟩ := hPi
        obtain ⟨nm, hnm⟩ : ∃ nm, (namesL xs)[i]? = some nm := ⟨_, List.getElem?_eq_getElem hi'⟩
        have hv' : nv[i]? = some (nv[i]'(by omega)) := List.getElem?_eq_getElem (by omega)
        obtain ⟨y', t'', hy, ev⟩ := raN.at_str hv'
        rw [List.getElem?_map, hnm] at hy
        cases hy
        rw [ev] at hv'
        have icn'' := kCell icn' (k₂.trans hk')
        have kBh' : Keep s.heap h' := (kBh.trans k₂).trans hk'
        have hg' : (((namesL xs)[i]?).bind fun n => if decide (costL wd n < 3) then some (PyData.str (S n)) else none) = some d := hg
        rw [hnm, Option.bind_some] at hg'
        split at hg'
        · cases hg'
          repeat walk_at "ev"
          refine litem (kList hnv' (k₂.trans hk')) hv' (by omega) ?_ rfl
          exact ⟨_, _, rfl, Keep.rfl', .str _ _⟩
        · cases hg'
      · intro D₃ h₉ tk₉ k₉ nD₃ hD₃
        obtain ⟨zs, hl₉, hr₉⟩ := hD₃
        rw [fm_bind, fm_if] at hr₉
        refine ⟨_, _, rfl, k₂.trans k₉, Rep.ofList (P := New h) (vs := zs.toList) (New.back k₂ _ nD₃) (by simpa using hl₉) ?_⟩
        unfold nearR
        rw [List.map_map]
        exact strs_move S hr₉
    intro g₂ tk₂ nR hDR F₂
    obtain ⟨ys, hlR, hrR⟩ := hDR
    rw [List.size_toArray, lcv, ← lnW, fm_get] at hrR
    have rR : Rep Any g₂ (.ref DR) (.list (((wordsL xs).map (nearR xs)).map pyS)) := Rep.ofList (P := Any) (vs := ys.toList) trivial (by simpa using hlR) (by
      rw [List.map_map]
      exact hrR.weak fun _ _ => trivial)
    have rN := F₂.rep rN
    have rW := F₂.rep rW
    have F₂ := F₂.now
    clear F
    repeat walk_at "ev"
    obtain ⟨_, wv, e, _, hwv, raW⟩ := rW.toList
    cases e
    have lwv : wv.length = 2 := by have := raW.length; simpa [lnW] using this
    obtain ⟨fT, hT, fnT⟩ := B.taken
    have icn := F₂.cel _ _ _ List.mem_cons_self
    refine comp_eval (cl := [("names", s.heap.objs.size + 1)]) false rm'.hd ⟨by rfl, by rfl, by decide, by rfl, fun _ => by rfl, fun _ => by rfl⟩ ?_
    repeat walk_at "ev"
    refine ⟨wv.toArray.size, _, fun j => ((wordsL xs)[j]?).map fun w => pyS (takenL w (namesL xs)), iter_list hwv, by rw [sizeLine_eq, List.size_toArray]; omega, ⟨?_, ?_⟩, ?_⟩
    · intro C j v h tk hj hP hk hC' lk lc
      refine wpAny_pure ⟨?_, h, tk, rfl, Keep.rfl'⟩
      rw [List.size_toArray, lwv] at hj
      simp [lnW, hj]
    · intro C j v h tk d hj hP hg hk hC' lk lc
      have hv : wv[j]? = some v := by simpa using hP
      obtain ⟨y', t', hy, rfl⟩ := raW.at_str hv
      rw [List.getElem?_map] at hy
      obtain ⟨wd, hwd, rfl⟩ := Option.map_eq_some_iff.mp hy
      have hg' : ((wordsL xs)[j]?).map (fun w => pyS (takenL w (namesL xs))) = some d := hg
      rw [hwd] at hg'
      cases hg'
      have mw := nmW wd (List.mem_of_getElem? hwd)
      have icn' := kCell icn hk
      have kBh : Keep s.heap h := F₂.kb.trans hk
      have ltk := ld_global (M := model prog w) (env := compEnvK { kind := .function, names := [(".0", .local), ("word", .local), ("_law_taken", .globalImplicit), ("names", .free)], isGenerator := false, isCoroutine := false } [("names", s.heap.objs.size + 1)] C (envOfC r25.name r25.scope s.heap.objs.size f cd)) B.g hT
      repeat walk_at "ev"
      refine cD fnT ?c5 ?a5
      case a5 => rfl
      repeat walk_at "ev"
      exact ⟨kBh, taken_call B kBh fnT (rm'.mono (by omega)) mw.1 mw.2 (by omega) (fun n hn => (nmN n hn).1) (rN.keep hk) (fun v h₃ tk₃ k₃ r₃ => ⟨_, _, rfl, k₃, r₃⟩)⟩
    intro DT g₃ tk₃ k₃ nT hDT
    obtain ⟨zs, hlT, hrT⟩ := hDT
    rw [List.size_toArray, lwv, ← lnW, fm_get] at hrT
    have heq : ∀ wd ∈ wordsL xs, takenL wd (namesL xs) = nearR xs wd := fun wd hwd => by
      unfold takenL nearR
      exact List.filter_congr fun n hn => pl.b wd n (nmW wd hwd).1 (nmN n hn).1 (nmW wd hwd).2 (nmN n hn).2
    have rT : Rep Any g₃ (.ref DT) (.list (((wordsL xs).map (nearR xs)).map pyS)) := Rep.ofList (P := Any) (vs := zs.toList) trivial (by simpa using hlT) (by
      rw [List.map_map]
      have e : (wordsL xs).map (fun w => pyS (takenL w (namesL xs))) = (wordsL xs).map (pyS ∘ nearR xs) := List.map_congr_left fun wd hwd => by show pyS _ = pyS _; rw [heq wd hwd]
      rw [← e]
      exact hrT.weak fun _ _ => trivial)
    have F₃ := F₂.keep k₃
    have rR := rR.keep k₃
    repeat walk_at "ev"
    have nmR : ∀ o ∈ (wordsL xs).map (nearR xs), Nms o := fun o ho => by
      obtain ⟨wd, _, rfl⟩ := List.mem_map.mp ho
      exact nms_near xs wd
    refine neData rm' rT rR (plD_strss _ nmR) (plD_strss _ nmR) (dep_strss _) (fun c hc => ?_)
    have hcf : c = false := by
      cases c
      · rfl
      · exact absurd rfl (hc.mp rfl)
    subst hcf
    repeat walk_at "ev"
    rw [if_neg Bool.false_ne_true]
    repeat walk_at "ev"
    obtain ⟨w0, w1, hww⟩ : ∃ w0 w1, wordsL xs = [w0, w1] := by
      match hh : wordsL xs, lnW with
      | [a, b], _ => exact ⟨a, b, rfl⟩
    rw [hww] at rR
    have rR : Rep Any g₃ (.ref DR) (.list ([nearR xs w0, nearR xs w1].map pyS)) := rR
    obtain ⟨_, rvs, e, _, hrv, rav⟩ := rR.toList
    cases e
    obtain ⟨va, rvs', rfl, r0, rav'⟩ : ∃ v vs, rvs = v :: vs ∧ Rep Any g₃ v (pyS (nearR xs w0)) ∧ RepAll Any g₃ vs [pyS (nearR xs w1)] := by
      cases rav with
      | cons a b => exact ⟨_, _, rfl, a, b⟩
    obtain ⟨vb, rfl, r1⟩ : ∃ v, rvs' = [v] ∧ Rep Any g₃ v (pyS (nearR xs w1)) := by
      cases rav' with
      | cons a b => cases b; exact ⟨_, rfl, a⟩
    have ln0 := nearR_len xs w0
    have ln1 := nearR_len xs w1
    have nm0 := nms_near xs w0
    have nm1 := nms_near xs w1
    generalize nearR xs w0 = n0 at *
    generalize nearR xs w1 = n1 at *
    obtain ⟨fS, hS, fnS⟩ := B.sld
    obtain ⟨fU, hU, fnU⟩ := B.uld
    obtain ⟨fO, hO, fnO⟩ := B.told
    have lsd := ld_global (M := model prog w) (env := envOfC r25.name r25.scope s.heap.objs.size f cd) B.g hS
    have lud := ld_global (M := model prog w) (env := envOfC r25.name r25.scope s.heap.objs.size f cd) B.g hU
    have lto := ld_global (M := model prog w) (env := envOfC r25.name r25.scope s.heap.objs.size f cd) B.g hO
    have lso := ld_builtin (M := model prog w) (env := envOfC r25.name r25.scope s.heap.objs.size f cd) B.g B.b B.bsorted.1 B.bsorted.2
    have lli := ld_builtin (M := model prog w) (env := envOfC r25.name r25.scope s.heap.objs.size f cd) B.g B.b B.blist.1 B.blist.2
    repeat walk_at "ev"
    refine cD fnS ?c6 ?a6
    case a6 => rfl
    repeat walk_at "ev"
    refine litem (n := 0) hrv rfl (by omega) ?_ rfl
    repeat walk_at "ev"
    refine sortL r0 (by omega) (fun vs0 g₄ e0 k₄ pe se re => ?_)
    have F₄ := F₃.keep k₄
    repeat walk_at "ev"
    refine litem (n := 1) (kList hrv k₄) rfl (by omega) ?_ rfl
    repeat walk_at "ev"
    refine sortL (r1.keep k₄) (by omega) (fun vs1 g₅ e1 k₅ pa sa ra => ?_)
    have F₅ := F₄.keep k₅
    repeat walk_at "ev"
    have nL : s.heap.get? s.heap.objs.size = none := Heap.get?_none_of_le (Nat.le_refl _)
    have kB₅ : Keep s.heap g₅ := F₅.kb
    obtain ⟨mL, ⟨oL, esL, epL, hoL, hdL, _⟩, _⟩ := F₅.loc
    refine ⟨kB₅, sld_call B.toBs kB₅ nL fnS (rm'.mono (by omega)) hfr' rfl (by show ScopeKind.function ≠ _; decide) ⟨oL, esL, epL, hoL, hdL⟩ (by have := pe.length_eq; omega) (by have := pa.length_eq; omega) ((re.keep k₅).any) ra.any (fun v₆ g₆ tk₆ k₆ sl₆ rs₆ => ?_)⟩
    have F₆ := F₅.wo (W := []) (h' := g₆) (fun b o nb _ eb => k₆ b o (by rw [woA_get]; exact (if_neg (show ¬ b = s.heap.objs.size from nb)).trans eb)) (fun b hb => by cases hb) sl₆
    have seqL : ∀ {hh : Heap} {o : Obj}, hh.get? s.heap.objs.size = some o → (∃ es n, o.data = .dict es n) → ∀ o', hh.get? s.heap.objs.size = some o' → isSeq o' = true → False := fun {hh o} e ⟨es, n, hd⟩ o' e' q => by
      rw [e] at e'; cases e'
      unfold isSeq at q; rw [hd] at q; cases q
    have rR₆ : Rep Any g₆ (.ref DR) (.list ([n0, n1].map pyS)) := by
      refine (rR.keep (k₄.trans k₅)).mono' (fun _ p => p) fun a o _ ea q => ?_
      have na : a ≠ s.heap.objs.size := fun h => seqL hoL ⟨_, _, hdL⟩ o (h ▸ ea) q
      exact (k₆ a o (by rw [woA_get, if_neg na]; exact ea)).get (ne_seq q)
    clear F₃ F₄ F₅
    obtain ⟨_, rvs2, e, _, hrv2, rav2⟩ := rR₆.toList
    cases e
    obtain ⟨va2, vb2, rfl, r02, r12⟩ : ∃ v v2, rvs2 = [v, v2] ∧ Rep Any g₆ v (pyS n0) ∧ Rep Any g₆ v2 (pyS n1) := by
      cases rav2 with
      | cons a b =>
        cases b with
        | cons b c => cases c; exact ⟨_, _, rfl, a, b⟩
    repeat walk_at "ev"
    refine cD fnU ?c7 ?a7
    case a7 => rfl
    repeat walk_at "ev"
    refine litem (n := 0) hrv2 rfl (by omega) ?_ rfl
    repeat walk_at "ev"
    refine listCopy r02 (by omega) (fun E1 g₇ u1 k₇ nE1 pE1 st1 => ?_)
    have F₇ := F₆.keep k₇
    repeat walk_at "ev"
    refine litem (n := 1) (kList hrv2 k₇) rfl (by omega) ?_ rfl
    repeat walk_at "ev"
    refine listCopy (r12.keep k₇) (by omega) (fun E2 g₈ u2 k₈ nE2 pE2 st2 => ?_)
    have F₈ := F₇.keep k₈
    repeat walk_at "ev"
    have kB₈ : Keep s.heap g₈ := F₈.kb
    obtain ⟨mL, ⟨oL8, esL, epL, hoL8, hdL8, _⟩, _⟩ := F₈.loc
    have nE1s : s.heap.get? E1 = none := New.back F₆.kb _ nE1
    have nE2s : s.heap.get? E2 = none := New.back F₇.kb _ nE2
    have hE12 : E1 ≠ E2 := fun h => by
      obtain ⟨n, e⟩ := pE1
      have : g₇.get? E2 = none := nE2
      rw [← h, e] at this; cases this
    have nE6 : ∀ {a : Addr} {o : Obj}, g₆.get? a = some o → a ≠ E1 ∧ a ≠ E2 := fun {a o} ea => by
      refine ⟨fun h => ?_, fun h => ?_⟩
      · have : g₆.get? E1 = none := nE1
        rw [← h, ea] at this; cases this
      · have : g₆.get? E2 = none := New.back k₇ _ nE2
        rw [← h, ea] at this; cases this
    refine ⟨kB₈, uld_call B.toBs kB₈ nL nE1s nE2s fnU (rm'.mono (by omega)) hfr' rfl (by show ScopeKind.function ≠ _; decide) ⟨oL8, esL, epL, hoL8, hdL8⟩ (by omega) (by omega) (kPlain pE1 k₈) pE2 hE12 st1 st2 (fun v₉ g₉ tk₉ k₉ sl₉ rs₉ => ?_)⟩
    have kk₉ : ∀ b o, b ≠ s.heap.objs.size → b ∉ [E1, E2] → g₈.get? b = some o → KA g₉ b o := fun b o nb nW eb => by
      simp only [List.mem_cons, List.not_mem_nil, or_false, not_or] at nW
      exact k₉ b o (by rw [woA_get, if_neg nW.2, woA_get, if_neg nW.1, woA_get, if_neg nb]; exact eb)
    have own8 : ∀ {a : Addr}, g₆.get? a = none → a ∉ owned (envOfC r25.name r25.scope s.heap.objs.size f cd).locals ([("names", s.heap.objs.size + 1, some (.ref DN)), ("bound", s.heap.objs.size + 2, ob)] : Cs) ([] : List (Addr × List Value)) := fun {a} n m => by
      obtain ⟨o, ho⟩ := F₆.live m
      rw [n] at ho; cases ho
    have F₉ := F₈.wo (W := [E1, E2]) (h' := g₉) kk₉ (fun b hb => by
      simp only [List.mem_cons, List.not_mem_nil, or_false] at hb
      rcases hb with rfl | rfl
      · exact ⟨own8 nE1, nE1s, nE1s⟩
      · exact ⟨own8 (New.back k₇ _ nE2), nE2s, nE2s⟩) sl₉
    have mv69 : ∀ {P : Addr → Prop} {v : Value} {d : PyData}, Rep P g₆ v d → Rep P g₉ v d := fun {P v d} r =>
      (((r.live.keep k₇).keep k₈).mono' (P' := fun a => P a ∧ ∃ o, g₆.get? a = some o) (h' := g₉) (fun _ p => p) (fun a o p ea q => by
        obtain ⟨_, o6, e6⟩ := p
        have na : a ≠ s.heap.objs.size := fun h => seqL hoL8 ⟨_, _, hdL8⟩ o (h ▸ ea) q
        obtain ⟨n1', n2'⟩ := nE6 e6
        exact (kk₉ a o na (by simp [n1', n2']) ea).get (ne_seq q))).weak fun _ p => p.1
    have rs₆' := mv69 rs₆.any
    have rR₉ := mv69 rR₆
    clear F₆ F₇ F₈
    repeat walk_at "ev"
    refine lnew (by rw [sizeLine_eq]; exact Nat.le_of_ble_eq_true rfl) (fun DS g₁₀ k₁₀ nDS pDS => ?_)
    have F₁₀ := F₉.keep k₁₀
    have rS : Rep Any g₁₀ (.ref DS) (.list [.tuple [pyS (sldP e0 e1).1, pyS (sldP e0 e1).2], .tuple [pyS (uldP n0.reverse n1).1, pyS (uldP n0.reverse n1).2]]) :=
      Rep.ofList (P := Any) trivial pDS (.cons (rs₆'.keep k₁₀) (.cons ((rs₉.any).keep k₁₀) .nil))
    have rR₁₀ := rR₉.keep k₁₀
    have F₁₀ := F₁₀.now
    repeat walk_at "ev"
    rename_i g₁₁ F₁₁
    have rS := F₁₁.rep rS
    have rR₁₁ := F₁₁.rep rR₁₀
    obtain ⟨_, rvs3, e, _, hrv3, rav3⟩ := rR₁₁.toList
    cases e
    obtain ⟨va3, vb3, rfl, r03, r13⟩ : ∃ v v2, rvs3 = [v, v2] ∧ Rep Any g₁₁ v (pyS n0) ∧ Rep Any g₁₁ v2 (pyS n1) := by
      cases rav3 with
      | cons a b =>
        cases b with
        | cons b c => cases c; exact ⟨_, _, rfl, a, b⟩
    refine cD fnO ?c8 ?a8
    case a8 => rfl
    repeat walk_at "ev"
    refine litem (n := 0) hrv3 rfl (by omega) ?_ rfl
    repeat walk_at "ev"
    refine litem (n := 1) hrv3 rfl (by omega) ?_ rfl
    repeat walk_at "ev"
    have kB₁₁ : Keep s.heap g₁₁ := F₁₁.kb
    refine ⟨kB₁₁, told_call B.toBs kB₁₁ fnO (rm'.mono (by omega)) (by omega) (by omega) nm0 nm1 r03 r13 (fun v₁₂ g₁₂ tk₁₂ o1 o2 k₁₂ hp1 hs1 hp2 hs2 ro => ?_)⟩
    have F₁₂ := F₁₁.keep k₁₂
    have e1' := sld_law pe pa se sa hp1 hp2 hs1 hs2
    have e2' := uld_law n0 n1
    have no1 : Nms o1 := fun x hx => nm0 x (lackU_mem (hp1.mem_iff.mp hx))
    have no2 : Nms o2 := fun x hx => nm1 x (lackU_mem (hp2.mem_iff.mp hx))
    have no3 : Nms (missU (fun y => n1.count y) n0).reverse := fun x hx => nm0 x (missU_mem (List.mem_reverse.mp hx))
    have no4 : Nms (leftU (fun y => n0.count y) n1) := fun x hx => nm1 x (leftU_mem hx)
    rw [e1', e2'] at rS
    refine eqData rm' (rS.keep k₁₂) ro (plD_said no1 no2 no3 no4) (plD_said no1 no2 no3 no4) dep_said (fun c hc => ?_)
    have hct : c = true := hc.mpr rfl
    subst hct
    exact q _ _ F₁₂.kb
end
noncomputable def wordsN : Nat → List Wd
  | 0 => [[]]
  | n + 1 => (wordsN n).flatMap fun w => [97, 98, 91, 42].map fun c => w ++ [c]
noncomputable def words3 : List Wd := wordsN 0 ++ wordsN 1 ++ wordsN 2 ++ wordsN 3
theorem wordsN_snoc {n : Nat} {w : Wd} {c : Nat} (h : w ∈ wordsN n) (hc : c = 97 ∨ c = 98 ∨ c = 91 ∨ c = 42) : w ++ [c] ∈ wordsN (n + 1) := by
  unfold wordsN
  refine List.mem_flatMap.mpr ⟨w, h, List.mem_map.mpr ⟨c, ?_, rfl⟩⟩
  rcases hc with rfl | rfl | rfl | rfl <;> decide
theorem mem_words3 {l : Wd} (h : l.length ≤ 3) (la : Lets l) : l ∈ words3 := by
  unfold words3
  simp only [List.mem_append]
  match l, h, la with
  | [], _, _ => exact .inl (.inl (.inl (by simp [wordsN])))
  | [a], _, la => exact .inl (.inl (.inr (wordsN_snoc (n := 0) (w := []) (by simp [wordsN]) (la a (by simp)))))
  | [a, b], _, la => exact .inl (.inr (wordsN_snoc (n := 1) (w := [a]) (wordsN_snoc (n := 0) (w := []) (by simp [wordsN]) (la a (by simp))) (la b (by simp))))
  | [a, b, c], _, la => exact .inr (wordsN_snoc (n := 2) (w := [a, b]) (wordsN_snoc (n := 1) (w := [a]) (wordsN_snoc (n := 0) (w := []) (by simp [wordsN]) (la a (by simp))) (la b (by simp))) (la c (by simp)))
  | _ :: _ :: _ :: _ :: _, h, _ => simp at h

/-! signs renamed -/
noncomputable def swp (p : Nat × Nat) (x : Nat) : Nat := if x = p.1 then p.2 else if x = p.2 then p.1 else x
theorem swp_swp (p : Nat × Nat) (x : Nat) : swp p (swp p x) = x := by
  unfold swp
  by_cases h : x = p.1
  · rw [if_pos h]
    by_cases e : p.2 = p.1
    · rw [if_pos e, h, e]
    · rw [if_neg e, if_pos rfl, h]
  · rw [if_neg h]
    by_cases e : x = p.2
    · rw [if_pos e, if_pos rfl, e]
    · rw [if_neg e, if_neg h, if_neg e]
theorem swp_inj (p : Nat × Nat) (x y : Nat) : swp p x = swp p y ↔ x = y :=
  ⟨fun h => by rw [← swp_swp p x, h, swp_swp], fun h => by rw [h]⟩
noncomputable def rel (r : List (Nat × Nat)) (x : Nat) : Nat := r.foldl (fun x p => swp p x) x
theorem rel_inj (r : List (Nat × Nat)) : ∀ x y, rel r x = rel r y ↔ x = y := by
  induction r with
  | nil => intro x y; exact Iff.rfl
  | cons p r ih => intro x y; exact (ih _ _).trans (swp_inj p x y)
noncomputable def let4 (c : Nat) : Bool := c == 97 || c == 98 || c == 91 || c == 42
theorem let4_iff {c : Nat} : let4 c = true ↔ c = 97 ∨ c = 98 ∨ c = 91 ∨ c = 42 := by simp [let4, or_assoc]
noncomputable def okR (r : List (Nat × Nat)) : Bool := r.all fun p => let4 p.1 && let4 p.2
theorem rel_let4 {r : List (Nat × Nat)} (h : okR r = true) : ∀ {x}, let4 x = true → let4 (rel r x) = true := by
  induction r with
  | nil => intro x hx; exact hx
  | cons p r ih =>
    intro x hx
    unfold okR at h ih
    rw [List.all_cons, Bool.and_eq_true, Bool.and_eq_true] at h
    refine ih h.2 ?_
    show let4 (swp p x) = true
    unfold swp
    split
    · exact h.1.2
    · split
      · exact h.1.1
      · exact hx
theorem rel_zero {r : List (Nat × Nat)} (h : okR r = true) : rel r 0 = 0 := by
  induction r with
  | nil => rfl
  | cons p r ih =>
    unfold okR at h ih
    rw [List.all_cons, Bool.and_eq_true, Bool.and_eq_true] at h
    have e : swp p 0 = 0 := by
      unfold swp
      rw [if_neg fun e => absurd (e ▸ h.1.1) (by decide), if_neg fun e => absurd (e ▸ h.1.2) (by decide)]
    show rel r (swp p 0) = 0
    rw [e]; exact ih h.2
section
variable {g : Nat → Nat} (hg : ∀ x y, g x = g y ↔ x = y)
include hg
theorem map_eq_iff : ∀ {a b : Wd}, a.map g = b.map g ↔ a = b
  | [], [] => by simp
  | [], _ :: _ => by simp
  | _ :: _, [] => by simp
  | x :: a, y :: b => by
    rw [List.map_cons, List.map_cons, List.cons.injEq, List.cons.injEq, hg, map_eq_iff]
theorem omap_iff : ∀ {a b : Option Nat}, a.map g = b.map g ↔ a = b
  | none, none => by simp
  | none, some _ => by simp
  | some _, none => by simp
  | some x, some y => by simp [hg]
omit hg in
theorem chosen_map (l : Wd) : chosenL (l.map g) = (chosenL l).map (List.map g) := by
  have : ∀ (l : Wd) (rows : List Wd), (l.map g).foldl (fun rows c => rows ++ rows.map (· ++ [c])) (rows.map (List.map g)) = (l.foldl (fun rows c => rows ++ rows.map (· ++ [c])) rows).map (List.map g) := by
    intro l
    induction l with
    | nil => intro rows; rfl
    | cons c l ih =>
      intro rows
      rw [List.map_cons, List.foldl_cons, List.foldl_cons, ← ih]
      congr 1
      rw [List.map_append, List.map_map, List.map_map]
      congr 1
      refine List.map_congr_left fun x _ => ?_
      simp
  exact this l [[]]
theorem unl_map (a b : Wd) : unl (a.map g) (b.map g) = unl a b := by
  unfold unl
  rw [List.length_map]
  congr 2
  funext j
  rw [List.getElem?_map, List.getElem?_map]
  simp only [omap_iff hg]
theorem stepC_map (m : Nat) (a b : Wd) (f : Int) : stepC m (a.map g) f (b.map g) = stepC m a f b := by
  unfold stepC
  rw [List.length_map, List.length_map, unl_map hg]
theorem cost_map (w n : Wd) : costL (w.map g) (n.map g) = costL w n := by
  unfold costL
  rw [chosen_map, chosen_map, List.length_map, List.length_map, List.foldl_map]
  congr 2
  funext f a
  rw [List.foldl_map]
  congr 1
  funext f b
  exact stepC_map hg _ _ _ _
theorem pre_map : ∀ a b : Wd, preL (a.map g) (b.map g) = preL a b
  | x :: a, y :: b => by
    rw [List.map_cons, List.map_cons]
    unfold preL
    rw [pre_map a b]
    simp only [hg]
  | [], _ => by simp [preL]
  | _ :: _, [] => by simp [preL]
theorem cutS_map (a b : Wd) : cutS (a.map g) (b.map g) = (cutS a b).map g := by
  unfold cutS sufL
  rw [← List.map_reverse, ← List.map_reverse, pre_map hg, List.length_map, List.map_take]
theorem rowI_map (h0 : g 0 = 0) (c : Nat) (a : Wd) (row : List Int) (j k : Nat) : rowI (g c) (a.map g) row j k = rowI c a row j k := by
  unfold rowI
  congr 1
  funext st i
  have e : (a.map g).getD i 0 = g (a.getD i 0) := by
    rw [List.getD_eq_getElem?_getD, List.getD_eq_getElem?_getD, List.getElem?_map]
    cases a[i]? with
    | none => exact h0.symm
    | some x => rfl
  unfold stepI subN
  rw [e]
  simp only [hg]
theorem out_map (h0 : g 0 = 0) (m : Int) (a : Wd) : ∀ (b : Wd) (j : Nat) (row : List Int) (r : Int), outL m (a.map g) j (b.map g) row r = outL m a j b row r
  | [], _, _, _ => rfl
  | c :: b, j, row, r => by
    rw [List.map_cons]
    unfold outL
    rw [List.length_map, rowI_map hg h0, out_map h0 m a b]
theorem tab_map (h0 : g 0 = 0) (m : Int) (a b : Wd) : tabL m (a.map g) (b.map g) = tabL m a b := by
  unfold tabL
  rw [List.length_map, List.length_map, out_map hg h0]
theorem mid_map (h0 : g 0 = 0) (m : Int) (a b : Wd) : midL m (a.map g) (b.map g) = midL m a b := by
  unfold midL
  rw [List.length_map, List.length_map, tab_map hg h0, tab_map hg h0]
  simp only [List.map_eq_nil_iff]
theorem lev_map (h0 : g 0 = 0) (a b : Wd) (m : Int) : levL (a.map g) (b.map g) m = levL a b m := by
  unfold levL
  rw [pre_map hg, ← List.map_drop, ← List.map_drop, cutS_map hg, cutS_map hg, mid_map hg h0]
  simp only [map_eq_iff hg]
end
noncomputable def eqW : Wd → Wd → Bool
  | [], [] => true
  | x :: a, y :: b => Nat.beq x y && eqW a b
  | _, _ => false
/-- at most one change apart -/
noncomputable def near1 : Wd → Wd → Bool
  | x :: a, y :: b => if Nat.beq x y then near1 a b else eqW a b || eqW (x :: a) b || eqW a (y :: b)
  | [], b => Nat.ble b.length 1
  | a, [] => Nat.ble a.length 1
theorem beq_map {g : Nat → Nat} (hg : ∀ x y, g x = g y ↔ x = y) (x y : Nat) : Nat.beq (g x) (g y) = Nat.beq x y := by
  rw [Bool.eq_iff_iff, Nat.beq_eq, Nat.beq_eq, hg]
theorem eqW_map {g : Nat → Nat} (hg : ∀ x y, g x = g y ↔ x = y) : ∀ a b : Wd, eqW (a.map g) (b.map g) = eqW a b
  | x :: a, y :: b => by
    rw [List.map_cons, List.map_cons]
    unfold eqW
    rw [eqW_map hg a b, beq_map hg]
  | [], [] => rfl
  | [], _ :: _ => rfl
  | _ :: _, [] => rfl
theorem near1_map {g : Nat → Nat} (hg : ∀ x y, g x = g y ↔ x = y) : ∀ a b : Wd, near1 (a.map g) (b.map g) = near1 a b
  | x :: a, y :: b => by
    rw [List.map_cons, List.map_cons]
    unfold near1
    rw [near1_map hg a b, beq_map hg, eqW_map hg, ← List.map_cons, eqW_map hg, ← List.map_cons, eqW_map hg]
  | [], b => by
    rw [List.map_nil]
    unfold near1
    rw [List.length_map]
  | _ :: a, [] => by
    rw [List.map_cons, List.map_nil]
    unfold near1
    rw [List.length_cons, List.length_cons, List.length_map]

noncomputable def canW (w : Wd) : List (Nat × Nat) :=
  match w with
  | [] => []
  | [x] => [(x, 97)]
  | x :: y :: l =>
    let r := (x, 97) :: (if swp (x, 97) y = 97 then [] else [(swp (x, 97) y, 98)])
    match l with
    | [] => r
    | z :: _ => if rel r z = 97 ∨ (rel r z = 98 ∧ rel r y = 98) then r else r ++ [(rel r z, 91)]
noncomputable def canon : List Wd := [[], [97], [97, 97], [97, 98], [97, 97, 97], [97, 97, 91], [97, 98, 97], [97, 98, 98], [97, 98, 91]]
theorem canAll : (words3.all fun w => okR (canW w) && canon.contains (w.map (rel (canW w)))) = true := by decide +kernel

/-- the plain law of one pair -/
noncomputable def chk (w n : Wd) : Bool := match costL w n with
  | .ofNat c => (([0, 1, 2, 6] : List Nat).all fun b => match levL w n (b : Int) with
      | .ofNat l => min l (b + 1) == min c (b + 1)
      | _ => false) && (near1 w n == decide (c < 3))
  | _ => false
theorem min_cast (x y : Nat) : min (x : Int) (y : Int) = ((min x y : Nat) : Int) := by
  rcases Nat.le_total x y with h | h
  · rw [Nat.min_eq_left h, Int.min_eq_left (Int.ofNat_le.mpr h)]
  · rw [Nat.min_eq_right h, Int.min_eq_right (Int.ofNat_le.mpr h)]
theorem chk_a {w n : Wd} (h : chk w n = true) : (∀ b ∈ ([0, 1, 2, 6] : List Int), min (levL w n b) (b + 1) = min (costL w n) (b + 1)) ∧ near1 w n = decide (costL w n < 3) := by
  unfold chk at h
  split at h
  · rename_i c hc
    rw [Bool.and_eq_true, List.all_eq_true] at h
    obtain ⟨h1, h2⟩ := h
    rw [hc]
    refine ⟨fun b hb => ?_, ?_⟩
    · obtain ⟨k, hk, rfl⟩ : ∃ k ∈ ([0, 1, 2, 6] : List Nat), b = (k : Int) := by
        simp only [List.mem_cons, List.not_mem_nil, or_false] at hb
        rcases hb with rfl | rfl | rfl | rfl
        · exact ⟨0, by simp, rfl⟩
        · exact ⟨1, by simp, rfl⟩
        · exact ⟨2, by simp, rfl⟩
        · exact ⟨6, by simp, rfl⟩
      have h3 := h1 k hk
      split at h3
      · rename_i l hl
        rw [hl]
        have h4 := beq_iff_eq.mp h3
        show min (l : Int) ((k : Int) + 1) = min (c : Int) ((k : Int) + 1)
        exact (min_cast l (k + 1)).trans ((congrArg Int.ofNat h4).trans (min_cast c (k + 1)).symm)
      · cases h3
    · rw [beq_iff_eq.mp h2]
      show decide (c < 3) = decide ((c : Int) < 3)
      exact decide_eq_decide.mpr (by omega)
  · cases h
theorem ckA : ((canon.take 5).all fun w => words3.all fun n => chk w n) = true := by decide +kernel
theorem ckB : ((canon.drop 5).all fun w => words3.all fun n => chk w n) = true := by decide +kernel
theorem ckC : (words3.all fun w => words3.all fun n => ((toksL w).any fun r => takesT r n) == near1 w n) = true := by decide +kernel
theorem chkOf {w n : Wd} (hw : w.length ≤ 3) (hn : n.length ≤ 3) (lw : Lets w) (ln : Lets n) :
    (∀ b ∈ ([0, 1, 2, 6] : List Int), min (levL w n b) (b + 1) = min (costL w n) (b + 1)) ∧ near1 w n = decide (costL w n < 3) := by
  have h := List.all_eq_true.mp canAll w (mem_words3 hw lw)
  rw [Bool.and_eq_true] at h
  have i := rel_inj (canW w)
  have z := rel_zero h.1
  have hn' : n.map (rel (canW w)) ∈ words3 := mem_words3 (by rw [List.length_map]; exact hn) fun c hc => by
    obtain ⟨d, hd, rfl⟩ := List.mem_map.mp hc
    exact let4_iff.mp (rel_let4 h.1 (let4_iff.mpr (ln d hd)))
  have ha : (canon.all fun w => words3.all fun n => chk w n) = true := by
    rw [← List.take_append_drop 5 canon, List.all_append, ckA, ckB]; rfl
  have c := chk_a (List.all_eq_true.mp (List.all_eq_true.mp ha _ (List.contains_iff_mem.mp h.2)) _ hn')
  rw [cost_map i, near1_map i] at c
  refine ⟨fun b hb => ?_, c.2⟩
  have := c.1 b hb
  rwa [lev_map i z] at this
theorem plainLaw : PlainLaw where
  a := fun w n hw hn lw ln b hb => (chkOf hw hn lw ln).1 b hb
  b := fun w n hw hn lw ln => (beq_iff_eq.mp (List.all_eq_true.mp (List.all_eq_true.mp ckC w (mem_words3 hw lw)) n (mem_words3 hn ln))).trans (chkOf hw hn lw ln).2
noncomputable def vw : Program := { PySem.Challenge.pw_in0119_01 with main := { PySem.Challenge.pw_in0119_01.main with body := (((((PySem.Challenge.pw_in0119_01.main.body.eraseIdx 16).eraseIdx 13).eraseIdx 11).eraseIdx 8).eraseIdx 1) } }
noncomputable def o49 : Obj := { cls := .type "tuple", data := .seq #[.int 14 0, .int 14 0, .int 4 0, .int 1 0, .int 1 0, .int 9 0, .int 0 0, .int 64 0, .int 0 0, .int 1342177280 0, .int 0 0, .int 0 0, .int 0 0, .int 0 0, .int 0 0, .int 17 0, .int 0 0, .int 13 0, .int 11 0, .int 9 0, .int 0 0, .int 64 0, .int 0 0, .int 1342177280 0, .int 0 0, .int 0 0, .int 0 0, .int 0 0, .int 0 0, .int 17 0, .int 1 0, .int 1 0] }
noncomputable def o50 : Obj := { cls := .type "re.Pattern", data := .fields #[.str (Str.ofString "([&~|])") 319, .int 32 354, .int 1 0, .none, .none, .ref 49, .int 0 0] }
/-- the part of an object that the walk reads -/
noncomputable def codeIn : Obj → Option Value
  | ⟨_, _, .func d, _⟩ => some d.code
  | _ => none
noncomputable def headIn : Obj → Bool
  | ⟨.type "code", _, .fields vs, _⟩ => (match (vs[11]? : Option Value) with | some (.ref P') => P' == 64 | _ => false) &&
      (match vs.getD 18 .none with | .str _ _ => true | _ => false) && (match vs.getD 7 .none with | .int _ _ => true | _ => false) &&
      (match vs.getD 9 .none with | .bool _ => true | _ => false) && (match vs.getD 10 .none with | .int _ _ => true | _ => false)
  | _ => false
noncomputable def mapIn : Obj → Bool
  | ⟨.type "dict", d, .dict es _, sl⟩ => d.isNone && sl.isEmpty && (es.toList.all fun e => match e.key with | .int i _ => e.hash == hashInt i | _ => false) && (findBy Value.isInt es 97).isNone && (findBy Value.isInt es 98).isNone
  | _ => false
noncomputable def hkObs (s : Shared) : Option Obj × Option Obj × Option Obj × Option Bool × Option Bool × Option (Option Value) × Bool × List (Option Value) :=
  (s.heap.get? 49, s.heap.get? 50, s.heap.get? 64, (s.heap.get? 68).map headIn, (s.heap.get? 52).map mapIn, (s.heap.get? 69).map codeIn, s.heap.isNs mainGlobals,
    [s.heap.nsMap mainGlobals "_twin_re_1", s.heap.nsMap mainGlobals "_special_chars_map", s.heap.nsMap mainGlobals "_translate", s.heap.nsMap mainGlobals "__builtins__"])
noncomputable def hkVal : Option Obj × Option Obj × Option Obj × Option Bool × Option Bool × Option (Option Value) × Bool × List (Option Value) :=
  (some o49, some o50, some (tabObj #[]), some true, some true, some (some (.ref 68)), true, [some (.ref 50), some (.ref 52), some (.ref 69), some (.ref 4)])
noncomputable def hk : Hook where
  α := _
  obs := hkObs
  val := fun _ => hkVal
  says := fun _ h => ∃ s, hkObs s = hkVal ∧ ∀ b o, s.heap.get? b = some o → h.get? b = some o
  of := fun _ s e => ⟨s, e, fun _ _ x => x⟩
  keeps := fun _ _ _ x k => let ⟨s, e, y⟩ := x; ⟨s, e, fun b o z => k b o (y b o z)⟩
noncomputable abbrev LeftB (a b : Bool) : Prop := ∀ w : World, (openEnds treeTable PySem.Challenge.pw_in0119_01 ((w.withFollow "special-get-raises" b).withFollow "comprehension-iter-twice" a) 3836).map (fun s => (openSeen vw ["_twin_re_1", "_special_chars_map"] (importedModules PySem.Challenge.pw_in0119_01.main.body) (fun s => xlAt vw [] s && recOk (RowW.records PySem.Challenge.rw_in0119_01.row.toRowW) s) true s, hkObs s)) = some (openGood vw ["_twin_re_1", "_special_chars_map"], hkVal)
theorem left_ff : LeftB false false := by
  intro w
  unfold openEnds fencedOpening topFrom
  rw [Fast.te4187177175401517315, Fast.te10274390034422433532, Fast.te14364793385576792824, Fast.te1435165496053646825, Fast.te14289696077712309145, Fast.te14082659384304107361]
  kernel_rfl
theorem left_ft : LeftB false true := by
  intro w
  unfold openEnds fencedOpening topFrom
  rw [Fast.te4187177175401517315, Fast.te10274390034422433532, Fast.te14364793385576792824, Fast.te1435165496053646825, Fast.te14289696077712309145, Fast.te14082659384304107361]
  kernel_rfl
theorem left_tf : LeftB true false := by
  intro w
  unfold openEnds fencedOpening topFrom
  rw [Fast.te4187177175401517315, Fast.te10274390034422433532, Fast.te14364793385576792824, Fast.te1435165496053646825, Fast.te14289696077712309145, Fast.te14082659384304107361]
  kernel_rfl
theorem left_tt : LeftB true true := by
  intro w
  unfold openEnds fencedOpening topFrom
  rw [Fast.te4187177175401517315, Fast.te10274390034422433532, Fast.te14364793385576792824, Fast.te1435165496053646825, Fast.te14289696077712309145, Fast.te14082659384304107361]
  kernel_rfl
theorem left2 : LeftO PySem.Challenge.pw_in0119_01 vw ["_twin_re_1", "_special_chars_map"] (fun s => xlAt vw [] s && recOk (RowW.records PySem.Challenge.rw_in0119_01.row.toRowW) s) hkObs (fun _ => hkVal) 3836 :=
  byRow2 "comprehension-iter-twice" (fun w => byRow2 "special-get-raises" (P := fun w => (openEnds treeTable PySem.Challenge.pw_in0119_01 (w.withFollow "comprehension-iter-twice" false) 3836).map _ = _) left_ff left_ft w) (fun w => byRow2 "special-get-raises" (P := fun w => (openEnds treeTable PySem.Challenge.pw_in0119_01 (w.withFollow "comprehension-iter-twice" true) 3836).map _ = _) left_tf left_tt w)
theorem mg_of {h : Heap} {w : World} {mg : Str → Option Value} (Y : hk.says w h) (g : h.Ns mainGlobals mg) :
    (mg "_twin_re_1" = some (.ref 50) ∧ mg "_special_chars_map" = some (.ref 52) ∧ mg "_translate" = some (.ref 69) ∧ mg "__builtins__" = some (.ref 4)) ∧
    h.get? 49 = some o49 ∧ h.get? 50 = some o50 ∧ h.get? 64 = some (tabObj #[]) ∧ (∃ o, h.get? 68 = some o ∧ headIn o = true) ∧ (∃ o, h.get? 52 = some o ∧ mapIn o = true) ∧ ∀ o, h.get? 69 = some o → codeIn o = some (.ref 68) := by
  obtain ⟨s, e, k⟩ := Y
  unfold hkObs hkVal at e
  simp only [Prod.mk.injEq, List.cons.injEq, and_true] at e
  obtain ⟨e1, e2, e3, e4, e5, e6, e7, m1, m2, m3, m4⟩ := e
  have ag := fun x => g.agree ((Heap.Ns.of_isNs e7).keeps k) x
  obtain ⟨o4, x4, y4⟩ := Option.map_eq_some_iff.mp e4
  obtain ⟨o5, x5, y5⟩ := Option.map_eq_some_iff.mp e5
  obtain ⟨o6, x6, y6⟩ := Option.map_eq_some_iff.mp e6
  refine ⟨⟨(ag _).trans m1, (ag _).trans m2, (ag _).trans m3, (ag _).trans m4⟩, k _ _ e1, k _ _ e2, k _ _ e3, ⟨o4, k _ _ x4, y4⟩, ⟨o5, k _ _ x5, y5⟩, fun o ho => ?_⟩
  rw [k _ _ x6] at ho; cases ho; exact y6
theorem head_of {h : Heap} {o : Obj} (ho : h.get? 68 = some o) (e : headIn o = true) : CodeHd h 68 64 := by
  unfold headIn at e
  split at e
  · rename_i vs _
    simp only [Bool.and_eq_true] at e
    obtain ⟨⟨⟨⟨e1, e2⟩, e3⟩, e4⟩, e5⟩ := e
    split at e1
    · rename_i P' h11
      have hP : P' = 64 := beq_iff_eq.mp e1
      subst hP
      split at e2
      · rename_i f tf h18
        split at e3
        · rename_i fl tg h7
          split at e4
          · rename_i b h9
            split at e5
            · rename_i n tt h10
              exact ⟨_, vs, f, tf, fl, tg, b, n, tt, ho, rfl, rfl, h11, by rw [Array.getD_eq_getD_getElem?, h11]; rfl, h18, h7, h9, h10, by decide⟩
            · cases e5
          · cases e4
        · cases e3
      · cases e2
    · cases e1
  · cases e
theorem fnAt_of {p : Program} {loose : List Str} {R : WRecords} {XP : (Str → Option Value) → Heap → Prop} {w : World} {s₀ : Shared} {mg mb : Str → Option Value} {h : Heap} (G : Ground p loose R XP w s₀ mg mb h) {name : Str} {d : DefRec} {r : FnRec}
    (e : defOf p name = some (d, [])) (hr : (⟨d.name, d.params, d.body, d.scope⟩ : FnRec) = r) (hp : d.params.defaults = []) : ∃ f, mg name = some (.ref f) ∧ FnAt h f r := by
  obtain ⟨a, o, pm, cd, doc, dV, kV, h1, h2, h3, h4, h5⟩ := G.fn e
  have e1 : dV = .none := by
    rcases h5.pos with ⟨_, q⟩ | ⟨q, _⟩
    · exact q
    · exact absurd hp q
  have e2 : kV = .none := by
    rcases h5.kw with ⟨_, q⟩ | ⟨q, _⟩
    · exact q
    · exact absurd rfl q
  subst e1 e2 hr
  exact ⟨a, h1, ⟨o, pm, cd, doc, h2, h3, h4⟩⟩
theorem oldK_of {h h' : Heap} (k : Keep h h') (ct : isCodeTable h tabP) : OldK h h' := by
  refine ⟨fun b o e => ?_, fun b o e => (k b o e).live⟩
  rcases k b o e with x | ⟨rfl, rfl, c, x⟩
  · exact .inl x
  · exact .inr (.inl ⟨ct, rfl, #[], #[rawInt 106, rawInt 39, .ref c], rfl, by rw [x]; rfl⟩)
theorem mapOf_lit {h : Heap} {a : Addr} {o : Obj} (ho : h.get? a = some o) (e : mapIn o = true) : ∀ (prog : Program) (w : World), ∃ f, h.MapOf (intKind prog w) a f ∧ f 97 = none ∧ f 98 = none := fun prog w => by
  unfold mapIn at e
  split at e
  case h_2 => cases e
  rename_i dd es n sl
  simp only [Bool.and_eq_true, Option.isNone_iff_eq_none, Array.isEmpty_iff] at e
  obtain ⟨⟨⟨⟨rfl, rfl⟩, hk⟩, h1⟩, h2⟩ := e
  refine ⟨findBy Value.isInt es, ⟨_, es, n, ho, ⟨rfl, rfl, rfl⟩, rfl, fun e he => ?_, fun _ => rfl⟩, h1, h2⟩
  have := List.all_eq_true.mp hk e (by simpa using he)
  cases hkk : e.key with
  | int i t =>
    rw [hkk] at this
    exact ⟨i, by show Value.isInt i (.int i t) = true; unfold Value.isInt; simp, beq_iff_eq.mp this⟩
  | _ => rw [hkk] at this; cases this
noncomputable def bn : List Str := ["len", "range", "list", "str", "min", "max", "sorted", "isinstance", "IndexError", "ValueError"]
theorem bn_free : ∀ x ∈ bn, x ∉ startupNames ∧ x ∉ looseW vw ["_twin_re_1", "_special_chars_map"] ∧ x ∉ (recsOf vw).map (·.name) ∧ x ∉ (litsOf vw).map (·.1) ∧ x ∉ (clssOf vw (looseW vw ["_twin_re_1", "_special_chars_map"])).map (·.name) := by decide +kernel
theorem bn_none {mg : Str → Option Value} (M : ∀ x, x ∉ startupNames → x ∉ looseW vw ["_twin_re_1", "_special_chars_map"] → x ∉ (recsOf vw).map (·.name) → x ∉ (litsOf vw).map (·.1) → x ∉ (clssOf vw (looseW vw ["_twin_re_1", "_special_chars_map"])).map (·.name) → mg x = none) :
    mg "len" = none ∧ mg "range" = none ∧ mg "list" = none ∧ mg "str" = none ∧ mg "min" = none ∧ mg "max" = none ∧ mg "sorted" = none ∧ mg "isinstance" = none ∧ mg "IndexError" = none ∧ mg "ValueError" = none := by
  have h : ∀ x ∈ bn, mg x = none := fun x hx => (bn_free x hx).elim fun a b => b.elim fun b c => c.elim fun c d => d.elim fun d e => M x a b c d e
  unfold bn at h
  simpa only [List.forall_mem_cons, List.not_mem_nil, false_implies, implies_true, and_true] using h
set_option maxHeartbeats 8000000 in
theorem fin (pl : PlainLaw) : PySem.Challenge.rw_in0119_01.Holds := by
  w_on
  refine holds_law (by rw [Fast.te9446332074065402090]; kernel_rfl) fun said => ?_
  refine holds_open (q := vw) (loose := ["_twin_re_1", "_special_chars_map"]) (Xt := fun s => xlAt vw [] s && recOk (RowW.records PySem.Challenge.rw_in0119_01.row.toRowW) s) (XP := XL vw []) (Yf := hkObs) (Ya := fun _ => hkVal) (YP := hk.says) (N := 3836) left2 hk.of hk.keeps
    (fun s e => xl_of s (Bool.and_eq_true_iff.mp e).1) XL.keeps (by rfl) (by rfl) (by rfl) (fun s e => recFacts_of (Bool.and_eq_true_iff.mp e).2) (by rfl) (by first | assumption | decide +kernel) (by decide +kernel) ⟨rfl, rfl, rfl, rfl, rfl, by decide +kernel⟩ ?hw ?hc
  case hw => w_witness2
  intro w s₀ s₁ mg mb G Y fa o pm cd doc dV kV ho hd hcd hD hmg hg args vals as hpre hlay hrd hwl hlo
  obtain ⟨⟨M1, M2, M3, M4⟩, X49, X50, T8, ⟨o68, X68, Y68⟩, ⟨o52, X52, Y52⟩, X69⟩ := mg_of Y G.T.g
  clear Y
  wrow_args hpre hlay hrd hwl hlo
  rename_i xs hs hlay0 hL1 hr1 hl2 a4 a3 D us a0 hL ra wl r0 hI hr hc1 hc0
  obtain ⟨n0, n1, n2, n3, n4, n5, n6, n7, n8, n9⟩ := bn_none G.T.free
  have cst : ∀ (x : Str) (i : Int), valOf vw x = some (.int i) → ∃ t, mg x = some (.int i t) := fun x i e => by
    obtain ⟨v, hv, r⟩ := G.T.const x _ e
    cases r s₁.heap with
    | int j t => exact ⟨t, hv⟩
  have B : Bt mg mb s₁.heap := {
    g := G.T.g
    b := G.T.b
    lim := G.T.nolimit
    sub := fnAt_of G rfl rfl rfl
    lev := fnAt_of G rfl rfl rfl
    esc := fnAt_of G rfl rfl rfl
    trl := fnAt_of G rfl rfl rfl
    sld := fnAt_of G rfl rfl rfl
    uld := fnAt_of G rfl rfl rfl
    word := fnAt_of G rfl rfl rfl
    pats := fnAt_of G rfl rfl rfl
    takes := fnAt_of G rfl rfl rfl
    taken := fnAt_of G rfl rfl rfl
    chosen := fnAt_of G rfl rfl rfl
    cost := fnAt_of G rfl rfl rfl
    lack := fnAt_of G rfl rfl rfl
    told := fnAt_of G rfl rfl rfl
    mv := cst _ _ (by kernel_rfl)
    cc := cst _ _ (by kernel_rfl)
    mx := cst _ _ (by kernel_rfl)
    blen := ⟨n0, (G.T.builtins _ (by decide)).trans (by kernel_rfl)⟩
    brange := ⟨n1, (G.T.builtins _ (by decide)).trans (by kernel_rfl)⟩
    blist := ⟨n2, (G.T.builtins _ (by decide)).trans (by kernel_rfl)⟩
    bstr := ⟨n3, (G.T.builtins _ (by decide)).trans (by kernel_rfl)⟩
    bmin := ⟨n4, (G.T.builtins _ (by decide)).trans (by kernel_rfl)⟩
    bmax := ⟨n5, (G.T.builtins _ (by decide)).trans (by kernel_rfl)⟩
    bsorted := ⟨n6, (G.T.builtins _ (by decide)).trans (by kernel_rfl)⟩
    bisi := ⟨n7, (G.T.builtins _ (by decide)).trans (by kernel_rfl)⟩
    bie := ⟨n8, (G.T.builtins _ (by decide)).trans (by kernel_rfl)⟩
    bve := ⟨n9, (G.T.builtins _ (by decide)).trans (by kernel_rfl)⟩
    tr := by
      obtain ⟨f, hf, fn⟩ : ∃ f, mg "_translate" = some (.ref f) ∧ FnAt s₁.heap f r12 := fnAt_of G rfl rfl rfl
      obtain ⟨o, pm, cd, doc, h1, h2, h3⟩ := fn.ex
      have e : f = 69 := by rw [hf] at M3; cases M3; rfl
      subst e
      have ec : cd = .ref 68 := by
        have := X69 _ h1
        obtain ⟨oc, od, oD, os⟩ := o
        obtain rfl : oD = _ := h2
        exact Option.some.inj this
      subst ec
      exact ⟨69, _, pm, doc, 68, hf, h1, h2, h3, head_of X68 Y68⟩
    tab := T8
    bat := by
      obtain ⟨bm, ob, h1, h2, h3, h4, h5, h6⟩ := G.T.bmain
      have e : bm = 4 := by rw [M4] at h1; cases h1; rfl
      exact ⟨bm, ob, h1, h2, by rw [e]; decide, by rw [e]; decide, h3, h4, h5, h6⟩
    twin := ⟨50, M1, ⟨⟨_, 49, _, X50, by decide +kernel, by decide +kernel, by decide +kernel, _, X49, by decide +kernel⟩⟩⟩
    map := ⟨52, M2, by decide, mapOf_lit X52 Y52⟩ }
  obtain ⟨fT, oT, pmT, docT, cT, hT, gT, dT, crT, ⟨oc, vc, _, _, _, _, _, _, _, c1, c2, c3, c4, _⟩⟩ := B.tr
  have ct : isCodeTable s₁.heap tabP := ⟨cT, oc, vc, c1, c2, c3, c4⟩
  have kv : dV = .none ∧ kV = .none := by
    constructor
    · rcases hD.pos with ⟨_, q⟩ | ⟨q, _⟩
      · exact q
      · exact absurd rfl q
    · rcases hD.kw with ⟨_, q⟩ | ⟨q, _⟩
      · exact q
      · exact absurd rfl q
  obtain ⟨rfl, rfl⟩ := kv
  refine law_call pl B ?_ ⟨rfl, by decide, by decide +kernel⟩ rfl hL hI (by omega) (fun h' tk k => ?_)
  · exact ⟨⟨o, pm, cd, doc, ho, hd, hcd⟩⟩
  · refine ⟨.inl ⟨.bool true, .bool true, [], rfl, ?_, .bool true, ?_, ?_⟩, oldK_of k ct, rfl, ?_⟩
    · exact raisesW_false (r := PySem.Challenge.rw_in0119_01.row.toRowW) (fun ct h => by cases h)
    · wrow_post
    · exact unshared_nil
    · exact .of_eq hg
end
end Mine
theorem PySem.Challenge.cw_in0119_01_holds : PySem.Challenge.rw_in0119_01.Holds :=
  Mine.fin Mine.plainLaw
