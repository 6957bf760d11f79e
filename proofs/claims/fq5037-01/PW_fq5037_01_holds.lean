import PyProof.Rows.All
import Wide.All
import OpenK.AllK
import Wide.FinOn
import PySem.Challenge.RW_fq5037_01
open PySem PySem.W PyProof.Rows
set_option Elab.async false
set_option maxRecDepth 100000
set_option maxHeartbeats 8000000 in
open_top PySem.Mine.hd01 for PySem.Challenge.rw_fq5037_01

namespace Mine

/-- a way to pair letters, as the law's list keeps it -/
structure Way where
  top : Nat
  side : Nat
  key : Nat
  many : Nat
  row : List Nat

section
variable (x y : List Nat)

def Way.ext (v : Way) (i j : Nat) : Way := ⟨i, j, v.key * 64 + i * 8 + j, v.many + 1, x.getD i 0 :: v.row⟩
def Way.root : Way := ⟨x.length, y.length, 0, 0, []⟩
def rowKids (v : Way) (i : Nat) : Nat → List Way
  | 0 => []
  | j + 1 => rowKids v i j ++ (if x.getD i 0 = y.getD j 0 then [v.ext x i j] else [])
def allKids (v : Way) : Nat → List Way
  | 0 => []
  | i + 1 => allKids v i ++ rowKids x y v i v.side

abbrev better (v b : Way) : Prop := b.many < v.many ∨ (v.many = b.many ∧ v.key < b.key)

/-- chains of pairs below a corner, the last pair first -/
inductive Valid : Nat → Nat → List (Nat × Nat) → Prop
  | nil {t s : Nat} : Valid t s []
  | cons {t s i j : Nat} {c : List (Nat × Nat)} : i < t → j < s → x.getD i 0 = y.getD j 0 → Valid i j c → Valid t s ((i, j) :: c)

def keyAcc : Nat → List (Nat × Nat) → Nat
  | k, [] => k
  | k, (i, j) :: c => keyAcc (k * 64 + i * 8 + j) c
def rowAcc : List Nat → List (Nat × Nat) → List Nat
  | r, [] => r
  | r, (i, _) :: c => rowAcc (x.getD i 0 :: r) c
def applyC : Way → List (Nat × Nat) → Way
  | v, [] => v
  | v, (i, j) :: c => applyC (v.ext x i j) c

variable {x y}
theorem Valid.mono {t s t' s' : Nat} {c : List (Nat × Nat)} (h : Valid x y t s c) (ht : t ≤ t') (hs : s ≤ s') : Valid x y t' s' c := by
  cases h with
  | nil => exact .nil
  | cons hi hj e h => exact .cons (Nat.lt_of_lt_of_le hi ht) (Nat.lt_of_lt_of_le hj hs) e h

theorem apply_key : ∀ (c : List (Nat × Nat)) (v : Way), (applyC x v c).key = keyAcc v.key c
  | [], _ => rfl
  | (i, j) :: c, v => by rw [applyC, keyAcc, apply_key c]; rfl
theorem apply_many : ∀ (c : List (Nat × Nat)) (v : Way), (applyC x v c).many = v.many + c.length
  | [], _ => rfl
  | (i, j) :: c, v => by rw [applyC, apply_many c, List.length_cons]; show v.many + 1 + c.length = _; omega
theorem apply_row : ∀ (c : List (Nat × Nat)) (v : Way), (applyC x v c).row = rowAcc x v.row c
  | [], _ => rfl
  | (i, j) :: c, v => by rw [applyC, rowAcc, apply_row c]; rfl
theorem apply_snoc : ∀ (c : List (Nat × Nat)) (v : Way) (i j : Nat), applyC x v (c ++ [(i, j)]) = (applyC x v c).ext x i j
  | [], _, _, _ => rfl
  | (a, b) :: c, v, i, j => by rw [List.cons_append, applyC, apply_snoc c, applyC]
theorem valid_snoc : ∀ (c : List (Nat × Nat)) (v : Way) (i j : Nat), Valid x y v.top v.side c → i < (applyC x v c).top → j < (applyC x v c).side → x.getD i 0 = y.getD j 0 →
    Valid x y v.top v.side (c ++ [(i, j)])
  | [], _, _, _, _, hi, hj, e => .cons hi hj e .nil
  | (a, b) :: c, v, i, j, h, hi, hj, e => by
    cases h with
    | cons ha hb e' h => exact .cons ha hb e' (valid_snoc c (v.ext x a b) i j h hi hj e)

/-- a way that can be reached -/
def Ch (x y : List Nat) (v : Way) : Prop := ∃ c, Valid x y x.length y.length c ∧ v = applyC x (Way.root x y) c
theorem ch_root : Ch x y (Way.root x y) := ⟨[], .nil, rfl⟩
theorem ch_ext {v : Way} {i j : Nat} (h : Ch x y v) (hi : i < v.top) (hj : j < v.side) (e : x.getD i 0 = y.getD j 0) : Ch x y (v.ext x i j) := by
  obtain ⟨c, hc, rfl⟩ := h
  exact ⟨c ++ [(i, j)], valid_snoc c _ i j hc hi hj e, (apply_snoc c _ i j).symm⟩

theorem mem_rowKids {v u : Way} {i : Nat} : ∀ {j : Nat}, u ∈ rowKids x y v i j ↔ ∃ k, k < j ∧ x.getD i 0 = y.getD k 0 ∧ u = v.ext x i k
  | 0 => by simp [rowKids]
  | j + 1 => by
    rw [rowKids, List.mem_append, mem_rowKids (j := j)]
    constructor
    · rintro (⟨k, hk, e, rfl⟩ | h)
      · exact ⟨k, by omega, e, rfl⟩
      · by_cases e : x.getD i 0 = y.getD j 0
        · rw [if_pos e] at h
          exact ⟨j, by omega, e, List.mem_singleton.mp h⟩
        · rw [if_neg e] at h; cases h
    · rintro ⟨k, hk, e, rfl⟩
      by_cases hkj : k = j
      · subst hkj; right; rw [if_pos e]; exact .head _
      · left; exact ⟨k, by omega, e, rfl⟩
theorem mem_allKids {v u : Way} : ∀ {i : Nat}, u ∈ allKids x y v i ↔ ∃ a k, a < i ∧ k < v.side ∧ x.getD a 0 = y.getD k 0 ∧ u = v.ext x a k
  | 0 => by simp [allKids]
  | i + 1 => by
    rw [allKids, List.mem_append, mem_allKids (i := i), mem_rowKids]
    constructor
    · rintro (⟨a, k, ha, hk, e, rfl⟩ | ⟨k, hk, e, rfl⟩)
      · exact ⟨a, k, by omega, hk, e, rfl⟩
      · exact ⟨i, k, by omega, hk, e, rfl⟩
    · rintro ⟨a, k, ha, hk, e, rfl⟩
      by_cases hai : a = i
      · subst hai; right; exact ⟨k, hk, e, rfl⟩
      · left; exact ⟨a, k, by omega, hk, e, rfl⟩

def wt (v : Way) : Nat := 2 ^ (v.top + v.side)
theorem sum_rowKids {v : Way} {i : Nat} : ∀ j : Nat, ((rowKids x y v i j).map wt).sum + 2 ^ i ≤ 2 ^ (i + j)
  | 0 => by simp [rowKids]
  | j + 1 => by
    have ih := sum_rowKids (v := v) (i := i) j
    rw [rowKids, List.map_append, List.sum_append]
    have h2 : 2 ^ (i + (j + 1)) = 2 ^ (i + j) + 2 ^ (i + j) := by rw [← Nat.add_assoc, Nat.pow_succ]; omega
    have h3 : 0 < 2 ^ (i + j) := Nat.pow_pos (by decide)
    by_cases e : x.getD i 0 = y.getD j 0
    · rw [if_pos e]
      have : (([v.ext x i j] : List Way).map wt).sum = 2 ^ (i + j) := by simp [wt, Way.ext]
      omega
    · rw [if_neg e]
      have : (([] : List Way).map wt).sum = 0 := rfl
      omega
theorem sum_allKids {v : Way} : ∀ i : Nat, ((allKids x y v i).map wt).sum + 2 ^ v.side ≤ 2 ^ (i + v.side)
  | 0 => by simp [allKids]
  | i + 1 => by
    have ih := sum_allKids (v := v) i
    have hr := sum_rowKids (x := x) (y := y) (v := v) (i := i) v.side
    rw [allKids, List.map_append, List.sum_append]
    have h2 : 2 ^ (i + 1 + v.side) = 2 ^ (i + v.side) + 2 ^ (i + v.side) := by
      rw [show i + 1 + v.side = i + v.side + 1 from by omega, Nat.pow_succ]; omega
    have h3 : 0 < 2 ^ i := Nat.pow_pos (by decide)
    omega

def todo (ws : List Way) (a : Nat) : Nat := ((ws.drop a).map wt).sum

structure WInv (x y : List Nat) (ws : List Way) (a : Nat) (b : Way) : Prop where
  ch : ∀ v ∈ ws, Ch x y v
  root : Way.root x y ∈ ws
  closed : ∀ p v, p < a → ws[p]? = some v → ∀ i j, i < v.top → j < v.side → x.getD i 0 = y.getD j 0 → v.ext x i j ∈ ws
  best : b ∈ ws
  most : ∀ p v, p < a → ws[p]? = some v → ¬ better v b
  le : a ≤ ws.length

theorem winv_init : WInv x y [Way.root x y] 0 (Way.root x y) where
  ch := fun v hv => by rw [List.mem_singleton.mp hv]; exact ch_root
  root := .head _
  closed := fun _ _ h => absurd h (Nat.not_lt_zero _)
  best := .head _
  most := fun _ _ h => absurd h (Nat.not_lt_zero _)
  le := Nat.zero_le _

theorem better_trans {u v b : Way} (h : better v b) (hu : ¬ better u b) : ¬ better u v := by
  unfold better at *; omega

theorem winv_step {ws : List Way} {a : Nat} {b v : Way} (h : WInv x y ws a b) (hv : ws[a]? = some v) :
    WInv x y (ws ++ allKids x y v v.top) (a + 1) (if better v b then v else b) := by
  have hmem : v ∈ ws := List.mem_of_getElem? hv
  have hlt : a < ws.length := by
    rcases Nat.lt_or_ge a ws.length with h1 | h1
    · exact h1
    · rw [List.getElem?_eq_none h1] at hv; cases hv
  have old : ∀ p u, p < a + 1 → (ws ++ allKids x y v v.top)[p]? = some u → (p < a ∧ ws[p]? = some u) ∨ u = v := by
    intro p u hp hu
    rw [List.getElem?_append_left (by omega)] at hu
    by_cases hpa : p = a
    · right; subst hpa; rw [hv] at hu; exact (Option.some.inj hu).symm
    · left; exact ⟨by omega, hu⟩
  refine ⟨?_, List.mem_append_left _ h.root, ?_, ?_, ?_, ?_⟩
  · intro u hu
    rcases List.mem_append.mp hu with hu | hu
    · exact h.ch u hu
    · obtain ⟨i, j, hi, hj, e, rfl⟩ := mem_allKids.mp hu
      exact ch_ext (h.ch v hmem) hi hj e
  · intro p u hp hu i j hi hj e
    rcases old p u hp hu with ⟨hp', hu'⟩ | rfl
    · exact List.mem_append_left _ (h.closed p u hp' hu' i j hi hj e)
    · exact List.mem_append_right _ (mem_allKids.mpr ⟨i, j, hi, hj, e, rfl⟩)
  · split
    · exact List.mem_append_left _ hmem
    · exact List.mem_append_left _ h.best
  · intro p u hp hu
    rcases old p u hp hu with ⟨hp', hu'⟩ | rfl
    · split
      · rename_i hb; exact better_trans hb (h.most p u hp' hu')
      · exact h.most p u hp' hu'
    · split
      · unfold better; omega
      · assumption
  · rw [List.length_append]; omega

theorem todo_step {ws : List Way} {a : Nat} {v : Way} (hv : ws[a]? = some v) : todo (ws ++ allKids x y v v.top) (a + 1) < todo ws a := by
  have hlt : a < ws.length := by
    rcases Nat.lt_or_ge a ws.length with h1 | h1
    · exact h1
    · rw [List.getElem?_eq_none h1] at hv; cases hv
  have e1 : ws.drop a = v :: ws.drop (a + 1) := by
    rw [List.drop_eq_getElem_cons hlt]
    rw [List.getElem?_eq_getElem hlt] at hv
    rw [Option.some.inj hv]
  have e2 : (ws ++ allKids x y v v.top).drop (a + 1) = ws.drop (a + 1) ++ allKids x y v v.top := List.drop_append_of_le_length (by omega)
  unfold todo
  rw [e1, e2, List.map_append, List.sum_append, List.map_cons, List.sum_cons]
  have hk := sum_allKids (x := x) (y := y) (v := v) v.top
  have hp : 0 < 2 ^ v.side := Nat.pow_pos (by decide)
  show _ < wt v + _
  unfold wt at *
  omega
theorem length_le_todo : ∀ {ws : List Way}, ws.length ≤ (ws.map wt).sum
  | [] => Nat.le_refl _
  | v :: ws => by
    have ih := length_le_todo (ws := ws)
    rw [List.length_cons, List.map_cons, List.sum_cons]
    have : 0 < wt v := Nat.pow_pos (by decide)
    omega
theorem len_todo {ws : List Way} {a : Nat} (h : a ≤ ws.length) : ws.length ≤ a + todo ws a := by
  have h1 := length_le_todo (ws := ws.drop a)
  rw [List.length_drop] at h1
  unfold todo
  omega

-- longest rows
def lcs (x y : List Nat) : Nat → Nat → Nat
  | 0, _ => 0
  | _ + 1, 0 => 0
  | t + 1, s + 1 => if x.getD t 0 = y.getD s 0 then lcs x y t s + 1 else max (lcs x y (t + 1) s) (lcs x y t (s + 1))
termination_by t s => t + s
theorem lcs_zero {s : Nat} : lcs x y 0 s = 0 := by unfold lcs; rfl
theorem lcs_zero' {t : Nat} : lcs x y t 0 = 0 := by cases t <;> (unfold lcs; rfl)
theorem lcs_succ {t s : Nat} : lcs x y (t + 1) (s + 1) = if x.getD t 0 = y.getD s 0 then lcs x y t s + 1 else max (lcs x y (t + 1) s) (lcs x y t (s + 1)) := by
  conv => lhs; unfold lcs

theorem valid_le : ∀ (n t s : Nat) (c : List (Nat × Nat)), t + s ≤ n → Valid x y t s c → c.length ≤ lcs x y t s := by
  intro n
  induction n with
  | zero =>
    intro t s c hn h
    cases h with
    | nil => exact Nat.zero_le _
    | cons hi hj e h => omega
  | succ n ih =>
    intro t s c hn h
    cases h with
    | nil => exact Nat.zero_le _
    | @cons _ _ i j c hi hj e h =>
      obtain ⟨t, rfl⟩ : ∃ t', t = t' + 1 := ⟨t - 1, by omega⟩
      obtain ⟨s, rfl⟩ : ∃ s', s = s' + 1 := ⟨s - 1, by omega⟩
      rw [lcs_succ, List.length_cons]
      split
      · have := ih t s c (by omega) (h.mono (by omega) (by omega))
        omega
      · rename_i hne
        by_cases hit : i = t
        · have hjs : j < s := by
            by_cases hjs : j = s
            · subst hit hjs; exact absurd e hne
            · omega
          have := ih (t + 1) s _ (by omega) (Valid.cons hi hjs e h)
          rw [List.length_cons] at this
          omega
        · have := ih t (s + 1) _ (by omega) (Valid.cons (by omega : i < t) hj e h)
          rw [List.length_cons] at this
          omega

/-- the way that the program's search from the end takes -/
def greedy (x y : List Nat) : Nat → Nat → List (Nat × Nat)
  | 0, _ => []
  | _ + 1, 0 => []
  | t + 1, s + 1 => if lcs x y (t + 1) (s + 1) = lcs x y t (s + 1) then greedy x y t (s + 1)
    else if lcs x y (t + 1) (s + 1) = lcs x y (t + 1) s then greedy x y (t + 1) s else (t, s) :: greedy x y t s
termination_by t s => t + s
theorem greedy_zero {s : Nat} : greedy x y 0 s = [] := by unfold greedy; rfl
theorem greedy_zero' {t : Nat} : greedy x y t 0 = [] := by cases t <;> (unfold greedy; rfl)
theorem greedy_succ {t s : Nat} : greedy x y (t + 1) (s + 1) = if lcs x y (t + 1) (s + 1) = lcs x y t (s + 1) then greedy x y t (s + 1)
    else if lcs x y (t + 1) (s + 1) = lcs x y (t + 1) s then greedy x y (t + 1) s else (t, s) :: greedy x y t s := by
  conv => lhs; unfold greedy

theorem greedy_match {t s : Nat} (h1 : ¬ lcs x y (t + 1) (s + 1) = lcs x y t (s + 1)) (h2 : ¬ lcs x y (t + 1) (s + 1) = lcs x y (t + 1) s) :
    x.getD t 0 = y.getD s 0 ∧ lcs x y (t + 1) (s + 1) = lcs x y t s + 1 := by
  rw [lcs_succ] at h1 h2 ⊢
  by_cases e : x.getD t 0 = y.getD s 0
  · exact ⟨e, by rw [if_pos e]⟩
  · rw [if_neg e] at h1 h2
    omega

theorem greedy_ok : ∀ (n t s : Nat), t + s ≤ n → Valid x y t s (greedy x y t s) ∧ (greedy x y t s).length = lcs x y t s := by
  intro n
  induction n with
  | zero =>
    intro t s hn
    obtain rfl : t = 0 := by omega
    rw [greedy_zero, lcs_zero]; exact ⟨.nil, rfl⟩
  | succ n ih =>
    intro t s hn
    cases t with
    | zero => rw [greedy_zero, lcs_zero]; exact ⟨.nil, rfl⟩
    | succ t =>
      cases s with
      | zero => rw [greedy_zero', lcs_zero']; exact ⟨.nil, rfl⟩
      | succ s =>
        rw [greedy_succ]
        by_cases h1 : lcs x y (t + 1) (s + 1) = lcs x y t (s + 1)
        · rw [if_pos h1, h1]
          obtain ⟨a, b⟩ := ih t (s + 1) (by omega)
          exact ⟨a.mono (by omega) (by omega), b⟩
        · rw [if_neg h1]
          by_cases h2 : lcs x y (t + 1) (s + 1) = lcs x y (t + 1) s
          · rw [if_pos h2, h2]
            obtain ⟨a, b⟩ := ih (t + 1) s (by omega)
            exact ⟨a.mono (by omega) (by omega), b⟩
          · rw [if_neg h2]
            obtain ⟨e, e2⟩ := greedy_match h1 h2
            obtain ⟨a, b⟩ := ih t s (by omega)
            exact ⟨.cons (by omega) (by omega) e a, by rw [List.length_cons, b, e2]⟩

theorem key_bounds : ∀ (c : List (Nat × Nat)) (t s k : Nat), t ≤ 7 → s ≤ 8 → Valid x y t s c → k * 64 ^ c.length ≤ keyAcc k c ∧ keyAcc k c < (k + 1) * 64 ^ c.length
  | [], _, _, k, _, _, _ => by simp [keyAcc]
  | (i, j) :: c, t, s, k, ht, hs, h => by
    cases h with
    | cons hi hj e h =>
      obtain ⟨a, b⟩ := key_bounds c i j (k * 64 + i * 8 + j) (by omega) (by omega) h
      rw [keyAcc, List.length_cons, Nat.pow_succ]
      have h64 : 0 < 64 ^ c.length := Nat.pow_pos (by decide)
      generalize 64 ^ c.length = z at *
      have e1 : k * (z * 64) = (k * 64) * z := by rw [Nat.mul_comm z 64, Nat.mul_assoc]
      have e2 : (k + 1) * (z * 64) = ((k + 1) * 64) * z := by rw [Nat.mul_comm z 64, Nat.mul_assoc]
      rw [e1, e2]
      constructor
      · exact Nat.le_trans (Nat.mul_le_mul_right z (by omega)) a
      · exact Nat.lt_of_lt_of_le b (Nat.mul_le_mul_right z (by omega))
theorem key_lt {c c' : List (Nat × Nat)} {i j i' j' k : Nat} (hc : Valid x y i j c) (hc' : Valid x y i' j' c') (hi : i ≤ 7) (hj : j ≤ 8) (hi' : i' ≤ 7) (hj' : j' ≤ 8) (hl : c.length = c'.length)
    (hd : i * 8 + j < i' * 8 + j') : keyAcc k ((i, j) :: c) < keyAcc k ((i', j') :: c') := by
  rw [keyAcc, keyAcc]
  have a := (key_bounds c i j (k * 64 + i * 8 + j) hi hj hc).2
  have b := (key_bounds c' i' j' (k * 64 + i' * 8 + j') hi' hj' hc').1
  rw [hl] at a
  exact Nat.lt_of_lt_of_le a (Nat.le_trans (Nat.mul_le_mul_right _ (by omega)) b)

theorem key_inj : ∀ (c c' : List (Nat × Nat)) (t s t' s' k k' : Nat), t ≤ 7 → s ≤ 8 → t' ≤ 7 → s' ≤ 8 → Valid x y t s c → Valid x y t' s' c' → c.length = c'.length → keyAcc k c = keyAcc k' c' → k = k' ∧ c = c'
  | [], [], _, _, _, _, k, k', _, _, _, _, _, _, _, e => ⟨e, rfl⟩
  | [], _ :: _, _, _, _, _, _, _, _, _, _, _, _, _, hl, _ => by simp at hl
  | _ :: _, [], _, _, _, _, _, _, _, _, _, _, _, _, hl, _ => by simp at hl
  | (i, j) :: c, (i', j') :: c', t, s, t', s', k, k', ht, hs, ht', hs', h, h', hl, e => by
    cases h with
    | cons hi hj e1 h =>
      cases h' with
      | cons hi' hj' e1' h' =>
        rw [keyAcc, keyAcc] at e
        obtain ⟨e3, e4⟩ := key_inj c c' i j i' j' _ _ (by omega) (by omega) (by omega) (by omega) h h' (by simpa using hl) e
        have hi2 : i = i' := by omega
        have hj2 : j = j' := by omega
        have hk2 : k = k' := by omega
        subst hi2 hj2 hk2 e4
        exact ⟨rfl, rfl⟩

theorem greedy_min : ∀ (n t s k : Nat) (c : List (Nat × Nat)), t + s ≤ n → t ≤ 7 → s ≤ 8 → Valid x y t s c → c.length = lcs x y t s → keyAcc k (greedy x y t s) ≤ keyAcc k c := by
  intro n
  induction n with
  | zero =>
    intro t s k c hn ht hs h hl
    obtain rfl : t = 0 := by omega
    rw [greedy_zero]
    rw [lcs_zero] at hl
    rw [List.length_eq_zero_iff.mp hl]
    exact Nat.le_refl _
  | succ n ih =>
    intro t s k c hn ht hs h hl
    have triv : lcs x y t s = 0 → keyAcc k (greedy x y t s) ≤ keyAcc k c := fun h0 => by
      have h1 := (greedy_ok (x := x) (y := y) (t + s) t s (Nat.le_refl _)).2
      rw [h0] at hl h1
      rw [List.length_eq_zero_iff.mp hl, List.length_eq_zero_iff.mp h1]
      exact Nat.le_refl _
    cases t with
    | zero => exact triv lcs_zero
    | succ t =>
      cases s with
      | zero => exact triv lcs_zero'
      | succ s =>
        cases h with
        | nil => exact triv (by simpa using hl.symm)
        | @cons _ _ i j c hi hj e h =>
          rw [greedy_succ]
          by_cases h1 : lcs x y (t + 1) (s + 1) = lcs x y t (s + 1)
          · rw [if_pos h1]
            by_cases hit : i < t
            · exact ih t (s + 1) k _ (by omega) (by omega) hs (.cons hit hj e h) (by rw [hl, h1])
            · obtain ⟨a, b⟩ := greedy_ok (x := x) (y := y) (t + (s + 1)) t (s + 1) (Nat.le_refl _)
              rw [← h1, ← hl] at b
              generalize greedy x y t (s + 1) = g at a b ⊢
              cases a with
              | nil => simp at b
              | @cons _ _ i0 j0 c0 hi0 hj0 e0 a =>
                exact Nat.le_of_lt (key_lt a h (by omega) (by omega) (by omega) (by omega) (by simpa using b) (by omega))
          · rw [if_neg h1]
            have hit : i = t := by
              by_cases hit : i < t
              · have hv := valid_le (t + (s + 1)) t (s + 1) _ (Nat.le_refl _) (Valid.cons hit hj e h)
                obtain ⟨a, b⟩ := greedy_ok (x := x) (y := y) (t + (s + 1)) t (s + 1) (Nat.le_refl _)
                have hw := valid_le (t + 1 + (s + 1)) (t + 1) (s + 1) _ (Nat.le_refl _) (a.mono (by omega : t ≤ t + 1) (Nat.le_refl _))
                omega
              · omega
            subst hit
            by_cases h2 : lcs x y (i + 1) (s + 1) = lcs x y (i + 1) s
            · rw [if_pos h2]
              by_cases hjs : j < s
              · exact ih (i + 1) s k _ (by omega) (by omega) (by omega) (.cons hi hjs e h) (by rw [hl, h2])
              · obtain ⟨a, b⟩ := greedy_ok (x := x) (y := y) (i + 1 + s) (i + 1) s (Nat.le_refl _)
                rw [← h2, ← hl] at b
                generalize greedy x y (i + 1) s = g at a b ⊢
                cases a with
                | nil => simp at b
                | @cons _ _ i0 j0 c0 hi0 hj0 e0 a =>
                  exact Nat.le_of_lt (key_lt a h (by omega) (by omega) (by omega) (by omega) (by simpa using b) (by omega))
            · rw [if_neg h2]
              have hjs : j = s := by
                by_cases hjs : j < s
                · have hv := valid_le (i + 1 + s) (i + 1) s _ (Nat.le_refl _) (Valid.cons hi hjs e h)
                  obtain ⟨a, b⟩ := greedy_ok (x := x) (y := y) (i + 1 + s) (i + 1) s (Nat.le_refl _)
                  have hw := valid_le (i + 1 + (s + 1)) (i + 1) (s + 1) _ (Nat.le_refl _) (a.mono (Nat.le_refl _) (by omega : s ≤ s + 1))
                  omega
                · omega
              subst hjs
              obtain ⟨_, e2⟩ := greedy_match h1 h2
              rw [keyAcc, keyAcc]
              exact ih i j _ c (by omega) (by omega) (by omega) h (by rw [List.length_cons, e2] at hl; omega)

/-- what both the law's search and the program's tell -/
def told (x y : List Nat) : List Nat := rowAcc x [] (greedy x y x.length y.length)

theorem ch_all {ws : List Way} {b : Way} (h : WInv x y ws ws.length b) : ∀ (c : List (Nat × Nat)), Valid x y x.length y.length c → applyC x (Way.root x y) c ∈ ws := by
  have gen : ∀ (c : List (Nat × Nat)) (v : Way), v ∈ ws → Valid x y v.top v.side c → applyC x v c ∈ ws := by
    intro c
    induction c with
    | nil => intro v hv _; exact hv
    | cons p c ih =>
      intro v hv hc
      obtain ⟨i, j⟩ := p
      cases hc with
      | cons hi hj e hc =>
        obtain ⟨q, hq⟩ := List.getElem?_of_mem hv
        have hlt : q < ws.length := by
          rcases Nat.lt_or_ge q ws.length with h1 | h1
          · exact h1
          · rw [List.getElem?_eq_none h1] at hq; cases hq
        exact ih (v.ext x i j) (h.closed q v hlt hq i j hi hj e) hc
  exact fun c hc => gen c _ h.root hc

theorem winv_done {ws : List Way} {b : Way} (h : WInv x y ws ws.length b) (hx : x.length ≤ 7) (hy : y.length ≤ 8) : b.row = told x y := by
  obtain ⟨c, hc, rfl⟩ := h.ch _ h.best
  obtain ⟨ga, gb⟩ := greedy_ok (x := x) (y := y) (x.length + y.length) x.length y.length (Nat.le_refl _)
  obtain ⟨q, hq⟩ := List.getElem?_of_mem (ch_all h _ ga)
  have hlt : q < ws.length := by
    rcases Nat.lt_or_ge q ws.length with h1 | h1
    · exact h1
    · rw [List.getElem?_eq_none h1] at hq; cases hq
  have hm := h.most q _ hlt hq
  have hle := valid_le (x.length + y.length) x.length y.length c (Nat.le_refl _) hc
  unfold better at hm
  rw [apply_many, apply_many, apply_key, apply_key] at hm
  have hr : (Way.root x y).many = 0 := rfl
  have hk0 : (Way.root x y).key = 0 := rfl
  rw [hr, hk0] at hm
  have hlen : c.length = lcs x y x.length y.length := by omega
  have hmin := greedy_min (x.length + y.length) x.length y.length 0 c (Nat.le_refl _) hx hy hc hlen
  have hkey : keyAcc 0 c = keyAcc 0 (greedy x y x.length y.length) := by omega
  have hcc := (key_inj c _ _ _ _ _ _ _ hx hy hx hy hc ga (by omega) hkey).2
  rw [apply_row, hcc]
  rfl

/-- bounds that the walk asks -/
theorem ch_bounds {v : Way} (h : Ch x y v) (hx : x.length ≤ 7) (hy : y.length ≤ 8) : v.top ≤ x.length ∧ v.side ≤ y.length ∧ v.many + v.top ≤ x.length ∧ v.row.length = v.many ∧ v.key < 64 ^ v.many := by
  obtain ⟨c, hc, rfl⟩ := h
  have gen : ∀ (c : List (Nat × Nat)) (v : Way), Valid x y v.top v.side c → v.row.length = v.many →
      (applyC x v c).top ≤ v.top ∧ (applyC x v c).side ≤ v.side ∧ (applyC x v c).many + (applyC x v c).top ≤ v.many + v.top ∧ (applyC x v c).row.length = (applyC x v c).many := by
    intro c
    induction c with
    | nil => intro v _ h; exact ⟨Nat.le_refl _, Nat.le_refl _, Nat.le_refl _, h⟩
    | cons p c ih =>
      intro v hc h
      obtain ⟨i, j⟩ := p
      cases hc with
      | cons hi hj e hc =>
        obtain ⟨a1, a2, a3, a4⟩ := ih (v.ext x i j) hc (by show v.row.length + 1 = v.many + 1; omega)
        have e1 : (v.ext x i j).top = i := rfl
        have e2 : (v.ext x i j).side = j := rfl
        have e3 : (v.ext x i j).many = v.many + 1 := rfl
        rw [applyC]
        rw [e1, e3] at a3
        rw [e1] at a1
        rw [e2] at a2
        exact ⟨by omega, by omega, by omega, a4⟩
  obtain ⟨a1, a2, a3, a4⟩ := gen c (Way.root x y) hc rfl
  have hk := (key_bounds c _ _ 0 hx hy hc).2
  refine ⟨a1, a2, ?_, a4, ?_⟩
  · have : (Way.root x y).many + (Way.root x y).top = x.length := by simp [Way.root]
    omega
  · rw [apply_key, apply_many]
    have : (Way.root x y).many + c.length = c.length := by simp [Way.root]
    rw [this]
    simpa [Way.root] using hk
end
end Mine

namespace Mine
open PySem PySem.W PyProof.Rows PySem.Spec

def Stop (P : Prop) : Prop := P
theorem stop {P : Prop} (h : Stop P) : P := h
theorem go {P : Prop} (h : P) : Stop P := h

theorem fr1 {h₀ h : Heap} {L : Addr} {m : Str → Option Value} {x : Str} {v : Value} (F : Fr h₀ L h m) (e : m x = some v) : Fr h₀ L h (fun y => if y = x then some v else m y) := by
  have : (fun y => if y = x then some v else m y) = m := by
    funext y
    by_cases hy : y = x
    · rw [if_pos hy, hy, e]
    · rw [if_neg hy]
  rw [this]; exact F
def ov (m : Str → Option Value) : List (Str × Value) → Str → Option Value
  | [] => m
  | p :: r => fun y => if y = p.1 then some p.2 else ov m r y
theorem ov_eq {m : Str → Option Value} : ∀ {ps : List (Str × Value)}, (∀ p ∈ ps, m p.1 = some p.2) → ov m ps = m
  | [], _ => rfl
  | p :: r, h => by
    rw [ov, ov_eq (fun q hq => h q (.tail _ hq))]
    funext y
    by_cases hy : y = p.1
    · rw [if_pos hy, hy, h p (.head _)]
    · rw [if_neg hy]
theorem frs {h₀ h : Heap} {L : Addr} {m : Str → Option Value} (F : Fr h₀ L h m) (ps : List (Str × Value)) (e : ∀ p ∈ ps, m p.1 = some p.2) : Fr h₀ L h (ov m ps) := by
  rw [ov_eq e]; exact F
theorem frs1 {h₀ h : Heap} {L : Addr} {m : Str → Option Value} {x : Str} {v : Value} (F : Fr h₀ L h (fun y => if y = x then some v else m y)) (ps : List (Str × Value)) (e : ∀ p ∈ ps, m p.1 = some p.2) :
    Fr h₀ L h (fun y => if y = x then some v else ov m ps y) := by
  rw [ov_eq e]; exact F
structure Mark (n : Nat) : Prop where
def Has (m : Str → Option Value) (ps : List (Str × Value)) : Prop := ∀ p ∈ ps, m p.1 = some p.2
theorem Has.nil {m : Str → Option Value} : Has m [] := fun _ h => nomatch h
theorem Has.cons {m : Str → Option Value} {x : Str} {v : Value} {r : List (Str × Value)} (e : m x = some v) (h : Has m r) : Has m ((x, v) :: r) := fun p hp => by
  rcases List.mem_cons.mp hp with rfl | hp
  · exact e
  · exact h p hp
theorem Has.fr {h₀ h : Heap} {L : Addr} {m : Str → Option Value} {ps : List (Str × Value)} (e : Has m ps) (F : Fr h₀ L h m) : Fr h₀ L h (ov m ps) := by
  rw [ov_eq e]; exact F
theorem Has.fr1 {h₀ h : Heap} {L : Addr} {m : Str → Option Value} {x : Str} {v : Value} {ps : List (Str × Value)} (e : Has m ps) (F : Fr h₀ L h (fun y => if y = x then some v else m y)) : Fr h₀ L h (fun y => if y = x then some v else ov m ps y) := by
  rw [ov_eq e]; exact F
theorem Has.fr2 {h₀ h : Heap} {L : Addr} {m : Str → Option Value} {x z : Str} {v u : Value} {ps : List (Str × Value)} (e : Has m ps) (F : Fr h₀ L h (fun y => if y = x then some v else if y = z then some u else m y)) :
    Fr h₀ L h (fun y => if y = x then some v else if y = z then some u else ov m ps y) := by
  rw [ov_eq e]; exact F
theorem Has.left {m : Str → Option Value} {a b : List (Str × Value)} (h : Has m (a ++ b)) : Has m a := fun p hp => h p (List.mem_append_left _ hp)
theorem all_nil {m : Str → Option Value} : ∀ p ∈ ([] : List (Str × Value)), m p.1 = some p.2 := fun _ h => nomatch h
theorem all_cons {m : Str → Option Value} {x : Str} {v : Value} {r : List (Str × Value)} (e : m x = some v) (h : ∀ p ∈ r, m p.1 = some p.2) : ∀ p ∈ (x, v) :: r, m p.1 = some p.2 := fun p hp => by
  rcases List.mem_cons.mp hp with rfl | hp
  · exact e
  · exact h p hp
theorem News.sub {h₀ h : Heap} {L : Addr} {l l' : List (Addr × Obj)} (N : News h₀ L h l) (hs : ∀ p ∈ l', p ∈ l) : News h₀ L h l' := fun p hp => N p (hs p hp)

section
variable {prog : Program} {w : World} {A : Around} {E : Value → Shared → Prop} {s : Shared} {env : Env} {h₀ : Heap} {x : Str} {body : List Stmt} {Q : Flow → Shared → Prop}

def GEnd (h₀ : Heap) (L : Addr) (J : (Str → Option Value) → List (Addr × Obj) → Prop) (I : Addr) (oI : Obj) (s₁ s₂ : Shared) : Prop :=
  ∃ h' tk m' nx, s₂ = { s₁ with heap := h', toks := tk } ∧ Fr h₀ L h' m' ∧ News h₀ L h' ((I, oI) :: nx) ∧ (∀ p ∈ nx, p.1 ≠ I) ∧ J m' nx
def GPost (h₀ : Heap) (L : Addr) (J : (Str → Option Value) → List (Addr × Obj) → Prop) (I : Addr) (oI : Obj) (s₁ : Shared) (Q : Flow → Shared → Prop) (f : Flow) (s₂ : Shared) : Prop :=
  match f with
  | .ret v => Q (.ret v) s₂
  | .brk => Q .next s₂
  | _ => GEnd h₀ L J I oI s₁ s₂
theorem GEnd.intro {L : Addr} {J : (Str → Option Value) → List (Addr × Obj) → Prop} {I : Addr} {oI : Obj} {s₁ : Shared} {h' : Heap} {tk : Nat} {m' : Str → Option Value} {all : List (Addr × Obj)} (nx : List (Addr × Obj))
    (F : Fr h₀ L h' m') (N : News h₀ L h' all) (hs : ∀ p ∈ (I, oI) :: nx, p ∈ all) (ho : ∀ p ∈ nx, p.1 ≠ I) (hj : J m' nx) : GEnd h₀ L J I oI s₁ { s₁ with heap := h', toks := tk } :=
  ⟨h', tk, m', nx, rfl, F, News.sub N hs, ho, hj⟩

theorem loopG {I : Addr} {keep : List (Addr × Obj)} {n : Nat} {P : Nat → Value → Prop} {St : Nat → Heap → Prop} {m₀ : Str → Option Value} {news : List (Addr × Obj)} (J : Nat → (Str → Option Value) → List (Addr × Obj) → Prop)
    (W : Walks prog w A I (I :: keep.map (·.1)) [I] n P St) (hLI : env.locals ≠ I) (hI : h₀.get? I = none) (hnI : ∀ p ∈ news, p.1 ≠ I) (hobj : ∀ i h, St i h → ∃ o, h.get? I = some o)
    (hkeep : ∀ i m nx, J i m nx → ∀ p ∈ keep, p ∈ nx)
    (hst : St 0 s.heap) (F : Fr h₀ env.locals s.heap m₀) (N : News h₀ env.locals s.heap news) (hj : J 0 m₀ news)
    (turn : ∀ i v m₁ news₁ h tk oI, i < n → P i v → (∀ p ∈ news₁, p.1 ≠ I) → J i m₁ news₁ → Fr h₀ env.locals h (fun y => if y = x then some v else m₁ y) → News h₀ env.locals h ((I, oI) :: news₁) →
      wpAny (model prog w) A (execs body env) (GPost h₀ env.locals (J (i + 1)) I oI { s with heap := h, toks := tk } Q) E { s with heap := h, toks := tk })
    (done : ∀ m₁ news₁ h tk, J n m₁ news₁ → Fr h₀ env.locals h m₁ → News h₀ env.locals h news₁ → Q .next { s with heap := h, toks := tk }) :
    LoopAtV prog w A h₀ env x body Q E (.ref I) s := by
  have hLk : env.locals ∉ I :: keep.map (·.1) := by
    intro hm
    rcases List.mem_cons.mp hm with e | hm
    · exact hLI e
    · obtain ⟨q, hq, e⟩ := List.mem_map.mp hm
      exact (N q (hkeep 0 _ _ hj q hq)).2.1 e
  refine ⟨I, _, [I], n, P, St, m₀, news, J, rfl, W, hLk, ?_, ?_, hst, F, N, hj, ?_, ?_⟩
  · intro b hb; rw [List.mem_singleton.mp hb]; exact hI
  · intro p hp hm; exact hnI p hp (List.mem_singleton.mp hm)
  · rintro i v m₁ news₁ s₁ own ⟨hh, tk, rfl⟩ hi hP hJ hoff hsub hget hall hst₁ F₁ N₁
    obtain ⟨oI, hoI⟩ := hobj _ _ hst₁
    have hmem : (I, oI) ∈ own := hall I (.head _) hI oI hoI
    have hoff' : ∀ p ∈ news₁, p.1 ≠ I := fun p hp e => hoff p hp (e ▸ .head _)
    refine wpAny_mono (turn i v m₁ news₁ hh tk oI hi hP hoff' hJ F₁ ?_) (fun f s₂ p => ?_) fun _ _ e => e
    · intro p hp
      rcases List.mem_cons.mp hp with rfl | hp
      · exact N₁ _ (List.mem_append_left _ hmem)
      · exact N₁ _ (List.mem_append_right _ hp)
    · have fin : GEnd h₀ env.locals (J (i + 1)) I oI { s with heap := hh, toks := tk } s₂ → LoopStepU h₀ env.locals [I] own (J (i + 1)) { s with heap := hh, toks := tk } .next s₂ := by
        rintro ⟨h', tk', m', nx, e, F', N', ho, hj'⟩
        refine ⟨rfl, h', tk', m', nx, e, F', ?_, fun p hp hm => ho p hp (List.mem_singleton.mp hm), hj'⟩
        intro p hp
        rcases List.mem_append.mp hp with hp | hp
        · rcases List.mem_cons.mp (hsub p hp) with e1 | e1
          · have h1 := hget p hp
            rw [e1, hoI] at h1
            have : p = (I, oI) := by obtain ⟨a, b⟩ := p; cases e1; cases h1; rfl
            rw [this]; exact N' _ (.head _)
          · obtain ⟨q, hq, e2⟩ := List.mem_map.mp e1
            have h1 := hget p hp
            have h2 := (N₁ q (List.mem_append_right _ (hkeep _ _ _ hJ q hq))).1
            have : p = q := by
              obtain ⟨a, b⟩ := p; obtain ⟨c, d⟩ := q
              cases e2
              have := h1.symm.trans h2
              cases this; rfl
            rw [this]; exact N' _ (.tail _ (hkeep _ _ _ hj' q hq))
        · exact N' _ (.tail _ hp)
      cases f with
      | ret v => exact .ret p
      | brk => exact .brk p
      | next => exact .next (fin p)
      | cont => exact .cont (fin p)
  · intro h' tk m' news' F' N' _ hJ
    exact done m' news' h' tk hJ F' N'

theorem range_loop {r : Addr} {k : Nat} {t₀ u₀ v₀ : Tok} {a₀ b₀ : Int} {m₀ : Str → Option Value} {news : List (Addr × Obj)} (J : Nat → (Str → Option Value) → List (Addr × Obj) → Prop)
    (hh : A.handled = none) (hr : IsRange s.heap r a₀ b₀ 1 t₀ u₀ v₀) (ha : a₀ = 0) (hb : b₀ = (k : Int)) (hk : k < 2 ^ 30)
    (F : Fr h₀ env.locals s.heap m₀) (N : News h₀ env.locals s.heap news) (hj : J 0 m₀ news)
    (turn : ∀ (i : Nat) t m₁ news₁ h tk I oI, i < k → (∀ p ∈ news₁, p.1 ≠ I) → J i m₁ news₁ → Fr h₀ env.locals h (fun y => if y = x then some (.int (i : Int) t) else m₁ y) → News h₀ env.locals h ((I, oI) :: news₁) →
      wpAny (model prog w) A (execs body env) (GPost h₀ env.locals (J (i + 1)) I oI { s with heap := h, toks := tk } Q) E { s with heap := h, toks := tk })
    (done : ∀ m₁ news₁ h tk, J k m₁ news₁ → Fr h₀ env.locals h m₁ → News h₀ env.locals h news₁ → Q .next { s with heap := h, toks := tk }) :
    wpAny (model prog w) A (pyIter (.ref r)) (fun it s₂ => LoopAtV prog w A h₀ env x body Q E it s₂) E s := by
  subst ha hb
  have hn : Builtin.Range.rangeSize 0 (k : Int) 1 = (k : Int) := by rw [rangeSize_nat]; omega
  refine wpAny_pyIter_range hr (small_one (by omega) (by omega) (by omega) (by omega)) ?_
  have W : Walks prog w A s.heap.objs.size (s.heap.objs.size :: ([] : List (Addr × Obj)).map (·.1)) [s.heap.objs.size] k (fun i v => ∃ t, v = .int (0 + (i : Nat) * 1) t)
      (fun i h => IsRangeIter h s.heap.objs.size (0 + (i : Nat) * 1) ((k : Int) - (i : Nat)) 1) := Walks.range hh _ 0 1 k
  refine loopG J W (Nat.ne_of_lt F.ns.lt) (next_is_new F) (fun p hp => Nat.ne_of_lt (Heap.lt_size (N p hp).1)) (fun i h st => ⟨_, st⟩) (fun _ _ _ _ _ hp => nomatch hp)
    (by show IsRangeIter _ _ _ _ _; rw [hn]; simpa using Heap.get?_push_size _ rfl) (F.push _) (fun p hp => ⟨Heap.get?_push_of_some _ (N p hp).1, (N p hp).2⟩) hj ?_ ?_
  · rintro i v m₁ news₁ h tk oI hi ⟨t, rfl⟩ hoff hJ F₁ N₁
    have e1 : (0 : Int) + (i : Int) * 1 = (i : Int) := by omega
    rw [e1] at F₁
    exact turn i t m₁ news₁ h tk _ oI hi hoff hJ F₁ N₁
  · intro m₁ news₁ h tk hJ F₁ N₁
    exact done m₁ news₁ h tk hJ F₁ N₁

theorem list_loop {l : Addr} {us : List Value} {c : Nat} {m₀ : Str → Option Value} {news : List (Addr × Obj)} (J : Nat → (Str → Option Value) → List (Addr × Obj) → Prop)
    (hh : A.handled = none) (hl : (l, listOf us.toArray c) ∈ news) (hkeep : ∀ i m nx, J i m nx → (l, listOf us.toArray c) ∈ nx)
    (F : Fr h₀ env.locals s.heap m₀) (N : News h₀ env.locals s.heap news) (hj : J 0 m₀ news)
    (turn : ∀ (i : Nat) v m₁ news₁ h tk I oI, i < us.length → us[i]? = some v → (∀ p ∈ news₁, p.1 ≠ I) → J i m₁ news₁ → Fr h₀ env.locals h (fun y => if y = x then some v else m₁ y) → News h₀ env.locals h ((I, oI) :: news₁) →
      wpAny (model prog w) A (execs body env) (GPost h₀ env.locals (J (i + 1)) I oI { s with heap := h, toks := tk } Q) E { s with heap := h, toks := tk })
    (done : ∀ m₁ news₁ h tk, J us.length m₁ news₁ → Fr h₀ env.locals h m₁ → News h₀ env.locals h news₁ → Q .next { s with heap := h, toks := tk }) :
    wpAny (model prog w) A (pyIter (.ref l)) (fun it s₂ => LoopAtV prog w A h₀ env x body Q E it s₂) E s := by
  have hls : s.heap.IsList l us.toArray := ⟨_, (N _ hl).1, rfl, c, rfl⟩
  have hlt : l < s.heap.objs.size := Heap.lt_size (N _ hl).1
  have hne : l ≠ s.heap.objs.size := Nat.ne_of_lt hlt
  refine wpAny_pyIter_list hls ?_
  have W : Walks prog w A s.heap.objs.size (s.heap.objs.size :: [(l, listOf us.toArray c)].map (·.1)) [s.heap.objs.size] us.length (fun i v => us.toArray[i]? = some v)
      (fun i h => h.IsListIter s.heap.objs.size l i ∧ h.IsList l us.toArray) := by
    have W := Walks.list (prog := prog) (w := w) hh s.heap.objs.size l hne us.toArray
    rw [List.size_toArray] at W
    exact W
  refine loopG J W (Nat.ne_of_lt F.ns.lt) (next_is_new F) (fun p hp => Nat.ne_of_lt (Heap.lt_size (N p hp).1)) (fun i h st => let ⟨o, ho, _⟩ := st.1; ⟨o, ho⟩) (fun i m nx hJ p hp => by rw [List.mem_singleton.mp hp]; exact hkeep i m nx hJ)
    ⟨⟨_, Heap.get?_push_size _ rfl, rfl, rfl⟩, hls.at fun o e => Heap.get?_push_of_some _ e⟩ (F.push _) (fun p hp => ⟨Heap.get?_push_of_some _ (N p hp).1, (N p hp).2⟩) hj ?_ ?_
  · intro i v m₁ news₁ h tk oI hi hv hoff hJ F₁ N₁
    exact turn i v m₁ news₁ h tk _ oI hi (by simpa using hv) hoff hJ F₁ N₁
  · intro m₁ news₁ h tk hJ F₁ N₁
    exact done m₁ news₁ h tk hJ F₁ N₁

theorem str_loop {y : Str} {ty : Tok} {m₀ : Str → Option Value} {news : List (Addr × Obj)} (J : Nat → (Str → Option Value) → List (Addr × Obj) → Prop)
    (hh : A.handled = none) (F : Fr h₀ env.locals s.heap m₀) (N : News h₀ env.locals s.heap news) (hj : J 0 m₀ news)
    (turn : ∀ (i : Nat) c t m₁ news₁ h tk I oI, i < y.cps.size → y.cps[i]? = some c → (∀ p ∈ news₁, p.1 ≠ I) → J i m₁ news₁ → Fr h₀ env.locals h (fun z => if z = x then some (.str ⟨#[c]⟩ t) else m₁ z) → News h₀ env.locals h ((I, oI) :: news₁) →
      wpAny (model prog w) A (execs body env) (GPost h₀ env.locals (J (i + 1)) I oI { s with heap := h, toks := tk } Q) E { s with heap := h, toks := tk })
    (done : ∀ m₁ news₁ h tk, J y.cps.size m₁ news₁ → Fr h₀ env.locals h m₁ → News h₀ env.locals h news₁ → Q .next { s with heap := h, toks := tk }) :
    wpAny (model prog w) A (pyIter (.str y ty)) (fun it s₂ => LoopAtV prog w A h₀ env x body Q E it s₂) E s := by
  have main : ∀ (cls : String) (o : Obj) (W : Walks prog w A s.heap.objs.size (s.heap.objs.size :: ([] : List (Addr × Obj)).map (·.1)) [s.heap.objs.size] y.cps.size (SignAt y) (fun i h => h.IsStrIter s.heap.objs.size cls y ty i)),
      (s.heap.push o).IsStrIter s.heap.objs.size cls y ty 0 →
      LoopAtV prog w A h₀ env x body Q E (.ref s.heap.objs.size) { s with heap := s.heap.push o } := by
    intro cls o W st0
    refine loopG J W (Nat.ne_of_lt F.ns.lt) (next_is_new F) (fun p hp => Nat.ne_of_lt (Heap.lt_size (N p hp).1)) (fun i h st => let ⟨o, ho, _⟩ := st; ⟨o, ho⟩) (fun _ _ _ _ _ hp => nomatch hp)
      st0 (F.push _) (fun p hp => ⟨Heap.get?_push_of_some _ (N p hp).1, (N p hp).2⟩) hj ?_ ?_
    · rintro i v m₁ news₁ h tk oI hi ⟨c, t, hc, rfl⟩ hoff hJ F₁ N₁
      exact turn i c t m₁ news₁ h tk _ oI hi hc hoff hJ F₁ N₁
    · intro m₁ news₁ h tk hJ F₁ N₁
      exact done m₁ news₁ h tk hJ F₁ N₁
  cases ha : y.cps.all (· < 128)
  · exact wpAny_pyIter_wide ha (main "str_iterator" _ (Walks.strWide hh _ y ty) ⟨_, Heap.get?_push_size _ rfl, rfl, rfl⟩)
  · exact wpAny_pyIter_ascii ha (main "str_ascii_iterator" _ (Walks.strAscii hh _ y ty) ⟨_, Heap.get?_push_size _ rfl, rfl, rfl⟩)
theorem execs_app (a b : List Stmt) : execs (a ++ b) env = (execs a env >>= fun f => match f with | .next => execs b env | f => pure f) := by
  induction a with
  | nil => rw [List.nil_append, execs_nil, pure_bind]
  | cons st a ih =>
    rw [List.cons_append, execs_cons, execs_cons, bind_assoc]
    congr 1
    funext f
    cases f with
    | next => exact ih
    | brk => rw [pure_bind]
    | cont => rw [pure_bind]
    | ret v => rw [pure_bind]
theorem execs_split {M : Model} {l : List Stmt} (n : Nat) (h : wpAny M A (execs (l.take n) env) (fun f s' => match f with | .next => wpAny M A (execs (l.drop n) env) Q E s' | f => Q f s') E s) : wpAny M A (execs l env) Q E s := by
  have e : execs l env = execs (l.take n ++ l.drop n) env := by rw [List.take_append_drop]
  rw [e, execs_app]
  refine wpAny_bind (wpAny_mono h (fun f s' h' => ?_) fun _ _ x => x)
  cases f with
  | next => exact h'
  | brk => exact wpAny_pure h'
  | cont => exact wpAny_pure h'
  | ret v => exact wpAny_pure h'
theorem sub_str {value slice : Expr} {y : Str} {t u : Tok} {i : Nat} {Q : Value → Shared → Prop} (h2 : i < y.length) (hf : y.length < 2 ^ 30)
    (h : ∀ t tk, Q (.str ⟨#[y.cps.toList.getD i 0]⟩ t) { s with toks := tk })
    (hs : subscripted slice false (.str y t) (.int (i : Int) u) = operate [.str y t, .int (i : Int) u] (getItem (.str y t) (.int (i : Int) u)) := by with_unfolding_all rfl)
    (ht : ∀ r, letTemporaryGo value (.str y t) r = pure () := by intro _; with_unfolding_all rfl) :
    wpAny (model prog w) A (subscriptTail value slice (.str y t) (.int (i : Int) u)) Q E s := by
  refine item_str (fitsSsize_of (N := 9223372036854775808) (by omega) (by omega) (Int.le_refl _)) (by omega) (by omega) (fun _ => ?_) hs ht
  have e : Txt.item y (i : Int) = ⟨#[y.cps.toList.getD i 0]⟩ := by
    rw [item_meets ⟨by omega, by omega⟩]
    simp
  rw [e]
  exact h _ _
theorem sub_strI {value slice : Expr} {y : Str} {t u : Tok} {k : Int} {Q : Value → Shared → Prop} (h0 : 0 ≤ k) (h2 : k < y.length) (hf : y.length < 2 ^ 30)
    (h : ∀ t tk, Q (.str ⟨#[y.cps.toList.getD k.toNat 0]⟩ t) { s with toks := tk })
    (hs : subscripted slice false (.str y t) (.int k u) = operate [.str y t, .int k u] (getItem (.str y t) (.int k u)) := by with_unfolding_all rfl)
    (ht : ∀ r, letTemporaryGo value (.str y t) r = pure () := by intro _; with_unfolding_all rfl) :
    wpAny (model prog w) A (subscriptTail value slice (.str y t) (.int k u)) Q E s := by
  obtain ⟨i, rfl⟩ := Int.eq_ofNat_of_zero_le h0
  exact sub_str (by omega) hf h hs ht
end
end Mine

namespace Mine
open PySem PySem.W PyProof.Rows PySem.Spec

/-- one-letter texts -/
def LetAre (us : List Value) (c : List Nat) : Prop := us.length = c.length ∧ ∀ (i : Nat) (a : Nat), c[i]? = some a → ∃ t, us[i]? = some (Value.str ⟨#[a]⟩ t)
/-- a text, or a list of one-letter texts on the ledger -/
def SeqV (news : List (Addr × Obj)) (v : Value) (c : List Nat) : Prop :=
  (∃ t, v = Value.str ⟨c.toArray⟩ t) ∨ ∃ l us k, v = Value.ref l ∧ (l, listOf us.toArray k) ∈ news ∧ LetAre us c
theorem SeqV.sub {n n' : List (Addr × Obj)} {v : Value} {c : List Nat} (h : SeqV n v c) (hs : ∀ p ∈ n, p ∈ n') : SeqV n' v c := by
  rcases h with h | ⟨l, us, k, e, hm, r⟩
  · exact .inl h
  · exact .inr ⟨l, us, k, e, hs _ hm, r⟩

section
variable {prog : Program} {w : World} {A : Around} {E : Value → Shared → Prop} {s : Shared} {env : Env} {h₀ : Heap} {L : Addr} {news led : List (Addr × Obj)} {v : Value} {c : List Nat}

theorem len_seq {Q : Value → Shared → Prop} (hv : SeqV news v c) (N : News h₀ L s.heap led) (hs : ∀ p ∈ news, p ∈ led) (hf : c.length < 2 ^ 20) (h : ∀ t tk, Q (.int (c.length : Int) t) { s with toks := tk }) :
    wpAny (model prog w) A (call (.builtin "len") [v]) Q E s := by
  rcases hv with ⟨t, rfl⟩ | ⟨l, us, k, rfl, hm, hl, hi⟩
  · have e : (Str.length ⟨c.toArray⟩ : Nat) = c.length := by show c.toArray.size = _; rw [List.size_toArray]
    refine len_str ?_ ?_
    · rw [e]; omega
    · rw [e]; exact h _ _
  · exact kst_len N (hs _ hm) hl (by omega) (h _ _)

theorem sub_seq {value slice : Expr} {u : Tok} {k : Int} {Q : Value → Shared → Prop} (hv : SeqV news v c) (N : News h₀ L s.heap led) (hs : ∀ p ∈ news, p ∈ led) (hf : c.length < 2 ^ 20) (h0 : 0 ≤ k) (h1 : k < c.length)
    (h : ∀ t tk, Q (.str ⟨#[c.getD k.toNat 0]⟩ t) { s with toks := tk })
    (hs1 : ∀ y t, subscripted slice false (Value.str y t) (.int k u) = operate [.str y t, .int k u] (getItem (.str y t) (.int k u)) := by intro _ _; with_unfolding_all rfl)
    (ht1 : ∀ y t r, letTemporaryGo value (Value.str y t) r = pure () := by intro _ _ _; with_unfolding_all rfl)
    (hs2 : ∀ a, subscripted slice false (Value.ref a) (.int k u) = operate [.ref a, .int k u] (getItem (.ref a) (.int k u)) := by intro _; with_unfolding_all rfl)
    (ht2 : ∀ a r, letTemporaryGo value (Value.ref a) r = pure () := by intro _ _; with_unfolding_all rfl) :
    wpAny (model prog w) A (subscriptTail value slice v (.int k u)) Q E s := by
  rcases hv with ⟨t, rfl⟩ | ⟨l, us, k', rfl, hm, hl, hi⟩
  · have e : (Str.length ⟨c.toArray⟩ : Nat) = c.length := by show c.toArray.size = _; rw [List.size_toArray]
    refine sub_strI h0 (by rw [e]; exact h1) (by rw [e]; omega) (fun t' tk => ?_) (hs1 _ _) (ht1 _ _)
    exact h t' tk
  · have hlt : k.toNat < c.length := by omega
    obtain ⟨t, ht⟩ := hi k.toNat c[k.toNat] (List.getElem?_eq_getElem hlt)
    have e : c.getD k.toNat 0 = c[k.toNat] := by rw [List.getD_eq_getElem?_getD, List.getElem?_eq_getElem hlt]; rfl
    refine kim_list N (hs _ hm) rfl rfl h0 (by omega) ht ?_ (hs2 _) (ht2 _)
    rw [← e]
    exact h t s.toks

theorem sub_seqE {value slice : Expr} {u : Tok} {k : Int} {d : Nat} {Q : Value → Shared → Prop} (hv : SeqV news v c) (N : News h₀ L s.heap led) (hs : ∀ p ∈ news, p ∈ led) (hf : c.length < 2 ^ 20) (h0 : 0 ≤ k) (h1 : k < c.length) (he : c.getD k.toNat 0 = d)
    (h : ∀ t tk, Q (.str ⟨#[d]⟩ t) { s with toks := tk })
    (hs1 : ∀ y t, subscripted slice false (Value.str y t) (.int k u) = operate [.str y t, .int k u] (getItem (.str y t) (.int k u)) := by intro _ _; with_unfolding_all rfl)
    (ht1 : ∀ y t r, letTemporaryGo value (Value.str y t) r = pure () := by intro _ _ _; with_unfolding_all rfl)
    (hs2 : ∀ a, subscripted slice false (Value.ref a) (.int k u) = operate [.ref a, .int k u] (getItem (.ref a) (.int k u)) := by intro _; with_unfolding_all rfl)
    (ht2 : ∀ a r, letTemporaryGo value (Value.ref a) r = pure () := by intro _ _; with_unfolding_all rfl) :
    wpAny (model prog w) A (subscriptTail value slice v (.int k u)) Q E s :=
  sub_seq hv N hs hf h0 h1 (by rw [he]; exact h) hs1 ht1 hs2 ht2

def EEnd (h₀ : Heap) (L : Addr) (J : (Str → Option Value) → List (Addr × Obj) → Prop) (own : List (Addr × Obj)) (adr : List Addr) (s₁ s₂ : Shared) : Prop :=
  ∃ h' tk m' nx, s₂ = { s₁ with heap := h', toks := tk } ∧ Fr h₀ L h' m' ∧ News h₀ L h' (nx ++ own) ∧ nx.map (·.1) = adr ∧ J m' nx
def EPost (h₀ : Heap) (L : Addr) (J : (Str → Option Value) → List (Addr × Obj) → Prop) (own : List (Addr × Obj)) (adr : List Addr) (s₁ : Shared) (Q : Flow → Shared → Prop) (f : Flow) (s₂ : Shared) : Prop :=
  match f with
  | .ret v => Q (.ret v) s₂
  | .brk => Q .next s₂
  | _ => EEnd h₀ L J own adr s₁ s₂

theorem enum_core {xi xc : Str} {body : List Stmt} {Q : Flow → Shared → Prop} {e it : Addr} {fp : List Addr} {P : Nat → Value → Prop} {St : Nat → Heap → Prop} {m₀ : Str → Option Value} (J : Nat → (Str → Option Value) → List (Addr × Obj) → Prop) (X : List Addr)
    (D : Draws prog w A.in1 it fp c.length P St) (hei : e ≠ it) (hef : e ∉ fp) (hif : it ∈ fp) (hfX : ∀ b ∈ e :: fp, b ∉ X) (hP : ∀ i x, P i x → ∃ t, x = .str ⟨#[c.getD i 0]⟩ t)
    (hL : env.locals ∉ e :: fp) (h0e : h₀.get? e = none) (h0i : h₀.get? it = none) (hne : ∀ p ∈ news, p.1 ≠ e ∧ p.1 ≠ it)
    (he : IsEnum s.heap e it 0 .none) (hst : St 0 s.heap) (F : Fr h₀ env.locals s.heap m₀) (N : News h₀ env.locals s.heap news) (hj : J 0 m₀ news)
    (turn : ∀ (i : Nat) t tc m₁ news₁ h tk own, i < c.length → J i m₁ news₁ → news₁.map (·.1) = news.map (·.1) → (∀ p ∈ own, p.1 ∉ X) →
      Fr h₀ env.locals h (fun y => if y = xc then some (.str ⟨#[c.getD i 0]⟩ tc) else if y = xi then some (.int (i : Int) t) else m₁ y) → News h₀ env.locals h (news₁ ++ own) →
      wpAny (model prog w) A (execs body env) (EPost h₀ env.locals (J (i + 1)) own (news.map (·.1)) { s with heap := h, toks := tk } Q) E { s with heap := h, toks := tk })
    (done : ∀ m₁ news₁ h tk, J c.length m₁ news₁ → news₁.map (·.1) = news.map (·.1) → Fr h₀ env.locals h m₁ → News h₀ env.locals h news₁ → Q .next { s with heap := h, toks := tk }) :
    wpAny (model prog w) A (pyIter (.ref e)) (fun it' s₂ => PairAt3 prog w A h₀ env xi xc body Q E it' s₂) E s := by
  refine wpAny_pyIter_enum he ?_
  refine ⟨e, e :: fp, [e, it], c.length, _, _, _, (fun i v0 v1 => ∃ t, v0 = .int i t ∧ P i v1), m₀, news, (fun i m nx => nx.map (·.1) = news.map (·.1) ∧ J i m nx), rfl, WalksT.enumerateD D e hei hef hif, ?_, hL, ?_, ?_, ⟨⟨_, by simpa using he⟩, hst⟩, F, N, ⟨rfl, hj⟩, ?_, ?_⟩
  · rintro i vals ⟨t, x, hPx, rfl⟩
    exact ⟨_, _, rfl, t, rfl, hPx⟩
  · intro b hb
    rcases List.mem_cons.mp hb with rfl | hb
    · exact h0e
    · rw [List.mem_singleton.mp hb]; exact h0i
  · intro p hp hb
    rcases List.mem_cons.mp hb with e1 | hb
    · exact (hne p hp).1 e1
    · exact (hne p hp).2 (List.mem_singleton.mp hb)
  · rintro i v0 v1 m₁ news₁ s₁ own ⟨hh', tk', rfl⟩ hi ⟨t, rfl, hPx⟩ ⟨ha, hJ⟩ ha' hsub F₁ N₁
    obtain ⟨tc, rfl⟩ := hP _ _ hPx
    have N₂ : News h₀ env.locals hh' (news₁ ++ own) := fun p hp => N₁ p ((List.mem_append.mp hp).elim (fun h => List.mem_append.mpr (.inr h)) fun h => List.mem_append.mpr (.inl h))
    refine wpAny_mono (turn i t tc m₁ news₁ hh' tk' own hi hJ ha (fun p hp => hfX _ (hsub p hp)) F₁ N₂) (fun f s₂ p => ?_) fun _ _ e => e
    have fin : EEnd h₀ env.locals (J (i + 1)) own (news.map (·.1)) { s with heap := hh', toks := tk' } s₂ → LoopStep2 h₀ env.locals own news₁ (fun m nx => nx.map (·.1) = news.map (·.1) ∧ J (i + 1) m nx) { s with heap := hh', toks := tk' } .next s₂ := by
      rintro ⟨h', tk, m', nx, e, F', N', ha₂, hm⟩
      exact ⟨rfl, h', tk, m', nx, e, F', fun p hp => N' p ((List.mem_append.mp hp).elim (fun h => List.mem_append.mpr (.inr h)) fun h => List.mem_append.mpr (.inl h)), ha₂.trans ha.symm, ha₂, hm⟩
    cases f with
    | ret v => exact p
    | brk => exact p
    | next => exact fin p
    | cont => exact fin p
  · rintro h' tk m' news' F' N' ha ⟨_, hJ⟩
    exact done m' news' h' tk hJ ha F' N'

theorem enum_loop {xi xc : Str} {body : List Stmt} {Q : Flow → Shared → Prop} {nv : List (Addr × Obj)} {m₀ : Str → Option Value} (J : Nat → (Str → Option Value) → List (Addr × Obj) → Prop) (X : List Addr)
    (hh : A.handled = none) (hv : SeqV nv v c) (hs : ∀ p ∈ nv, p ∈ news) (hX : ∀ b ∈ X, b ∈ news.map (·.1)) (hlX : ∀ l, v = .ref l → l ∉ X)
    (F : Fr h₀ env.locals s.heap m₀) (N : News h₀ env.locals s.heap news) (hj : J 0 m₀ news)
    (turn : ∀ (i : Nat) t tc m₁ news₁ h tk own, i < c.length → J i m₁ news₁ → news₁.map (·.1) = news.map (·.1) → (∀ p ∈ own, p.1 ∉ X) →
      Fr h₀ env.locals h (fun y => if y = xc then some (.str ⟨#[c.getD i 0]⟩ tc) else if y = xi then some (.int (i : Int) t) else m₁ y) → News h₀ env.locals h (news₁ ++ own) →
      wpAny (model prog w) A (execs body env) (EPost h₀ env.locals (J (i + 1)) own (news.map (·.1)) { s with heap := h, toks := tk } Q) E { s with heap := h, toks := tk })
    (done : ∀ m₁ news₁ h tk, J c.length m₁ news₁ → news₁.map (·.1) = news.map (·.1) → Fr h₀ env.locals h m₁ → News h₀ env.locals h news₁ → Q .next { s with heap := h, toks := tk }) :
    wpAny (model prog w) A (call (.type "enumerate") [v]) (fun xv s₁ => wpAny (model prog w) A (pyIter xv) (fun it s₂ => PairAt3 prog w A h₀ env xi xc body Q E it s₂) E s₁) E s := by
  have hLs : env.locals < s.heap.objs.size := F.ns.lt
  have hab : h₀.objs.size ≤ env.locals := F.above
  have hlt : ∀ p ∈ news, p.1 < s.heap.objs.size := fun p hp => Heap.lt_size (N p hp).1
  have hXlt : ∀ b ∈ X, b < s.heap.objs.size := fun b hb => by
    obtain ⟨p, hp, rfl⟩ := List.mem_map.mp (hX b hb)
    exact hlt p hp
  have n0 : ∀ a, s.heap.objs.size ≤ a → h₀.get? a = none := fun a ha => Heap.get?_none_of_le (Nat.le_trans hab (Nat.le_trans (Nat.le_of_lt hLs) ha))
  rcases hv with ⟨t, rfl⟩ | ⟨l, us, k, rfl, hm, hl, hi⟩
  · refine call_enumerate_str fun h' he hit hsz hk => ?_
    have F' : Fr h₀ env.locals h' m₀ := ⟨F.ns.keeps hk, fun b o e => hk b o (F.keep b o e), F.above⟩
    have N' : News h₀ env.locals h' news := fun p hp => ⟨hk _ _ (N p hp).1, (N p hp).2⟩
    have hcs : (⟨c.toArray⟩ : Str).cps.size = c.length := by show c.toArray.size = _; rw [List.size_toArray]
    have hP : ∀ i x, SignAt ⟨c.toArray⟩ i x → ∃ t, x = .str ⟨#[c.getD i 0]⟩ t := by
      rintro i x ⟨a, u, ha, rfl⟩
      refine ⟨u, ?_⟩
      have : c[i]? = some a := by simpa using ha
      rw [List.getD_eq_getElem?_getD, this]; rfl
    have main : ∀ (cls : String) (D : Draws prog w A.in1 s.heap.objs.size [s.heap.objs.size] c.length (SignAt ⟨c.toArray⟩) (fun i h => h.IsStrIter s.heap.objs.size cls ⟨c.toArray⟩ t i)), h'.IsStrIter s.heap.objs.size cls ⟨c.toArray⟩ t 0 →
        wpAny (model prog w) A (pyIter (.ref (s.heap.objs.size + 1))) (fun it s₂ => PairAt3 prog w A h₀ env xi xc body Q E it s₂) E { s with heap := h' } := by
      intro cls D st0
      refine enum_core (s := { s with heap := h' }) J X D (Nat.succ_ne_self _) (fun hm => Nat.succ_ne_self _ (List.mem_singleton.mp hm)) (List.mem_singleton.mpr rfl) ?_ hP ?_ (n0 _ (Nat.le_succ _)) (n0 _ (Nat.le_refl _))
        (fun p hp => ⟨Nat.ne_of_lt (Nat.lt_succ_of_lt (hlt p hp)), Nat.ne_of_lt (hlt p hp)⟩) he st0 F' N' hj turn done
      · intro b hb hbX
        have := hXlt b hbX
        rcases List.mem_cons.mp hb with rfl | hb
        · exact absurd this (Nat.not_lt.mpr (Nat.le_succ _))
        · rw [List.mem_singleton.mp hb] at this; exact absurd this (Nat.lt_irrefl _)
      · intro hm
        rcases List.mem_cons.mp hm with e | hm
        · exact Nat.ne_of_lt (Nat.lt_succ_of_lt hLs) e
        · exact Nat.ne_of_lt hLs (List.mem_singleton.mp hm)
    cases ha : (⟨c.toArray⟩ : Str).cps.all (· < 128)
    · have D := Draws.strWide (prog := prog) (w := w) (A := A.in1) hh s.heap.objs.size ⟨c.toArray⟩ t
      rw [hcs] at D
      have e : strIterType ⟨c.toArray⟩ = "str_iterator" := by unfold strIterType; rw [ha]; rfl
      rw [e] at hit
      exact main "str_iterator" D hit
    · have D := Draws.strAscii (prog := prog) (w := w) (A := A.in1) hh s.heap.objs.size ⟨c.toArray⟩ t
      rw [hcs] at D
      have e : strIterType ⟨c.toArray⟩ = "str_ascii_iterator" := by unfold strIterType; rw [ha]; rfl
      rw [e] at hit
      exact main "str_ascii_iterator" D hit
  · have hlm := hs _ hm
    have hls : s.heap.IsList l us.toArray := ⟨_, (N _ hlm).1, rfl, k, rfl⟩
    have hll : l < s.heap.objs.size := hlt _ hlm
    refine call_enumerate_list hls fun h' he hit hsz hk => ?_
    have F' : Fr h₀ env.locals h' m₀ := ⟨F.ns.keeps hk, fun b o e => hk b o (F.keep b o e), F.above⟩
    have N' : News h₀ env.locals h' news := fun p hp => ⟨hk _ _ (N p hp).1, (N p hp).2⟩
    have D := Draws.list (prog := prog) (w := w) (A := A.in1) hh s.heap.objs.size l (Nat.ne_of_lt hll) us.toArray
    have eD : us.toArray.size = c.length := by simp [hl]
    rw [eD] at D
    refine enum_core (s := { s with heap := h' }) J X D (Nat.succ_ne_self _) ?_ (.head _) ?_ ?_ ?_ (n0 _ (Nat.le_succ _)) (n0 _ (Nat.le_refl _))
      (fun p hp => ⟨Nat.ne_of_lt (Nat.lt_succ_of_lt (hlt p hp)), Nat.ne_of_lt (hlt p hp)⟩) he ⟨hit, hls.at fun o e => hk l o e⟩ F' N' hj turn done
    · intro hm'
      rcases List.mem_cons.mp hm' with e | hm'
      · exact Nat.succ_ne_self _ e
      · have := List.mem_singleton.mp hm'
        rw [← this] at hll
        exact absurd hll (Nat.not_lt.mpr (Nat.le_succ _))
    · intro b hb hbX
      have := hXlt b hbX
      rcases List.mem_cons.mp hb with rfl | hb
      · exact absurd this (Nat.not_lt.mpr (Nat.le_succ _))
      · rcases List.mem_cons.mp hb with rfl | hb
        · exact absurd this (Nat.lt_irrefl _)
        · rw [List.mem_singleton.mp hb] at hbX; exact hlX l rfl hbX
    · intro i x hx
      have hx' : us[i]? = some x := by simpa using hx
      have hlt' : i < us.length := by
        rcases Nat.lt_or_ge i us.length with h1 | h1
        · exact h1
        · rw [List.getElem?_eq_none h1] at hx'; cases hx'
      have hlc : i < c.length := by omega
      obtain ⟨t, ht⟩ := hi i c[i] (List.getElem?_eq_getElem hlc)
      rw [hx'] at ht
      refine ⟨t, ?_⟩
      rw [List.getD_eq_getElem?_getD, List.getElem?_eq_getElem hlc]
      exact Option.some.inj ht
    · intro hm'
      rcases List.mem_cons.mp hm' with e | hm'
      · exact Nat.ne_of_lt (Nat.lt_succ_of_lt hLs) e
      · rcases List.mem_cons.mp hm' with e | hm'
        · exact Nat.ne_of_lt hLs e
        · exact (N _ hlm).2.1 (List.mem_singleton.mp hm').symm
end

section
variable {prog : Program} {w : World} {A : Around} {E : Value → Shared → Prop} {s : Shared} {h₀ : Heap} {L : Addr} {m : Str → Option Value} {env : Env} {elt : Expr} {x : Str} {scope : Scope} {cl : List (Str × Addr)} {S : List (Addr × Obj) → Prop} {P : Nat → Value → Prop} {Fin : List Value → List (Addr × Obj) → Prop}

theorem compEnd_mono {s₁ s₂ : Shared} {I C D : Addr} {oI oC oD : Obj} {r r' : Value → List (Addr × Obj) → Prop} {y : Value} (h : LCg.CompEnd h₀ L m s₁ I oI C oC D oD S r y s₂) (hr : ∀ n', r y n' → r' y n') : LCg.CompEnd h₀ L m s₁ I oI C oC D oD S r' y s₂ := by
  obtain ⟨h', tk, n', e, F, N, o, hS, hR⟩ := h
  exact ⟨h', tk, n', e, F, N, o, hS, hr _ hR⟩

/-- a comprehension of any length, by what holds of the values made so far and the ledger -/
theorem comp_rest (J : List Value → List (Addr × Obj) → Prop) {n : Nat} {news : List (Addr × Obj)} (h0 : J [] news)
    (step : ∀ i ys nw v I oI C oC D m₂ h tk (E' : Value → Shared → Prop), i < n → ys.length = i → J ys nw → P i v → LCg.NsObj oC m₂ → m₂ x = some v → Fr h₀ L h m → News h₀ L h ((I, oI) :: (C, oC) :: (D, LCg.lst ys) :: nw) → LCg.Off3 I C D nw → ((@Ne Nat I C) ∧ (@Ne Nat I D) ∧ (@Ne Nat C D)) →
      wpAny (model prog w) A (eval elt (compEnvC scope cl C env)) (LCg.CompEnd h₀ L m { s with heap := h, toks := tk } I oI C oC D (LCg.lst ys) S (fun y news' => J (ys ++ [y]) news')) E' { s with heap := h, toks := tk })
    (fin : ∀ ys nw, ys.length = n → J ys nw → Fin ys nw) : LCg.CompRest prog w A h₀ L m env elt x scope cl s S P Fin n 0 [] news := by
  have gen : ∀ (k i : Nat) (ys : List Value) (nw : List (Addr × Obj)), i + k = n → ys.length = i → J ys nw → LCg.CompRest prog w A h₀ L m env elt x scope cl s S P Fin k i ys nw := by
    intro k
    induction k with
    | zero => intro i ys nw hi hl hj; exact LCg.CompRest.zero (fin ys nw (by omega) hj)
    | succ k ih =>
      intro i ys nw hi hl hj
      refine LCg.CompRest.succ fun v I oI C oC D m₂ h tk E' hv hC hx F N off ne => ?_
      refine wpAny_mono (step i ys nw v I oI C oC D m₂ h tk E' (by omega) hl hj hv hC hx F N off ne) (fun y s₂ h₂ => compEnd_mono h₂ fun n' hn' => ?_) fun _ _ e => e
      exact ih (i + 1) (ys ++ [y]) n' (by omega) (by rw [List.length_append, List.length_singleton, hl]) hn'
  exact gen n 0 [] news (by omega) rfl h0
end
end Mine

namespace Mine
section
variable (x y : List Nat)
/-- the table when the rows up to i, and row i + 1 up to column j, are filled -/
def filled (i j a b : Nat) : Int := if a ≤ i ∨ (a = i + 1 ∧ b ≤ j) then (lcs x y a b : Int) else 0
def rowL (i j a : Nat) : List Int := (List.range (y.length + 1)).map fun b => filled x y i j a b
variable {x y}
theorem rowL_len {i j a : Nat} : (rowL x y i j a).length = y.length + 1 := by simp [rowL]
theorem rowL_get {i j a b : Nat} (h : b < y.length + 1) : (rowL x y i j a).getD b 0 = filled x y i j a b := by
  rw [rowL, List.getD_eq_getElem?_getD, List.getElem?_map, List.getElem?_range h]; rfl
theorem rowL_eq {i j a i' j' a' : Nat} (h : ∀ b, b < y.length + 1 → filled x y i j a b = filled x y i' j' a' b) : rowL x y i j a = rowL x y i' j' a' :=
  List.map_congr_left fun b hb => h b (List.mem_range.mp hb)
theorem rowL_start {a : Nat} : rowL x y 0 0 a = List.replicate (y.length + 1) 0 := by
  refine List.eq_replicate_iff.mpr ⟨rowL_len, fun v hv => ?_⟩
  obtain ⟨b, hb, rfl⟩ := List.mem_map.mp hv
  unfold filled
  split
  · rename_i h
    rcases h with h | ⟨h, h2⟩
    · obtain rfl : a = 0 := by omega
      rw [lcs_zero]; rfl
    · obtain rfl : b = 0 := by omega
      rw [lcs_zero']; rfl
  · rfl
theorem rowL_same {i j a : Nat} (h : a ≠ i + 1) : rowL x y i j a = rowL x y i (j + 1) a :=
  rowL_eq fun b _ => by unfold filled; simp [h]
theorem rowL_next {i j : Nat} : (rowL x y i j (i + 1)).set (j + 1) (lcs x y (i + 1) (j + 1) : Int) = rowL x y i (j + 1) (i + 1) := by
  apply List.ext_getElem?
  intro b
  rw [List.getElem?_set]
  by_cases hb : b < y.length + 1
  · rw [rowL_len]
    have e : ∀ j', (rowL x y i j' (i + 1))[b]? = some (filled x y i j' (i + 1) b) := fun j' => by
      rw [rowL, List.getElem?_map, List.getElem?_range hb]; rfl
    rw [e, e]
    by_cases hj : j + 1 = b
    · subst hj
      rw [if_pos rfl, if_pos hb]
      unfold filled
      rw [if_pos (by omega)]
    · rw [if_neg hj]
      unfold filled
      congr 1
      by_cases h1 : b ≤ j
      · rw [if_pos (by omega), if_pos (by omega)]
      · rw [if_neg (by omega), if_neg (by omega)]
  · have e : ∀ j', (rowL x y i j' (i + 1))[b]? = none := fun j' => List.getElem?_eq_none (by rw [rowL_len]; omega)
    rw [e, e, rowL_len]
    by_cases hj : j + 1 = b
    · rw [if_pos hj, if_neg (by omega)]
    · rw [if_neg hj]
theorem rowL_turn {i a : Nat} : rowL x y i y.length a = rowL x y (i + 1) 0 a :=
  rowL_eq fun b hb => by
    unfold filled
    by_cases h : a ≤ i + 1
    · rw [if_pos (by omega), if_pos (by omega)]
    · rw [if_neg (by omega)]
      split
      · rename_i h2
        obtain rfl : b = 0 := by omega
        rw [lcs_zero']; rfl
      · rfl
theorem filled_at {i j a b : Nat} (h : a ≤ i ∨ (a = i + 1 ∧ b ≤ j)) : filled x y i j a b = (lcs x y a b : Int) := by unfold filled; rw [if_pos h]
theorem lcs_match {i j : Nat} (h : x.getD i 0 = y.getD j 0) : (lcs x y (i + 1) (j + 1) : Int) = (lcs x y i j : Int) + 1 := by
  rw [lcs_succ, if_pos h]; omega
theorem lcs_no {i j : Nat} (h : ¬ x.getD i 0 = y.getD j 0) : (lcs x y (i + 1) (j + 1) : Int) = max (lcs x y (i + 1) j : Int) (lcs x y i (j + 1) : Int) := by
  rw [lcs_succ, if_neg h]; omega
end
end Mine

namespace Mine
open PySem PySem.W PyProof.Rows

local macro_rules | `(tactic| walk_at "exec While Compare cons nil") => `(tactic| (refine Mine.stop ?_))
local macro_rules | `(tactic| walk_at "exec If BoolOp") => `(tactic| ((fail_if_success (have hM : Mark 0 := by assumption)); refine Mine.stop ?_))
local macro_rules | `(tactic| walk_at "pyIter ref") => `(tactic| (refine Mine.stop ?_))
local macro_rules | `(tactic| size_fits) => `(tactic| assumption)
local macro_rules | `(tactic| k_all) => `(tactic| assumption)
local macro_rules | `(tactic| walk_at "call builtin:len") => `(tactic| (k_here; (with_reducible show wpAny _ _ (call (Value.builtin "len") [Value.ref _]) _ _ _); k_dflt (refine' kst_len ?k1 ?k2 ?k3 ?k4 ?_; (case k1 => k_asm); (case k2 => k_memK); (case k3 => assumption); (case k4 => omega); k_whole)))
local macro_rules | `(tactic| walk_at "subscriptTail") => `(tactic| (k_here; (with_reducible show wpAny _ _ (subscriptTail _ _ (Value.ref _) (Value.int _ _)) _ _ _); k_dflt (refine' kim_list ?k1 ?k2 ?k3 ?k4 ?k5 ?k6 ?k7 ?_; (case k1 => k_asm); (case k2 => k_memK); (case k3 => rfl); (case k4 => rfl); (case k7 => assumption); (case k5 => omega); (case k6 => omega); k_whole)))
local macro_rules | `(tactic| walk_at "subscriptTail") => `(tactic| (k_here; (with_reducible show wpAny _ _ (subscriptTail _ _ (Value.str _ _) (Value.int _ _)) _ _ _); k_dflt (refine' sub_str ?k1 ?k2 ?_ ?k4 ?k5; (case k1 => omega); (case k2 => omega); (case k4 => with_unfolding_all rfl); (case k5 => intro _; with_unfolding_all rfl); k_whole); intro t' tk'))

def TupO (v : Way) (o : Obj) : Prop := ∃ t1 t2 t3 t4 t5, o = { cls := .type "tuple", data := .seq #[.int (v.top : Int) t1, .int (v.side : Int) t2, .int (v.key : Int) t3, .int (v.many : Int) t4, .str ⟨v.row.toArray⟩ t5] }
def refsOf (ts : List (Addr × Obj)) : List Value := ts.map fun p => .ref p.1
def Tups (ts : List (Addr × Obj)) (ws : List Way) : Prop := ts.length = ws.length ∧ ∀ (p : Nat) (q : Addr × Obj) (v : Way), ts[p]? = some q → ws[p]? = some v → TupO v q.2

def tJ (x y : Str) (tx ty : Tok) (l' : Addr) (news : List (Addr × Obj)) (n : Nat) (m : Str → Option Value) (nx : List (Addr × Obj)) : Prop :=
  ∃ (ws : List Way) (a : Nat) (b : Way) (ts : List (Addr × Obj)) (k : Nat) (db : Addr) (ob : Obj) (ta : Tok),
    n = todo ws a ∧ WInv x.cps.toList y.cps.toList ws a b ∧ Tups ts ws ∧ (db, ob) ∈ ts ∧ TupO b ob ∧ a + todo ws a ≤ 1024 ∧
    nx = (l', listOf (refsOf ts).toArray k) :: (ts ++ news) ∧ (∀ p ∈ ts, p.1 ≠ l') ∧
    Has m [(Str.ofString "first", .str x tx), (Str.ofString "second", .str y ty), (Str.ofString "ways", .ref l'), (Str.ofString "at", .int (a : Int) ta), (Str.ofString "best", .ref db)]

def oJ (x y : Str) (tx ty : Tok) (l' : Addr) (news : List (Addr × Obj)) (X : List Addr) (ws : List Way) (v : Way) (ts₀ : List (Addr × Obj)) (at' : Nat) (db : Addr) (K : List Way) (more : List (Str × Value)) (m : Str → Option Value) (nx : List (Addr × Obj)) : Prop :=
  ∃ (ts : List (Addr × Obj)) (k : Nat) (t1 t2 t3 t4 t5 : Tok), Tups ts (ws ++ K) ∧ nx = (l', listOf (refsOf ts).toArray k) :: (ts ++ news) ∧ (∀ p ∈ ts, p.1 ≠ l' ∧ p.1 ∉ X) ∧ (∀ p ∈ ts₀, p ∈ ts) ∧
    Has m ((Str.ofString "first", .str x tx) :: (Str.ofString "second", .str y ty) :: (Str.ofString "ways", .ref l') :: (Str.ofString "at", .int ((at' : Int) + 1) t1) :: (Str.ofString "best", .ref db) ::
      (Str.ofString "side", .int (v.side : Int) t2) :: (Str.ofString "key", .int (v.key : Int) t3) :: (Str.ofString "many", .int (v.many : Int) t4) :: (Str.ofString "row", .str ⟨v.row.toArray⟩ t5) :: more)

theorem root_tup {x y : Str} {t1 t2 t3 t4 t5 : Tok} : TupO (Way.root x.cps.toList y.cps.toList) { cls := .type "tuple", data := .seq #[.int (x.length : Int) t1, .int (y.length : Int) t2, .int 0 t3, .int 0 t4, .str (Str.ofString "") t5] } := by
  refine ⟨t1, t2, t3, t4, t5, ?_⟩
  have e : Str.ofString "" = ⟨([] : List Nat).toArray⟩ := by decide
  simp [Way.root, Str.length, e]
theorem tups_one {v : Way} {q : Addr × Obj} (h : TupO v q.2) : Tups [q] [v] := by
  refine ⟨rfl, fun p q' v' e1 e2 => ?_⟩
  cases p with
  | zero => cases e1; cases e2; exact h
  | succ p => cases e1

theorem tups_snoc {ts : List (Addr × Obj)} {ws : List Way} {q : Addr × Obj} {v : Way} (h : Tups ts ws) (hv : TupO v q.2) : Tups (ts ++ [q]) (ws ++ [v]) := by
  refine ⟨by rw [List.length_append, List.length_append, h.1]; rfl, fun p q' v' e1 e2 => ?_⟩
  by_cases hp : p < ts.length
  · rw [List.getElem?_append_left hp] at e1
    rw [List.getElem?_append_left (by rw [← h.1]; exact hp)] at e2
    exact h.2 p q' v' e1 e2
  · rw [List.getElem?_append_right (by omega)] at e1
    rw [List.getElem?_append_right (by rw [← h.1]; omega), ← h.1] at e2
    generalize p - ts.length = r at e1 e2
    cases r with
    | zero => cases e1; cases e2; exact hv
    | succ r => cases e1
theorem item_val {x : Str} {i : Nat} (h : i < x.length) : Txt.item x (i : Int) = ⟨#[x.cps.toList.getD i 0]⟩ := by
  rw [item_meets ⟨by omega, by omega⟩]
  simp
theorem ext_tup {x : Str} {v : Way} {i j : Nat} {t1 t2 t3 t4 t5 : Tok} (hi : i < x.length) :
    TupO (v.ext x.cps.toList i j) { cls := .type "tuple", data := .seq #[.int (i : Int) t1, .int (j : Int) t2, .int ((v.key : Int) * 64 + (i : Int) * 8 + (j : Int)) t3, .int ((v.many : Int) + 1) t4, .str (Txt.item x (i : Int) ++ ⟨v.row.toArray⟩) t5] } := by
  refine ⟨t1, t2, t3, t4, t5, ?_⟩
  have e1 : (((v.ext x.cps.toList i j).key : Nat) : Int) = (v.key : Int) * 64 + (i : Int) * 8 + (j : Int) := by
    show ((v.key * 64 + i * 8 + j : Nat) : Int) = _
    omega
  have e2 : (((v.ext x.cps.toList i j).many : Nat) : Int) = (v.many : Int) + 1 := by
    show ((v.many + 1 : Nat) : Int) = _
    omega
  have e3 : (⟨(v.ext x.cps.toList i j).row.toArray⟩ : Str) = Txt.item x (i : Int) ++ ⟨v.row.toArray⟩ := by
    rw [item_val hi]
    show (⟨(x.cps.toList.getD i 0 :: v.row).toArray⟩ : Str) = Str.append _ _
    simp [Str.append]
  rw [e1, e2, e3]
  rfl
theorem told_led {g h : Heap} {L D I l' : Addr} {o oI : Obj} {ts rest : List (Addr × Obj)} {k : Nat} (N : News g L h ((D, o) :: (I, oI) :: (l', listOf ((refsOf ts).toArray.push (.ref D)) (k + 1)) :: (ts ++ rest))) :
    News g L h ((I, oI) :: (l', listOf (refsOf (ts ++ [(D, o)])).toArray (k + 1)) :: ((ts ++ [(D, o)]) ++ rest)) := by
  have e : (refsOf (ts ++ [(D, o)])).toArray = (refsOf ts).toArray.push (.ref D) := by simp [refsOf]
  rw [e]
  refine News.sub N fun p hp => ?_
  simp only [List.mem_cons, List.mem_append, List.not_mem_nil, or_false] at hp ⊢
  rcases hp with h1 | h1 | (h1 | h1) | h1
  · exact .inr (.inl h1)
  · exact .inr (.inr (.inl h1))
  · exact .inr (.inr (.inr (.inl h1)))
  · exact .inl h1
  · exact .inr (.inr (.inr (.inr h1)))
theorem rowKids_len {x y : List Nat} {v : Way} {i : Nat} : ∀ j, (rowKids x y v i j).length ≤ j
  | 0 => Nat.le_refl _
  | j + 1 => by
    have := rowKids_len (x := x) (y := y) (v := v) (i := i) j
    rw [rowKids, List.length_append]
    split
    · rw [List.length_singleton]; omega
    · rw [List.length_nil]; omega
theorem allKids_len {x y : List Nat} {v : Way} : ∀ i, (allKids x y v i).length ≤ i * v.side
  | 0 => Nat.zero_le _
  | i + 1 => by
    have h1 := allKids_len (x := x) (y := y) (v := v) i
    have h2 := rowKids_len (x := x) (y := y) (v := v) (i := i) v.side
    rw [allKids, List.length_append, Nat.succ_mul]
    omega
theorem led_names {g h : Heap} {L a b D2 : Addr} {o oa ob : Obj} {news : List (Addr × Obj)} (_N : News g L h ((D2, o) :: (a, oa) :: (b, ob) :: news)) : ∃ g' L' h' a' b', g' = g ∧ L' = L ∧ h' = h ∧ a' = a ∧ b' = b := ⟨_, _, _, _, _, rfl, rfl, rfl, rfl, rfl⟩

set_option maxRecDepth 100000 in
set_option maxHeartbeats 8000000 in
theorem told_spec : ∀ (w : World) (mean : ExcName → Option Value) (mg mb : Str → Option Value) (x y : Str) (tx ty : Tok) (news : List (Addr × Obj)) (dp un : Nat) (gd : Option (List Code)) (cn : Str) (cs : Scope) (a : Addr) (ccd : Value) (cl : List (Str × Addr)) (outer : List Env) (A₀ : Around) (base h₀ : Heap) (L : Addr) (m : Str → Option Value) (s : Shared) (Q E : Value → Shared → Prop),
    Below A₀ base outer h₀ → Fr h₀ L s.heap m → (PySem.Mine.hd01.heap_39 w.params).In h₀ → News h₀ L s.heap news → Top PySem.Mine.hd01.view_39 (looseW PySem.Mine.hd01.view_39 [Str.ofString "Base", Str.ofString "LCSSeq"]) mean mg mb h₀ → cs.kind = .function →
    x.length ≤ 5 → y.length ≤ 5 → dp + 1 < recursionLimit → un + 8 < cLine → CbRet h₀ L m news s Q (fun t => .str ⟨(told x.cps.toList y.cps.toList).toArray⟩ t) →
      wpAny (model PySem.Challenge.rw_fq5037_01.row.prog w) (ktrTop dp un gd cn cs L a ccd cl outer) (call (.ref 234) [.str x tx, .str y ty]) Q E s := by
  w_top off
  k_fill
  intro w mean mg mb x y tx ty news dp un gd cn cs a ccd cl outer A₀ base h₀ L m s Q E B F X N T hk hx hy hd hu ret
  refine wpAny_call ?_
  k_dflt cell_enter
  k_steps
  rename Fr _ _ _ _ => F'
  rename News _ _ _ _ => N'
  rename _ < _ ∧ AllLt _ news => l2
  obtain ⟨g', L', hh8, l', D', rfl, rfl, rfl, rfl, rfl⟩ := led_names N'
  refine go ?_
  obtain ⟨oD, N₀, hoD⟩ : ∃ o, News g' L' hh8 ((l', listOf (refsOf [(D', o)]).toArray 0) :: ([(D', o)] ++ news)) ∧ TupO (Way.root x.cps.toList y.cps.toList) o :=
    ⟨_, News.sub N' (fun p hp => List.Mem.tail _ hp), root_tup⟩
  refine While_inv (n₀ := todo [Way.root x.cps.toList y.cps.toList] 0) (tJ x y tx ty l' news) F' N₀ ?j0 ?turn ?hE
  case hE => with_unfolding_all passes_own
  case j0 =>
    refine ⟨_, 0, _, [(D', oD)], 0, D', oD, _, rfl, winv_init, tups_one hoD, .head _, hoD, ?_, rfl, ?_, .cons rfl (.cons rfl (.cons rfl (.cons rfl (.cons rfl .nil))))⟩
    · have e : todo [Way.root x.cps.toList y.cps.toList] 0 = 2 ^ (x.length + y.length) := by simp [todo, wt, Way.root, Str.length]
      have h2 : 2 ^ (x.length + y.length) ≤ 2 ^ 10 := Nat.pow_le_pow_right (by decide) (by omega)
      omega
    · intro p hp
      rw [List.mem_singleton.mp hp]
      exact Nat.ne_of_lt l2.1
  case turn =>
    intro n m₁ nx h₁ tk₁ F₁ N₁ hJ
    obtain ⟨ws, at', b, ts, k, db, ob, ta, hn, hW, hT, hdb, hob, hle, rfl, hne, e1⟩ := hJ
    replace F₁ := e1.fr F₁
    dsimp only [ov] at F₁
    clear F' N' N₀
    have hln : (refsOf ts).length = ws.length := by rw [refsOf, List.length_map]; exact hT.1
    have hle2 : ws.length ≤ 1024 := Nat.le_trans (len_todo hW.le) hle
    obtain ⟨b1, b2, b3, b4, b5, rfl⟩ := hob
    by_cases hlt : at' < ws.length
    · obtain ⟨v, hv⟩ : ∃ v, ws[at']? = some v := ⟨_, List.getElem?_eq_getElem hlt⟩
      obtain ⟨⟨da, oa⟩, hq⟩ : ∃ q, ts[at']? = some q := ⟨_, List.getElem?_eq_getElem (by rw [hT.1]; exact hlt)⟩
      obtain ⟨a1, a2, a3, a4, a5, ho⟩ := hT.2 at' (da, oa) v hq hv
      dsimp only at ho
      subst ho
      have hr : (refsOf ts)[at']? = some (.ref da) := by rw [refsOf, List.getElem?_map, hq]; rfl
      have N₂ := News.sub (l' := (da, _) :: (db, _) :: (l', listOf (refsOf ts).toArray k) :: (ts ++ news)) N₁ (by
        intro p hp
        rcases List.mem_cons.mp hp with rfl | hp
        · exact .tail _ (List.mem_append_left _ (List.mem_of_getElem? hq))
        · rcases List.mem_cons.mp hp with rfl | hp
          · exact .tail _ (List.mem_append_left _ hdb)
          · exact hp)
      clear N₁
      k_steps
      rename Fr _ _ _ _ => F₃
      rename News _ _ _ _ => N₃
      refine go (wpAny_mono (Q := fun f s' => Stop (f = .next ∧ ∃ h' tk m' db' b', s' = { s with heap := h', toks := tk } ∧ b' = (if better v b then v else b) ∧ (∃ o, (db', o) ∈ ts ∧ TupO b' o) ∧ News g' L' h' ((l', listOf (refsOf ts).toArray k) :: (ts ++ news)) ∧
        Fr g' L' h' m' ∧ Has m' [(Str.ofString "first", .str x tx), (Str.ofString "second", .str y ty), (Str.ofString "ways", .ref l'), (Str.ofString "at", .int (at' : Int) ta), (Str.ofString "top", .int (v.top : Int) a1), (Str.ofString "side", .int (v.side : Int) a2), (Str.ofString "key", .int (v.key : Int) a3), (Str.ofString "many", .int (v.many : Int) a4), (Str.ofString "row", .str ⟨v.row.toArray⟩ a5), (Str.ofString "best", .ref db')])) ?_ ?_ (fun _ _ e => e))
      · have hM : Mark 0 := ⟨⟩
        k_steps
        all_goals (rename Fr _ _ _ _ => F₄; rename News _ _ _ _ => N₄)
        · refine go ⟨rfl, _, _, _, da, v, rfl, ?_, ⟨_, List.mem_of_getElem? hq, ⟨_, _, _, _, _, rfl⟩⟩, News.sub N₄ (fun p hp => .tail _ (.tail _ hp)), F₄, .cons rfl (.cons rfl (.cons rfl (.cons rfl (.cons rfl (.cons rfl (.cons rfl (.cons rfl (.cons rfl (.cons rfl .nil)))))))))⟩
          rw [if_pos (by unfold better; omega)]
        · refine go ⟨rfl, _, _, _, da, v, rfl, ?_, ⟨_, List.mem_of_getElem? hq, ⟨_, _, _, _, _, rfl⟩⟩, News.sub N₄ (fun p hp => .tail _ (.tail _ hp)), F₄, .cons rfl (.cons rfl (.cons rfl (.cons rfl (.cons rfl (.cons rfl (.cons rfl (.cons rfl (.cons rfl (.cons rfl .nil)))))))))⟩
          rw [if_pos (by unfold better; omega)]
        · refine go ⟨rfl, _, _, _, db, b, rfl, ?_, ⟨_, hdb, ⟨_, _, _, _, _, rfl⟩⟩, News.sub N₄ (fun p hp => .tail _ (.tail _ hp)), F₄, .cons rfl (.cons rfl (.cons rfl (.cons rfl (.cons rfl (.cons rfl (.cons rfl (.cons rfl (.cons rfl (.cons rfl .nil)))))))))⟩
          rw [if_neg (by unfold better; omega)]
        · refine go ⟨rfl, _, _, _, db, b, rfl, ?_, ⟨_, hdb, ⟨_, _, _, _, _, rfl⟩⟩, News.sub N₄ (fun p hp => .tail _ (.tail _ hp)), F₄, .cons rfl (.cons rfl (.cons rfl (.cons rfl (.cons rfl (.cons rfl (.cons rfl (.cons rfl (.cons rfl (.cons rfl .nil)))))))))⟩
          rw [if_neg (by unfold better; omega)]
      · rintro f s' ⟨rfl, h', tk, m', db', b', rfl, hb', ⟨ob', hdb', hob'⟩, N₄, F₄, e2⟩
        replace F₄ := e2.fr F₄
        dsimp only [ov] at F₄
        clear F₃ N₃
        k_steps
        refine go ?_
        rename Fr _ _ _ _ => F₅
        rename News _ _ _ _ => N₅
        rename IsRange _ _ _ _ _ _ _ _ => R₅
        have hxl : x.cps.toList.length = x.length := by simp [Str.length]
        have hyl : y.cps.toList.length = y.length := by simp [Str.length]
        have hvm : v ∈ ws := List.mem_of_getElem? hv
        have hcb : Stop _ := stop (go (ch_bounds (hW.ch v hvm) (by omega) (by omega)))
        refine range_loop (k := v.top) (fun i => oJ x y tx ty l' news [] ws v ts at' db' (allKids x.cps.toList y.cps.toList v i) []) rfl R₅ rfl rfl (by have := stop hcb; omega) F₅ N₅ ?o0 ?oturn ?odone
        case o0 =>
          exact ⟨ts, k, _, _, _, _, _, by rw [allKids, List.append_nil]; exact hT, rfl, fun p hp => ⟨hne p hp, fun h => nomatch h⟩, fun p hp => hp, .cons rfl (.cons rfl (.cons rfl (.cons rfl (.cons rfl (.cons rfl (.cons rfl (.cons rfl (.cons rfl .nil))))))))⟩
        case odone =>
          intro m₂ nx h₂ tk₂ hJ F₆ N₆
          obtain ⟨ts', k', u1, u2, u3, u4, u5, hT', rfl, hne', hsub, g1⟩ := hJ
          k_steps
          refine WhileStep.intro F₆ N₆ (by rw [hn]; exact todo_step (x := x.cps.toList) (y := y.cps.toList) hv) ⟨_, at' + 1, b', ts', k', db', ob', u1, rfl, hb' ▸ winv_step hW hv, hT', hsub _ hdb', hob', ?_, rfl, fun p hp => (hne' p hp).1, ?_⟩
          · have := todo_step (x := x.cps.toList) (y := y.cps.toList) hv
            omega
          · exact Has.left (a := [_, _, _, _, _]) g1
        case oturn =>
          intro i ti m₂ nx h₂ tk₂ I oI hi hoff hJ F₆ N₆
          obtain ⟨ts', k', u1, u2, u3, u4, u5, hT', rfl, hne', hsub, g1⟩ := hJ
          replace F₆ := g1.fr1 F₆
          dsimp only [ov] at F₆
          clear F₅ N₅
          k_steps
          refine go ?_
          rename Fr _ _ _ _ => F₇
          rename News _ _ _ _ => N₇
          rename IsRange _ _ _ _ _ _ _ _ => R₇
          refine range_loop (k := v.side) (fun j => oJ x y tx ty l' ((I, oI) :: news) [I] ws v ts at' db' (allKids x.cps.toList y.cps.toList v i ++ rowKids x.cps.toList y.cps.toList v i j) [(Str.ofString "i", .int (i : Int) ti)]) rfl R₇ rfl rfl (by have := stop hcb; omega) F₇
            (News.sub (l' := (l', listOf (refsOf ts').toArray k') :: (ts' ++ (I, oI) :: news)) N₇ ?osub) ?p0 ?pturn ?pdone
          case osub =>
            intro p hp
            simp only [List.mem_cons, List.mem_append] at hp ⊢
            rcases hp with h1 | h1 | h1 | h1
            · exact .inr (.inl h1)
            · exact .inr (.inr (.inl h1))
            · exact .inl h1
            · exact .inr (.inr (.inr h1))
          case p0 =>
            exact ⟨ts', k', _, _, _, _, _, by rw [rowKids, List.append_nil]; exact hT', rfl, fun p hp => ⟨(hne' p hp).1, fun h => hoff p (.tail _ (List.mem_append_left _ hp)) (List.mem_singleton.mp h)⟩, hsub,
              .cons rfl (.cons rfl (.cons rfl (.cons rfl (.cons rfl (.cons rfl (.cons rfl (.cons rfl (.cons rfl (.cons rfl .nil)))))))))⟩
          case pturn =>
            intro j tj m₃ nx₃ h₃ tk₃ I₂ oI₂ hj hoff₂ hJ₂ F₈ N₈
            obtain ⟨ts₃, k₃, w1, w2, w3, w4, w5, hT₃, rfl, hne₃, hsub₃, g3⟩ := hJ₂
            replace F₈ := g3.fr1 F₈
            dsimp only [ov] at F₈
            clear F₇ N₇
            have hxl : x.cps.toList.length = x.length := by simp [Str.length]
            have hyl : y.cps.toList.length = y.length := by simp [Str.length]
            obtain ⟨c1, c2, c3, c4, c5⟩ := stop hcb
            have hI2 := neN (hoff₂ _ (.head _))
            dsimp only at hI2
            have hI1 := neN (hoff _ (.head _))
            dsimp only at hI1
            have hall : ∀ p ∈ ts₃ ++ (I, oI) :: news, p.1 ≠ l' := by
              intro p hp
              rcases List.mem_append.mp hp with hp | hp
              · exact (hne₃ p hp).1
              · rcases List.mem_cons.mp hp with rfl | hp
                · exact fun e => hI1 e.symm
                · exact Nat.ne_of_lt (kst_ltOf l2.2 p hp)
            have hsz : (refsOf ts₃).toArray.size ≤ sizeLine := by
              have h1 := allKids_len (x := x.cps.toList) (y := y.cps.toList) (v := v) i
              have h2 := rowKids_len (x := x.cps.toList) (y := y.cps.toList) (v := v) (i := i) j
              have h3 : i * v.side ≤ 5 * 5 := Nat.mul_le_mul (by omega) (by omega)
              rw [List.size_toArray, refsOf, List.length_map, hT₃.1, List.length_append, List.length_append, sizeLine_eq]
              omega
            k_steps
            · rename Fr _ _ _ _ => F₉
              rename News _ _ _ _ => N₉
              rename (_ == _) = true => he
              rename _ < _ ∧ _ < _ ∧ _ => hlt9
              have he' : x.cps.toList.getD i 0 = y.cps.toList.getD j 0 := by
                rw [item_val (by omega), item_val (by omega)] at he
                have := eq_of_beq he
                injection this with this
                injection this with this
                injection this with this
              refine GEnd.intro _ F₉ (told_led N₉) (fun p hp => hp) ?_ ⟨_, _, w1, w2, w3, w4, w5, ?_, rfl, ?_, fun p hp => List.mem_append_left _ (hsub₃ p hp), ?_⟩
              · intro p hp
                rcases List.mem_cons.mp hp with rfl | hp
                · exact hI2
                · rcases List.mem_append.mp hp with hp | hp
                  · rcases List.mem_append.mp hp with hp | hp
                    · exact hoff₂ p (.tail _ (List.mem_append_left _ hp))
                    · rw [List.mem_singleton.mp hp]
                      exact Nat.ne_of_gt hlt9.1
                  · exact hoff₂ p (.tail _ (List.mem_append_right _ hp))
              · rw [rowKids, if_pos he', ← List.append_assoc, ← List.append_assoc, List.append_assoc ws]
                exact tups_snoc hT₃ (ext_tup (by omega))
              · intro p hp
                rcases List.mem_append.mp hp with hp | hp
                · exact hne₃ p hp
                · rw [List.mem_singleton.mp hp]
                  exact ⟨Nat.ne_of_gt hlt9.2.1, fun h => Nat.ne_of_gt (kst_ltOf hlt9.2.2 (I, oI) (List.mem_append_right _ (.head _))) (List.mem_singleton.mp h)⟩
              · exact .cons rfl (.cons rfl (.cons rfl (.cons rfl (.cons rfl (.cons rfl (.cons rfl (.cons rfl (.cons rfl (.cons rfl .nil)))))))))
            · rename Fr _ _ _ _ => F₉
              rename News _ _ _ _ => N₉
              rename (_ == _) = false => he
              have he' : ¬ x.cps.toList.getD i 0 = y.cps.toList.getD j 0 := by
                intro e
                rw [item_val (by omega), item_val (by omega), e] at he
                exact absurd he (by simp)
              refine GEnd.intro _ F₉ N₉ (fun p hp => hp) hoff₂ ⟨ts₃, k₃, w1, w2, w3, w4, w5, ?_, rfl, hne₃, hsub₃, ?_⟩
              · rw [rowKids, if_neg he', List.append_nil]
                exact hT₃
              · exact .cons rfl (.cons rfl (.cons rfl (.cons rfl (.cons rfl (.cons rfl (.cons rfl (.cons rfl (.cons rfl (.cons rfl .nil)))))))))
          case pdone =>
            intro m₃ nx₃ h₃ tk₃ hJ₂ F₈ N₈
            obtain ⟨ts₃, k₃, w1, w2, w3, w4, w5, hT₃, rfl, hne₃, hsub₃, g3⟩ := hJ₂
            k_steps
            refine GEnd.intro ((l', listOf (refsOf ts₃).toArray k₃) :: (ts₃ ++ news)) F₈ N₈ ?_ ?_ ⟨ts₃, k₃, w1, w2, w3, w4, w5, hT₃, rfl, fun p hp => ⟨(hne₃ p hp).1, fun h => nomatch h⟩, hsub₃, ?_⟩
            · intro p hp
              simp only [List.mem_cons, List.mem_append] at hp ⊢
              rcases hp with h1 | h1 | h1 | h1
              · exact .inr (.inr (.inl h1))
              · exact .inl h1
              · exact .inr (.inl h1)
              · exact .inr (.inr (.inr h1))
            · intro p hp
              rcases List.mem_cons.mp hp with rfl | hp
              · exact (hoff (l', listOf (refsOf ts').toArray k') (.head _) : l' ≠ I)
              · rcases List.mem_append.mp hp with hp | hp
                · exact fun e => (hne₃ p hp).2 (List.mem_singleton.mpr e)
                · exact hoff p (.tail _ (List.mem_append_right _ hp))
            · exact Has.left (a := [_, _, _, _, _, _, _, _, _]) g3
    · have N₂ := News.sub (l' := (db, _) :: (l', listOf (refsOf ts).toArray k) :: (ts ++ news)) N₁ (by
        intro p hp
        rcases List.mem_cons.mp hp with rfl | hp
        · exact .tail _ (List.mem_append_left _ hdb)
        · exact hp)
      clear N₁
      k_steps
      rename Fr _ _ _ _ => F₉
      rename News _ _ _ _ => N₉
      obtain rfl : at' = ws.length := by have := hW.le; omega
      have e := winv_done hW (by have : x.cps.toList.length = x.length := by simp [Str.length]
                                 omega) (by have : y.cps.toList.length = y.length := by simp [Str.length]
                                            omega)
      rw [← e] at ret
      exact ret b5 _ _ F₉ (News.sub N₉ (fun p hp => .tail _ (.tail _ (List.mem_append_right _ hp))))
end Mine

namespace Mine
open PySem PySem.W PyProof.Rows

local macro_rules | `(tactic| walk_at "exec While") => `(tactic| (refine Mine.stop ?_))
local macro_rules | `(tactic| walk_at "exec For Tuple") => `(tactic| (k_here; (rename Fr _ _ _ _ => lF'); (with_unfolding_all refine' For_pair3F lF' ?k0 ?k1 ?k2 ?k3 ?_ ?k4 ?k5; (case k0 => exact rfl); (case k1 => exact rfl); (case k2 => exact rfl); (case k3 => exact rfl); (case k4 => intro _; rfl); (case k5 => with_unfolding_all passes_own); k_whole)))
local macro_rules | `(tactic| walk_at "exec Assert") => `(tactic| ((fail_if_success (have hM : Mark 0 := by assumption)); refine Mine.stop ?_))
local macro_rules | `(tactic| walk_at "call type:enumerate") => `(tactic| (refine Mine.stop ?_))
local macro_rules | `(tactic| walk_at "CompSrc") => `(tactic| (refine Mine.stop ?_))
local macro_rules | `(tactic| walk_at "call builtin:len") => `(tactic| (k_here; (with_reducible show wpAny _ _ (call (Value.builtin "len") [_]) _ _ _); k_dflt (refine' len_seq ?k1 ?k2 ?k3 ?k4 ?_; (case k1 => assumption); (case k2 => k_asm); (case k3 => (intro p hp; simp only [List.mem_cons, List.mem_append, hp, or_true, true_or])); (case k4 => omega); k_whole); intro t' tk'))

local macro_rules | `(tactic| k_all) => `(tactic| assumption)
local macro_rules | `(tactic| walk_at "subscriptTail") => `(tactic| (k_here; (with_reducible show wpAny _ _ (subscriptTail _ _ (Value.ref _) (Value.int _ _)) _ _ _); k_dflt (refine' ksa_sub ?k1 ?k2 ?k3 ?k4 ?k5 ?k6 ?_ ?k7; (case k1 => k_asm); (case k2 => k_memK); (case k3 => assumption); (case k4 => omega); (case k5 => (rw [rowL_len]; omega)); (case k6 => omega); (case k7 => with_unfolding_all rfl); k_whole); intro _))
local macro_rules | `(tactic| walk_at "subscriptTail") => `(tactic| (k_here; (with_reducible show wpAny _ _ (subscriptTail _ _ (Value.ref _) (Value.int _ _)) _ _ _); k_dflt (refine' kim_list ?k1 ?k2 ?k3 ?k4 ?k5 ?k6 ?k7 ?_; (case k1 => k_asm); (case k2 => k_memK); (case k3 => rfl); (case k4 => rfl); (case k7 => assumption); (case k5 => omega); (case k6 => omega); k_whole)))
local macro_rules | `(tactic| walk_at "subscriptTail") => `(tactic| (k_here; k_dflt (refine' sub_seq ?k1 ?k2 ?k3 ?k4 ?k5 ?k6 ?_ ?k7 ?k8 ?k9 ?k10; (case k1 => assumption); (case k2 => k_asm); (case k3 => (intro p hp; simp only [List.mem_cons, List.mem_append, hp, or_true, true_or])); (case k4 => omega); (case k5 => omega); (case k6 => omega); (case k7 => intro _ _; with_unfolding_all rfl); (case k8 => intro _ _ _; with_unfolding_all rfl); (case k9 => intro _; with_unfolding_all rfl); (case k10 => intro _ _; with_unfolding_all rfl); k_whole); intro t' tk'))
local macro_rules | `(tactic| walk_at "subscriptTail") => `(tactic| (k_here; k_dflt (refine' sub_seqE ?k1 ?k2 ?k3 ?k4 ?k5 ?k6 ?kE ?_ ?k7 ?k8 ?k9 ?k10; (case k1 => assumption); (case k2 => k_asm); (case kE => assumption); (case k3 => (intro p hp; simp only [List.mem_cons, List.mem_append, hp, or_true, true_or])); (case k4 => omega); (case k5 => omega); (case k6 => omega); (case k7 => intro _ _; with_unfolding_all rfl); (case k8 => intro _ _ _; with_unfolding_all rfl); (case k9 => intro _; with_unfolding_all rfl); (case k10 => intro _ _; with_unfolding_all rfl); k_whole); intro t' tk'))
local macro_rules | `(tactic| size_fits) => `(tactic| assumption)
local macro_rules | `(tactic| walk_at "setItem ref int") => `(tactic| (k_here; (with_reducible show wpAny _ _ (setItem (Value.ref _) (Value.int _ _) (Value.int _ _)) _ _ _); k_dflt (refine' ksa_set ?k1 ?k2 ?k3 ?k4 ?k5 ?k6 ?k7 ?_; (case k1 => k_asm); (case k2 => k_asm); (case k3 => k_upd); (case k4 => assumption); (case k5 => omega); (case k6 => (rw [rowL_len]; omega)); (case k7 => omega); k_whole); intro h' F' N' hi' hl' hs'))

def RowO (o : Obj) (r : List Int) : Prop := ∃ us n, o = listOf us.toArray n ∧ IntsAre us r
def MatOK (x y : List Nat) (i j : Nat) (rows : List (Addr × Obj)) : Prop := rows.length = x.length + 1 ∧ ∀ (a : Nat) (q : Addr × Obj), rows[a]? = some q → RowO q.2 (rowL x y i j a)
def dJ (x y : List Nat) (D cc : Addr) (oc : Obj) (radr : List Addr) (rest : List (Addr × Obj)) (ps : List (Str × Value)) (i j : Nat) (m : Str → Option Value) (nx : List (Addr × Obj)) : Prop :=
  ∃ rows, MatOK x y i j rows ∧ rows.map (·.1) = radr ∧ nx = (D, LCg.lst (radr.map Value.ref)) :: (cc, oc) :: (rows ++ rest) ∧ Has m ps
theorem off1_mem {D : Addr} : ∀ {l : List (Addr × Obj)}, LCg.Off1 D l → ∀ p ∈ l, p.1 ≠ D
  | [], _, _, h => nomatch h
  | _ :: _, x, p, h => by
    rcases List.mem_cons.mp h with rfl | h
    · exact x.1
    · exact off1_mem x.2 p h
theorem split2 {α : Type} {l : List α} {i : Nat} (h : i + 1 < l.length) : ∃ pre a b post, l = pre ++ a :: b :: post ∧ pre.length = i := by
  refine ⟨l.take i, l[i], l[i + 1], l.drop (i + 2), ?_, ?_⟩
  · rw [← List.drop_eq_getElem_cons h, ← List.drop_eq_getElem_cons (by omega : i < l.length), List.take_append_drop]
  · rw [List.length_take]; omega
theorem mat_set {x y : List Nat} {i j : Nat} {pre post : List (Addr × Obj)} {q0 q1 : Addr × Obj} {o' : Obj} (h : MatOK x y i j (pre ++ q0 :: q1 :: post)) (hpl : pre.length = i) (ho : RowO o' (rowL x y i (j + 1) (i + 1))) :
    MatOK x y i (j + 1) (pre ++ q0 :: (q1.1, o') :: post) := by
  refine ⟨?_, fun a q hq => ?_⟩
  · have := h.1
    rw [List.length_append, List.length_cons, List.length_cons] at this ⊢
    exact this
  · have old : a ≠ i + 1 → (pre ++ q0 :: q1 :: post)[a]? = some q → RowO q.2 (rowL x y i (j + 1) a) := fun hne hq' => by
      rw [← rowL_same hne]; exact h.2 a q hq'
    by_cases h1 : a < pre.length
    · rw [List.getElem?_append_left h1] at hq
      exact old (by omega) (by rw [List.getElem?_append_left h1]; exact hq)
    · rw [List.getElem?_append_right (by omega)] at hq
      by_cases h2 : a = i + 1
      · subst h2
        rw [hpl, Nat.add_sub_cancel_left] at hq
        cases hq
        exact ho
      · refine old h2 ?_
        rw [List.getElem?_append_right (by omega)]
        have h3 : a - pre.length ≠ 1 := by omega
        generalize a - pre.length = k at hq h3 ⊢
        match k, h3, hq with
        | 0, _, hq => exact hq
        | k + 2, _, hq => exact hq
theorem fill_end {x y : List Nat} {i j k : Nat} {g h : Heap} {L D cc r0 r1 : Addr} {oc : Obj} {m' : Str → Option Value} {s₁ : Shared} {tk : Nat} {us0 us1 : List Value} {n0 n1 : Nat} {val : Int} {t : Tok} {radr : List Addr} {pre post rest own₂ rows' : List (Addr × Obj)} {ps : List (Str × Value)}
    (F' : Fr g L h m') (N' : News g L h ((r0, listOf us0.toArray n0) :: (r1, listOf (us1.set k (Value.int val t)).toArray n1) :: (D, LCg.lst (radr.map Value.ref)) :: (cc, oc) :: (pre ++ (post ++ (rest ++ own₂)))))
    (hi' : IntsAre (us1.set k (Value.int val t)) ((rowL x y i j (i + 1)).set k val)) (hk : k = j + 1) (hval : val = (lcs x y (i + 1) (j + 1) : Int))
    (hmat : MatOK x y i j (pre ++ (r0, listOf us0.toArray n0) :: (r1, listOf us1.toArray n1) :: post)) (hpl : pre.length = i) (hradr : (pre ++ (r0, listOf us0.toArray n0) :: (r1, listOf us1.toArray n1) :: post).map (·.1) = radr)
    (hradr' : rows'.map (·.1) = radr) (hm : Has m' ps) :
    EEnd g L (dJ x y D cc oc radr rest ps i (j + 1)) own₂ (((D, LCg.lst (radr.map Value.ref)) :: (cc, oc) :: (rows' ++ rest)).map (·.1)) s₁ { s₁ with heap := h, toks := tk } := by
  subst hk hval
  rw [rowL_next] at hi'
  have hra : (pre ++ (r0, listOf us0.toArray n0) :: (r1, listOf (us1.set (j + 1) (Value.int (lcs x y (i + 1) (j + 1) : Int) t)).toArray n1) :: post).map (·.1) = radr := by
    rw [← hradr, List.map_append, List.map_append]; rfl
  refine ⟨h, tk, m', (D, LCg.lst (radr.map Value.ref)) :: (cc, oc) :: ((pre ++ (r0, listOf us0.toArray n0) :: (r1, listOf (us1.set (j + 1) (Value.int (lcs x y (i + 1) (j + 1) : Int) t)).toArray n1) :: post) ++ rest), rfl, F', News.sub N' ?_, ?_,
    ⟨_, mat_set hmat hpl ⟨_, _, rfl, hi'⟩, hra, rfl, hm⟩⟩
  · intro p hp
    simp only [List.mem_cons, List.mem_append] at hp ⊢
    rcases hp with (h | h | (h | h | h | h) | h) | h <;> simp only [h, true_or, or_true]
  · rw [List.map_cons, List.map_cons, List.map_append, hra, List.map_cons, List.map_cons, List.map_append, hradr']
theorem mat_turn {x y : List Nat} {i : Nat} {rows : List (Addr × Obj)} (h : MatOK x y i y.length rows) : MatOK x y (i + 1) 0 rows :=
  ⟨h.1, fun a q hq => by rw [← rowL_turn]; exact h.2 a q hq⟩
theorem row_val {x y : List Nat} {i j a b : Nat} {k : Int} (hk : k = (b : Int)) (hb : b ≤ y.length) (h : a ≤ i ∨ (a = i + 1 ∧ b ≤ j)) : (rowL x y i j a).getD k.toNat 0 = (lcs x y a b : Int) := by
  subst hk
  rw [Int.toNat_natCast, rowL_get (by omega), filled_at h]
theorem let_eq {a b : Nat} (h : ((⟨#[a]⟩ : Str) == ⟨#[b]⟩) = true) : a = b := by
  have := eq_of_beq h
  injection this with this
  injection this with this
  injection this with this
theorem let_ne {a b : Nat} (h : ((⟨#[a]⟩ : Str) == ⟨#[b]⟩) = false) : ¬ a = b := by
  intro e
  rw [e] at h
  exact absurd h (by simp)
theorem str_cons {a : Nat} {r : List Nat} : (⟨#[a]⟩ : Str) ++ ⟨r.toArray⟩ = ⟨(a :: r).toArray⟩ := by
  show Str.append _ _ = _
  simp [Str.append]
def wJ (x y : List Nat) (v1 : Value) (D : Addr) (led : List (Addr × Obj)) (n : Nat) (m : Str → Option Value) (nx : List (Addr × Obj)) : Prop :=
  ∃ (a b : Nat) (ia ib : Int) (r : List Nat) (t1 t2 t3 : Tok), n = a + b ∧ a ≤ x.length ∧ b ≤ y.length ∧ ia = (a : Int) ∧ ib = (b : Int) ∧ rowAcc x r (greedy x y a b) = told x y ∧ r.length + a ≤ 5 ∧ nx = led ∧
    Has m [(Str.ofString "seq1", v1), (Str.ofString "lengths", .ref D), (Str.ofString "i", .int ia t1), (Str.ofString "j", .int ib t2), (Str.ofString "result", .str ⟨r.toArray⟩ t3)]
abbrev refs (rows : List (Addr × Obj)) : List Value := rows.map fun p => .ref p.1
def compJ (cc : Addr) (oc : Obj) (news : List (Addr × Obj)) (r0 : List Int) (ys : List Value) (nw : List (Addr × Obj)) : Prop :=
  ∃ rows : List (Addr × Obj), ys = refs rows ∧ nw = (cc, oc) :: (rows ++ news) ∧ (rows.map (·.1)).Nodup ∧ (∀ p ∈ rows, cc < p.1 ∧ RowO p.2 r0)
theorem row_end {g h : Heap} {L : Addr} {m : Str → Option Value} {s₁ : Shared} {tk : Nat} {D₂ T I C D cc : Addr} {o₂ oT oI oC oc : Obj} {rows news : List (Addr × Obj)} {r0 : List Int} (F₃ : Fr g L h m)
    (N₃ : News g L h ((D₂, o₂) :: (T, oT) :: (I, oI) :: (C, oC) :: (D, LCg.lst (refs rows)) :: (cc, oc) :: (rows ++ news)))
    (l3 : T < D₂ ∧ I < D₂ ∧ C < D₂ ∧ D < D₂ ∧ cc < D₂ ∧ AllLt D₂ (rows ++ news)) (off : LCg.Off3 I C D ((cc, oc) :: (rows ++ news))) (hnd : (rows.map (·.1)).Nodup) (hr : ∀ p ∈ rows, cc < p.1 ∧ RowO p.2 r0) (ho : RowO o₂ r0) :
    LCg.CompEnd g L m s₁ I oI C oC D (LCg.lst (refs rows)) (fun _ => True) (fun y news' => compJ cc oc news r0 (refs rows ++ [y]) news') (.ref D₂) { s₁ with heap := h, toks := tk } := by
  obtain ⟨l3a, l3I, l3C, l3D, l3L, l3r⟩ := l3
  refine LCg.CompEnd.intro F₃ N₃ ((cc, oc) :: ((rows ++ [(D₂, o₂)]) ++ news)) (fun p hp => ?_) (LCg.Off3.of fun p hp => ?_) trivial ⟨rows ++ [(D₂, o₂)], ?_, rfl, ?_, ?_⟩
  · simp only [List.mem_cons, List.mem_append, List.not_mem_nil, or_false] at hp ⊢
    rcases hp with h1 | h1 | h1 | h1 | (h1 | h1) | h1
    · exact .inr (.inr (.inl h1))
    · exact .inr (.inr (.inr (.inl h1)))
    · exact .inr (.inr (.inr (.inr (.inl h1))))
    · exact .inr (.inr (.inr (.inr (.inr (.inl h1)))))
    · exact .inr (.inr (.inr (.inr (.inr (.inr (.inl h1))))))
    · exact .inl h1
    · exact .inr (.inr (.inr (.inr (.inr (.inr (.inr h1))))))
  · rcases List.mem_cons.mp hp with rfl | hp
    · exact off.mem _ (.head _)
    · rcases List.mem_append.mp hp with hp | hp
      · rcases List.mem_append.mp hp with hp | hp
        · exact off.mem _ (.tail _ (List.mem_append_left _ hp))
        · rw [List.mem_singleton.mp hp]
          exact ⟨Nat.ne_of_gt l3I, Nat.ne_of_gt l3C, Nat.ne_of_gt l3D⟩
      · exact off.mem _ (.tail _ (List.mem_append_right _ hp))
  · rw [refs, refs, List.map_append]; rfl
  · rw [List.map_append]
    refine List.nodup_append.mpr ⟨hnd, List.nodup_cons.mpr ⟨(fun h => nomatch h), .nil⟩, ?_⟩
    intro a ha b hb
    obtain ⟨q, hq, rfl⟩ := List.mem_map.mp ha
    rw [List.mem_singleton.mp hb]
    exact Nat.ne_of_lt (kst_ltOf l3r q (List.mem_append_left _ hq))
  · intro p hp
    rcases List.mem_append.mp hp with hp | hp
    · exact hr p hp
    · rw [List.mem_singleton.mp hp]
      exact ⟨l3L, ho⟩

set_option maxRecDepth 100000 in
set_option maxHeartbeats 8000000 in
theorem dyn_code : ∀ (w : World) (mean : ExcName → Option Value) (mg mb : Str → Option Value) (x y : List Nat) (sv v1 v2 : Value) (news : List (Addr × Obj)) (dp un : Nat) (gd : Option (List Code)) (cn : Str) (cs : Scope) (a : Addr) (ccd : Value) (cl : List (Str × Addr)) (outer : List Env) (A₀ : Around) (base h₀ : Heap) (L : Addr) (m : Str → Option Value) (s : Shared) (Q E : Value → Shared → Prop),
    Below A₀ base outer h₀ → Fr h₀ L s.heap m → (PySem.Mine.hd01.heap_39 w.params).In h₀ → News h₀ L s.heap news → Top PySem.Mine.hd01.view_39 (looseW PySem.Mine.hd01.view_39 [Str.ofString "Base", Str.ofString "LCSSeq"]) mean mg mb h₀ → cs.kind = .function →
    SeqV news v1 x → SeqV news v2 y → x.length ≤ 5 → y.length ≤ 5 → dp + 1 < recursionLimit → un + 8 < cLine → CbRet h₀ L m news s Q (fun t => .str ⟨(told x y).toArray⟩ t) →
      codeAny (model PySem.Challenge.rw_fq5037_01.row.prog w) (ktrTop dp un gd cn cs L a ccd cl outer) (.call (.ref 203) ⟨[sv, v1, v2], []⟩) (fun r s' => match r with | .ok (.ret v) => Q v s' | .ok _ => False | .error e => E e s') s := by
  w_top off
  k_fill
  intro w mean mg mb x y sv v1 v2 news dp un gd cn cs a ccd cl outer A₀ base h₀ L m s Q E B F X N T hk hv1 hv2 hx hy hd hu ret
  k_dflt (refine' code_defC ?k1 ?k2 ?k3 ?k4 ?k5 ?kA ?kF ?kK ?k6 ?k7 ?k8 ?k9 ?kB ?kD ?_ ?c2 ?c3 ?c4; (case kA => exact rfl); (case kF => exact rfl); (case kK => assumption); (case k1 => k_asm); (case k2 => k_asm); (case k3 => k_asm); (case k4 => k_asm); (case k5 => k_asm); (case k6 => k_is); (case k7 => k_is); (case k8 => ktr_room); (case k9 => exact BindsTo.of_eq rfl); (case kB => exact rfl); (case kD => decide +kernel); (case c2 => exact rfl); (case c3 => exact rfl); (case c4 => exact rfl); k_whole; intro g' L' h' tk' cells' FG' F' N' Y' B' X' T' l1; (try k_lt l1); k_cells Y'; (try simp only [List.cons_append, List.nil_append] at N'); (try dsimp only); (try k_lift B'); (try k_fold))
  k_steps
  rename Fr _ _ _ _ => F₁
  rename News _ _ _ _ => N₁
  rename IsRange _ _ _ _ _ _ _ _ => R₁
  rename _ = Data.cell _ => hc
  rename Obj => oc
  replace hc : oc.data = .cell (some v2) := hc.trans rfl
  refine go (LCg.CompSrc.range (n := x.length + 1) rfl F₁ N₁ R₁ (small_one (by omega) (by omega) (by omega) (by omega)) (by rw [rangeSize_nat]; omega) (by rw [sizeLine_eq]; omega) ?_)
  intro g₂
  refine comp_rest (compJ (L' + 1) oc news (List.replicate (y.length + 1) 0)) ⟨[], rfl, rfl, .nil, fun _ h => nomatch h⟩ ?_ ?_
  · rintro i ys nw v I oI C oC D m₂ h tk E' hi hl ⟨rows, rfl, rfl, hnd, hr⟩ ⟨tv, rfl⟩ hC hm F₂ N₂ off ne
    k_steps
    rename Fr _ _ _ _ => F₃
    rename News _ _ _ _ => N₃
    rename IntsAre _ _ => i3
    rename _ < _ ∧ _ < _ ∧ _ < _ ∧ _ => l3
    have e0 : (List.replicate ((y.length : Int) + 1).toNat [(0 : Int)]).flatten = List.replicate (y.length + 1) 0 := by
      rw [show ((y.length : Int) + 1).toNat = y.length + 1 from by omega]; exact List.flatten_replicate_singleton
    rw [e0] at i3
    exact row_end F₃ N₃ l3 off hnd hr ⟨_, _, rfl, i3⟩
  · rintro ys nw hl ⟨rows, rfl, rfl, hnd, hr⟩
    k_steps
    rename Fr _ _ _ _ => F₃
    rename News _ _ _ _ => N₃
    rename _ ≠ _ ∧ LCg.Off1 _ _ => o3
    rename_i D₁ h₁ tk₁
    have hrl : rows.length = x.length + 1 := by rw [refs, List.length_map] at hl; exact hl
    have hmat : MatOK x y 0 0 rows := ⟨hrl, fun a q hq => by rw [rowL_start]; exact (hr q (List.mem_of_getElem? hq)).2⟩
    generalize hradr : rows.map (·.1) = radr at *
    have hrefs : refs rows = radr.map Value.ref := by rw [← hradr, refs, List.map_map]; rfl
    rw [hrefs] at N₃
    have hlow : ∀ b ∈ radr, L' + 1 < b := by
      intro b hb
      rw [← hradr] at hb
      obtain ⟨q, hq, rfl⟩ := List.mem_map.mp hb
      exact (hr q hq).1
    have hDr : ∀ b ∈ radr, b ≠ D₁ := by
      intro b hb
      rw [← hradr] at hb
      obtain ⟨q, hq, rfl⟩ := List.mem_map.mp hb
      exact off1_mem o3.2 q (List.mem_append_left _ hq)
    have hvX : ∀ (v : Value) (c : List Nat), SeqV news v c → ∀ l, v = .ref l → l ∉ radr := by
      rintro v c (⟨t, rfl⟩ | ⟨l, us, k, rfl, hm, _⟩) l' e hl'
      · cases e
      · cases e
        have h1 := l1 _ hm
        have h2 := hlow _ hl'
        exact absurd (Nat.lt_trans h1 (Nat.lt_of_succ_lt h2)) (Nat.lt_irrefl _)
    refine go (enum_loop (fun i => dJ x y D₁ (L' + 1) oc radr news [(Str.ofString "seq1", v1), (Str.ofString "lengths", .ref D₁)] i 0) radr rfl hv1 ?_ ?_ (hvX _ _ hv1) F₃ N₃ ?_ ?oturn ?odone)
    · intro p hp
      simp only [List.mem_cons, List.mem_append, hp, or_true]
    · intro b hb
      rw [List.map_cons, List.map_cons, List.map_append, hradr]
      exact .tail _ (.tail _ (List.mem_append_left _ hb))
    · exact ⟨rows, hmat, hradr, rfl, .cons rfl (.cons rfl .nil)⟩
    case oturn =>
      intro i ti tc m₁ nx h₂ tk₂ own hi hJ hadr hown F₄ N₄
      obtain ⟨rows', hmat', hradr', rfl, hm'⟩ := hJ
      replace F₄ := hm'.fr2 F₄
      dsimp only [ov] at F₄
      k_steps
      rename Fr _ _ _ _ => F₅
      rename News _ _ _ _ => N₅
      refine go (enum_loop (fun j => dJ x y D₁ (L' + 1) oc radr (news ++ own) [(Str.ofString "seq1", v1), (Str.ofString "lengths", .ref D₁), (Str.ofString "i", .int (i : Int) ti), (Str.ofString "char1", .str ⟨#[x.getD i 0]⟩ tc)] i j) radr rfl hv2 ?_ ?_ (hvX _ _ hv2) F₅
        (News.sub (l' := (D₁, LCg.lst (radr.map Value.ref)) :: (L' + 1, oc) :: (rows' ++ (news ++ own))) N₅ ?_) ?_ ?iturn ?idone)
      · intro p hp
        simp only [List.mem_cons, List.mem_append, hp, or_true, true_or]
      · intro b hb
        rw [List.map_cons, List.map_cons, List.map_append, hradr']
        exact .tail _ (.tail _ (List.mem_append_left _ hb))
      · intro p hp
        simp only [List.mem_cons, List.mem_append, or_assoc] at hp ⊢
        exact hp
      · exact ⟨rows', hmat', hradr', rfl, .cons rfl (.cons rfl (.cons rfl (.cons rfl .nil)))⟩
      case iturn =>
        intro j tj tcj m₂ nx₂ h₃ tk₃ own₂ hj hJ₂ hadr₂ hown₂ F₆ N₆
        obtain ⟨rows₂, hmat₂, hradr₂, rfl, hm₂⟩ := hJ₂
        replace F₆ := hm₂.fr2 F₆
        dsimp only [ov] at F₆
        obtain ⟨pre, ⟨r0, o0⟩, ⟨r1, o1⟩, post, rfl, hpl⟩ := split2 (l := rows₂) (i := i) (by rw [hmat₂.1]; omega)
        obtain ⟨us0, n0, ho0, hi0⟩ := hmat₂.2 i (r0, o0) (by rw [List.getElem?_append_right (by omega), hpl, Nat.sub_self]; rfl)
        obtain ⟨us1, n1, ho1, hi1⟩ := hmat₂.2 (i + 1) (r1, o1) (by rw [List.getElem?_append_right (by omega), hpl, Nat.add_sub_cancel_left]; rfl)
        dsimp only at ho0 ho1
        subst ho0 ho1
        have hre : radr = pre.map (·.1) ++ r0 :: r1 :: post.map (·.1) := by rw [← hradr₂, List.map_append]; rfl
        have hx0 : (radr.map Value.ref)[i]? = some (.ref r0) := by
          rw [hre, List.getElem?_map, List.getElem?_append_right (by rw [List.length_map]; omega), List.length_map, hpl, Nat.sub_self]; rfl
        have hx1 : (radr.map Value.ref)[i + 1]? = some (.ref r1) := by
          rw [hre, List.getElem?_map, List.getElem?_append_right (by rw [List.length_map]; omega), List.length_map, hpl, Nat.add_sub_cancel_left]; rfl
        have hr1 : r1 ∈ radr := by rw [hre]; exact List.mem_append_right _ (.tail _ (.head _))
        have hnd' := hnd
        rw [hre] at hnd'
        obtain ⟨_, hnd2, hnd3⟩ := List.nodup_append.mp hnd'
        obtain ⟨hnd4, hnd5⟩ := List.nodup_cons.mp hnd2
        obtain ⟨hnd6, _⟩ := List.nodup_cons.mp hnd5
        have h01 := neN (fun (e : r0 = r1) => hnd4 (e ▸ .head _))
        have hD1 := neN (fun (e : D₁ = r1) => hDr _ hr1 e.symm)
        have hc1 := neN (fun (e : L' + 1 = r1) => absurd (hlow _ hr1) (e ▸ Nat.lt_irrefl _))
        have hall : ∀ p ∈ pre ++ (post ++ (news ++ (own ++ own₂))), p.1 ≠ r1 := by
          intro p hp
          simp only [List.mem_append] at hp
          rcases hp with hp | hp | hp | hp | hp
          · exact hnd3 p.1 (List.mem_map.mpr ⟨p, hp, rfl⟩) r1 (.tail _ (.head _))
          · exact fun e => hnd6 (List.mem_map.mpr ⟨p, hp, e⟩)
          · have h1 := l1 _ hp
            have h2 := hlow _ hr1
            exact Nat.ne_of_lt (Nat.lt_trans h1 (Nat.lt_of_succ_lt h2))
          · exact fun e => hown p hp (e ▸ hr1)
          · exact fun e => hown₂ p hp (e ▸ hr1)
        have N₇ := News.sub (l' := (r0, listOf us0.toArray n0) :: (r1, listOf us1.toArray n1) :: (D₁, LCg.lst (radr.map Value.ref)) :: (L' + 1, oc) :: (pre ++ (post ++ (news ++ (own ++ own₂))))) N₆ (by
          intro p hp
          simp only [List.mem_cons, List.mem_append] at hp ⊢
          rcases hp with h | h | h | h | h | h | h | h | h <;> simp only [h, true_or, or_true])
        clear N₆
        k_steps
        · rename Fr _ _ _ _ => F₈
          rename News _ _ _ _ => N₈
          rename IntsAre _ _ => i8
          rename (_ == _) = true => he
          rw [← List.append_assoc news] at N₈
          refine fill_end F₈ N₈ i8 (by omega) ?_ hmat₂ hpl hradr₂ hradr' (.cons rfl (.cons rfl (.cons rfl (.cons rfl .nil))))
          rw [lcs_match (let_eq he), row_val (b := j) rfl (by omega) (.inl (Nat.le_refl _))]
        · rename Fr _ _ _ _ => F₈
          rename News _ _ _ _ => N₈
          rename IntsAre _ _ => i8
          rename (_ == _) = false => he
          rw [← List.append_assoc news] at N₈
          refine fill_end F₈ N₈ i8 (by omega) ?_ hmat₂ hpl hradr₂ hradr' (.cons rfl (.cons rfl (.cons rfl (.cons rfl .nil))))
          rw [lcs_no (let_ne he), row_val (k := (j : Int) + 1) (a := i) (b := j + 1) (by omega) (by omega) (.inl (Nat.le_refl _)), row_val (a := i + 1) (b := j) rfl (by omega) (.inr ⟨rfl, Nat.le_refl _⟩)]
          split <;> omega
      case idone =>
        intro m₂ nx₂ h₃ tk₃ hJ₂ hadr₂ F₆ N₆
        obtain ⟨rows₂, hmat₂, hradr₂, rfl, hm₂⟩ := hJ₂
        k_steps
        refine ⟨_, _, m₂, (D₁, LCg.lst (radr.map Value.ref)) :: (L' + 1, oc) :: (rows₂ ++ news), rfl, F₆, News.sub N₆ ?_, ?_, ⟨rows₂, mat_turn hmat₂, hradr₂, rfl, Has.left (a := [_, _]) hm₂⟩⟩
        · intro p hp
          simp only [List.mem_cons, List.mem_append, or_assoc] at hp ⊢
          exact hp
        · rw [List.map_cons, List.map_cons, List.map_append, hradr₂, List.map_cons, List.map_cons, List.map_append, hradr]
    case odone =>
      intro m₁ nx h₂ tk₂ hJ hadr F₄ N₄
      obtain ⟨rows', hmat', hradr', rfl, hm'⟩ := hJ
      replace F₄ := hm'.fr F₄
      dsimp only [ov] at F₄
      k_steps
      rename Fr _ _ _ _ => F₅
      rename News _ _ _ _ => N₅
      refine go (While_inv (n₀ := x.length + y.length) (wJ x y v1 D₁ ((D₁, LCg.lst (radr.map Value.ref)) :: (L' + 1, oc) :: (rows' ++ news))) F₅ (News.sub N₅ (fun p hp => .tail _ hp)) ?wj0 ?wturn ?whE)
      case whE => with_unfolding_all passes_own
      case wj0 =>
        exact ⟨x.length, y.length, _, _, [], _, _, _, rfl, Nat.le_refl _, Nat.le_refl _, rfl, rfl, rfl, by rw [List.length_nil]; omega, rfl, .cons rfl (.cons rfl (.cons rfl (.cons rfl (.cons rfl .nil))))⟩
      case wturn =>
        intro n m₂ nx₂ h₃ tk₃ F₆ N₆ hJ₂
        obtain ⟨a', b', ia, ib, r, t1, t2, t3, hn, hax, hby, hia, hib, hrow, hrl', rfl, hm₂⟩ := hJ₂
        replace F₆ := hm₂.fr F₆
        dsimp only [ov] at F₆
        by_cases ha0 : a' = 0
        · subst ha0
          obtain rfl : ia = 0 := by omega
          k_steps
          all_goals (rename Fr _ _ _ _ => F₉; rename News _ _ _ _ => N₉)
          rw [greedy_zero] at hrow
          rw [← hrow] at ret
          exact ret t3 _ _ F₉ (News.sub N₉ (fun p hp => .tail _ (.tail _ (List.mem_append_right _ hp))))
        · by_cases hb0 : b' = 0
          · subst hb0
            obtain rfl : ib = 0 := by omega
            k_steps
            all_goals (rename Fr _ _ _ _ => F₉; rename News _ _ _ _ => N₉)
            · rw [greedy_zero'] at hrow
              rw [← hrow] at ret
              exact ret t3 _ _ F₉ (News.sub N₉ (fun p hp => .tail _ (.tail _ (List.mem_append_right _ hp))))
            · exfalso
              omega
          · obtain ⟨a', rfl⟩ : ∃ k, a' = k + 1 := ⟨a' - 1, by omega⟩
            obtain ⟨b', rfl⟩ : ∃ k, b' = k + 1 := ⟨b' - 1, by omega⟩
            obtain ⟨pre, ⟨r0, o0⟩, ⟨r1, o1⟩, post, hsp, hpl⟩ := split2 (l := rows') (i := a') (by rw [hmat'.1]; omega)
            obtain ⟨us0, n0, ho0, hi0⟩ := hmat'.2 a' (r0, o0) (by rw [hsp, List.getElem?_append_right (by omega), hpl, Nat.sub_self]; rfl)
            obtain ⟨us1, n1, ho1, hi1⟩ := hmat'.2 (a' + 1) (r1, o1) (by rw [hsp, List.getElem?_append_right (by omega), hpl, Nat.add_sub_cancel_left]; rfl)
            dsimp only at ho0 ho1
            subst ho0 ho1
            have hre : radr = pre.map (·.1) ++ r0 :: r1 :: post.map (·.1) := by rw [← hradr', hsp, List.map_append]; rfl
            have hx0 : (radr.map Value.ref)[(ia - 1).toNat]? = some (.ref r0) := by
              rw [show (ia - 1).toNat = a' from by omega, hre, List.getElem?_map, List.getElem?_append_right (by rw [List.length_map]; omega), List.length_map, hpl, Nat.sub_self]; rfl
            have hx1 : (radr.map Value.ref)[ia.toNat]? = some (.ref r1) := by
              rw [show ia.toNat = a' + 1 from by omega, hre, List.getElem?_map, List.getElem?_append_right (by rw [List.length_map]; omega), List.length_map, hpl, Nat.add_sub_cancel_left]; rfl
            have N₇ := News.sub (l' := (r0, listOf us0.toArray n0) :: (r1, listOf us1.toArray n1) :: (D₁, LCg.lst (radr.map Value.ref)) :: (L' + 1, oc) :: (rows' ++ news)) N₆ (by
              intro p hp
              rcases List.mem_cons.mp hp with rfl | hp
              · exact .tail _ (.tail _ (List.mem_append_left _ (by rw [hsp]; exact List.mem_append_right _ (.head _))))
              · rcases List.mem_cons.mp hp with rfl | hp
                · exact .tail _ (.tail _ (List.mem_append_left _ (by rw [hsp]; exact List.mem_append_right _ (.tail _ (.head _)))))
                · exact hp)
            have hsz : (⟨#[x.getD a' 0]⟩ : Str).length + (⟨r.toArray⟩ : Str).length ≤ sizeLine := by
              show (#[x.getD a' 0] : Array Nat).size + r.toArray.size ≤ sizeLine
              rw [sizeLine_eq]
              simp
              omega
            k_steps
            all_goals (try (exfalso; omega))
            · rename Fr _ _ _ _ => F₈
              rename News _ _ _ _ => N₈
              rename List.getD _ _ _ = List.getD _ _ _ => he
              rw [row_val (b := b' + 1) hib (by omega) (.inl (by omega)), row_val (b := b' + 1) hib (by omega) (.inl (by omega))] at he
              refine WhileStep.intro (n' := a' + (b' + 1)) F₈ (News.sub N₈ (fun p hp => .tail _ (.tail _ hp))) (by omega) ⟨a', b' + 1, _, _, r, _, _, _, rfl, by omega, by omega, (by omega : ia - 1 = (a' : Int)), hib, ?_, by omega, rfl, .cons rfl (.cons rfl (.cons rfl (.cons rfl (.cons rfl .nil))))⟩
              rw [greedy_succ, if_pos (by omega)] at hrow
              exact hrow
            · rename Fr _ _ _ _ => F₈
              rename News _ _ _ _ => N₈
              rename List.getD _ _ _ = List.getD _ _ _ => he
              rename List.getD _ _ _ ≠ List.getD _ _ _ => hn1
              rw [row_val (b := b' + 1) hib (by omega) (.inl (by omega)), row_val (b := b') (by omega) (by omega) (.inl (by omega))] at he
              rw [row_val (b := b' + 1) hib (by omega) (.inl (by omega)), row_val (b := b' + 1) hib (by omega) (.inl (by omega))] at hn1
              refine WhileStep.intro (n' := (a' + 1) + b') F₈ (News.sub N₈ (fun p hp => .tail _ (.tail _ hp))) (by omega) ⟨a' + 1, b', _, _, r, _, _, _, rfl, by omega, by omega, hia, (by omega : ib - 1 = (b' : Int)), ?_, by omega, rfl, .cons rfl (.cons rfl (.cons rfl (.cons rfl (.cons rfl .nil))))⟩
              rw [greedy_succ, if_neg (by omega), if_pos (by omega)] at hrow
              exact hrow
            · rename _ ≠ (rowL x y x.length 0 a').getD _ _ => hn1
              rename _ ≠ (rowL x y x.length 0 (a' + 1)).getD _ _ => hn2
              rw [row_val (b := b' + 1) hib (by omega) (.inl (by omega)), row_val (b := b' + 1) hib (by omega) (.inl (by omega))] at hn1
              rw [row_val (b := b' + 1) hib (by omega) (.inl (by omega)), row_val (b := b') (by omega) (by omega) (.inl (by omega))] at hn2
              obtain ⟨hmt, _⟩ := greedy_match (x := x) (y := y) (t := a') (s := b') (by omega) (by omega)
              have he1 : x.getD (ia - 1).toNat 0 = x.getD a' 0 := by rw [show (ia - 1).toNat = a' from by omega]
              have he2 : y.getD (ib - 1).toNat 0 = x.getD a' 0 := by rw [show (ib - 1).toNat = b' from by omega, ← hmt]
              have hM : Mark 0 := ⟨⟩
              refine go ?_
              k_steps
              · rename Fr _ _ _ _ => F₈
                rename News _ _ _ _ => N₈
                refine WhileStep.intro (n' := a' + b') F₈ (News.sub N₈ (fun p hp => .tail _ (.tail _ hp))) (by omega) ⟨a', b', _, _, x.getD a' 0 :: r, _, _, _, rfl, by omega, by omega, (by omega : ia - 1 = (a' : Int)), (by omega : ib - 1 = (b' : Int)), ?_, by rw [List.length_cons]; omega, rfl,
                  .cons rfl (.cons rfl (.cons rfl (.cons rfl (.cons (Eq.trans (b := some (Value.str (⟨#[x.getD a' 0]⟩ ++ ⟨r.toArray⟩) _)) rfl (by rw [str_cons])) .nil))))⟩
                rw [greedy_succ, if_neg (by omega), if_neg (by omega)] at hrow
                exact hrow
              · exfalso
                rename (_ == _) = false => hf
                exact absurd hf (by simp)
theorem dyn_spec : ∀ (w : World) (mean : ExcName → Option Value) (mg mb : Str → Option Value) (x y : List Nat) (sv v1 v2 : Value) (news : List (Addr × Obj)) (dp un : Nat) (gd : Option (List Code)) (cn : Str) (cs : Scope) (a : Addr) (ccd : Value) (cl : List (Str × Addr)) (outer : List Env) (A₀ : Around) (base h₀ : Heap) (L : Addr) (m : Str → Option Value) (s : Shared) (Q E : Value → Shared → Prop),
    Below A₀ base outer h₀ → Fr h₀ L s.heap m → (PySem.Mine.hd01.heap_39 w.params).In h₀ → News h₀ L s.heap news → Top PySem.Mine.hd01.view_39 (looseW PySem.Mine.hd01.view_39 [Str.ofString "Base", Str.ofString "LCSSeq"]) mean mg mb h₀ → cs.kind = .function →
    SeqV news v1 x → SeqV news v2 y → x.length ≤ 5 → y.length ≤ 5 → dp + 1 < recursionLimit → un + 8 < cLine → CbRet h₀ L m news s Q (fun t => .str ⟨(told x y).toArray⟩ t) →
      wpAny (model PySem.Challenge.rw_fq5037_01.row.prog w) (ktrTop dp un gd cn cs L a ccd cl outer) (call (.ref 203) [sv, v1, v2]) Q E s :=
  fun w mean mg mb x y sv v1 v2 news dp un gd cn cs a ccd cl outer A₀ base h₀ L m s Q E B F X N T hk hv1 hv2 hx hy hd hu ret =>
    wpAny_call (dyn_code w mean mg mb x y sv v1 v2 news dp un gd cn cs a ccd cl outer A₀ base h₀ L m s Q E B F X N T hk hv1 hv2 hx hy hd hu ret)
end Mine

namespace Mine
open PySem PySem.W PyProof.Rows PySem.Calls

theorem mp_mro : mroOf (.type "map") = pure [.type "map", .type "object"] := by rw [mroOf_type]; kernel_rfl
theorem mp_lookup_new : typeLookup (.type "map") "__new__" = pure (some (.builtin "map.__new__")) := by rw [typeLookup_type, builtinLookup_eq_fast]; kernel_rfl
theorem mp_slot_init : Slot "map" "__init__" "object.__init__" :=
  .of (owner := "object") (n := "__init__") (by rw [typeLookup_type, builtinLookup_eq_fast]; kernel_rfl) (by decide +kernel) (by decide +kernel) (by decide +kernel)
    (by first | exact .inl (by decide +kernel) | exact .inr (by decide +kernel)) (by rw [isSubtype_type]; kernel_rfl)
theorem mp_slot_next : Slot "map" "__next__" "map.__next__" :=
  .of (owner := "map") (n := "__next__") (by rw [typeLookup_type, builtinLookup_eq_fast]; kernel_rfl) (by decide +kernel) (by decide +kernel) (by decide +kernel)
    (by first | exact .inl (by decide +kernel) | exact .inr (by decide +kernel)) (by rw [isSubtype_type]; kernel_rfl)
theorem mp_slot_iter : Slot "map" "__iter__" "map.__iter__" :=
  .of (owner := "map") (n := "__iter__") (by rw [typeLookup_type, builtinLookup_eq_fast]; kernel_rfl) (by decide +kernel) (by decide +kernel) (by decide +kernel)
    (by first | exact .inl (by decide +kernel) | exact .inr (by decide +kernel)) (by rw [isSubtype_type]; kernel_rfl)
theorem mp_called : TypeCalled "map" "map.__new__" "object.__init__" :=
  ⟨by decide +kernel, by decide +kernel, ⟨_, _, mp_mro⟩, madeBy_type mp_mro mp_lookup_new (by decide +kernel), by decide +kernel, by rw [isSubtype_type]; kernel_rfl, mp_slot_init⟩
theorem mp_typeCall (a b : Value) : checkTypeCall "map" ⟨[a, b], []⟩ = pure () := by kernel_rfl
theorem mp_newCall (a b : Value) : checkBuiltinCall "map.__new__" ⟨[.type "map", a, b], []⟩ = pure () := by kernel_rfl
theorem mp_entry_new : entryFor table "map.__new__" = some Builtin.«map.__new__» := entryFor_of_tree (by kernel_rfl)
theorem mp_entry_next : entryFor table "map.__next__" = some Builtin.«map.__next__» := entryFor_of_tree (by kernel_rfl)
theorem mp_entry_iter : entryFor table "map.__iter__" = some Builtin.«dict_keyiterator.__iter__» :=
  entryFor_alias (id' := "dict_keyiterator.__iter__") (by kernel_rfl) (by first | rfl | decide +kernel | (unfold String.splitOn; simp +decide [String.splitOnAux])) (by decide +kernel) (by kernel_rfl)
theorem mp_args_init (a b c : Value) : argsOk "object.__init__" ⟨[a, b, c], []⟩ := by
  unfold argsOk; rw [signature?_of (id := "object.__init__") (n := ['_', '_', 't', 'i', 'n', 'i', '_', '_']) (o := ['t', 'c', 'e', 'j', 'b', 'o']) (by kernel_rfl) F.owner_object]; kernel_rfl
theorem mp_owner : Manifest.owners.lookup (String.ofList ['p', 'a', 'm'].reverse) = some Manifest.sig_map := by kernel_rfl
theorem mp_args_next (a : Value) : argsOk "map.__next__" ⟨[a], []⟩ := by
  unfold argsOk; rw [signature?_of (id := "map.__next__") (n := ['_', '_', 't', 'x', 'e', 'n', '_', '_']) (o := ['p', 'a', 'm']) (by kernel_rfl) mp_owner]; kernel_rfl
theorem mp_args_iter (a : Value) : argsOk "map.__iter__" ⟨[a], []⟩ := by
  unfold argsOk; rw [signature?_of (id := "map.__iter__") (n := ['_', '_', 'r', 'e', 't', 'i', '_', '_']) (o := ['p', 'a', 'm']) (by kernel_rfl) mp_owner]; kernel_rfl
end Mine

namespace Mine
open PySem PySem.W PyProof.Rows PySem.Calls


section
variable {prog : Program} {w : World} {A : Around} {E : Value → Shared → Prop} {s : Shared}
theorem mp_draw {it t : Addr} {i : Nat} {items : Array Value} {x : Value} {Q : Value → Shared → Prop} (hit : s.heap.IsTupleIter it t i) (ht : s.heap.IsTuple t items) (hx : items[i]? = some x)
    (hQ : ∀ h', h'.IsTupleIter it t (i + 1) → Heap.SameBut it s.heap h' → Q x { s with heap := h' }) : wpAny (model prog w) A (Builtin.SmallTypes.nextOf (.ref it)) Q E s := by
  obtain ⟨o, ho, hc, hd⟩ := id hit
  obtain ⟨ol, hol, _, nl, hdl⟩ := ht
  unfold Builtin.SmallTypes.nextOf
  refine wpAny_bind (wpAny_callSpecial?_slot (name := Str.ofString "__next__") hit.typeIs F.slot_tuple_iterator_next
    (wpAny_call_entry F.slot_tuple_iterator_next hit.typeIs F.entry_tuple_iterator_next ?_ (F.args_tuple_iterator_next_1 _)))
  show wpAny _ _ (field (.ref it) 0 >>= _) _ _ s
  refine wpAny_bind (wpAny_field ho hd (x := .ref t) rfl ?_)
  show wpAny _ _ (if (Value.ref t == Value.none) = true then _ else _) _ _ s
  rw [if_neg (show ¬ ((Value.ref t == Value.none) = true) from Bool.false_ne_true)]
  show wpAny _ _ (field (.ref it) 1 >>= _) _ _ s
  refine wpAny_bind (wpAny_field ho hd (x := .int i 0) rfl ?_)
  show wpAny _ _ (seqItems? (.ref t) >>= _) _ _ s
  refine wpAny_bind (wpAny_seqItems hol hdl ?_)
  simp only [Int.toNat_natCast, hx]
  refine wpAny_bind (wpAny_setField ho hd (by simp) (wpAny_pure ⟨x, rfl, wpAny_pure (hQ _ ?_ (Heap.SameBut.update ..))⟩))
  exact ⟨_, Heap.get?_update_self _ ho (Obj.isFreed_of_fields (Obj.data_mapFields hd _)), (Obj.cls_mapFields ..).trans hc, by
    rw [Obj.data_mapFields hd]; simp [rawInt]⟩
theorem mp_end {it t : Addr} {i : Nat} {items : Array Value} {Q : Value → Shared → Prop} (hh : A.handled = none) (hit : s.heap.IsTupleIter it t i) (ht : s.heap.IsTuple t items) (hx : items[i]? = none)
    (hE : ∀ h' e, Heap.ExtBut it s.heap h' → (∃ o, h'.get? e = some o ∧ o.cls = .type "StopIteration") → E (.ref e) { s with heap := h' }) : wpAny (model prog w) A (Builtin.SmallTypes.nextOf (.ref it)) Q E s := by
  obtain ⟨o, ho, hc, hd⟩ := id hit
  obtain ⟨ol, hol, _, nl, hdl⟩ := ht
  unfold Builtin.SmallTypes.nextOf
  refine wpAny_bind (wpAny_callSpecial?_slot (name := Str.ofString "__next__") hit.typeIs F.slot_tuple_iterator_next
    (wpAny_call_entry F.slot_tuple_iterator_next hit.typeIs F.entry_tuple_iterator_next ?_ (F.args_tuple_iterator_next_1 _)))
  show wpAny _ _ (field (.ref it) 0 >>= _) _ _ s
  refine wpAny_bind (wpAny_field ho hd (x := .ref t) rfl ?_)
  show wpAny _ _ (if (Value.ref t == Value.none) = true then _ else _) _ _ s
  rw [if_neg (show ¬ ((Value.ref t == Value.none) = true) from Bool.false_ne_true)]
  show wpAny _ _ (field (.ref it) 1 >>= _) _ _ s
  refine wpAny_bind (wpAny_field ho hd (x := .int i 0) rfl ?_)
  show wpAny _ _ (seqItems? (.ref t) >>= _) _ _ s
  refine wpAny_bind (wpAny_seqItems hol hdl ?_)
  simp only [Int.toNat_natCast, hx]
  refine wpAny_bind (wpAny_rule (wpAny_bind (wpAny_setField ho hd (by simp) ?_)))
  show wpAny _ _ (newExc (.type "StopIteration") [] >>= _) _ _ _
  refine wpAny_bind ?_
  simp only [newExc, newTuple]
  refine wpAny_bind (wpAny_newObj_type ?_ (by size_fits))
  refine wpAny_bind (m := firstArgMember _ _) (wpAny_of_eq (a := Value.none) (by first | rfl | (simp only [firstArgMember]; rfl)) ?_)
  refine wpAny_newObj_type ?_ (by size_fits)
  simp only [raiseNew]
  refine wpAny_bind (wpAny_handled ?_)
  first | rw [show A.in1.handled = none from hh] | rw [hh]
  refine wpAny_bind (wpAny_pure (wpAny_throw ?_))
  exact hE _ _ (((Heap.SameBut.update ..).extBut.push _).push _) ⟨_, Heap.get?_push_size _ rfl, rfl⟩
end

abbrev IsMapO (h : Heap) (m T : Addr) (f : Value) : Prop := h.get? m = some { cls := .type "map", dict := none, data := .fields #[.ref T, f], slots := #[] }
abbrev mpIt (t : Addr) : Obj := { cls := .type "tuple_iterator", data := .fields #[.ref t, .int 0 0] }
theorem sub_map : isSubtype (.type "map") (.type "map") = pure true := by rw [isSubtype_type]; kernel_rfl
theorem meets_map_new (t : Addr) (f : Value) (items : Array Value) (n : Nat) :
    Meets (Builtin.«map.__new__» ⟨[.type "map", f, .ref t], []⟩) (fun _ R s => s.heap.get? t = some { cls := .type "tuple", dict := none, data := .seq items n, slots := #[] } ∧
      R (.ok (.ret (.ref ((s.heap.push (mpIt t)).push { cls := .type "tuple", data := .seq #[.ref s.heap.objs.size] }).objs.size)))
        { s with heap := ((s.heap.push (mpIt t)).push { cls := .type "tuple", data := .seq #[.ref s.heap.objs.size] }).push { cls := .type "map", data := .fields #[.ref (s.heap.push (mpIt t)).objs.size, f] } }) :=
  .of_wp fun prog w A R s h => by
    obtain ⟨hp, g, d, tk, os⟩ := s; obtain ⟨hl, h⟩ := h
    have hsub := sub_map
    have hL : Heap.IsTuple (Shared.heap ⟨hp, g, d, tk, os⟩) t items := ⟨_, hl, rfl, n, rfl⟩
    wp_walk using PySem.AutoSeq1.wpAny_loadPart' hl, wpAny_pyIter_tuple hL
    exact ⟨_, rfl, h⟩

/-- what a call of f tells of each item, the heap standing -/
def MpCall (prog : Program) (w : World) (A : Around) (f : Value) (items : Array Value) (ns : Nat → Int) (Inv : Heap → Prop) : Prop :=
  ∀ i x (s : Shared) (Q : Value → Shared → Prop) (E : Value → Shared → Prop), items[i]? = some x → Inv s.heap → (∀ tk t, Q (.int (ns i) t) { s with toks := tk }) → wpAny (model prog w) A (call f [x]) Q E s
section
variable {prog : Program} {w : World} {A : Around} {E : Value → Shared → Prop} {s : Shared}
theorem map_next_item {m T it t : Addr} {f : Value} {i : Nat} {items : Array Value} {ns : Nat → Int} {Inv : Heap → Prop} {Q : Value → Shared → Prop} (C : MpCall prog w A f items ns Inv) (hm : IsMapO s.heap m T f) (hT : s.heap.get? T = some { cls := .type "tuple", data := .seq #[.ref it] })
    (hit : s.heap.IsTupleIter it t i) (ht : s.heap.IsTuple t items) (hlt : i < items.size) (hmi : m ≠ it) (hInv : ∀ h', Heap.SameBut it s.heap h' → Inv h')
    (hQ : ∀ h' tk u, h'.IsTupleIter it t (i + 1) → Heap.SameBut it s.heap h' → Q (.int (ns i) u) { s with heap := h', toks := tk }) :
    wpAny (model prog w) A (Builtin.«map.__next__» ⟨[.ref m], []⟩) (fun fin s' => ∃ v, fin = .done (.ret v) ∧ Q v s') E s := by
  show wpAny _ _ (field (.ref m) 0 >>= _) _ _ _
  refine wpAny_bind (wpAny_field hm rfl (x := .ref T) rfl ?_)
  show wpAny _ _ (seqItems? (.ref T) >>= _) _ _ _
  refine wpAny_bind (wpAny_seqItems hT rfl ?_)
  simp only [← Array.forIn_toList, List.forIn_cons, List.forIn_nil, pure_bind, bind_assoc]
  refine wpAny_bind (wpAny_holding (mp_draw hit ht (x := items[i]) (by simp [hlt]) fun h₁ hit₁ hs₁ => ?_))
  have hm₁ : IsMapO h₁ m T f := (hs₁.2 m hmi).trans hm
  show wpAny _ _ (field (.ref m) 1 >>= _) _ _ _
  refine wpAny_bind (wpAny_field hm₁ rfl (x := f) rfl ?_)
  refine wpAny_bind (wpAny_holding (C i items[i] _ _ _ (by simp [hlt]) (hInv _ hs₁) fun tk u => ?_))
  refine wpAny_bind (wpAny_letGo (wpAny_pure ⟨_, rfl, ?_⟩))
  exact hQ h₁ tk u hit₁ hs₁
theorem map_next_end {m T it t : Addr} {f : Value} {items : Array Value} {Q : Option Value → Shared → Prop} (hh : A.handled = none) (hm : IsMapO s.heap m T f) (hT : s.heap.get? T = some { cls := .type "tuple", data := .seq #[.ref it] })
    (hit : s.heap.IsTupleIter it t items.size) (ht : s.heap.IsTuple t items) (hQ : ∀ h', Heap.ExtBut it s.heap h' → Q none { s with heap := h' }) : wpAny (model prog w) A (pyNext (.ref m)) Q E s := by
  have hTm : s.TypeIs (.ref m) "map" := ⟨_, hm, rfl⟩
  unfold pyNext
  refine wpAny_bind (wpAny_attempt (wpAny_callSpecial?_slot (name := Str.ofString "__next__") hTm mp_slot_next
    (wpAny_call_entry mp_slot_next hTm mp_entry_next ?_ (mp_args_next _))))
  show wpAny _ _ (field (.ref m) 0 >>= _) _ _ _
  refine wpAny_bind (wpAny_field hm rfl (x := .ref T) rfl ?_)
  show wpAny _ _ (seqItems? (.ref T) >>= _) _ _ _
  refine wpAny_bind (wpAny_seqItems hT rfl ?_)
  simp only [← Array.forIn_toList, List.forIn_cons, List.forIn_nil, pure_bind, bind_assoc]
  refine wpAny_bind (wpAny_holding (mp_end hh hit ht (by simp) fun h' x he' hx' => ?_))
  obtain ⟨o, ho, hc⟩ := hx'
  refine wpAny_bind (wpAny_isInstance (T := "StopIteration") (b := true) ⟨o, ho, hc⟩ isSubtype_stop ?_)
  exact wpAny_pure (hQ _ he')
theorem map_iter {m T : Addr} {f : Value} {Q : Value → Shared → Prop} (hm : IsMapO s.heap m T f) (h : Q (.ref m) s) : wpAny (model prog w) A (pyIter (.ref m)) Q E s := by
  have hT : s.TypeIs (.ref m) "map" := ⟨_, hm, rfl⟩
  refine wpAny_pyIter_slot hT mp_slot_iter (wpAny_call_entry mp_slot_iter hT mp_entry_iter ?_ (mp_args_iter _))
  show wpAny _ _ (ret (.ref m)) _ _ s
  exact wpAny_pure ⟨_, rfl, "map", _, hT, mp_slot_next.lookup, h⟩
theorem call_map {t : Addr} {f : Value} {items : Array Value} {n : Nat} {Q : Value → Shared → Prop} (ht : s.heap.get? t = some { cls := .type "tuple", dict := none, data := .seq items n, slots := #[] })
    (h : ∀ h', IsMapO h' (s.heap.objs.size + 2) (s.heap.objs.size + 1) f → h'.get? (s.heap.objs.size + 1) = some { cls := .type "tuple", data := .seq #[.ref s.heap.objs.size] } → h'.get? s.heap.objs.size = some (mpIt t) →
      h'.objs.size = s.heap.objs.size + 3 → (∀ b o, s.heap.get? b = some o → h'.get? b = some o) → Q (.ref (s.heap.objs.size + 2)) { s with heap := h' }) :
    wpAny (model prog w) A (call (.type "map") [f, .ref t]) Q E s := by
  refine callType_new mp_called (by decide) (mp_typeCall _ _) (mp_newCall _ _) (fun obj => mp_args_init obj _ _) mp_entry_new (meets_map_new t f items n) ⟨ht, ?_⟩
  have z1 : (s.heap.push (mpIt t)).objs.size = s.heap.objs.size + 1 := Heap.size_push ..
  have z2 : ((s.heap.push (mpIt t)).push { cls := .type "tuple", data := .seq #[.ref s.heap.objs.size] }).objs.size = s.heap.objs.size + 2 := by rw [Heap.size_push, z1]
  show _ ∧ _
  rw [z2, z1]
  have hm : IsMapO (((s.heap.push (mpIt t)).push { cls := .type "tuple", data := .seq #[.ref s.heap.objs.size] }).push { cls := .type "map", data := .fields #[.ref (s.heap.objs.size + 1), f] }) (s.heap.objs.size + 2) (s.heap.objs.size + 1) f := by
    have := Heap.get?_push_size ((s.heap.push (mpIt t)).push { cls := .type "tuple", data := .seq #[.ref s.heap.objs.size] }) (o := { cls := .type "map", data := .fields #[.ref (s.heap.objs.size + 1), f] }) rfl
    rw [z2] at this
    exact this
  refine ⟨⟨_, hm, rfl⟩, h _ hm ?_ ?_ ?_ fun b o e => Heap.get?_push_of_some _ (Heap.get?_push_of_some _ (Heap.get?_push_of_some _ e))⟩
  · refine Heap.get?_push_of_some _ ?_
    have := Heap.get?_push_size (s.heap.push (mpIt t)) (o := { cls := .type "tuple", data := .seq #[.ref s.heap.objs.size] }) rfl
    rw [z1] at this
    exact this
  · exact Heap.get?_push_of_some _ (Heap.get?_push_of_some _ (Heap.get?_push_size _ rfl))
  · rw [Heap.size_push, z2]
theorem map_walks {M T it t : Addr} {f : Value} {items : Array Value} {ns : Nat → Int} {Inv : Heap → Prop} {fp : List Addr} (hh : A.handled = none) (C : MpCall prog w A.in1 f items ns Inv) (hmi : M ≠ it) (hTi : T ≠ it) (hti : t ≠ it) (hfp : it ∉ fp)
    (hInv : ∀ h h', Inv h → (∀ b ∈ fp, ∀ o, h.get? b = some o → h'.get? b = some o) → Inv h') :
    Walks prog w A M (M :: T :: it :: t :: fp) [it] items.size (fun i v => ∃ u, v = .int (ns i) u)
      (fun i h => IsMapO h M T f ∧ h.get? T = some { cls := .type "tuple", data := .seq #[.ref it] } ∧ h.IsTupleIter it t i ∧ h.IsTuple t items ∧ Inv h) where
  sub := fun b hb => by rw [List.mem_singleton.mp hb]; exact .tail _ (.tail _ (.head _))
  frame := fun i h h' st hk => ⟨hk _ (.head _) _ st.1, hk _ (.tail _ (.head _)) _ st.2.1, st.2.2.1.at fun o e => hk _ (.tail _ (.tail _ (.head _))) o e, st.2.2.2.1.at fun o e => hk _ (.tail _ (.tail _ (.tail _ (.head _)))) o e,
    hInv _ _ st.2.2.2.2 fun b hb o e => hk b (.tail _ (.tail _ (.tail _ (.tail _ hb)))) o e⟩
  item := fun i s Q E hi st hQ => by
    obtain ⟨hm, hT, hit, ht, hI⟩ := st
    have hTm : s.TypeIs (.ref M) "map" := ⟨_, hm, rfl⟩
    have keep : ∀ h', Heap.SameBut it s.heap h' → Inv h' := fun h' hs => hInv _ _ hI fun b hb o e => hs.extBut b o (fun q => hfp (q ▸ hb)) e
    unfold pyNext
    refine wpAny_bind (wpAny_attempt (wpAny_callSpecial?_slot (name := Str.ofString "__next__") hTm mp_slot_next
      (wpAny_call_entry mp_slot_next hTm mp_entry_next (map_next_item C hm hT hit ht hi hmi keep fun h' tk u hit' hs => wpAny_pure ?_) (mp_args_next _))))
    exact hQ _ h' tk ⟨u, rfl⟩ ⟨(hs.2 _ hmi).trans hm, (hs.2 _ hTi).trans hT, hit', ht.extBut hs.extBut hti, keep _ hs⟩ fun b o hb e => hs.extBut b o (fun q => hb (List.mem_singleton.mpr q)) e
  done := fun s Q E st hQ => by
    obtain ⟨hm, hT, hit, ht, hI⟩ := st
    exact map_next_end hh hm hT hit ht fun h' he => hQ h' s.toks fun b o hb e => he b o (fun q => hb (List.mem_singleton.mpr q)) e
  self := fun _ _ _ _ st hQ => map_iter st.1 hQ
end
end Mine

namespace Mine
open PySem PySem.W PyProof.Rows PySem.Calls

abbrev mpO (T : Addr) (f : Value) : Obj := { cls := .type "map", dict := none, data := .fields #[.ref T, f], slots := #[] }
abbrev mpT (I : Addr) : Obj := { cls := .type "tuple", data := .seq #[.ref I] }
section
variable {prog : Program} {w : World} {A : Around} {E : Value → Shared → Prop} {s : Shared} {h₀ : Heap} {L t : Addr} {m : Str → Option Value} {news led : List (Addr × Obj)}
theorem map_K {f : Value} {items : Array Value} {n : Nat} {Q : Value → Shared → Prop} (F : Fr h₀ L s.heap m) (N : News h₀ L s.heap news) (ht : (t, ({ cls := .type "tuple", data := .seq items n } : Obj)) ∈ news)
    (h : ∀ I h', Fr h₀ L h' m → News h₀ L h' ((I + 2, mpO (I + 1) f) :: (I + 1, mpT I) :: (I, mpIt t) :: news) → (∀ p ∈ news, p.1 < I) → Q (.ref (I + 2)) { s with heap := h' }) :
    wpAny (model prog w) A (call (.type "map") [f, .ref t]) Q E s := by
  have hLs : L < s.heap.objs.size := F.ns.lt
  have n0 : ∀ a, s.heap.objs.size ≤ a → h₀.get? a = none := fun a ha => Heap.get?_none_of_le (Nat.le_trans F.above (Nat.le_trans (Nat.le_of_lt hLs) ha))
  refine call_map (N _ ht).1 fun h' hm hT hI hz hk => h s.heap.objs.size h' ⟨F.ns.keeps hk, fun b o e => hk b o (F.keep b o e), F.above⟩ ?_ fun p hp => Heap.lt_size (N p hp).1
  intro p hp
  rcases List.mem_cons.mp hp with rfl | hp
  · exact ⟨hm, Nat.ne_of_gt (Nat.lt_add_right 2 hLs), n0 _ (Nat.le_add_right _ 2)⟩
  rcases List.mem_cons.mp hp with rfl | hp
  · exact ⟨hT, Nat.ne_of_gt (Nat.lt_add_right 1 hLs), n0 _ (Nat.le_add_right _ 1)⟩
  rcases List.mem_cons.mp hp with rfl | hp
  · exact ⟨hI, Nat.ne_of_gt hLs, n0 _ (Nat.le_refl _)⟩
  · exact ⟨hk _ _ (N p hp).1, (N p hp).2⟩

theorem max_K {I : Addr} {nv : List (Addr × Obj)} {v1 v2 : Value} {x y : List Nat} {n : Nat} {Q : Value → Shared → Prop} (hh : A.handled = none) (F : Fr h₀ L s.heap m)
    (N : News h₀ L s.heap ((I + 2, mpO (I + 1) (.builtin "len")) :: (I + 1, mpT I) :: (I, mpIt t) :: news)) (ht : (t, ({ cls := .type "tuple", data := .seq #[v1, v2] n } : Obj)) ∈ news) (hlt : ∀ p ∈ news, p.1 < I)
    (hv1 : SeqV nv v1 x) (hv2 : SeqV nv v2 y) (hs : ∀ p ∈ nv, p ∈ news) (hx : x.length < 2 ^ 20) (hy : y.length < 2 ^ 20)
    (h : ∀ h' tk u, Fr h₀ L h' m → News h₀ L h' news → Q (.int (max (x.length : Int) (y.length : Int)) u) { s with heap := h', toks := tk }) :
    wpAny (model prog w) A (call (.builtin "max") [.ref (I + 2)]) Q E s := by
  have hm := (N _ (.head _)).1
  have hT := (N _ (.tail _ (.head _))).1
  have hI := (N _ (.tail _ (.tail _ (.head _)))).1
  have hI0 := (N _ (.tail _ (.tail _ (.head _)))).2
  have N₀ : News h₀ L s.heap news := fun p hp => N p (.tail _ (.tail _ (.tail _ hp)))
  have htI : t ≠ I := Nat.ne_of_lt (hlt _ ht)
  have C : MpCall prog w A.in1.in1 (.builtin "len") #[v1, v2] (fun i => if i = 0 then (x.length : Int) else (y.length : Int)) (fun h => ∀ p ∈ nv, h.get? p.1 = some p.2) := by
    intro i z s' Q' E' hi hInv hQ'
    have NI : News h₀ L s'.heap nv := fun p hp => ⟨hInv p hp, (N₀ p (hs p hp)).2⟩
    match i with
    | 0 => cases hi; exact len_seq hv1 NI (fun p hp => hp) hx fun t tk => hQ' tk t
    | 1 => cases hi; exact len_seq hv2 NI (fun p hp => hp) hy fun t tk => hQ' tk t
    | i + 2 => simp at hi
  have hfp : I ∉ nv.map (·.1) := fun hm' => by
    obtain ⟨p, hp, e⟩ := List.mem_map.mp hm'
    exact absurd e (Nat.ne_of_lt (hlt p (hs p hp)))
  refine call_max_walk (map_iter hm ⟨I + 2, _, _, _, _, _, fun i j => decide ((if i = 0 then (x.length : Int) else (y.length : Int)) > (if j = 0 then (x.length : Int) else (y.length : Int))), rfl,
    map_walks (A := A.in1) hh C (Nat.ne_of_gt (Nat.lt_add_of_pos_right (by decide))) (Nat.ne_of_gt (Nat.lt_add_of_pos_right (by decide))) htI hfp
      (fun h h' hI' hk p hp => hk _ (List.mem_map_of_mem hp) _ (hI' p hp)),
    ⟨hm, hT, ⟨_, hI, rfl, rfl⟩, ⟨_, (N₀ _ ht).1, rfl, _, rfl⟩, fun p hp => (N₀ p (hs p hp)).1⟩, ?_, Nat.succ_pos _, CmpOf.ints_gt _ (fun _ _ hP => hP), fun v h' tk hP hk => ?_⟩)
  · intro b hb
    rcases List.mem_cons.mp hb with rfl | hb
    · exact Heap.lt_size hm
    rcases List.mem_cons.mp hb with rfl | hb
    · exact Heap.lt_size hT
    rcases List.mem_cons.mp hb with rfl | hb
    · exact Heap.lt_size hI
    rcases List.mem_cons.mp hb with rfl | hb
    · exact Heap.lt_size (N₀ _ ht).1
    · obtain ⟨p, hp, rfl⟩ := List.mem_map.mp hb
      exact Heap.lt_size (N₀ p (hs p hp)).1
  · obtain ⟨u, rfl⟩ := hP
    have hk' : ∀ b o, b ≠ I → s.heap.get? b = some o → h'.get? b = some o := fun b o hb e => hk b o (fun q => hb (List.mem_singleton.mp q)) e
    have F' : Fr h₀ L h' m := by
      obtain ⟨oL, es, ep, hL, r⟩ := F.ns
      exact ⟨⟨oL, es, ep, hk' _ _ (Ne.symm hI0.1) hL, r⟩, fun b o e => hk' _ _ (fun q => by rw [q, hI0.2] at e; cases e) (F.keep b o e), F.above⟩
    have N' : News h₀ L h' news := fun p hp => ⟨hk' _ _ (Nat.ne_of_lt (hlt p hp)) (N₀ p hp).1, (N₀ p hp).2⟩
    have := h h' tk u F' N'
    have e : (if argBest (fun i j => decide ((if i = 0 then (x.length : Int) else (y.length : Int)) > (if j = 0 then (x.length : Int) else (y.length : Int)))) ((#[v1, v2] : Array Value).size - 1) = 0 then (x.length : Int) else (y.length : Int)) = max (x.length : Int) (y.length : Int) := by
      show (if argBest _ 1 = 0 then (x.length : Int) else (y.length : Int)) = _
      simp only [argBest]
      by_cases c : (y.length : Int) > (x.length : Int)
      · simp [c]; omega
      · simp [c]; omega
    rw [e]
    exact this
end
end Mine

namespace Mine
open PySem PySem.W PyProof.Rows PySem.Calls
open Builtin Builtin.Str Builtin.Int

theorem join_tree_str (sep x : Str) (t u : Tok) : «str.join» ⟨[.str sep t, .str x u], []⟩ = (do
    let ty ← typeOf (.str x u)
    if (ty == .type "list" || ty == .type "tuple") = true then (do
      match ← seqItems? (.str x u) with
      | some xs => joinTail sep xs.toList
      | none => unsupported "internal:str.join")
    else (do
      let it ← (pyIter (.str x u)).tryCatch fun e => do
        if ← isInstance e (.type "TypeError") then rule "str.join.not-iterable"; raiseError "TypeError" "can only join an iterable" else throw e
      let items ← collect it
      joinTail sep items)) := rfl

theorem vals_of : ∀ {us : List Value} {c : List Nat}, LetAre us c → ∃ l : List (Str × Tok), strValues l = us ∧ l.map (·.1) = c.map fun n => (⟨#[n]⟩ : Str) := by
  intro us c
  induction c generalizing us with
  | nil =>
    rintro ⟨h1, -⟩
    exact ⟨[], (List.length_eq_zero_iff.mp h1).symm, rfl⟩
  | cons c cs ih =>
    rintro ⟨h1, h2⟩
    cases us with
    | nil => simp at h1
    | cons u us =>
      obtain ⟨t, ht⟩ := h2 0 c rfl
      cases ht
      obtain ⟨l, rfl, hl⟩ := ih (us := us) ⟨by simpa using h1, fun i n h => h2 (i + 1) n h⟩
      exact ⟨(⟨#[c]⟩, t) :: l, rfl, by rw [List.map_cons, List.map_cons, hl]⟩
theorem glue_letters (c : List Nat) : Txt.join (Str.ofString "") (c.map fun n => (⟨#[n]⟩ : Str)) = ⟨c.toArray⟩ := by
  have e0 : (Str.ofString "").cps = #[] := by decide
  have gen : ∀ (cs : List Nat) (acc : Array Nat), (cs.map fun n => (⟨#[n]⟩ : Str)).foldl (fun acc p => acc ++ (Str.ofString "").cps ++ p.cps) acc = acc ++ cs.toArray := by
    intro cs
    induction cs with
    | nil => intro acc; simp
    | cons d ds ih => intro acc; rw [List.map_cons, List.foldl_cons, ih, e0]; simp
  unfold Txt.join glued
  cases c with
  | nil => rfl
  | cons c cs =>
    show (⟨_⟩ : Str) = _
    congr 1
    show (cs.map fun n => (⟨#[n]⟩ : Str)).foldl _ #[c] = _
    rw [gen]; simp
theorem join_ok (c : List Nat) (h : c.length ≤ 8) : JoinOk (Str.ofString "") (c.map fun n => (⟨#[n]⟩ : Str)) = true := by
  unfold JoinOk
  rw [Bool.not_eq_true']
  refine StrLaws.joinFits (B := 1) ?_ ?_
  · intro y hy
    obtain ⟨n, _, rfl⟩ := List.mem_map.mp hy
    exact Nat.le_refl 1
  · have : Str.length (Str.ofString "") = 0 := by decide
    rw [List.length_map, this]; omega
section
variable {prog : Program} {w : World} {A : Around} {E : Value → Shared → Prop} {s : Shared} {h₀ : Heap} {L : Addr} {m : Str → Option Value} {nv led : List (Addr × Obj)} {v : Value} {c : List Nat} {t : Tok}
theorem join_seq {Q : Value → Shared → Prop} (hh : A.handled = none) (hv : SeqV nv v c) (F : Fr h₀ L s.heap m) (N : News h₀ L s.heap led) (hs : ∀ p ∈ nv, p ∈ led) (hf : c.length ≤ 8)
    (h : ∀ h' tk t', Fr h₀ L h' m → News h₀ L h' led → Q (.str ⟨c.toArray⟩ t') { s with heap := h', toks := tk }) :
    wpAny (model prog w) A (call (.builtin "str.join") [.str (Str.ofString "") t, v]) Q E s := by
  have hok := join_ok c hf
  rcases hv with ⟨u, rfl⟩ | ⟨l, us, k, rfl, hm, hl⟩
  · refine wpAny_call (codeAny_call_builtin PySem.F.slot_str_join.plain PySem.F.entry_str_join (PySem.F.slot_str_join.check _ _ _ _ _ _ _ _ (typeIs_str _ _ _) (PySem.F.args_str_join_2 _ _) ?_))
    rw [join_tree_str]
    refine wpAny_bind (wpAny_typeOf (typeIs_str _ _ _) ?_)
    show wpAny _ A.in1 ((pyIter (.str ⟨c.toArray⟩ u)).tryCatch _ >>= fun it => collect it >>= fun items => joinTail (Str.ofString "") items) _ _ s
    refine wpAny_bind (wpAny_tryCatch (wpAny_pyIter_strU ?_))
    have hk : ∀ b o, s.heap.get? b = some o → (s.heap.push { cls := .type (strIterType ⟨c.toArray⟩), data := .fields #[.str ⟨c.toArray⟩ u, .int 0 0] }).get? b = some o := fun b o e => Heap.get?_push_of_some _ e
    refine wpAny_bind (wpAny_collect_strIter (x := ⟨c.toArray⟩) (t := u) hh ?_ (⟨_, Heap.get?_push_size _ rfl, rfl, rfl⟩) ?_ ?_)
    · unfold strIterType; split
      · exact .inl rfl
      · exact .inr rfl
    · intro s' acc hk' hg hd ho hacc
      have hsz : acc.size = c.length := by rw [hacc.1]; show c.toArray.size = _; rw [List.size_toArray]
      have hle : LetAre acc.toList c := by
        refine ⟨by rw [Array.length_toList, hsz], fun i n hn => ?_⟩
        have hi : i < acc.size := by
          rcases Nat.lt_or_ge i acc.size with h1 | h1
          · exact h1
          · rw [List.getElem?_eq_none (by omega)] at hn; cases hn
        obtain ⟨d, u', hd', he⟩ := hacc.2 i acc[i] (Array.getElem?_eq_getElem hi)
        have hd2 : c[i]? = some d := by simpa using hd'
        rw [hd2] at hn
        cases hn
        exact ⟨u', by rw [Array.getElem?_toList, Array.getElem?_eq_getElem hi, he]⟩
      obtain ⟨l, hl, hlm⟩ := vals_of hle
      rw [← hl]
      have g : Gives (joinTail (Str.ofString "") (strValues l)) (joinMade (Str.ofString "") l) := by
        have hok' := hok
        rw [← hlm] at hok'
        unfold JoinOk at hok'
        rw [Bool.not_eq_true'] at hok'
        have g0 := gives_joinTail (Str.ofString "") l hok'
        cases l with
        | nil => exact g0
        | cons p r => cases r with
          | nil => exact g0
          | cons q r' => exact g0
      have hok' := hok
      unfold JoinOk at hok'
      rw [Bool.not_eq_true'] at hok'
      refine g prog w A (wants Q E) s' (post_join l ⟨by rw [hlm]; exact joinFit_length hok', fun t' tk => ?_⟩)
      rw [hlm, glue_letters]
      obtain ⟨hp', g', d', tk', os'⟩ := s'
      dsimp only at hg hd ho
      subst hg hd ho
      have hne : ∀ b o, s.heap.get? b = some o → hp'.get? b = some o := fun b o e => hk' b o (Nat.ne_of_lt (Heap.lt_size e)) (hk b o e)
      exact h hp' tk t' ⟨F.ns.keeps hne, fun b o e => hne b o (F.keep b o e), F.above⟩ fun p hp => ⟨hne _ _ (N p hp).1, (N p hp).2⟩
    · show c.toArray.size ≤ sizeLine
      rw [sizeLine_eq, List.size_toArray]; omega
  · obtain ⟨l', hl', hlm⟩ := vals_of hl
    refine SC.join (l := l') (texts := c.map fun n => (⟨#[n]⟩ : Str)) (D := l) (by rw [hl']; exact PySem.IsL.isList (n := k) (N _ (hs _ hm)).1) hlm hok fun t' tk => ?_
    rw [glue_letters]
    exact h s.heap tk t' F N
end
end Mine

namespace Mine
open PySem PySem.W PyProof.Rows

local macro_rules | `(tactic| walk_at "pyIter ref") => `(tactic| (refine Mine.stop ?_))

local macro_rules | `(tactic| walk_at "exec For Name Subscript") => `(tactic| (k_here; (rename Fr _ _ _ _ => lF'); (with_unfolding_all refine' For_invVF lF' ?k1 ?k2 ?_; (case k1 => exact rfl); (case k2 => exact rfl); k_whole)))

section
variable {prog : Program} {w : World} {A : Around} {E : Value → Shared → Prop} {s : Shared} {h₀ : Heap} {L D : Addr} {m : Str → Option Value} {news : List (Addr × Obj)} {vs vs' : List Value} {x : Value} {i c : Nat} {k : Int} {u : Tok}
theorem lst_get {Q : Value → Shared → Prop} (N : News h₀ L s.heap news) (hm : (D, listOf vs.toArray c) ∈ news) (hz : k = ((i : Nat) : Int)) (hx : vs[i]? = some x) (hf : i < 2 ^ 20) (h : Q x s) :
    wpAny (model prog w) A (getItem (.ref D) (.int k u)) Q E s :=
  getItem_listL (PySem.IsL.isList (n := c) (N _ hm).1) (by omega) (by omega) (by rw [hz]; exact hx) h
theorem lst_sub {value slice : PySem.Expr} {Q : Value → Shared → Prop} (N : News h₀ L s.heap news) (hm : (D, listOf vs.toArray c) ∈ news) (hz : k = ((i : Nat) : Int)) (hx : vs[i]? = some x) (hf : i < 2 ^ 20) (h : Q x s)
    (hs : subscripted slice false (.ref D) (.int k u) = operate [.ref D, .int k u] (getItem (.ref D) (.int k u)) := by with_unfolding_all rfl) :
    wpAny (model prog w) A (subscriptTail value slice (.ref D) (.int k u)) Q E s :=
  tail_any (PySem.IsL.isList (n := c) (N _ hm).1).typeIs slot_list_getitem.lookup (lst_get N hm hz hx hf h) hs
theorem lst_set {Q : Unit → Shared → Prop} {pre : List (Addr × Obj)} (F : Fr h₀ L s.heap m) (N : News h₀ L s.heap (pre ++ [(D, listOf vs.toArray c)])) (hp : ∀ p ∈ pre, p.1 ≠ D) (hz : k = ((i : Nat) : Int)) (hi : i < vs.length) (hf : i < 2 ^ 20) (hv : vs.set i x = vs')
    (h : ∀ h', Fr h₀ L h' m → News h₀ L h' (pre ++ [(D, listOf vs'.toArray c)]) → Q () { s with heap := h' }) :
    wpAny (model prog w) A (setItem (.ref D) (.int k u) x) Q E s := by
  have z := N (D, listOf vs.toArray c) (List.mem_append.mpr (.inr (.head _)))
  subst hz hv
  refine ki_setAt z.1 (by omega) (by omega) (by rw [List.size_toArray]; omega) (h _ (F.change (Heap.SameBut.update ..) z.2.1 z.2.2) (ki_turn _ N hp (by intro p hp; cases hp) ?_ ?_))
  · show vs.toArray.setIfInBounds (Int.toNat (i : Int)) x = (vs.set i x).toArray
    apply Array.toList_inj.mp
    simp
  · simp
theorem lst_set2 {Q : Unit → Shared → Prop} {I O : Addr} {oI oO : Obj} (F : Fr h₀ L s.heap m) (N : News h₀ L s.heap [(I, oI), (O, oO), (D, listOf vs.toArray c)]) (h1 : I ≠ D) (h2 : O ≠ D) (hz : k = ((i : Nat) : Int)) (hi : i < vs.length) (hf : i < 2 ^ 20) (hv : vs.set i x = vs')
    (h : ∀ h', Fr h₀ L h' m → News h₀ L h' [(I, oI), (O, oO), (D, listOf vs'.toArray c)] → Q () { s with heap := h' }) :
    wpAny (model prog w) A (setItem (.ref D) (.int k u) x) Q E s := by
  refine lst_set (pre := [(I, oI), (O, oO)]) F N ?_ hz hi hf hv h
  intro p hp
  rcases List.mem_cons.mp hp with rfl | hp
  · exact h1
  · cases List.mem_singleton.mp hp; exact h2
theorem k01 (n : Int) : n.fmod 2 = ((0 : Nat) : Int) ∨ n.fmod 2 = ((1 : Nat) : Int) := by rw [Int.fmod_eq_emod_of_nonneg _ (by decide)]; omega
end
local macro_rules | `(tactic| walk_at "getItem ref int") => `(tactic| (k_here; k_dflt (refine lst_get (by k_asm) (by k_mem) (by assumption) rfl (by decide) ?_)))
local macro_rules | `(tactic| walk_at "subscriptTail") => `(tactic| (k_here; (with_reducible show wpAny _ _ (subscriptTail _ _ (Value.ref _) (Value.int _ _)) _ _ _); k_dflt (refine' lst_sub ?k1 ?k2 ?k3 ?k4 ?k5 ?_ ?k6; (case k1 => k_asm); (case k2 => k_mem); (case k3 => with_reducible assumption); (case k4 => exact rfl); (case k5 => decide); (case k6 => with_unfolding_all rfl); k_whole)))
local macro_rules | `(tactic| walk_at "setItem ref int") => `(tactic| (refine Mine.stop ?_))
def lJ (l D : Addr) (ws : List Value) (c : Nat) (hd : Value) (lt : Value) (m : Str → Option Value) (nx : List (Addr × Obj)) : Prop :=
  ∃ a b ta tb, nx = [(D, listOf ws.toArray 0), (l, listOf #[Value.str a ta, Value.str b tb] c)] ∧ a.length ≤ 5 ∧ b.length ≤ 4 ∧ Has m [(Str.ofString "head", hd), (Str.ofString "letters", lt), (Str.ofString "texts", .ref l)]
theorem ints_at {us : List Value} {ns : List Int} (h : IntsAre us ns) {i : Nat} {v : Value} (e : us[i]? = some v) : ∃ n t, v = .int n t := by
  have hlt : i < us.length := by
    rcases Nat.lt_or_ge i us.length with h1 | h1
    · exact h1
    · rw [List.getElem?_eq_none h1] at e; cases e
  obtain ⟨n, hn⟩ : ∃ n, ns[i]? = some n := ⟨_, List.getElem?_eq_getElem (by rw [← h.length]; exact hlt)⟩
  obtain ⟨t, ht⟩ := h.get i n hn
  rw [e] at ht
  exact ⟨n, t, Option.some.inj ht⟩
theorem law_loop {prog : Program} {w : World} {A : Around} {E : Value → Shared → Prop} {s : Shared} {env : Env} {h₀ : Heap} {x : Str} {body : List Stmt} {Q : Flow → Shared → Prop} {l D : Addr} {ws : List Value} {ns : List Int} {c : Nat} {t1 t2 : Tok} {hd lt : Value} {m₀ : Str → Option Value}
    (hh : A.handled = none) (hi : IntsAre ws ns)
    (F : Fr h₀ env.locals s.heap (fun y => if y = Str.ofString "texts" then some (.ref l) else if y = Str.ofString "letters" then some lt else if y = Str.ofString "head" then some hd else m₀ y))
    (N : News h₀ env.locals s.heap [(D, listOf ws.toArray 0), (l, listOf #[Value.str (Str.ofString "") t1, Value.str (Str.ofString "") t2] c)])
    (turn : ∀ n tn a b ta tb m₁ h tk I oI, I ≠ D → I ≠ l → a.length ≤ 5 → b.length ≤ 4 → Fr h₀ env.locals h (fun y => if y = x then some (.int n tn) else ov m₁ [(Str.ofString "head", hd), (Str.ofString "letters", lt), (Str.ofString "texts", .ref l)] y) →
      News h₀ env.locals h [(I, oI), (D, listOf ws.toArray 0), (l, listOf #[Value.str a ta, Value.str b tb] c)] →
      wpAny (model prog w) A (execs body env) (GPost h₀ env.locals (lJ l D ws c hd lt) I oI { s with heap := h, toks := tk } Q) E { s with heap := h, toks := tk })
    (done : ∀ m₁ a b ta tb h tk, a.length ≤ 5 → b.length ≤ 4 → Has m₁ [(Str.ofString "head", hd), (Str.ofString "letters", lt), (Str.ofString "texts", .ref l)] → Fr h₀ env.locals h m₁ → News h₀ env.locals h [(D, listOf ws.toArray 0), (l, listOf #[Value.str a ta, Value.str b tb] c)] →
      Q .next { s with heap := h, toks := tk }) :
    wpAny (model prog w) A (pyIter (.ref D)) (fun it s₂ => LoopAtV prog w A h₀ env x body Q E it s₂) E s := by
  refine list_loop (fun _ => lJ l D ws c hd lt) hh (.head _) (fun i m nx h => by obtain ⟨_, _, _, _, e, _⟩ := h; rw [e]; exact .head _) F N
    ⟨_, _, _, _, rfl, Nat.zero_le _, Nat.zero_le _, .cons (by rw [if_neg (by decide), if_neg (by decide), if_pos rfl]) (.cons (by rw [if_neg (by decide), if_pos rfl]) (.cons (by rw [if_pos rfl]) .nil))⟩ ?_ ?_
  · rintro i v m₁ nx h₁ tk₁ I oI hi' hv hoff ⟨a, b, ta, tb, rfl, ha, hb, hm⟩ F₃ N₃
    obtain ⟨n, tn, rfl⟩ := ints_at hi hv
    exact turn n tn a b ta tb m₁ h₁ tk₁ I oI (fun e => hoff _ (.head _) e.symm) (fun e => hoff _ (.tail _ (.head _)) e.symm) ha hb (hm.fr1 F₃) N₃
  · rintro m₁ nx h₁ tk₁ ⟨a, b, ta, tb, rfl, ha, hb, hm⟩ F₃ N₃
    exact done m₁ a b ta tb h₁ tk₁ ha hb hm F₃ N₃
theorem lJ_end {h₀ : Heap} {L : Addr} {m' : Str → Option Value} {l D I : Addr} {oI : Obj} {ws : List Value} {c : Nat} {hd lt : Value} {h' : Heap} {tk : Nat} {s₁ : Shared} {a b : Str} {ta tb : Tok}
    (F : Fr h₀ L h' m') (N : News h₀ L h' [(I, oI), (D, listOf ws.toArray 0), (l, listOf #[Value.str a ta, Value.str b tb] c)]) (hI1 : I ≠ D) (hI2 : I ≠ l) (ha : a.length ≤ 5) (hb : b.length ≤ 4)
    (hm : Has m' [(Str.ofString "head", hd), (Str.ofString "letters", lt), (Str.ofString "texts", .ref l)]) : GEnd h₀ L (lJ l D ws c hd lt) I oI s₁ { s₁ with heap := h', toks := tk } := by
  refine GEnd.intro [(D, listOf ws.toArray 0), (l, listOf #[Value.str a ta, Value.str b tb] c)] F N (fun p hp => hp) ?_ ⟨a, b, ta, tb, rfl, ha, hb, hm⟩
  intro p hp
  rcases List.mem_cons.mp hp with rfl | hp
  · exact hI1.symm
  · cases List.mem_singleton.mp hp; exact hI2.symm
def lawR {h₀ h : Heap} {L : Addr} {m : Str → Option Value} (_F : Fr h₀ L h m) (s : Shared) (f : Flow) (s' : Shared) : Prop :=
  f = .next ∧ ∃ (h' : Heap) (tk : Nat) (m' : Str → Option Value) (hd : Int) (th : Tok) (l : Addr) (c : Nat) (a b : List Nat) (ta tb : Tok), s' = { s with heap := h', toks := tk } ∧ Fr h₀ L h' m' ∧ News h₀ L h' [(l, listOf #[Value.str ⟨a.toArray⟩ ta, Value.str ⟨b.toArray⟩ tb] c)] ∧ a.length ≤ 5 ∧ b.length ≤ 4 ∧
    Has m' [(Str.ofString "head", .int hd th), (Str.ofString "texts", .ref l)]
theorem lawR_of {h₀ h : Heap} {L : Addr} {m : Str → Option Value} {F : Fr h₀ L h m} {s : Shared} {h₁ : Heap} {tk : Nat} {m₁ : Str → Option Value} {hd : Int} {th : Tok} {lt : Value} {l D : Addr} {ws : List Value} {c : Nat} {a b : Str} {ta tb : Tok} (ha : a.length ≤ 5) (hb : b.length ≤ 4)
    (hm : Has m₁ [(Str.ofString "head", .int hd th), (Str.ofString "letters", lt), (Str.ofString "texts", .ref l)]) (F₃ : Fr h₀ L h₁ m₁) (N₃ : News h₀ L h₁ [(D, listOf ws.toArray 0), (l, listOf #[Value.str a ta, Value.str b tb] c)]) : lawR F s .next { s with heap := h₁, toks := tk } := by
  refine ⟨rfl, h₁, tk, m₁, hd, th, l, c, a.cps.toList, b.cps.toList, ta, tb, rfl, F₃, News.sub N₃ (fun p hp => .tail _ hp), ha, hb, fun p hp => hm p ?_⟩
  rcases List.mem_cons.mp hp with rfl | hp
  · exact .head _
  · exact .tail _ (.tail _ hp)
theorem law_cut {h₀ : Heap} {L : Addr} {m : Str → Option Value} {M : Model} {A : Around} {env : Env} {E : Value → Shared → Prop} {Q : Flow → Shared → Prop} {s : Shared} {l : List Stmt} (F : Fr h₀ L s.heap m) (n : Nat)
    (h1 : wpAny M A (execs (l.take n) env) (lawR F s) E s) (h2 : ∀ s', lawR F s .next s' → wpAny M A (execs (l.drop n) env) Q E s') : wpAny M A (execs l env) Q E s := by
  refine execs_split n (wpAny_mono h1 (fun f s' h => ?_) fun _ _ e => e)
  obtain ⟨rfl, r⟩ := id h
  exact h2 s' h


theorem told_use {w : World} {mean : ExcName → Option Value} {mg mb : Str → Option Value} {x y : List Nat} {tx ty : Tok} {news : List (Addr × Obj)} {dp un : Nat} {gd : Option (List Code)} {cn : Str} {cs : Scope} {a : Addr} {ccd : Value} {cl : List (Str × Addr)} {outer : List Env} {A₀ : Around} {base h₀ : Heap} {L : Addr} {m : Str → Option Value} {s : Shared} {Q E : Value → Shared → Prop}
    (B : Below A₀ base outer h₀) (F : Fr h₀ L s.heap m) (X : (PySem.Mine.hd01.heap_39 w.params).In h₀) (N : News h₀ L s.heap news) (T : Top PySem.Mine.hd01.view_39 (looseW PySem.Mine.hd01.view_39 [Str.ofString "Base", Str.ofString "LCSSeq"]) mean mg mb h₀) (hk : cs.kind = .function)
    (hx : x.length ≤ 5) (hy : y.length ≤ 5) (hd : dp + 1 < recursionLimit) (hu : un + 8 < cLine) (ret : CbRet h₀ L m news s Q (fun t => .str ⟨(told x y).toArray⟩ t)) :
    wpAny (model PySem.Challenge.rw_fq5037_01.row.prog w) (ktrTop dp un gd cn cs L a ccd cl outer) (call (.ref 234) [.str ⟨x.toArray⟩ tx, .str ⟨y.toArray⟩ ty]) Q E s :=
  told_spec w mean mg mb ⟨x.toArray⟩ ⟨y.toArray⟩ tx ty news dp un gd cn cs a ccd cl outer A₀ base h₀ L m s Q E B F X N T hk hx hy hd hu ret
theorem dyn_use {w : World} {mean : ExcName → Option Value} {mg mb : Str → Option Value} {x y : List Nat} {sv v1 v2 : Value} {news : List (Addr × Obj)} {dp un : Nat} {gd : Option (List Code)} {cn : Str} {cs : Scope} {a : Addr} {ccd : Value} {cl : List (Str × Addr)} {outer : List Env} {A₀ : Around} {base h₀ : Heap} {L : Addr} {m : Str → Option Value} {s : Shared} {Q E : Value → Shared → Prop}
    (B : Below A₀ base outer h₀) (F : Fr h₀ L s.heap m) (X : (PySem.Mine.hd01.heap_39 w.params).In h₀) (N : News h₀ L s.heap news) (T : Top PySem.Mine.hd01.view_39 (looseW PySem.Mine.hd01.view_39 [Str.ofString "Base", Str.ofString "LCSSeq"]) mean mg mb h₀) (hk : cs.kind = .function)
    (hv1 : SeqV news v1 x) (hv2 : SeqV news v2 y) (hx : x.length ≤ 5) (hy : y.length ≤ 5) (hd : dp + 1 < recursionLimit) (hu : un + 8 < cLine) (ret : CbRet h₀ L m news s Q (fun t => .str ⟨(told x y).toArray⟩ t)) :
    wpAny (model PySem.Challenge.rw_fq5037_01.row.prog w) (ktrTop dp un gd cn cs L a ccd cl outer) (call (.ref 203) [sv, v1, v2]) Q E s :=
  dyn_spec w mean mg mb x y sv v1 v2 news dp un gd cn cs a ccd cl outer A₀ base h₀ L m s Q E B F X N T hk hv1 hv2 hx hy hd hu ret
theorem dyn_useC {w : World} {mean : ExcName → Option Value} {mg mb : Str → Option Value} {x y : List Nat} {sv v1 v2 : Value} {news : List (Addr × Obj)} {dp un : Nat} {gd : Option (List Code)} {cn : Str} {cs : Scope} {a : Addr} {ccd : Value} {cl : List (Str × Addr)} {outer : List Env} {A₀ : Around} {base h₀ : Heap} {L : Addr} {m : Str → Option Value} {s : Shared} {Q E : Value → Shared → Prop}
    (B : Below A₀ base outer h₀) (F : Fr h₀ L s.heap m) (X : (PySem.Mine.hd01.heap_39 w.params).In h₀) (N : News h₀ L s.heap news) (T : Top PySem.Mine.hd01.view_39 (looseW PySem.Mine.hd01.view_39 [Str.ofString "Base", Str.ofString "LCSSeq"]) mean mg mb h₀) (hk : cs.kind = .function)
    (hv1 : SeqV news v1 x) (hv2 : SeqV news v2 y) (hx : x.length ≤ 5) (hy : y.length ≤ 5) (hd : dp + 1 < recursionLimit) (hu : un + 8 < cLine) (ret : CbRet h₀ L m news s Q (fun t => .str ⟨(told x y).toArray⟩ t)) :
    codeAny (model PySem.Challenge.rw_fq5037_01.row.prog w) (ktrTop dp un gd cn cs L a ccd cl outer) (.call (.ref 203) ⟨[sv, v1, v2], []⟩) (fun r s' => match r with | .ok (.ret v) => Q v s' | .ok _ => False | .error e => E e s') s :=
  dyn_code w mean mg mb x y sv v1 v2 news dp un gd cn cs a ccd cl outer A₀ base h₀ L m s Q E B F X N T hk hv1 hv2 hx hy hd hu ret
theorem dyn_useCr {w : World} {mean : ExcName → Option Value} {mg mb : Str → Option Value} {x y r : List Nat} {sv v1 v2 : Value} {news : List (Addr × Obj)} {dp un : Nat} {gd : Option (List Code)} {cn : Str} {cs : Scope} {a : Addr} {ccd : Value} {cl : List (Str × Addr)} {outer : List Env} {A₀ : Around} {base h₀ : Heap} {L : Addr} {m : Str → Option Value} {s : Shared} {Q E : Value → Shared → Prop}
    (B : Below A₀ base outer h₀) (F : Fr h₀ L s.heap m) (X : (PySem.Mine.hd01.heap_39 w.params).In h₀) (N : News h₀ L s.heap news) (T : Top PySem.Mine.hd01.view_39 (looseW PySem.Mine.hd01.view_39 [Str.ofString "Base", Str.ofString "LCSSeq"]) mean mg mb h₀) (hk : cs.kind = .function)
    (hv1 : SeqV news v1 x) (hv2 : SeqV news v2 y) (hx : x.length ≤ 5) (hy : y.length ≤ 5) (hd : dp + 1 < recursionLimit) (hu : un + 8 < cLine) (hr : told x y = r) (ret : CbRet h₀ L m news s Q (fun t => .str ⟨r.toArray⟩ t)) :
    codeAny (model PySem.Challenge.rw_fq5037_01.row.prog w) (ktrTop dp un gd cn cs L a ccd cl outer) (.call (.ref 203) ⟨[sv, v1, v2], []⟩) (fun r s' => match r with | .ok (.ret v) => Q v s' | .ok _ => False | .error e => E e s') s := by
  subst hr
  exact dyn_code w mean mg mb x y sv v1 v2 news dp un gd cn cs a ccd cl outer A₀ base h₀ L m s Q E B F X N T hk hv1 hv2 hx hy hd hu ret
local macro_rules | `(tactic| walk_at "call ref") => `(tactic| (k_here; k_dflt (refine' told_use ?B ?F ?X ?N ?T ?K ?hx ?hy ?D ?U ?_; (case B => k_asm); (case F => k_asm); (case X => k_asm); (case N => k_asm); (case T => k_asm); (case K => first | exact rfl | assumption); (case hx => omega); (case hy => omega); (case D => ktr_room); (case U => ktr_units)); intro t9 h9 tk9 F9 N9; (try dsimp only); (try k_fold)))
section
open PySem.Calls Builtin Builtin.ObjectAttr
theorem inst_sm {prog : Program} {w : World} {A : Around} {E : Value → Shared → Prop} {s : Shared} {K : Frag} {x C p L : Addr} {ox : Obj} {name : Str} {h₀ : Heap} {m : Str → Option Value} {es : List DictEntry} {n : Nat} {expr : Bool} {Q : Value → Shared → Prop} {fv : Value} {rest : List Value}
    (F : Fr h₀ L s.heap m) (X₀ : K.In h₀) (I : InstAt s.heap x ox C (some (dictOf es n))) (hg : plainGet K C name = true) (hh : hasDictIn K C = true) (ha : findIn K (.ref C) name = some (some (.ref p)))
    (hgf : specialIn K (.ref p) "__get__" = some (some (.builtin "staticmethod.__get__"))) (hts : takesIn K (.ref p) = some false) (hc : copiedNames.contains name = false) (hl : getL name es = some none) (hp : recIn K p "staticmethod" = some (fv :: rest)) (hv : handedIn fv = true)
    (h : Q fv { s with toks := s.toks + 1 }) : wpAny (model prog w) A (getAttr (.ref x) name expr) Q E s :=
  get_bind (X₀.keeps F.keep) I (plainGet_of hg).1 (findObj_fn hh ha hgf hts hc (by show lookIn name (dictOf es n) = _; rw [lookIn_dict, hl])) (plainGet_of hg).2
      (wpAny_call (sm_get (s := { s with toks := s.toks + 1 }) (X₀.keeps F.keep) hp (handed_on hv h)))
end
local macro_rules | `(tactic| walk_at "getAttr ref") => `(tactic| (k_here; k_dflt (refine' inst_sm ?k1 ?k2 ?k4 ?k5 ?k6 ?k7 ?k9 ?k10 ?k11 ?k12 ?k13 ?k14 ?_; (case k1 => k_asm); (case k2 => k_asm); (case k4 => k_inst); (case k5 => k_is); (case k6 => k_is); (case k7 => k_is); (case k9 => k_is); (case k10 => k_is); (case k11 => decide +kernel); (case k12 => k_get); (case k13 => k_is); (case k14 => k_handed); k_whole)))
local macro_rules | `(tactic| walk_at "call ref") => `(tactic| (k_here; k_dflt (refine' dyn_use ?B ?F ?X ?N ?T ?K ?h1 ?h2 ?hx ?hy ?D ?U ?_; (case B => k_asm); (case F => k_asm); (case X => k_asm); (case N => k_asm); (case T => k_asm); (case K => first | exact rfl | assumption); (case h1 => exact SeqV.sub (by assumption) (by k_sub)); (case h2 => exact SeqV.sub (by assumption) (by k_sub)); (case hx => omega); (case hy => omega); (case D => ktr_room); (case U => ktr_units)); intro t9 h9 tk9 F9 N9; (try dsimp only); (try k_fold)))
section
open PySem.Calls
theorem star_method {M : Model} {A : Around} {E : Value → Shared → Prop} {s : Shared} {env : Env} {o e : Expr} {name : Str} {apos pos p : Pos} {Q : Value → Shared → Prop}
    (h : wpAny M A (eval o env) (fun ov s₁ => wpAny M A (getAttr ov name true) (fun f s₂ => wpAny M A (callWith pos f [] (backTo pos (starEach [.Starred e p] env)) []) Q E s₂) E s₁) E s)
    (he : eval (.Call (.Attribute o name apos) [.Starred e p] [] pos) env = (do
      let ov ← eval o env
      standAt apos.atName
      let (f, first) ← holding [ov] (do pure (← getAttr ov name true, []))
      callWith pos f first (backTo pos (starEach [.Starred e p] env)) []) := by rfl) :
    wpAny M A (eval (.Call (.Attribute o name apos) [.Starred e p] [] pos) env) Q E s := by
  rw [he]
  refine wpAny_bind (wpAny_mono h (fun ov s₁ h₁ => wpAny_bind (wpAny_standAt (wpAny_bind (wpAny_holding (wpAny_bind (wpAny_mono h₁ (fun f s₂ h₂ => wpAny_pure ?_) fun _ _ x => x)))))) fun _ _ x => x)
  exact h₂
theorem star_bound {M : Model} {A : Around} {E : Value → Shared → Prop} {s : Shared} {K : Frag} {env : Env} {pos p : Pos} {first : List Value} {Q : Value → Shared → Prop} {h₀ : Heap} {L q g : Addr} {self : Value} {news : List (Addr × Obj)} {e : Expr} (_X : K.In h₀) (_N : News h₀ L s.heap news) (_q : (q, methodObj (.ref g) self) ∈ news) (hf : fnIn K g = true)
    (h : wpAny M A (eval e env) (fun v s₁ => StarOf M A E v (fun vs s₂ => MethP K q g self s₂.heap ∧ wpAny M A (call (.ref q) (first ++ vs)) Q E s₂) s₁) E s)
    (he : starEach [.Starred e p] env = [(true, eval e env)] := by rfl) :
    wpAny M A (callWith pos (.ref q) first (backTo pos (starEach [.Starred e p] env)) []) Q E s := by
  rw [he]
  exact ks_call rfl (keeps_M hf) (ks_lone h)
end
local macro_rules | `(tactic| walk_at "eval Call Attribute") => `(tactic| (k_here; (with_reducible show wpAny _ _ (eval (Expr.Call (Expr.Attribute _ _ _) [Expr.Starred _ _] _ _) _) _ _ _); refine star_method ?_))
local macro_rules | `(tactic| walk_at "callWith ref") => `(tactic| (k_here; (with_reducible show wpAny _ _ (callWith _ (Value.ref _) _ (backTo _ (starEach [Expr.Starred _ _] _)) []) _ _ _); k_dflt (refine' star_bound ?k1 ?k2 ?k3 ?k4 ?_; (case k1 => k_asm); (case k2 => k_asm); (case k3 => k_mem); (case k4 => k_is); k_whole)))
section
open PySem.Calls PyProof.V
variable {prog : Program} {w : World} {A A₀ : Around} {s : Shared} {K : Frag} {L : Addr} {h₀ base : Heap} {m mg mb : Str → Option Value} {news : List (Addr × Obj)} {p : Program} {loose : List Str} {mean : ExcName → Option Value}
/-- entry into a def that takes the rest of its arguments and keeps some names in cells -/
theorem rest_cells {env : Env} {outer : List Env} {R : Result → Shared → Prop} {name qual : Str} {params : Arguments} {body : List Stmt} {scope : Scope} {dV kV doc pm cdv ct oc : Value} {an od : Option Addr} {osl : Array (Option Value)} {f : Addr} {args : Args} {vs : List Value} {g₁ : Addr → Option (List (Str × Value))} {binds : Addr → List (Str × Value)}
    (B : Below A₀ base outer h₀) (F : Fr h₀ L s.heap m) (X₀ : K.In h₀) (N : News h₀ L s.heap news) (T : Top p loose mean mg mb h₀) (hA : A.frames = some (env :: outer)) (hf : env.frame = some L) (hke : env.scope.kind = .function)
    (ho : K.lookup f = some ⟨oc, od, .func (fnOf name qual params body scope dV kV doc pm an cdv ct), osl⟩) (hcd : codeIn K cdv qual = true) (hroom : A.depth < recursionLimit)
    (hv : args.pos.drop (params.posonlyargs.length + params.args.length) = vs)
    (hp : peek1 K ⟨prog, w.params⟩ (bindArgs (fnOf name qual params body scope dV kV doc pm an cdv ct) args) = some (({ cls := .type "tuple", data := .seq vs.toArray } : Obj), g₁))
    (hg : ∀ D, g₁ D = some (binds D)) (hkind : ∀ D, ((binds D).all fun y => scope.names.lookup y.1 == some .local || scope.names.lookup y.1 == some .cell) = true)
    (hnd : ((cellsFrom 0 scope.names []).map (·.1)).Nodup)
    (h : ∀ D g L' h₁ tk cells, (∀ p ∈ news, p.1 < D) → Fr h₀ L g m → Fr g L' h₁ (bindL (envOfC qual scope L' f cdv).kindOf (binds D) fun _ => none) → News g L' h₁ (cells ++ (D, ({ cls := .type "tuple", data := .seq vs.toArray } : Obj)) :: news) →
      CellsAre (bindC (envOfC qual scope L' f cdv).kindOf (binds D) fun _ => none) (cellsFrom (L' + 1) scope.names []) cells → Below A base (env :: outer) g → K.In g → Top p loose mean mg mb g → D < L' → (∀ p ∈ news, p.1 < L') →
      wpAny (model prog w) (A.deeper (envOfC qual scope L' f cdv)) (execs body (envOfC qual scope L' f cdv))
        (fun fl s' => LeaveK h₀ L m g R (match fl with | .ret v => v | _ => .none) s')
        (fun e s' => wpAny (model prog w) (A.deeper (envOfC qual scope L' f cdv)) (leaving (envOfC qual scope L' f cdv) e) (fun _ s'' => R (.error e) s'') (fun e' s'' => R (.error e') s'') s')
        { s with heap := h₁, toks := tk })
    (hco : scope.isCoroutine = false) (hgen : scope.isGenerator = false) (hk : scope.kind = .function) : codeAny (model prog w) A (.call (.ref f) args) R s := by
  have _ := hv
  refine codeAny_call_function (fd := fnOf name qual params body scope dV kV doc pm an cdv ct) (body := body) hroom ((X₀.keeps F.keep) _ _ ho) rfl hco hgen rfl (codeRec_of (X₀.keeps F.keep) hcd) ?_
  refine wp_of_peek1 (o := ({ cls := .type "tuple", data := .seq vs.toArray } : Obj)) F N (X₀.keeps F.keep) rfl (r := binds) (fun D h' F' N' l => ?_) _ g₁ hp hg
  obtain ⟨FG, BG, st, lv⟩ := groundX (s := { s with heap := h' }) (R := R) B F' N' hA hf hke
  refine wpAny_newFunctionEnv_cells hk (kindsX (hkind D) _) fun env' he s' x => ?_
  subst he
  refine ⟨(T.nolimit.keeps F'.keep).keeps x.toInCall.keep, codeAny_func ?_⟩
  obtain ⟨h₁, tk, rfl, _⟩ := x.done
  have hk₁ := x.toInCall.keep
  obtain ⟨cells, NC, Y⟩ := Cl.news (h₀ := h') (Nat.le_refl _) fun n c hm => ⟨x.cell n c (lookup_of_mem_nodup (cellsFrom_names scope.names 0 (h'.objs.size + 1) [] [] rfl ▸ hnd) hm), x.above n c hm⟩
  refine wpAny_mono (h D _ h'.objs.size h₁ tk cells l FG ⟨x.toInCall.ns, fun b o e => hk₁ b o (of_hideAll _ e), Nat.le_of_eq (hideAll_size _ _)⟩ (fun p hp => ?_) Y BG (X₀.keeps st) (T.keeps st) (Heap.lt_size (N' _ (.head _)).1) (fun p hp => Heap.lt_size (N' p (.tail _ hp)).1)) (fun fl s' hl => lv _ _ hl) fun _ _ y => y
  rcases List.mem_append.mp hp with hp | hp
  · refine ⟨(NC p hp).1, (NC p hp).2.1, ?_⟩
    cases q : (hideAll h' (((D, ({ cls := .type "tuple", data := .seq vs.toArray } : Obj)) :: news).map (·.1))).get? p.1 with
    | none => rfl
    | some o => have := of_hideAll _ q; rw [(NC p hp).2.2] at this; cases this
  · exact ⟨hk₁ _ _ (N' p hp).1, Nat.ne_of_lt (Heap.lt_size (N' p hp).1), hideAll_none _ (List.mem_map_of_mem hp)⟩
end
local macro_rules | `(tactic| k_enter) => `(tactic| (kp_kind "rest"; (fail_if_success k_inElt); (refine' rest_cells ?k1 ?k2 ?k3 ?k4 ?k5 ?kA ?kF ?kK ?k6 ?k7 ?k8 ?kV ?kP ?kG ?kB ?kD ?_ ?c2 ?c3 ?c4; (case kA => exact rfl); (case kF => exact rfl); (case kK => exact rfl); (case k1 => k_asm); (case k2 => k_asm); (case k3 => k_asm); (case k4 => k_asm); (case k5 => k_asm); (case k6 => k_is); (case k7 => k_is); (case k8 => k_room); (case kV => kl_lit); (case kP => exact rfl); (case kG => exact fun _ => rfl); (case kB => exact fun _ => rfl); (case kD => decide +kernel); (case c2 => exact rfl); (case c3 => exact rfl); (case c4 => exact rfl); k_whole; intro D' g' L' h' tk' cells' l0 FG' F' N' Y' B' X' T' l2 l1; (try k_lt l0); (try k_lt l1); k_cells Y'; (try simp only [List.cons_append, List.nil_append] at N'); (try dsimp only); (try k_lift B'); (try k_fold))))
theorem list_of_tup {prog : Program} {w : World} {A : Around} {E : Value → Shared → Prop} {s : Shared} {h₀ : Heap} {L b : Addr} {m : Str → Option Value} {news : List (Addr × Obj)} {vs : List Value} {Q : Value → Shared → Prop} (F : Fr h₀ L s.heap m) (N : News h₀ L s.heap news) (hb : (b, ({ cls := .type "tuple", data := .seq vs.toArray } : Obj)) ∈ news) (hz : vs.length ≤ 8)
    (h : ∀ D c h', Fr h₀ L h' m → News h₀ L h' ((D, listOf vs.toArray c) :: news) → (∀ q ∈ news, q.1 < D) → Q (.ref D) { s with heap := h' }) : wpAny (model prog w) A (call (.type "list") [.ref b]) Q E s :=
  kup_listOfT F N hb (by simp) h (by rw [sizeLine_eq, List.toList_toArray]; omega)
local macro_rules | `(tactic| walk_at "call type:list") => `(tactic| (k_here; (with_reducible show wpAny _ _ (call (Value.type _) [Value.ref _]) _ _ _); k_dflt (refine' list_of_tup ?F ?N ?b ?z ?_; (case F => k_asm); (case N => k_asm); (case b => k_mem); (case z => simp)); intro D' c' h' F' N' l1; (try k_lt l1); (try k_sweep)))
local macro_rules | `(tactic| walk_at "call ref") => `(tactic| (k_here; (with_reducible show wpAny _ _ (call (Value.ref _) [_, _]) _ _ _); k_dflt (refine' call_meth ?m1 ?m2 ?_; (case m1 => k_asm); (case m2 => k_mem); k_whole; refine' dyn_useC ?B ?F ?X ?N ?T ?K ?h1 ?h2 ?hx ?hy ?D ?U ?_; (case B => k_asm); (case F => k_asm); (case X => k_asm); (case N => k_asm); (case T => k_asm); (case K => first | exact rfl | assumption); (case h1 => exact SeqV.sub (by assumption) (by k_sub)); (case h2 => exact SeqV.sub (by assumption) (by k_sub)); (case hx => omega); (case hy => omega); (case D => ktr_room); (case U => ktr_units)); intro t9 h9 tk9 F9 N9; (try dsimp only); (try k_fold)))
theorem star_inst_of {M : Model} {A : Around} {E : Value → Shared → Prop} {s : Shared} {K : Frag} {pos : Pos} {x C : Addr} {ox : Obj} {od : Option Obj} {first : List Value} {Q : Value → Shared → Prop} {args : List (Bool × Sem Value)} (hst : args.any (·.1) = true) (hd : ox.data = .plain)
    (h : wpAny M A (evalArgs (.ref x) true args []) (fun a s₁ => kco_P K x C ox od s₁.heap ∧ wpAny M A (call (.ref x) (first ++ a.pos) a.kw) Q E s₁) E s) : wpAny M A (callWith pos (.ref x) first args []) Q E s := by
  unfold callWith
  refine wpAny_bind (wpAny_holding (wpAny_mono h (fun a s₁ h₁ => wpAny_bind (wpAny_standAt ?_)) fun _ _ y => y))
  have L := kco_keeper (M := M) h₁.1.2 hd
  simp only [hst, Bool.true_or]
  refine wpAny_bind (L.here ?_)
  have tail : ∀ {t : Sem Value}, wpAny M A t Q E s₁ → wpAny M A (t >>= fun r => holding [r] point >>= fun _ => pure r) Q E s₁ :=
    fun ht => wpAny_bind (wpAny_mono ht (fun r s₂ hr => wpAny_bind (wpAny_holding (wpAny_point (wpAny_pure hr)))) fun _ _ y => y)
  exact tail (wpAny_operating h₁.2)
theorem star_inst {M : Model} {A : Around} {E : Value → Shared → Prop} {s : Shared} {K : Frag} {env : Env} {pos p : Pos} {x C : Addr} {ox : Obj} {od : Option Obj} {first : List Value} {Q : Value → Shared → Prop} {f : Addr} {e : Expr} (_X : K.In s.heap) (_I : InstAt s.heap x ox C od) (hd : ox.data = .plain) (_hs : findIn K (.ref C) "__call__" = some (some (.ref f)))
    (h : wpAny M A (eval e env) (fun v s₁ => StarOf M A E v (fun vs s₂ => kco_P K x C ox od s₂.heap ∧ wpAny M A (call (.ref x) (first ++ vs)) Q E s₂) s₁) E s)
    (he : starEach [.Starred e p] env = [(true, eval e env)] := by rfl) :
    wpAny M A (callWith pos (.ref x) first (backTo pos (starEach [.Starred e p] env)) []) Q E s := by
  rw [he]
  exact star_inst_of rfl hd (ks_lone h)
local macro_rules | `(tactic| walk_at "callWith ref") => `(tactic| (k_here; (with_reducible show wpAny _ _ (callWith _ (Value.ref _) _ (backTo _ (starEach [Expr.Starred _ _] _)) []) _ _ _); kco_here; k_dflt (refine' star_inst ?k1 ?k2 ?k3 ?k4 ?_; (case k1 => k_in); (case k2 => k_inst); (case k3 => rfl); (case k4 => k_is); k_whole)))
local macro_rules | `(tactic| walk_at "call ref") => `(tactic| (k_here; (with_reducible show wpAny _ _ (call (Value.ref _) [_, _]) _ _ _); (with_reducible rename Mark 7 => hM7); k_dflt (refine' call_meth ?m1 ?m2 ?_; (case m1 => k_asm); (case m2 => k_mem); k_whole; refine' dyn_useCr ?B ?F ?X ?N ?T ?K ?h1 ?h2 ?hx ?hy ?D ?U ?hr ?_; (case B => k_asm); (case F => k_asm); (case X => k_asm); (case N => k_asm); (case T => k_asm); (case K => first | exact rfl | assumption); (case h1 => exact SeqV.sub (by assumption) (by k_sub)); (case h2 => exact SeqV.sub (by assumption) (by k_sub)); (case hr => with_reducible assumption); (case hx => omega); (case hy => omega); (case D => ktr_room); (case U => ktr_units)); intro t9 h9 tk9 F9 N9; (try dsimp only); (try k_fold)))
theorem rowAcc_len {x : List Nat} : ∀ (c : List (Nat × Nat)) (r : List Nat), (rowAcc x r c).length = r.length + c.length
  | [], r => rfl
  | (i, j) :: c, r => by rw [rowAcc, rowAcc_len c, List.length_cons, List.length_cons]; omega
theorem valid_top {x y : List Nat} {t s : Nat} {c : List (Nat × Nat)} (h : Valid x y t s c) : c.length ≤ t := by
  induction h with
  | nil => exact Nat.zero_le _
  | cons h1 _ _ _ ih => rw [List.length_cons]; omega
theorem told_len (x y : List Nat) : (told x y).length ≤ x.length := by
  rw [told, rowAcc_len, List.length_nil, Nat.zero_add]
  exact valid_top (greedy_ok _ _ _ (Nat.le_refl _)).1
theorem toArr_len {r : List Nat} {n : Nat} (h : r.length ≤ n) : Str.length ⟨r.toArray⟩ ≤ n := by
  show r.toArray.size ≤ n
  rw [List.size_toArray]; exact h
local macro_rules | `(tactic| walk_at "call type:map") => `(tactic| (k_here; k_dflt (refine' map_K ?F ?N ?t ?_; (case F => k_asm); (case N => k_asm); (case t => k_mem); k_whole); intro I' h' F' N' l1; have l9 := l1; (try k_lt l1)))
local macro_rules | `(tactic| walk_at "call builtin:max") => `(tactic| (k_here; k_dflt (refine' max_K ?hh ?F ?N ?t ?lt ?h1 ?h2 ?hs ?hx ?hy ?_; (case hh => exact rfl); (case F => k_asm); (case N => k_asm); (case t => k_mem); (case lt => assumption); (case h1 => assumption); (case h2 => assumption); (case hs => k_sub); (case hx => omega); (case hy => omega); k_whole); intro h' tk' u' F' N'))
local macro_rules | `(tactic| walk_at "call builtin:str.join") => `(tactic| (k_here; k_dflt (refine' join_seq ?hh ?hv ?F ?N ?hs ?hf ?_; (case hh => exact rfl); (case hv => assumption); (case F => k_asm); (case N => k_asm); (case hs => k_sub); (case hf => omega); k_whole); intro h' tk' t' F' N'))
def lawR2 {h₀ h : Heap} {L : Addr} {m : Str → Option Value} (_F : Fr h₀ L h m) (a b : List Nat) (s : Shared) (f : Flow) (s' : Shared) : Prop :=
  f = .next ∧ ∃ (h' : Heap) (tk : Nat) (m' : Str → Option Value) (news : List (Addr × Obj)) (v1 v2 : Value) (t1 t2 t3 t4 : Tok), s' = { s with heap := h', toks := tk } ∧ Fr h₀ L h' m' ∧ News h₀ L h' news ∧ SeqV news v1 a ∧ SeqV news v2 b ∧
    Has m' [(Str.ofString "first", .str ⟨a.toArray⟩ t1), (Str.ofString "second", .str ⟨b.toArray⟩ t2), (Str.ofString "due", .str ⟨(told a b).toArray⟩ t3), (Str.ofString "back", .str ⟨(told b a).toArray⟩ t4), (Str.ofString "one", v1), (Str.ofString "other", v2)]
theorem carried_seq : ∀ {us : List Value} {c : List Nat}, CarriedAll us (List.map PyData.str (c.map fun n => (⟨#[n]⟩ : Str))) → LetAre us c := by
  intro us c
  induction c generalizing us with
  | nil => intro h; cases h; exact ⟨rfl, fun i n h => by rw [List.getElem?_nil] at h; cases h⟩
  | cons c cs ih =>
    intro h
    cases h with
    | cons h1 r =>
      cases h1 with
      | str _ t =>
        obtain ⟨h1, h2⟩ := ih r
        refine ⟨by rw [List.length_cons, List.length_cons, h1], fun i n h => ?_⟩
        cases i with
        | zero =>
          rw [List.getElem?_cons_zero] at h ⊢
          cases h
          exact ⟨t, rfl⟩
        | succ i =>
          rw [List.getElem?_cons_succ] at h ⊢
          exact h2 i n h
theorem carried_seqL {us : List Value} {c : List Nat} (h : CarriedAll us (List.map PyData.str (List.filter (fun _ => true) (signs ⟨c.toArray⟩)))) : LetAre us c := by
  have e : List.filter (fun _ => true) (signs ⟨c.toArray⟩) = c.map fun n => (⟨#[n]⟩ : Str) := by
    rw [List.filter_eq_self.mpr (fun _ _ => rfl)]; rfl
  rw [e] at h
  exact carried_seq h
theorem seqV_of {us : List Value} {c : List Nat} {news : List (Addr × Obj)} {l : Addr} {k : Nat} (h : LetAre us c) (hm : (l, listOf us.toArray k) ∈ news) : SeqV news (.ref l) c := .inr ⟨l, us, k, rfl, hm, h⟩
theorem lawR2_of {h₀ h : Heap} {L : Addr} {m : Str → Option Value} {F : Fr h₀ L h m} {a b : List Nat} {s : Shared} {h' : Heap} {tk : Nat} {m' : Str → Option Value} {news : List (Addr × Obj)} {v1 v2 : Value} {t1 t2 t3 t4 : Tok} (F' : Fr h₀ L h' m') (N : News h₀ L h' news) (h1 : SeqV news v1 a) (h2 : SeqV news v2 b)
    (hm : Has m' [(Str.ofString "first", .str ⟨a.toArray⟩ t1), (Str.ofString "second", .str ⟨b.toArray⟩ t2), (Str.ofString "due", .str ⟨(told a b).toArray⟩ t3), (Str.ofString "back", .str ⟨(told b a).toArray⟩ t4), (Str.ofString "one", v1), (Str.ofString "other", v2)]) :
    lawR2 F a b s .next { s with heap := h', toks := tk } := ⟨rfl, h', tk, m', news, v1, v2, t1, t2, t3, t4, rfl, F', N, h1, h2, hm⟩
theorem law_cut2 {h₀ : Heap} {L : Addr} {m : Str → Option Value} {M : Model} {A : Around} {env : Env} {E : Value → Shared → Prop} {Q : Flow → Shared → Prop} {s : Shared} {l : List Stmt} {a b : List Nat} (F : Fr h₀ L s.heap m) (n : Nat)
    (h1 : wpAny M A (execs (l.take n) env) (lawR2 F a b s) E s) (h2 : ∀ s', lawR2 F a b s .next s' → wpAny M A (execs (l.drop n) env) Q E s') : wpAny M A (execs l env) Q E s := by
  refine execs_split n (wpAny_mono h1 (fun f s' h => ?_) fun _ _ e => e)
  obtain ⟨rfl, r⟩ := id h
  exact h2 s' h

def lawD (w : World) (k1 k2 k3 k4 : Tok) : List DictEntry := [{ hash := PyData.keyHash w.params (Str.ofString "qval"), key := .str (Str.ofString "qval") k1, val := .int 1 k2 }, { hash := PyData.keyHash w.params (Str.ofString "test_func"), key := .str (Str.ofString "test_func") k3, val := .ref 100 }, { hash := PyData.keyHash w.params (Str.ofString "external"), key := .str (Str.ofString "external") k4, val := .bool true }]
def lawR3 {h₀ h : Heap} {L : Addr} {m : Str → Option Value} (_F : Fr h₀ L h m) (w : World) (a b : List Nat) (v1 v2 : Value) (news : List (Addr × Obj)) (s : Shared) (f : Flow) (s' : Shared) : Prop :=
  f = .next ∧ ∃ (h' : Heap) (tk : Nat) (m' : Str → Option Value) (x d : Addr) (k1 k2 k3 k4 t1 t2 t3 : Tok), s' = { s with heap := h', toks := tk } ∧ Fr h₀ L h' m' ∧ News h₀ L h' ((x, instObj 225 d) :: (d, dictOf (lawD w k1 k2 k3 k4) 3) :: news) ∧
    Has m' [(Str.ofString "first", .str ⟨a.toArray⟩ t1), (Str.ofString "second", .str ⟨b.toArray⟩ t2), (Str.ofString "due", .str ⟨(told a b).toArray⟩ t3), (Str.ofString "one", v1), (Str.ofString "other", v2), (Str.ofString "plain", .ref x)]
theorem lawR3_of {h₀ h : Heap} {L : Addr} {m : Str → Option Value} {F : Fr h₀ L h m} {w : World} {a b : List Nat} {v1 v2 : Value} {news led : List (Addr × Obj)} {s : Shared} {h' : Heap} {tk : Nat} {m' : Str → Option Value} {x d : Addr} {k1 k2 k3 k4 t1 t2 t3 : Tok} (F' : Fr h₀ L h' m') (N : News h₀ L h' led) 
    (hm : Has m' [(Str.ofString "first", .str ⟨a.toArray⟩ t1), (Str.ofString "second", .str ⟨b.toArray⟩ t2), (Str.ofString "due", .str ⟨(told a b).toArray⟩ t3), (Str.ofString "one", v1), (Str.ofString "other", v2), (Str.ofString "plain", .ref x)])
    (hx : (x, instObj 225 d) ∈ led) (hd : (d, dictOf (lawD w k1 k2 k3 k4) 3) ∈ led) (hn : ∀ p ∈ news, p ∈ led) :
    lawR3 F w a b v1 v2 news s .next { s with heap := h', toks := tk } := by
  refine ⟨rfl, h', tk, m', x, d, k1, k2, k3, k4, t1, t2, t3, rfl, F', News.sub N ?_, hm⟩
  intro p hp
  rcases List.mem_cons.mp hp with rfl | hp
  · exact hx
  · rcases List.mem_cons.mp hp with rfl | hp
    · exact hd
    · exact hn p hp
theorem law_cut3 {h₀ : Heap} {L : Addr} {m : Str → Option Value} {M : Model} {A : Around} {env : Env} {E : Value → Shared → Prop} {Q : Flow → Shared → Prop} {s : Shared} {l : List Stmt} {w : World} {a b : List Nat} {v1 v2 : Value} {news : List (Addr × Obj)} (F : Fr h₀ L s.heap m) (n : Nat)
    (h1 : wpAny M A (execs (l.take n) env) (lawR3 F w a b v1 v2 news s) E s) (h2 : ∀ s', lawR3 F w a b v1 v2 news s .next s' → wpAny M A (execs (l.drop n) env) Q E s') : wpAny M A (execs l env) Q E s := by
  refine execs_split n (wpAny_mono h1 (fun f s' h => ?_) fun _ _ e => e)
  obtain ⟨rfl, r⟩ := id h
  exact h2 s' h
set_option maxRecDepth 100000 in
set_option maxHeartbeats 8000000 in
theorem law1 : PySem.Challenge.rw_fq5037_01.Holds := PySem.Mine.hd01 (by
  k_go0
  (all_goals try k_fold)
  rename Fr _ _ _ _ => F₀
  refine law_cut F₀ 4 ?first ?second
  case first =>
    dsimp only [List.take]
    k_steps
    all_goals (
      rename Fr _ _ _ _ => F₂
      rename News _ _ _ _ => N₂
      rename IntsAre _ _ => I₂
      refine go (law_loop rfl I₂ F₂ N₂ ?turn ?done)
      case done =>
        rintro m₁ a b ta tb h₁ tk₁ ha hb hm F₃ N₃
        exact wpAny_execs_nil (lawR_of ha hb hm F₃ N₃)
      case turn =>
        rintro n tn a b ta tb m₁ h₁ tk₁ I oI hI1 hI2 ha hb F₃ N₃
        dsimp only [ov] at F₃
        rename _ < _ => hlt
        have hD : _ ≠ _ := Nat.ne_of_gt hlt
        rcases k01 n with hk | hk
        all_goals k_steps
        all_goals (
          try (
            rename Fr _ _ _ _ => F₄
            rename News _ _ _ _ => N₄
            refine go (lst_set2 F₄ N₄ hI2 hD hk (by simp) (by decide) rfl ?_)
            clear F₄ N₄
            intro h₅ F₅ N₅)
          k_steps
          rename Fr _ _ _ _ => F₆
          rename News _ _ _ _ => N₆
          first
            | exact lJ_end F₆ N₆ hI1 hI2 (by omega) (by omega) (.cons rfl (.cons rfl (.cons rfl .nil)))
            | fail "turn"))
  case second =>
    rintro s' ⟨-, h', tk, m', hd, th, l, c, a, b, ta, tb, rfl, F₁, N₁, ha, hb, hm⟩
    replace F₁ := hm.fr F₁
    dsimp only [ov] at F₁
    dsimp only [List.drop]
    refine law_cut2 (a := a) (b := b) F₁ 4 ?x ?y
    case x =>
      dsimp only [List.take]
      k_steps
      all_goals (
        rename Fr _ _ _ _ => F₉
        rename News _ _ _ _ => N₉)
      · rename CarriedAll _ _ => H2
        replace H2 := carried_seqL H2
        rename CarriedAll _ _ => H1
        replace H1 := carried_seqL H1
        exact lawR2_of F₉ N₉ (seqV_of H1 (by k_mem)) (seqV_of H2 (by k_mem)) (.cons rfl (.cons rfl (.cons rfl (.cons rfl (.cons rfl (.cons rfl .nil))))))
      · exact lawR2_of F₉ N₉ (.inl ⟨_, rfl⟩) (.inl ⟨_, rfl⟩) (.cons rfl (.cons rfl (.cons rfl (.cons rfl (.cons rfl (.cons rfl .nil))))))
    case y =>
      rintro s₂ ⟨-, h₂, tk₂, m₂, news, v1, v2, t1, t2, t3, t4, rfl, F₂, N₂, hv1, hv2, hm₂⟩
      replace F₂ := hm₂.fr F₂
      dsimp only [ov] at F₂
      dsimp only [List.drop]
      rename World => w
      refine law_cut3 (w := w) (a := a) (b := b) (v1 := v1) (v2 := v2) (news := news) F₂ 4 ?lp3 ?lq3
      case lp3 =>
        dsimp only [List.take]
        k_steps
        all_goals (
          first
            | (exfalso; rename (_ != _) = true => hne; simp at hne; done)
            | skip)
        all_goals (
          rename Fr _ _ _ _ => F₉
          rename News _ _ _ _ => N₉
          exact lawR3_of F₉ N₉ (.cons rfl (.cons rfl (.cons rfl (.cons rfl (.cons rfl (.cons rfl .nil)))))) (by k_mem) (by k_mem) (by k_sub))
      case lq3 =>
        rintro s₃ ⟨-, h₃, tk₃, m₃, x, d, k1, k2, k3, k4, t1, t2, t3, rfl, F₃, N₃, hm₃⟩
        clear F₂ N₂
        replace F₃ := hm₃.fr F₃
        dsimp only [ov] at F₃
        dsimp only [lawD] at N₃
        dsimp only [List.drop]
        clear hm₃ hm₂
        obtain ⟨r, hab⟩ : ∃ r, told a b = r := ⟨_, rfl⟩
        rw [hab] at F₃
        have hM : Mark 7 := .mk
        have hr5 : Str.length ⟨r.toArray⟩ ≤ 5 := toArr_len (Nat.le_trans (hab ▸ told_len a b) ha)
        have ha5 : Str.length ⟨a.toArray⟩ ≤ 5 := toArr_len ha
        have hae : Str.length ⟨a.toArray⟩ = a.length := by simp [Str.length]
        have hbe : Str.length ⟨b.toArray⟩ = b.length := by simp [Str.length]
        have hb5 : Str.length ⟨b.toArray⟩ ≤ 4 := toArr_len hb
        iterate 124 (first | (k_unfold; (try dsimp only)) | (k_end; wrow_close) | walk1 | (dsimp only; walk1) | (leave1; try dsimp only) | skip)
        any_goals (rename _ ≠ _ => hne; exact absurd rfl hne)
        k_steps)
end Mine

set_option maxRecDepth 100000 in
set_option maxHeartbeats 8000000 in
theorem PySem.Challenge.cw_fq5037_01_holds : PySem.Challenge.rw_fq5037_01.Holds :=
  Mine.law1
