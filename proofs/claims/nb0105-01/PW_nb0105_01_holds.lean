import PyProof.Rows.All
import Wide.All
import OpenK.AllK
import Wide.FinOn
import PySem.Challenge.RW_nb0105_01
set_option Elab.async false
set_option maxRecDepth 100000
set_option maxHeartbeats 8000000
namespace Mine
def sdGo (new : Int) (xs : List Int) (pos : Nat) : List Int :=
  if 0 < pos then
    if new < xs.getD ((pos - 1) / 2) 0 then sdGo new (xs.set pos (xs.getD ((pos - 1) / 2) 0)) ((pos - 1) / 2)
    else xs.set pos new
  else xs.set pos new
termination_by pos
decreasing_by omega
def suGo (xs : List Int) (pos : Nat) : List Int × Nat :=
  if 2 * pos + 1 < xs.length then
    if 2 * pos + 2 < xs.length ∧ ¬ xs.getD (2 * pos + 1) 0 < xs.getD (2 * pos + 2) 0 then suGo (xs.set pos (xs.getD (2 * pos + 2) 0)) (2 * pos + 2)
    else suGo (xs.set pos (xs.getD (2 * pos + 1) 0)) (2 * pos + 1)
  else (xs, pos)
termination_by xs.length - pos
decreasing_by all_goals (rw [List.length_set]; omega)
def su (xs : List Int) : List Int :=
  sdGo (xs.getD 0 0) ((suGo xs 0).1.set (suGo xs 0).2 (xs.getD 0 0)) (suGo xs 0).2
def hpush (xs : List Int) (x : Int) : List Int := sdGo x (xs ++ [x]) xs.length
def hpopV (xs : List Int) : Int := if 0 < xs.dropLast.length then xs.dropLast.getD 0 0 else xs.getLastD 0
def hpopL (xs : List Int) : List Int := if 0 < xs.dropLast.length then su (xs.dropLast.set 0 (xs.getLastD 0)) else []
def ppV (xs : List Int) (x : Int) : Int := if 0 < xs.length ∧ xs.getD 0 0 < x then xs.getD 0 0 else x
def ppL (xs : List Int) (x : Int) : List Int := if 0 < xs.length ∧ xs.getD 0 0 < x then su (xs.set 0 x) else xs

def putS (lo hi : List Int) (x : Int) : List Int × List Int :=
  if (ppL lo (-x)).length < (hpush hi (-(ppV lo (-x)))).length then (hpush (ppL lo (-x)) (-(hpopV (hpush hi (-(ppV lo (-x)))))), hpopL (hpush hi (-(ppV lo (-x)))))
  else (ppL lo (-x), hpush hi (-(ppV lo (-x))))

def srt (xs : List Int) : List Int := xs.mergeSort (fun a b => decide (a ≤ b))
theorem srt_perm (xs : List Int) : (srt xs).Perm xs := List.mergeSort_perm ..
theorem srt_rising (xs : List Int) : (srt xs).Pairwise (· ≤ ·) := by
  have h := List.pairwise_mergeSort (le := fun (a b : Int) => decide (a ≤ b)) (fun a b c h1 h2 => by simp at h1 h2 ⊢; omega) (fun a b => by simp; omega) xs
  exact h.imp (fun h => by simpa using h)
theorem srt_length (xs : List Int) : (srt xs).length = xs.length := (srt_perm xs).length_eq
theorem srt_of {ns xs : List Int} (p : ns.Perm xs) (o : ns.Pairwise (· ≤ ·)) : ns = srt xs :=
  List.Perm.eq_of_pairwise (fun _ _ _ _ h1 h2 => Int.le_antisymm h1 h2) o (srt_rising xs) (p.trans (srt_perm xs).symm)
def medLow (xs : List Int) : Int := (srt xs).getD ((xs.length - 1) / 2) 0
def medHigh (xs : List Int) : Int := (srt xs).getD (xs.length / 2) 0
def outStep (n : Nat) (ps : List Int) : List Int := ps ++ [ps.getD (ps.length - 1) 0 + (if ((ps.length : Int) + n) % 2 = 1 then (ps.length : Int) else -(ps.length : Int))]
def outGo (n : Nat) (ps : List Int) : List Int := if ps.length < n then outGo n (outStep n ps) else ps
termination_by n - ps.length
decreasing_by (rw [outStep, List.length_append]; show n - (ps.length + 1) < n - ps.length; omega)
def outw (n : Nat) : List Int := outGo n [((n : Int) - 1) / 2]
theorem sdGo_length (new : Int) : ∀ (pos : Nat) (xs : List Int), (sdGo new xs pos).length = xs.length := by
  intro pos
  induction pos using Nat.strongRecOn with
  | ind pos ih =>
    intro xs
    rw [sdGo]
    split
    · split
      · rw [ih _ (by omega), List.length_set]
      · rw [List.length_set]
    · rw [List.length_set]
theorem suGo_spec (k : Nat) : ∀ (pos : Nat) (xs : List Int), xs.length - pos = k → pos < xs.length → (suGo xs pos).1.length = xs.length ∧ (suGo xs pos).2 < xs.length := by
  induction k using Nat.strongRecOn with
  | ind k ih =>
    intro pos xs hk hp
    rw [suGo]
    split
    · split
      · have h := ih (xs.length - (2 * pos + 2)) (by omega) (2 * pos + 2) (xs.set pos (xs.getD (2 * pos + 2) 0)) (by rw [List.length_set]) (by rw [List.length_set]; omega)
        rw [List.length_set] at h
        exact h
      · have h := ih (xs.length - (2 * pos + 1)) (by omega) (2 * pos + 1) (xs.set pos (xs.getD (2 * pos + 1) 0)) (by rw [List.length_set]) (by rw [List.length_set]; omega)
        rw [List.length_set] at h
        exact h
    · exact ⟨rfl, hp⟩
theorem suGo_nil : suGo [] 0 = ([], 0) := by rw [suGo]; rfl
theorem su_length (xs : List Int) : (su xs).length = xs.length := by
  rw [su, sdGo_length, List.length_set]
  cases xs with
  | nil => rw [suGo_nil]
  | cons x r => exact (suGo_spec _ 0 (x :: r) rfl (Nat.succ_pos _)).1
theorem hpush_length (xs : List Int) (x : Int) : (hpush xs x).length = xs.length + 1 := by
  rw [hpush, sdGo_length, List.length_append]; rfl
theorem hpopL_length (xs : List Int) : (hpopL xs).length = xs.length - 1 := by
  rw [hpopL]
  split
  · rw [su_length, List.length_set, List.length_dropLast]
  · rename_i h
    rw [List.length_dropLast] at h
    show 0 = _
    omega
theorem ppL_length (xs : List Int) (x : Int) : (ppL xs x).length = xs.length := by
  rw [ppL]
  split
  · rw [su_length, List.length_set]
  · rfl
theorem getD_set (xs : List Int) (i j : Nat) (a : Int) (hi : i < xs.length) : (xs.set i a).getD j 0 = if i = j then a else xs.getD j 0 := by
  rw [List.getD_eq_getElem?_getD, List.getD_eq_getElem?_getD, List.getElem?_set]
  by_cases e : i = j
  · rw [if_pos e, if_pos e, if_pos hi]; rfl
  · rw [if_neg e, if_neg e]
theorem getD_mem {xs : List Int} {i : Nat} (h : i < xs.length) : xs.getD i 0 ∈ xs := by
  rw [List.getD_eq_getElem?_getD, List.getElem?_eq_getElem h]
  exact List.getElem_mem h
theorem set_perm : ∀ (xs : List Int) (i : Nat) (a : Int), i < xs.length → (xs.set i a).Perm (a :: xs.eraseIdx i)
  | [], _, _, h => absurd h (Nat.not_lt_zero _)
  | _ :: _, 0, _, _ => .refl _
  | x :: r, i + 1, a, h => ((set_perm r i a (Nat.lt_of_succ_lt_succ h)).cons x).trans (.swap ..)
theorem perm_erase : ∀ (xs : List Int) (i : Nat), i < xs.length → (xs.getD i 0 :: xs.eraseIdx i).Perm xs
  | [], _, h => absurd h (Nat.not_lt_zero _)
  | _ :: _, 0, _ => .refl _
  | x :: r, i + 1, h => by
    show (r.getD i 0 :: x :: r.eraseIdx i).Perm (x :: r)
    exact (List.Perm.swap x (r.getD i 0) _).trans ((perm_erase r i (Nat.lt_of_succ_lt_succ h)).cons x)
theorem move_perm {xs : List Int} {i j : Nat} (hi : i < xs.length) (hj : j < xs.length) (hne : i ≠ j) : ((xs.set i (xs.getD j 0)).eraseIdx j).Perm (xs.eraseIdx i) := by
  have h1 := set_perm xs i (xs.getD j 0) hi
  have h2 := perm_erase (xs.set i (xs.getD j 0)) j (by rw [List.length_set]; exact hj)
  rw [getD_set _ _ _ _ hi, if_neg hne] at h2
  exact (h2.trans h1).cons_inv

def IsHeap (xs : List Int) : Prop := ∀ i, 0 < i → i < xs.length → xs.getD ((i - 1) / 2) 0 ≤ xs.getD i 0
/-- a heap but for the place pos -/
def Hole (xs : List Int) (pos : Nat) : Prop := ∀ i, 0 < i → i < xs.length → i ≠ pos → (i - 1) / 2 ≠ pos → xs.getD ((i - 1) / 2) 0 ≤ xs.getD i 0
/-- above the place pos nothing is greater than what is below it -/
def Over (xs : List Int) (pos : Nat) : Prop := 0 < pos → ∀ i, 0 < i → i < xs.length → (i - 1) / 2 = pos → xs.getD ((pos - 1) / 2) 0 ≤ xs.getD i 0

theorem heap_set {xs : List Int} {pos : Nat} {new : Int} (hp : pos < xs.length) (hh : Hole xs pos) (hc : ∀ i, 0 < i → i < xs.length → (i - 1) / 2 = pos → new ≤ xs.getD i 0) (hu : 0 < pos → xs.getD ((pos - 1) / 2) 0 ≤ new) : IsHeap (xs.set pos new) := by
  intro i h0 hi
  rw [List.length_set] at hi
  rw [getD_set _ _ _ _ hp, getD_set _ _ _ _ hp]
  by_cases e1 : pos = i
  · rw [if_pos e1, if_neg (by omega)]
    subst e1
    exact hu h0
  · rw [if_neg e1]
    by_cases e2 : pos = (i - 1) / 2
    · rw [if_pos e2]
      exact hc i h0 hi e2.symm
    · rw [if_neg e2]
      exact hh i h0 hi (fun e => e1 e.symm) (fun e => e2 e.symm)
theorem sd_spec (new : Int) : ∀ (pos : Nat) (xs : List Int), pos < xs.length → Hole xs pos → Over xs pos → (∀ i, 0 < i → i < xs.length → (i - 1) / 2 = pos → new ≤ xs.getD i 0) →
    IsHeap (sdGo new xs pos) ∧ (sdGo new xs pos).Perm (new :: xs.eraseIdx pos) := by
  intro pos
  induction pos using Nat.strongRecOn with
  | ind pos ih =>
    intro xs hp hh ho hc
    rw [sdGo]
    split
    · rename_i h0
      have hq : (pos - 1) / 2 < xs.length := by omega
      split
      · rename_i hlt
        have r := ih ((pos - 1) / 2) (by omega) (xs.set pos (xs.getD ((pos - 1) / 2) 0)) (by rw [List.length_set]; exact hq) ?_ ?_ ?_
        · exact ⟨r.1, r.2.trans ((move_perm hp hq (by omega)).cons _)⟩
        · intro i i0 il n1 n2
          rw [List.length_set] at il
          rw [getD_set _ _ _ _ hp, getD_set _ _ _ _ hp]
          by_cases e1 : pos = i
          · subst e1; exact absurd rfl n2
          · rw [if_neg e1]
            by_cases e2 : pos = (i - 1) / 2
            · rw [if_pos e2]
              exact ho h0 i i0 il e2.symm
            · rw [if_neg e2]
              exact hh i i0 il (fun e => e1 e.symm) (fun e => e2 e.symm)
        · intro q0 i i0 il e
          rw [List.length_set] at il
          rw [getD_set _ _ _ _ hp, getD_set _ _ _ _ hp, if_neg (by omega)]
          have u1 := hh ((pos - 1) / 2) q0 hq (by omega) (by omega)
          by_cases e1 : pos = i
          · rw [if_pos e1]
            exact u1
          · rw [if_neg e1]
            have u2 := hh i i0 il (fun e => e1 e.symm) (by omega)
            rw [e] at u2
            exact Int.le_trans u1 u2
        · intro i i0 il e
          rw [List.length_set] at il
          rw [getD_set _ _ _ _ hp]
          by_cases e1 : pos = i
          · rw [if_pos e1]
            exact Int.le_of_lt hlt
          · rw [if_neg e1]
            have u2 := hh i i0 il (fun e => e1 e.symm) (by omega)
            rw [e] at u2
            exact Int.le_trans (Int.le_of_lt hlt) u2
      · rename_i hlt
        exact ⟨heap_set hp hh hc fun _ => Int.not_lt.mp hlt, set_perm xs pos new hp⟩
    · rename_i h0
      exact ⟨heap_set hp hh hc fun h => absurd h h0, set_perm xs pos new hp⟩
theorem su_step {xs : List Int} {pos c : Nat} (hp : pos < xs.length) (hc : c < xs.length) (h0 : 0 < c) (hpc : (c - 1) / 2 = pos) (hh : Hole xs pos) (ho : Over xs pos) (hs : ∀ i, 0 < i → i < xs.length → (i - 1) / 2 = pos → xs.getD c 0 ≤ xs.getD i 0) :
    Hole (xs.set pos (xs.getD c 0)) c ∧ Over (xs.set pos (xs.getD c 0)) c := by
  constructor
  · intro i i0 il n1 n2
    rw [List.length_set] at il
    rw [getD_set _ _ _ _ hp, getD_set _ _ _ _ hp]
    by_cases e1 : pos = i
    · rw [if_pos e1, if_neg (by omega)]
      subst e1
      exact ho i0 c h0 hc hpc
    · rw [if_neg e1]
      by_cases e2 : pos = (i - 1) / 2
      · rw [if_pos e2]
        exact hs i i0 il e2.symm
      · rw [if_neg e2]
        exact hh i i0 il (fun e => e1 e.symm) (fun e => e2 e.symm)
  · intro _ i i0 il e
    rw [List.length_set] at il
    rw [getD_set _ _ _ _ hp, getD_set _ _ _ _ hp, hpc, if_pos rfl, if_neg (by omega)]
    have u := hh i i0 il (by omega) (by omega)
    rw [e] at u
    exact u
theorem su_go (k : Nat) : ∀ (pos : Nat) (xs : List Int), xs.length - pos = k → pos < xs.length → Hole xs pos → Over xs pos →
    (suGo xs pos).1.length = xs.length ∧ (suGo xs pos).2 < xs.length ∧ Hole (suGo xs pos).1 (suGo xs pos).2 ∧ Over (suGo xs pos).1 (suGo xs pos).2 ∧ xs.length ≤ 2 * (suGo xs pos).2 + 1 ∧ ((suGo xs pos).1.eraseIdx (suGo xs pos).2).Perm (xs.eraseIdx pos) := by
  induction k using Nat.strongRecOn with
  | ind k ih =>
    intro pos xs hk hp hh ho
    rw [suGo]
    split
    · rename_i h1
      split
      · rename_i h2
        obtain ⟨h2, h3⟩ := h2
        have st := su_step (c := 2 * pos + 2) hp h2 (by omega) (by omega) hh ho (fun i i0 il e => by
          have : i = 2 * pos + 1 ∨ i = 2 * pos + 2 := by omega
          rcases this with e | e
          · subst e; exact Int.not_lt.mp h3
          · subst e; exact Int.le_refl _)
        have r := ih (xs.length - (2 * pos + 2)) (by omega) (2 * pos + 2) (xs.set pos (xs.getD (2 * pos + 2) 0)) (by rw [List.length_set]) (by rw [List.length_set]; exact h2) st.1 st.2
        rw [List.length_set] at r
        exact ⟨r.1, r.2.1, r.2.2.1, r.2.2.2.1, r.2.2.2.2.1, r.2.2.2.2.2.trans (move_perm hp h2 (by omega))⟩
      · rename_i h2
        have st := su_step (c := 2 * pos + 1) hp h1 (by omega) (by omega) hh ho (fun i i0 il e => by
          have : i = 2 * pos + 1 ∨ i = 2 * pos + 2 := by omega
          rcases this with e | e
          · subst e; exact Int.le_refl _
          · subst e
            by_cases h3 : xs.getD (2 * pos + 1) 0 < xs.getD (2 * pos + 2) 0
            · exact Int.le_of_lt h3
            · exact absurd ⟨il, h3⟩ h2)
        have r := ih (xs.length - (2 * pos + 1)) (by omega) (2 * pos + 1) (xs.set pos (xs.getD (2 * pos + 1) 0)) (by rw [List.length_set]) (by rw [List.length_set]; exact h1) st.1 st.2
        rw [List.length_set] at r
        exact ⟨r.1, r.2.1, r.2.2.1, r.2.2.2.1, r.2.2.2.2.1, r.2.2.2.2.2.trans (move_perm hp h1 (by omega))⟩
    · rename_i h1
      exact ⟨rfl, hp, hh, ho, by show xs.length ≤ 2 * pos + 1; omega, .refl _⟩
theorem su_spec {xs : List Int} (h : 0 < xs.length) (hh : Hole xs 0) : IsHeap (su xs) ∧ (su xs).Perm xs := by
  obtain ⟨r1, r2, r3, r4, r5, r6⟩ := su_go _ 0 xs rfl h hh (fun h => absurd h (Nat.lt_irrefl 0))
  have r := sd_spec (xs.getD 0 0) (suGo xs 0).2 ((suGo xs 0).1.set (suGo xs 0).2 (xs.getD 0 0)) (by rw [List.length_set, r1]; exact r2) ?_ ?_ ?_
  · refine ⟨r.1, r.2.trans ?_⟩
    rw [List.eraseIdx_set_eq]
    exact (r6.cons _).trans (perm_erase xs 0 h)
  · intro i i0 il n1 n2
    rw [List.length_set, r1] at il
    rw [getD_set _ _ _ _ (by rw [r1]; exact r2), getD_set _ _ _ _ (by rw [r1]; exact r2), if_neg (fun e => n2 e.symm), if_neg (fun e => n1 e.symm)]
    exact r3 i i0 (by rw [r1]; exact il) n1 n2
  · intro _ i i0 il e
    rw [List.length_set, r1] at il
    omega
  · intro i i0 il e
    rw [List.length_set, r1] at il
    omega
theorem heap_root {xs : List Int} (hh : IsHeap xs) : ∀ i, i < xs.length → xs.getD 0 0 ≤ xs.getD i 0 := by
  intro i
  induction i using Nat.strongRecOn with
  | ind i ih =>
    intro hi
    by_cases h0 : 0 < i
    · exact Int.le_trans (ih ((i - 1) / 2) (by omega) (by omega)) (hh i h0 hi)
    · have e : i = 0 := by omega
      subst e
      exact Int.le_refl _
theorem heap_min {xs : List Int} (hh : IsHeap xs) : ∀ v ∈ xs, xs.getD 0 0 ≤ v := by
  intro v hv
  obtain ⟨i, hi, e⟩ := List.mem_iff_getElem.mp hv
  have := heap_root hh i hi
  rw [List.getD_eq_getElem?_getD (i := i), List.getElem?_eq_getElem hi, e] at this
  exact this
theorem push_spec {xs : List Int} (x : Int) (hh : IsHeap xs) : IsHeap (hpush xs x) ∧ (hpush xs x).Perm (x :: xs) := by
  have g : ∀ i, i < xs.length → (xs ++ [x]).getD i 0 = xs.getD i 0 := fun i hi => by
    rw [List.getD_eq_getElem?_getD, List.getD_eq_getElem?_getD, List.getElem?_append_left hi]
  have l : (xs ++ [x]).length = xs.length + 1 := by rw [List.length_append]; rfl
  have r := sd_spec x xs.length (xs ++ [x]) (by omega) ?_ ?_ ?_
  · refine ⟨r.1, r.2.trans ?_⟩
    rw [List.eraseIdx_append_of_length_le (Nat.le_refl _), Nat.sub_self]
    show (x :: (xs ++ [])).Perm _
    rw [List.append_nil]
  · intro i i0 il n1 n2
    rw [g _ (by omega), g _ (by omega)]
    exact hh i i0 (by omega)
  · intro _ i i0 il e
    omega
  · intro i i0 il e
    omega
theorem set0_spec {xs : List Int} (x : Int) (h : 0 < xs.length) (hh : IsHeap xs) : IsHeap (su (xs.set 0 x)) ∧ (xs.getD 0 0 :: su (xs.set 0 x)).Perm (x :: xs) := by
  have r := su_spec (xs := xs.set 0 x) (by rw [List.length_set]; exact h) (fun i i0 il n1 n2 => by
    rw [List.length_set] at il
    rw [getD_set _ _ _ _ h, getD_set _ _ _ _ h, if_neg (fun e => n2 e.symm), if_neg (fun e => n1 e.symm)]
    exact hh i i0 il)
  refine ⟨r.1, ((r.2.trans (set_perm xs 0 x h)).cons _).trans ((List.Perm.swap x (xs.getD 0 0) _).trans ((perm_erase xs 0 h).cons x))⟩
theorem pop_spec {xs : List Int} (h : 0 < xs.length) (hh : IsHeap xs) : IsHeap (hpopL xs) ∧ (hpopV xs :: hpopL xs).Perm xs ∧ hpopV xs = xs.getD 0 0 := by
  have hne : xs ≠ [] := by intro e; subst e; exact absurd h (by decide)
  have e : xs = xs.dropLast ++ [xs.getLastD 0] := by
    rw [List.getLastD_eq_getLast?, List.getLast?_eq_some_getLast hne, Option.getD_some]
    exact (List.dropLast_concat_getLast hne).symm
  generalize xs.dropLast = ys at e
  generalize xs.getLastD 0 = y at e
  subst e
  have e1 : (ys ++ [y]).dropLast = ys := List.dropLast_concat
  have e2 : (ys ++ [y]).getLastD 0 = y := by simp
  have g : ∀ i, i < ys.length → (ys ++ [y]).getD i 0 = ys.getD i 0 := fun i hi => by
    rw [List.getD_eq_getElem?_getD, List.getD_eq_getElem?_getD, List.getElem?_append_left hi]
  have l : (ys ++ [y]).length = ys.length + 1 := by rw [List.length_append]; rfl
  rw [hpopV, hpopL, e1, e2]
  by_cases h0 : 0 < ys.length
  · rw [if_pos h0, if_pos h0]
    have hy : IsHeap ys := fun i i0 il => by
      have := hh i i0 (by omega)
      rw [g _ (by omega), g _ (by omega)] at this
      exact this
    have r := set0_spec y h0 hy
    refine ⟨r.1, r.2.trans ?_, (g 0 h0).symm⟩
    exact (List.perm_append_comm (l₁ := [y]) (l₂ := ys))
  · have e3 : ys = [] := List.eq_nil_of_length_eq_zero (by omega)
    subst e3
    rw [if_neg h0, if_neg h0]
    exact ⟨fun i i0 il => absurd il (Nat.not_lt_zero _), .refl _, rfl⟩
theorem pp_spec {xs : List Int} (x : Int) (hh : IsHeap xs) : IsHeap (ppL xs x) ∧ (ppV xs x :: ppL xs x).Perm (x :: xs) ∧ (∀ v ∈ x :: xs, ppV xs x ≤ v) ∧ (ppV xs x ∈ xs ∨ (ppV xs x = x ∧ ppL xs x = xs)) := by
  rw [ppV, ppL]
  by_cases h : 0 < xs.length ∧ xs.getD 0 0 < x
  · rw [if_pos h, if_pos h]
    have r := set0_spec x h.1 hh
    refine ⟨r.1, r.2, fun v hv => ?_, .inl (getD_mem h.1)⟩
    rcases List.mem_cons.mp hv with e | hv
    · rw [e]; exact Int.le_of_lt h.2
    · exact heap_min hh v hv
  · rw [if_neg h, if_neg h]
    refine ⟨hh, .refl _, fun v hv => ?_, .inr ⟨rfl, rfl⟩⟩
    rcases List.mem_cons.mp hv with e | hv
    · rw [e]; exact Int.le_refl _
    · have hl : 0 < xs.length := List.length_pos_of_mem hv
      have : ¬ xs.getD 0 0 < x := fun h' => h ⟨hl, h'⟩
      exact Int.le_trans (Int.not_lt.mp this) (heap_min hh v hv)
theorem getD_eq {xs : List Int} {i : Nat} (h : i < xs.length) : xs.getD i 0 = xs[i] := by
  rw [List.getD_eq_getElem?_getD, List.getElem?_eq_getElem h]; rfl
theorem rising_le {s : List Int} (o : s.Pairwise (· ≤ ·)) {i j : Nat} (hij : i ≤ j) (hj : j < s.length) : s.getD i 0 ≤ s.getD j 0 := by
  rw [getD_eq hj, getD_eq (Nat.lt_of_le_of_lt hij hj)]
  rcases Nat.lt_or_eq_of_le hij with h | h
  · exact List.pairwise_iff_getElem.mp o i j _ hj h
  · subst h; exact Int.le_refl _
theorem mem_take_get {s : List Int} {k : Nat} {v : Int} (h : v ∈ s.take k) : ∃ i, i < k ∧ i < s.length ∧ v = s.getD i 0 := by
  obtain ⟨i, hi, e⟩ := List.mem_iff_getElem.mp h
  rw [List.length_take] at hi
  refine ⟨i, by omega, by omega, ?_⟩
  rw [getD_eq (by omega), ← e, List.getElem_take]
theorem mem_drop_get {s : List Int} {k : Nat} {v : Int} (h : v ∈ s.drop k) : ∃ i, k ≤ i ∧ i < s.length ∧ v = s.getD i 0 := by
  obtain ⟨i, hi, e⟩ := List.mem_iff_getElem.mp h
  rw [List.length_drop] at hi
  refine ⟨k + i, by omega, by omega, ?_⟩
  rw [getD_eq (by omega), ← e, List.getElem_drop]
theorem filter_ge {s : List Int} {p : Int → Bool} {k : Nat} (hk : k ≤ s.length) (h : ∀ i, i < k → p (s.getD i 0) = true) : k ≤ (s.filter p).length := by
  have e := List.take_append_drop k s
  have e1 : (s.take k).filter p = s.take k := List.filter_eq_self.mpr fun v hv => by
    obtain ⟨i, h1, _, h3⟩ := mem_take_get hv
    rw [h3]; exact h i h1
  rw [← e, List.filter_append, List.length_append, e1, List.length_take]
  omega
theorem filter_le {s : List Int} {p : Int → Bool} {k : Nat} (h : ∀ i, k ≤ i → i < s.length → ¬ p (s.getD i 0) = true) : (s.filter p).length ≤ k := by
  have e := List.take_append_drop k s
  have e1 : (s.drop k).filter p = [] := List.filter_eq_nil_iff.mpr fun v hv => by
    obtain ⟨i, h1, h2, h3⟩ := mem_drop_get hv
    rw [h3]; exact h i h1 h2
  have l := List.length_filter_le p (s.take k)
  rw [List.length_take] at l
  rw [← e, List.filter_append, List.length_append, e1, List.length_nil]
  omega
theorem place_counts {s : List Int} (o : s.Pairwise (· ≤ ·)) {i : Nat} (hi : i < s.length) : (s.filter (fun a => decide (a < s.getD i 0))).length ≤ i ∧ i < (s.filter (fun a => decide (a ≤ s.getD i 0))).length := by
  refine ⟨filter_le fun j h1 h2 => ?_, filter_ge (k := i + 1) hi fun j h1 => ?_⟩
  · rw [decide_eq_true_eq]
    exact Int.not_lt.mpr (rising_le o h1 h2)
  · rw [decide_eq_true_eq]
    exact rising_le o (Nat.le_of_lt_succ h1) hi
theorem place_of_counts {s : List Int} (o : s.Pairwise (· ≤ ·)) {i : Nat} {v : Int} (h1 : (s.filter (fun a => decide (a < v))).length ≤ i) (h2 : i < (s.filter (fun a => decide (a ≤ v))).length) : s.getD i 0 = v := by
  have hi : i < s.length := Nat.lt_of_lt_of_le h2 (List.length_filter_le _ _)
  by_cases a : s.getD i 0 < v
  · have := filter_ge (p := fun a => decide (a < v)) (k := i + 1) hi fun j hj => by
      rw [decide_eq_true_eq]
      exact Int.lt_of_le_of_lt (rising_le o (Nat.le_of_lt_succ hj) hi) a
    omega
  · by_cases b : v < s.getD i 0
    · have := filter_le (p := fun a => decide (a ≤ v)) (s := s) (k := i) fun j hj hl => by
        rw [decide_eq_true_eq]
        exact Int.not_le.mpr (Int.lt_of_lt_of_le b (rising_le o hj hl))
      omega
    · omega
theorem counts_of {xs ys : List Int} (p : xs.Perm ys) (q : Int → Bool) : (xs.filter q).length = (ys.filter q).length := (p.filter q).length_eq
theorem srt_counts {xs : List Int} {i : Nat} (hi : i < xs.length) : (xs.filter (fun a => decide (a < (srt xs).getD i 0))).length ≤ i ∧ i < (xs.filter (fun a => decide (a ≤ (srt xs).getD i 0))).length := by
  have h := place_counts (srt_rising xs) (i := i) (by rw [srt_length]; exact hi)
  rw [counts_of (srt_perm xs), counts_of (srt_perm xs)] at h
  exact h
theorem srt_of_counts {xs : List Int} {i : Nat} {v : Int} (h1 : (xs.filter (fun a => decide (a < v))).length ≤ i) (h2 : i < (xs.filter (fun a => decide (a ≤ v))).length) : (srt xs).getD i 0 = v := by
  rw [← counts_of (srt_perm xs)] at h1 h2
  exact place_of_counts (srt_rising xs) h1 h2
theorem filter_lt_of_mem {p : Int → Bool} : ∀ {xs : List Int} {v : Int}, v ∈ xs → ¬ p v = true → (xs.filter p).length < xs.length
  | x :: r, v, hm, hv => by
    rcases List.mem_cons.mp hm with e | hm
    · rw [List.filter_cons_of_neg (by rw [← e]; exact hv)]
      exact Nat.lt_succ_of_le (List.length_filter_le _ _)
    · have := filter_lt_of_mem hm hv
      rw [List.filter_cons]
      split <;> simp only [List.length_cons] <;> omega
/-- two parts, the first not above the second: the greatest of the first, the least of the second -/
theorem split_low {A B front : List Int} {M : Int} (p : (A ++ B).Perm front) (hab : ∀ a ∈ A, ∀ b ∈ B, a ≤ b) (hM : M ∈ A) (hmax : ∀ a ∈ A, a ≤ M) : (srt front).getD (A.length - 1) 0 = M := by
  have hl : 0 < A.length := List.length_pos_of_mem hM
  refine srt_of_counts ?_ ?_
  · rw [← counts_of p, List.filter_append, List.length_append]
    have e1 : B.filter (fun a => decide (a < M)) = [] := List.filter_eq_nil_iff.mpr fun b hb => by
      rw [decide_eq_true_eq]; exact Int.not_lt.mpr (hab M hM b hb)
    have e2 := filter_lt_of_mem (p := fun a => decide (a < M)) hM (by rw [decide_eq_true_eq]; exact Int.lt_irrefl _)
    rw [e1, List.length_nil]
    omega
  · rw [← counts_of p, List.filter_append, List.length_append]
    have e1 : A.filter (fun a => decide (a ≤ M)) = A := List.filter_eq_self.mpr fun a ha => by
      rw [decide_eq_true_eq]; exact hmax a ha
    rw [e1]
    omega
theorem split_high {A B front : List Int} {m : Int} (p : (A ++ B).Perm front) (hab : ∀ a ∈ A, ∀ b ∈ B, a ≤ b) (hm : m ∈ B) (hmin : ∀ b ∈ B, m ≤ b) : (srt front).getD A.length 0 = m := by
  refine srt_of_counts ?_ ?_
  · rw [← counts_of p, List.filter_append, List.length_append]
    have e1 : B.filter (fun a => decide (a < m)) = [] := List.filter_eq_nil_iff.mpr fun b hb => by
      rw [decide_eq_true_eq]; exact Int.not_lt.mpr (hmin b hb)
    have e2 := List.length_filter_le (fun a => decide (a < m)) A
    rw [e1, List.length_nil]
    omega
  · rw [← counts_of p, List.filter_append, List.length_append]
    have e1 : A.filter (fun a => decide (a ≤ m)) = A := List.filter_eq_self.mpr fun a ha => by
      rw [decide_eq_true_eq]; exact hab a ha m hm
    have e2 : 0 < (B.filter (fun a => decide (a ≤ m))).length := List.length_pos_of_mem (List.mem_filter.mpr ⟨hm, by rw [decide_eq_true_eq]; exact Int.le_refl _⟩)
    rw [e1]
    omega

def Inv (front lo hi : List Int) : Prop := IsHeap lo ∧ IsHeap hi ∧ (lo.map (fun a => -a) ++ hi).Perm front ∧ (∀ a ∈ lo, ∀ b ∈ hi, -a ≤ b) ∧ lo.length = (front.length + 1) / 2 ∧ hi.length = front.length / 2
theorem heap_nil : IsHeap [] := fun _ _ h => absurd h (Nat.not_lt_zero _)
theorem inv_nil (R : List Int) : Inv (R.take ([] : List Int).length) [] [] := by
  rw [List.length_nil, List.take_zero]
  exact ⟨heap_nil, heap_nil, .refl _, (fun _ h => nomatch h), rfl, rfl⟩
theorem inv_lens {front lo hi : List Int} (h : Inv front lo hi) : lo.length = (front.length + 1) / 2 ∧ hi.length = front.length / 2 := h.2.2.2.2
theorem neg_map_neg (L : List Int) (V : Int) : (V :: L).map (fun a => -a) = -V :: L.map (fun a => -a) := rfl
theorem put_inv {front lo hi : List Int} {x : Int} (h : Inv front lo hi) : Inv (front ++ [x]) (putS lo hi x).1 (putS lo hi x).2 := by
  obtain ⟨h1, h2, h3, h4, h5, h6⟩ := h
  obtain ⟨p1, p2, p3, p4⟩ := pp_spec (-x) h1
  have hpl := ppL_length lo (-x)
  rw [putS]
  generalize ppL lo (-x) = L at p1 p2 p4 hpl ⊢
  generalize ppV lo (-x) = V at p2 p3 p4 ⊢
  obtain ⟨q1, q2⟩ := push_spec (-V) h2
  have hql := hpush_length hi (-V)
  generalize hpush hi (-V) = H at q1 q2 hql ⊢
  -- the multiset
  have hm : (L.map (fun a => -a) ++ H).Perm (front ++ [x]) := by
    have e1 : (L.map (fun a => -a) ++ H).Perm (L.map (fun a => -a) ++ (-V :: hi)) := (List.perm_append_left_iff _).mpr q2
    have e2 : (L.map (fun a => -a) ++ (-V :: hi)).Perm ((V :: L).map (fun a => -a) ++ hi) := List.perm_middle
    have e3 : ((V :: L).map (fun a => -a) ++ hi).Perm ((-x :: lo).map (fun a => -a) ++ hi) := (List.perm_append_right_iff _).mpr (p2.map _)
    have e4 : ((-x :: lo).map (fun a => -a) ++ hi) = x :: (lo.map (fun a => -a) ++ hi) := by
      show - -x :: _ = _
      rw [Int.neg_neg]; rfl
    have e5 : (x :: (lo.map (fun a => -a) ++ hi)).Perm (x :: front) := h3.cons x
    have e6 : (x :: front).Perm (front ++ [x]) := List.perm_append_comm (l₁ := [x]) (l₂ := front)
    exact e1.trans (e2.trans (e3.trans (e4 ▸ e5.trans e6)))
  have hLV : ∀ a ∈ L, V ≤ a := fun a ha => p3 a (p2.mem_iff.mp (List.mem_cons_of_mem _ ha))
  have hLH : ∀ a ∈ L, ∀ b ∈ H, -a ≤ b := by
    intro a ha b hb
    rcases List.mem_cons.mp (q2.mem_iff.mp hb) with e | hb
    · rw [e]; have := hLV a ha; omega
    · rcases p4 with hv | ⟨_, e⟩
      · have := h4 V hv b hb
        have := hLV a ha
        omega
      · subst e
        exact h4 a ha b hb
  have hfl : (front ++ [x]).length = front.length + 1 := by rw [List.length_append]; rfl
  by_cases hc : L.length < H.length
  · rw [if_pos hc]
    have hH0 : 0 < H.length := by omega
    obtain ⟨r1, r2, r3⟩ := pop_spec hH0 q1
    have hrl := hpopL_length H
    have hmin : ∀ b ∈ H, hpopV H ≤ b := fun b hb => by rw [r3]; exact heap_min q1 b hb
    generalize hpopL H = H2 at r1 r2 hrl ⊢
    generalize hpopV H = W at r2 hmin ⊢
    obtain ⟨t1, t2⟩ := push_spec (-W) p1
    have htl := hpush_length L (-W)
    generalize hpush L (-W) = L2 at t1 t2 htl ⊢
    have hsub : ∀ b ∈ H2, b ∈ H := fun b hb => r2.mem_iff.mp (List.mem_cons_of_mem _ hb)
    refine ⟨t1, r1, ?_, ?_, ?_, ?_⟩
    · refine List.Perm.trans ?_ hm
      have e1 : (L2.map (fun a => -a) ++ H2).Perm ((-W :: L).map (fun a => -a) ++ H2) := (List.perm_append_right_iff _).mpr (t2.map _)
      have e2 : ((-W :: L).map (fun a => -a) ++ H2) = W :: (L.map (fun a => -a) ++ H2) := by
        show - -W :: _ = _
        rw [Int.neg_neg]; rfl
      have e3 : (W :: (L.map (fun a => -a) ++ H2)).Perm (L.map (fun a => -a) ++ (W :: H2)) := List.perm_middle.symm
      have e4 : (L.map (fun a => -a) ++ (W :: H2)).Perm (L.map (fun a => -a) ++ H) := (List.perm_append_left_iff _).mpr r2
      exact e1.trans (e2 ▸ e3.trans e4)
    · intro a ha b hb
      rcases List.mem_cons.mp (t2.mem_iff.mp ha) with e | ha
      · rw [e, Int.neg_neg]; exact hmin b (hsub b hb)
      · exact hLH a ha b (hsub b hb)
    · show L2.length = _
      omega
    · show H2.length = _
      omega
  · rw [if_neg hc]
    refine ⟨p1, q1, hm, hLH, ?_, ?_⟩
    · show L.length = _
      omega
    · show H.length = _
      omega
theorem low_max {lo : List Int} (h : IsHeap lo) (h0 : 0 < lo.length) : -(lo.getD 0 0) ∈ lo.map (fun a => -a) ∧ ∀ a ∈ lo.map (fun a => -a), a ≤ -(lo.getD 0 0) := by
  refine ⟨List.mem_map.mpr ⟨_, getD_mem h0, rfl⟩, fun a ha => ?_⟩
  obtain ⟨z, hz, rfl⟩ := List.mem_map.mp ha
  have := heap_min h z hz
  omega
theorem inv_med {front lo hi : List Int} (V : Inv front lo hi) (h0 : 0 < front.length) :
    medLow front = -(lo.getD 0 0) ∧ (lo.length = hi.length → medHigh front = hi.getD 0 0) ∧ (¬ lo.length = hi.length → medHigh front = -(lo.getD 0 0)) := by
  obtain ⟨h1, h2, h3, h4, h5, h6⟩ := V
  have hab : ∀ a ∈ lo.map (fun a => -a), ∀ b ∈ hi, a ≤ b := fun a ha b hb => by
    obtain ⟨z, hz, rfl⟩ := List.mem_map.mp ha
    exact h4 z hz b hb
  have hlm : (lo.map (fun a => -a)).length = lo.length := List.length_map ..
  obtain ⟨m1, m2⟩ := low_max h1 (by omega)
  have s1 := split_low h3 hab m1 m2
  rw [hlm] at s1
  refine ⟨?_, fun e => ?_, fun e => ?_⟩
  · rw [medLow, ← s1]; congr 1; omega
  · have s2 := split_high h3 hab (getD_mem (i := 0) (by omega)) (heap_min h2)
    rw [hlm] at s2
    rw [medHigh, ← s2]; congr 1; omega
  · rw [medHigh, ← s1]; congr 1; omega
theorem srt_mem {xs : List Int} {i : Nat} (h : i < xs.length) : (srt xs).getD i 0 ∈ xs := (srt_perm xs).mem_iff.mp (getD_mem (by rw [srt_length]; exact h))
theorem turn_facts {R pre ys ys2 : List Int} {k : Int} (hk : k = 1 + (pre.length : Int)) (hlt : pre.length < R.length) (hRb : ∀ v ∈ R, 0 ≤ v ∧ v < 40) (V : Inv (R.take pre.length ++ [R.getD (k - 1).toNat 0]) ys ys2) :
    medLow (R.take k.toNat) = -ys.getD (Int.toNat 0) 0 ∧ (ys.length = ys2.length → medHigh (R.take k.toNat) = ys2.getD (Int.toNat 0) 0) ∧ (¬ ys.length = ys2.length → medHigh (R.take k.toNat) = -ys.getD (Int.toNat 0) 0) ∧
    (0 ≤ medLow (R.take k.toNat) ∧ medLow (R.take k.toNat) < 40) ∧ (0 ≤ medHigh (R.take k.toNat) ∧ medHigh (R.take k.toNat) < 40) ∧
    (∀ r : Int, 2 * r ≤ k - 1 → k - 1 < 2 * r + 2 → (((R.take k.toNat).filter (fun a => decide (a < medLow (R.take k.toNat)))).length : Int) ≤ r ∧ r < (((R.take k.toNat).filter (fun a => decide (a ≤ medLow (R.take k.toNat)))).length : Int)) ∧
    (∀ r : Int, 2 * r ≤ k → k < 2 * r + 2 → (((R.take k.toNat).filter (fun a => decide (a < medHigh (R.take k.toNat)))).length : Int) ≤ r ∧ r < (((R.take k.toNat).filter (fun a => decide (a ≤ medHigh (R.take k.toNat)))).length : Int)) ∧
    Inv (R.take (pre ++ [k]).length) ys ys2 := by
  have e1 : (k - 1).toNat = pre.length := by omega
  have e2 : k.toNat = pre.length + 1 := by omega
  have e3 : (pre ++ [k]).length = pre.length + 1 := by rw [List.length_append]; rfl
  have e4 : R.take pre.length ++ [R.getD (k - 1).toNat 0] = R.take (pre.length + 1) := by
    rw [e1, getD_eq hlt, List.take_succ_eq_append_getElem hlt]
  rw [e4] at V
  rw [e2, e3]
  have hl : (R.take (pre.length + 1)).length = pre.length + 1 := by rw [List.length_take]; omega
  have hb : ∀ v ∈ R.take (pre.length + 1), 0 ≤ v ∧ v < 40 := fun v hv => hRb v (List.mem_of_mem_take hv)
  generalize R.take (pre.length + 1) = f at V hl hb ⊢
  obtain ⟨m1, m2, m3⟩ := inv_med V (by omega)
  refine ⟨m1, m2, m3, hb _ (srt_mem (by omega)), hb _ (srt_mem (by omega)), fun r r1 r2 => ?_, fun r r1 r2 => ?_, V⟩
  · have c := srt_counts (xs := f) (i := (f.length - 1) / 2) (by omega)
    rw [medLow]
    omega
  · have c := srt_counts (xs := f) (i := f.length / 2) (by omega)
    rw [medHigh]
    omega
/-- the place of turn i, of n in all -/
def pl (n i : Nat) : Int := if i = 0 then ((n : Int) - 1) / 2 else if ((n : Int) - i) % 2 = 0 then ((n : Int) - i) / 2 - 1 else ((n : Int) + i - 1) / 2
theorem pl_step (n j : Nat) (h : 0 < j) : pl n (j - 1) + (if ((j : Int) + n) % 2 = 1 then (j : Int) else -(j : Int)) = pl n j := by
  unfold pl
  rw [if_neg (by omega : ¬ j = 0)]
  by_cases h1 : j = 1
  · subst h1
    rw [if_pos (by omega)]
    split <;> split <;> omega
  · rw [if_neg (by omega)]
    split <;> split <;> split <;> omega
def pls (n j : Nat) : List Int := (List.range j).map (pl n)
theorem pls_length (n j : Nat) : (pls n j).length = j := by rw [pls, List.length_map, List.length_range]
theorem pls_get (n : Nat) {i j : Nat} (h : i < j) : (pls n j).getD i 0 = pl n i := by
  rw [getD_eq (by rw [pls_length]; exact h)]
  simp [pls]
theorem outStep_pls (n j : Nat) (h : 0 < j) : outStep n (pls n j) = pls n (j + 1) := by
  rw [outStep, pls_length, pls_get n (by omega), pl_step n j h]
  show _ = (List.range (j + 1)).map (pl n)
  rw [List.range_succ, List.map_append]
  rfl
theorem outGo_pls (n : Nat) (d : Nat) : ∀ j, 0 < j → j + d = n → outGo n (pls n j) = pls n n := by
  induction d with
  | zero =>
    intro j h e
    rw [outGo, pls_length, if_neg (by omega)]
    have : j = n := by omega
    rw [this]
  | succ d ih =>
    intro j h e
    rw [outGo, pls_length, if_pos (by omega), outStep_pls n j h]
    exact ih (j + 1) (by omega) (by omega)
theorem outw_is {n : Nat} (h : 0 < n) : outw n = pls n n := outGo_pls n (n - 1) 1 (by decide) (by omega)

def Inv2 (R : List Int) (i : Nat) (lo hi left : List Int) : Prop :=
  IsHeap lo ∧ IsHeap hi ∧ (lo.map (fun a => -a) ++ hi).Perm left ∧ (lo.map (fun a => -a)).Perm ((srt R).take lo.length) ∧ hi.Perm ((srt R).drop (R.length - hi.length)) ∧ lo.length + hi.length + i = R.length ∧ lo.length = (if i = 0 then (R.length + 1) / 2 else (R.length - i) / 2)
theorem inv2_start {R lo hi : List Int} {n : Nat} (hn : n = R.length) (h : Inv (R.take n) lo hi) : Inv2 R 0 lo hi R := by
  subst hn
  rw [List.take_length] at h
  obtain ⟨h1, h2, h3, h4, h5, h6⟩ := h
  have hab : ∀ a ∈ lo.map (fun a => -a), ∀ b ∈ hi, a ≤ b := fun a ha b hb => by
    obtain ⟨z, hz, rfl⟩ := List.mem_map.mp ha
    exact h4 z hz b hb
  -- the rising row is the rising first part and the rising second part
  have e : srt R = srt (lo.map (fun a => -a)) ++ srt hi := by
    symm
    refine srt_of ?_ ?_
    · exact ((srt_perm _).append (srt_perm _)).trans h3
    · rw [List.pairwise_append]
      exact ⟨srt_rising _, srt_rising _, fun a ha b hb => hab a ((srt_perm _).mem_iff.mp ha) b ((srt_perm _).mem_iff.mp hb)⟩
  have l1 : (srt (lo.map (fun a => -a))).length = lo.length := by rw [srt_length, List.length_map]
  have hl : lo.length + hi.length = R.length := by
    have := h3.length_eq
    rw [List.length_append, List.length_map] at this
    exact this
  refine ⟨h1, h2, h3, ?_, ?_, by omega, by rw [if_pos rfl]; exact h5⟩
  · rw [e, List.take_append_of_le_length (by omega), List.take_of_length_le (by omega)]
    exact (srt_perm _).symm
  · have e3 : R.length - hi.length = (srt (lo.map (fun a => -a))).length := by omega
    rw [e, e3, List.drop_append_of_le_length (Nat.le_refl _), List.drop_length, List.nil_append]
    exact (srt_perm _).symm
theorem inv2_end {R lo hi left : List Int} (hR : 0 < R.length) (h : Inv2 R (outw R.length).length lo hi left) : lo = [] ∧ hi = [] := by
  obtain ⟨_, _, _, _, _, h6, _⟩ := h
  rw [outw_is hR, pls_length] at h6
  exact ⟨List.eq_nil_of_length_eq_zero (by omega), List.eq_nil_of_length_eq_zero (by omega)⟩
theorem turn2_facts {R pre post lo hi left : List Int} {k : Int} (hR : 0 < R.length ∧ R.length ≤ 12) (he : outw R.length = pre ++ k :: post) (hRb : ∀ v ∈ R, 0 ≤ v ∧ v < 40) (V : Inv2 R pre.length lo hi left) :
    (0 ≤ k ∧ k < R.length) ∧ (lo.length ≤ 12 ∧ hi.length ≤ 12 ∧ 0 < left.length ∧ left.length ≤ 12) ∧ (hi.length ≤ lo.length → 0 < lo.length) ∧ (¬ hi.length ≤ lo.length → 0 < hi.length) ∧
    (hi.length ≤ lo.length → medLow left = -(hpopV lo) ∧ (srt R).getD k.toNat 0 = -(hpopV lo) ∧ (0 ≤ -(hpopV lo) ∧ -(hpopV lo) < 40) ∧ -(hpopV lo) ∈ left ∧ Inv2 R (pre ++ [k]).length (hpopL lo) hi (left.erase (-(hpopV lo)))) ∧
    (¬ hi.length ≤ lo.length → medLow left = hpopV hi ∧ (srt R).getD k.toNat 0 = hpopV hi ∧ (0 ≤ hpopV hi ∧ hpopV hi < 40) ∧ hpopV hi ∈ left ∧ Inv2 R (pre ++ [k]).length lo (hpopL hi) (left.erase (hpopV hi))) := by
  obtain ⟨h1, h2, h3, h4, h5, h6, h7⟩ := V
  have hlen : pre.length < R.length := by
    have := congrArg List.length he
    rw [outw_is hR.1, pls_length, List.length_append, List.length_cons] at this
    omega
  have hk : k = pl R.length pre.length := by
    have h := pls_get R.length hlen
    rw [← outw_is hR.1, he] at h
    rw [← h, List.getD_eq_getElem?_getD, List.getElem?_append_right (Nat.le_refl _), Nat.sub_self]
    rfl
  have e3 : (pre ++ [k]).length = pre.length + 1 := by rw [List.length_append]; rfl
  rw [e3]
  have hS : (srt R).length = R.length := srt_length R
  have hll : left.length = lo.length + hi.length := by
    have := h3.length_eq
    rw [List.length_append, List.length_map] at this
    exact this.symm
  have hlm : (lo.map (fun a => -a)).length = lo.length := List.length_map ..
  have hab : ∀ a ∈ lo.map (fun a => -a), ∀ b ∈ hi, a ≤ b := fun a ha b hb => by
    obtain ⟨i, i1, i2, i3⟩ := mem_take_get (h4.mem_iff.mp ha)
    obtain ⟨j, j1, j2, j3⟩ := mem_drop_get (h5.mem_iff.mp hb)
    rw [i3, j3]
    exact rising_le (srt_rising R) (by omega) j2
  have hmR : ∀ i, i < R.length → 0 ≤ (srt R).getD i 0 ∧ (srt R).getD i 0 < 40 := fun i hi => hRb _ (srt_mem hi)
  generalize hi' : pre.length = i at *
  -- the place
  have hpl : (hi.length ≤ lo.length → k = (lo.length : Int) - 1) ∧ (¬ hi.length ≤ lo.length → k = (R.length : Int) - hi.length) := by
    unfold pl at hk
    by_cases h0 : i = 0
    · rw [if_pos h0] at hk h7
      exact ⟨fun _ => by omega, fun _ => by omega⟩
    · rw [if_neg h0] at hk h7
      split at hk
      · exact ⟨fun _ => by omega, fun _ => by omega⟩
      · exact ⟨fun _ => by omega, fun _ => by omega⟩
  have hlo : hi.length ≤ lo.length → 0 < lo.length := fun h => by omega
  have hhi : ¬ hi.length ≤ lo.length → 0 < hi.length := fun h => by omega
  have hbal : (hi.length ≤ lo.length → (left.length - 1) / 2 = lo.length - 1) ∧ (¬ hi.length ≤ lo.length → (left.length - 1) / 2 = lo.length) := by
    by_cases h0 : i = 0
    · rw [if_pos h0] at h7
      exact ⟨fun _ => by omega, fun _ => by omega⟩
    · rw [if_neg h0] at h7
      exact ⟨fun _ => by omega, fun _ => by omega⟩
  have hnext : (hi.length ≤ lo.length → lo.length - 1 = (R.length - (i + 1)) / 2) ∧ (¬ hi.length ≤ lo.length → lo.length = (R.length - (i + 1)) / 2) := by
    by_cases h0 : i = 0
    · rw [if_pos h0] at h7
      exact ⟨fun _ => by omega, fun _ => by omega⟩
    · rw [if_neg h0] at h7
      exact ⟨fun _ => by omega, fun _ => by omega⟩
  refine ⟨?_, ⟨by omega, by omega, by omega, by omega⟩, hlo, hhi, fun hc => ?_, fun hc => ?_⟩
  · by_cases hc : hi.length ≤ lo.length
    · have := hpl.1 hc
      have := hlo hc
      omega
    · have := hpl.2 hc
      have := hhi hc
      omega
  · -- out of the lower heap
    have l0 := hlo hc
    obtain ⟨q1, q2, q3⟩ := pop_spec l0 h1
    have hql := hpopL_length lo
    obtain ⟨m1, m2⟩ := low_max h1 l0
    rw [← q3] at m1 m2
    have s1 := split_low h3 hab m1 m2
    rw [hlm] at s1
    -- its place in the rising row
    have s2 : (srt R).getD (lo.length - 1) 0 = -(hpopV lo) := by
      refine Int.le_antisymm ?_ ?_
      · refine m2 _ (h4.mem_iff.mpr ?_)
        rw [getD_eq (by omega)]
        exact List.mem_take_iff_getElem.mpr ⟨lo.length - 1, by omega, rfl⟩
      · obtain ⟨j, j1, j2, j3⟩ := mem_take_get (h4.mem_iff.mp m1)
        rw [j3]
        exact rising_le (srt_rising R) (by omega) (by omega)
    have hkk : k.toNat = lo.length - 1 := by have := hpl.1 hc; omega
    have hmem : -(hpopV lo) ∈ left := h3.mem_iff.mp (List.mem_append_left _ m1)
    have hq : (-(hpopV lo) :: (hpopL lo).map (fun a => -a)).Perm (lo.map (fun a => -a)) := q2.map (fun a => -a)
    refine ⟨?_, ?_, ?_, hmem, q1, h2, ?_, ?_, h5, by omega, ?_⟩
    · rw [medLow, hbal.1 hc]; exact s1
    · rw [hkk]; exact s2
    · rw [← s2]; exact hmR _ (by omega)
    · have c1 : (-(hpopV lo) :: ((hpopL lo).map (fun a => -a) ++ hi)).Perm left := ((List.perm_append_right_iff hi).mpr hq).trans h3
      exact (c1.trans (List.perm_cons_erase hmem)).cons_inv
    · have c1 : (-(hpopV lo) :: (hpopL lo).map (fun a => -a)).Perm (-(hpopV lo) :: (srt R).take (lo.length - 1)) := by
        refine (hq.trans h4).trans ?_
        have e : lo.length = (lo.length - 1) + 1 := by omega
        rw [e, List.take_succ_eq_append_getElem (by omega), ← getD_eq (by omega), s2, ← e]
        exact List.perm_append_comm (l₂ := [-(hpopV lo)])
      rw [hql]
      exact c1.cons_inv
    · rw [if_neg (by omega), hql]; exact hnext.1 hc
  · -- out of the upper heap
    have l0 := hhi hc
    obtain ⟨q1, q2, q3⟩ := pop_spec l0 h2
    have hql := hpopL_length hi
    have m1 : hpopV hi ∈ hi := by rw [q3]; exact getD_mem l0
    have m2 : ∀ b ∈ hi, hpopV hi ≤ b := by rw [q3]; exact heap_min h2
    have s1 := split_high h3 hab m1 m2
    rw [hlm] at s1
    have s2 : (srt R).getD (R.length - hi.length) 0 = hpopV hi := by
      refine Int.le_antisymm ?_ ?_
      · obtain ⟨j, j1, j2, j3⟩ := mem_drop_get (h5.mem_iff.mp m1)
        rw [j3]
        exact rising_le (srt_rising R) j1 j2
      · refine m2 _ (h5.mem_iff.mpr ?_)
        rw [getD_eq (by omega), List.drop_eq_getElem_cons (by omega)]
        exact List.mem_cons_self ..
    have hkk : k.toNat = R.length - hi.length := by have := hpl.2 hc; omega
    have hmem : hpopV hi ∈ left := h3.mem_iff.mp (List.mem_append_right _ m1)
    refine ⟨?_, ?_, ?_, hmem, h1, q1, ?_, h4, ?_, by omega, ?_⟩
    · rw [medLow, hbal.2 hc]; exact s1
    · rw [hkk]; exact s2
    · rw [← s2]; exact hmR _ (by omega)
    · have c1 : (hpopV hi :: (lo.map (fun a => -a) ++ hpopL hi)).Perm left := (List.perm_middle.symm.trans ((List.perm_append_left_iff _).mpr q2)).trans h3
      exact (c1.trans (List.perm_cons_erase hmem)).cons_inv
    · have c1 : (hpopV hi :: hpopL hi).Perm (hpopV hi :: (srt R).drop (R.length - (hi.length - 1))) := by
        refine (q2.trans h5).trans ?_
        rw [List.drop_eq_getElem_cons (by omega), ← getD_eq (by omega), s2]
        have e : R.length - (hi.length - 1) = R.length - hi.length + 1 := by omega
        rw [e]
      rw [hql]
      exact c1.cons_inv
    · rw [if_neg (by omega)]; exact hnext.2 hc
end Mine

open PySem PySem.W PyProof.Rows PySem.Calls
namespace Mine
open_top hd for PySem.Challenge.rw_nb0105_01
local macro_rules | `(tactic| k_all) => `(tactic| assumption)

def Stop (P : Prop) : Prop := P
theorem Stop.of {P : Prop} (h : Stop P) : P := h
local macro_rules | `(tactic| walk_at "KswEnd") => `(tactic| (refine Stop.of ?_))
theorem shr1 {prog : Program} {w : World} {A : Around} {E : Value → Shared → Prop} {s : Shared} {a : Int} {t u : Tok} {Q : Value → Shared → Prop}
    (h : ∀ r : Int, 2 * r ≤ a → a < 2 * r + 2 → Q (.int r s.toks) { s with toks := s.toks + 1 }) : wpAny (model prog w) A (binaryOp .RShift (.int a t) (.int 1 u)) Q E s := by
  refine rshift_int (by decide) (h _ ?_ ?_)
  · have e : (2 : Int) ^ (Int.toNat 1) = 2 := by decide
    rw [e, Int.fdiv_eq_ediv_of_nonneg _ (by decide)]; omega
  · have e : (2 : Int) ^ (Int.toNat 1) = 2 := by decide
    rw [e, Int.fdiv_eq_ediv_of_nonneg _ (by decide)]; omega
local macro_rules | `(tactic| walk_at "binaryOp RShift int int") => `(tactic| (k_here; (refine shr1 ?_); intro r9 hr1 hr2))
theorem sdGo_stop {new : Int} {xs : List Int} {pos : Int} (h : ¬ 0 < pos) : sdGo new xs pos.toNat = xs.set pos.toNat new := by
  rw [sdGo, if_neg (by omega)]
theorem sdGo_break {new r pos : Int} {xs : List Int} (h : 0 < pos) (h1 : 2 * r ≤ pos - 1) (h2 : pos - 1 < 2 * r + 2) (hn : ¬ new < xs.getD r.toNat 0) : sdGo new xs pos.toNat = xs.set pos.toNat new := by
  have e : (pos.toNat - 1) / 2 = r.toNat := by omega
  rw [sdGo, if_pos (by omega), e, if_neg hn]
theorem sdGo_step {new r pos : Int} {xs : List Int} (h : 0 < pos) (h1 : 2 * r ≤ pos - 1) (h2 : pos - 1 < 2 * r + 2) (hn : new < xs.getD r.toNat 0) : sdGo new xs pos.toNat = sdGo new (xs.set pos.toNat (xs.getD r.toNat 0)) r.toNat := by
  have e : (pos.toNat - 1) / 2 = r.toNat := by omega
  rw [sdGo, if_pos (by omega), e, if_pos hn]

theorem sd_tells {w : World} {dp un : Nat} {gd : Option (List Code)} {cn : Str} {cs : Scope} {a : Addr} {ccd : Value} {cl : List (Str × Addr)} {outer : List Env} {A₀ : Around} {base h₀ : Heap} {L : Addr} {m : Str → Option Value} {mean : ExcName → Option Value} {mg mb : Str → Option Value} {s : Shared} {Q E : Value → Shared → Prop}
    {hp : Addr} {vs : List Value} {xs : List Int} {n : Nat} {pos : Int} {t1 t2 : Tok} {rest : List (Addr × Obj)}
    (B : Below A₀ base outer h₀) (F : Fr h₀ L s.heap m) (X : (hd.heap_39 w.params).In h₀) (N : News h₀ L s.heap ((hp, PySem.W.listOf vs.toArray n) :: rest)) (T : Top hd.view_39 (looseW hd.view_39 []) mean mg mb h₀) (hk : cs.kind = .function)
    (hr : ∀ p ∈ rest, p.1 ≠ hp) (hI : IntsAre vs xs) (h0 : 0 ≤ pos) (h1 : pos < xs.length) (hz : xs.length < 1000)
    (hdp : dp + 1 < recursionLimit) (hun : un + 8 < cLine)
    (ret : ∀ vs' n' h' tk', Fr h₀ L h' m → News h₀ L h' ((hp, PySem.W.listOf vs'.toArray n') :: rest) → IntsAre vs' (sdGo (xs.getD pos.toNat 0) xs pos.toNat) → Q .none { s with heap := h', toks := tk' }) :
    wpAny (model PySem.Challenge.rw_nb0105_01.row.prog w) (ktrTop dp un gd cn cs L a ccd cl outer) (call (.ref 69) [.ref hp, .int 0 t1, .int pos t2]) Q E s := by
  revert X; k_fill; intro X
  k_with_none
  w_top off
  k_with "exec While Compare cons nil" => (
    (rename Fr _ _ _ _ => lF'); (rename News _ _ _ _ => lN');
    (with_unfolding_all refine' ksw_while (σ := List Value × List Int × Nat × Int × Tok) (fun c => (hp, PySem.W.listOf c.1.toArray c.2.2.1) :: rest) (fun c => [(Str.ofString "pos", Value.int c.2.2.2.1 c.2.2.2.2)]) (fun c => IntsAre c.1 c.2.1) [Str.ofString "parentpos", Str.ofString "parent"] (fun c => 0 ≤ c.2.2.2.1 ∧ c.2.2.2.1 < c.2.1.length ∧ c.2.1.length = xs.length ∧ sdGo (xs.getD pos.toNat 0) c.2.1 c.2.2.2.1.toNat = sdGo (xs.getD pos.toNat 0) xs pos.toNat) (fun c => c.2.2.2.1.toNat) (vs, xs, n, pos, t2) lF' lN' ?kf ?kk ?kp ?_);
    (case kf => exact hI);
    (case kk => kst_all);
    (case kp => exact ⟨h0, h1, rfl, rfl⟩);
    (clear lF' lN');
    (rintro ⟨vs1, xs1, n1, pos1, tk1⟩ kU kH kTk kFacts ⟨i1, i2, i3, i4⟩ kFr kNews);
    (dsimp only [kstB] at kFacts i1 i2 i3 i4 kFr kNews);
    (try k_fold))
  refine wpAny_call ?_
  k_dflt cell_enter
  k_steps
  · refine ksw_end (_, _, _, _, _) (by assumption) (by assumption) (fun _ h => h) (by assumption) (by kst_all) (by ksw_same) ?_ ?_
    · dsimp only
      refine ⟨by omega, by rw [List.length_set]; omega, by rw [List.length_set]; assumption, ?_⟩
      rw [← i4]
      exact (sdGo_step (by assumption) (by assumption) (by assumption) (by assumption)).symm
    · dsimp only
      omega
  · refine ret _ _ _ _ (by assumption) (by assumption) ?_
    rw [← i4, sdGo_break (by assumption) (by assumption) (by assumption) (by assumption)]
    assumption
  · refine ret _ _ _ _ (by assumption) (by assumption) ?_
    rw [← i4, sdGo_stop (by assumption)]
    assumption
local macro_rules | `(tactic| walk_at "exec While Compare cons nil") => `(tactic| (refine Stop.of ?_))
local macro_rules | `(tactic| walk_at "call ref") => `(tactic| ((with_reducible show wpAny _ _ (call (Value.ref 69) _) _ _ _); k_dflt (refine' sd_tells ?k1 ?k2 ?k3 ?k4 ?k5 ?kK ?kr ?ki ?k0 ?kl ?kz ?kd ?ku ?_; (case k1 => k_asm); (case k2 => k_asm); (case k3 => k_asm); (case k4 => k_asm); (case k5 => k_asm); (case kK => first | exact rfl | assumption); (case kr => assumption); (case ki => assumption); (case k0 => l_idx); (case kl => ksa_idx); (case kz => ksa_idx); (case kd => ktr_room); (case ku => ktr_units)); intro vs9 n9 h9 tk9 F9 N9 I9; (try dsimp only); (try k_fold)))

theorem suGo_stop {xs : List Int} {pos : Int} {k : Nat} (h0 : 0 ≤ pos) (he : xs.length = k) (h : ¬ 2 * pos + 1 < k) : suGo xs pos.toNat = (xs, pos.toNat) := by
  rw [suGo, if_neg (by omega)]
theorem suGo_left {xs : List Int} {pos c : Int} {k : Nat} (h0 : 0 ≤ pos) (hc : c = 2 * pos + 1) (he : xs.length = k) (h : c < k) (hn : ¬ c + 1 < k ∨ xs.getD c.toNat 0 < xs.getD (c + 1).toNat 0) : suGo xs pos.toNat = suGo (xs.set pos.toNat (xs.getD c.toNat 0)) c.toNat := by
  have e : 2 * pos.toNat + 1 = c.toNat := by omega
  have e2 : 2 * pos.toNat + 2 = (c + 1).toNat := by omega
  rw [suGo, if_pos (by omega), e, e2, if_neg]
  intro ⟨a, b⟩
  rcases hn with hn | hn
  · omega
  · exact b hn
theorem suGo_right {xs : List Int} {pos c : Int} {k : Nat} (h0 : 0 ≤ pos) (hc : c = 2 * pos + 1) (he : xs.length = k) (h : c < k) (h1 : c + 1 < k) (hn : ¬ xs.getD c.toNat 0 < xs.getD (c + 1).toNat 0) : suGo xs pos.toNat = suGo (xs.set pos.toNat (xs.getD (c + 1).toNat 0)) (c + 1).toNat := by
  have e : 2 * pos.toNat + 1 = c.toNat := by omega
  have e2 : 2 * pos.toNat + 2 = (c + 1).toNat := by omega
  rw [suGo, if_pos (by omega), e, e2, if_pos]
  exact ⟨by omega, hn⟩

theorem su_tells {w : World} {dp un : Nat} {gd : Option (List Code)} {cn : Str} {cs : Scope} {a : Addr} {ccd : Value} {cl : List (Str × Addr)} {outer : List Env} {A₀ : Around} {base h₀ : Heap} {L : Addr} {m : Str → Option Value} {mean : ExcName → Option Value} {mg mb : Str → Option Value} {s : Shared} {Q E : Value → Shared → Prop}
    {hp : Addr} {vs : List Value} {xs : List Int} {n : Nat} {t1 : Tok} {rest : List (Addr × Obj)}
    (B : Below A₀ base outer h₀) (F : Fr h₀ L s.heap m) (X : (hd.heap_39 w.params).In h₀) (N : News h₀ L s.heap ((hp, PySem.W.listOf vs.toArray n) :: rest)) (T : Top hd.view_39 (looseW hd.view_39 []) mean mg mb h₀) (hk : cs.kind = .function)
    (hr : ∀ p ∈ rest, p.1 ≠ hp) (hI : IntsAre vs xs) (h1 : 0 < xs.length) (hz : xs.length < 1000)
    (hdp : dp + 2 < recursionLimit) (hun : un + 16 < cLine)
    (ret : ∀ vs' n' h' tk', Fr h₀ L h' m → News h₀ L h' ((hp, PySem.W.listOf vs'.toArray n') :: rest) → IntsAre vs' (su xs) → Q .none { s with heap := h', toks := tk' }) :
    wpAny (model PySem.Challenge.rw_nb0105_01.row.prog w) (ktrTop dp un gd cn cs L a ccd cl outer) (call (.ref 76) [.ref hp, .int 0 t1]) Q E s := by
  revert X; k_fill; intro X
  k_with_none
  w_top off
  have hl := hI.length
  refine wpAny_call ?_
  k_dflt cell_enter
  k_steps
  unfold Stop
  rename Fr _ _ _ _ => lF
  rename News _ _ _ _ => lN
  with_unfolding_all refine' ksw_while (σ := List Value × List Int × Nat × Int × Tok × Int × Tok) (fun c => (hp, PySem.W.listOf c.1.toArray c.2.2.1) :: rest) (fun c => [(Str.ofString "pos", Value.int c.2.2.2.1 c.2.2.2.2.1), (Str.ofString "childpos", Value.int c.2.2.2.2.2.1 c.2.2.2.2.2.2)]) (fun c => IntsAre c.1 c.2.1) [Str.ofString "rightpos"] (fun c => 0 ≤ c.2.2.2.1 ∧ c.2.2.2.1 < c.2.1.length ∧ c.2.1.length = xs.length ∧ c.2.2.2.2.2.1 = 2 * c.2.2.2.1 + 1 ∧ suGo c.2.1 c.2.2.2.1.toNat = suGo xs 0) (fun c => c.2.1.length - c.2.2.2.1.toNat) (vs, xs, n, 0, t1, 1, _) lF lN ?kf ?kk ?kp ?_
  (case kf => exact hI)
  (case kk => kst_all)
  (case kp => exact ⟨Int.le_refl 0, by dsimp only; omega, rfl, by rfl, rfl⟩)
  clear lF lN
  rintro ⟨vs1, xs1, n1, pos1, tk1, ch1, tk2⟩ kU kH kTk kFacts ⟨i1, i2, i3, i5, i4⟩ kFr kNews
  dsimp only [kstB] at kFacts i1 i2 i3 i4 i5 kFr kNews
  try k_fold
  k_steps
  · refine ksw_end (_, _, _, _, _, _, _) (by assumption) (by assumption) (fun _ h => h) (by assumption) (by kst_all) (by ksw_same) ?_ ?_
    · dsimp only
      refine ⟨by omega, by rw [List.length_set]; omega, by rw [List.length_set]; assumption, rfl, ?_⟩
      rw [← i4]
      exact (suGo_left i1 i5 i3 (by assumption) (.inr (by assumption))).symm
    · dsimp only
      rw [List.length_set]
      omega
  · refine ksw_end (_, _, _, _, _, _, _) (by assumption) (by assumption) (fun _ h => h) (by assumption) (by kst_all) (by ksw_same) ?_ ?_
    · dsimp only
      refine ⟨by omega, by rw [List.length_set]; omega, by rw [List.length_set]; assumption, rfl, ?_⟩
      rw [← i4]
      exact (suGo_right i1 i5 i3 (by assumption) (by assumption) (by assumption)).symm
    · dsimp only
      rw [List.length_set]
      omega
  · refine ksw_end (_, _, _, _, _, _, _) (by assumption) (by assumption) (fun _ h => h) (by assumption) (by kst_all) (by ksw_same) ?_ ?_
    · dsimp only
      refine ⟨by omega, by rw [List.length_set]; omega, by rw [List.length_set]; assumption, rfl, ?_⟩
      rw [← i4]
      exact (suGo_left i1 i5 i3 (by assumption) (.inl (by assumption))).symm
    · dsimp only
      rw [List.length_set]
      omega
  · refine ret _ _ _ _ (by assumption) (by assumption) ?_
    have e : su xs = sdGo ((xs1.set pos1.toNat (xs.getD (Int.toNat 0) 0)).getD pos1.toNat 0) (xs1.set pos1.toNat (xs.getD (Int.toNat 0) 0)) pos1.toNat := by
      have e1 : (xs1.set pos1.toNat (xs.getD (Int.toNat 0) 0)).getD pos1.toNat 0 = xs.getD 0 0 := by
        have hlt : pos1.toNat < xs1.length := by omega
        simp [List.getD_eq_getElem?_getD, List.getElem?_set, hlt]
      rw [e1, su, ← i4, suGo_stop i1 i3 (by omega)]
      rfl
    rw [e]
    assumption
theorem news_tail {h₀ h : Heap} {L : Addr} {p : Addr × Obj} {l : List (Addr × Obj)} (N : News h₀ L h (p :: l)) : News h₀ L h l := fun q hq => N q (List.mem_cons_of_mem _ hq)
theorem news_swap {h₀ h : Heap} {L : Addr} {p q : Addr × Obj} {l : List (Addr × Obj)} (N : News h₀ L h (p :: q :: l)) : News h₀ L h (q :: p :: l) := fun r hr => N r (by
  rcases List.mem_cons.mp hr with e | hr
  · exact List.mem_cons.mpr (.inr (List.mem_cons.mpr (.inl e)))
  · rcases List.mem_cons.mp hr with e | hr
    · exact List.mem_cons.mpr (.inl e)
    · exact List.mem_cons.mpr (.inr (List.mem_cons.mpr (.inr hr))))
theorem pop_split {prog : Program} {w : World} {A : Around} {E : Value → Shared → Prop} {s : Shared} {h₀ : Heap} {L D : Addr} {m : Str → Option Value} {rest : List (Addr × Obj)} {n : Nat} {vs : List Value} {xs : List Int} {Q : Value → Shared → Prop}
    (F : Fr h₀ L s.heap m) (N : News h₀ L s.heap ((D, PySem.W.listOf vs.toArray n) :: rest)) (hr : ∀ p ∈ rest, p.1 ≠ D) (hi : IntsAre vs xs) (hne : 0 < xs.length) (hz : xs.length < 900)
    (h : ∀ h' us ys y t n', xs = ys ++ [y] → IntsAre us ys → ys.length + 1 = xs.length → ys.length < 900 → Fr h₀ L h' m → News h₀ L h' ((D, PySem.W.listOf us.toArray n') :: rest) → Q (.int y t) { s with heap := h' }) :
    wpAny (model prog w) A (call (.builtin "list.pop") [.ref D]) Q E s := by
  have hl := hi.length
  refine kpa_pop F N (.head hr) hi (by omega) (by rw [PySem.sizeLine_eq]; omega) fun h' t F' N' hI' => ?_
  have hne' : xs ≠ [] := by intro e; subst e; exact absurd hne (by decide)
  have e : xs = xs.dropLast ++ [xs.getLastD 0] := by
    rw [List.getLastD_eq_getLast?, List.getLast?_eq_some_getLast hne', Option.getD_some]
    exact (List.dropLast_concat_getLast hne').symm
  have e2 : xs.dropLast.length + 1 = xs.length := by rw [List.length_dropLast]; omega
  exact h h' _ xs.dropLast (xs.getLastD 0) t _ e hI' e2 (by omega) F' N'

theorem q_int {Q : Value → Shared → Prop} {v v' : Int} {t : Tok} {s : Shared} (e : v = v') (h : Q (.int v t) s) : Q (.int v' t) s := e ▸ h
theorem ints_eq {vs : List Value} {ns ns' : List Int} (h : IntsAre vs ns) (e : ns = ns') : IntsAre vs ns' := e ▸ h
theorem hpop_big {xs ys : List Int} {y : Int} (e : xs = ys ++ [y]) (h : 0 < ys.length) : hpopV xs = ys.getD 0 0 ∧ su (ys.set 0 y) = hpopL xs := by
  subst e
  have e1 : (ys ++ [y]).dropLast = ys := List.dropLast_concat
  have e2 : (ys ++ [y]).getLastD 0 = y := by simp
  rw [hpopV, hpopL, e1, e2, if_pos h, if_pos h]
  exact ⟨rfl, rfl⟩
theorem hpop_small {xs ys : List Int} {y : Int} (e : xs = ys ++ [y]) (h : ¬ 0 < ys.length) : hpopV xs = y ∧ ys = hpopL xs := by
  subst e
  have e1 : (ys ++ [y]).dropLast = ys := List.dropLast_concat
  have e2 : (ys ++ [y]).getLastD 0 = y := by simp
  rw [hpopV, hpopL, e1, e2, if_neg h, if_neg h]
  exact ⟨rfl, List.eq_nil_of_length_eq_zero (by omega)⟩

local macro_rules | `(tactic| walk_at "call builtin:list.pop") => `(tactic| (k_here; (with_reducible show wpAny _ _ (call (Value.builtin _) [Value.ref _]) _ _ _); k_dflt (refine' pop_split ?F ?N ?r ?i ?l ?z ?_; (case F => k_asm); (case N => k_asm); (case r => assumption); (case i => assumption); (case l => omega); (case z => omega)); intro h' us9 ys9 y9 t9 n9 e9 I9 l9 z9 F' N'; (try k_sweep)))
local macro_rules | `(tactic| walk_at "call ref") => `(tactic| ((with_reducible show wpAny _ _ (call (Value.ref 69) _) _ _ _); k_dflt (refine' sd_tells ?k1 ?k2 ?k3 ?k4 ?k5 ?kK ?kr ?ki ?k0 ?kl ?kz ?kd ?ku ?_; (case k1 => k_asm); (case k2 => k_asm); (case k3 => k_asm); (case k4 => k_asm); (case k5 => k_asm); (case kK => first | exact rfl | assumption); (case kr => assumption); (case ki => l_ints); (case k0 => l_idx); (case kl => ksa_idx); (case kz => ksa_idx); (case kd => ktr_room); (case ku => ktr_units)); intro vs9 n9 h9 tk9 F9 N9 I9; (try dsimp only); (try k_fold)))
local macro_rules | `(tactic| walk_at "call ref") => `(tactic| ((with_reducible show wpAny _ _ (call (Value.ref 76) _) _ _ _); k_dflt (refine' su_tells ?k1 ?k2 ?k3 ?k4 ?k5 ?kK ?kr ?ki ?kl ?kz ?kd ?ku ?_; (case k1 => k_asm); (case k2 => k_asm); (case k3 => k_asm); (case k4 => first | k_asm | exact news_tail (by k_asm)); (case k5 => k_asm); (case kK => first | exact rfl | assumption); (case kr => assumption); (case ki => assumption); (case kl => ksa_idx); (case kz => ksa_idx); (case kd => ktr_room); (case ku => ktr_units)); intro vs9 n9 h9 tk9 F9 N9 I9; (try dsimp only); (try k_fold)))

theorem push_tells {w : World} {dp un : Nat} {gd : Option (List Code)} {cn : Str} {cs : Scope} {a : Addr} {ccd : Value} {cl : List (Str × Addr)} {outer : List Env} {A₀ : Around} {base h₀ : Heap} {L : Addr} {m : Str → Option Value} {mean : ExcName → Option Value} {mg mb : Str → Option Value} {s : Shared} {Q E : Value → Shared → Prop}
    {hp : Addr} {vs : List Value} {xs : List Int} {n : Nat} {x : Int} {t1 : Tok} {rest : List (Addr × Obj)}
    (B : Below A₀ base outer h₀) (F : Fr h₀ L s.heap m) (X : (hd.heap_39 w.params).In h₀) (N : News h₀ L s.heap ((hp, PySem.W.listOf vs.toArray n) :: rest)) (T : Top hd.view_39 (looseW hd.view_39 []) mean mg mb h₀) (hk : cs.kind = .function)
    (hr : ∀ p ∈ rest, p.1 ≠ hp) (hI : IntsAre vs xs) (hz : xs.length < 900)
    (hdp : dp + 3 < recursionLimit) (hun : un + 24 < cLine)
    (ret : ∀ vs' n' h' tk', Fr h₀ L h' m → News h₀ L h' ((hp, PySem.W.listOf vs'.toArray n') :: rest) → IntsAre vs' (hpush xs x) → Q .none { s with heap := h', toks := tk' }) :
    wpAny (model PySem.Challenge.rw_nb0105_01.row.prog w) (ktrTop dp un gd cn cs L a ccd cl outer) (call (.ref 48) [.ref hp, .int x t1]) Q E s := by
  revert X; k_fill; intro X
  k_with_none
  w_top off
  have hl := hI.length
  refine wpAny_call ?_
  k_dflt cell_enter
  k_steps
  refine ret _ _ _ _ (by assumption) (by assumption) ?_
  have e : ((xs.length + 1 : Nat) - 1 : Int).toNat = xs.length := by omega
  rename IntsAre _ (sdGo _ _ _) => I9
  rw [e] at I9
  have e1 : (xs ++ [x]).getD xs.length 0 = x := by simp
  rw [e1] at I9
  exact I9
theorem pop_tells {w : World} {dp un : Nat} {gd : Option (List Code)} {cn : Str} {cs : Scope} {a : Addr} {ccd : Value} {cl : List (Str × Addr)} {outer : List Env} {A₀ : Around} {base h₀ : Heap} {L : Addr} {m : Str → Option Value} {mean : ExcName → Option Value} {mg mb : Str → Option Value} {s : Shared} {Q E : Value → Shared → Prop}
    {hp : Addr} {vs : List Value} {xs : List Int} {n : Nat} {rest : List (Addr × Obj)}
    (B : Below A₀ base outer h₀) (F : Fr h₀ L s.heap m) (X : (hd.heap_39 w.params).In h₀) (N : News h₀ L s.heap ((hp, PySem.W.listOf vs.toArray n) :: rest)) (T : Top hd.view_39 (looseW hd.view_39 []) mean mg mb h₀) (hk : cs.kind = .function)
    (hr : ∀ p ∈ rest, p.1 ≠ hp) (hI : IntsAre vs xs) (h1 : 0 < xs.length) (hz : xs.length < 900)
    (hdp : dp + 3 < recursionLimit) (hun : un + 24 < cLine)
    (ret : ∀ vs' n' h' tk' t', Fr h₀ L h' m → News h₀ L h' ((hp, PySem.W.listOf vs'.toArray n') :: rest) → IntsAre vs' (hpopL xs) → Q (.int (hpopV xs) t') { s with heap := h', toks := tk' }) :
    wpAny (model PySem.Challenge.rw_nb0105_01.row.prog w) (ktrTop dp un gd cn cs L a ccd cl outer) (call (.ref 55) [.ref hp]) Q E s := by
  revert X; k_fill; intro X
  k_with_none
  w_top off
  have hl := hI.length
  refine wpAny_call ?_
  k_dflt cell_enter
  k_steps
  · rename xs = _ => e9
    have r9 := hpop_big e9 (by assumption)
    exact q_int r9.1 (ret _ _ _ _ _ (by assumption) (by assumption) (ints_eq (by assumption) r9.2))
  · rename xs = _ => e9
    have r9 := hpop_small e9 (by assumption)
    exact q_int r9.1 (ret _ _ _ _ _ (by assumption) (by assumption) (ints_eq (by assumption) r9.2))
theorem pp_tells {w : World} {dp un : Nat} {gd : Option (List Code)} {cn : Str} {cs : Scope} {a : Addr} {ccd : Value} {cl : List (Str × Addr)} {outer : List Env} {A₀ : Around} {base h₀ : Heap} {L : Addr} {m : Str → Option Value} {mean : ExcName → Option Value} {mg mb : Str → Option Value} {s : Shared} {Q E : Value → Shared → Prop}
    {hp : Addr} {vs : List Value} {xs : List Int} {n : Nat} {x : Int} {t1 : Tok} {rest : List (Addr × Obj)}
    (B : Below A₀ base outer h₀) (F : Fr h₀ L s.heap m) (X : (hd.heap_39 w.params).In h₀) (N : News h₀ L s.heap ((hp, PySem.W.listOf vs.toArray n) :: rest)) (T : Top hd.view_39 (looseW hd.view_39 []) mean mg mb h₀) (hk : cs.kind = .function)
    (hr : ∀ p ∈ rest, p.1 ≠ hp) (hI : IntsAre vs xs) (hz : xs.length < 900)
    (hdp : dp + 3 < recursionLimit) (hun : un + 24 < cLine)
    (ret : ∀ vs' n' h' tk' t', Fr h₀ L h' m → News h₀ L h' ((hp, PySem.W.listOf vs'.toArray n') :: rest) → IntsAre vs' (ppL xs x) → Q (.int (ppV xs x) t') { s with heap := h', toks := tk' }) :
    wpAny (model PySem.Challenge.rw_nb0105_01.row.prog w) (ktrTop dp un gd cn cs L a ccd cl outer) (call (.ref 62) [.ref hp, .int x t1]) Q E s := by
  revert X; k_fill; intro X
  k_with_none
  w_top off
  have hl := hI.length
  refine wpAny_call ?_
  k_dflt cell_enter
  k_steps
  · have hc : 0 < xs.length ∧ xs.getD 0 0 < x := ⟨by assumption, by assumption⟩
    exact q_int (if_pos hc) (ret _ _ _ _ _ (by assumption) (by assumption) (ints_eq (by assumption) (if_pos hc).symm))
  · have hc : ¬ (0 < xs.length ∧ xs.getD 0 0 < x) := fun h => absurd h.2 (by assumption)
    exact q_int (if_neg hc) (ret _ _ _ _ _ (by assumption) (by assumption) (ints_eq hI (if_neg hc).symm))
  · have hc : ¬ (0 < xs.length ∧ xs.getD 0 0 < x) := fun h => absurd h.1 (by assumption)
    exact q_int (if_neg hc) (ret _ _ _ _ _ (by assumption) (by assumption) (ints_eq hI (if_neg hc).symm))
section
variable {w : World} {dp un : Nat} {gd : Option (List Code)} {cn : Str} {cs : Scope} {a : Addr} {ccd : Value} {cl : List (Str × Addr)} {outer : List Env} {A₀ : Around} {base h₀ : Heap} {L : Addr} {m : Str → Option Value} {mean : ExcName → Option Value} {mg mb : Str → Option Value} {s : Shared} {Q E : Value → Shared → Prop}
    {hp : Addr} {vs : List Value} {xs : List Int} {n : Nat} {x : Int} {t1 : Tok} {rest : List (Addr × Obj)}
theorem push_t (B : Below A₀ base outer h₀) (F : Fr h₀ L s.heap m) (X : (hd.heap_39 w.params).In h₀) (N : News h₀ L s.heap ((hp, PySem.W.listOf vs.toArray n) :: rest)) (T : Top hd.view_39 (looseW hd.view_39 []) mean mg mb h₀) (hk : cs.kind = .function)
    (hr : ∀ p ∈ rest, p.1 ≠ hp) (hI : IntsAre vs xs) (hz : xs.length < 900) (hdp : dp + 3 < recursionLimit) (hun : un + 24 < cLine)
    (ret : ∀ vs' ys n' h' tk', ys = hpush xs x → ys.length = xs.length + 1 → Fr h₀ L h' m → News h₀ L h' ((hp, PySem.W.listOf vs'.toArray n') :: rest) → IntsAre vs' ys → Q .none { s with heap := h', toks := tk' }) :
    wpAny (model PySem.Challenge.rw_nb0105_01.row.prog w) (ktrTop dp un gd cn cs L a ccd cl outer) (call (.ref 48) [.ref hp, .int x t1]) Q E s :=
  push_tells B F X N T hk hr hI hz hdp hun fun vs' n' h' tk' F' N' I' => ret vs' _ n' h' tk' rfl (hpush_length xs x) F' N' I'
theorem pop_t (B : Below A₀ base outer h₀) (F : Fr h₀ L s.heap m) (X : (hd.heap_39 w.params).In h₀) (N : News h₀ L s.heap ((hp, PySem.W.listOf vs.toArray n) :: rest)) (T : Top hd.view_39 (looseW hd.view_39 []) mean mg mb h₀) (hk : cs.kind = .function)
    (hr : ∀ p ∈ rest, p.1 ≠ hp) (hI : IntsAre vs xs) (h1 : 0 < xs.length) (hz : xs.length < 900) (hdp : dp + 3 < recursionLimit) (hun : un + 24 < cLine)
    (ret : ∀ vs' ys y n' h' tk' t', ys = hpopL xs → y = hpopV xs → ys.length + 1 = xs.length → Fr h₀ L h' m → News h₀ L h' ((hp, PySem.W.listOf vs'.toArray n') :: rest) → IntsAre vs' ys → Q (.int y t') { s with heap := h', toks := tk' }) :
    wpAny (model PySem.Challenge.rw_nb0105_01.row.prog w) (ktrTop dp un gd cn cs L a ccd cl outer) (call (.ref 55) [.ref hp]) Q E s :=
  pop_tells B F X N T hk hr hI h1 hz hdp hun fun vs' n' h' tk' t' F' N' I' => ret vs' _ _ n' h' tk' t' rfl rfl (by rw [hpopL_length]; omega) F' N' I'
theorem pp_t (B : Below A₀ base outer h₀) (F : Fr h₀ L s.heap m) (X : (hd.heap_39 w.params).In h₀) (N : News h₀ L s.heap ((hp, PySem.W.listOf vs.toArray n) :: rest)) (T : Top hd.view_39 (looseW hd.view_39 []) mean mg mb h₀) (hk : cs.kind = .function)
    (hr : ∀ p ∈ rest, p.1 ≠ hp) (hI : IntsAre vs xs) (hz : xs.length < 900) (hdp : dp + 3 < recursionLimit) (hun : un + 24 < cLine)
    (ret : ∀ vs' ys y n' h' tk' t', ys = ppL xs x → y = ppV xs x → ys.length = xs.length → Fr h₀ L h' m → News h₀ L h' ((hp, PySem.W.listOf vs'.toArray n') :: rest) → IntsAre vs' ys → Q (.int y t') { s with heap := h', toks := tk' }) :
    wpAny (model PySem.Challenge.rw_nb0105_01.row.prog w) (ktrTop dp un gd cn cs L a ccd cl outer) (call (.ref 62) [.ref hp, .int x t1]) Q E s :=
  pp_tells B F X N T hk hr hI hz hdp hun fun vs' n' h' tk' t' F' N' I' => ret vs' _ _ n' h' tk' t' rfl rfl (ppL_length xs x) F' N' I'
end

local macro_rules | `(tactic| walk_at "call ref") => `(tactic| ((with_reducible show wpAny _ _ (call (Value.ref 48) _) _ _ _); k_dflt (refine' push_t ?k1 ?k2 ?k3 ?k4 ?k5 ?kK ?kr ?ki ?kz ?kd ?ku ?_; (case k1 => k_asm); (case k2 => k_asm); (case k3 => k_asm); (case k4 => first | k_asm | exact news_swap (by k_asm)); (case k5 => k_asm); (case kK => first | exact rfl | assumption); (case kr => exact List.forall_mem_cons.mpr ⟨by assumption, by assumption⟩); (case ki => assumption); (case kz => omega); (case kd => ktr_room); (case ku => ktr_units)); intro vs9 ys9 n9 h9 tk9 e9 l9 F9 N9 I9; (try dsimp only); (try k_fold)))
local macro_rules | `(tactic| walk_at "call ref") => `(tactic| ((with_reducible show wpAny _ _ (call (Value.ref 55) _) _ _ _); k_dflt (refine' pop_t ?k1 ?k2 ?k3 ?k4 ?k5 ?kK ?kr ?ki ?kl ?kz ?kd ?ku ?_; (case k1 => k_asm); (case k2 => k_asm); (case k3 => k_asm); (case k4 => first | k_asm | exact news_swap (by k_asm)); (case k5 => k_asm); (case kK => first | exact rfl | assumption); (case kr => exact List.forall_mem_cons.mpr ⟨by assumption, by assumption⟩); (case ki => assumption); (case kl => omega); (case kz => omega); (case kd => ktr_room); (case ku => ktr_units)); intro vs9 ys9 y9 n9 h9 tk9 t9 e9 v9 l9 F9 N9 I9; (try dsimp only); (try k_fold)))
local macro_rules | `(tactic| walk_at "call ref") => `(tactic| ((with_reducible show wpAny _ _ (call (Value.ref 62) _) _ _ _); k_dflt (refine' pp_t ?k1 ?k2 ?k3 ?k4 ?k5 ?kK ?kr ?ki ?kz ?kd ?ku ?_; (case k1 => k_asm); (case k2 => k_asm); (case k3 => k_asm); (case k4 => first | k_asm | exact news_swap (by k_asm)); (case k5 => k_asm); (case kK => first | exact rfl | assumption); (case kr => exact List.forall_mem_cons.mpr ⟨by assumption, by assumption⟩); (case ki => assumption); (case kz => omega); (case kd => ktr_room); (case ku => ktr_units)); intro vs9 ys9 y9 n9 h9 tk9 t9 e9 v9 l9 F9 N9 I9; (try dsimp only); (try k_fold)))

theorem put_tells {w : World} {dp un : Nat} {gd : Option (List Code)} {cn : Str} {cs : Scope} {a : Addr} {ccd : Value} {cl : List (Str × Addr)} {outer : List Env} {A₀ : Around} {base h₀ : Heap} {L : Addr} {m : Str → Option Value} {mean : ExcName → Option Value} {mg mb : Str → Option Value} {s : Shared} {Q E : Value → Shared → Prop}
    {lo hi : Addr} {vs vs2 : List Value} {xs xs2 : List Int} {n n2 : Nat} {x : Int} {t1 : Tok} {rest : List (Addr × Obj)}
    (B : Below A₀ base outer h₀) (F : Fr h₀ L s.heap m) (X : (hd.heap_39 w.params).In h₀) (N : News h₀ L s.heap ((lo, PySem.W.listOf vs.toArray n) :: (hi, PySem.W.listOf vs2.toArray n2) :: rest)) (T : Top hd.view_39 (looseW hd.view_39 []) mean mg mb h₀) (hk : cs.kind = .function)
    (hne : lo ≠ hi) (hr : ∀ p ∈ rest, p.1 ≠ lo) (hr2 : ∀ p ∈ rest, p.1 ≠ hi) (hI : IntsAre vs xs) (hI2 : IntsAre vs2 xs2) (hz : xs.length < 800) (hz2 : xs2.length < 800)
    (hdp : dp + 4 < recursionLimit) (hun : un + 32 < cLine)
    (ret : ∀ vs' vs2' n' n2' h' tk', Fr h₀ L h' m → News h₀ L h' ((lo, PySem.W.listOf vs'.toArray n') :: (hi, PySem.W.listOf vs2'.toArray n2') :: rest) → IntsAre vs' (putS xs xs2 x).1 → IntsAre vs2' (putS xs xs2 x).2 → Q .none { s with heap := h', toks := tk' }) :
    wpAny (model PySem.Challenge.rw_nb0105_01.row.prog w) (ktrTop dp un gd cn cs L a ccd cl outer) (call (.ref 88) [.ref lo, .ref hi, .int x t1]) Q E s := by
  revert X; k_fill; intro X
  k_with_none
  w_top off
  have hl := hI.length
  have hl2 := hI2.length
  have hne2 : hi ≠ lo := fun e => hne e.symm
  refine wpAny_call ?_
  k_dflt cell_enter
  k_steps
  · subst_vars
    have hc : (ppL xs (-x)).length < (hpush xs2 (-(ppV xs (-x)))).length := by omega
    exact ret _ _ _ _ _ _ (by assumption) (by assumption) (ints_eq (by assumption) (by rw [putS, if_pos hc])) (ints_eq (by assumption) (by rw [putS, if_pos hc]))
  · subst_vars
    have hc : ¬ (ppL xs (-x)).length < (hpush xs2 (-(ppV xs (-x)))).length := by omega
    exact ret _ _ _ _ _ _ (by assumption) (news_swap (by assumption)) (ints_eq (by assumption) (by rw [putS, if_neg hc])) (ints_eq (by assumption) (by rw [putS, if_neg hc]))
theorem fdiv2 {prog : Program} {w : World} {A : Around} {E : Value → Shared → Prop} {s : Shared} {a : Int} {t u : Tok} {Q : Value → Shared → Prop}
    (h : ∀ r : Int, 2 * r ≤ a → a < 2 * r + 2 → Q (.int r s.toks) { s with toks := s.toks + 1 }) : wpAny (model prog w) A (binaryOp .FloorDiv (.int a t) (.int 2 u)) Q E s := by
  refine floordiv_int (by decide) (h _ ?_ ?_) (Or.inl (PyProof.noPylong_of_log2 (by decide +kernel)))
  · rw [Int.fdiv_eq_ediv_of_nonneg _ (by decide)]; omega
  · rw [Int.fdiv_eq_ediv_of_nonneg _ (by decide)]; omega
theorem fmod2 {prog : Program} {w : World} {A : Around} {E : Value → Shared → Prop} {s : Shared} {a : Int} {t u : Tok} {Q : Value → Shared → Prop}
    (h : ∀ q r : Int, a = 2 * q + r → 0 ≤ r → r < 2 → Q (.int r s.toks) { s with toks := s.toks + 1 }) : wpAny (model prog w) A (binaryOp .Mod (.int a t) (.int 2 u)) Q E s := by
  refine mod_int' (by decide) (h (a / 2) _ ?_ ?_ ?_)
  · rw [Int.fmod_eq_emod_of_nonneg _ (by decide)]; omega
  · rw [Int.fmod_eq_emod_of_nonneg _ (by decide)]; omega
  · rw [Int.fmod_eq_emod_of_nonneg _ (by decide)]; omega
theorem sorted_t {prog : Program} {w : World} {A : Around} {E : Value → Shared → Prop} {s : Shared} {h₀ : Heap} {L l : Addr} {m : Str → Option Value} {news : List (Addr × Obj)} {vs : List Value} {ns : List Int} {n : Nat} {Q : Value → Shared → Prop}
    (F : Fr h₀ L s.heap m) (N : News h₀ L s.heap news) (hm : (l, PySem.W.listOf vs.toArray n) ∈ news) (hi : IntsAre vs ns) (h64 : ns.length < 64)
    (h : ∀ D vs' c h', Fr h₀ L h' m → News h₀ L h' ((D, PySem.W.listOf vs'.toArray c) :: news) → (∀ q ∈ news, q.1 < D) → IntsAre vs' (srt ns) → (srt ns).length = ns.length → Q (.ref D) { s with heap := h' }) :
    wpAny (model prog w) A (call (.builtin "sorted") [.ref l]) Q E s :=
  kso_sorted F N (kso_isList N hm rfl) hi h64 fun D vs' ns' c h' F' N' l1 I' _ p o _ => h D vs' c h' F' N' l1 (srt_of p o ▸ I') (srt_length ns)

local macro_rules | `(tactic| walk_at "binaryOp FloorDiv int int") => `(tactic| (k_here; (refine fdiv2 ?_); intro r9 hr1 hr2))
local macro_rules | `(tactic| walk_at "binaryOp Mod int int") => `(tactic| (k_here; (refine fmod2 ?_); intro q9 r9 hr1 hr2 hr3))
local macro_rules | `(tactic| walk_at "call builtin:sorted") => `(tactic| (k_here; (with_reducible show wpAny _ _ (call (Value.builtin _) [Value.ref _]) _ _ _); k_dflt (refine' sorted_t ?k1 ?k2 ?k3 ?k4 ?k5 ?_; (case k1 => k_asm); (case k2 => k_asm); (case k3 => k_mem); (case k4 => assumption); (case k5 => omega)); intro D9 vs9 c9 h9 F9 N9 l9 I9 z9; (try k_sweep)))

theorem ml_tells {w : World} {dp un : Nat} {gd : Option (List Code)} {cn : Str} {cs : Scope} {a : Addr} {ccd : Value} {cl : List (Str × Addr)} {outer : List Env} {A₀ : Around} {base h₀ : Heap} {L : Addr} {m : Str → Option Value} {mean : ExcName → Option Value} {mg mb : Str → Option Value} {s : Shared} {Q E : Value → Shared → Prop}
    {hp : Addr} {vs : List Value} {xs : List Int} {n : Nat} {rest : List (Addr × Obj)}
    (B : Below A₀ base outer h₀) (F : Fr h₀ L s.heap m) (X : (hd.heap_39 w.params).In h₀) (N : News h₀ L s.heap ((hp, PySem.W.listOf vs.toArray n) :: rest)) (T : Top hd.view_39 (looseW hd.view_39 []) mean mg mb h₀) (hk : cs.kind = .function)
    (hI : IntsAre vs xs) (h1 : 0 < xs.length) (hz : xs.length < 64)
    (hdp : dp + 1 < recursionLimit) (hun : un + 8 < cLine)
    (ret : ∀ h' tk' t', Fr h₀ L h' m → News h₀ L h' ((hp, PySem.W.listOf vs.toArray n) :: rest) → Q (.int (medLow xs) t') { s with heap := h', toks := tk' }) :
    wpAny (model PySem.Challenge.rw_nb0105_01.row.prog w) (ktrTop dp un gd cn cs L a ccd cl outer) (call (.ref 34) [.ref hp]) Q E s := by
  revert X; k_fill; intro X
  k_with_none
  w_top off
  have hl := hI.length
  refine wpAny_call ?_
  k_dflt cell_enter
  k_steps
  · exfalso; omega
  · refine q_int ?_ (ret _ _ _ (by assumption) (news_tail (by assumption)))
    rw [medLow]; congr 1; omega
  · refine q_int ?_ (ret _ _ _ (by assumption) (news_tail (by assumption)))
    rw [medLow]; congr 1; omega
theorem mh_tells {w : World} {dp un : Nat} {gd : Option (List Code)} {cn : Str} {cs : Scope} {a : Addr} {ccd : Value} {cl : List (Str × Addr)} {outer : List Env} {A₀ : Around} {base h₀ : Heap} {L : Addr} {m : Str → Option Value} {mean : ExcName → Option Value} {mg mb : Str → Option Value} {s : Shared} {Q E : Value → Shared → Prop}
    {hp : Addr} {vs : List Value} {xs : List Int} {n : Nat} {rest : List (Addr × Obj)}
    (B : Below A₀ base outer h₀) (F : Fr h₀ L s.heap m) (X : (hd.heap_39 w.params).In h₀) (N : News h₀ L s.heap ((hp, PySem.W.listOf vs.toArray n) :: rest)) (T : Top hd.view_39 (looseW hd.view_39 []) mean mg mb h₀) (hk : cs.kind = .function)
    (hI : IntsAre vs xs) (h1 : 0 < xs.length) (hz : xs.length < 64)
    (hdp : dp + 1 < recursionLimit) (hun : un + 8 < cLine)
    (ret : ∀ h' tk' t', Fr h₀ L h' m → News h₀ L h' ((hp, PySem.W.listOf vs.toArray n) :: rest) → Q (.int (medHigh xs) t') { s with heap := h', toks := tk' }) :
    wpAny (model PySem.Challenge.rw_nb0105_01.row.prog w) (ktrTop dp un gd cn cs L a ccd cl outer) (call (.ref 41) [.ref hp]) Q E s := by
  revert X; k_fill; intro X
  k_with_none
  w_top off
  have hl := hI.length
  refine wpAny_call ?_
  k_dflt cell_enter
  k_steps
  · exfalso; omega
  · refine q_int ?_ (ret _ _ _ (by assumption) (news_tail (by assumption)))
    rw [medHigh]; congr 1; omega

theorem len_filter {prog : Program} {w : World} {A : Around} {E : Value → Shared → Prop} {s : Shared} {l : Addr} {ys : List Value} {p : Int → Bool} {xs : List Int} {Q : Value → Shared → Prop} (hl : s.heap.IsList l ys.toArray) (hc : CarriedAll ys (List.map PyData.int (List.filter p xs))) (hb : xs.length < 64)
    (h : Q (.int (List.filter p xs).length (s.toks + 1)) { s with toks := s.toks + 1 + 1 }) : wpAny (model prog w) A (call (.builtin "len") [.ref l]) Q E s :=
  len_list_made hl hc (by rw [List.length_map]; have := List.length_filter_le p xs; omega) (by rw [List.length_map]; exact h)
local macro_rules | `(tactic| walk_at "call builtin:len") => `(tactic| (k_here; (with_reducible show wpAny _ _ (call (Value.builtin "len") [Value.ref _]) _ _ _); (with_unfolding_all refine' len_filter ?k1 ?k2 ?k3 ?_; (case k1 => is_list); (case k2 => with_reducible assumption); (case k3 => assumption); k_whole)))
theorem mid_tells {w : World} {dp un : Nat} {gd : Option (List Code)} {cn : Str} {cs : Scope} {a : Addr} {ccd : Value} {cl : List (Str × Addr)} {outer : List Env} {A₀ : Around} {base h₀ : Heap} {L : Addr} {m : Str → Option Value} {mean : ExcName → Option Value} {mg mb : Str → Option Value} {s : Shared} {Q E : Value → Shared → Prop}
    {hp : Addr} {vs : List Value} {xs : List Int} {n : Nat} {x k : Int} {t1 t2 : Tok} {rest : List (Addr × Obj)}
    (B : Below A₀ base outer h₀) (F : Fr h₀ L s.heap m) (X : (hd.heap_39 w.params).In h₀) (N : News h₀ L s.heap ((hp, PySem.W.listOf vs.toArray n) :: rest)) (T : Top hd.view_39 (looseW hd.view_39 []) mean mg mb h₀) (hk : cs.kind = .function)
    (hI : IntsAre vs xs) (h1 : ((xs.filter (fun a => decide (a < x))).length : Int) ≤ k) (h2 : k < ((xs.filter (fun a => decide (a ≤ x))).length : Int)) (hz : xs.length < 64)
    (hdp : dp + 1 < recursionLimit) (hun : un + 8 < cLine)
    (ret : ∀ h' tk', Fr h₀ L h' m → News h₀ L h' ((hp, PySem.W.listOf vs.toArray n) :: rest) → Q (.bool true) { s with heap := h', toks := tk' }) :
    wpAny (model PySem.Challenge.rw_nb0105_01.row.prog w) (ktrTop dp un gd cn cs L a ccd cl outer) (call (.ref 81) [.ref hp, .int x t1, .int k t2]) Q E s := by
  revert X; k_fill; intro X
  k_with_none
  w_top off
  have hl := hI.length
  refine wpAny_call ?_
  k_dflt (refine' code_defC ?k1 ?k2 ?k3 ?k4 ?k5 ?kA ?kF ?kK ?k6 ?k7 ?k8 ?k9 ?kB ?kD ?_ ?c2 ?c3 ?c4; (case kA => exact rfl); (case kF => exact rfl); (case kK => assumption); (case k1 => k_asm); (case k2 => k_asm); (case k3 => k_asm); (case k4 => k_asm); (case k5 => k_asm); (case k6 => k_is); (case k7 => k_is); (case k8 => ktr_room); (case k9 => exact BindsTo.of_eq rfl); (case kB => exact rfl); (case kD => decide +kernel); (case c2 => exact rfl); (case c3 => exact rfl); (case c4 => exact rfl); k_whole; intro g' L' h' tk' cells' FG' F' N' Y' B' X' T' l1; (try k_lt l1); k_cells Y'; (try simp only [List.cons_append, List.nil_append] at N'); (try dsimp only); (try k_lift B'); (try k_fold))
  k_steps
  all_goals (try k_data)
  rw [decide_eq_true h2]
  exact ret _ _ (by assumption) (news_tail (news_tail (news_tail (by assumption))))
theorem outGo_stop {n : Nat} {ps : List Int} {k : Int} (hk : k = n) (h : ¬ (ps.length : Int) < k) : outGo n ps = ps := by
  rw [outGo, if_neg (by omega)]
theorem outGo_up {n : Nat} {ps : List Int} {k q r v : Int} (hk : k = n) (h : (ps.length : Int) < k) (h1 : (ps.length : Int) + k = 2 * q + r) (h2 : r = 1) (hv : v = ps.getD (-1 + (ps.length : Int)).toNat 0 + ps.length) : outGo n (ps ++ [v]) = outGo n ps := by
  have e : (-1 + (ps.length : Int)).toNat = ps.length - 1 := by omega
  rw [e] at hv
  subst hk hv
  rw [outGo.eq_1 n ps, if_pos (by omega), outStep, if_pos (by omega)]
theorem outGo_down {n : Nat} {ps : List Int} {k q r v : Int} (hk : k = n) (h : (ps.length : Int) < k) (h1 : (ps.length : Int) + k = 2 * q + r) (h3 : 0 ≤ r) (h4 : r < 2) (h2 : ¬ r = 1) (hv : v = ps.getD (-1 + (ps.length : Int)).toNat 0 + -(ps.length : Int)) : outGo n (ps ++ [v]) = outGo n ps := by
  have e : (-1 + (ps.length : Int)).toNat = ps.length - 1 := by omega
  rw [e] at hv
  subst hk hv
  rw [outGo.eq_1 n ps, if_pos (by omega), outStep, if_neg (by omega)]


theorem out_tells {w : World} {dp un : Nat} {gd : Option (List Code)} {cn : Str} {cs : Scope} {a : Addr} {ccd : Value} {cl : List (Str × Addr)} {outer : List Env} {A₀ : Around} {base h₀ : Heap} {L : Addr} {m : Str → Option Value} {mean : ExcName → Option Value} {mg mb : Str → Option Value} {s : Shared} {Q E : Value → Shared → Prop}
    {nn : Nat} {k : Int} {t1 : Tok} {rest : List (Addr × Obj)}
    (B : Below A₀ base outer h₀) (F : Fr h₀ L s.heap m) (X : (hd.heap_39 w.params).In h₀) (N : News h₀ L s.heap rest) (T : Top hd.view_39 (looseW hd.view_39 []) mean mg mb h₀) (hk : cs.kind = .function)
    (hkn : k = nn) (h1 : 0 < nn) (hz : nn < 64)
    (hdp : dp + 1 < recursionLimit) (hun : un + 8 < cLine)
    (ret : ∀ D vs' n' h' tk', Fr h₀ L h' m → News h₀ L h' ((D, PySem.W.listOf vs'.toArray n') :: rest) → (∀ p ∈ rest, p.1 < D) → IntsAre vs' (outw nn) → Q (.ref D) { s with heap := h', toks := tk' }) :
    wpAny (model PySem.Challenge.rw_nb0105_01.row.prog w) (ktrTop dp un gd cn cs L a ccd cl outer) (call (.ref 95) [.int k t1]) Q E s := by
  revert X; k_fill; intro X
  k_with_none
  w_top off
  refine wpAny_call ?_
  k_dflt cell_enter
  k_steps
  unfold Stop
  rename_i D hX l2 hY lF lN
  have l3 : ∀ p ∈ rest, p.1 ≠ D := fun p hp => Nat.ne_of_lt (l2 p hp)
  with_unfolding_all refine' ksw_while (σ := List Value × List Int × Nat) (fun c => (D, PySem.W.listOf c.1.toArray c.2.2) :: rest) (fun c => []) (fun c => IntsAre c.1 c.2.1) [Str.ofString "step"] (fun c => 0 < c.2.1.length ∧ c.2.1.length ≤ nn ∧ outGo nn c.2.1 = outw nn) (fun c => nn - c.2.1.length) (_, _, _) lF lN ?kf ?kk ?kp ?_
  (case kf => exact IntsAre.cons _ _ .nil)
  (case kk => exact fun _ h => nomatch h)
  (case kp =>
    refine ⟨Nat.succ_pos _, h1, ?_⟩
    dsimp only
    rw [outw]
    congr 2
    omega)
  clear lF lN
  rintro ⟨vs1, xs1, n1⟩ kU kH kTk kFacts ⟨i1, i2, i4⟩ kFr kNews
  dsimp only [kstB] at kFacts i1 i2 i4 kFr kNews
  have hl := kFacts.length
  try k_fold
  k_steps
  · rename News _ _ _ _ => nE
    simp only [List.push_toArray] at nE
    refine ksw_end (_, _, _) (by assumption) nE (fun _ h => h) (IntsAre.append kFacts (IntsAre.cons _ _ .nil)) (fun _ h => nomatch h) (by ksw_same) ?_ ?_
    · dsimp only
      rw [List.length_append]
      refine ⟨by omega, by show xs1.length + 1 ≤ nn; omega, ?_⟩
      rw [← i4]
      exact outGo_up hkn (by assumption) (by assumption) (by assumption) rfl
    · dsimp only
      rw [List.length_append]
      show nn - (xs1.length + 1) < nn - xs1.length
      omega
  · rename News _ _ _ _ => nE
    simp only [List.push_toArray] at nE
    refine ksw_end (_, _, _) (by assumption) nE (fun _ h => h) (IntsAre.append kFacts (IntsAre.cons _ _ .nil)) (fun _ h => nomatch h) (by ksw_same) ?_ ?_
    · dsimp only
      rw [List.length_append]
      refine ⟨by omega, by show xs1.length + 1 ≤ nn; omega, ?_⟩
      rw [← i4]
      exact outGo_down hkn (by assumption) (by assumption) (by assumption) (by assumption) (by assumption) rfl
    · dsimp only
      rw [List.length_append]
      show nn - (xs1.length + 1) < nn - xs1.length
      omega
  · refine ret _ _ _ _ _ (by assumption) (by assumption) l2 (ints_eq kFacts ?_)
    rw [← i4]
    exact (outGo_stop hkn (by assumption)).symm
def txt2 (a b : Int) : Str := (PyData.list [.int a, .int b]).shown
theorem small_int : ∀ i : Fin 40, (PyData.int (i.val : Int)).showable = true ∧ ((toString (i.val : Int) : String) : Str).length ≤ 2 := by decide +kernel
theorem small_int' {a : Int} (h : 0 ≤ a ∧ a < 40) : (PyData.int a).showable = true ∧ (PyData.int a).shown.length ≤ 2 := by
  have e : ((a.toNat : Nat) : Int) = a := by omega
  have := small_int ⟨a.toNat, by omega⟩
  rw [e] at this
  exact this
theorem txt2_len {a b : Int} (ha : 0 ≤ a ∧ a < 40) (hb : 0 ≤ b ∧ b < 40) : (txt2 a b).length ≤ 8 := by
  have h1 := (small_int' ha).2
  have h2 := (small_int' hb).2
  show (listText [(PyData.int a).shown, (PyData.int b).shown]).length ≤ 8
  simp only [listText, textFrom, strLen_append]
  have e1 : (Str.ofString "[").length = 1 := rfl
  have e2 : (Str.ofString ", ").length = 2 := rfl
  have e3 : (Str.ofString "]").length = 1 := rfl
  have e4 : (Str.ofString "").length = 0 := rfl
  simp
  omega
theorem str2_t {prog : Program} {w : World} {A : Around} {E : Value → Shared → Prop} {s : Shared} {h₀ : Heap} {L D : Addr} {m : Str → Option Value} {news : List (Addr × Obj)} {a b : Int} {t u : Tok} {n : Nat} {Q : Value → Shared → Prop}
    (F : Fr h₀ L s.heap m) (N : News h₀ L s.heap news) (hm : (D, PySem.W.listOf #[.int a t, .int b u] n) ∈ news) (hg : A.guards = some []) (hu : A.units + 10 < cLine) (ha : 0 ≤ a ∧ a < 40) (hb : 0 ≤ b ∧ b < 40)
    (h : ∀ h' t' tk', Fr h₀ L h' m → News h₀ L h' news → Q (.str (txt2 a b) t') { s with heap := h', toks := tk' }) : wpAny (model prog w) A (call (.type "str") [.ref D]) Q E s := by
  have r : Reads s.heap (.ref D) (.list [.int a, .int b]) [D] := .list (N _ hm).1 rfl rfl (.cons (.int a t) (.cons (.int b u) .nil))
  refine str_of_reads r ?_ (fun e => by cases e) hg (by have hdp : (PyData.list [.int a, .int b]).depth ≤ 2 := (by simp [PyData.depth, PyData.depthAll]); omega) (fun _ _ e => e) (fun h' u' tk' k => h h' u' tk' (F.kept k) (fun p hp => ⟨k _ _ (N p hp).1, (N p hp).2⟩)) ?_
  · show ((PyData.int a).showable && ((PyData.int b).showable && true)) = true
    rw [(small_int' ha).1, (small_int' hb).1]; rfl
  · have := txt2_len ha hb
    rw [PySem.sizeLine_eq]
    show (txt2 a b).length ≤ _
    omega
theorem neq_same {prog : Program} {w : World} {A : Around} {E : Value → Shared → Prop} {s : Shared} {x y : Str} {t u : Tok} {Q : Value → Shared → Prop} (e : x = y) (h : Q (.bool false) s) : wpAny (model prog w) A (compareOp .NotEq (.str x t) (.str y u)) Q E s := by
  subst e
  refine PyProof.Rows.ne_str ?_
  rw [bne_self_eq_false]
  exact h
theorem news_pick {h₀ h : Heap} {L : Addr} {p : Addr × Obj} {l : List (Addr × Obj)} (N : News h₀ L h l) (hm : p ∈ l) : News h₀ L h (p :: l) := fun q hq => by
  rcases List.mem_cons.mp hq with e | hq
  · exact e ▸ N p hm
  · exact N q hq
section
variable {w : World} {dp un : Nat} {gd : Option (List Code)} {cn : Str} {cs : Scope} {a : Addr} {ccd : Value} {cl : List (Str × Addr)} {outer : List Env} {A₀ : Around} {base h₀ : Heap} {L : Addr} {m : Str → Option Value} {mean : ExcName → Option Value} {mg mb : Str → Option Value} {s : Shared} {Q E : Value → Shared → Prop}
    {hp : Addr} {vs : List Value} {xs : List Int} {n : Nat} {x k : Int} {t1 t2 : Tok} {news : List (Addr × Obj)}
theorem ml_m (B : Below A₀ base outer h₀) (F : Fr h₀ L s.heap m) (X : (hd.heap_39 w.params).In h₀) (N : News h₀ L s.heap news) (hm : (hp, PySem.W.listOf vs.toArray n) ∈ news) (T : Top hd.view_39 (looseW hd.view_39 []) mean mg mb h₀) (hk : cs.kind = .function)
    (hI : IntsAre vs xs) (h1 : 0 < xs.length) (hz : xs.length < 64) (hdp : dp + 1 < recursionLimit) (hun : un + 8 < cLine)
    (ret : ∀ h' tk' t', Fr h₀ L h' m → News h₀ L h' news → Q (.int (medLow xs) t') { s with heap := h', toks := tk' }) :
    wpAny (model PySem.Challenge.rw_nb0105_01.row.prog w) (ktrTop dp un gd cn cs L a ccd cl outer) (call (.ref 34) [.ref hp]) Q E s :=
  ml_tells B F X (news_pick N hm) T hk hI h1 hz hdp hun fun h' tk' t' F' N' => ret h' tk' t' F' (news_tail N')
theorem mh_m (B : Below A₀ base outer h₀) (F : Fr h₀ L s.heap m) (X : (hd.heap_39 w.params).In h₀) (N : News h₀ L s.heap news) (hm : (hp, PySem.W.listOf vs.toArray n) ∈ news) (T : Top hd.view_39 (looseW hd.view_39 []) mean mg mb h₀) (hk : cs.kind = .function)
    (hI : IntsAre vs xs) (h1 : 0 < xs.length) (hz : xs.length < 64) (hdp : dp + 1 < recursionLimit) (hun : un + 8 < cLine)
    (ret : ∀ h' tk' t', Fr h₀ L h' m → News h₀ L h' news → Q (.int (medHigh xs) t') { s with heap := h', toks := tk' }) :
    wpAny (model PySem.Challenge.rw_nb0105_01.row.prog w) (ktrTop dp un gd cn cs L a ccd cl outer) (call (.ref 41) [.ref hp]) Q E s :=
  mh_tells B F X (news_pick N hm) T hk hI h1 hz hdp hun fun h' tk' t' F' N' => ret h' tk' t' F' (news_tail N')
theorem mid_m (B : Below A₀ base outer h₀) (F : Fr h₀ L s.heap m) (X : (hd.heap_39 w.params).In h₀) (N : News h₀ L s.heap news) (hm : (hp, PySem.W.listOf vs.toArray n) ∈ news) (T : Top hd.view_39 (looseW hd.view_39 []) mean mg mb h₀) (hk : cs.kind = .function)
    (hI : IntsAre vs xs) (hz : xs.length < 64) (hdp : dp + 1 < recursionLimit) (hun : un + 8 < cLine)
    (h1 : Stop (((xs.filter (fun a => decide (a < x))).length : Int) ≤ k ∧ k < ((xs.filter (fun a => decide (a ≤ x))).length : Int)))
    (ret : ∀ h' tk', Fr h₀ L h' m → News h₀ L h' news → Q (.bool true) { s with heap := h', toks := tk' }) :
    wpAny (model PySem.Challenge.rw_nb0105_01.row.prog w) (ktrTop dp un gd cn cs L a ccd cl outer) (call (.ref 81) [.ref hp, .int x t1, .int k t2]) Q E s :=
  mid_tells B F X (news_pick N hm) T hk hI h1.of.1 h1.of.2 hz hdp hun fun h' tk' F' N' => ret h' tk' F' (news_tail N')
end
theorem str2_s {prog : Program} {w : World} {A : Around} {E : Value → Shared → Prop} {s : Shared} {h₀ : Heap} {L D : Addr} {m : Str → Option Value} {news : List (Addr × Obj)} {a b : Int} {t u : Tok} {n : Nat} {Q : Value → Shared → Prop}
    (F : Fr h₀ L s.heap m) (N : News h₀ L s.heap news) (hm : (D, PySem.W.listOf #[.int a t, .int b u] n) ∈ news) (hg : A.guards = some []) (hu : A.units + 10 < cLine) (hab : Stop ((0 ≤ a ∧ a < 40) ∧ (0 ≤ b ∧ b < 40)))
    (h : ∀ h' t' tk', Fr h₀ L h' m → News h₀ L h' news → Q (.str (txt2 a b) t') { s with heap := h', toks := tk' }) : wpAny (model prog w) A (call (.type "str") [.ref D]) Q E s :=
  str2_t F N hm hg hu hab.of.1 hab.of.2 h
theorem neq_s {prog : Program} {w : World} {A : Around} {E : Value → Shared → Prop} {s : Shared} {a b c d : Int} {t u : Tok} {Q : Value → Shared → Prop} (e : Stop (a = c ∧ b = d)) (h : Q (.bool false) s) : wpAny (model prog w) A (compareOp .NotEq (.str (txt2 a b) t) (.str (txt2 c d) u)) Q E s :=
  neq_same (by rw [e.of.1, e.of.2]) h
def vdel (x : Int) : List Value → List Value
  | [] => []
  | v :: r => if isInt x v = true then r else v :: vdel x r
theorem isInt_int (x a : Int) (t : Tok) : (isInt x (.int a t) = true) ↔ a = x := by
  show (a == x) = true ↔ _
  exact beq_iff_eq
theorem vdel_facts {x : Int} {vs : List Value} {xs : List Int} (hi : IntsAre vs xs) : kf_ints vs = true ∧ IntsAre (vdel x vs) (xs.erase x) ∧ (x ∈ xs → ∃ j, kf_at x vs = some j ∧ ki_delL vs j = some (vdel x vs)) := by
  induction hi with
  | nil => exact ⟨rfl, .nil, fun h => nomatch h⟩
  | @cons a t vs ns h ih =>
    obtain ⟨i1, i2, i3⟩ := ih
    refine ⟨i1, ?_, ?_⟩
    · rw [vdel, List.erase_cons]
      by_cases e : a = x
      · rw [if_pos ((isInt_int x a t).mpr e), if_pos (by simpa using e)]
        exact h
      · rw [if_neg (fun h => e ((isInt_int x a t).mp h)), if_neg (by simpa using e)]
        exact .cons a t i2
    · intro hm
      rw [vdel, kf_at]
      by_cases e : a = x
      · have := (isInt_int x a t).mpr e
        rw [if_pos this, this]
        exact ⟨0, rfl, rfl⟩
      · have e' : isInt x (.int a t) = false := by
          cases hb : isInt x (.int a t) with
          | false => rfl
          | true => exact absurd ((isInt_int x a t).mp hb) e
        have hm' : x ∈ ns := by
          rcases List.mem_cons.mp hm with h | h
          · exact absurd h.symm e
          · exact h
        obtain ⟨j, j1, j2⟩ := i3 hm'
        rw [e', j1]
        refine ⟨j + 1, rfl, ?_⟩
        rw [ki_delL, j2]
        rfl
theorem remove_s {prog : Program} {w : World} {A : Around} {E : Value → Shared → Prop} {s : Shared} {h₀ : Heap} {L D : Addr} {m : Str → Option Value} {news news' : List (Addr × Obj)} {vs : List Value} {xs : List Int} {n : Nat} {x : Int} {t : Tok} {Q : Value → Shared → Prop}
    (F : Fr h₀ L s.heap m) (N : News h₀ L s.heap news) (U : Upd D (PySem.W.listOf vs.toArray n) (PySem.W.listOf (vdel x vs).toArray (n + 1)) news news') (hi : IntsAre vs xs) (hz : xs.length < 64) (hx : Stop (x ∈ xs))
    (h : ∀ h', Fr h₀ L h' m → News h₀ L h' news' → IntsAre (vdel x vs) (xs.erase x) → Q .none { s with heap := h' }) : wpAny (model prog w) A (call (.builtin "list.remove") [.ref D, .int x t]) Q E s := by
  obtain ⟨i1, i2, i3⟩ := vdel_facts (x := x) hi
  obtain ⟨j, j1, j2⟩ := i3 hx.of
  have hl := hi.length
  exact kf_remove F N i1 j1 j2 U (by rw [PySem.sizeLine_eq]; show vs.length ≤ _; omega) fun h' F' N' => h h' F' N' i2
theorem row_facts (S : List Int) : (4 ≤ (List.map (fun k' : Int => if k'.fmod 3 = 0 then k'.fmod 40 else k'.fmod 4) (List.take 8 S ++ [9, 4, 9, 30])).length ∧ (List.map (fun k' : Int => if k'.fmod 3 = 0 then k'.fmod 40 else k'.fmod 4) (List.take 8 S ++ [9, 4, 9, 30])).length ≤ 12) ∧ ∀ v ∈ List.map (fun k' : Int => if k'.fmod 3 = 0 then k'.fmod 40 else k'.fmod 4) (List.take 8 S ++ [9, 4, 9, 30]), 0 ≤ v ∧ v < 40 := by
  refine ⟨?_, fun v hv => ?_⟩
  · simp only [List.length_map, List.length_append, List.length_take, List.length_cons, List.length_nil]
    omega
  · obtain ⟨z, _, rfl⟩ := List.mem_map.mp hv
    split
    · rw [Int.fmod_eq_emod_of_nonneg _ (by decide)]; omega
    · rw [Int.fmod_eq_emod_of_nonneg _ (by decide)]; omega
theorem end1 {h₀ : Heap} {L : Addr} {x : Str} {stored : List Str} {m₀ m' : Str → Option Value} {P : List Int → List Value × List Int × Nat × List Value × List Int × Nat → Prop} {pre : List Int} {own : List (Addr × Obj)} {s₁ : Shared} {h' : Heap} {tk : Nat} {lo hi rw : Addr} {o o1 o2 : Obj} {vs vs2 : List Value} {xs xs2 : List Int} {n n2 : Nat}
    (F : Fr h₀ L h' m') (N : News h₀ L h' ((lo, PySem.W.listOf vs.toArray n) :: (hi, PySem.W.listOf vs2.toArray n2) :: (rw, o) :: own)) (I1 : IntsAre vs xs) (I2 : IntsAre vs2 xs2) (hr : ∀ z, z ≠ x → stored.contains z = false → m' z = m₀ z) (hp : P pre (vs, xs, n, vs2, xs2, n2)) :
    InvEndN h₀ L (KstS (fun c : List Value × List Int × Nat × List Value × List Int × Nat => [(lo, PySem.W.listOf c.1.toArray c.2.2.1), (hi, PySem.W.listOf c.2.2.2.1.toArray c.2.2.2.2.2), (rw, o)]) (fun _ => []) (fun c => IntsAre c.1 c.2.1 ∧ IntsAre c.2.2.2.1 c.2.2.2.2.1) x stored m₀ P pre) own (List.map (fun x => x.1) [(lo, o1), (hi, o2), (rw, o)]) s₁ { s₁ with heap := h', toks := tk } :=
  kst_end (news' := [(lo, PySem.W.listOf vs.toArray n), (hi, PySem.W.listOf vs2.toArray n2), (rw, o)] ++ own) (vs, xs, n, vs2, xs2, n2) F N (fun _ h => List.mem_append_left _ h) (fun _ h => List.mem_append_right _ h) rfl ⟨I1, I2⟩ (fun _ h => nomatch h) (fun z h1 _ h3 => hr z h1 h3) hp
theorem end2 {h₀ : Heap} {L : Addr} {x : Str} {stored : List Str} {m₀ m' : Str → Option Value} {P : List Int → List Value × List Int × Nat × List Value × List Int × Nat × List Value × List Int × Nat → Prop} {pre : List Int} {own : List (Addr × Obj)} {s₁ : Shared} {h' : Heap} {tk : Nat} {lo hi lf rs pl : Addr} {oR oP o1 o2 o3 : Obj} {vs vs2 vs3 : List Value} {xs xs2 xs3 : List Int} {n n2 n3 : Nat}
    (F : Fr h₀ L h' m') (N : News h₀ L h' ((lo, PySem.W.listOf vs.toArray n) :: (hi, PySem.W.listOf vs2.toArray n2) :: (lf, PySem.W.listOf vs3.toArray n3) :: (rs, oR) :: (pl, oP) :: own)) (I1 : IntsAre vs xs) (I2 : IntsAre vs2 xs2) (I3 : IntsAre vs3 xs3) (hr : ∀ z, z ≠ x → stored.contains z = false → m' z = m₀ z) (hp : P pre (vs, xs, n, vs2, xs2, n2, vs3, xs3, n3)) :
    InvEndN h₀ L (KstS (fun c : List Value × List Int × Nat × List Value × List Int × Nat × List Value × List Int × Nat => [(lo, PySem.W.listOf c.1.toArray c.2.2.1), (hi, PySem.W.listOf c.2.2.2.1.toArray c.2.2.2.2.2.1), (lf, PySem.W.listOf c.2.2.2.2.2.2.1.toArray c.2.2.2.2.2.2.2.2), (rs, oR), (pl, oP)]) (fun _ => []) (fun c => IntsAre c.1 c.2.1 ∧ IntsAre c.2.2.2.1 c.2.2.2.2.1 ∧ IntsAre c.2.2.2.2.2.2.1 c.2.2.2.2.2.2.2.1) x stored m₀ P pre) own (List.map (fun x => x.1) [(lo, o1), (hi, o2), (lf, o3), (rs, oR), (pl, oP)]) s₁ { s₁ with heap := h', toks := tk } :=
  kst_end (news' := [(lo, PySem.W.listOf vs.toArray n), (hi, PySem.W.listOf vs2.toArray n2), (lf, PySem.W.listOf vs3.toArray n3), (rs, oR), (pl, oP)] ++ own) (vs, xs, n, vs2, xs2, n2, vs3, xs3, n3) F N (fun _ h => List.mem_append_left _ h) (fun _ h => List.mem_append_right _ h) rfl ⟨I1, I2, I3⟩ (fun _ h => nomatch h) (fun z h1 _ h3 => hr z h1 h3) hp
theorem put_i {w : World} {dp un : Nat} {gd : Option (List Code)} {cn : Str} {cs : Scope} {a : Addr} {ccd : Value} {cl : List (Str × Addr)} {outer : List Env} {A₀ : Around} {base h₀ : Heap} {L : Addr} {m : Str → Option Value} {mean : ExcName → Option Value} {mg mb : Str → Option Value} {s : Shared} {Q E : Value → Shared → Prop}
    {lo hi : Addr} {vs vs2 : List Value} {xs xs2 front : List Int} {n n2 : Nat} {x : Int} {t1 : Tok} {rest : List (Addr × Obj)}
    (B : Below A₀ base outer h₀) (F : Fr h₀ L s.heap m) (X : (hd.heap_39 w.params).In h₀) (N : News h₀ L s.heap ((lo, PySem.W.listOf vs.toArray n) :: (hi, PySem.W.listOf vs2.toArray n2) :: rest)) (T : Top hd.view_39 (looseW hd.view_39 []) mean mg mb h₀) (hk : cs.kind = .function)
    (hne : lo ≠ hi) (hr : ∀ p ∈ rest, p.1 ≠ lo) (hr2 : ∀ p ∈ rest, p.1 ≠ hi) (hI : IntsAre vs xs) (hI2 : IntsAre vs2 xs2) (hinv : Inv front xs xs2) (hz : front.length < 500)
    (hdp : dp + 4 < recursionLimit) (hun : un + 32 < cLine)
    (ret : ∀ vs' vs2' ys ys2 n' n2' h' tk', Inv (front ++ [x]) ys ys2 → ys.length = (front.length + 2) / 2 → ys2.length = (front.length + 1) / 2 → Fr h₀ L h' m → News h₀ L h' ((lo, PySem.W.listOf vs'.toArray n') :: (hi, PySem.W.listOf vs2'.toArray n2') :: rest) → IntsAre vs' ys → IntsAre vs2' ys2 → Q .none { s with heap := h', toks := tk' }) :
    wpAny (model PySem.Challenge.rw_nb0105_01.row.prog w) (ktrTop dp un gd cn cs L a ccd cl outer) (call (.ref 88) [.ref lo, .ref hi, .int x t1]) Q E s := by
  have e := inv_lens hinv
  refine put_tells B F X N T hk hne hr hr2 hI hI2 (by omega) (by omega) hdp hun fun vs' vs2' n' n2' h' tk' F' N' I1 I2 => ?_
  have hinv' := put_inv (x := x) hinv
  have e' := inv_lens hinv'
  rw [List.length_append] at e'
  exact ret vs' vs2' _ _ n' n2' h' tk' hinv' e'.1 e'.2 F' N' I1 I2
local macro_rules | `(tactic| walk_at "pyIter ref") => `(tactic| ((with_reducible show wpAny _ _ (pyIter (Value.ref _)) (fun it s₂ => LoopAtV _ _ _ _ _ _ _ _ _ it s₂) _ _); (refine Stop.of ?_)))
local macro_rules | `(tactic| walk_at "InvEndN") => `(tactic| (refine Stop.of ?_))
local macro_rules | `(tactic| walk_at "call type:str") => `(tactic| (k_here; (with_reducible show wpAny _ _ (call (Value.type "str") [Value.ref _]) _ _ _); k_dflt (refine' str2_s ?k1 ?k2 ?k3 ?k4 ?k5 ?_ ?_; (case k1 => k_asm); (case k2 => k_asm); (case k3 => k_mem); (case k4 => exact rfl); (case k5 => exact Nat.le_of_ble_eq_true rfl)); (rotate_left; intro h9 t9 tk9 F9 N9; (try k_sweep))))
local macro_rules | `(tactic| walk_at "compareOp NotEq str str") => `(tactic| (k_here; refine neq_s ?_ ?_))
local macro_rules | `(tactic| walk_at "call ref") => `(tactic| ((with_reducible show wpAny _ _ (call (Value.ref 34) _) _ _ _); k_dflt (refine' ml_m ?k1 ?k2 ?k3 ?k4 ?km ?k5 ?kK ?ki ?kl ?kz ?kd ?ku ?_; (case k1 => k_asm); (case k2 => k_asm); (case k3 => k_asm); (case k4 => k_asm); (case km => k_mem); (case k5 => k_asm); (case kK => first | exact rfl | assumption); (case ki => assumption); (case kl => omega); (case kz => omega); (case kd => ktr_room); (case ku => ktr_units)); intro h9 tk9 t9 F9 N9; (try k_sweep); (try dsimp only); (try k_fold)))
local macro_rules | `(tactic| walk_at "call ref") => `(tactic| ((with_reducible show wpAny _ _ (call (Value.ref 41) _) _ _ _); k_dflt (refine' mh_m ?k1 ?k2 ?k3 ?k4 ?km ?k5 ?kK ?ki ?kl ?kz ?kd ?ku ?_; (case k1 => k_asm); (case k2 => k_asm); (case k3 => k_asm); (case k4 => k_asm); (case km => k_mem); (case k5 => k_asm); (case kK => first | exact rfl | assumption); (case ki => assumption); (case kl => omega); (case kz => omega); (case kd => ktr_room); (case ku => ktr_units)); intro h9 tk9 t9 F9 N9; (try k_sweep); (try dsimp only); (try k_fold)))
local macro_rules | `(tactic| walk_at "call ref") => `(tactic| ((with_reducible show wpAny _ _ (call (Value.ref 81) _) _ _ _); k_dflt (refine' mid_m ?k1 ?k2 ?k3 ?k4 ?km ?k5 ?kK ?ki ?kz ?kd ?ku ?_ ?_; (case k1 => k_asm); (case k2 => k_asm); (case k3 => k_asm); (case k4 => k_asm); (case km => k_mem); (case k5 => k_asm); (case kK => first | exact rfl | assumption); (case ki => assumption); (case kz => omega); (case kd => ktr_room); (case ku => ktr_units)); (rotate_left; intro h9 tk9 F9 N9; (try k_sweep); (try dsimp only); (try k_fold))))
local macro_rules | `(tactic| walk_at "call ref") => `(tactic| ((with_reducible show wpAny _ _ (call (Value.ref 88) _) _ _ _); k_dflt (refine' put_i ?k1 ?k2 ?k3 ?k4 ?k5 ?kK ?kn ?kr ?kr2 ?ki ?ki2 ?kv ?kz ?kd ?ku ?_; (case k1 => k_asm); (case k2 => k_asm); (case k3 => k_asm); (case k4 => k_asm); (case k5 => k_asm); (case kK => first | exact rfl | assumption); (case kn => assumption); (case kr => assumption); (case kr2 => assumption); (case ki => assumption); (case ki2 => assumption); (case kv => assumption); (case kz => omega); (case kd => ktr_room); (case ku => ktr_units)); intro vs9 vs9' ys9 ys9' n9 n9' h9 tk9 V9 l9 l9' F9 N9 I9 I9'; (try k_sweep); (try dsimp only); (try k_fold)))

local macro_rules | `(tactic| walk_at "call ref") => `(tactic| ((with_reducible show wpAny _ _ (call (Value.ref 95) _) _ _ _); k_dflt (refine' out_tells ?k1 ?k2 ?k3 ?k4 ?k5 ?kK ?kn ?kl ?kz ?kd ?ku ?_; (case k1 => k_asm); (case k2 => k_asm); (case k3 => k_asm); (case k4 => k_asm); (case k5 => k_asm); (case kK => first | exact rfl | assumption); (case kn => exact rfl); (case kl => omega); (case kz => omega); (case kd => ktr_room); (case ku => ktr_units)); intro D9 vs9 n9 h9 tk9 F9 N9 l9 I9; (try k_sweep); (try dsimp only); (try k_fold)))

local macro_rules | `(tactic| walk_at "call ref") => `(tactic| ((with_reducible show wpAny _ _ (call (Value.ref 55) _) _ _ _); k_dflt (refine' pop_t ?k1 ?k2 ?k3 ?k4 ?k5 ?kK ?kr ?ki ?kl ?kz ?kd ?ku ?_; (case k1 => k_asm); (case k2 => k_asm); (case k3 => k_asm); (case k4 => first | k_asm | exact news_swap (by k_asm)); (case k5 => k_asm); (case kK => first | exact rfl | assumption); (case kr => assumption); (case ki => assumption); (case kl => omega); (case kz => omega); (case kd => ktr_room); (case ku => ktr_units)); intro vs9 ys9 y9 n9 h9 tk9 t9 e9 v9 l9 F9 N9 I9; (try k_sweep); (try dsimp only); (try k_fold)))
local macro_rules | `(tactic| walk_at "call builtin:list.remove") => `(tactic| (k_here; (with_reducible show wpAny _ _ (call (Value.builtin _) [Value.ref _, Value.int _ _]) _ _ _); k_dflt (refine' remove_s ?F ?N ?U ?i ?z ?_ ?_; (case F => k_asm); (case N => k_asm); (case U => k_upd); (case i => assumption); (case z => omega)); (rotate_left; intro h9 F9 N9 I9; (try k_sweep))))
local macro_rules | `(tactic| k_all) => `(tactic| first | assumption | (refine' List.forall_mem_cons.mpr ⟨?a, ?b⟩; (case a => k_ne); (case b => k_all)))


set_option maxRecDepth 100000 in
set_option maxHeartbeats 8000000 in
theorem holds : PySem.Challenge.rw_nb0105_01.Holds := by
  refine hd ?_
  w_strict (k_go0; (all_goals try k_fold); k_steps)
  unfold Stop
  rename_i hI8 hL8 rw hx5 tkx o1 lo hx4 l1a hx3 tkx1 hi hx2 l1b hx1 F1 N1 hx0 tkx0 t1 u1 v1 rg lF lN lK
  clear F1 N1
  rename List Int => script
  have hRf := row_facts script
  generalize hR : List.map (fun k' : Int => if k'.fmod 3 = 0 then k'.fmod 40 else k'.fmod 4) (List.take 8 script ++ [9, 4, 9, 30]) = R at hI8 hL8 rg hRf ⊢
  obtain ⟨⟨hR4, hR12⟩, hRb⟩ := hRf
  have hlohi : lo ≠ hi := Nat.ne_of_lt l1b.1
  have hrwlo : rw ≠ lo := Nat.ne_of_lt l1a.1
  have hrwhi : rw ≠ hi := Nat.ne_of_lt l1b.2.1
  with_unfolding_all refine' kst_range (σ := List Value × List Int × Nat × List Value × List Int × Nat) (fun c => [(lo, PySem.W.listOf c.1.toArray c.2.2.1), (hi, PySem.W.listOf c.2.2.2.1.toArray c.2.2.2.2.2), (rw, PySem.W.listOf ys.toArray ys.length)]) (fun c => []) (fun c => IntsAre c.1 c.2.1 ∧ IntsAre c.2.2.2.1 c.2.2.2.2.1) [Str.ofString "front", Str.ofString "tops"] (fun pre c => Inv (R.take pre.length) c.2.1 c.2.2.2.2.1) ([], [], 0, [], [], 0) (by rfl) rg (small_one (by omega) (by omega) (by omega) (by omega)) (rangeSize_nat _ _) lF ?kn ⟨.nil, .nil⟩ (fun _ h => nomatch h) ?kp ?_ ?_
  (case kn =>
    intro p hp
    refine lN p ?_
    simp only [List.mem_cons, List.not_mem_nil, or_false] at hp ⊢
    rcases hp with e | e | e <;> subst e <;> simp)
  (case kp => exact inv_nil R)
  all_goals clear lF lN
  · rintro ⟨vs1, xs1, n1, vs2, xs2, n2⟩ pre k tt kU kH kTk own hk hlt hoff ⟨I1, I2⟩ hinv kFr kNews
    dsimp only [kstB, List.cons_append, List.nil_append, List.map_cons, List.map_nil] at hoff I1 I2 hinv kFr kNews
    have hfl : (List.take pre.length R).length = pre.length := by rw [List.length_take]; omega
    have ho1 : ∀ p ∈ (rw, PySem.W.listOf ys.toArray ys.length) :: own, p.1 ≠ lo := List.forall_mem_cons.mpr ⟨hrwlo, hoff.ne (by simp)⟩
    have ho2 : ∀ p ∈ (rw, PySem.W.listOf ys.toArray ys.length) :: own, p.1 ≠ hi := List.forall_mem_cons.mpr ⟨hrwhi, hoff.ne (by simp)⟩
    try k_fold
    k_steps
    all_goals unfold Stop
    all_goals (obtain ⟨a1, a2, a3, a4, a5, a6, a7, a8⟩ := turn_facts hk (by omega) hRb (by assumption))
    · exact ⟨a1, a2 (by omega)⟩
    · have nE := news_tail (news_tail (news_tail (by assumption)))
      refine end1 (by assumption) nE (by assumption) (by assumption) ?_ a8
      intro z h1 h3
      simp only [List.contains_cons, List.contains_nil, Bool.or_false, Bool.or_eq_false_iff, beq_eq_false_iff_ne, ne_eq] at h3
      simp [h1, h3]
    · exact a7 _ (by assumption) (by assumption)
    · rw [← a1]; exact a6 _ (by assumption) (by assumption)
    · rw [← a1, ← a2 (by omega)]; exact ⟨a4, a5⟩
    · exact ⟨a4, a5⟩
    · exact ⟨a1, a3 (by omega)⟩
    · have nE := news_tail (news_tail (news_tail (by assumption)))
      refine end1 (by assumption) nE (by assumption) (by assumption) ?_ a8
      intro z h1 h3
      simp only [List.contains_cons, List.contains_nil, Bool.or_false, Bool.or_eq_false_iff, beq_eq_false_iff_ne, ne_eq] at h3
      simp [h1, h3]
    · exact a7 _ (by assumption) (by assumption)
    · rw [← a1]; exact a6 _ (by assumption) (by assumption)
    · rw [← a1]; exact ⟨a4, a4⟩
    · exact ⟨a4, a5⟩
  · rintro ⟨vs1, xs1, n1, vs2, xs2, n2⟩ kU kH kTk ⟨I1, I2⟩ hinv kFr kNews
    dsimp only [kstB] at I1 I2 hinv kFr kNews
    rw [rangeKs_length] at hinv
    try k_fold
    k_steps
    unfold Stop
    rename_i rs vsR cR hA FA NA lA IR zR hB tkB lf cL hC l1c hD FD ND pl vsP nP hE tkE lF lN lP IP
    clear FA NA FD ND
    have d1 := ltN (lA _ (.head _))
    have d2 := ltN (lA _ (.tail _ (.head _)))
    have d3 := ltN (lP _ (.head _))
    have d4 := ltN (lP _ (.tail _ (.head _)))
    have d5 := ltN (lP _ (.tail _ (.tail _ (.head _))))
    have d6 := ltN (lP _ (.tail _ (.tail _ (.tail _ (.head _)))))
    with_unfolding_all refine' kst_listL (σ := List Value × List Int × Nat × List Value × List Int × Nat × List Value × List Int × Nat) (fun c => [(lo, PySem.W.listOf c.1.toArray c.2.2.1), (hi, PySem.W.listOf c.2.2.2.1.toArray c.2.2.2.2.2.1), (lf, PySem.W.listOf c.2.2.2.2.2.2.1.toArray c.2.2.2.2.2.2.2.2), (rs, PySem.W.listOf vsR.toArray cR), (pl, PySem.W.listOf vsP.toArray nP)]) (fun c => []) (fun c => IntsAre c.1 c.2.1 ∧ IntsAre c.2.2.2.1 c.2.2.2.2.1 ∧ IntsAre c.2.2.2.2.2.2.1 c.2.2.2.2.2.2.2.1) [Str.ofString "told"] (fun pre c => Inv2 R pre.length c.2.1 c.2.2.2.2.1 c.2.2.2.2.2.2.2.1) (vs1, xs1, n1, vs2, xs2, n2, ys, R, cL) (by rfl) (fun c => .tail _ (.tail _ (.tail _ (.tail _ (.head _))))) IP lF ?kn ⟨I1, I2, hI8⟩ (fun _ h => nomatch h) (inv2_start (by omega) hinv) ?_ ?_
    (case kn =>
      intro p hp
      refine lN p ?_
      simp only [List.mem_cons, List.not_mem_nil, or_false] at hp ⊢
      rcases hp with e | e | e | e | e <;> subst e <;> simp)
    all_goals clear lF lN I1 I2 hinv
    · rintro ⟨vs1, xs1, n1, vs2, xs2, n2, vs3, xs3, n3⟩ pre post pn tt kU kH kTk own he hmem hoff ⟨I1, I2, I3⟩ hinv kFr kNews
      dsimp only [kstB, List.cons_append, List.nil_append, List.map_cons, List.map_nil] at hoff I1 I2 I3 hinv kFr kNews
      obtain ⟨b1, b2, b3, b4, b5, b6⟩ := turn2_facts ⟨by omega, hR12⟩ he hRb hinv
      have o1 := hoff.ne (b := lo) (by simp)
      have o2 := hoff.ne (b := hi) (by simp)
      have o3 := hoff.ne (b := lf) (by simp)
      have ho1 : ∀ p ∈ (hi, PySem.W.listOf vs2.toArray n2) :: (lf, PySem.W.listOf vs3.toArray n3) :: (rs, PySem.W.listOf vsR.toArray cR) :: (pl, PySem.W.listOf vsP.toArray nP) :: own, p.1 ≠ lo := List.forall_mem_cons.mpr ⟨hlohi.symm, List.forall_mem_cons.mpr ⟨(Nat.ne_of_lt l1c.2.1).symm, List.forall_mem_cons.mpr ⟨(Nat.ne_of_lt d1).symm, List.forall_mem_cons.mpr ⟨(Nat.ne_of_lt d5).symm, o1⟩⟩⟩⟩
      have ho2 : ∀ p ∈ (lo, PySem.W.listOf vs1.toArray n1) :: (lf, PySem.W.listOf vs3.toArray n3) :: (rs, PySem.W.listOf vsR.toArray cR) :: (pl, PySem.W.listOf vsP.toArray nP) :: own, p.1 ≠ hi := List.forall_mem_cons.mpr ⟨hlohi, List.forall_mem_cons.mpr ⟨(Nat.ne_of_lt l1c.2.2.1).symm, List.forall_mem_cons.mpr ⟨(Nat.ne_of_lt d2).symm, List.forall_mem_cons.mpr ⟨(Nat.ne_of_lt d6).symm, o2⟩⟩⟩⟩
      try k_fold
      k_steps
      all_goals unfold Stop
      · rename _ = hpopV xs1 => v9
        obtain ⟨c1, c2, c3, c4, c5⟩ := b5 (by omega)
        rw [v9]
        exact ⟨c1, c2⟩
      · rename _ = hpopV xs1 => v9
        obtain ⟨c1, c2, c3, c4, c5⟩ := b5 (by omega)
        rename _ = hpopL xs1 => e9
        subst v9 e9
        refine end2 (by assumption) (news_tail (news_tail (by assumption))) (by assumption) (by assumption) (by assumption) ?_ c5
        intro z h1 h3
        simp only [List.contains_cons, List.contains_nil, Bool.or_false, Bool.or_eq_false_iff, beq_eq_false_iff_ne, ne_eq] at h3
        simp [h1, h3]
      · rename _ = hpopV xs1 => v9
        obtain ⟨c1, c2, c3, c4, c5⟩ := b5 (by omega)
        rw [v9]
        exact c4
      · rename _ = hpopV xs1 => v9
        obtain ⟨c1, c2, c3, c4, c5⟩ := b5 (by omega)
        rw [v9]
        exact ⟨c3, c3⟩
      · obtain ⟨c1, c2, c3, c4, c5⟩ := b5 (by omega)
        rw [c1, c2]
        exact ⟨c3, c3⟩
      · rename _ = hpopV xs2 => v9
        obtain ⟨c1, c2, c3, c4, c5⟩ := b6 (by omega)
        rw [v9]
        exact ⟨c1, c2⟩
      · rename _ = hpopV xs2 => v9
        obtain ⟨c1, c2, c3, c4, c5⟩ := b6 (by omega)
        rename _ = hpopL xs2 => e9
        subst v9 e9
        refine end2 (by assumption) (news_swap (news_tail (news_tail (by assumption)))) (by assumption) (by assumption) (by assumption) ?_ c5
        intro z h1 h3
        simp only [List.contains_cons, List.contains_nil, Bool.or_false, Bool.or_eq_false_iff, beq_eq_false_iff_ne, ne_eq] at h3
        simp [h1, h3]
      · rename _ = hpopV xs2 => v9
        obtain ⟨c1, c2, c3, c4, c5⟩ := b6 (by omega)
        rw [v9]
        exact c4
      · rename _ = hpopV xs2 => v9
        obtain ⟨c1, c2, c3, c4, c5⟩ := b6 (by omega)
        rw [v9]
        exact ⟨c3, c3⟩
      · obtain ⟨c1, c2, c3, c4, c5⟩ := b6 (by omega)
        rw [c1, c2]
        exact ⟨c3, c3⟩
    · rintro ⟨vs1, xs1, n1, vs2, xs2, n2, vs3, xs3, n3⟩ kU kH kTk ⟨I1, I2, I3⟩ hinv kFr kNews
      dsimp only [kstB] at I1 I2 I3 hinv kFr kNews
      obtain ⟨e1, e2⟩ := inv2_end (by omega) hinv
      subst e1 e2
      cases I1
      cases I2
      try k_fold
      k_steps
end Mine

theorem PySem.Challenge.cw_nb0105_01_holds : PySem.Challenge.rw_nb0105_01.Holds :=
  Mine.holds
