/-
  THE PLAIN SIDE OF 'LawS6341AWhole': what notBefore and the law's own text reckon, entry by entry; no Go in sight.
-/
import Derived.Test.YbulkeahkEnts
namespace Go.Proofs.Ybulkeahk

/-- The entry that tells the problem, among the first k. -/
def mo (A M : Nat → Int) (Z : Nat → Ent) : Nat → Ent
  | 0 => zeroEnt
  | k + 1 => if A (Z k).h < (Z k).n ∧ ((mo A M Z k).n = 0 ∨ M (Z k).h < M (mo A M Z k).h) then Z k else mo A M Z k
/-- The last count for the host E among the first k. -/
def ow (E : Int) (Z : Nat → Ent) : Nat → Int
  | 0 => 0
  | k + 1 => if ((Z k).h : Int) = E then (Z k).n else ow E Z k
/-- Is one of the first k entries smaller? -/
def sm (A : Nat → Int) (s0 : Bool) (Z : Nat → Ent) : Nat → Bool
  | 0 => s0
  | k + 1 => sm A s0 Z k || decide ((Z k).n < A (Z k).h)
/-- The law's own: has one been found, and the least id among those. -/
def fd (A : Nat → Int) (Z : Nat → Ent) : Nat → Bool
  | 0 => false
  | k + 1 => fd A Z k || decide (A (Z k).h < (Z k).n)
def mn (A M : Nat → Int) (Z : Nat → Ent) : Nat → Int
  | 0 => 0
  | k + 1 => if A (Z k).h < (Z k).n ∧ (fd A Z k = false ∨ M (Z k).h < mn A M Z k) then M (Z k).h else mn A M Z k

theorem mo_take {A M : Nat → Int} {Z : Nat → Ent} {k : Nat} (h : A (Z k).h < (Z k).n) (h2 : (mo A M Z k).n = 0 ∨ M (Z k).h < M (mo A M Z k).h) : mo A M Z (k + 1) = Z k := if_pos ⟨h, h2⟩
theorem mo_keep {A M : Nat → Int} {Z : Nat → Ent} {k : Nat} (h : ¬ A (Z k).h < (Z k).n) : mo A M Z (k + 1) = mo A M Z k := if_neg fun h' => h h'.1
theorem mo_keep2 {A M : Nat → Int} {Z : Nat → Ent} {k : Nat} (h : ¬ (mo A M Z k).n = 0) (h2 : ¬ M (Z k).h < M (mo A M Z k).h) : mo A M Z (k + 1) = mo A M Z k := if_neg fun h' => h'.2.elim h h2
theorem mo_lt {A M : Nat → Int} {Z : Nat → Ent} {h : Nat} (h1 : 1 ≤ h) (hZ : ∀ k, (Z k).h < h) (k : Nat) : (mo A M Z k).h < h := by
  induction k with
  | zero => exact h1
  | succ k ih =>
    unfold mo
    split
    · exact hZ k
    · exact ih
theorem mo_bd {A M : Nat → Int} {Z : Nat → Ent} (hZ : ∀ k, 0 ≤ (Z k).n ∧ (Z k).n ≤ 18446744073709551615) (k : Nat) : 0 ≤ (mo A M Z k).n ∧ (mo A M Z k).n ≤ 18446744073709551615 := by
  induction k with
  | zero => exact ⟨Int.le_refl 0, by show (0 : Int) ≤ _; omega⟩
  | succ k ih =>
    unfold mo
    split
    · exact hZ k
    · exact ih
theorem ow_hit {E : Int} {Z : Nat → Ent} {k : Nat} (h : ((Z k).h : Int) = E) : ow E Z (k + 1) = (Z k).n := if_pos h
theorem ow_miss {E : Int} {Z : Nat → Ent} {k : Nat} (h : ¬ ((Z k).h : Int) = E) : ow E Z (k + 1) = ow E Z k := if_neg h
theorem ow_bd {E : Int} {Z : Nat → Ent} (hZ : ∀ k, 0 ≤ (Z k).n ∧ (Z k).n ≤ 18446744073709551615) (k : Nat) : 0 ≤ ow E Z k ∧ ow E Z k ≤ 18446744073709551615 := by
  induction k with
  | zero => exact ⟨Int.le_refl 0, by show (0 : Int) ≤ _; omega⟩
  | succ k ih =>
    unfold ow
    split
    · exact hZ k
    · exact ih

theorem fd_hit {A : Nat → Int} {Z : Nat → Ent} {k : Nat} (h : A (Z k).h < (Z k).n) : fd A Z (k + 1) = true := by simp [fd, h]
theorem fd_miss {A : Nat → Int} {Z : Nat → Ent} {k : Nat} (h : ¬ A (Z k).h < (Z k).n) : fd A Z (k + 1) = fd A Z k := by simp [fd, h]
theorem mn_take {A M : Nat → Int} {Z : Nat → Ent} {k : Nat} (h : A (Z k).h < (Z k).n) (h2 : fd A Z k = false ∨ M (Z k).h < mn A M Z k) : mn A M Z (k + 1) = M (Z k).h := if_pos ⟨h, h2⟩
theorem mn_keep {A M : Nat → Int} {Z : Nat → Ent} {k : Nat} (h : ¬ A (Z k).h < (Z k).n) : mn A M Z (k + 1) = mn A M Z k := if_neg fun h' => h h'.1
theorem mn_keep2 {A M : Nat → Int} {Z : Nat → Ent} {k : Nat} (h : fd A Z k = true) (h2 : ¬ M (Z k).h < mn A M Z k) : mn A M Z (k + 1) = mn A M Z k := if_neg fun h' => h'.2.elim (fun x => by rw [h] at x; cases x) h2
/-- Found, and the least id, out of the entry that tells. -/
theorem fd_mo {A M : Nat → Int} {Z : Nat → Ent} (hA : ∀ j, 0 ≤ A j) (k : Nat) : (fd A Z k = true ↔ 0 < (mo A M Z k).n) ∧ (fd A Z k = true → mn A M Z k = M (mo A M Z k).h) := by
  induction k with
  | zero => simp [fd, mo, zeroEnt]
  | succ k ih =>
    by_cases hx : A (Z k).h < (Z k).n
    · have hp : 0 < (Z k).n := by have := hA (Z k).h; omega
      have hf : fd A Z (k + 1) = true := by simp [fd, hx]
      by_cases hf0 : fd A Z k = true
      · have hm := ih.2 hf0
        have hpos := ih.1.1 hf0
        by_cases hlt : M (Z k).h < M (mo A M Z k).h
        · rw [mo_take hx (.inr hlt)]
          refine ⟨by simp [hf, hp], fun _ => ?_⟩
          unfold mn
          rw [if_pos ⟨hx, .inr (by rw [hm]; exact hlt)⟩]
        · rw [mo_keep2 (by omega) hlt]
          refine ⟨by simp [hf, hpos], fun _ => ?_⟩
          unfold mn
          rw [if_neg (by rintro ⟨_, h | h⟩; · rw [hf0] at h; cases h
                         · rw [hm] at h; exact hlt h)]
          exact hm
      · have hf0' : fd A Z k = false := by simpa using hf0
        have hz : (mo A M Z k).n = 0 ∨ ¬ (mo A M Z k).n = 0 := by omega
        have hnp : ¬ 0 < (mo A M Z k).n := fun h => hf0 (ih.1.2 h)
        by_cases hz : (mo A M Z k).n = 0
        · rw [mo_take hx (.inl hz)]
          refine ⟨by simp [hf, hp], fun _ => ?_⟩
          unfold mn
          rw [if_pos ⟨hx, .inl hf0'⟩]
        · exfalso
          have : ∀ k, 0 ≤ (mo A M Z k).n := by
            intro k
            induction k with
            | zero => exact Int.le_refl 0
            | succ k ih2 =>
              unfold mo
              split
              · rename_i h; have := hA (Z k).h; omega
              · exact ih2
          have := this k
          omega
    · rw [mo_keep hx]
      have hf : fd A Z (k + 1) = fd A Z k := by simp [fd, hx]
      rw [hf]
      refine ⟨ih.1, fun h => ?_⟩
      unfold mn
      rw [if_neg (fun h' => hx h'.1)]
      exact ih.2 h

/-- The entry that tells stands at the FIRST place that exceeds and bears the least id. -/
theorem mo_first {A M : Nat → Int} {Z : Nat → Ent} (hA : ∀ j, 0 ≤ A j) (n : Nat) (hf : fd A Z n = true) :
    ∃ j, j < n ∧ mo A M Z n = Z j ∧ A (Z j).h < (Z j).n ∧ (∀ i, i < j → A (Z i).h < (Z i).n → M (Z j).h < M (Z i).h) ∧ ∀ i, i < n → A (Z i).h < (Z i).n → M (Z j).h ≤ M (Z i).h := by
  induction n with
  | zero => simp [fd] at hf
  | succ n ih =>
    by_cases hx : A (Z n).h < (Z n).n
    · by_cases hf0 : fd A Z n = true
      · obtain ⟨j, hj, hm, hxj, hb, hl⟩ := ih hf0
        by_cases hlt : M (Z n).h < M (mo A M Z n).h
        · refine ⟨n, by omega, mo_take hx (.inr hlt), hx, fun i hi hxi => ?_, fun i hi hxi => ?_⟩
          · have := hl i hi hxi
            rw [hm] at hlt
            omega
          · by_cases e : i = n
            · subst e; omega
            · have := hl i (by omega) hxi
              rw [hm] at hlt
              omega
        · have hpos := (fd_mo (M := M) hA n).1.1 hf0
          refine ⟨j, by omega, by rw [mo_keep2 (by omega) hlt]; exact hm, hxj, hb, fun i hi hxi => ?_⟩
          by_cases e : i = n
          · subst e; rw [hm] at hlt; omega
          · exact hl i (by omega) hxi
      · have hf0' : fd A Z n = false := by simpa using hf0
        have none : ∀ i, i < n → ¬ A (Z i).h < (Z i).n := by
          clear ih hf hx hf0
          induction n with
          | zero => intro i hi; omega
          | succ n ih2 =>
            simp [fd] at hf0'
            intro i hi
            by_cases e : i = n
            · subst e; omega
            · exact ih2 hf0'.1 i (by omega)
        have hz : (mo A M Z n).n = 0 := by
          have h1 := (fd_mo (M := M) (Z := Z) hA n).1
          have : ∀ k, 0 ≤ (mo A M Z k).n := by
            intro k
            induction k with
            | zero => exact Int.le_refl 0
            | succ k ih2 =>
              unfold mo
              split
              · rename_i h; have := hA (Z k).h; omega
              · exact ih2
          have h2 := this n
          have h3 : ¬ 0 < (mo A M Z n).n := fun h => hf0 (h1.2 h)
          omega
        refine ⟨n, by omega, mo_take hx (.inl hz), hx, fun i hi hxi => absurd hxi (none i hi), fun i hi hxi => ?_⟩
        by_cases e : i = n
        · subst e; omega
        · exact absurd hxi (none i (by omega))
    · have hf0 : fd A Z n = true := by simpa [fd, hx] using hf
      obtain ⟨j, hj, hm, hxj, hb, hl⟩ := ih hf0
      refine ⟨j, by omega, by rw [mo_keep hx]; exact hm, hxj, hb, fun i hi hxi => ?_⟩
      by_cases e : i = n
      · subst e; exact absurd hxi hx
      · exact hl i (by omega) hxi

/-- The last match, looked for from the end. -/
theorem ow_last {E : Int} {Z : Nat → Ent} {n i : Nat} (hi : i < n) (hh : ((Z i).h : Int) = E) (hno : ∀ j, i < j → j < n → ¬ ((Z j).h : Int) = E) : ow E Z n = (Z i).n := by
  induction n with
  | zero => omega
  | succ n ih =>
    by_cases e : i = n
    · subst e; exact ow_hit hh
    · rw [ow_miss (hno n (by omega) (by omega))]
      exact ih (by omega) fun j h1 h2 => hno j h1 (by omega)
theorem ow_none {E : Int} {Z : Nat → Ent} {n : Nat} (hno : ∀ j, j < n → ¬ ((Z j).h : Int) = E) : ow E Z n = 0 := by
  induction n with
  | zero => rfl
  | succ n ih =>
    rw [ow_miss (hno n (by omega))]
    exact ih fun j h => hno j (by omega)

end Go.Proofs.Ybulkeahk
