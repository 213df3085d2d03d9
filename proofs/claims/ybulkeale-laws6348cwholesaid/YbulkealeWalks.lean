/-
  THE WALKS OF 'LawS6348CWhole': skipQuoted and the model reckon one plain function.
-/
import Derived.Test.YbulkealeProg
import Derived.WalkKit
import Derived.WalkSpells
import Derived.WalkLawsBesides
namespace Go.Proofs.Ybulkeale
open Go.RowKit

def bAt (s : ByteArray) (k : Nat) : Int := if h : k < s.size then ((s[k]'h).toNat : Int) else 0
/-- What is found in the last r bytes of s, an escape open or not. -/
def sc (s : ByteArray) : Nat → Bool → Nat × Bool
  | 0, _ => (s.size, false)
  | r + 1, esc => if esc = true then sc s r false else if bAt s (s.size - (r + 1)) = 92 then sc s r true else if bAt s (s.size - (r + 1)) = 34 then (s.size - (r + 1) + 1, true) else sc s r false

theorem bAt_lt (s : ByteArray) (k : Nat) (h : k < s.size) : bAt s k = ((s[k]'h).toNat : Int) := dif_pos h
theorem sc_end (s : ByteArray) (k : Nat) (e : Bool) (h : s.size ≤ k) : sc s (s.size - k) e = (s.size, false) := by
  rw [show s.size - k = 0 by omega]; rfl
theorem sc_esc (s : ByteArray) (k : Nat) (h : k < s.size) : sc s (s.size - k) true = sc s (s.size - (k + 1)) false := by
  rw [show s.size - k = (s.size - (k + 1)) + 1 by omega]
  rfl
theorem sc_back (s : ByteArray) (k : Nat) (h : k < s.size) (hb : bAt s k = 92) : sc s (s.size - k) false = sc s (s.size - (k + 1)) true := by
  rw [show s.size - k = (s.size - (k + 1)) + 1 by omega]
  have e : s.size - (s.size - (k + 1) + 1) = k := by omega
  simp [sc, e, hb]
theorem sc_quote (s : ByteArray) (k : Nat) (h : k < s.size) (_h9 : ¬ bAt s k = 92) (hb : bAt s k = 34) : sc s (s.size - k) false = (k + 1, true) := by
  rw [show s.size - k = (s.size - (k + 1)) + 1 by omega]
  have e : s.size - (s.size - (k + 1) + 1) = k := by omega
  simp [sc, e, hb]
theorem sc_else (s : ByteArray) (k : Nat) (h : k < s.size) (h9 : ¬ bAt s k = 92) (hb : ¬ bAt s k = 34) : sc s (s.size - k) false = sc s (s.size - (k + 1)) false := by
  rw [show s.size - k = (s.size - (k + 1)) + 1 by omega]
  have e : s.size - (s.size - (k + 1) + 1) = k := by omega
  simp [sc, e, hb, h9]
theorem sc_two (s : ByteArray) (k : Nat) (h : k < s.size) (hb : bAt s k = 92) : sc s (s.size - k) false = sc s (s.size - (k + 2)) false := by
  rw [sc_back s k h hb]
  by_cases h2 : k + 1 < s.size
  · rw [sc_esc s (k + 1) h2]
  · rw [sc_end s (k + 1) _ (by omega), sc_end s (k + 2) _ (by omega)]

theorem ret2 {a b : Int} {x y : Bool} (h : a = b) (h2 : x = y) : Ending.returned (.tuple #[.int .i64 a, .bool x]) = .returned (.tuple #[.int .i64 b, .bool y]) := by rw [h, h2]

set_option maxHeartbeats 1000000 in
theorem skip_any (s : ByteArray) (j : Int) (N : Nat) (B : Bool) (w : World) (hs : s.size ≤ 1048577) (h0 : -1 ≤ j) (h1 : j ≤ s.size) (HV : Hid (sc s (s.size - (j + 1).toNat) false = (N, B))) :
    Calls Yba.prog 4 #[.string s, .int .i64 j] w fun e w' => e = .returned (.tuple #[.int .i64 N, .bool B]) ∧ w' = w := by
  go_enter Yba.func4, Yba.ntmps4
  go_wp2
  go_loop [1] (fun i => ∃ k : Nat, k ≤ s.size + 1 ∧ i = .int .i64 k ∧ Hid (sc s (s.size - k) false = (N, B))) (fun i => s.size + 2 - (intOf i).toNat)
  case atStart => exact ⟨(j + 1).toNat, by omega, by go_num, HV⟩
  case round =>
    clear HV
    obtain ⟨k, hk, rfl, HV⟩ := hrel
    by_cases hlt : k < s.size
    · have eb : Hid (bAt s k = ((s[k]'hlt).toNat : Int)) := bAt_lt s k hlt
      cases h92 : (((s[k]'hlt).toNat : Int) == 92)
      · cases h34 : (((s[k]'hlt).toNat : Int) == 34)
        · have HW : Hid (sc s (s.size - (k + 1)) false = (N, B)) := by
            show _ = _
            rw [← sc_else s k hlt (by rw [eb.out]; simpa using h92) (by rw [eb.out]; simpa using h34)]; exact HV.out
          clear HV
          go_wp2
          go_round
          case rel => exact ⟨k + 1, by omega, by go_num, HW⟩
          case measure => simp [intOf] <;> omega
        · have HW : Hid ((k + 1, true) = (N, B)) := by
            show _ = _
            rw [← sc_quote s k hlt (by rw [eb.out]; simpa using h92) (by rw [eb.out]; simpa using h34)]; exact HV.out
          clear HV
          go_wp2
          go_ret2
          have := HW.out
          simp only [Prod.mk.injEq] at this
          exact ⟨ret2 (by omega) this.2, rfl⟩
      · have HW : Hid (sc s (s.size - (k + 2)) false = (N, B)) := by
          show _ = _
          rw [← sc_two s k hlt (by rw [eb.out]; simpa using h92)]; exact HV.out
        clear HV
        go_wp2
        go_round
        case rel => exact ⟨k + 2, by omega, by go_num, HW⟩
        case measure => simp [intOf] <;> omega
    · have HW := HV.out
      rw [sc_end s k _ (by omega)] at HW
      have HW' : Hid ((s.size, false) = (N, B)) := HW
      clear HW HV
      go_wp2
      go_ret2
      have := HW'.out
      simp only [Prod.mk.injEq] at this
      exact ⟨ret2 (by omega) this.2, rfl⟩

set_option maxHeartbeats 1000000 in
theorem model_any (s : ByteArray) (j : Int) (N : Nat) (B : Bool) (w : World) (hs : s.size ≤ 1048577) (h0 : -1 ≤ j) (h1 : j ≤ s.size) (HV : Hid (sc s (s.size - (j + 1).toNat) false = (N, B))) :
    Calls Yba.prog 5 #[.string s, .int .i64 j] w fun e w' => e = .returned (.tuple #[.int .i64 N, .bool B]) ∧ w' = w := by
  go_enter Yba.func5, Yba.ntmps5
  go_wp2
  go_loop [6, 7] (fun x i => ∃ (k : Nat) (esc : Bool), k ≤ s.size + 1 ∧ i = .int .i64 k ∧ x = .bool esc ∧ Hid (sc s (s.size - k) esc = (N, B))) (fun _ i => s.size + 2 - (intOf i).toNat)
  case atStart => exact ⟨(j + 1).toNat, false, by omega, by go_num, rfl, HV⟩
  case round =>
    clear HV
    obtain ⟨k, esc, hk, rfl, rfl, HV⟩ := hrel
    by_cases hlt : k < s.size
    · have eb : Hid (bAt s k = ((s[k]'hlt).toNat : Int)) := bAt_lt s k hlt
      cases esc
      · cases h92 : (((s[k]'hlt).toNat : Int) == 92)
        · cases h34 : (((s[k]'hlt).toNat : Int) == 34)
          · have HW : Hid (sc s (s.size - (k + 1)) false = (N, B)) := by
              show _ = _
              rw [← sc_else s k hlt (by rw [eb.out]; simpa using h92) (by rw [eb.out]; simpa using h34)]; exact HV.out
            clear HV
            go_wp2
            go_round
            case rel => exact ⟨k + 1, false, by omega, by go_num, rfl, HW⟩
            case measure => simp [intOf] <;> omega
          · have HW : Hid ((k + 1, true) = (N, B)) := by
              show _ = _
              rw [← sc_quote s k hlt (by rw [eb.out]; simpa using h92) (by rw [eb.out]; simpa using h34)]; exact HV.out
            clear HV
            go_wp2
            go_ret2
            have := HW.out
            simp only [Prod.mk.injEq] at this
            exact ⟨ret2 (by omega) this.2, rfl⟩
        · have HW : Hid (sc s (s.size - (k + 1)) true = (N, B)) := by
            show _ = _
            rw [← sc_back s k hlt (by rw [eb.out]; simpa using h92)]; exact HV.out
          clear HV
          go_wp2
          go_round
          case rel => exact ⟨k + 1, true, by omega, by go_num, rfl, HW⟩
          case measure => simp [intOf] <;> omega
      · have HW : Hid (sc s (s.size - (k + 1)) false = (N, B)) := by
          show _ = _
          rw [← sc_esc s k hlt]; exact HV.out
        clear HV
        go_wp2
        go_round
        case rel => exact ⟨k + 1, false, by omega, by go_num, rfl, HW⟩
        case measure => simp [intOf] <;> omega
    · have HW := HV.out
      rw [sc_end s k _ (by omega)] at HW
      have HW' : Hid ((s.size, false) = (N, B)) := HW
      clear HW HV
      go_wp2
      go_ret2
      have := HW'.out
      simp only [Prod.mk.injEq] at this
      exact ⟨ret2 (by omega) this.2, rfl⟩

/-- The start that the law maps out of u. -/
theorem start_bd (u : Int) (n : Nat) (hn : n ≤ 1048577) : -1 ≤ wrap64 (wrap64 (u % ((n : Int) + 2)) - 1) ∧ wrap64 (wrap64 (u % ((n : Int) + 2)) - 1) ≤ n := by
  have h2 := Int.emod_nonneg u (show ((n : Int) + 2) ≠ 0 by omega)
  have h3 := Int.emod_lt_of_pos u (show 0 < ((n : Int) + 2) by omega)
  generalize u % ((n : Int) + 2) = x at h2 h3 ⊢
  unfold wrap64
  omega

set_option maxHeartbeats 1000000 in
theorem law_walk (s : ByteArray) (u : Int) (b : Bool) (w : World) (_hs : s.size ≤ 9223372036854775807) (_h0 : 0 ≤ u) (_h1 : u ≤ 18446744073709551615) :
    Calls Yba.prog 3 #[.string s, .int .u64 u, .bool b] w fun e w' => e = .returned (.bool true) ∧ w' = w := by
  by_cases hbig : 1048576 < s.size
  · go_enter Yba.func3, Yba.ntmps3
    go_wp2
    go_ret
    exact ⟨rfl, rfl⟩
  · cases b
    · go_enter Yba.func3, Yba.ntmps3
      go_wp2_with fail
      have hj := start_bd u s.size (by omega)
      generalize wrap64 (wrap64 (u % ((s.size : Int) + 2)) - 1) = j at hj ⊢
      obtain ⟨N, B, HV⟩ : ∃ N B, Hid (sc s (s.size - (j + 1).toNat) false = (N, B)) := ⟨_, _, rfl⟩
      refine (skip_any s j N B w (by omega) hj.1 hj.2 HV).mono ?_
      rintro e w1 ⟨rfl, rfl⟩
      go_wp2_with fail
      refine (model_any s j N B w1 (by omega) hj.1 hj.2 HV).mono ?_
      rintro e w2 ⟨rfl, rfl⟩
      go_wp2
      go_ret
      exact ⟨rfl, rfl⟩
    · have hsz : (⟨#[34]⟩ ++ s : ByteArray).size = 1 + s.size := by simp [ByteArray.size_append]; rfl
      obtain ⟨S, HS⟩ : ∃ S : ByteArray, Hid (S = (⟨#[34]⟩ ++ s : ByteArray)) := ⟨_, rfl⟩
      go_enter Yba.func3, Yba.ntmps3
      go_wp2_with fail
      rw [← HS.out]
      rw [← HS.out] at hsz
      obtain ⟨N, B, HV⟩ : ∃ N B, Hid (sc S (S.size - ((0 : Int) + 1).toNat) false = (N, B)) := ⟨_, _, rfl⟩
      refine (skip_any S 0 N B w (by omega) (by omega) (by omega) HV).mono ?_
      rintro e w1 ⟨rfl, rfl⟩
      clear hsz
      go_wp2_with fail
      have hsz : S.size = 1 + s.size := by rw [HS.out]; simp [ByteArray.size_append]; rfl
      refine (model_any S 0 N B w1 (by omega) (by omega) (by omega) HV).mono ?_
      rintro e w2 ⟨rfl, rfl⟩
      clear hsz
      go_wp2
      go_ret
      exact ⟨rfl, rfl⟩

end Go.Proofs.Ybulkeale
