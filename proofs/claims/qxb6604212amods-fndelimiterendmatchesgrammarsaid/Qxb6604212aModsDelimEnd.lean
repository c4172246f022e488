/-
  THE WALKS: delimiterEnd, ZZdelimiterEnd.
-/
import Derived.Test.Qxb6604212aModsDelimGrow
namespace Go.Proofs.Qxb6604212aMods
open Go.RowKit Plain
set_option linter.unusedVariables false

theorem tup2 {a b : Int} {x y : Bool} (h1 : a = b) (h2 : x = y) : Ending.returned (.tuple #[.int .i64 a, .bool x]) = .returned (.tuple #[.int .i64 b, .bool y]) := by rw [h1, h2]
theorem pads_next {Z : Nat → Int} {o k : Nat} (h : ∀ j, o ≤ j → j < k → padB (Z j) = true) (hd : padB (Z k) = true) : ∀ j, o ≤ j → j < k + 1 → padB (Z j) = true := fun j h1 h2 => by
  by_cases e : j = k
  · rw [e]; exact hd
  · exact h j h1 (by omega)

theorem delim_zero (a : Option Addr) (cap : Nat) (t : Bool) (w : World) : Calls Trym.prog 7 #[.slice a 0 cap, .bool t] w fun e w' => e = .returned (.tuple #[.int .i64 (-1), .bool false]) ∧ w' = w := by
  go_enter Trym.func7, Trym.ntmps7
  go_wp2
  refine wp_loop_rounds 1 ?_
  rw [rounds_succ]
  go_wp2
  go_ret2
  exact ⟨rfl, rfl⟩

theorem delim_one (b cap : Nat) (t : Bool) (w : World) (h0 : w.cell? ⟨b, 0, none⟩ = some (.int .u8 45)) :
    Calls Trym.prog 7 #[.slice (some ⟨b, 0, none⟩) 1 cap, .bool t] w fun e w' => e = .returned (.tuple #[.int .i64 (-1), .bool false]) ∧ w' = w := by
  go_enter Trym.func7, Trym.ntmps7
  go_wp2
  go_ret2
  exact ⟨rfl, rfl⟩

theorem delim_dash (b n cap : Nat) (c : Int) (t : Bool) (w : World) (hn : 2 ≤ n) (hs : n ≤ 1048576) (h0 : w.cell? ⟨b, 0, none⟩ = some (.int .u8 45)) (h1 : w.cell? ⟨b, 1, none⟩ = some (.int .u8 c)) (hc : (c == 45) = false) :
    Calls Trym.prog 7 #[.slice (some ⟨b, 0, none⟩) n cap, .bool t] w fun e w' => e = .returned (.tuple #[.int .i64 0, .bool false]) ∧ w' = w := by
  go_enter Trym.func7, Trym.ntmps7
  go_wp2
  go_ret2
  exact ⟨rfl, rfl⟩

set_option maxHeartbeats 1600000 in
theorem delim_plain (b n cap : Nat) (Z : Nat → Int) (i : Nat) (t : Bool) (w : World) (hn : 1 ≤ n) (hz : (Z 0 == 45) = false) (hs : n ≤ 1048576)
    (hc : ∀ k, k < n → w.cell? ⟨b, k, none⟩ = some (.int .u8 (Z k))) (hI : IsEnd Z 0 n i) :
    Calls Trym.prog 7 #[.slice (some ⟨b, 0, none⟩) n cap, .bool t] w fun e w' => e = .returned (.tuple #[.int .i64 (ansN Z n i false t), .bool (ansF Z n i false t)]) ∧ w' = w := by
  have HI : Hid (IsEnd Z 0 n i) := hI
  clear hI
  have h0 := hc 0 (by omega)
  go_enter Trym.func7, Trym.ntmps7
  go_wp2
  go_loop [6] (fun x => ∃ k : Nat, 0 ≤ k ∧ k ≤ n ∧ x = .int .i64 k ∧ ∀ j, 0 ≤ j → j < k → padB (Z j) = true) (fun x => n - (intOf x).toNat)
  case atStart => exact ⟨0, Nat.le_refl _, by omega, rfl, fun j h1 h2 => by omega⟩
  case round =>
    obtain ⟨k, hk0, hk, rfl, hp⟩ := hrel
    have HP : Hid (∀ j, 0 ≤ j → j < k → padB (Z j) = true) := hp
    clear hp
    by_cases hlt : k < n
    · have hck := hc k hlt
      by_cases h32 : Z k = 32
      · have hck' : w.cell? ⟨b, k, none⟩ = some (.int .u8 32) := by rw [← h32]; exact hck
        have HD : Hid (padB (Z k) = true) := by rw [h32]; exact (show padB 32 = true from by decide)
        clear hck h32 hc
        go_wp2
        go_round
        case rel => exact ⟨k + 1, by omega, by omega, by go_num, pads_next HP.out HD.out⟩
        case measure => simp [intOf]; omega
      · by_cases h9 : Z k = 9
        · have hck' : w.cell? ⟨b, k, none⟩ = some (.int .u8 9) := by rw [← h9]; exact hck
          have HD : Hid (padB (Z k) = true) := by rw [h9]; exact (show padB 9 = true from by decide)
          clear hck h32 h9 hc
          go_wp2
          go_round
          case rel => exact ⟨k + 1, by omega, by omega, by go_num, pads_next HP.out HD.out⟩
          case measure => simp [intOf]; omega
        · have e32 : (Z k == 32) = false := by simpa using h32
          have e9 : (Z k == 9) = false := by simpa using h9
          have hik : i = k := HI.out.unique ⟨hk0, hk, HP.out, fun _ => by simp [padB, h32, h9]⟩
          subst hik
          have hne : ((i : Int) == (n : Int)) = false := by simp only [beq_eq_false_iff_ne, ne_eq]; omega
          by_cases h13 : Z i = 13
          · have hck' : w.cell? ⟨b, i, none⟩ = some (.int .u8 13) := by rw [← h13]; exact hck
            have H13 : Hid (Z i = 13) := h13
            by_cases hl : i + 1 = n
            · have HL : Hid (i + 1 = n) := hl
              have hl' : ((i : Int) + 1 == (n : Int)) = true := by simp only [beq_iff_eq]; omega
              clear hck h32 h9 e32 e9 h13 hl hc
              go_wp2
              go_ret2
              have h1 := H13.out
              have h2 := HL.out
              exact ⟨tup2 (by unfold ansN; rw [if_neg (by omega), if_neg (by simp [h1]), if_pos h2]) (by unfold ansF; rw [if_neg (by omega), if_neg (by simp [h1]), if_pos h2]), rfl⟩
            · have hck1 := hc (i + 1) (by omega)
              have hl' : ((i : Int) + 1 == (n : Int)) = false := by simp only [beq_eq_false_iff_ne, ne_eq]; omega
              have hlt1 : i + 1 < n := by omega
              by_cases h10 : Z (i + 1) = 10
              · have hck1' : w.cell? ⟨b, i + 1, none⟩ = some (.int .u8 10) := by rw [← h10]; exact hck1
                have H10 : Hid (Z (i + 1) = 10) := h10
                clear hck hck1 h32 h9 e32 e9 h13 h10 hl hc
                go_wp2
                go_ret2
                have h1 := H13.out
                have h2 := H10.out
                exact ⟨tup2 (by unfold ansN; rw [if_neg (by omega), if_neg (by simp [h1]), if_neg (by omega), if_neg (by simp [h2])]; rfl) (by unfold ansF; rw [if_neg (by omega), if_neg (by simp [h1]), if_neg (by omega), if_neg (by simp [h2])]), rfl⟩
              · have e10 : (Z (i + 1) == 10) = false := by simpa using h10
                have H10 : Hid (¬ Z (i + 1) = 10) := h10
                clear hck h32 h9 e32 e9 h13 h10 hl hc
                go_wp2
                go_ret2
                have h1 := H13.out
                have h2 := H10.out
                exact ⟨tup2 (by unfold ansN; rw [if_neg (by omega), if_neg (by simp [h1]), if_neg (by omega), if_pos h2]) (by unfold ansF; rw [if_neg (by omega), if_neg (by simp [h1]), if_neg (by omega), if_pos h2]), rfl⟩
          · have e13 : (Z i == 13) = false := by simpa using h13
            have H13 : Hid (¬ Z i = 13) := h13
            clear h32 h9 h13 hc
            go_wp2
            go_ret2
            have h1 := H13.out
            exact ⟨tup2 (by unfold ansN; rw [if_neg (by omega), if_pos h1]) (by unfold ansF; rw [if_neg (by omega), if_pos h1]), rfl⟩
    · obtain rfl : k = n := by omega
      have hik : i = k := HI.out.unique ⟨hk0, hk, HP.out, fun h => by omega⟩
      subst hik
      clear hc
      cases t
      all_goals
        go_wp2
        go_ret2
        exact ⟨tup2 (by unfold ansN; rw [if_pos rfl]; rfl) (by unfold ansF; rw [if_pos rfl]; rfl), rfl⟩

set_option maxHeartbeats 1600000 in
theorem delim_two (b n cap : Nat) (Z : Nat → Int) (i : Nat) (t : Bool) (w : World) (hn : 2 ≤ n) (hz0 : Z 0 = 45) (hz1 : Z 1 = 45) (hs : n ≤ 1048576)
    (hc : ∀ k, k < n → w.cell? ⟨b, k, none⟩ = some (.int .u8 (Z k))) (hI : IsEnd Z 2 n i) :
    Calls Trym.prog 7 #[.slice (some ⟨b, 0, none⟩) n cap, .bool t] w fun e w' => e = .returned (.tuple #[.int .i64 (ansN Z n i true t), .bool (ansF Z n i true t)]) ∧ w' = w := by
  have HI : Hid (IsEnd Z 2 n i) := hI
  clear hI
  have h0 : w.cell? ⟨b, 0, none⟩ = some (.int .u8 45) := by rw [← hz0]; exact hc 0 (by omega)
  have h1 : w.cell? ⟨b, 1, none⟩ = some (.int .u8 45) := by rw [← hz1]; exact hc 1 (by omega)
  clear hz0 hz1
  have HC : Hid (∀ k, k < n → w.cell? ⟨b, k, none⟩ = some (.int .u8 (Z k))) := hc
  clear hc
  go_enter Trym.func7, Trym.ntmps7
  go_wp2
  go_loop [6] (fun x => ∃ k : Nat, 2 ≤ k ∧ k ≤ n ∧ x = .int .i64 k ∧ ∀ j, 2 ≤ j → j < k → padB (Z j) = true) (fun x => n - (intOf x).toNat)
  case atStart => exact ⟨2, Nat.le_refl _, by omega, rfl, fun j h1 h2 => by omega⟩
  case round =>
    obtain ⟨k, hk0, hk, rfl, hp⟩ := hrel
    have HP : Hid (∀ j, 2 ≤ j → j < k → padB (Z j) = true) := hp
    clear hp
    by_cases hlt : k < n
    · have hck := HC.out k hlt
      by_cases h32 : Z k = 32
      · have hck' : w.cell? ⟨b, k, none⟩ = some (.int .u8 32) := by rw [← h32]; exact hck
        have HD : Hid (padB (Z k) = true) := by rw [h32]; exact (show padB 32 = true from by decide)
        clear hck h32
        go_wp2
        go_round
        case rel => exact ⟨k + 1, by omega, by omega, by go_num, pads_next HP.out HD.out⟩
        case measure => simp [intOf]; omega
      · by_cases h9 : Z k = 9
        · have hck' : w.cell? ⟨b, k, none⟩ = some (.int .u8 9) := by rw [← h9]; exact hck
          have HD : Hid (padB (Z k) = true) := by rw [h9]; exact (show padB 9 = true from by decide)
          clear hck h32 h9
          go_wp2
          go_round
          case rel => exact ⟨k + 1, by omega, by omega, by go_num, pads_next HP.out HD.out⟩
          case measure => simp [intOf]; omega
        · have e32 : (Z k == 32) = false := by simpa using h32
          have e9 : (Z k == 9) = false := by simpa using h9
          have hik : i = k := HI.out.unique ⟨hk0, hk, HP.out, fun _ => by simp [padB, h32, h9]⟩
          subst hik
          have hne : ((i : Int) == (n : Int)) = false := by simp only [beq_eq_false_iff_ne, ne_eq]; omega
          by_cases h13 : Z i = 13
          · have hck' : w.cell? ⟨b, i, none⟩ = some (.int .u8 13) := by rw [← h13]; exact hck
            have H13 : Hid (Z i = 13) := h13
            by_cases hl : i + 1 = n
            · have HL : Hid (i + 1 = n) := hl
              have hl' : ((i : Int) + 1 == (n : Int)) = true := by simp only [beq_iff_eq]; omega
              clear hck h32 h9 e32 e9 h13 hl
              go_wp2
              go_ret2
              have h1 := H13.out
              have h2 := HL.out
              exact ⟨tup2 (by unfold ansN; rw [if_neg (by omega), if_neg (by simp [h1]), if_pos h2]) (by unfold ansF; rw [if_neg (by omega), if_neg (by simp [h1]), if_pos h2]), rfl⟩
            · have hck1 := HC.out (i + 1) (by omega)
              have hl' : ((i : Int) + 1 == (n : Int)) = false := by simp only [beq_eq_false_iff_ne, ne_eq]; omega
              have hlt1 : i + 1 < n := by omega
              by_cases h10 : Z (i + 1) = 10
              · have hck1' : w.cell? ⟨b, i + 1, none⟩ = some (.int .u8 10) := by rw [← h10]; exact hck1
                have H10 : Hid (Z (i + 1) = 10) := h10
                clear hck hck1 h32 h9 e32 e9 h13 h10 hl
                go_wp2
                go_ret2
                have h1 := H13.out
                have h2 := H10.out
                exact ⟨tup2 (by unfold ansN; rw [if_neg (by omega), if_neg (by simp [h1]), if_neg (by omega), if_neg (by simp [h2])]; rfl) (by unfold ansF; rw [if_neg (by omega), if_neg (by simp [h1]), if_neg (by omega), if_neg (by simp [h2])]), rfl⟩
              · have e10 : (Z (i + 1) == 10) = false := by simpa using h10
                have H10 : Hid (¬ Z (i + 1) = 10) := h10
                clear hck h32 h9 e32 e9 h13 h10 hl
                go_wp2
                go_ret2
                have h1 := H13.out
                have h2 := H10.out
                exact ⟨tup2 (by unfold ansN; rw [if_neg (by omega), if_neg (by simp [h1]), if_neg (by omega), if_pos h2]) (by unfold ansF; rw [if_neg (by omega), if_neg (by simp [h1]), if_neg (by omega), if_pos h2]), rfl⟩
          · have e13 : (Z i == 13) = false := by simpa using h13
            have H13 : Hid (¬ Z i = 13) := h13
            clear h32 h9 h13
            go_wp2
            go_ret2
            have h1 := H13.out
            exact ⟨tup2 (by unfold ansN; rw [if_neg (by omega), if_pos h1]) (by unfold ansF; rw [if_neg (by omega), if_pos h1]), rfl⟩
    · obtain rfl : k = n := by omega
      have hik : i = k := HI.out.unique ⟨hk0, hk, HP.out, fun h => by omega⟩
      subst hik
      cases t
      all_goals
        go_wp2
        go_ret2
        exact ⟨tup2 (by unfold ansN; rw [if_pos rfl]; rfl) (by unfold ansF; rw [if_pos rfl]; rfl), rfl⟩

theorem zdelim {a : Option Addr} {n cap : Nat} {t : Bool} {w : World} {x : Int} {f : Bool}
    (h : Calls Trym.prog 7 #[.slice a n cap, .bool t] w fun e w' => e = .returned (.tuple #[.int .i64 x, .bool f]) ∧ w' = w) :
    Calls Trym.prog 5 #[.slice a n cap, .bool t] w fun e w' => e = .returned (.tuple #[.int .i64 x, .bool f]) ∧ w' = w := by
  have H : Hid (Calls Trym.prog 7 #[.slice a n cap, .bool t] w fun e w' => e = .returned (.tuple #[.int .i64 x, .bool f]) ∧ w' = w) := h
  clear h
  go_enter Trym.func5, Trym.ntmps5
  go_wp2_with fail
  refine H.out.mono ?_
  rintro e w' ⟨rfl, rfl⟩
  go_wp2
  go_ret2
  exact ⟨rfl, rfl⟩

end Go.Proofs.Qxb6604212aMods
