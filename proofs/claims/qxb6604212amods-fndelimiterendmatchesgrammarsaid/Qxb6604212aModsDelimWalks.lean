/-
  THE WALKS: zzIsPad, zzAllPad, zzPadCRLFLen, zzCouldGrowToCRLF, zzBytes..
-/
import Derived.Test.Qxb6604212aModsRows
import Derived.Test.Qxb6604212aModsDelimLaw
import Derived.WalkKit
import Derived.WalkSpells
import Derived.WalkLawsBesides
namespace Go.Proofs.Qxb6604212aMods
open Go.RowKit Plain
set_option linter.unusedVariables false

theorem ret_bool {a b : Bool} (h : a = b) : Ending.returned (.bool a) = .returned (.bool b) := by rw [h]
theorem ret_int {k : IntKind} {a b : Int} (h : a = b) : Ending.returned (.int k a) = .returned (.int k b) := by rw [h]
theorem num_eq {k : IntKind} {a b : Int} (h : a = b) : Value.int k a = .int k b := by rw [h]

theorem pads_succ {Z : Nat → Int} {o k : Nat} (h : ∀ j, o ≤ j → j < o + k → padB (Z j) = true) (hd : padB (Z (o + k)) = true) : ∀ j, o ≤ j → j < o + (k + 1) → padB (Z j) = true := fun j h1 h2 => by
  by_cases e : j = o + k
  · rw [e]; exact hd
  · exact h j h1 (by omega)

theorem ispad_any (c : Int) (w : World) : Calls Trym.prog 11 #[.int .u8 c] w fun e w' => e = .returned (.bool (padB c)) ∧ w' = w := by
  by_cases h1 : c = 32
  · subst h1
    go_enter Trym.func11, Trym.ntmps11
    go_wp2
    go_ret
    exact ⟨rfl, rfl⟩
  · have e1 : (c == 32) = false := by simpa using h1
    by_cases h2 : c = 9
    · subst h2
      go_enter Trym.func11, Trym.ntmps11
      go_wp2
      go_ret
      exact ⟨rfl, rfl⟩
    · have e2 : (c == 9) = false := by simpa using h2
      go_enter Trym.func11, Trym.ntmps11
      go_wp2
      go_ret
      exact ⟨ret_bool (by simp [padB, h1, h2]), rfl⟩

theorem allpad_zero (a : Option Addr) (cap : Nat) (w : World) : Calls Trym.prog 9 #[.slice a 0 cap] w fun e w' => e = .returned (.bool true) ∧ w' = w := by
  go_enter Trym.func9, Trym.ntmps9
  go_wp2
  refine wp_loop_rounds 1 ?_
  rw [rounds_succ]
  go_wp2
  go_ret
  exact ⟨rfl, rfl⟩

set_option maxHeartbeats 400000 in
theorem allpad_any (b o len cap : Nat) (Z : Nat → Int) (i : Nat) (w : World) (hlen : len ≤ 1048576)
    (hc : ∀ k, k < len → w.cell? ⟨b, o + k, none⟩ = some (.int .u8 (Z (o + k)))) (hI : IsEnd Z o (o + len) i) :
    Calls Trym.prog 9 #[.slice (some ⟨b, o, none⟩) len cap] w fun e w' => e = .returned (.bool (alB (o + len) i)) ∧ w' = w := by
  have HI : Hid (IsEnd Z o (o + len) i) := hI
  clear hI
  go_enter Trym.func9, Trym.ntmps9
  go_wp2
  go_loop [3] (fun x => ∃ k : Nat, k ≤ len ∧ x = .int .i64 k ∧ ∀ j, o ≤ j → j < o + k → padB (Z j) = true) (fun x => len - (intOf x).toNat)
  case atStart => exact ⟨0, Nat.zero_le _, rfl, fun j h1 h2 => by omega⟩
  case round =>
    obtain ⟨k, hk, rfl, hp⟩ := hrel
    have HP : Hid (∀ j, o ≤ j → j < o + k → padB (Z j) = true) := hp
    clear hp
    by_cases hlt : k < len
    · have hck := hc k hlt
      clear hc
      by_cases hd : padB (Z (o + k)) = true
      · go_wp2_with (go_at_call 11; refine (ispad_any _ _).mono ?_; rintro e w' ⟨rfl, rfl⟩)
        go_round
        case rel => exact ⟨k + 1, by omega, by go_num, pads_succ HP.out hd⟩
        case measure => simp [intOf]; omega
      · have hd' : padB (Z (o + k)) = false := by simpa using hd
        go_wp2_with (go_at_call 11; refine (ispad_any _ _).mono ?_; rintro e w' ⟨rfl, rfl⟩)
        go_ret
        have e : i = o + k := HI.out.unique ⟨by omega, by omega, HP.out, fun _ => hd'⟩
        exact ⟨ret_bool (alB_no (by omega)).symm, rfl⟩
    · obtain rfl : k = len := by omega
      go_wp2
      go_ret
      have e : i = o + k := HI.out.unique ⟨by omega, by omega, HP.out, fun _ => by omega⟩
      exact ⟨ret_bool (alB_yes e).symm, rfl⟩

theorem padlen_zero (a : Option Addr) (cap : Nat) (w : World) : Calls Trym.prog 8 #[.slice a 0 cap] w fun e w' => e = .returned (.int .i64 0) ∧ w' = w := by
  go_enter Trym.func8, Trym.ntmps8
  go_wp2
  refine wp_loop_rounds 1 ?_
  rw [rounds_succ]
  go_wp2
  go_ret
  exact ⟨rfl, rfl⟩

set_option maxHeartbeats 800000 in
theorem padlen_any (b o len cap : Nat) (Z : Nat → Int) (i : Nat) (w : World) (hlen : len ≤ 1048576)
    (hc : ∀ k, k < len → w.cell? ⟨b, o + k, none⟩ = some (.int .u8 (Z (o + k)))) (hI : IsEnd Z o (o + len) i) :
    Calls Trym.prog 8 #[.slice (some ⟨b, o, none⟩) len cap] w fun e w' => e = .returned (.int .i64 (plV Z o (o + len) i)) ∧ w' = w := by
  have HI : Hid (IsEnd Z o (o + len) i) := hI
  have hge := hI.ge
  have hle := hI.le
  clear hI
  go_enter Trym.func8, Trym.ntmps8
  go_wp2
  go_loop [3, 4] (fun p x => ∃ k : Nat, k ≤ len ∧ x = .int .i64 (k + 2) ∧ ((p = .bool true ∧ o + k ≤ i) ∨ (p = .bool false ∧ o + k = i + 1 ∧ ¬ (Z i = 13 ∧ Z (i + 1) = 10)))) (fun _ x => len + 2 - (intOf x).toNat)
  case atStart => exact ⟨0, Nat.zero_le _, rfl, .inl ⟨rfl, by omega⟩⟩
  case round =>
    obtain ⟨k, hk, rfl, h | h⟩ := hrel
    · obtain ⟨rfl, hki⟩ := h
      by_cases hlt : k + 2 ≤ len
      · have hck := hc k (by omega)
        have hck1 := hc (k + 1) (by omega)
        have e2 : (k : Int) + 2 - 2 = k := by omega
        have e1 : (k : Int) + 2 - 1 = k + 1 := by omega
        clear hc
        by_cases h13 : Z (o + k) = 13
        · have hik : i = o + k := by
            rcases Nat.lt_or_ge (o + k) i with h | h
            · have := HI.out.pads (o + k) (by omega) h; rw [h13, pad_13] at this; cases this
            · omega
          have HK : Hid (i = o + k) := hik
          have H13 : Hid (Z (o + k) = 13) := h13
          have hck' : w.cell? ⟨b, o + k, none⟩ = some (.int .u8 13) := by rw [← h13]; exact hck
          have hp13 := pad_13
          by_cases h10 : Z (o + (k + 1)) = 10
          · have hck1' : w.cell? ⟨b, o + (k + 1), none⟩ = some (.int .u8 10) := by rw [← h10]; exact hck1
            have H10 : Hid (Z (o + (k + 1)) = 10) := h10
            clear hck hck1 hik h13 h10 hki
            go_wp2_with (go_at_call 11; refine (ispad_any _ _).mono ?_; rintro e w' ⟨rfl, rfl⟩)
            go_ret
            refine ⟨ret_int ?_, rfl⟩
            have hk1 := HK.out
            subst hk1
            rw [plV_yes ⟨by omega, H13.out, H10.out⟩]
            omega
          · have e10 : (Z (o + (k + 1)) == 10) = false := by simpa using h10
            clear hck hik h13 h10 hki
            go_wp2_with (go_at_call 11; refine (ispad_any _ _).mono ?_; rintro e w' ⟨rfl, rfl⟩)
            go_round
            case rel =>
              refine ⟨k + 1, by omega, by go_num, .inr ⟨rfl, by have := HK.out; omega, ?_⟩⟩
              have hk1 := HK.out
              subst hk1
              rintro ⟨_, h⟩
              rw [show o + k + 1 = o + (k + 1) from by omega] at h
              rw [h] at e10
              cases e10
            case measure => simp [intOf]; omega
        · have e13 : (Z (o + k) == 13) = false := by simpa using h13
          have H13 : Hid (¬ Z (o + k) = 13) := h13
          clear h13 hck1
          by_cases hd : padB (Z (o + k)) = true
          · go_wp2_with (go_at_call 11; refine (ispad_any _ _).mono ?_; rintro e w' ⟨rfl, rfl⟩)
            go_round
            case rel =>
              refine ⟨k + 1, by omega, by go_num, .inl ⟨rfl, ?_⟩⟩
              rcases Nat.lt_or_ge (o + k) i with h | h
              · omega
              · have e : i = o + k := by omega
                have := HI.out.stop (by omega)
                rw [e, hd] at this
                cases this
            case measure => simp [intOf]; omega
          · have hd' : padB (Z (o + k)) = false := by simpa using hd
            go_wp2_with (go_at_call 11; refine (ispad_any _ _).mono ?_; rintro e w' ⟨rfl, rfl⟩)
            go_round
            case rel =>
              have e : i = o + k := by
                rcases Nat.lt_or_ge (o + k) i with h | h
                · have := HI.out.pads (o + k) (by omega) h; rw [hd'] at this; cases this
                · omega
              exact ⟨k + 1, by omega, by go_num, .inr ⟨rfl, by omega, fun h => H13.out (by rw [← e]; exact h.1)⟩⟩
            case measure => simp [intOf]; omega
      · clear hc
        go_wp2
        go_ret
        exact ⟨ret_int (plV_no (by omega)).symm, rfl⟩
    · obtain ⟨rfl, hki, hno⟩ := h
      have HN : Hid (¬ (Z i = 13 ∧ Z (i + 1) = 10)) := hno
      clear hno hc
      by_cases hlt : k + 2 ≤ len
      · clear hki
        go_wp2
        go_ret
        exact ⟨ret_int (plV_no (fun h => HN.out h.2)).symm, rfl⟩
      · clear hki
        go_wp2
        go_ret
        exact ⟨ret_int (plV_no (fun h => HN.out h.2)).symm, rfl⟩

end Go.Proofs.Qxb6604212aMods
