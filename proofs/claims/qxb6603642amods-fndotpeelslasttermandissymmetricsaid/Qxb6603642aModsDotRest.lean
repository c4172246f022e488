/-
  THE WALK of FnDotPeelsLastTermAndIsSymmetric itself: empty slices; the early answers.
-/
import Derived.Test.Qxb6603642aModsDotTop
namespace Go.Proofs.Qxb6603642aMods
open Go.RowKit Plain
set_option linter.unusedVariables false

theorem clone_none (xa : Option Addr) (ca : Nat) (h : xa = none → ca = 0) (w : World) :
    Calls Trym.prog 9 #[.slice xa 0 ca] w fun e w' => ∃ x c, e = .returned (.slice x 0 c) ∧ Below w.heap.size w w' := by
  rcases xa with _ | ad
  · obtain rfl : ca = 0 := h rfl
    exact (clone_nil w).mono (by rintro e w' ⟨rfl, rfl⟩; exact ⟨none, 0, rfl, Below.refl _ _⟩)
  · exact (clone_empty ad ca w).mono (by rintro e w' ⟨rfl, hb, _⟩; exact ⟨_, 0, rfl, hb⟩)

set_option maxHeartbeats 400000 in
theorem law_zero (xa xb : Option Addr) (ca cb : Nat) (w : World) (ha : xa = none → ca = 0) (hb : xb = none → cb = 0) :
    Calls Trym.prog 4 #[.slice xa 0 ca, .slice xb 0 cb] w fun e w' => e = .returned (.bool true) ∧ Below w.heap.size w w' := by
  have hby : bytesB 0 0 = true := by decide
  have HA := clone_none xa ca ha
  have HB := clone_none xb cb hb
  clear ha hb
  have HA' : Hid (∀ w, Calls Trym.prog 9 #[.slice xa 0 ca] w fun e w' => ∃ x c, e = .returned (.slice x 0 c) ∧ Below w.heap.size w w') := HA
  have HB' : Hid (∀ w, Calls Trym.prog 9 #[.slice xb 0 cb] w fun e w' => ∃ x c, e = .returned (.slice x 0 c) ∧ Below w.heap.size w w') := HB
  clear HA HB
  go_enter Trym.func4, Trym.ntmps4
  go_wp2_with fail
  refine (bytes_any xa xb 0 ca 0 cb w (by unfold maxLen; omega) (by unfold maxLen; omega)).mono ?_
  rintro e w' ⟨rfl, rfl⟩
  go_wp2_with fail
  refine (HA'.out w').mono ?_
  rintro e w1 ⟨x1, c1, rfl, hb1⟩
  go_wp2_with fail
  refine (HB'.out w1).mono ?_
  rintro e w2 ⟨x2, c2, rfl, hb2⟩
  have hb12 : Below w'.heap.size w' w2 := hb1.trans (hb2.mono hb1.size)
  clear hb1 hb2
  go_wp2_with fail
  refine (zdot_zero x1 x2 c1 c2 w2).mono ?_
  rintro e w3 ⟨rfl, rfl⟩
  go_wp2_with fail
  refine (same_any 0 0 w3 rfl).mono ?_
  rintro e w4 ⟨rfl, rfl⟩
  go_wp2_with fail
  refine (zdot_zero x2 x1 c2 c1 w4).mono ?_
  rintro e w5 ⟨rfl, rfl⟩
  go_wp2_with fail
  refine (same_any 0 0 w5 rfl).mono ?_
  rintro e w6 ⟨rfl, rfl⟩
  go_wp2
  go_ret
  exact ⟨rfl, hb12⟩

theorem law_early (xa xb : Option Addr) (n ca m cb : Nat) (w : World) (hn : n ≤ maxLen) (hm : m ≤ maxLen) (h : bytesB n m = false ∨ 65536 < n ∨ 65536 < m ∨ n ≠ m) :
    Calls Trym.prog 4 #[.slice xa n ca, .slice xb m cb] w fun e w' => e = .returned (.bool true) ∧ Below w.heap.size w w' := by
  have HB := bytes_any xa xb n ca m cb w hn hm
  have HB' : Hid (Calls Trym.prog 8 #[.slice xa n ca, .slice xb m cb] w fun e w' => e = .returned (.bool (bytesB n m)) ∧ w' = w) := HB
  clear HB
  unfold maxLen at hn hm
  by_cases hby : bytesB n m = false
  · clear h
    go_enter Trym.func4, Trym.ntmps4
    go_wp2_with fail
    refine HB'.out.mono ?_
    rintro e w' ⟨rfl, rfl⟩
    go_wp2
    go_ret
    exact ⟨rfl, Below.refl _ _⟩
  · have hbt : bytesB n m = true := by simpa using hby
    by_cases h1 : (65536 : Int) < n
    · clear h hby
      go_enter Trym.func4, Trym.ntmps4
      go_wp2_with fail
      refine HB'.out.mono ?_
      rintro e w' ⟨rfl, rfl⟩
      go_wp2
      go_ret
      exact ⟨rfl, Below.refl _ _⟩
    · by_cases h2 : (65536 : Int) < m
      · clear h hby
        go_enter Trym.func4, Trym.ntmps4
        go_wp2_with fail
        refine HB'.out.mono ?_
        rintro e w' ⟨rfl, rfl⟩
        go_wp2
        go_ret
        exact ⟨rfl, Below.refl _ _⟩
      · have h3 : ((n : Int) == (m : Int)) = false := by
          rcases h with h | h | h | h
          · exact absurd h hby
          · omega
          · omega
          · simp only [beq_eq_false_iff_ne, ne_eq]; omega
        clear h hby
        go_enter Trym.func4, Trym.ntmps4
        go_wp2_with fail
        refine HB'.out.mono ?_
        rintro e w' ⟨rfl, rfl⟩
        go_wp2
        go_ret
        exact ⟨rfl, Below.refl _ _⟩

/-- what the walk is told of a slice of floats that came in -/
def IsRow (w : World) (a : Option Addr) (len cap : Nat) (zs : List Nat) : Prop :=
  (a = none ∧ len = 0 ∧ cap = 0 ∧ zs = []) ∨
  ∃ x, a = some x ∧ len ≤ cap ∧ cap ≤ maxLen ∧ zs.length = cap ∧ ∀ i, i < zs.length → w.cell? (x.add i) = some (.float .f64 (zs.getD i 0))

theorem cell_lt {w : World} {a : Addr} {v : Value} (h : w.cell? a = some v) : a.block < w.heap.size ∧ a.spot = none := by
  rcases Nat.lt_or_ge a.block w.heap.size with h' | h'
  · refine ⟨h', ?_⟩
    unfold World.cell? at h
    split at h
    · split at h
      · cases h
      · rename_i hs; simpa using hs
    · cases h
  · simp [World.cell?, Array.getElem?_eq_none h'] at h

/-- the head of a row that is not empty -/
theorem row_pos {w : World} {a : Option Addr} {len cap : Nat} {zs : List Nat} (h : IsRow w a len cap zs) (h0 : 0 < len) :
    ∃ b off, a = some ⟨b, off, none⟩ ∧ b < w.heap.size ∧ ∀ i, i < len → w.cell? ⟨b, off + i, none⟩ = some (.float .f64 (zs.getD i 0)) := by
  rcases h with ⟨_, rfl, _⟩ | ⟨x, rfl, hl, _, hz, hc⟩
  · omega
  · obtain ⟨b, off, sp⟩ := x
    have hx := cell_lt (hc 0 (by omega))
    have e : sp = none := by simpa [Addr.add] using hx.2
    subst e
    refine ⟨b, off, rfl, by simpa [Addr.add] using hx.1, fun i hi => ?_⟩
    have := hc i (by omega)
    by_cases e : i = 0
    · subst e; simpa [Addr.add] using this
    · simpa [Addr.add, e] using this

theorem row_bound {w : World} {a : Option Addr} {len cap : Nat} {zs : List Nat} (h : IsRow w a len cap zs) : len ≤ maxLen ∧ (a = none → cap = 0) := by
  rcases h with ⟨rfl, rfl, rfl, _⟩ | ⟨x, rfl, hl, hm, _⟩
  · exact ⟨Nat.zero_le _, fun _ => rfl⟩
  · exact ⟨Nat.le_trans hl hm, fun h => by cases h⟩

theorem walk (a0 : Option Addr) (len0 cap0 : Nat) (z0 : List Nat) (a1 : Option Addr) (len1 cap1 : Nat) (z1 : List Nat) (w : World) (w0 : IsRow w a0 len0 cap0 z0) (w1 : IsRow w a1 len1 cap1 z1) :
    Calls Trym.prog 4 #[.slice a0 len0 cap0, .slice a1 len1 cap1] w fun e w' => e = .returned (.bool true) ∧ Below w.heap.size w w' := by
  have b0 := row_bound w0
  have b1 := row_bound w1
  by_cases he : bytesB len0 len1 = false ∨ 65536 < len0 ∨ 65536 < len1 ∨ len0 ≠ len1
  · exact law_early a0 a1 len0 cap0 len1 cap1 w b0.1 b1.1 he
  · have hn : len0 ≤ 65536 := by omega
    obtain rfl : len0 = len1 := by omega
    by_cases h0 : 0 < len0
    · obtain ⟨ba, oa, rfl, hba, hA⟩ := row_pos w0 h0
      obtain ⟨bb, ob, rfl, hbb, hB⟩ := row_pos w1 h0
      exact law_pos ba oa bb ob len0 cap0 cap1 z0 z1 w h0 hn hba hbb hA hB
    · obtain rfl : len0 = 0 := by omega
      exact law_zero a0 a1 cap0 cap1 w b0.2 b1.2

end Go.Proofs.Qxb6603642aMods
