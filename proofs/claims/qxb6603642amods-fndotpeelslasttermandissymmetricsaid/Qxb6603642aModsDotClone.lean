/-
  THE WALKS of FnDotPeelsLastTermAndIsSymmetric: the bound on the lengths; the copies.
-/
import Derived.Test.Qxb6603642aModsDotFloat
namespace Go.Proofs.Qxb6603642aMods
open Go.RowKit Plain
set_option linter.unusedVariables false
attribute [local go_sem] run_store_float

def bytesB (n m : Nat) : Bool := decide (n + m ≤ 1048576)
theorem ret_bool {a b : Bool} (h : a = b) : Ending.returned (.bool a) = .returned (.bool b) := by rw [h]

theorem bytes_any (xa xb : Option Addr) (n ca m cb : Nat) (w : World) (hn : n ≤ maxLen) (hm : m ≤ maxLen) :
    Calls Trym.prog 8 #[.slice xa n ca, .slice xb m cb] w fun e w' => e = .returned (.bool (bytesB n m)) ∧ w' = w := by
  unfold maxLen at hn hm
  by_cases h1 : (1048576 : Int) < n
  · go_enter Trym.func8, Trym.ntmps8
    go_wp2
    go_ret
    exact ⟨ret_bool (by unfold bytesB; simp; omega), rfl⟩
  · by_cases h2 : (1048576 : Int) < m
    · go_enter Trym.func8, Trym.ntmps8
      go_wp2
      go_ret
      exact ⟨ret_bool (by unfold bytesB; simp; omega), rfl⟩
    · by_cases h3 : (1048576 : Int) < n + m
      · go_enter Trym.func8, Trym.ntmps8
        go_wp2
        go_ret
        exact ⟨ret_bool (by unfold bytesB; simp; omega), rfl⟩
      · go_enter Trym.func8, Trym.ntmps8
        go_wp2
        go_ret
        exact ⟨ret_bool (by unfold bytesB; simp; omega), rfl⟩

theorem clone_nil (w : World) :
    Calls Trym.prog 9 #[.slice none 0 0] w fun e w' => e = .returned (.slice none 0 0) ∧ w' = w := by
  have hnil := fun (w : World) (a : Option Addr) (n c n' c' : Nat) => Lib.run_eql_slice_nil (P := Trym.prog) w 30 33 a n c n' c' Trym.underlying30
  go_enter Trym.func9, Trym.ntmps9
  go_wp2
  go_ret
  exact ⟨rfl, rfl⟩

theorem info33 : (Trym.prog.info? 33).map (fun i => (i.zero, i.size, i.bytes)) = some (some (.float .f64 0), 1, 8) := by kernel_rfl

/-- what the round knows of the copy: k cells are written -/
structure Filled (w wr : World) (n k : Nat) (Z : List Nat) (xs : List Value) : Prop where
  own : wr.ownsRow w.heap.size 33 1 (.slice (some ⟨w.heap.size, 0, none⟩) n n) n xs
  done : ∀ j, j < k → xs[j]? = some (.float .f64 (Z.getD j 0))
  below : Below w.heap.size w wr
  more : w.heap.size < wr.heap.size

theorem Filled.step {w wr : World} {n k : Nat} {Z : List Nat} {xs : List Value} (h : Filled w wr n k Z xs) (hk : k < n) :
    Filled w (wr.setCell ⟨w.heap.size, k, none⟩ (.float .f64 (Z.getD k 0))) n (k + 1) Z (xs.set k (.float .f64 (Z.getD k 0))) := by
  have hl : xs.length = n * 1 := h.own.1
  refine ⟨(h.own.stored k _).1, fun j hj => ?_, h.below.setCell (Nat.le_refl _) _, by simpa using h.more⟩
  by_cases e : j = k
  · subst e; rw [List.getElem?_set_self (by omega)]
  · rw [List.getElem?_set_ne (by omega)]; exact h.done j (by omega)

set_option maxHeartbeats 400000 in
theorem clone_some (b off n cap : Nat) (Z : List Nat) (w : World) (hn : n ≤ 65536) (hb : b < w.heap.size)
    (hc : ∀ i, i < n → w.cell? ⟨b, off + i, none⟩ = some (.float .f64 (Z.getD i 0))) :
    Calls Trym.prog 9 #[.slice (some ⟨b, off, none⟩) n cap] w fun e w' => e = .returned (.slice (some ⟨w.heap.size, 0, none⟩) n n) ∧
      (∀ i, i < n → w'.cell? ⟨w.heap.size, i, none⟩ = some (.float .f64 (Z.getD i 0))) ∧ Below w.heap.size w w' ∧ w.heap.size < w'.heap.size := by
  have hnil := fun (w : World) (a : Option Addr) (n c n' c' : Nat) => Lib.run_eql_slice_nil (P := Trym.prog) w 30 33 a n c n' c' Trym.underlying30
  obtain ⟨i0, hi, hz0, hz1, hz2⟩ := info_parts info33
  go_enter Trym.func9, Trym.ntmps9
  go_wp2_with (at_make; refine wpList_make_full _ rfl _ _ 30 rfl w.heap.size 33 i0 (.float .f64 0) 1 Trym.underlying30 hi hz0 hz1 .i64 .i64 n n n rfl rfl rfl rfl (by rw [hz2]; omega) (by unfold maxLen; omega) (Nat.le_refl _) ?_; intro w1 hown hgrow)
  go_loopw [4] (fun i wr => ∃ k : Nat, ∃ xs, k ≤ n ∧ i = .int .i64 k ∧ Filled w wr n k Z xs) (fun i _ => n - (intOf i).toNat)
  case atStart =>
    refine ⟨0, _, Nat.zero_le _, rfl, hown, fun j hj => absurd hj (Nat.not_lt_zero _), (Below.refl _ _).grown hgrow (Nat.le_refl _) (fun k hk => by cases hk), ?_⟩
    rcases hown.2 with ⟨h, _⟩ | ⟨g, cp, cur, h, _, hg, _⟩
    · cases h
    · simp at h
      rw [← h.1] at hg
      exact (Array.getElem?_eq_some_iff.1 hg).1
  case round =>
    clear hown hgrow
    obtain ⟨k, xs, hk, rfl, hf⟩ := hrel
    by_cases hlt : k < n
    · have hcx : wr.cell? ⟨b, off + k, none⟩ = some (.float .f64 (Z.getD k 0)) := (hf.below.cell (by exact hb)).trans (hc k hlt)
      have hfz : wr.frozen? ⟨w.heap.size, k, none⟩ = false := hf.own.frozenAt k
      obtain ⟨v0, hv0⟩ : ∃ v0, wr.cell? ⟨w.heap.size, k, none⟩ = some v0 := by
        rw [hf.own.cellAt k (by omega)]
        have hl : xs.length = n * 1 := hf.own.1
        exact ⟨xs[k]'(by omega), List.getElem?_eq_getElem (by omega)⟩
      have HF := hf.step hlt
      clear hc hf
      go_wp2
      go_roundw
      case rel => exact ⟨k + 1, _, by omega, by go_num, by simpa using HF⟩
      case measure => simp [intOf]; omega
    · have : k = n := by omega
      subst this
      go_wp2
      go_ret
      exact ⟨rfl, fun i hi => by rw [hf.own.cellAt i (by omega)]; exact hf.done i hi, hf.below, hf.more⟩

/-- the copy of an empty slice that is not nil -/
theorem clone_empty (ad : Addr) (cap : Nat) (w : World) :
    Calls Trym.prog 9 #[.slice (some ad) 0 cap] w fun e w' => e = .returned (.slice (some ⟨w.heap.size, 0, none⟩) 0 0) ∧ Below w.heap.size w w' ∧ w.heap.size < w'.heap.size := by
  have hnil := fun (w : World) (a : Option Addr) (n c n' c' : Nat) => Lib.run_eql_slice_nil (P := Trym.prog) w 30 33 a n c n' c' Trym.underlying30
  obtain ⟨i0, hi, hz0, hz1, hz2⟩ := info_parts info33
  go_enter Trym.func9, Trym.ntmps9
  go_wp2_with (at_make; refine wpList_make_full _ rfl _ _ 30 rfl w.heap.size 33 i0 (.float .f64 0) 1 Trym.underlying30 hi hz0 hz1 .i64 .i64 0 0 0 rfl rfl rfl rfl (by rw [hz2]; omega) (by unfold maxLen; omega) (Nat.le_refl _) ?_; intro w1 hown hgrow)
  refine wp_loop_rounds 1 ?_
  rw [rounds_succ]
  go_wp2
  go_ret
  refine ⟨rfl, (Below.refl _ _).grown hgrow (Nat.le_refl _) (fun k hk => by cases hk), ?_⟩
  rcases hown.2 with ⟨h, _⟩ | ⟨g, cp, cur, h, _, hg, _⟩
  · cases h
  · simp at h
    rw [← h.1] at hg
    exact (Array.getElem?_eq_some_iff.1 hg).1

end Go.Proofs.Qxb6603642aMods
