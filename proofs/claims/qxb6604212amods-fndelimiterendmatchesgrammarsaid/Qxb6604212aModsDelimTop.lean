/-
  THE WALK of FnDelimiterEndMatchesGrammar itself.
-/
import Derived.Test.Qxb6604212aModsDelimModel2
import Derived.Laws.CopyOwn
namespace Go.Proofs.Qxb6604212aMods
open Go.RowKit Plain
set_option linter.unusedVariables false

/-- delimiterEnd and the model hand back the same at this slice, in this world -/
def Agree (a : Option Addr) (n cap : Nat) (t : Bool) (w : World) (x : Int) (f : Bool) : Prop :=
  (Calls Trym.prog 5 #[.slice a n cap, .bool t] w fun e w' => e = .returned (.tuple #[.int .i64 x, .bool f]) ∧ w' = w) ∧
  (Calls Trym.prog 6 #[.slice a n cap, .bool t] w fun e w' => e = .returned (.tuple #[.int .i64 x, .bool f]) ∧ w' = w)

theorem agree_zero (a : Option Addr) (cap : Nat) (t : Bool) (w : World) : ∃ x f, Agree a 0 cap t w x f :=
  ⟨-1, false, zdelim (delim_zero a cap t w), model_zero a cap t w⟩

theorem agree_pos (b n : Nat) (Z : Nat → Int) (t : Bool) (w : World) (hn : 0 < n) (hs : n ≤ 1048576) (hc : ∀ k, k < n → w.cell? ⟨b, k, none⟩ = some (.int .u8 (Z k))) :
    ∃ x f, Agree (some ⟨b, 0, none⟩) n n t w x f := by
  by_cases hz : Z 0 = 45
  · have h0 : w.cell? ⟨b, 0, none⟩ = some (.int .u8 45) := by rw [← hz]; exact hc 0 hn
    by_cases h1 : n = 1
    · subst h1
      exact ⟨-1, false, zdelim (delim_one b 1 t w h0), model_one b 1 t w h0⟩
    · have hc1 := hc 1 (by omega)
      by_cases hz1 : Z 1 = 45
      · have h1' : w.cell? ⟨b, 1, none⟩ = some (.int .u8 45) := by rw [← hz1]; exact hc1
        obtain ⟨i, hI⟩ := exists_end Z 2 (n - 2)
        rw [show 2 + (n - 2) = n from by omega] at hI
        have hd := delim_two b n n Z i t w (by omega) hz hz1 hs hc hI
        by_cases h2 : n = 2
        · subst h2
          have hi : i = 2 := by have := hI.ge; have := hI.le; omega
          subst hi
          refine ⟨_, _, zdelim hd, ?_⟩
          have hm := model_two_end b t w h0 h1'
          cases t
          · exact hm
          · exact hm
        · obtain ⟨m, rfl⟩ : ∃ m, n = m + 3 := ⟨n - 3, by omega⟩
          have e : m + 3 = 2 + (m + 1) := by omega
          refine ⟨_, _, zdelim hd, ?_⟩
          rw [e] at hI
          have hm := model_two_more b m Z i t w hs h0 h1' (fun k hk => hc (2 + k) (by omega)) hI
          rw [← e] at hm
          exact hm
      · have e1 : (Z 1 == 45) = false := by simpa using hz1
        exact ⟨0, false, zdelim (delim_dash b n n (Z 1) t w (by omega) hs h0 hc1 e1), model_dash b n n (Z 1) t w (by omega) hs h0 hc1 e1⟩
  · have e0 : (Z 0 == 45) = false := by simpa using hz
    obtain ⟨i, hI⟩ := exists_end Z 0 n
    rw [Nat.zero_add] at hI
    obtain ⟨m, rfl⟩ : ∃ m, n = m + 1 := ⟨n - 1, by omega⟩
    exact ⟨_, _, zdelim (delim_plain b (m + 1) (m + 1) Z i t w (by omega) e0 hs hc hI), model_plain b m Z i t w e0 hs hc hI⟩

theorem info5 : (Trym.prog.info? 5).map (fun i => (i.zero, i.size, i.bytes)) = some (some (.int .u8 0), 1, 1) := by kernel_rfl
theorem size5 : (Trym.prog.info? 5).map (·.size) = some 1 := by kernel_rfl

theorem law_nil (t : Bool) (w : World) :
    Calls Trym.prog 3 #[.slice none 0 0, .bool t] w fun e w' => e = .returned (.bool true) ∧ Below w.heap.size w w' := by
  have hnil := fun (w : World) (a : Option Addr) (n c n' c' : Nat) => run_neq_slice_nil_any (P := Trym.prog) w 22 5 a n c n' c' Trym.underlying22
  have HB : Hid (Calls Trym.prog 4 #[.slice none 0 0, .bool t] w fun e w' => e = .returned (.bool (smallB 0)) ∧ w' = w) := bytes_any none 0 0 t w (by unfold maxLen; omega)
  have hb : smallB 0 = true := by decide
  obtain ⟨x, f, hA⟩ := agree_zero none 0 t w
  have H5 : Hid (Calls Trym.prog 5 #[.slice none 0 0, .bool t] w fun e w' => e = .returned (.tuple #[.int .i64 x, .bool f]) ∧ w' = w) := hA.1
  have H6 : Hid (Calls Trym.prog 6 #[.slice none 0 0, .bool t] w fun e w' => e = .returned (.tuple #[.int .i64 x, .bool f]) ∧ w' = w) := hA.2
  clear hA
  go_enter Trym.func3, Trym.ntmps3
  go_wp2_with fail
  refine HB.out.mono ?_
  rintro e w' ⟨rfl, rfl⟩
  go_wp2_with fail
  refine H5.out.mono ?_
  rintro e w' ⟨rfl, rfl⟩
  go_wp2_with fail
  refine H6.out.mono ?_
  rintro e w' ⟨rfl, rfl⟩
  go_wp2
  go_ret
  exact ⟨rfl, Below.refl _ _⟩

theorem made_row {w : World} {base g n : Nat} {xs : List Value} (h : w.ownsRow base 5 1 (.slice (some ⟨g, 0, none⟩) n n) n xs) :
    ∃ cur : List Value, cur.length = n ∧ w.heap[g]? = some (.cells cur.toArray 5 (0, 0)) := by
  rcases h.2 with ⟨h', _⟩ | ⟨g', cap, cur, h', _, hg, _, _, hcs, _⟩
  · cases h'
  · simp at h'
    obtain ⟨rfl, rfl⟩ := h'
    exact ⟨cur.toList, by simpa using hcs, by simpa using hg⟩

/-- the bytes as cells -/
def byCells (Z : Nat → Int) (n : Nat) : List Value := (List.range n).map fun k => .int .u8 (Z k)
theorem byCells_length (Z : Nat → Int) (n : Nat) : (byCells Z n).length = n := by simp [byCells]
theorem byCells_get (Z : Nat → Int) (n k : Nat) (h : k < n) : (byCells Z n)[k]? = some (.int .u8 (Z k)) := by simp [byCells, h]
theorem byCells_one (Z : Nat → Int) (n : Nat) : ∀ v ∈ byCells Z n, v.oneCell' = true := by
  intro v hv
  simp only [byCells, List.mem_map] at hv
  obtain ⟨k, _, rfl⟩ := hv
  rfl
theorem byCells_lies (Z : Nat → Int) (n b off : Nat) (w : World) (hc : ∀ k, k < n → w.cell? ⟨b, off + k, none⟩ = some (.int .u8 (Z k))) :
    ∀ j v, (byCells Z n)[j]? = some v → w.cell? ((⟨b, off, none⟩ : Addr).add j) = some v := by
  intro j v hj
  have hjn : j < n := by have := (List.getElem?_eq_some_iff.1 hj).1; rwa [byCells_length] at this
  rw [byCells_get Z n j hjn] at hj
  have ha : (⟨b, off, none⟩ : Addr).add j = ⟨b, off + j, none⟩ := by unfold Addr.add; split <;> simp_all
  rw [ha, hc j hjn]
  exact hj
theorem splice_cells (cur : List Value) (Z : Nat → Int) (n g : Nat) (w : World) (hl : cur.length = n)
    (hg : w.heap[g]? = some (.cells (splice cur 0 (byCells Z n)).toArray 5 (0, 0))) : ∀ k, k < n → w.cell? ⟨g, k, none⟩ = some (.int .u8 (Z k)) := by
  intro k hk
  have e : splice cur 0 (byCells Z n) = byCells Z n := by
    unfold splice
    rw [byCells_length, List.drop_of_length_le (by omega)]
    simp
  rw [e] at hg
  unfold World.cell?
  rw [hg]
  simpa using byCells_get Z n k hk

/-- the copy, as one fact of the run -/
theorem copy_run (cur : List Value) (Z : Nat → Int) (n g b off cap : Nat) (w0 w : World) (hl : cur.length = n) (hg : w.heap[g]? = some (.cells cur.toArray 5 (0, 0)))
    (hc : ∀ k, k < n → w.cell? ⟨b, off + k, none⟩ = some (.int .u8 (Z k))) (hbel : Below g w0 w) :
    ∃ w2, (∀ ty, (Builtin.copy_ #[22, 22] ty #[.slice (some ⟨g, 0, none⟩) n n, .slice (some ⟨b, off, none⟩) n cap]).run Trym.prog w = .ok (.int .i64 n) w2) ∧
      (∀ k, k < n → w2.cell? ⟨g, k, none⟩ = some (.int .u8 (Z k))) ∧ Below g w0 w2 := by
  refine ⟨w.setRow g (splice cur 0 (byCells Z n)).toArray, fun ty => ?_, ?_, below_setRow hbel (Nat.le_refl _) _⟩
  · have := run_copy_row (P := Trym.prog) w 22 22 ty 5 g 0 n n ⟨b, off, none⟩ n cap cur.toArray 5 (byCells Z n) Trym.underlying22 size5 hg
      (by rw [byCells_length]; exact (Nat.min_self n).symm) (byCells_lies Z n b off w hc) (by rw [byCells_length]; simp; omega) (byCells_one Z n)
    rw [byCells_length] at this
    rw [this]
    simp [splice, byCells_length, goInt]
  · exact splice_cells cur Z n g _ hl (setRow_heap w g _ _ 5 _ hg)

theorem made_copy {w w1 : World} {Z : Nat → Int} {n : Nat} {xs : List Value} (b off cap : Nat) (h : w1.ownsRow w.heap.size 5 1 (.slice (some ⟨w.heap.size, 0, none⟩) n n) n xs) (hg : w.grownBy w1 none) (hb : b < w.heap.size)
    (hc : ∀ k, k < n → w.cell? ⟨b, off + k, none⟩ = some (.int .u8 (Z k))) :
    ∃ w2, (∀ ty, (Builtin.copy_ #[22, 22] ty #[.slice (some ⟨w.heap.size, 0, none⟩) n n, .slice (some ⟨b, off, none⟩) n cap]).run Trym.prog w1 = .ok (.int .i64 n) w2) ∧
      (∀ k, k < n → w2.cell? ⟨w.heap.size, k, none⟩ = some (.int .u8 (Z k))) ∧ Below w.heap.size w w2 := by
  obtain ⟨cur, hl, hr⟩ := made_row h
  have hbel : Below w.heap.size w w1 := (Below.refl _ _).grown hg (Nat.le_refl _) (fun k hk => by cases hk)
  exact copy_run cur Z n w.heap.size b off cap w w1 hl hr (fun k hk => (hbel.cell (by exact hb)).trans (hc k hk)) hbel

set_option maxHeartbeats 400000 in
theorem law_pos (b off n cap : Nat) (Z : Nat → Int) (t : Bool) (w : World) (hn : 0 < n) (hs : n ≤ 1048576) (hb : b < w.heap.size)
    (hc : ∀ k, k < n → w.cell? ⟨b, off + k, none⟩ = some (.int .u8 (Z k))) :
    Calls Trym.prog 3 #[.slice (some ⟨b, off, none⟩) n cap, .bool t] w fun e w' => e = .returned (.bool true) ∧ Below w.heap.size w w' := by
  have hnil := fun (w : World) (a : Option Addr) (n c n' c' : Nat) => run_neq_slice_nil_any (P := Trym.prog) w 22 5 a n c n' c' Trym.underlying22
  have HB : Hid (Calls Trym.prog 4 #[.slice (some ⟨b, off, none⟩) n cap, .bool t] w fun e w' => e = .returned (.bool (smallB n)) ∧ w' = w) := bytes_any _ n cap t w (by unfold maxLen; omega)
  have hsb : smallB n = true := by simpa [smallB] using hs
  obtain ⟨i0, hi, hz0, hz1, hz2⟩ := info_parts info5
  have HC : Hid (∀ k, k < n → w.cell? ⟨b, off + k, none⟩ = some (.int .u8 (Z k))) := hc
  clear hc
  go_enter Trym.func3, Trym.ntmps3
  go_wp2_with fail
  refine HB.out.mono ?_
  rintro e w' ⟨rfl, rfl⟩
  go_wp2_with (at_make; refine wpList_make_full _ rfl _ _ 22 rfl w'.heap.size 5 i0 (.int .u8 0) 1 Trym.underlying22 hi hz0 hz1 .i64 .i64 n n n rfl rfl rfl rfl (by rw [hz2]; omega) (by unfold maxLen; omega) (Nat.le_refl _) ?_; intro w1 hown hgrow; obtain ⟨w2, hcp, hc2, hb2⟩ := made_copy b off cap hown hgrow hb HC.out; have HC2 : Hid (∀ k, k < n → w2.cell? ⟨w'.heap.size, k, none⟩ = some (.int .u8 (Z k))) := hc2; clear hown hgrow hc2)
  obtain ⟨x, f, hA⟩ := agree_pos w'.heap.size n Z t _ hn hs HC2.out
  have H5 : Hid (Calls Trym.prog 5 #[.slice (some ⟨w'.heap.size, 0, none⟩) n n, .bool t] w2 fun e w' => e = .returned (.tuple #[.int .i64 x, .bool f]) ∧ w' = w2) := hA.1
  have H6 : Hid (Calls Trym.prog 6 #[.slice (some ⟨w'.heap.size, 0, none⟩) n n, .bool t] w2 fun e w' => e = .returned (.tuple #[.int .i64 x, .bool f]) ∧ w' = w2) := hA.2
  clear hA hcp
  refine H5.out.mono ?_
  rintro e w3 ⟨rfl, rfl⟩
  go_wp2_with fail
  refine H6.out.mono ?_
  rintro e w4 ⟨rfl, rfl⟩
  go_wp2
  go_ret
  exact ⟨rfl, hb2⟩

set_option maxHeartbeats 400000 in
theorem law_empty (ad : Addr) (cap : Nat) (t : Bool) (w : World) :
    Calls Trym.prog 3 #[.slice (some ad) 0 cap, .bool t] w fun e w' => e = .returned (.bool true) ∧ Below w.heap.size w w' := by
  have hnil := fun (w : World) (a : Option Addr) (n c n' c' : Nat) => run_neq_slice_nil_any (P := Trym.prog) w 22 5 a n c n' c' Trym.underlying22
  have HB : Hid (Calls Trym.prog 4 #[.slice (some ad) 0 cap, .bool t] w fun e w' => e = .returned (.bool (smallB 0)) ∧ w' = w) := bytes_any _ 0 cap t w (by unfold maxLen; omega)
  have hsb : smallB 0 = true := by decide
  obtain ⟨i0, hi, hz0, hz1, hz2⟩ := info_parts info5
  have hcp := fun (w : World) (ty : TypeId) (d a : Option Addr) (dCap sCap : Nat) => run_copy_none (P := Trym.prog) w 22 22 ty 5 d a 0 dCap 0 sCap Trym.underlying22 size5 rfl
  go_enter Trym.func3, Trym.ntmps3
  go_wp2_with fail
  refine HB.out.mono ?_
  rintro e w' ⟨rfl, rfl⟩
  go_wp2_with (at_make; refine wpList_make_full _ rfl _ _ 22 rfl w'.heap.size 5 i0 (.int .u8 0) 1 Trym.underlying22 hi hz0 hz1 .i64 .i64 0 0 0 rfl rfl rfl rfl (by rw [hz2]; omega) (by unfold maxLen; omega) (Nat.le_refl _) ?_; intro w1 hown hgrow; have HB1 : Hid (Below w'.heap.size w' w1) := (Below.refl _ _).grown hgrow (Nat.le_refl _) (fun k hk => by cases hk); clear hown hgrow)
  obtain ⟨x, f, hA⟩ := agree_zero (some ⟨w'.heap.size, 0, none⟩) 0 t w1
  have H5 : Hid (Calls Trym.prog 5 #[.slice (some ⟨w'.heap.size, 0, none⟩) 0 0, .bool t] w1 fun e w' => e = .returned (.tuple #[.int .i64 x, .bool f]) ∧ w' = w1) := hA.1
  have H6 : Hid (Calls Trym.prog 6 #[.slice (some ⟨w'.heap.size, 0, none⟩) 0 0, .bool t] w1 fun e w' => e = .returned (.tuple #[.int .i64 x, .bool f]) ∧ w' = w1) := hA.2
  clear hA hcp
  refine H5.out.mono ?_
  rintro e w3 ⟨rfl, rfl⟩
  go_wp2_with fail
  refine H6.out.mono ?_
  rintro e w4 ⟨rfl, rfl⟩
  go_wp2
  go_ret
  exact ⟨rfl, HB1.out⟩

theorem law_early (a : Option Addr) (n cap : Nat) (t : Bool) (w : World) (hn : n ≤ maxLen) (h : ¬ n ≤ 1048576) :
    Calls Trym.prog 3 #[.slice a n cap, .bool t] w fun e w' => e = .returned (.bool true) ∧ Below w.heap.size w w' := by
  have HB : Hid (Calls Trym.prog 4 #[.slice a n cap, .bool t] w fun e w' => e = .returned (.bool (smallB n)) ∧ w' = w) := bytes_any a n cap t w hn
  have hsb : smallB n = false := by simpa [smallB] using h
  go_enter Trym.func3, Trym.ntmps3
  go_wp2_with fail
  refine HB.out.mono ?_
  rintro e w' ⟨rfl, rfl⟩
  go_wp2
  go_ret
  exact ⟨rfl, Below.refl _ _⟩

theorem cell_lt {w : World} {a : Addr} {v : Value} (h : w.cell? a = some v) : a.block < w.heap.size ∧ a.spot = none := by
  rcases Nat.lt_or_ge a.block w.heap.size with h' | h'
  · refine ⟨h', ?_⟩
    unfold World.cell? at h
    split at h
    · split at h
      · cases h
      · rename_i hs; simpa using hs
    · cases h
  · simp [World.cell?, Array.getElem?_eq_none h'] at h

end Go.Proofs.Qxb6604212aMods
