/- The hash function of ours, walked: what it computes. -/
import Derived.Test.YtfhcpniibiobgaaDoorHk
namespace Go.Proofs.YtfhcpniibiobgaaDoor.Hs
open Go.RowKit Go.Proofs.YtfhcpniibiobgaaDoorW.PrintWords Go.Proofs.YtfhcpniibiobgaaDoorW.PrintLast Go.Proofs.YtfhcpniibiobgaaDoorW.PrintMore
def mix1 (w c : Int) : Int := IntKind.u64.wrap (Go.bits .xor .u64 w (IntKind.u64.wrap c) * 1099511628211)
def mixF (w : Int) (l : List Int) : Int := l.foldl mix1 w
theorem take_snoc (l : List Int) (j : Nat) (h : j < l.length) : l.take (j + 1) = l.take j ++ [l.getD j 0] := by
  rw [List.take_succ_eq_append_getElem h, List.getD_eq_getElem?_getD, List.getElem?_eq_getElem h]
  rfl
theorem mix_snoc (w : Int) (l : List Int) (j : Nat) (h : j < l.length) : mixF w (l.take (j + 1)) = mix1 (mixF w (l.take j)) (l.getD j 0) := by
  rw [take_snoc l j h]
  unfold mixF
  rw [List.foldl_append]
  rfl
set_option maxHeartbeats 1000000 in
set_option maxRecDepth 100000 in
theorem mixed_calls (a0 : Int) (A1 : Option Addr) (c1 : Nat) (l : List Int) (w : World) (hr : CB w A1 l) (hl : l.length ≤ 140737488351232) :
    Calls Tryd.prog 86 #[.int .u64 a0, .slice A1 l.length c1] w fun e w' => e = .returned (.int .u64 (mixF a0 l)) ∧ w = w' := by
  have HR := aq hr
  clear hr
  go_enter Tryd.func86, Tryd.ntmps86
  go_wp2
  (try simp only [Act.put, List.setIfInBounds_toArray, List.set_cons_zero, List.set_cons_succ])
  go_loopg [0, 9] l.length (fun kq v0 v9 w' => ∃ j : Nat, j + kq = l.length ∧ v9 = .int .i64 (j : Nat) ∧ v0 = .int .u64 (mixF a0 (l.take j)) ∧ w = w')
  case atStart => exact ⟨0, by omega, rfl, rfl, rfl⟩
  case round =>
    obtain ⟨j, hj, rfl, rfl, rfl⟩ := hrel
    by_cases hlt : j < l.length
    · obtain ⟨ad, ead, hx⟩ := at_B HR.out j hlt
      cases ead
      have HS := aq (mix_snoc a0 l j hlt)
      generalize mixF a0 (l.take j) = m at HS ⊢
      generalize l.getD j 0 = b at HS hx
      go_wp2
      go_roundg (l.length - (j + 1))
      case measure => omega
      case rel => exact ⟨j + 1, by omega, by go_num, by rw [HS.out]; rfl, rfl⟩
    · obtain rfl : j = l.length := by omega
      go_wp2
      go_ret
      exact ⟨by first | rfl | (rw [List.take_length]; rfl), rfl⟩
def wn (n : Int) : Nat := if 1 ≤ n ∧ n ≤ 8 then n.toNat else 8
theorem wn_pos (n : Int) : 1 ≤ wn n ∧ wn n ≤ 8 := by unfold wn; split <;> omega
def wb (w : Int) (n i : Nat) : Int := w / 2 ^ (8 * (n - 1 - i)) % 256
def wordF (w n : Int) : List Int := (List.range (wn n)).map (wb w (wn n))
def wst (w : Int) (n j : Nat) : List Int := (List.range n).map fun i => if n - j ≤ i then wb w n i else 0
theorem wst_zero (w : Int) (n : Nat) : wst w n 0 = List.replicate n 0 := by
  unfold wst
  apply List.ext_getElem
  · simp
  · intro i h1 h2
    simp at h1 ⊢
    omega
theorem wst_full (w : Int) (n : Nat) : wst w n n = (List.range n).map (wb w n) := by
  unfold wst
  apply List.map_congr_left
  intro i _
  rw [if_pos (by omega)]
theorem wst_len (w : Int) (n j : Nat) : (wst w n j).length = n := by simp [wst]
theorem wst_step (w : Int) (n j : Nat) (h : j < n) : (wst w n j).set (n - 1 - j) (wb w n (n - 1 - j)) = wst w n (j + 1) := by
  apply List.ext_getElem
  · simp [wst]
  · intro i h1 h2
    simp only [wst, List.length_map, List.length_range] at h2
    rw [List.getElem_set]
    simp only [wst, List.getElem_map, List.getElem_range]
    by_cases hi : n - 1 - j = i
    · rw [if_pos hi, if_pos (by omega), hi]
    · rw [if_neg hi]
      by_cases h3 : n - j ≤ i
      · rw [if_pos h3, if_pos (by omega)]
      · rw [if_neg h3, if_neg (by omega)]
theorem wb_at (w : Int) (m j : Nat) (h : j < m) : wb w m (m - 1 - j) = w / 2 ^ (8 * j) % 256 := by
  unfold wb
  rw [show m - 1 - (m - 1 - j) = j by omega]
theorem made_bytes (m : Nat) : madeCells #[.int .u8 0] m = ((List.replicate m (0 : Int)).map (Value.int .u8)).toArray := by
  apply Array.ext
  · simp [size_madeCells]
  · intro i h1 h2
    simp only [madeCells, Array.getElem_map, Array.getElem_range, List.getElem_toArray, List.getElem_map, List.getElem_replicate]
    rw [show i % (#[Value.int .u8 0] : Array Value).size = 0 from Nat.mod_one i]
    rfl
set_option maxHeartbeats 1000000 in
set_option maxRecDepth 100000 in
theorem word_calls (a0 a1 : Int) (w : World) :
    Calls Tryd.prog 85 #[.int .u64 a0, .int .i64 a1] w fun e w' => ∃ v, e = .returned v ∧ Kd.R (Kd.int .u8) 5 w' w.heap.size (fun _ => True) v (wordF a0 a1) ∧ Below w.heap.size w w' := by
  obtain ⟨m, hm⟩ : ∃ m, m = wn a1 := ⟨_, rfl⟩
  have hmp := wn_pos a1
  rw [← hm] at hmp
  have hmk : ∀ W : World, (Instr.makeSlice 28 (.int .i64 (m : Int)) (.int .i64 (m : Int))).run Tryd.prog W = .ok (.slice (some ⟨W.heap.size, 0, none⟩) m m) (W.alloc (.cells (madeCells #[.int .u8 0] m) 5)) :=
    fun W => run_make_row' 28 5 (.int .u8 0) 1 Tryd.underlying28 infoB rfl .i64 .i64 m (by omega) (by omega) W
  have hcase : (a1 = (m : Int) ∧ 1 ≤ a1 ∧ a1 ≤ 8) ∨ (m = 8 ∧ a1 < 1) ∨ (m = 8 ∧ 8 < a1) := by
    unfold wn at hm
    split at hm
    · exact .inl ⟨by omega, by omega, by omega⟩
    · omega
  have WF := aq (show wordF a0 a1 = wst a0 m m by rw [wst_full]; unfold wordF; rw [hm])
  have MADE := aq (show madeCells #[.int .u8 0] m = ((wst a0 m 0).map (Value.int .u8)).toArray by
    rw [wst_zero, made_bytes])
  clear hm
  have hmk8 : m = 8 → ∀ W : World, (Instr.makeSlice 28 (.int .i64 8) (.int .i64 8)).run Tryd.prog W = .ok (.slice (some ⟨W.heap.size, 0, none⟩) 8 8) (W.alloc (.cells (madeCells #[.int .u8 0] 8) 5)) := by
    rintro rfl W
    exact hmk W
  rcases hcase with ⟨rfl, h1, h2⟩ | ⟨rfl, h1⟩ | ⟨rfl, h1⟩
  · have t1 : decide ((m : Int) < 1) = false := decide_eq_false (by omega)
    have t2 : decide (8 < (m : Int)) = false := decide_eq_false (by omega)
    clear hmk8
    go_enter Tryd.func85, Tryd.ntmps85
    go_wp2
    have BK := aq (heap_alloc_new w (.cells (madeCells #[.int .u8 0] m) 5))
    rw [MADE.out] at BK ⊢
    have HB := aq (below_alloc (Below.refl w.heap.size w) (.cells (((wst a0 m 0).map (Value.int .u8)).toArray) 5))
    generalize w.alloc (.cells (((wst a0 m 0).map (Value.int .u8)).toArray) 5) = w2 at BK HB ⊢
    go_loopg [17] m (fun kq v17 wr => ∃ j : Nat, j + kq = m ∧ v17 = .int .i64 (j : Nat) ∧ Aside0 (wr.heap[w.heap.size]? = some (.cells (((wst a0 m j).map (Value.int .u8)).toArray) 5 (0, 0))) ∧ Aside0 (Below w.heap.size w wr))
    case atStart => exact ⟨0, by omega, rfl, BK, HB⟩
    case round =>
      clear BK HB
      obtain ⟨j, hj, rfl, BK, HB⟩ := hrel
      by_cases hlt : j < m
      · have hcell : wr.cell? ⟨w.heap.size, m - 1 - j, none⟩ = some (.int .u8 ((wst a0 m j).getD (m - 1 - j) 0)) := (blk_cell BK.out _).trans (cells_at _ _ (by rw [wst_len]; omega))
        have hfro : wr.frozen? ⟨w.heap.size, m - 1 - j, none⟩ = false := blk_frozen BK.out _
        go_wp2
        go_roundg (m - (j + 1))
        case measure => omega
        case rel =>
          refine ⟨j + 1, by omega, by go_num, ⟨blk_put BK.out _ _ ?_⟩, ⟨Below.setCell HB.out (Nat.le_refl _) _⟩⟩
          have hs := wst_step a0 m j hlt
          rw [wb_at a0 m j hlt] at hs
          rw [← hs]
          exact cells_set _ _ _
      · obtain rfl : j = m := by omega
        go_wp2
        go_ret
        have hR := R_of_blk (ok := fun _ => True) (Nat.le_refl _) trivial BK.out (by rw [wst_len]; omega)
        rw [wst_len] at hR
        exact ⟨_, rfl, by rw [WF.out]; exact hR, HB.out⟩
  · have hmk2 := hmk8 rfl
    have t1 : decide (a1 < 1) = true := decide_eq_true (by omega)
    clear hmk hmk8
    go_enter Tryd.func85, Tryd.ntmps85
    go_wp2
    have BK := aq (heap_alloc_new w (.cells (madeCells #[.int .u8 0] 8) 5))
    rw [MADE.out] at BK ⊢
    have HB := aq (below_alloc (Below.refl w.heap.size w) (.cells (((wst a0 8 0).map (Value.int .u8)).toArray) 5))
    generalize w.alloc (.cells (((wst a0 8 0).map (Value.int .u8)).toArray) 5) = w2 at BK HB ⊢
    go_loopg [17] 8 (fun kq v17 wr => ∃ j : Nat, j + kq = 8 ∧ v17 = .int .i64 (j : Nat) ∧ Aside0 (wr.heap[w.heap.size]? = some (.cells (((wst a0 8 j).map (Value.int .u8)).toArray) 5 (0, 0))) ∧ Aside0 (Below w.heap.size w wr))
    case atStart => exact ⟨0, by omega, rfl, BK, HB⟩
    case round =>
      clear BK HB
      obtain ⟨j, hj, rfl, BK, HB⟩ := hrel
      by_cases hlt : j < 8
      · have hcell : wr.cell? ⟨w.heap.size, 7 - j, none⟩ = some (.int .u8 ((wst a0 8 j).getD (8 - 1 - j) 0)) := (blk_cell BK.out _).trans (cells_at _ _ (by rw [wst_len]; omega))
        have hfro : wr.frozen? ⟨w.heap.size, 7 - j, none⟩ = false := blk_frozen BK.out _
        go_wp2
        go_roundg (8 - (j + 1))
        case measure => omega
        case rel =>
          refine ⟨j + 1, by omega, by go_num, ⟨blk_put BK.out _ _ ?_⟩, ⟨Below.setCell HB.out (Nat.le_refl _) _⟩⟩
          have hs := wst_step a0 8 j hlt
          rw [wb_at a0 8 j hlt] at hs
          rw [← hs]
          exact cells_set _ _ _
      · obtain rfl : j = 8 := by omega
        go_wp2
        go_ret
        have hR := R_of_blk (ok := fun _ => True) (Nat.le_refl _) trivial BK.out (by rw [wst_len]; omega)
        rw [wst_len] at hR
        exact ⟨_, rfl, by rw [WF.out]; exact hR, HB.out⟩
  · have hmk2 := hmk8 rfl
    have t1 : decide (a1 < 1) = false := decide_eq_false (by omega)
    have t2 : decide (8 < a1) = true := decide_eq_true (by omega)
    clear hmk hmk8
    go_enter Tryd.func85, Tryd.ntmps85
    go_wp2
    have BK := aq (heap_alloc_new w (.cells (madeCells #[.int .u8 0] 8) 5))
    rw [MADE.out] at BK ⊢
    have HB := aq (below_alloc (Below.refl w.heap.size w) (.cells (((wst a0 8 0).map (Value.int .u8)).toArray) 5))
    generalize w.alloc (.cells (((wst a0 8 0).map (Value.int .u8)).toArray) 5) = w2 at BK HB ⊢
    go_loopg [17] 8 (fun kq v17 wr => ∃ j : Nat, j + kq = 8 ∧ v17 = .int .i64 (j : Nat) ∧ Aside0 (wr.heap[w.heap.size]? = some (.cells (((wst a0 8 j).map (Value.int .u8)).toArray) 5 (0, 0))) ∧ Aside0 (Below w.heap.size w wr))
    case atStart => exact ⟨0, by omega, rfl, BK, HB⟩
    case round =>
      clear BK HB
      obtain ⟨j, hj, rfl, BK, HB⟩ := hrel
      by_cases hlt : j < 8
      · have hcell : wr.cell? ⟨w.heap.size, 7 - j, none⟩ = some (.int .u8 ((wst a0 8 j).getD (8 - 1 - j) 0)) := (blk_cell BK.out _).trans (cells_at _ _ (by rw [wst_len]; omega))
        have hfro : wr.frozen? ⟨w.heap.size, 7 - j, none⟩ = false := blk_frozen BK.out _
        go_wp2
        go_roundg (8 - (j + 1))
        case measure => omega
        case rel =>
          refine ⟨j + 1, by omega, by go_num, ⟨blk_put BK.out _ _ ?_⟩, ⟨Below.setCell HB.out (Nat.le_refl _) _⟩⟩
          have hs := wst_step a0 8 j hlt
          rw [wb_at a0 8 j hlt] at hs
          rw [← hs]
          exact cells_set _ _ _
      · obtain rfl : j = 8 := by omega
        go_wp2
        go_ret
        have hR := R_of_blk (ok := fun _ => True) (Nat.le_refl _) trivial BK.out (by rw [wst_len]; omega)
        rw [wst_len] at hR
        exact ⟨_, rfl, by rw [WF.out]; exact hR, HB.out⟩
end Go.Proofs.YtfhcpniibiobgaaDoor.Hs
