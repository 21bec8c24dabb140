import Derived.Test.YtpjfokolbgcbhaaDoorEmA
import Derived.Test.YtpjfokolbgcbhaaDoorEmPG
import Derived.Test.YtpjfokolbgcbhaaDoorEmB
/- Rows of one's own, laid out cell by cell; the inverse that is looked for; rows chosen. -/
namespace Go.Proofs.YtpjfokolbgcbhaaDoor.Ge
open Go.RowKit Go.Proofs.YtpjfokolbgcbhaaDoor Go.Proofs.YtpjfokolbgcbhaaDoor.Qm Go.Proofs.YtpjfokolbgcbhaaDoorW.PrintWords Go.Proofs.YtpjfokolbgcbhaaDoorW.PrintLast Go.Proofs.YtpjfokolbgcbhaaDoorW.PrintMore
open Go.Proofs.YtpjfokolbgcbhaaDoor.QmP

theorem own_row {w : World} {base : Nat} {ok : Nat → Prop} {v : Value} {m : Nat} {f : Nat → Nat} (hm : 0 < m) (h : Kd.R (Kd.int .u8) 5 w base ok v (rowL m f)) :
    ∃ b c, v = .slice (some ⟨b, 0, none⟩) m c ∧ ok b ∧ base ≤ b ∧ m ≤ c ∧ ∀ j, j < m → w.cell? ⟨b, j, none⟩ = some (.int .u8 ((f j : Nat) : Int)) ∧ w.frozen? ⟨b, j, none⟩ = false := by
  have h2 := h
  obtain ⟨h0, inner, ho, _⟩ := h2
  rcases ho.2 with ⟨_, hz⟩ | ⟨b, c, cur, rfl, hb, _, hc, _⟩
  · rw [rowL_len] at hz
    omega
  · rw [rowL_len] at hc h ⊢
    refine ⟨b, c, rfl, h0 b rfl, hb, hc, fun j hj => ?_⟩
    obtain ⟨cs, hl, hM, hcell, hfr⟩ := Kd.R_elem h 0 (j : Int) (by omega) (by omega)
    have e0 : (j : Int).toNat * (Kd.int .u8).sz + 0 = j := by show (j : Int).toNat * 1 + 0 = j; omega
    have e1 : (rowL m f).getD (j : Int).toNat 0 = ((f j : Nat) : Int) := rd_row m f j hj
    rw [e1] at hM
    have hM' : cs = [.int .u8 ((f j : Nat) : Int)] := hM
    refine ⟨?_, ?_⟩
    · have := hcell 0 (.int .u8 ((f j : Nat) : Int)) (by rw [hM']; rfl)
      rw [e0] at this
      exact this
    · have := hfr 0
      rw [e0] at this
      exact this

/-- The matrix that a row of rows of one's own holds. -/
theorem Mt.of_S {w : World} {base : Nat} {ok : Nat → Prop} {v : Value} {n m : Nat} {M : Nat → Nat → Nat} (hn : 0 < n) (hm : 0 < m) (h : Kd.S (Kd.slice 5 (Kd.int .u8)) 24 w base ok v (mat n m M)) :
    ∃ g b c cp, v = .slice (some ⟨g, 0, none⟩) n cp ∧ n ≤ cp ∧ Mt w base g b c M n m := by
  obtain ⟨f, h⟩ := h
  have hl : (mat n m M).zipIdx.length = n := by rw [List.length_zipIdx, mat_len]
  have h2 := h
  obtain ⟨h0, inner, ho, _⟩ := h2
  rcases ho.2 with ⟨_, hz⟩ | ⟨g, cp, cur, rfl, hg, _, hc, _⟩
  · rw [hl] at hz
    omega
  · rw [hl] at hc h ⊢
    have row : ∀ i, ∃ b c, i < n → w.cell? ⟨g, i, none⟩ = some (.slice (some ⟨b, 0, none⟩) m c) ∧ w.frozen? ⟨g, i, none⟩ = false ∧ b ≠ g ∧ f b = i ∧ base ≤ b ∧ m ≤ c ∧ ∀ j, j < m → w.cell? ⟨b, j, none⟩ = some (.int .u8 ((M i j : Nat) : Int)) ∧ w.frozen? ⟨b, j, none⟩ = false := fun i => by
      by_cases hi : i < n
      · obtain ⟨cs, hcl, hM, hcell, hfr⟩ := Kd.R_elem h ([], 0) (i : Int) (by omega) (by omega)
        have e0 : (i : Int).toNat * (Kd.tag f (Kd.slice 5 (Kd.int .u8))).sz + 0 = i := by show (i : Int).toNat * 1 + 0 = i; omega
        have e1 : (mat n m M).zipIdx.getD (i : Int).toNat ([], 0) = (rowL m (M i), i) := by
          rw [show (i : Int).toNat = i by omega, List.getD_eq_getElem?_getD]
          rw [Kd.zip_at (p := rowL m (M i)) (by unfold mat; rw [List.getElem?_map, List.getElem?_range hi]; rfl)]
          rfl
        rw [e1] at hM
        obtain ⟨u, hu, hR⟩ : ∃ u, cs = [u] ∧ Kd.R (Kd.int .u8) 5 w base (fun k => (True ∧ k ≠ g) ∧ f k = i) u (rowL m (M i)) := by
          obtain ⟨u, hu, hR⟩ := hM
          exact ⟨u, hu, Kd.R_mono hR (fun k hk => ⟨⟨trivial, hk.1.2⟩, hk.2⟩)⟩
        obtain ⟨b, c, rfl, hok, hb, hcc, hj⟩ := own_row hm hR
        refine ⟨b, c, fun _ => ⟨?_, ?_, hok.1.2, hok.2, hb, hcc, hj⟩⟩
        · have := hcell 0 _ (by rw [hu]; rfl)
          rw [e0] at this
          exact this
        · have := hfr 0
          rw [e0] at this
          exact this
      · exact ⟨0, 0, fun h => absurd h hi⟩
    obtain ⟨b, row⟩ := Classical.skolem.1 row
    obtain ⟨c, row⟩ := Classical.skolem.1 row
    exact ⟨g, b, c, cp, rfl, hc, { top := fun i hi => (row i hi).1, topf := fun i hi => (row i hi).2.1, row := fun i j hi hj => ((row i hi).2.2.2.2.2.2 j hj).1, rowf := fun i j hi hj => ((row i hi).2.2.2.2.2.2 j hj).2, cap := fun i hi => (row i hi).2.2.2.2.2.1, ne := fun i hi => (row i hi).2.2.1, inj := fun i j hi hj e => by rw [← (row i hi).2.2.2.1, ← (row j hj).2.2.2.1, e], lo := ⟨hg, fun i hi => (row i hi).2.2.2.2.1⟩ }⟩

theorem mul_up (a b : Nat) (ha : a < 256) (hb : b < 256) {k : Nat} (hk : 57 ≤ k) : spec_Mul.f k (a : Int) (b : Int) = some ((gmul a b : Nat) : Int) := by
  induction k with
  | zero => omega
  | succ k ih =>
    by_cases e : k + 1 = 57
    · rw [e]
      exact specMul_of a b ha hb
    · exact spec_Mul.mono _ _ _ _ (ih (by omega))
/-- The inverse that the specification looks for. -/
theorem inverse_go (a s : Nat) (ha : a < 256) (hs : gmul a s = 1) (hs2 : s < 256) : ∀ (d x k : Nat), x + d = s → 57 + d < k → ∃ q, q < 256 ∧ gmul q a = 1 ∧ spec_Inverse.l0 k (a : Int) (x : Int) = some ((q : Nat) : Int)
  | d, x, k, hx, hk => by
    obtain ⟨k, rfl⟩ : ∃ k', k = k' + 1 := ⟨k - 1, by omega⟩
    have hmul : spec_Mul.f k (a : Int) ((x : Int) % 256) = some ((gmul a x : Nat) : Int) := by
      rw [show (x : Int) % 256 = (x : Int) by omega]
      exact mul_up a x ha (by omega) (by omega)
    unfold spec_Inverse.l0
    rw [if_pos (by omega), hmul, Option.bind_some]
    by_cases h1 : gmul a x = 1
    · rw [if_pos (by omega)]
      refine ⟨x, by omega, by rw [gmul_comm]; exact h1, ?_⟩
      rw [show (x : Int) % 256 = (x : Int) by omega]
    · rw [if_neg (by omega)]
      rcases d with _ | d
      · rw [Nat.add_zero] at hx
        rw [hx] at h1
        exact absurd hs h1
      · rw [w64 (by omega) (by omega), show (x : Int) + 1 = ((x + 1 : Nat) : Int) by omega]
        exact inverse_go a s ha hs hs2 d (x + 1) k (by omega) (by omega)
theorem inverse_f (a : Nat) (h0 : a ≠ 0) (ha : a < 256) : ∃ q, q < 256 ∧ gmul q a = 1 ∧ spec_Inverse.f 400 (a : Int) = some ((q : Nat) : Int) := by
  have h1 := ginv_mul h0 ha
  have h2 := ginv_lt a
  have h3 := ginv_ne h0 ha
  exact inverse_go a (ginv a) ha (by rw [gmul_comm]; exact h1) h2 (ginv a - 1) 1 400 (by omega) (by omega)
end Go.Proofs.YtpjfokolbgcbhaaDoor.Ge

/- What the specification's rows chosen, put beside, cut out come to: plain. -/
namespace Go.Proofs.YtpjfokolbgcbhaaDoor.Ge
open Go.RowKit Go.Proofs.YtpjfokolbgcbhaaDoor Go.Proofs.YtpjfokolbgcbhaaDoor.Qm Go.Proofs.YtpjfokolbgcbhaaDoorW.PrintWords Go.Proofs.YtpjfokolbgcbhaaDoorW.PrintLast
open Go.Proofs.YtpjfokolbgcbhaaDoor.QmP

theorem rowL_snoc (i : Nat) (f : Nat → Nat) : rowL i f ++ [((f i : Nat) : Int)] = rowL (i + 1) f := by
  unfold rowL
  rw [List.range_succ, List.map_append]
  rfl
theorem mat_snoc (i m : Nat) (M : Nat → Nat → Nat) : mat i m M ++ [rowL m (M i)] = mat (i + 1) m M := by
  unfold mat
  rw [List.range_succ, List.map_append]
  rfl
theorem upTo_go (n : Nat) (hn : n ≤ 100) : ∀ (d i k : Nat), i + d = n → d < k → spec_upTo.l0 k (n : Int) (rowL i id) (i : Int) = some (rowL n id)
  | d, i, k, hi, hk => by
    obtain ⟨k, rfl⟩ : ∃ k', k = k' + 1 := ⟨k - 1, by omega⟩
    unfold spec_upTo.l0
    rcases d with _ | d
    · obtain rfl : i = n := by omega
      rw [if_neg (by omega)]
    · rw [if_pos (by omega), if_pos (by rw [rowL_len]; omega), w64 (by omega) (by omega), show (i : Int) = ((id i : Nat) : Int) from rfl, rowL_snoc, show ((id i : Nat) : Int) + 1 = ((i + 1 : Nat) : Int) by simp]
      exact upTo_go n hn d (i + 1) k (by omega) (by omega)
theorem upTo_f (n : Nat) (hn : n ≤ 100) : spec_upTo.f 200 (n : Int) = some (rowL n id) := upTo_go n hn n 0 200 (by omega) (by omega)
theorem chosen_go (n m : Nat) (M : Nat → Nat → Nat) (hn : n ≤ 100) (hm : m ≤ 100) : ∀ (d i k : Nat), i + d = n → d < k → spec_Chosen.l0 k (mat n m M) (mat i m M) (rowL n id) (n : Int) (i : Int) = some (mat n m M)
  | d, i, k, hi, hk => by
    obtain ⟨k, rfl⟩ : ∃ k', k = k' + 1 := ⟨k - 1, by omega⟩
    unfold spec_Chosen.l0
    rcases d with _ | d
    · obtain rfl : i = n := by omega
      rw [if_neg (by omega)]
    · have hin : i < n := by omega
      rw [if_pos (by omega), if_pos (by omega), if_pos (by rw [rowL_len]; omega), Option.bind_some, rd_row n id i hin, show ((id i : Nat) : Int) = (i : Int) from rfl, rd_mat n m M i hin, if_pos (by omega), if_pos (by rw [mat_len]; omega), if_pos (by rw [rowL_len]; show 0 + m < _; omega), if_pos (by rw [mat_len]; omega), w64 (by omega) (by omega), List.nil_append, mat_snoc, show (i : Int) + 1 = ((i + 1 : Nat) : Int) by simp]
      exact chosen_go n m M hn hm d (i + 1) k (by omega) (by omega)
theorem chosen_f (n m : Nat) (M : Nat → Nat → Nat) (hn : n ≤ 100) (hm : m ≤ 100) : spec_Chosen.f 200 (mat n m M) (rowL n id) = some (mat n m M) := by
  unfold spec_Chosen.f
  rw [rowL_len]
  exact chosen_go n m M hn hm n 0 200 (by omega) (by omega)
end Go.Proofs.YtpjfokolbgcbhaaDoor.Ge

/- The specification's helpers, as the reduction calls them. -/
namespace Go.Proofs.YtpjfokolbgcbhaaDoor.Ge
open Go.RowKit Go.Proofs.YtpjfokolbgcbhaaDoor Go.Proofs.YtpjfokolbgcbhaaDoorW.PrintWords Go.Proofs.YtpjfokolbgcbhaaDoorW.PrintLast Go.Proofs.YtpjfokolbgcbhaaDoorW.PrintMore
open Go.Proofs.YtpjfokolbgcbhaaDoor.QmP
open Go.Proofs.YtpjfokolbgcbhaaDoor.Ro (CL)

theorem Mt.lower {w : World} {base base' g : Nat} {b c : Nat → Nat} {M : Nat → Nat → Nat} {n m : Nat} (h : Mt w base g b c M n m) (hb : base' ≤ base) : Mt w base' g b c M n m :=
  { h with lo := ⟨Nat.le_trans hb h.lo.1, fun i hi => Nat.le_trans hb (h.lo.2 i hi)⟩ }
theorem St.drewN {w0 wr : World} {base g : Nat} {M0 : Nat → Nat → Nat} {n m : Nat} {P : (Nat → Nat → Nat) → Prop} {b c : Nat → Nat} {M : Nat → Nat → Nat} (h : St w0 wr base g M0 n m P b c M) (q : Nat) : St w0 (wr.drewN q) base g M0 n m P b c M :=
  ⟨h.mt.drewN q, h.eq, h.b8, h.p, pw_below_drewN h.bel q, Glob.drewN h.glob q⟩
theorem upto_calls (n : Nat) (hn : n ≤ 100) (w : World) : Calls Tryd.prog 51 #[.int .i64 (n : Nat)] w fun e w' => ∃ A c, e = .returned (.slice A n c) ∧ n ≤ c ∧ Kd.C (Kd.int .i64) w' A n (rowL n id) ∧ Below w.heap.size w w' :=
  (Qm.spec_upTo.calls 200 n (rowL n id) w (upTo_f n hn)).mono fun e w' ⟨v, he, hR, hb⟩ => by
    obtain ⟨A, c, hv⟩ := Kd.R_slice hR
    rw [hv] at hR he
    obtain ⟨_, h2, h3⟩ := Kd.R_reads' hR
    rw [rowL_len] at he h2 h3
    exact ⟨A, c, he, h2, h3, hb⟩
theorem chosen_calls (n m : Nat) (M : Nat → Nat → Nat) (hn : 0 < n) (hn2 : n ≤ 100) (hm0 : 0 < m) (hm : m ≤ 100) (w : World) (A : Option Addr) (c0 : Nat) (A1 : Option Addr) (c1 : Nat) (hC : CL w A (mat n m M)) (h1 : Kd.C (Kd.int .i64) w A1 n (rowL n id)) (hc0 : n ≤ c0) (hc1 : n ≤ c1) :
    Calls Tryd.prog 50 #[.slice A n c0, .slice A1 n c1] w fun e w' => ∃ g b c cp, e = .returned (.slice (some ⟨g, 0, none⟩) n cp) ∧ n ≤ cp ∧ Mt w' w.heap.size g b c M n m ∧ Below w.heap.size w w' := by
  have h := Qm.spec_Chosen.calls 200 A c0 (mat n m M) A1 c1 (rowL n id) (mat n m M) w hC (by rw [mat_len]; exact hc0) (by rw [rowL_len]; exact h1) (by rw [rowL_len]; exact hc1) (chosen_f n m M hn2 hm)
  rw [mat_len, rowL_len] at h
  refine h.mono fun e w' ⟨v, he, hS, hb⟩ => ?_
  obtain ⟨g, b, c, cp, hv, hcp, hmt⟩ := Mt.of_S hn hm0 hS
  rw [hv] at he
  exact ⟨g, b, c, cp, he, hcp, hmt, hb⟩
theorem columns_calls (n m : Nat) (M : Nat → Nat → Nat) (hn : 0 < n) (w : World) (A : Option Addr) (c0 : Nat) (hC : CL w A (mat n m M)) (hc0 : n ≤ c0) :
    Calls Tryd.prog 19 #[.slice A n c0] w fun e w' => e = .returned (.int .i64 (m : Nat)) ∧ Drawn0 w w' := by
  have h := Qm.spec_Columns.calls A c0 (mat n m M) ((m : Nat) : Int) w hC (by rw [mat_len]; exact hc0) (by rw [Pure.cols_f, Pure.mat_colN n m M hn])
  rw [mat_len] at h
  exact h
/-- What the reduction comes to. -/
def RPost (w : World) (M0 : Nat → Nat → Nat) (n m : Nat) (e : Ending) (w' : World) : Prop :=
  ∃ (g cp rk : Nat) (b c : Nat → Nat) (M : Nat → Nat → Nat), e = .returned (.tuple #[.slice (some ⟨g, 0, none⟩) n cp, .int .i64 (rk : Nat)]) ∧ n ≤ cp ∧ St w w' w.heap.size g M0 n m (fun M => Inj M0 n m → ∀ i, i < n → ∀ j, j < n → M i j = if i = j then 1 else 0) b c M
end Go.Proofs.YtpjfokolbgcbhaaDoor.Ge

/- The specification's matrices: zeros, the identity, beside, a block, equal, the product: plain. -/
namespace Go.Proofs.YtpjfokolbgcbhaaDoor.Ge
open Go.RowKit Go.Proofs.YtpjfokolbgcbhaaDoor Go.Proofs.YtpjfokolbgcbhaaDoor.Qm Go.Proofs.YtpjfokolbgcbhaaDoorW.PrintWords Go.Proofs.YtpjfokolbgcbhaaDoorW.PrintLast
open Go.Proofs.YtpjfokolbgcbhaaDoor.QmP Go.Proofs.YtpjfokolbgcbhaaDoor.Pure

theorem zeros_loop (n m : Nat) (hn : n ≤ 256) (hm : m ≤ 256) : ∀ (d i k : Nat), i + d = n → d < k →
    spec_Zeros.l0 k (m : Int) ((List.range n).map fun t => if t < i then List.replicate m (0 : Int) else []) (n : Int) (i : Int) = some (mat n m (fun _ _ => 0))
  | 0, i, k + 1, h, _ => by
    simp only [spec_Zeros.l0]
    rw [if_neg (by omega), ← mat_zero]
    congr 1
    apply List.ext_getElem
    · simp
    · intro t h1 h2
      simp at h1
      simp only [List.getElem_map, List.getElem_range, List.getElem_replicate]
      rw [if_pos (by omega)]
  | d + 1, i, k + 1, h, hk => by
    have ih := zeros_loop n m hn hm d (i + 1) k (by omega) (by omega)
    simp only [spec_Zeros.l0]
    rw [if_pos (by omega), if_pos (by omega), if_pos (by omega), if_pos (by omega), if_pos (by simp; omega), w64 (by omega) (by omega), show ((i : Int) + 1) = ((i + 1 : Nat) : Int) by omega, ← ih]
    congr 1
    apply List.ext_getElem
    · simp
    · intro t h1 h2
      rw [List.getElem_set]
      simp only [Int.toNat_natCast, List.getElem_map, List.getElem_range]
      by_cases e : i = t
      · rw [if_pos e, if_pos (by omega)]
      · rw [if_neg e]
        by_cases e2 : t < i
        · rw [if_pos e2, if_pos (by omega)]
        · rw [if_neg e2, if_neg (by omega)]
theorem zeros_f (n m k : Nat) (hn : n ≤ 256) (hm : m ≤ 256) (hk : n < k) : spec_Zeros.f k (n : Int) (m : Int) = some (mat n m (fun _ _ => 0)) := by
  have := zeros_loop n m hn hm n 0 k (by omega) hk
  unfold spec_Zeros.f
  rw [if_pos (by omega), if_pos (by omega), Option.bind_some, ← this]
  congr 1
  · apply List.ext_getElem
    · simp
    · intro t h1 h2
      simp
  · simp
theorem units_loop (n : Nat) (hn : n ≤ 256) : ∀ (d i k : Nat), i + d = n → d < k → spec_Unit.l0 k (mat n n (ust i)) (n : Int) (i : Int) = some (mat n n uni)
  | 0, i, k + 1, h, _ => by
    simp only [spec_Unit.l0]
    rw [if_neg (by omega)]
    congr 1
    exact mat_congr fun s hs t _ => by unfold ust; rw [if_pos (by omega)]
  | d + 1, i, k + 1, h, hk => by
    have ih := units_loop n hn d (i + 1) k (by omega) (by omega)
    have hi : i < n := by omega
    have hs : (mat n n (ust i)).set i ((rd_L1 (mat n n (ust i)) (i : Int)).set i 1) = mat n n (ust (i + 1)) := by
      rw [show (1 : Int) = ((1 : Nat) : Int) from rfl, mat_set _ _ _ _ _ _ hi, ust_upd]
    simp only [spec_Unit.l0]
    rw [if_pos (by omega), if_pos (by omega), if_pos (by rw [mat_len]; omega), if_pos (by rw [rd_mat _ _ _ _ hi, rowL_len]; omega), Int.toNat_natCast, hs, w64 (by omega) (by omega)]
    exact ih
theorem unit_f (n k : Nat) (hn : n ≤ 100) (hk : n < k) : spec_Unit.f k (n : Int) = some (mat n n uni) := by
  unfold spec_Unit.f
  rw [zeros_f n n k (by omega) (by omega) hk, Option.bind_some, mat_len, show mat n n (fun _ _ => 0) = mat n n (ust 0) from mat_congr fun s _ t _ => by unfold ust; rw [if_neg (by omega)]]
  exact units_loop n (by omega) n 0 k (by omega) (by omega)
theorem rowL_beside (n : Nat) (M : Nat → Nat → Nat) (i : Nat) : rowL n (M i) ++ rowL n (uni i) = rowL (n + n) (besideU M n i) := by
  unfold rowL besideU uni
  apply List.ext_getElem
  · simp
  · intro t h1 h2
    rw [List.getElem_append]
    simp only [List.length_map, List.length_range, List.getElem_map, List.getElem_range]
    by_cases e : t < n
    · rw [dif_pos e, if_pos e]
    · rw [dif_neg e, if_neg e]
      by_cases e2 : i = t - n
      · rw [if_pos e2, if_pos (by omega)]
      · rw [if_neg e2, if_neg (by omega)]
theorem beside_go (n : Nat) (M : Nat → Nat → Nat) (hn : n ≤ 100) : ∀ (d i k : Nat), i + d = n → d < k → spec_Beside.l0 k (mat n n M) (mat n n uni) (mat i (n + n) (besideU M n)) (n : Int) (i : Int) = some (mat n (n + n) (besideU M n))
  | d, i, k, hi, hk => by
    obtain ⟨k, rfl⟩ : ∃ k', k = k' + 1 := ⟨k - 1, by omega⟩
    unfold spec_Beside.l0
    rcases d with _ | d
    · obtain rfl : i = n := by omega
      rw [if_neg (by omega)]
    · have hin : i < n := by omega
      rw [if_pos (by omega), Option.bind_some, if_pos (by omega), if_pos (by rw [mat_len]; omega), rd_mat n n M i hin, if_pos (by rw [rowL_len]; show 0 + n < _; omega), Option.bind_some, if_pos (by rw [mat_len]; omega), rd_mat n n uni i hin, if_pos (by rw [List.nil_append, rowL_len, rowL_len]; omega), if_pos (by rw [mat_len]; omega), w64 (by omega) (by omega), List.nil_append, rowL_beside, mat_snoc, show (i : Int) + 1 = ((i + 1 : Nat) : Int) by simp]
      exact beside_go n M hn d (i + 1) k (by omega) (by omega)
theorem beside_f (n : Nat) (M : Nat → Nat → Nat) (hn : n ≤ 100) : spec_Beside.f 200 (mat n n M) (mat n n uni) = some (mat n (n + n) (besideU M n)) := by
  unfold spec_Beside.f
  rw [mat_len]
  exact beside_go n M hn n 0 200 (by omega) (by omega)
theorem rowL_cut (m p q : Nat) (f : Nat → Nat) (hq : p + q ≤ m) : ((rowL m f).take (p + q)).drop p = rowL q (fun j => f (p + j)) := by
  unfold rowL
  apply List.ext_getElem
  · simp; omega
  · intro t h1 h2
    rw [List.getElem_drop, List.getElem_take]
    simp only [List.getElem_map, List.getElem_range]
theorem block_go (n m p q : Nat) (M : Nat → Nat → Nat) (hn : n ≤ 100) (hm : m ≤ 100) (hq : p + q ≤ m) : ∀ (d i k : Nat), i + d = n → d < k → spec_Block.l0 k (p : Int) ((p + q : Nat) : Int) (mat i q (fun i j => M i (p + j))) (mat n m M) (n : Int) (i : Int) = some (mat n q (fun i j => M i (p + j)))
  | d, i, k, hi, hk => by
    obtain ⟨k, rfl⟩ : ∃ k', k = k' + 1 := ⟨k - 1, by omega⟩
    unfold spec_Block.l0
    rcases d with _ | d
    · obtain rfl : i = n := by omega
      rw [if_neg (by omega)]
    · have hin : i < n := by omega
      rw [if_pos (by omega), if_pos (by omega), if_pos (by rw [mat_len]; omega), Option.bind_some, rd_mat n m M i hin, if_pos (by omega), if_pos (by omega), if_pos (by rw [rowL_len]; omega), Int.toNat_natCast, Int.toNat_natCast, rowL_cut m p q _ hq, if_pos (by rw [rowL_len]; show 0 + q < _; omega), if_pos (by rw [mat_len]; omega), w64 (by omega) (by omega), List.nil_append]
      have := mat_snoc i q (fun i j => M i (p + j))
      rw [this, show (i : Int) + 1 = ((i + 1 : Nat) : Int) by simp]
      exact block_go n m p q M hn hm hq d (i + 1) k (by omega) (by omega)
theorem block_f (n m p q : Nat) (M : Nat → Nat → Nat) (hn : n ≤ 100) (hm : m ≤ 100) (hq : p + q ≤ m) : spec_Block.f 200 (mat n m M) 0 (p : Int) (n : Int) ((p + q : Nat) : Int) = some (mat n q (fun i j => M i (p + j))) := by
  unfold spec_Block.f
  rw [if_pos (by omega), if_pos (by omega), if_pos (by rw [mat_len]; omega), Option.bind_some, show ((0 : Int)).toNat = 0 from rfl, List.drop_zero, Int.toNat_natCast, List.take_of_length_le (by rw [mat_len]; omega), mat_len]
  exact block_go n m p q M hn hm hq n 0 200 (by omega) (by omega)
/-- Whether two matrices of one size are equal. -/
theorem eq_loop (n m : Nat) (A B : Nat → Nat → Nat) (hn : n ≤ 100) (hm : m ≤ 100) : ∀ (d k i : Nat),
    (i < n → ∀ j c, c + j = m → (n - i - 1) * 102 + c + 2 ≤ d → d ≤ k → ∃ b, spec_EqualMatrices.l1 k (mat n m A) (mat n m B) (i : Int) (n : Int) (i : Int) (m : Int) (j : Int) = some b ∧ (b = true → (∀ t, j ≤ t → t < m → A i t = B i t) ∧ ∀ s, i < s → s < n → ∀ t, t < m → A s t = B s t)) ∧
    (i ≤ n → (n - i) * 102 + 1 ≤ d → d ≤ k → ∃ b, spec_EqualMatrices.l0 k (mat n m A) (mat n m B) (n : Int) (i : Int) = some b ∧ (b = true → ∀ s, i ≤ s → s < n → ∀ t, t < m → A s t = B s t))
  | 0, k, i => ⟨fun _ _ _ _ _ _ => by omega, fun _ _ _ => by omega⟩
  | d + 1, k, i => by
    refine ⟨fun hi j c hc hd hk => ?_, fun hi hd hk => ?_⟩
    · obtain ⟨k, rfl⟩ : ∃ k', k = k' + 1 := ⟨k - 1, by omega⟩
      simp only [spec_EqualMatrices.l1]
      by_cases hj : j < m
      · rw [if_pos (by omega), if_pos (by omega), if_pos (by rw [mat_len]; omega), if_pos (by omega), rd_mat _ _ _ _ hi, if_pos (by rw [rowL_len]; omega), if_pos (by rw [mat_len]; omega), rd_mat _ _ _ _ hi, if_pos (by rw [rowL_len]; omega), rd_row _ _ _ hj, rd_row _ _ _ hj]
        by_cases e : A i j = B i j
        · obtain ⟨b, h1, h2⟩ := (eq_loop n m A B hn hm d k i).1 hi (j + 1) (c - 1) (by omega) (by omega) (by omega)
          rw [if_pos (by rw [e]), w64 (by omega) (by omega)]
          refine ⟨b, h1, fun hb => ⟨fun t ht1 ht2 => ?_, (h2 hb).2⟩⟩
          by_cases et : t = j
          · rw [et]; exact e
          · exact (h2 hb).1 t (by omega) ht2
        · rw [if_neg (by omega)]
          exact ⟨false, rfl, fun h => by simp at h⟩
      · obtain ⟨b, h1, h2⟩ := (eq_loop n m A B hn hm d k (i + 1)).2 (by omega) (by omega) (by omega)
        rw [if_neg (by omega), w64 (by omega) (by omega)]
        exact ⟨b, h1, fun hb => ⟨fun t _ _ => by omega, fun s hs => h2 hb s (by omega)⟩⟩
    · obtain ⟨k, rfl⟩ : ∃ k', k = k' + 1 := ⟨k - 1, by omega⟩
      simp only [spec_EqualMatrices.l0]
      by_cases hin : i < n
      · obtain ⟨b, h1, h2⟩ := (eq_loop n m A B hn hm d k i).1 hin 0 m rfl (by omega) (by omega)
        rw [if_pos (by omega), if_pos (by omega), if_pos (by rw [mat_len]; omega), if_pos (by rw [mat_len]; omega), rd_mat _ _ _ _ hin, rd_mat _ _ _ _ hin, rowL_len, rowL_len, if_pos rfl]
        refine ⟨b, h1, fun hb s hs1 hs2 t ht => ?_⟩
        by_cases es : s = i
        · rw [es]; exact (h2 hb).1 t (by omega) ht
        · exact (h2 hb).2 s (by omega) hs2 t ht
      · rw [if_neg (by omega)]
        exact ⟨true, rfl, fun _ s h1 h2 => by omega⟩
theorem eq_f (n m : Nat) (A B : Nat → Nat → Nat) (hn : n ≤ 100) (hm : m ≤ 100) : ∃ b, spec_EqualMatrices.f 11000 (mat n m A) (mat n m B) = some b ∧ (b = true ↔ ∀ i, i < n → ∀ j, j < m → A i j = B i j) := by
  obtain ⟨b, h1, h2⟩ := (eq_loop n m A B hn hm 11000 11000 0).2 (by omega) (by omega) (by omega)
  refine ⟨b, ?_, fun hb i hi j hj => h2 hb i (by omega) hi j hj, fun h => ?_⟩
  · unfold spec_EqualMatrices.f
    rw [mat_len, mat_len, if_pos rfl]
    exact h1
  · have h3 := equal_of n m A B hn hm h 11000 (by omega)
    unfold spec_EqualMatrices.f at h3
    rw [mat_len, mat_len, if_pos rfl] at h3
    have h4 := h1.symm.trans h3
    exact Option.some.inj h4
theorem upd_upd (M : Nat → Nat → Nat) (i j a b : Nat) : upd (upd M i j a) i j b = upd M i j b := by
  funext s t
  unfold upd
  by_cases h : s = i
  · simp only [h, if_true]
    by_cases h2 : t = j
    · simp [h2]
    · simp [h2]
  · simp [h]
theorem upd_at (M : Nat → Nat → Nat) (i j a : Nat) : upd M i j a i j = a := by simp [upd]
set_option maxRecDepth 100000 in
/-- The specification's product, entry by entry. -/
theorem times_loop (n m p : Nat) (A B : Nat → Nat → Nat) (hA : ∀ i, B8 (A i)) (hB : ∀ i, B8 (B i)) (hn : n ≤ 40) (hm : m ≤ 40) (hp : p ≤ 40) : ∀ (d k i : Nat),
    (i < n → ∀ j, j < p → ∀ q c, c + q = m → (n - i - 1) * 2000 + (p - j - 1) * 45 + c + 3 ≤ d → d + 60 ≤ k → spec_Times.l2 k (mat n m A) (mat m p B) (mat n p (upd (pst (prod m A B) i j) i j (dot (A i) (fun k => B k j) q))) (i : Int) (j : Int) (n : Int) (i : Int) (p : Int) (j : Int) (m : Int) (q : Int) = some (mat n p (prod m A B))) ∧
    (i < n → ∀ j, j ≤ p → (n - i - 1) * 2000 + (p - j) * 45 + 2 ≤ d → d + 60 ≤ k → spec_Times.l1 k (mat n m A) (mat m p B) (mat n p (pst (prod m A B) i j)) (i : Int) (n : Int) (i : Int) (p : Int) (j : Int) = some (mat n p (prod m A B))) ∧
    (i ≤ n → (n - i) * 2000 + 1 ≤ d → d + 60 ≤ k → spec_Times.l0 k (mat n m A) (mat m p B) (mat n p (pst (prod m A B) i 0)) (n : Int) (i : Int) = some (mat n p (prod m A B)))
  | 0, k, i => ⟨fun _ _ _ _ _ _ _ _ => by omega, fun _ _ _ _ _ => by omega, fun _ _ _ => by omega⟩
  | d + 1, k, i => by
    refine ⟨fun hi j hj q c hc hd hk => ?_, fun hi j hj hd hk => ?_, fun hi hd hk => ?_⟩
    · obtain ⟨k, rfl⟩ : ∃ k', k = k' + 1 := ⟨k - 1, by omega⟩
      simp only [spec_Times.l2]
      by_cases hq : q < m
      · have ih := (times_loop n m p A B hA hB hn hm hp d k i).1 hi j hj (q + 1) (c - 1) (by omega) (by omega) (by omega)
        rw [if_pos (by omega), if_pos (by omega), if_pos (by rw [mat_len]; omega), if_pos (by omega), if_pos (by rw [rd_mat _ _ _ _ hi, rowL_len]; omega), if_pos (by rw [mat_len]; omega), if_pos (by omega), if_pos (by rw [rd_mat _ _ _ _ hi, rowL_len]; omega), if_pos (by rw [mat_len]; omega), if_pos (by rw [rd_mat _ _ _ _ hq, rowL_len]; omega), rd_mat n m A i hi, rd_mat m p B q hq, rd_row _ _ _ hq, rd_row _ _ _ hj, mul_up _ _ (hA i q) (hB q j) (by omega), Option.bind_some, rd_mat n p _ i hi, rd_row _ _ _ hj, upd_at, xor_u8 _ _ (dot_lt _ _ _) (gmul_lt _ _), ← rd_mat n p _ i hi, Int.toNat_natCast, Int.toNat_natCast, mat_set _ _ _ _ _ _ hi, upd_upd, w64 (by omega) (by omega)]
        exact ih
      · obtain rfl : q = m := by omega
        have ih := (times_loop n q p A B hA hB hn hm hp d k i).2.1 hi (j + 1) (by omega) (by omega) (by omega)
        rw [if_neg (by omega), w64 (by omega) (by omega)]
        rw [← pst_upd] at ih
        exact ih
    · obtain ⟨k, rfl⟩ : ∃ k', k = k' + 1 := ⟨k - 1, by omega⟩
      simp only [spec_Times.l1]
      by_cases hjp : j < p
      · have ih := (times_loop n m p A B hA hB hn hm hp d k i).1 hi j hjp 0 m rfl (by omega) (by omega)
        rw [if_pos (by omega), mat_len]
        have e : mat n p (pst (prod m A B) i j) = mat n p (upd (pst (prod m A B) i j) i j (dot (A i) (fun k => B k j) 0)) := mat_congr fun s _ t _ => by
          unfold upd pst
          by_cases h1 : s = i
          · subst h1
            by_cases h2 : t = j
            · subst h2; simp [dot]
            · simp [h2]
          · simp [h1]
        rw [e]
        exact ih
      · obtain rfl : j = p := by omega
        have ih := (times_loop n m j A B hA hB hn hm hp d k (i + 1)).2.2 (by omega) (by omega) (by omega)
        rw [if_neg (by omega), pst_next, w64 (by omega) (by omega)]
        exact ih
    · obtain ⟨k, rfl⟩ : ∃ k', k = k' + 1 := ⟨k - 1, by omega⟩
      simp only [spec_Times.l0]
      by_cases hin : i < n
      · have ih := (times_loop n m p A B hA hB hn hm hp d k i).2.1 hin 0 (by omega) (by omega) (by omega)
        rw [if_pos (by omega), if_pos (by omega), if_pos (by rw [mat_len]; omega), rd_mat _ _ _ _ hin, rowL_len]
        exact ih
      · obtain rfl : i = n := by omega
        rw [if_neg (by omega), pst_end]
theorem times_f (n m p : Nat) (A B : Nat → Nat → Nat) (hA : ∀ i, B8 (A i)) (hB : ∀ i, B8 (B i)) (hm0 : 0 < m) (hn : n ≤ 40) (hm : m ≤ 40) (hp : p ≤ 40) : spec_Times.f 100000 (mat n m A) (mat m p B) = some (mat n p (prod m A B)) := by
  unfold spec_Times.f
  rw [cols_f, mat_colN m p B hm0, Option.bind_some, mat_len, zeros_f n p 100000 (by omega) (by omega) (by omega), Option.bind_some, pst_zero n p (prod m A B)]
  exact (times_loop n m p A B hA hB hn hm hp 90000 100000 0).2.2 (by omega) (by omega) (by omega)
end Go.Proofs.YtpjfokolbgcbhaaDoor.Ge
