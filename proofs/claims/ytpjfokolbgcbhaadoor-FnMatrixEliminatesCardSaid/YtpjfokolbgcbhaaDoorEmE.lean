import Derived.Test.YtpjfokolbgcbhaaDoorEmC
import Derived.Test.YtpjfokolbgcbhaaDoorEmD
/- The checks and the elimination of the program, walked. -/
namespace Go.Proofs.YtpjfokolbgcbhaaDoor.Ge
open Go.RowKit Go.Proofs.YtpjfokolbgcbhaaDoor Go.Proofs.YtpjfokolbgcbhaaDoor.Qm Go.Proofs.YtpjfokolbgcbhaaDoorW.PrintWords Go.Proofs.YtpjfokolbgcbhaaDoorW.PrintLast Go.Proofs.YtpjfokolbgcbhaaDoorW.PrintMore
open Go.Proofs.YtpjfokolbgcbhaaDoor.QmP
open Go.Proofs.YtpjfokolbgcbhaaDoor.Ro (CL)
open Go.Proofs.YtpjfokolbgcbhaaDoor.Pure (Rect colN rows_mat)

/-- The errors that the code tells lie where they were laid. -/
def Er (w : World) : Prop := ∀ k, 2 ≤ k → k < 6 → ∃ x, w.cell? ⟨k, 0, none⟩ = some (.iface 75 (.pointer (some x)))
theorem Er.below {w w' : World} (h : Er w) (hb : Below w.heap.size w w') : Er w' := fun k h1 h2 => by
  obtain ⟨x, hx⟩ := h k h1 h2
  exact ⟨x, pw_cell_below hb hx⟩
theorem Er.size {w : World} (h : Er w) : 6 ≤ w.heap.size := by
  obtain ⟨x, hx⟩ := h 5 (by omega) (by omega)
  exact World.block_lt_of_cell? w _ hx
def CkP (R : Prop) (e : Ending) : Prop := (R ∧ e = .returned .nilIface) ∨ (¬ R ∧ ∃ x, e = .returned (.iface 75 (.pointer (some x))))

set_option maxRecDepth 100000 in
set_option maxHeartbeats 4000000 in
theorem check_calls (w : World) (A : Option Addr) (c0 : Nat) (L : List (List Int)) (hC : CL w A L) (hE : Er w) : Calls Tryd.prog 54 #[.slice A L.length c0] w fun e w' => CkP (Rect L) e ∧ w = w' := by
  obtain ⟨x3, he3⟩ := hE 3 (by omega) (by omega)
  obtain ⟨x4, he4⟩ := hE 4 (by omega) (by omega)
  obtain ⟨x5, he5⟩ := hE 5 (by omega) (by omega)
  have HC := Aside0.mk hC
  have hlen : L.length ≤ 9223372036854775807 := hC.2.1
  clear hC hE
  by_cases h0 : L.length = 0
  · have t0 : ((L.length : Int) == 0) = true := by rw [beq_iff_eq]; omega
    have t1 : (L.length == 0) = true := by rw [beq_iff_eq]; exact h0
    have NR : Aside0 (¬ Rect L) := ⟨fun h => by
      have := h.1
      unfold colN at this
      rw [List.length_eq_zero_iff.1 h0] at this
      simp at this⟩
    clear h0
    go_enter Tryd.func54, Tryd.ntmps54
    go_wp2
    go_ret
    exact ⟨.inr ⟨NR.out, _, rfl⟩, rfl⟩
  · have t0 : ((L.length : Int) == 0) = false := by rw [beq_eq_false_iff_ne]; omega
    have t1 : (L.length == 0) = false := by rw [beq_eq_false_iff_ne]; exact h0
    have p115 : 0 ≤ (0 : Int) := (by omega)
    have q115 : 0 < (L.length : Int) := by omega
    obtain ⟨ad, A0, cA0, e115, hx0, hl0, hi0⟩ := at_L1 HC.out 0 p115 q115
    cases e115
    have qi : (0 < L.length) = True := eq_true (by omega)
    rw [show ((0 : Int)).toNat = 0 from rfl] at hx0
    rw [Addr.add_zero'] at hx0
    clear hl0 hi0
    replace p115 := eq_true p115
    replace q115 := eq_true q115
    obtain ⟨z, hz⟩ : ∃ z, z = (rd_L1 L 0).length := ⟨_, rfl⟩
    have hcol : Aside0 (colN L = z) := ⟨hz.symm⟩
    rw [← hz] at hx0
    clear hz
    by_cases h1 : z = 0
    · have t2 : ((z : Int) == 0) = true := by rw [beq_iff_eq]; omega
      have t3 : (z == 0) = true := by rw [beq_iff_eq]; exact h1
      have NR : Aside0 (¬ Rect L) := ⟨fun h => by have := h.1; rw [hcol.out] at this; omega⟩
      clear h1 h0
      go_enter Tryd.func54, Tryd.ntmps54
      go_wp2
      go_ret
      exact ⟨.inr ⟨NR.out, _, rfl⟩, rfl⟩
    · have t2 : ((z : Int) == 0) = false := by rw [beq_eq_false_iff_ne]; omega
      have t3 : (z == 0) = false := by rw [beq_eq_false_iff_ne]; exact h1
      go_enter Tryd.func54, Tryd.ntmps54
      go_wp2
      (try simp only [Act.put, List.setIfInBounds_toArray, List.set_cons_zero, List.set_cons_succ])
      go_loopg [21] L.length (fun kq v w' => ∃ i : Nat, i + kq = L.length ∧ v = .int .i64 (i : Nat) ∧ Aside0 (∀ j, j < i → (L.getD j []).length = z) ∧ w = w')
      case atStart => exact ⟨0, by omega, rfl, ⟨fun j hj => by omega⟩, rfl⟩
      case round =>
        obtain ⟨i, hi, rfl, HI, rfl⟩ := hrel
        by_cases hil : i < L.length
        · have p1 : (0 : Int) ≤ (i : Int) := by omega
          have p2 : (i : Int) < (L.length : Int) := by omega
          obtain ⟨ad2, A1, cA1, e1, hx1, _, _⟩ := at_L1 HC.out (i : Int) p1 p2
          obtain rfl : ad = ad2 := by injection e1
          rw [Int.toNat_natCast] at hx1
          obtain ⟨y, hy⟩ : ∃ y, y = (rd_L1 L (i : Int)).length := ⟨_, rfl⟩
          have hrow : Aside0 ((L.getD i []).length = y) := ⟨hy.symm⟩
          rw [← hy] at hx1
          clear hy e1
          have fi : decide (i < L.length) = true := decide_eq_true hil
          by_cases hyz : y = z
          · have t4 : ((y : Int) != (z : Int)) = false := by rw [bne_eq_false_iff_eq]; omega
            have t5 : (y != z) = false := by rw [bne_eq_false_iff_eq]; exact hyz
            have HI2 : Aside0 (∀ j, j < i + 1 → (L.getD j []).length = z) := ⟨fun j hj => by
              by_cases e : j = i
              · rw [e, hrow.out]; exact hyz
              · exact HI.out j (by omega)⟩
            clear hyz
            go_wp2
            go_roundg (L.length - (i + 1))
            case measure => omega
            case rel => exact ⟨i + 1, by omega, by go_num, HI2, rfl⟩
          · have t4 : ((y : Int) != (z : Int)) = true := by rw [bne_iff_ne]; omega
            have t5 : (y != z) = true := by rw [bne_iff_ne]; exact hyz
            have NR : Aside0 (¬ Rect L) := ⟨fun h => by
              have h2 := h.2 (L.getD i []) (by rw [List.getD_eq_getElem?_getD, List.getElem?_eq_getElem hil]; exact List.getElem_mem hil)
              rw [hrow.out, hcol.out] at h2
              exact hyz h2⟩
            clear hyz
            go_wp2
            go_ret
            exact ⟨.inr ⟨NR.out, _, rfl⟩, rfl⟩
        · have fi : decide (i < L.length) = false := decide_eq_false hil
          have fi2 : decide ((i : Int) < (L.length : Int)) = false := decide_eq_false (by omega)
          have YR : Aside0 (Rect L) := ⟨by rw [hcol.out]; omega, fun r hr => by
            obtain ⟨j, hj, rfl⟩ := List.getElem_of_mem hr
            have h2 := HI.out j (by omega)
            rw [List.getD_eq_getElem?_getD, List.getElem?_eq_getElem hj] at h2
            rw [hcol.out]
            exact h2⟩
          go_wp2
          go_ret
          exact ⟨.inl ⟨YR.out, rfl⟩, rfl⟩

theorem check_yes (w : World) (A : Option Addr) (c0 : Nat) (L : List (List Int)) (hC : CL w A L) (hE : Er w) (h : Rect L) : Calls Tryd.prog 54 #[.slice A L.length c0] w fun e w' => e = .returned .nilIface ∧ w = w' :=
  (check_calls w A c0 L hC hE).mono fun e w' ⟨hq, hw⟩ => ⟨by
    rcases hq with h1 | h1
    · exact h1.2
    · exact absurd h h1.1, hw⟩
theorem check_no (w : World) (A : Option Addr) (c0 : Nat) (L : List (List Int)) (hC : CL w A L) (hE : Er w) (h : ¬ Rect L) : Calls Tryd.prog 54 #[.slice A L.length c0] w fun e w' => (∃ x, e = .returned (.iface 75 (.pointer (some x)))) ∧ w = w' :=
  (check_calls w A c0 L hC hE).mono fun e w' ⟨hq, hw⟩ => ⟨by
    rcases hq with h1 | h1
    · exact absurd h1.1 h
    · exact h1.2, hw⟩
set_option maxRecDepth 100000 in
theorem door_calls (w : World) (A : Option Addr) (c0 : Nat) (L : List (List Int)) (hC : CL w A L) (hE : Er w) : Calls Tryd.prog 46 #[.slice A L.length c0] w fun e w' => CkP (Rect L) e ∧ w = w' := by
  have CK := Aside0.mk (check_calls w A c0 L hC hE)
  clear hC hE
  by_cases hR : Rect L
  · have HR := Aside0.mk hR
    clear hR
    go_enter Tryd.func46, Tryd.ntmps46
    go_wp2_with (first | (go_at_call 54; (with_reducible refine CK.out.mono ?_); rintro e w1 ⟨hq, rfl⟩; obtain rfl : e = .returned .nilIface := (hq.elim (fun h => h.2) (fun h => absurd HR.out h.1)); clear hq))
    go_ret
    exact ⟨.inl ⟨HR.out, rfl⟩, rfl⟩
  · have HR := Aside0.mk hR
    clear hR
    go_enter Tryd.func46, Tryd.ntmps46
    go_wp2_with (first | (go_at_call 54; (with_reducible refine CK.out.mono ?_); rintro e w1 ⟨hq, rfl⟩; obtain ⟨x, rfl⟩ : ∃ x, e = .returned (.iface 75 (.pointer (some x))) := (hq.elim (fun h => absurd h.1 HR.out) (fun h => h.2)); clear hq))
    go_ret
    exact ⟨.inr ⟨HR.out, _, rfl⟩, rfl⟩
set_option maxRecDepth 100000 in
theorem isMatrix_calls (w : World) (A : Option Addr) (c0 : Nat) (L : List (List Int)) (hC : CL w A L) (hE : Er w) : Calls Tryd.prog 34 #[.slice A L.length c0] w fun e w' => ∃ b, e = .returned (.bool b) ∧ (b = true ↔ Rect L) ∧ w = w' := by
  have CK := Aside0.mk (door_calls w A c0 L hC hE)
  clear hC hE
  by_cases hR : Rect L
  · have HR := Aside0.mk hR
    clear hR
    go_enter Tryd.func34, Tryd.ntmps34
    go_wp2_with (first | (go_at_call 46; (with_reducible refine CK.out.mono ?_); rintro e w1 ⟨hq, rfl⟩; obtain rfl : e = .returned .nilIface := (hq.elim (fun h => h.2) (fun h => absurd HR.out h.1)); clear hq))
    go_ret
    exact ⟨true, rfl, ⟨fun _ => HR.out, fun _ => rfl⟩, rfl⟩
  · have HR := Aside0.mk hR
    clear hR
    go_enter Tryd.func34, Tryd.ntmps34
    go_wp2_with (first | (go_at_call 46; (with_reducible refine CK.out.mono ?_); rintro e w1 ⟨hq, rfl⟩; obtain ⟨x, rfl⟩ : ∃ x, e = .returned (.iface 75 (.pointer (some x))) := (hq.elim (fun h => absurd h.1 HR.out) (fun h => h.2)); clear hq))
    go_ret
    exact ⟨false, rfl, ⟨fun h => by simp at h, fun h => absurd h HR.out⟩, rfl⟩
end Go.Proofs.YtpjfokolbgcbhaaDoor.Ge

/- The program's elimination, by its doors, walked. -/
namespace Go.Proofs.YtpjfokolbgcbhaaDoor.Ge
open Go.RowKit Go.Proofs.YtpjfokolbgcbhaaDoor Go.Proofs.YtpjfokolbgcbhaaDoor.Qm Go.Proofs.YtpjfokolbgcbhaaDoorW.PrintWords Go.Proofs.YtpjfokolbgcbhaaDoorW.PrintLast Go.Proofs.YtpjfokolbgcbhaaDoorW.PrintMore
open Go.Proofs.YtpjfokolbgcbhaaDoor.QmP
open Go.Proofs.YtpjfokolbgcbhaaDoor.Ro (CL)
open Go.Proofs.YtpjfokolbgcbhaaDoor.Pure (Rect colN rows_mat mat_rect)

theorem rows_calls (n m : Nat) (M : Nat → Nat → Nat) (hn : 0 < n) (hn2 : n ≤ 100) (hm0 : 0 < m) (hm : m ≤ 100) (w : World) (A : Option Addr) (c0 : Nat) (hC : CL w A (mat n m M)) (hc0 : n ≤ c0) :
    Calls Tryd.prog 31 #[.slice A n c0] w fun e w' => ∃ g b c cp, e = .returned (.slice (some ⟨g, 0, none⟩) n cp) ∧ n ≤ cp ∧ Mt w' w.heap.size g b c M n m ∧ Below w.heap.size w w' := by
  have h := impl_rows.calls 200 A c0 (mat n m M) (mat n m M) w hC (by rw [mat_len]; exact hc0) (rows_mat n m M (by omega) (by omega) 200 (by omega))
  rw [mat_len] at h
  refine h.mono fun e w' ⟨v, he, hS, hb⟩ => ?_
  obtain ⟨g, b, c, cp, hv, hcp, hmt⟩ := Mt.of_S hn hm0 hS
  rw [hv] at he
  exact ⟨g, b, c, cp, he, hcp, hmt, hb⟩
/-- What the elimination comes to, by whether the left square has an inverse. -/
theorem gauss_yes {w : World} {base g : Nat} {M0 : Nat → Nat → Nat} {n m : Nat} {er : Value} {e : Ending} {w' : World} (hI : Inj M0 n m) (h : GPost w base g M0 n m er e w') : e = .returned .nilIface ∧ ∃ b c M, St w w' base g M0 n m (fun M => ∀ i, i < n → ∀ j, j < n → M i j = if i = j then 1 else 0) b c M := by
  rcases h with ⟨b, c, M, h1, h2⟩ | ⟨_, h2, _⟩
  · exact ⟨h1, b, c, M, h2⟩
  · exact absurd hI h2
theorem gauss_no {w : World} {base g : Nat} {M0 : Nat → Nat → Nat} {n m : Nat} {er : Value} {e : Ending} {w' : World} (hnm : n ≤ m) (hI : ¬ Inj M0 n m) (h : GPost w base g M0 n m er e w') : e = .returned er ∧ Below base w w' := by
  rcases h with ⟨b, c, M, h1, h2⟩ | ⟨h1, _, h3⟩
  · exact absurd ((Inj.unit hnm h2.p).of h2.eq.symm) hI
  · exact ⟨h1, h3⟩
set_option maxRecDepth 100000 in
theorem doorEl_yes (w : World) (base g : Nat) (b0 c0 : Nat → Nat) (M0 : Nat → Nat → Nat) (n m cp : Nat) (hn : 0 < n) (hn2 : n ≤ 40) (hnm : n ≤ m) (hm : m ≤ 40) (hbase : 6 ≤ base) (h : Mt w base g b0 c0 M0 n m) (h8 : ∀ i, B8 (M0 i)) (hG : Glob w) (hE : Er w) (hI : Inj M0 n m) :
    Calls Tryd.prog 37 #[.slice (some ⟨g, 0, none⟩) n cp] w fun e w' => e = .returned .nilIface ∧ ∃ b c M, St w w' base g M0 n m (fun M => ∀ i, i < n → ∀ j, j < n → M i j = if i = j then 1 else 0) b c M := by
  obtain ⟨x, hx⟩ := hE 2 (by omega) (by omega)
  have GC := Aside0.mk ((gauss_calls w base g b0 c0 M0 n m cp x hn hn2 hnm hm hbase h h8 hG hx).mono fun e w' hp => gauss_yes hI hp)
  clear h h8 hG hE hI hx
  go_enter Tryd.func37, Tryd.ntmps37
  go_wp2_with (first | (go_at_call 49; (with_reducible refine GC.out.mono ?_); rintro e w1 ⟨rfl, hq⟩; have HQ := Aside0.mk hq; clear hq))
  go_ret
  exact ⟨rfl, HQ.out⟩
set_option maxRecDepth 100000 in
theorem doorEl_no (w : World) (base g : Nat) (b0 c0 : Nat → Nat) (M0 : Nat → Nat → Nat) (n m cp : Nat) (hn : 0 < n) (hn2 : n ≤ 40) (hnm : n ≤ m) (hm : m ≤ 40) (hbase : 6 ≤ base) (h : Mt w base g b0 c0 M0 n m) (h8 : ∀ i, B8 (M0 i)) (hG : Glob w) (hE : Er w) (hI : ¬ Inj M0 n m) :
    Calls Tryd.prog 37 #[.slice (some ⟨g, 0, none⟩) n cp] w fun e w' => (∃ x, e = .returned (.iface 75 (.pointer (some x)))) ∧ Below base w w' := by
  obtain ⟨x, hx⟩ := hE 2 (by omega) (by omega)
  have GC := Aside0.mk ((gauss_calls w base g b0 c0 M0 n m cp x hn hn2 hnm hm hbase h h8 hG hx).mono fun e w' hp => gauss_no hnm hI hp)
  clear h h8 hG hE hI hx
  go_enter Tryd.func37, Tryd.ntmps37
  go_wp2_with (first | (go_at_call 49; (with_reducible refine GC.out.mono ?_); rintro e w1 ⟨rfl, hq⟩; have HQ := Aside0.mk hq; clear hq))
  go_ret
  exact ⟨⟨x, rfl⟩, HQ.out⟩

/-- Told. -/
abbrev Told : Ending := .returned (.tuple #[.slice none 0 0, .bool false])
set_option maxRecDepth 100000 in
set_option maxHeartbeats 2000000 in
theorem el_odd (w : World) (A : Option Addr) (c0 : Nat) (L : List (List Int)) (hC : CL w A L) (hE : Er w) (h : ¬ Rect L) : Calls Tryd.prog 23 #[.slice A L.length c0] w fun e w' => e = Told ∧ w = w' := by
  have CK : Aside0 (Calls Tryd.prog 34 #[.slice A L.length c0] w fun e w' => e = .returned (.bool false) ∧ w = w') := ⟨(isMatrix_calls w A c0 L hC hE).mono fun e w' ⟨b, he, hb, hw⟩ => ⟨by
    cases b with
    | false => exact he
    | true => exact absurd (hb.1 rfl) h, hw⟩⟩
  clear hC hE h
  go_enter Tryd.func23, Tryd.ntmps23
  go_wp2_with (first | (go_at_call 34; (with_reducible refine CK.out.mono ?_); rintro e w1 ⟨rfl, rfl⟩))
  go_ret2
  exact ⟨rfl, rfl⟩
theorem isM_mat (n m : Nat) (M0 : Nat → Nat → Nat) (hn : 0 < n) (hm0 : 0 < m) (w : World) (A : Option Addr) (c0 : Nat) (hC : CL w A (mat n m M0)) (hE : Er w) : Calls Tryd.prog 34 #[.slice A n c0] w fun e w' => e = .returned (.bool true) ∧ w = w' := by
  have h := isMatrix_calls w A c0 (mat n m M0) hC hE
  rw [mat_len] at h
  refine h.mono fun e w' ⟨b, he, hb, hw⟩ => ⟨?_, hw⟩
  rw [hb.2 (mat_rect n m M0 hn hm0)] at he
  exact he
set_option maxRecDepth 100000 in
set_option maxHeartbeats 2000000 in
theorem el_thin (n m : Nat) (M0 : Nat → Nat → Nat) (hn : 0 < n) (hn2 : n ≤ 100) (hm0 : 0 < m) (hmn : m < n) (w : World) (A : Option Addr) (c0 : Nat) (hC : CL w A (mat n m M0)) (hE : Er w) : Calls Tryd.prog 23 #[.slice A n c0] w fun e w' => e = Told ∧ w = w' := by
  have CK := Aside0.mk (isM_mat n m M0 hn hm0 w A c0 hC hE)
  have hl : (mat n m M0).length = n := mat_len n m M0
  obtain ⟨ad, A0, cA0, e115, hx0, hl0, hi0⟩ := at_L1 hC 0 (by omega) (by omega)
  cases e115
  rw [show ((0 : Int)).toNat = 0 from rfl, show (0 : Int) = ((0 : Nat) : Int) from rfl, rd_mat n m M0 0 hn, rowL_len] at hx0
  rw [Addr.add_zero'] at hx0
  clear hl0 hi0 hC hE
  have q1 : (0 : Int) < (n : Int) := by omega
  have q2 : decide (m < n) = true := decide_eq_true hmn
  have q3 : decide ((m : Int) < (n : Int)) = true := decide_eq_true (by omega)
  go_enter Tryd.func23, Tryd.ntmps23
  go_wp2_with (first | (go_at_call 34; (with_reducible refine CK.out.mono ?_); rintro e w1 ⟨rfl, rfl⟩))
  go_ret2
  exact ⟨rfl, rfl⟩
set_option maxRecDepth 100000 in
set_option maxHeartbeats 2000000 in
theorem el_no (n m : Nat) (M0 : Nat → Nat → Nat) (hn : 0 < n) (hn2 : n ≤ 40) (hnm : n ≤ m) (hm : m ≤ 40) (h8 : ∀ i, B8 (M0 i)) (w : World) (A : Option Addr) (c0 : Nat) (hc0 : n ≤ c0) (hC : CL w A (mat n m M0)) (hE : Er w) (hG : Glob w) (hI : ¬ Inj M0 n m) : Calls Tryd.prog 23 #[.slice A n c0] w fun e w' => e = Told ∧ Below w.heap.size w w' := by
  have CK := Aside0.mk (isM_mat n m M0 hn (by omega) w A c0 hC hE)
  have RW := Aside0.mk (rows_calls n m M0 hn (by omega) (by omega) (by omega) w A c0 hC hc0)
  have H8 := Aside0.mk h8
  have HE := Aside0.mk hE
  have HG := Aside0.mk hG
  have HI := Aside0.mk hI
  have hl : (mat n m M0).length = n := mat_len n m M0
  obtain ⟨ad, A0, cA0, e115, hx0, hl0, hi0⟩ := at_L1 hC 0 (by omega) (by omega)
  cases e115
  rw [show ((0 : Int)).toNat = 0 from rfl, show (0 : Int) = ((0 : Nat) : Int) from rfl, rd_mat n m M0 0 hn, rowL_len] at hx0
  rw [Addr.add_zero'] at hx0
  clear hl0 hi0 hC hE h8 hG hI
  have q1 : (0 : Int) < (n : Int) := by omega
  have q2 : decide (m < n) = false := decide_eq_false (by omega)
  have q3 : decide ((m : Int) < (n : Int)) = false := decide_eq_false (by omega)
  go_enter Tryd.func23, Tryd.ntmps23
  go_wp2_with (first | (go_at_call 34; (with_reducible refine CK.out.mono ?_); rintro e w1 ⟨rfl, rfl⟩) | (go_at_call 31; (with_reducible refine RW.out.mono ?_); rintro e w1 ⟨g, b, c, cp, rfl, hcp, hmt, hb⟩; have DE := Aside0.mk (doorEl_no w1 w.heap.size g b c M0 n m cp hn hn2 hnm hm HE.out.size hmt H8.out (Glob.below HG.out hb) (HE.out.below hb) HI.out); have HB := Aside0.mk hb; clear hb hmt) | (go_at_call 37; (with_reducible refine DE.out.mono ?_); rintro e w2 ⟨⟨x, rfl⟩, hb2⟩; have HB2 := Aside0.mk (HB.out.trans hb2); clear hb2))
  go_ret2
  exact ⟨rfl, HB2.out⟩
/-- The elimination went through. -/
def ElP (w : World) (M0 : Nat → Nat → Nat) (n m : Nat) (e : Ending) (w' : World) : Prop :=
  ∃ g cp b c R, e = .returned (.tuple #[.slice (some ⟨g, 0, none⟩) n cp, .bool true]) ∧ n ≤ cp ∧ Mt w' w.heap.size g b c R n m ∧ NEq n m M0 R ∧ (∀ i, B8 (R i)) ∧ (∀ i, i < n → ∀ j, j < n → R i j = if i = j then 1 else 0) ∧ Below w.heap.size w w'
set_option maxRecDepth 100000 in
set_option maxHeartbeats 2000000 in
theorem el_yes (n m : Nat) (M0 : Nat → Nat → Nat) (hn : 0 < n) (hn2 : n ≤ 40) (hnm : n ≤ m) (hm : m ≤ 40) (h8 : ∀ i, B8 (M0 i)) (w : World) (A : Option Addr) (c0 : Nat) (hc0 : n ≤ c0) (hC : CL w A (mat n m M0)) (hE : Er w) (hG : Glob w) (hI : Inj M0 n m) : Calls Tryd.prog 23 #[.slice A n c0] w (ElP w M0 n m) := by
  have CK := Aside0.mk (isM_mat n m M0 hn (by omega) w A c0 hC hE)
  have RW := Aside0.mk (rows_calls n m M0 hn (by omega) (by omega) (by omega) w A c0 hC hc0)
  have H8 := Aside0.mk h8
  have HE := Aside0.mk hE
  have HG := Aside0.mk hG
  have HI := Aside0.mk hI
  have hl : (mat n m M0).length = n := mat_len n m M0
  obtain ⟨ad, A0, cA0, e115, hx0, hl0, hi0⟩ := at_L1 hC 0 (by omega) (by omega)
  cases e115
  rw [show ((0 : Int)).toNat = 0 from rfl, show (0 : Int) = ((0 : Nat) : Int) from rfl, rd_mat n m M0 0 hn, rowL_len] at hx0
  rw [Addr.add_zero'] at hx0
  clear hl0 hi0 hC hE h8 hG hI
  have q1 : (0 : Int) < (n : Int) := by omega
  have q2 : decide (m < n) = false := decide_eq_false (by omega)
  have q3 : decide ((m : Int) < (n : Int)) = false := decide_eq_false (by omega)
  go_enter Tryd.func23, Tryd.ntmps23
  go_wp2_with (first | (go_at_call 34; (with_reducible refine CK.out.mono ?_); rintro e w1 ⟨rfl, rfl⟩) | (go_at_call 31; (with_reducible refine RW.out.mono ?_); rintro e w1 ⟨g, b, c, cp, rfl, hcp, hmt, hb⟩; have DE := Aside0.mk (doorEl_yes w1 w.heap.size g b c M0 n m cp hn hn2 hnm hm HE.out.size hmt H8.out (Glob.below HG.out hb) (HE.out.below hb) HI.out); have HB := Aside0.mk hb; clear hb hmt) | (go_at_call 37; (with_reducible refine DE.out.mono ?_); rintro e w2 ⟨rfl, b2, c2, R, hst⟩; have HS := Aside0.mk hst; clear hst))
  go_ret2
  unfold ElP
  exact ⟨g, cp, b2, c2, R, rfl, hcp, HS.out.mt, HS.out.eq, HS.out.b8, HS.out.p, HB.out.trans HS.out.bel⟩
end Go.Proofs.YtpjfokolbgcbhaaDoor.Ge

/- The specification's inverse, walked. -/
namespace Go.Proofs.YtpjfokolbgcbhaaDoor.Ge
open Go.RowKit Go.Proofs.YtpjfokolbgcbhaaDoor Go.Proofs.YtpjfokolbgcbhaaDoor.Qm Go.Proofs.YtpjfokolbgcbhaaDoorW.PrintWords Go.Proofs.YtpjfokolbgcbhaaDoorW.PrintLast Go.Proofs.YtpjfokolbgcbhaaDoorW.PrintMore
open Go.Proofs.YtpjfokolbgcbhaaDoor.QmP
open Go.Proofs.YtpjfokolbgcbhaaDoor.Ro (CL)
open Go.Proofs.YtpjfokolbgcbhaaDoor.Pure (Rect colN uni)

/-- Rows of one's own are read. -/
def RdP (w : World) (n m : Nat) (M : Nat → Nat → Nat) (e : Ending) (w' : World) : Prop := ∃ A c, e = .returned (.slice A n c) ∧ n ≤ c ∧ CL w' A (mat n m M) ∧ Below w.heap.size w w'
theorem rdP_of {w w' : World} {n m : Nat} {M : Nat → Nat → Nat} {ok : Nat → Prop} {v : Value} {e : Ending} (he : e = .returned v) (hS : Kd.S (Kd.slice 5 (Kd.int .u8)) 24 w' w.heap.size ok v (mat n m M)) (hb : Below w.heap.size w w') : RdP w n m M e w' := by
  have hR := Kd.S_R hS
  obtain ⟨A, c, hv⟩ := Kd.R_slice hR
  rw [hv] at hR he
  obtain ⟨_, h2, h3⟩ := Kd.R_reads' hR
  rw [mat_len] at he h2
  exact ⟨A, c, he, h2, h3, hb⟩
theorem unit_calls (n : Nat) (hn : n ≤ 100) (w : World) : Calls Tryd.prog 40 #[.int .i64 (n : Nat)] w (RdP w n n uni) :=
  (spec_Unit.calls 200 n (mat n n uni) w (unit_f n 200 hn (by omega))).mono fun e w' ⟨_, he, hS, hb⟩ => rdP_of he hS hb
theorem beside_calls (n : Nat) (M : Nat → Nat → Nat) (hn : n ≤ 100) (w : World) (A : Option Addr) (c0 : Nat) (A1 : Option Addr) (c1 : Nat) (hC : CL w A (mat n n M)) (h1 : CL w A1 (mat n n uni)) (hc0 : n ≤ c0) (hc1 : n ≤ c1) :
    Calls Tryd.prog 39 #[.slice A n c0, .slice A1 n c1] w (RdP w n (n + n) (besideU M n)) := by
  have h := spec_Beside.calls 200 A c0 (mat n n M) A1 c1 (mat n n uni) (mat n (n + n) (besideU M n)) w hC (by rw [mat_len]; exact hc0) h1 (by rw [mat_len]; exact hc1) (beside_f n M hn)
  rw [mat_len, mat_len] at h
  exact h.mono fun e w' ⟨_, he, hS, hb⟩ => rdP_of he hS hb
theorem block_calls (n m p q : Nat) (M : Nat → Nat → Nat) (hn : n ≤ 100) (hm : m ≤ 100) (hq : p + q ≤ m) (a2 a4 : Int) (h2 : a2 = (p : Int)) (h4 : a4 = ((p + q : Nat) : Int)) (w : World) (A : Option Addr) (c0 : Nat) (hC : CL w A (mat n m M)) (hc0 : n ≤ c0) :
    Calls Tryd.prog 25 #[.slice A n c0, .int .i64 0, .int .i64 a2, .int .i64 (n : Nat), .int .i64 a4] w (RdP w n q (fun i j => M i (p + j))) := by
  have h := spec_Block.calls 200 A c0 (mat n m M) 0 (p : Int) (n : Int) ((p + q : Nat) : Int) (mat n q (fun i j => M i (p + j))) w hC (by rw [mat_len]; exact hc0) (block_f n m p q M hn hm hq)
  rw [mat_len] at h
  rw [h2, h4]
  exact h.mono fun e w' ⟨_, he, hS, hb⟩ => rdP_of he hS hb
theorem equal_calls (n m : Nat) (M N : Nat → Nat → Nat) (b : Bool) (h : spec_EqualMatrices.f 11000 (mat n m M) (mat n m N) = some b) (w : World) (A : Option Addr) (c0 : Nat) (A1 : Option Addr) (c1 : Nat) (hC : CL w A (mat n m M)) (h1 : CL w A1 (mat n m N)) (hc0 : n ≤ c0) (hc1 : n ≤ c1) :
    Calls Tryd.prog 22 #[.slice A n c0, .slice A1 n c1] w fun e w' => e = .returned (.bool b) ∧ Drawn0 w w' := by
  have h := spec_EqualMatrices.calls 11000 A c0 (mat n m M) A1 c1 (mat n m N) b w hC (by rw [mat_len]; exact hc0) h1 (by rw [mat_len]; exact hc1) h
  rw [mat_len, mat_len] at h
  exact h
/-- The inverse was found. -/
def InP (w : World) (n : Nat) (M0 : Nat → Nat → Nat) (e : Ending) (w' : World) : Prop :=
  ∃ A c R, e = .returned (.tuple #[.slice A n c, .bool true]) ∧ n ≤ c ∧ CL w' A (mat n n (fun i j => R i (n + j))) ∧ (∀ i, B8 (R i)) ∧ NEq n (n + n) (besideU M0 n) R ∧ (∀ i, i < n → ∀ j, j < n → R i j = if i = j then 1 else 0) ∧ Below w.heap.size w w'
theorem besideU_b8 {M : Nat → Nat → Nat} (h : ∀ i, B8 (M i)) (n : Nat) : ∀ i, B8 (besideU M n i) := fun i j => by
  unfold besideU
  split
  · exact h i j
  · split <;> omega
theorem inj_beside {M0 : Nat → Nat → Nat} {n : Nat} : Inj M0 n n ↔ Inj (besideU M0 n) n (n + n) :=
  ⟨fun h => h.wide (Nat.le_refl _) (by omega) fun i _ j hj => by unfold besideU; rw [if_pos hj], fun h => h.wide (by omega) (Nat.le_refl _) fun i _ j hj => by unfold besideU; rw [if_pos hj]⟩

set_option maxRecDepth 100000 in
set_option maxHeartbeats 4000000 in
theorem inverted_calls (w : World) (A : Option Addr) (c0 n : Nat) (M0 : Nat → Nat → Nat) (hn : 0 < n) (hn2 : n ≤ 40) (hbase : 6 ≤ w.heap.size) (hC : CL w A (mat n n M0)) (hc0 : n ≤ c0) (h8 : ∀ i, B8 (M0 i)) (hG : Glob w) :
    Calls Tryd.prog 24 #[.slice A n c0] w fun e w' => (Inj M0 n n ∧ InP w n M0 e w') ∨ (¬ Inj M0 n n ∧ e = Told ∧ Below w.heap.size w w') := by
  have HC := Aside0.mk hC
  have H8 := Aside0.mk h8
  have HG := Aside0.mk hG
  clear hC h8 hG
  go_enter Tryd.func24, Tryd.ntmps24
  go_upto_region 3 with (first | (go_at_call 40; (with_reducible refine (unit_calls n (by omega) _).mono ?_); rintro e w1 ⟨A1, c1, rfl, hc1, hC1, hb1⟩; have HC1 := Aside0.mk hC1; have HB1 := Aside0.mk hb1; clear hC1 hb1) | (go_at_call 39; (with_reducible refine (beside_calls n M0 (by omega) _ A c0 A1 c1 (Kd.C_below HC.out HB1.out) HC1.out hc0 hc1).mono ?_); rintro e w2 ⟨A2, c2, rfl, hc2, hC2, hb2⟩; have HB2 := Aside0.mk (below_step HB1.out hb2); have RD := Aside0.mk (reduced_calls w2 A2 c2 n (n + n) (besideU M0 n) hn hn2 (by omega) (by omega) (Nat.le_trans hbase HB2.out.size) hC2 hc2 (besideU_b8 H8.out n) (Glob.below HG.out HB2.out)); clear hC2 hb2 HC1 HB1) | (go_at_call 38; (with_reducible refine RD.out.mono ?_); rintro e w3 ⟨g, cp, rk, b, c, R, rfl, hcp, hst⟩; have HS := Aside0.mk hst; clear hst RD))
  have HB3 := Aside0.mk (below_step HB2.out HS.out.bel)
  have HL := Aside0.mk (HS.out.mt.reads (by omega) (by omega))
  obtain ⟨bb, hbb, hiff⟩ := eq_f n n (fun i j => R i (0 + j)) uni (by omega) (by omega)
  have HBB := Aside0.mk hbb
  have HIF : Aside0 (bb = true ↔ Inj M0 n n) := ⟨hiff.trans ⟨fun h => inj_beside.2 ((Inj.unit (by omega) fun i hi j hj => by have := h i hi j hj; rw [Nat.zero_add] at this; exact this).of HS.out.eq.symm), fun h i hi j hj => by rw [Nat.zero_add]; exact HS.out.p (inj_beside.1 h) i hi j hj⟩⟩
  have HUN : Aside0 (bb = true → ∀ i, i < n → ∀ j, j < n → R i j = if i = j then 1 else 0) := ⟨fun h i hi j hj => by have := hiff.1 h i hi j hj; rw [Nat.zero_add] at this; exact this⟩
  clear hbb hiff
  cases bb with
  | false =>
    go_wp2_with (first | (go_at_call 25; (with_reducible refine (block_calls n (n + n) 0 n R (by omega) (by omega) (by omega) _ _ (by simp) (by simp) _ _ cp HL.out hcp).mono ?_); rintro e w4 ⟨A4, c4, rfl, hc4, hC4, hb4⟩; have HC4 := Aside0.mk hC4; have HB4 := Aside0.mk hb4; clear hC4 hb4) | (go_at_call 40; (with_reducible refine (unit_calls n (by omega) _).mono ?_); rintro e w5 ⟨A5, c5, rfl, hc5, hC5, hb5⟩; have HC5 := Aside0.mk hC5; have HC4' := Aside0.mk (Kd.C_below HC4.out hb5); have HB5 := Aside0.mk (below_step HB3.out (below_step HB4.out hb5)); clear hC5 hb5) | (go_at_call 22; (with_reducible refine (equal_calls n n (fun i j => R i (0 + j)) uni false HBB.out _ A4 c4 A5 c5 HC4'.out HC5.out hc4 hc5).mono ?_); rintro e w1 ⟨rfl, ⟨⟨qq, rfl⟩⟩⟩))
    go_ret2
    exact .inr ⟨fun h => by have := HIF.out.2 h; simp at this, rfl, pw_below_drewN HB5.out _⟩
  | true =>
    go_wp2_with (first | (go_at_call 25; (with_reducible refine (block_calls n (n + n) 0 n R (by omega) (by omega) (by omega) _ _ (by simp) (by simp) _ _ cp HL.out hcp).mono ?_); rintro e w4 ⟨A4, c4, rfl, hc4, hC4, hb4⟩; have HC4 := Aside0.mk hC4; have HB4 := Aside0.mk hb4; clear hC4 hb4) | (go_at_call 40; (with_reducible refine (unit_calls n (by omega) _).mono ?_); rintro e w5 ⟨A5, c5, rfl, hc5, hC5, hb5⟩; have HC5 := Aside0.mk hC5; have HC4' := Aside0.mk (Kd.C_below HC4.out hb5); have HB5 := Aside0.mk (below_step HB3.out (below_step HB4.out hb5)); have HL2 := Aside0.mk (Kd.C_below HL.out (below_step HB4.out hb5)); clear hC5 hb5) | (go_at_call 22; (with_reducible refine (equal_calls n n (fun i j => R i (0 + j)) uni true HBB.out _ A4 c4 A5 c5 HC4'.out HC5.out hc4 hc5).mono ?_); rintro e w1 ⟨rfl, ⟨⟨qq, rfl⟩⟩⟩; have HL3 := Aside0.mk (Kd.C_below HL2.out (pw_below_drewN (Below.refl _ _) qq)); clear HL) | (go_at_call 25; (with_reducible refine (block_calls n (n + n) n n R (by omega) (by omega) (by omega) _ _ (by simp) (by first | rfl | (simp; done) | (simp; omega) | go_num) _ _ cp HL3.out hcp).mono ?_); rintro e w6 ⟨A6, c6, rfl, hc6, hC6, hb6⟩; have HC6 := Aside0.mk hC6; have HB6 := Aside0.mk (below_step (pw_below_drewN HB5.out qq) hb6); clear hC6 hb6))
    go_ret2
    exact .inl ⟨HIF.out.1 trivial, A6, c6, R, rfl, hc6, HC6.out, HS.out.b8, HS.out.eq, HUN.out trivial, HB6.out⟩
end Go.Proofs.YtpjfokolbgcbhaaDoor.Ge
