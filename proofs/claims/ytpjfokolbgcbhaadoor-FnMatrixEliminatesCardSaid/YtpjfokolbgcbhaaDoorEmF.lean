import Derived.Test.YtpjfokolbgcbhaaDoorEmE
import Derived.Test.YtpjfokolbgcbhaaDoorLaid
import Derived.LaidLaws
/- The law that the elimination answers, walked. -/
namespace Go.Proofs.YtpjfokolbgcbhaaDoor.Ge
open Go.RowKit Go.Proofs.YtpjfokolbgcbhaaDoor Go.Proofs.YtpjfokolbgcbhaaDoor.Qm Go.Proofs.YtpjfokolbgcbhaaDoorW.PrintWords Go.Proofs.YtpjfokolbgcbhaaDoorW.PrintLast Go.Proofs.YtpjfokolbgcbhaaDoorW.PrintMore
open Go.Proofs.YtpjfokolbgcbhaaDoor.QmP
open Go.Proofs.YtpjfokolbgcbhaaDoor.Ro (CL)
open Go.Proofs.YtpjfokolbgcbhaaDoor.Pure (Rect colN uni prod Small Bytes rect_mat rect_f zz_f moderate_f mat_rect equal_of)

def laws_moderate1.f (k : Nat) (l0 : List (List Int)) : Option Bool := laws_moderate.f k [l0]
theorem laws_moderate1.mono : ∀ l0 k, LeO (laws_moderate1.f k l0) (laws_moderate1.f (k + 1) l0) := fun _ k => laws_moderate.mono _ k
theorem laws_moderate1.calls (k : Nat) (A0 : Option Addr) (c0 : Nat) (l0 : List (List Int)) (r : Bool) (w : World) (hr0 : Kd.C (Kd.slice 5 (Kd.int .u8)) w A0 l0.length l0) (hc0 : l0.length ≤ c0) (h : laws_moderate1.f k l0 = some r) :
    Calls Tryd.prog 17 #[.slice (some ⟨w.heap.size, 0, none⟩) 1 1] (w.alloc (.cells #[.slice A0 l0.length c0] 30)) fun e w' => e = .returned (.bool r) ∧ Below w.heap.size w w' := by
  have hb := below_alloc (Below.refl w.heap.size w) (.cells #[.slice A0 l0.length c0] 30)
  have hk0 := Kd.C_below hr0 hb
  have hn := heap_alloc_new w (.cells #[.slice A0 l0.length c0] 30)
  generalize w.alloc (.cells #[.slice A0 l0.length c0] 30) = W at hb hk0 hn ⊢
  have hC : Kd.C (Kd.slice 24 (Kd.slice 5 (Kd.int .u8))) W (some ⟨w.heap.size, 0, none⟩) 1 [l0] := by
    refine ⟨rfl, by omega, fun _ => ⟨_, rfl, fun j q hj => ?_⟩⟩
    have cell : ∀ (j : Nat) (v : Value), (#[.slice A0 l0.length c0] : Array Value)[j]? = some v → ∀ i u, [v][i]? = some u → W.cell? ((⟨w.heap.size, 0, none⟩ : Addr).add (j * 1 + i)) = some u := fun j v hv i u hu => by
      rcases i with _ | i
      · obtain rfl := Option.some.inj hu
        rw [add_plain, Nat.mul_one, Nat.add_zero]
        exact (blk_cell hn j).trans hv
      · simp at hu
    match j, hj with
    | 0, hj =>
      obtain rfl := Option.some.inj hj
      exact ⟨[.slice A0 l0.length c0], rfl, ⟨A0, c0, rfl, hc0, hk0⟩, cell 0 _ rfl⟩
    | j + 1, hj => simp at hj
  exact (laws_moderate.calls k _ 1 [l0] r W hC (Nat.le_refl _) h).mono fun e w' ⟨he, hd⟩ => ⟨he, below_then hb hb.size hd.below⟩

theorem times_calls (n m p : Nat) (M N : Nat → Nat → Nat) (hM : ∀ i, B8 (M i)) (hN : ∀ i, B8 (N i)) (hm0 : 0 < m) (hn : n ≤ 40) (hm : m ≤ 40) (hp : p ≤ 40) (w : World) (A : Option Addr) (c0 : Nat) (A1 : Option Addr) (c1 : Nat) (hC : CL w A (mat n m M)) (h1 : CL w A1 (mat m p N)) (hc0 : n ≤ c0) (hc1 : m ≤ c1) :
    Calls Tryd.prog 26 #[.slice A n c0, .slice A1 m c1] w (RdP w n p (prod m M N)) := by
  have h := spec_Times.calls 100000 A c0 (mat n m M) A1 c1 (mat m p N) (mat n p (prod m M N)) w hC (by rw [mat_len]; exact hc0) h1 (by rw [mat_len]; exact hc1) (times_f n m p M N hM hN hm0 hn hm hp)
  rw [mat_len, mat_len] at h
  exact h.mono fun e w' ⟨_, he, hS, hb⟩ => rdP_of he hS hb
abbrev Yes (w : World) : Ending → World → Prop := fun e w' => e = .returned (.bool true) ∧ Below w.heap.size w w'
theorem inv_yes (w : World) (A : Option Addr) (c0 n : Nat) (M0 : Nat → Nat → Nat) (hn : 0 < n) (hn2 : n ≤ 40) (hbase : 6 ≤ w.heap.size) (hC : CL w A (mat n n M0)) (hc0 : n ≤ c0) (h8 : ∀ i, B8 (M0 i)) (hG : Glob w) (hI : Inj M0 n n) : Calls Tryd.prog 24 #[.slice A n c0] w (InP w n M0) :=
  (inverted_calls w A c0 n M0 hn hn2 hbase hC hc0 h8 hG).mono fun _ _ h => h.elim (fun h => h.2) (fun h => absurd hI h.1)
theorem inv_no (w : World) (A : Option Addr) (c0 n : Nat) (M0 : Nat → Nat → Nat) (hn : 0 < n) (hn2 : n ≤ 40) (hbase : 6 ≤ w.heap.size) (hC : CL w A (mat n n M0)) (hc0 : n ≤ c0) (h8 : ∀ i, B8 (M0 i)) (hG : Glob w) (hI : ¬ Inj M0 n n) : Calls Tryd.prog 24 #[.slice A n c0] w fun e w' => e = Told ∧ Below w.heap.size w w' :=
  (inverted_calls w A c0 n M0 hn hn2 hbase hC hc0 h8 hG).mono fun _ _ h => h.elim (fun h => absurd h.1 hI) (fun h => h.2)
theorem block0_calls (n m : Nat) (M : Nat → Nat → Nat) (hn : n ≤ 100) (hm : m ≤ 100) (hnm : n ≤ m) (w : World) (A : Option Addr) (c0 : Nat) (hC : CL w A (mat n m M)) (hc0 : n ≤ c0) :
    Calls Tryd.prog 25 #[.slice A n c0, .int .i64 0, .int .i64 0, .int .i64 (n : Nat), .int .i64 (n : Nat)] w (RdP w n n M) := by
  have h := block_calls n m 0 n M hn hm (by omega) 0 (n : Int) (by simp) (by simp) w A c0 hC hc0
  rw [show (fun i j => M i (0 + j)) = M from by funext i j; rw [Nat.zero_add]] at h
  exact h
section
variable (w : World) (A : Option Addr) (c0 : Nat) (L : List (List Int)) (n k : Nat)
theorem zz_calls (hl : L.length = n) (hC : CL w A L) (hc : n ≤ c0) (b : Bool) (hz : laws_zzFits2.f k L = some b) : Calls Tryd.prog 16 #[.slice A n c0] w fun e w' => e = .returned (.bool b) ∧ Drawn0 w w' := by
  have h := laws_zzFits2.calls k A c0 L b w hC (by rw [hl]; exact hc) hz
  rw [hl] at h
  exact h
theorem mod_calls (hl : L.length = n) (hC : CL w A L) (hc : n ≤ c0) (b : Bool) (hm : laws_moderate1.f k L = some b) : Calls Tryd.prog 17 #[.slice (some ⟨w.heap.size, 0, none⟩) 1 1] (w.alloc (.cells #[.slice A n c0] 30)) fun e w' => e = .returned (.bool b) ∧ Below w.heap.size w w' := by
  have h := laws_moderate1.calls k A c0 L b w hC (by rw [hl]; exact hc) hm
  rw [hl] at h
  exact h
theorem mod_drawn (hl : L.length = n) (q : Nat) (hC : CL w A L) (hc : n ≤ c0) (b : Bool) (hm : laws_moderate1.f k L = some b) : Calls Tryd.prog 17 #[.slice (some ⟨w.heap.size, 0, none⟩) 1 1] ((w.drewN q).alloc (.cells #[.slice A n c0] 30)) fun e w' => e = .returned (.bool b) ∧ Below w.heap.size w w' :=
  (mod_calls (w.drewN q) A c0 L n k hl (Kd.C_drewN hC q) hc b hm).mono fun _ _ ⟨he, hb⟩ => ⟨he, below_step (pw_below_drewN (Below.refl _ _) q) hb⟩
theorem rect_calls (hl : L.length = n) (hl2 : n ≤ 40) (hC : CL w A L) (hc : n ≤ c0) : (Rect L → Calls Tryd.prog 18 #[.slice A n c0] w fun e w' => e = .returned (.bool true) ∧ Drawn0 w w') ∧ (¬ Rect L → Calls Tryd.prog 18 #[.slice A n c0] w fun e w' => e = .returned (.bool false) ∧ Drawn0 w w') := by
  obtain ⟨b, h1, h2⟩ := rect_f L (by omega) 100 (by omega)
  have h := spec_Rectangular.calls 100 A c0 L b w hC (by rw [hl]; exact hc) h1
  rw [hl] at h
  refine ⟨fun hR => ?_, fun hR => ?_⟩
  · rw [h2.2 hR] at h
    exact h
  · cases b with
    | true => exact absurd (h2.1 rfl) hR
    | false => exact h
set_option maxRecDepth 100000 in
set_option maxHeartbeats 2000000 in
theorem law_large (hl : L.length = n) (hC : CL w A L) (hc : n ≤ c0) (hz : laws_zzFits2.f k L = some false) : Calls Tryd.prog 8 #[.slice A n c0] w (Yes w) := by
  have ZZ := Aside0.mk (zz_calls w A c0 L n k hl hC hc false hz)
  have HC := Aside0.mk hC
  clear hC hz
  go_enter Tryd.func8, Tryd.ntmps8
  go_wp2_with (first | (go_at_call 16; (with_reducible refine ZZ.out.mono ?_); rintro e w1 ⟨rfl, ⟨⟨q, rfl⟩⟩⟩))
  go_ret
  exact ⟨rfl, pw_below_drewN (Below.refl _ _) _⟩
set_option maxRecDepth 100000 in
set_option maxHeartbeats 2000000 in
theorem law_wide (hl : L.length = n) (hC : CL w A L) (hc : n ≤ c0) (hz : laws_zzFits2.f k L = some true) (hm : laws_moderate1.f k L = some false) : Calls Tryd.prog 8 #[.slice A n c0] w (Yes w) := by
  have ZZ := Aside0.mk (zz_calls w A c0 L n k hl hC hc true hz)
  have HC := Aside0.mk hC
  have HM := Aside0.mk hm
  clear hC hz hm
  go_enter Tryd.func8, Tryd.ntmps8
  go_wp2_with (first | (go_at_call 16; (with_reducible refine ZZ.out.mono ?_); rintro e w1 ⟨rfl, ⟨⟨q, rfl⟩⟩⟩) | (go_at_call 17; (with_reducible refine (mod_drawn w A c0 L n k hl q HC.out hc false HM.out).mono ?_); rintro e w2 ⟨rfl, hb⟩; have HB := Aside0.mk hb; have HC2 := Aside0.mk (Kd.C_below HC.out HB.out); clear hb))
  go_ret
  exact ⟨rfl, HB.out⟩
set_option maxRecDepth 100000 in
set_option maxHeartbeats 2000000 in
theorem law_odd (hl : L.length = n) (hC : CL w A L) (hc : n ≤ c0) (hz : laws_zzFits2.f k L = some true) (hm : laws_moderate1.f k L = some true) (hE : Er w) (hl2 : n ≤ 40) (hR : ¬ Rect L) : Calls Tryd.prog 8 #[.slice A n c0] w (Yes w) := by
  have ZZ := Aside0.mk (zz_calls w A c0 L n k hl hC hc true hz)
  have HC := Aside0.mk hC
  have HM := Aside0.mk hm
  have HE := Aside0.mk hE
  have HR := Aside0.mk hR
  have EL23 : ∀ w2, CL w2 A L → Er w2 → Calls Tryd.prog 23 #[.slice A n c0] w2 fun e w' => e = Told ∧ w2 = w' := fun w2 h1 h2 => by
    have h := el_odd w2 A c0 L h1 h2 hR
    rw [hl] at h
    exact h
  clear hE hR
  clear hC hz hm
  go_enter Tryd.func8, Tryd.ntmps8
  go_wp2_with (first | (go_at_call 16; (with_reducible refine ZZ.out.mono ?_); rintro e w1 ⟨rfl, ⟨⟨q, rfl⟩⟩⟩) | (go_at_call 17; (with_reducible refine (mod_drawn w A c0 L n k hl q HC.out hc true HM.out).mono ?_); rintro e w2 ⟨rfl, hb⟩; have HB := Aside0.mk hb; have HC2 := Aside0.mk (Kd.C_below HC.out HB.out); clear hb) | (go_at_call 23; (with_reducible refine (EL23 w2 HC2.out (HE.out.below HB.out)).mono ?_); rintro e w3 ⟨rfl, rfl⟩) | (go_at_call 18; (with_reducible refine ((rect_calls _ A c0 L n hl hl2 HC2.out hc).2 HR.out).mono ?_); rintro e w4 ⟨rfl, ⟨⟨q2, rfl⟩⟩⟩))
  go_ret
  exact ⟨rfl, pw_below_drewN HB.out _⟩
end
section
variable (w : World) (A : Option Addr) (c0 n m k : Nat) (M0 : Nat → Nat → Nat)
set_option maxRecDepth 100000 in
set_option maxHeartbeats 2000000 in
theorem law_thin (hC : CL w A (mat n m M0)) (hc : n ≤ c0) (hz : laws_zzFits2.f k (mat n m M0) = some true) (hm : laws_moderate1.f k (mat n m M0) = some true) (hE : Er w) (hn : 0 < n) (hn2 : n ≤ 40) (hm0 : 0 < m) (_hm2 : m ≤ 40) (hmn : m < n) : Calls Tryd.prog 8 #[.slice A n c0] w (Yes w) := by
  have ZZ := Aside0.mk (zz_calls w A c0 (mat n m M0) n k (mat_len n m M0) hC hc true hz)
  have HC := Aside0.mk hC
  have HM := Aside0.mk hm
  have HE := Aside0.mk hE
  have q7 : decide (m < n) = true := decide_eq_true hmn
  have q8 : decide ((m : Int) < (n : Int)) = true := decide_eq_true (by omega)
  clear hE
  clear hC hz hm
  go_enter Tryd.func8, Tryd.ntmps8
  go_wp2_with (first | (go_at_call 16; (with_reducible refine ZZ.out.mono ?_); rintro e w1 ⟨rfl, ⟨⟨q, rfl⟩⟩⟩) | (go_at_call 17; (with_reducible refine (mod_drawn w A c0 (mat n m M0) n k (mat_len n m M0) q HC.out hc true HM.out).mono ?_); rintro e w2 ⟨rfl, hb⟩; have HB := Aside0.mk hb; have HC2 := Aside0.mk (Kd.C_below HC.out HB.out); clear hb) | (go_at_call 23; (with_reducible refine (el_thin n m M0 hn (by omega) hm0 hmn _ A c0 HC2.out (HE.out.below HB.out)).mono ?_); rintro e w3 ⟨rfl, rfl⟩) | (go_at_call 18; (with_reducible refine ((rect_calls _ A c0 (mat n m M0) n (mat_len n m M0) hn2 HC2.out hc).1 (mat_rect n m M0 hn hm0)).mono ?_); rintro e w4 ⟨rfl, ⟨⟨q2, rfl⟩⟩⟩; have HC3 := Aside0.mk (Kd.C_drewN HC2.out q2); have HB3 := Aside0.mk (pw_below_drewN HB.out q2)) | (go_at_call 19; (with_reducible refine (columns_calls n m M0 hn _ A c0 HC3.out hc).mono ?_); rintro e w4 ⟨rfl, ⟨⟨q3, rfl⟩⟩⟩; skip))
  go_ret
  exact ⟨rfl, pw_below_drewN HB.out _⟩
set_option maxRecDepth 100000 in
set_option maxHeartbeats 2000000 in
theorem law_no (hC : CL w A (mat n m M0)) (hc : n ≤ c0) (hz : laws_zzFits2.f k (mat n m M0) = some true) (hm : laws_moderate1.f k (mat n m M0) = some true) (hE : Er w) (hn : 0 < n) (hn2 : n ≤ 40) (hm0 : 0 < m) (hm2 : m ≤ 40) (hnm : n ≤ m) (hG : Glob w) (h8 : ∀ i, B8 (M0 i)) (hI : ¬ Inj M0 n m) : Calls Tryd.prog 8 #[.slice A n c0] w (Yes w) := by
  have ZZ := Aside0.mk (zz_calls w A c0 (mat n m M0) n k (mat_len n m M0) hC hc true hz)
  have HC := Aside0.mk hC
  have HM := Aside0.mk hm
  have HE := Aside0.mk hE
  have HG := Aside0.mk hG
  have H8 := Aside0.mk h8
  have HI := Aside0.mk hI
  have HI2 : Aside0 (¬ Inj M0 n n) := ⟨fun h => hI (h.wide (Nat.le_refl _) hnm fun _ _ _ _ => rfl)⟩
  have q7 : decide (m < n) = false := decide_eq_false (by omega)
  have q8 : decide ((m : Int) < (n : Int)) = false := decide_eq_false (by omega)
  clear hE hG h8 hI
  clear hC hz hm
  go_enter Tryd.func8, Tryd.ntmps8
  go_wp2_with (first | (go_at_call 16; (with_reducible refine ZZ.out.mono ?_); rintro e w1 ⟨rfl, ⟨⟨q, rfl⟩⟩⟩) | (go_at_call 17; (with_reducible refine (mod_drawn w A c0 (mat n m M0) n k (mat_len n m M0) q HC.out hc true HM.out).mono ?_); rintro e w2 ⟨rfl, hb⟩; have HB := Aside0.mk hb; have HC2 := Aside0.mk (Kd.C_below HC.out HB.out); clear hb) | (go_at_call 23; (with_reducible refine (el_no n m M0 hn hn2 hnm hm2 H8.out _ A c0 hc HC2.out (HE.out.below HB.out) (Glob.below HG.out HB.out) HI.out).mono ?_); rintro e w3 ⟨rfl, hb⟩; have HC4 := Aside0.mk (Kd.C_below HC2.out hb); have HB4 := Aside0.mk (below_step HB.out hb); clear hb) | (go_at_call 18; (with_reducible refine ((rect_calls _ A c0 (mat n m M0) n (mat_len n m M0) hn2 HC4.out hc).1 (mat_rect n m M0 hn hm0)).mono ?_); rintro e w4 ⟨rfl, ⟨⟨q2, rfl⟩⟩⟩; have HC5 := Aside0.mk (Kd.C_drewN HC4.out q2); have HB5 := Aside0.mk (pw_below_drewN HB4.out q2)) | (go_at_call 19; (with_reducible refine (columns_calls n m M0 hn _ A c0 HC5.out hc).mono ?_); rintro e w4 ⟨rfl, ⟨⟨q3, rfl⟩⟩⟩; have HC6 := Aside0.mk (Kd.C_drewN HC4.out (q2 + q3)); have HB6 := Aside0.mk (pw_below_drewN HB4.out (q2 + q3))) | (go_at_call 25; (with_reducible refine (block0_calls n m M0 (by omega) (by omega) hnm _ A c0 HC6.out hc).mono ?_); rintro e w6 ⟨A6, c6, rfl, hc6, hC6, hb6⟩; have HC7 := Aside0.mk (Kd.C_below HC6.out hb6); have HB7 := Aside0.mk (below_step HB6.out hb6); have HK := Aside0.mk hC6; clear hC6 hb6) | (go_at_call 24; (with_reducible refine (inv_no _ A6 c6 n M0 hn hn2 (Nat.le_trans HE.out.size HB7.out.size) HK.out hc6 H8.out (Glob.below HG.out HB7.out) HI2.out).mono ?_); rintro e w7 ⟨rfl, hb⟩; have HB8 := Aside0.mk (below_step HB7.out hb); clear hb))
  go_ret
  exact ⟨rfl, HB8.out⟩
set_option maxRecDepth 100000 in
set_option maxHeartbeats 2000000 in
theorem law_yes (hC : CL w A (mat n m M0)) (hc : n ≤ c0) (hz : laws_zzFits2.f k (mat n m M0) = some true) (hm : laws_moderate1.f k (mat n m M0) = some true) (hE : Er w) (hn : 0 < n) (hn2 : n ≤ 40) (hm0 : 0 < m) (hm2 : m ≤ 40) (hnm : n ≤ m) (hG : Glob w) (h8 : ∀ i, B8 (M0 i)) (hI : Inj M0 n m) : Calls Tryd.prog 8 #[.slice A n c0] w (Yes w) := by
  have ZZ := Aside0.mk (zz_calls w A c0 (mat n m M0) n k (mat_len n m M0) hC hc true hz)
  have HC := Aside0.mk hC
  have HM := Aside0.mk hm
  have HE := Aside0.mk hE
  have HG := Aside0.mk hG
  have H8 := Aside0.mk h8
  have HI := Aside0.mk hI
  have HI2 : Aside0 (Inj M0 n n) := ⟨hI.wide hnm (Nat.le_refl _) fun _ _ _ _ => rfl⟩
  have q7 : decide (m < n) = false := decide_eq_false (by omega)
  have q8 : decide ((m : Int) < (n : Int)) = false := decide_eq_false (by omega)
  clear hE hG h8 hI
  clear hC hz hm
  go_enter Tryd.func8, Tryd.ntmps8
  go_wp2_with (first | (go_at_call 16; (with_reducible refine ZZ.out.mono ?_); rintro e w1 ⟨rfl, ⟨⟨q, rfl⟩⟩⟩) | (go_at_call 17; (with_reducible refine (mod_drawn w A c0 (mat n m M0) n k (mat_len n m M0) q HC.out hc true HM.out).mono ?_); rintro e w2 ⟨rfl, hb⟩; have HB := Aside0.mk hb; have HC2 := Aside0.mk (Kd.C_below HC.out HB.out); clear hb) | (go_at_call 23; (with_reducible refine (el_yes n m M0 hn hn2 hnm hm2 H8.out _ A c0 hc HC2.out (HE.out.below HB.out) (Glob.below HG.out HB.out) HI.out).mono ?_); rintro e w3 ⟨g, cp, bb, cc, R, rfl, hcp, hmt, he1, hr8, hu1, hb⟩; have HC4 := Aside0.mk (Kd.C_below HC2.out hb); have HB4 := Aside0.mk (below_step HB.out hb); have GT := Aside0.mk (hmt.reads (by omega) (by omega)); have HR1 := Aside0.mk he1; have HR2 := Aside0.mk hr8; have HR3 := Aside0.mk hu1; clear hb hmt he1 hr8 hu1) | (go_at_call 18; (with_reducible refine ((rect_calls _ A c0 (mat n m M0) n (mat_len n m M0) hn2 HC4.out hc).1 (mat_rect n m M0 hn hm0)).mono ?_); rintro e w4 ⟨rfl, ⟨⟨q2, rfl⟩⟩⟩; have HC5 := Aside0.mk (Kd.C_drewN HC4.out q2); have HB5 := Aside0.mk (pw_below_drewN HB4.out q2); have GT5 := Aside0.mk (Kd.C_drewN GT.out q2)) | (go_at_call 19; (with_reducible refine (columns_calls n m M0 hn _ A c0 HC5.out hc).mono ?_); rintro e w4 ⟨rfl, ⟨⟨q3, rfl⟩⟩⟩; have HC6 := Aside0.mk (Kd.C_drewN HC4.out (q2 + q3)); have HB6 := Aside0.mk (pw_below_drewN HB4.out (q2 + q3)); have GT6 := Aside0.mk (Kd.C_drewN GT.out (q2 + q3))) | (go_at_call 25; (with_reducible refine (block0_calls n m M0 (by omega) (by omega) hnm _ A c0 HC6.out hc).mono ?_); rintro e w6 ⟨A6, c6, rfl, hc6, hC6, hb6⟩; have HC7 := Aside0.mk (Kd.C_below HC6.out hb6); have HB7 := Aside0.mk (below_step HB6.out hb6); have HK := Aside0.mk hC6; have GT7 := Aside0.mk (Kd.C_below GT6.out hb6); clear hC6 hb6) | (go_at_call 24; (with_reducible refine (inv_yes _ A6 c6 n M0 hn hn2 (Nat.le_trans HE.out.size HB7.out.size) HK.out hc6 H8.out (Glob.below HG.out HB7.out) HI2.out).mono ?_); rintro e w7 ⟨A7, c7, R2, rfl, hc7, hC7, hr8, he2, hu2, hb⟩; have HB8 := Aside0.mk (below_step HB7.out hb); have HC8 := Aside0.mk (Kd.C_below HC7.out hb); have GT8 := Aside0.mk (Kd.C_below GT7.out hb); have BY := Aside0.mk hC7; have HR4 : Aside0 (∀ i, B8 (fun j => R2 i (n + j))) := ⟨fun i j => hr8 i (n + j)⟩; have EQ := Aside0.mk (equal_of n m R (prod n (fun i j => R2 i (n + j)) M0) (by omega) (by omega) (elim_eq hnm H8.out HR2.out HR1.out HR3.out he2 hu2) 11000 (by omega)); clear hb hC7 hr8 he2 hu2) | (go_at_call 26; (with_reducible refine (times_calls n n m (fun i j => R2 i (n + j)) M0 HR4.out H8.out hn hn2 hn2 hm2 _ A7 c7 A c0 BY.out HC8.out hc7 hc).mono ?_); rintro e w9 ⟨A9, c9, rfl, hc9, hC9, hb⟩; have HB9 := Aside0.mk (below_step HB8.out hb); have GT9 := Aside0.mk (Kd.C_below GT8.out hb); have HC9 := Aside0.mk hC9; clear hb hC9) | (go_at_call 22; (with_reducible refine (equal_calls n m R _ true EQ.out _ _ cp A9 c9 GT9.out HC9.out hcp hc9).mono ?_); rintro e w4 ⟨rfl, ⟨⟨q5, rfl⟩⟩⟩))
  go_ret
  exact ⟨rfl, pw_below_drewN HB9.out _⟩
end
theorem law_calls (w : World) (A : Option Addr) (c0 : Nat) (L : List (List Int)) (hC : CL w A L) (hc : L.length ≤ c0) (hb : Bytes L) (hE : Er w) (hG : Glob w) : Calls Tryd.prog 8 #[.slice A L.length c0] w (Yes w) := by
  obtain ⟨Z, hZ⟩ : ∃ Z, Z = 2147483748 := ⟨_, rfl⟩
  obtain ⟨z, hz, tz⟩ := zz_f L Z (by omega)
  cases z with
  | false => exact law_large w A c0 L L.length Z rfl hC hc hz
  | true =>
    obtain ⟨k0, hk0⟩ := moderate_f [L] (by simp) (fun L' hL => by
      simp only [List.mem_cons, List.not_mem_nil, or_false] at hL
      rw [hL]
      exact tz rfl)
    obtain ⟨K, hK⟩ : ∃ K, K = Z + k0 := ⟨_, rfl⟩
    have hzK : laws_zzFits2.f K L = some true := at_rounds (laws_zzFits2.mono _) (by omega) hz
    obtain ⟨b, hm, tm⟩ := hk0 K (by omega)
    have hm1 : laws_moderate1.f K L = some b := hm
    cases b with
    | false => exact law_wide w A c0 L L.length K rfl hC hc hzK hm1
    | true =>
      have hs := tm rfl L (by simp)
      by_cases hR : Rect L
      · obtain ⟨M0, h8, hl, hn, hn2, hm0, hm2⟩ := rect_mat hR hs hb
        obtain ⟨n, hnn⟩ : ∃ n, n = L.length := ⟨_, rfl⟩
        obtain ⟨m, hmm⟩ : ∃ m, m = colN L := ⟨_, rfl⟩
        rw [← hnn] at hl hn hn2 hc ⊢
        rw [← hmm] at hl hm0 hm2
        clear hmm hnn hR hs tm tz hm
        subst hl
        by_cases hmn : m < n
        · exact law_thin w A c0 n m K M0 hC hc hzK hm1 hE hn hn2 hm0 hm2 hmn
        · by_cases hI : Inj M0 n m
          · exact law_yes w A c0 n m K M0 hC hc hzK hm1 hE hn hn2 hm0 hm2 (by omega) hG h8 hI
          · exact law_no w A c0 n m K M0 hC hc hzK hm1 hE hn hn2 hm0 hm2 (by omega) hG h8 hI
      · exact law_odd w A c0 L L.length K rfl hC hc hzK hm1 hE hs.1 hR
end Go.Proofs.YtpjfokolbgcbhaaDoor.Ge

/- The errors lie where the program's text lays them. -/
namespace Go.Proofs.YtpjfokolbgcbhaaDoor.Ge
open Go.RowKit Go.Proofs.YtpjfokolbgcbhaaDoor
theorem er_of_met {W : World} (h : laidMet Tryd.prog Rows.fnMatrixEliminatesRow.laid W) : Er W := by
  have h2 := laidMet.tail (laidMet.tail h)
  have row : ∀ u, Tryd.prog.typeName? 3 u = some "*errors.errorString" → u = 75 := fun u hu => typeName_ptr_named (nm := "errors.errorString") (by rw [show "*" ++ "errors.errorString" = "*errors.errorString" by decide]; kernel_rfl) (by kernel_rfl) (by decide) u (by rw [show "*" ++ "errors.errorString" = "*errors.errorString" by decide]; exact hu)
  have one : ∀ {n : String} {text : List UInt8} {r : List (String × DataW Unit)} {g : Nat}, laidMet Tryd.prog ((n, .iface "*errors.errorString" (.ptr (.agg [.lit (.string text)]))) :: r) W → Tryd.prog.globalNamed n = some g → (Tryd.prog.globals[g]?).map (·.type) = some 46 → ∃ x, W.cell? ⟨g, 0, none⟩ = some (.iface 75 (.pointer (some x))) := fun hl hg ht => by
    obtain ⟨a, s, hv, _⟩ := laid_sentinel hl hg ht Tryd.underlying46 row Tryd.underlying75 Tryd.underlying77 rfl rfl Tryd.underlying9 (by kernel_rfl) (by kernel_rfl)
    exact ⟨a, by simpa using World.var?_cell hg hv 0⟩
  obtain ⟨x3, e3⟩ := one h2 (g := 3) (by kernel_rfl) (by kernel_rfl)
  obtain ⟨x4, e4⟩ := one (laidMet.tail h2) (g := 4) (by kernel_rfl) (by kernel_rfl)
  obtain ⟨x5, e5⟩ := one (laidMet.tail (laidMet.tail h2)) (g := 5) (by kernel_rfl) (by kernel_rfl)
  obtain ⟨x2, e2⟩ := one (laidMet.tail (laidMet.tail (laidMet.tail h2))) (g := 2) (by kernel_rfl) (by kernel_rfl)
  intro k h1 h2
  have hk : k = 2 ∨ k = 3 ∨ k = 4 ∨ k = 5 := by omega
  rcases hk with rfl | rfl | rfl | rfl
  · exact ⟨x2, e2⟩
  · exact ⟨x3, e3⟩
  · exact ⟨x4, e4⟩
  · exact ⟨x5, e5⟩
end Go.Proofs.YtpjfokolbgcbhaaDoor.Ge
