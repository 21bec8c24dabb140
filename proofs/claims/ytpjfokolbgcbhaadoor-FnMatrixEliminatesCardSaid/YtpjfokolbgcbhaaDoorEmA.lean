import Derived.Test.YtpjfokolbgcbhaaDoorEmSM
import Derived.Test.YtpjfokolbgcbhaaDoorRo
import Derived.RegionTactic
import Derived.BigRegion
import Derived.ChangeAlike
import Derived.Test.YtpjfokolbgcbhaaDoorEmPM
/- A matrix in memory that is one's own: rows apart, cell by cell. -/
namespace Go.Proofs.YtpjfokolbgcbhaaDoor.Ge
open Go.RowKit Go.Proofs.YtpjfokolbgcbhaaDoor Go.Proofs.YtpjfokolbgcbhaaDoorW.PrintWords Go.Proofs.YtpjfokolbgcbhaaDoorW.PrintLast Go.Proofs.YtpjfokolbgcbhaaDoorW.PrintMore
open Go.Proofs.YtpjfokolbgcbhaaDoor.QmP (mat rowL upd mat_len rowL_len)
open Go.Proofs.YtpjfokolbgcbhaaDoor.Ro (CL)

theorem cso {w : World} {p q : Addr} {v : Value} (h : p ≠ q) : (w.setCell p v).cell? q = w.cell? q := by
  apply World.cell?_setCell_other
  exact h
theorem css {w : World} {p : Addr} {u v : Value} (h : w.cell? p = some u) : (w.setCell p v).cell? p = some v := by
  apply World.cell?_setCell_same
  exact h
structure Mt (w : World) (base g : Nat) (b c : Nat → Nat) (M : Nat → Nat → Nat) (n m : Nat) : Prop where
  top : ∀ i, i < n → w.cell? ⟨g, i, none⟩ = some (.slice (some ⟨b i, 0, none⟩) m (c i))
  topf : ∀ i, i < n → w.frozen? ⟨g, i, none⟩ = false
  row : ∀ i j, i < n → j < m → w.cell? ⟨b i, j, none⟩ = some (.int .u8 ((M i j : Nat) : Int))
  rowf : ∀ i j, i < n → j < m → w.frozen? ⟨b i, j, none⟩ = false
  cap : ∀ i, i < n → m ≤ c i
  ne : ∀ i, i < n → b i ≠ g
  inj : ∀ i j, i < n → j < n → b i = b j → i = j
  lo : base ≤ g ∧ ∀ i, i < n → base ≤ b i

theorem Mt.below {w w1 : World} {base g : Nat} {b c : Nat → Nat} {M : Nat → Nat → Nat} {n m : Nat} (h : Mt w base g b c M n m) (hb : Below w.heap.size w w1) : Mt w1 base g b c M n m :=
  ⟨fun i hi => pw_cell_below hb (h.top i hi),
   fun i hi => (hb.frozen (p := ⟨g, i, none⟩) (World.block_lt_of_cell? w _ (h.top i hi))).trans (h.topf i hi),
   fun i j hi hj => pw_cell_below hb (h.row i j hi hj),
   fun i j hi hj => (hb.frozen (p := ⟨b i, j, none⟩) (World.block_lt_of_cell? w _ (h.row i j hi hj))).trans (h.rowf i j hi hj),
   h.cap, h.ne, h.inj, h.lo⟩
theorem Mt.drewN {w : World} {base g : Nat} {b c : Nat → Nat} {M : Nat → Nat → Nat} {n m : Nat} (h : Mt w base g b c M n m) (k : Nat) : Mt (w.drewN k) base g b c M n m := h.below (pw_below_drewN (Below.refl _ _) k)
theorem Mt.congr {w : World} {base g : Nat} {b c : Nat → Nat} {M N : Nat → Nat → Nat} {n m : Nat} (h : Mt w base g b c M n m) (e : ∀ i j, i < n → j < m → M i j = N i j) : Mt w base g b c N n m :=
  { h with row := fun i j hi hj => by rw [← e i j hi hj]; exact h.row i j hi hj }
theorem Mt.set {w : World} {base g : Nat} {b c : Nat → Nat} {M : Nat → Nat → Nat} {n m : Nat} (h : Mt w base g b c M n m) (i j : Nat) (hi : i < n) (hj : j < m) (x : Nat) : Mt (w.setCell ⟨b i, j, none⟩ (.int .u8 ((x : Nat) : Int))) base g b c (upd M i j x) n m where
  top := fun s hs => by
    rw [cso (by
      intro e
      have := congrArg Addr.block e
      exact h.ne i hi this)]
    exact h.top s hs
  topf := fun s hs => by rw [World.frozen?_setCell]; exact h.topf s hs
  row := fun s t hs ht => by
    unfold upd
    by_cases e1 : s = i
    · subst e1
      rw [if_pos rfl]
      by_cases e2 : t = j
      · subst e2
        rw [if_pos rfl]
        exact css (h.row s t hs ht)
      · rw [if_neg e2, cso (by
          intro e
          have := congrArg Addr.off e
          exact e2 this.symm)]
        exact h.row s t hs ht
    · rw [if_neg e1, cso (by
        intro e
        have := congrArg Addr.block e
        exact e1 (h.inj i s hi hs this).symm)]
      exact h.row s t hs ht
  rowf := fun s t hs ht => by rw [World.frozen?_setCell]; exact h.rowf s t hs ht
  cap := h.cap
  ne := h.ne
  inj := h.inj
  lo := h.lo
/-- Two rows changed about. -/
theorem Mt.swap {w : World} {base g : Nat} {b c : Nat → Nat} {M : Nat → Nat → Nat} {n m : Nat} (h : Mt w base g b c M n m) (i k : Nat) (hi : i < n) (hk : k < n) :
    Mt ((w.setCell ⟨g, k, none⟩ (.slice (some ⟨b i, 0, none⟩) m (c i))).setCell ⟨g, i, none⟩ (.slice (some ⟨b k, 0, none⟩) m (c k))) base g (fun s => b (if s = i then k else if s = k then i else s)) (fun s => c (if s = i then k else if s = k then i else s)) (fun s => M (if s = i then k else if s = k then i else s)) n m where
  top := fun s hs => by
    by_cases e1 : s = i
    · subst e1
      rw [if_pos rfl]
      refine css (u := if s = k then (.slice (some ⟨b s, 0, none⟩) m (c s)) else (.slice (some ⟨b s, 0, none⟩) m (c s))) ?_
      by_cases e2 : s = k
      · subst e2
        rw [if_pos rfl]
        exact css (h.top s hs)
      · rw [if_neg e2, cso (by
          intro e
          exact e2 (congrArg Addr.off e).symm)]
        exact h.top s hs
    · rw [if_neg e1, cso (by
        intro e
        exact e1 (congrArg Addr.off e).symm)]
      by_cases e2 : s = k
      · subst e2
        rw [if_pos rfl]
        exact css (h.top s hs)
      · rw [if_neg e2, cso (by
          intro e
          exact e2 (congrArg Addr.off e).symm)]
        exact h.top s hs
  topf := fun s hs => by rw [World.frozen?_setCell, World.frozen?_setCell]; exact h.topf s hs
  row := fun s t hs ht => by
    have hs' : (if s = i then k else if s = k then i else s) < n := by split <;> (try split) <;> omega
    rw [cso (by
      intro e
      exact h.ne _ hs' (congrArg Addr.block e).symm), cso (by
      intro e
      exact h.ne _ hs' (congrArg Addr.block e).symm)]
    exact h.row _ t hs' ht
  rowf := fun s t hs ht => by
    have hs' : (if s = i then k else if s = k then i else s) < n := by split <;> (try split) <;> omega
    rw [World.frozen?_setCell, World.frozen?_setCell]
    exact h.rowf _ t hs' ht
  cap := fun s hs => h.cap _ (by split <;> (try split) <;> omega)
  ne := fun s hs => h.ne _ (by split <;> (try split) <;> omega)
  inj := fun s t hs ht e => by
    have := h.inj _ _ (by split <;> (try split) <;> omega) (by split <;> (try split) <;> omega) e
    revert this
    split <;> (try split) <;> (try split) <;> (try split) <;> intro this <;> omega
  lo := ⟨h.lo.1, fun s hs => h.lo.2 _ (by split <;> (try split) <;> omega)⟩
/-- It reads as a list of rows. -/
theorem Mt.reads {w : World} {base g : Nat} {b c : Nat → Nat} {M : Nat → Nat → Nat} {n m : Nat} (h : Mt w base g b c M n m) (hn : n ≤ 9223372036854775807) (hm : m ≤ 9223372036854775807) : CL w (some ⟨g, 0, none⟩) (mat n m M) := by
  refine ⟨rfl, by rw [mat_len]; exact hn, fun _ => ⟨_, rfl, fun j q hj => ?_⟩⟩
  unfold mat at hj
  rw [List.getElem?_map] at hj
  obtain ⟨j', hj', rfl⟩ := Option.map_eq_some_iff.1 hj
  obtain ⟨hjn, hje⟩ := List.getElem?_eq_some_iff.1 hj'
  rw [List.getElem_range] at hje
  subst hje
  rw [List.length_range] at hjn
  refine ⟨[.slice (some ⟨b j, 0, none⟩) m (c j)], rfl, ⟨some ⟨b j, 0, none⟩, c j, by rw [rowL_len], by rw [rowL_len]; exact h.cap j hjn, ⟨rfl, by rw [rowL_len]; exact hm, fun _ => ⟨_, rfl, fun i p hi => ⟨[.int .u8 p], rfl, rfl, fun i2 u hi2 => ?_⟩⟩⟩⟩, fun i u hi => ?_⟩
  · rcases i2 with _ | i2
    · obtain rfl := Option.some.inj hi2
      unfold rowL at hi
      rw [List.getElem?_map] at hi
      obtain ⟨i', hi', rfl⟩ := Option.map_eq_some_iff.1 hi
      obtain ⟨hin, hie⟩ := List.getElem?_eq_some_iff.1 hi'
      rw [List.getElem_range] at hie
      subst hie
      rw [List.length_range] at hin
      rw [add_plain, show i * (Kd.int .u8).sz + 0 = i from by show i * 1 + 0 = i; omega]
      exact h.row j i hjn hin
    · simp at hi2
  · rcases i with _ | i
    · obtain rfl := Option.some.inj hi
      rw [add_plain, show j * (Kd.slice 5 (Kd.int .u8)).sz + 0 = j from by show j * 1 + 0 = j; omega]
      exact h.top j hjn
    · simp at hi
end Go.Proofs.YtpjfokolbgcbhaaDoor.Ge

/- Inverses, and swapping of rows, walked. -/
namespace Go.Proofs.YtpjfokolbgcbhaaDoor.Ge
open Go.RowKit Go.Proofs.YtpjfokolbgcbhaaDoor Go.Proofs.YtpjfokolbgcbhaaDoorW.PrintWords Go.Proofs.YtpjfokolbgcbhaaDoorW.PrintLast Go.Proofs.YtpjfokolbgcbhaaDoorW.PrintMore
open Go.Proofs.YtpjfokolbgcbhaaDoor.QmP (mat rowL upd mat_len rowL_len)

/-- The inverse, by the tables. -/
def ginv (a : Nat) : Nat := expL.getD (logL.getD a 0 ^^^ 255) 0
theorem inv_tab : ((List.range 256).all fun a => a == 0 || gmul (ginv a) a == 1) = true := by decide +kernel
theorem ginv_mul {a : Nat} (h0 : a ≠ 0) (h : a < 256) : gmul (ginv a) a = 1 := by
  have := List.all_eq_true.1 inv_tab a (List.mem_range.2 h)
  simp only [Bool.or_eq_true, beq_iff_eq] at this
  rcases this with h1 | h1
  · exact absurd h1 h0
  · exact h1
theorem ginv_lt (a : Nat) : ginv a < 256 := exp_lt _
theorem ginv_ne {a : Nat} (h0 : a ≠ 0) (h : a < 256) : ginv a ≠ 0 := fun e => by
  have := ginv_mul h0 h
  rw [e, gmul_zero_left] at this
  omega
theorem xor255 (x : Nat) (h : x < 255) : x ^^^ 255 < 256 := Nat.xor_lt_two_pow (n := 8) (by omega) (by omega)
theorem xor_u8' (a : Nat) (ha : a < 256) : Go.bits .xor .u8 (a : Int) 255 = ((a ^^^ 255 : Nat) : Int) := by
  have hx : a ^^^ 255 < 2 ^ 8 := Nat.xor_lt_two_pow (by omega) (by omega)
  have h1 : (BitVec.ofInt 8 (a : Int)).toNat = a := by
    rw [BitVec.ofInt_natCast, BitVec.toNat_ofNat]; exact Nat.mod_eq_of_lt (by omega)
  show IntKind.u8.wrap ((BitVec.ofInt 8 (a : Int) ^^^ BitVec.ofInt 8 255).toNat : Int) = _
  rw [BitVec.toNat_xor, h1, show (BitVec.ofInt 8 255).toNat = 255 from rfl]
  show ((a ^^^ 255 : Nat) : Int) % 256 = _
  omega
set_option maxRecDepth 100000 in
set_option maxHeartbeats 2000000 in
theorem inv_calls (a : Nat) (h0 : a ≠ 0) (h : a < 256) (w : World) (HG : Glob w) : Calls Tryd.prog 57 #[.int .u8 (a : Nat)] w fun e w' => e = .returned (.int .u8 ((ginv a : Nat) : Int)) ∧ w = w' := by
  obtain ⟨l, hl⟩ : ∃ l, l = logL.getD a 0 := ⟨_, rfl⟩
  have hl255 : l < 255 := by rw [hl]; exact log_lt a
  obtain ⟨y, hy⟩ : ∃ y, y = l ^^^ 255 := ⟨_, rfl⟩
  have hy256 : y < 256 := by rw [hy]; exact xor255 l hl255
  have c1 : w.cell? ⟨0, a, none⟩ = some (.int .u8 (l : Nat)) := by rw [hl]; exact HG.1 a h
  have c2 : w.cell? ⟨1, y, none⟩ = some (.int .u8 ((ginv a : Nat) : Int)) := by
    unfold ginv
    rw [← hl, ← hy]
    exact HG.2 y hy256
  have ex : Go.bits .xor .u8 (l : Int) 255 = (y : Int) := by rw [hy]; exact xor_u8' l (by omega)
  have t0 : ((a : Int) == 0) = false := by simpa using h0
  clear hl hy h0 HG
  generalize ginv a = q at c2 ⊢
  go_enter Tryd.func57, Tryd.ntmps57
  go_wp2
  go_ret
  exact ⟨rfl, rfl⟩

theorem glob_set {w : World} (h : Glob w) {p : Addr} (hp : 2 ≤ p.block) (v : Value) : Glob (w.setCell p v) :=
  ⟨fun j hj => (cso (fun e => by have := congrArg Addr.block e; simp at this; omega)).trans (h.1 j hj), fun j hj => (cso (fun e => by have := congrArg Addr.block e; simp at this; omega)).trans (h.2 j hj)⟩

set_option maxRecDepth 100000 in
set_option maxHeartbeats 4000000 in
theorem swap_calls (w : World) (base g : Nat) (b c : Nat → Nat) (M : Nat → Nat → Nat) (n m cp i k : Nat) (h : Mt w base g b c M n m) (hi : i < n) (hk : k < n) (hik : i ≠ k) :
    Calls Tryd.prog 56 #[.slice (some ⟨g, 0, none⟩) n cp, .int .i64 (i : Nat), .int .i64 (k : Nat)] w fun e w' => e = .returned .nilIface ∧ ∃ q, w' = ((w.setCell ⟨g, k, none⟩ (.slice (some ⟨b i, 0, none⟩) m (c i))).setCell ⟨g, i, none⟩ (.slice (some ⟨b k, 0, none⟩) m (c k))).drewN q := by
  have c1 := h.top i hi
  have c2 := h.top k hk
  have f1 := h.topf i hi
  have f2 := h.topf k hk
  have t1 : decide ((i : Int) < 0) = false := decide_eq_false (by omega)
  have t2 : decide ((k : Int) < 0) = false := decide_eq_false (by omega)
  have t3 : decide (n ≤ i) = false := decide_eq_false (by omega)
  have t4 : decide (n ≤ k) = false := decide_eq_false (by omega)
  have p1 : (0 : Int) ≤ (i : Int) := by omega
  have p2 : (0 : Int) ≤ (k : Int) := by omega
  have p3 : (i : Int) < (n : Int) := by omega
  have p4 : (k : Int) < (n : Int) := by omega
  clear h hi hk
  generalize b i = bi at c1 ⊢
  generalize c i = ci at c1 ⊢
  generalize b k = bk at c2 ⊢
  generalize c k = ck at c2 ⊢
  go_enter Tryd.func56, Tryd.ntmps56
  go_wp2
  go_region
  all_goals (go_wp2; go_ret; refine ⟨rfl, ?_⟩)
  all_goals exact ⟨1, rfl⟩
end Go.Proofs.YtpjfokolbgcbhaaDoor.Ge

/- What adding a multiple of a row does to the shape: plain. -/
namespace Go.Proofs.YtpjfokolbgcbhaaDoor.Ge
open Go.Proofs.YtpjfokolbgcbhaaDoor

/-- The first r columns are an upper triangle with ones on its diagonal. -/
def Low (n r : Nat) (M : Nat → Nat → Nat) : Prop := (∀ i, i < r → M i i = 1) ∧ ∀ i j, i < n → j < r → j < i → M i j = 0
/-- Row t with s times row r added, in the first u columns. -/
def radd (M : Nat → Nat → Nat) (t r s u : Nat) : Nat → Nat → Nat := fun i j => if i = t ∧ j < u then M t j ^^^ gmul s (M r j) else M i j
theorem radd_other {M : Nat → Nat → Nat} {t r s u i : Nat} (h : i ≠ t) (j : Nat) : radd M t r s u i j = M i j := by
  unfold radd
  rw [if_neg (fun e => h e.1)]
theorem radd_at {M : Nat → Nat → Nat} {t r s u j : Nat} (h : j < u) : radd M t r s u t j = M t j ^^^ gmul s (M r j) := by
  unfold radd
  rw [if_pos ⟨rfl, h⟩]
theorem radd_b8 {M : Nat → Nat → Nat} (h : ∀ i, B8 (M i)) (t r s u : Nat) : ∀ i, B8 (radd M t r s u i) := fun _ _ => by
  unfold radd
  split
  · exact xor_lt (h _ _) (gmul_lt _ _)
  · exact h _ _
theorem radd_eq {M : Nat → Nat → Nat} (h : ∀ i, B8 (M i)) {n m t r s : Nat} (ht : t < n) (hr : r < n) (htr : t ≠ r) (hs : s < 256) : NEq n m M (radd M t r s m) :=
  NEq.add (s := s) ht hr htr hs h (fun _ hj => radd_at hj) (fun _ _ hi _ _ => radd_other hi _)
theorem radd_step (M : Nat → Nat → Nat) (t r s u i j : Nat) : QmP.upd (radd M t r s u) t u (M t u ^^^ gmul s (M r u)) i j = radd M t r s (u + 1) i j := by
  unfold QmP.upd radd
  by_cases e1 : i = t
  · subst e1
    by_cases e2 : j = u
    · subst e2; simp
    · have e3 : (j < u + 1) = (j < u) := by rw [eq_iff_iff]; omega
      simp [e2, e3]
  · simp [e1]
theorem radd_low {M : Nat → Nat → Nat} (h8 : ∀ i, B8 (M i)) {n m r t : Nat} (hnm : n ≤ m) (hrt : r < t) (htn : t < n) (h : Low n r M ∧ M r r = 1 ∧ ∀ i, r < i → i < t → M i r = 0) :
    Low n r (radd M t r (M t r) m) ∧ radd M t r (M t r) m r r = 1 ∧ ∀ i, r < i → i < t + 1 → radd M t r (M t r) m i r = 0 := by
  obtain ⟨⟨a1, a2⟩, a3, a4⟩ := h
  refine ⟨⟨fun i hi => ?_, fun i j hi hj hji => ?_⟩, ?_, fun i h1 h2 => ?_⟩
  · rw [radd_other (by omega)]; exact a1 i hi
  · by_cases e : i = t
    · subst e
      rw [radd_at (by omega), a2 i j hi hj hji, a2 r j (by omega) hj (by omega), gmul_zero_right]; rfl
    · rw [radd_other e]; exact a2 i j hi hj hji
  · rw [radd_other (by omega)]; exact a3
  · by_cases e : i = t
    · subst e
      rw [radd_at (by omega), a3, gmul_one (h8 i r), Nat.xor_self]
    · rw [radd_other e]; exact a4 i h1 (by omega)
/-- Columns below d are those of the identity; in column d nothing above row a. -/
def Up (n d a : Nat) (M : Nat → Nat → Nat) : Prop := Low n n M ∧ (∀ i j, j < d → i < j → M i j = 0) ∧ ∀ i, i < a → M i d = 0
theorem radd_up {M : Nat → Nat → Nat} (h8 : ∀ i, B8 (M i)) {n m d a : Nat} (hnm : n ≤ m) (had : a < d) (hdn : d < n) (h : Up n d a M) : Up n d (a + 1) (radd M a d (M a d) m) := by
  obtain ⟨⟨a1, a2⟩, a3, a4⟩ := h
  refine ⟨⟨fun i hi => ?_, fun i j hi hj hji => ?_⟩, fun i j hj hij => ?_, fun i hi => ?_⟩
  · by_cases e : i = a
    · subst e
      rw [radd_at (by omega), a1 i hi, a2 d i hdn hi had, gmul_zero_right]; rfl
    · rw [radd_other e]; exact a1 i hi
  · by_cases e : i = a
    · subst e
      rw [radd_at (by omega), a2 i j hi hj hji, a2 d j hdn hj (by omega), gmul_zero_right]; rfl
    · rw [radd_other e]; exact a2 i j hi hj hji
  · by_cases e : i = a
    · subst e
      rw [radd_at (by omega), a3 i j hj hij, a2 d j hdn (by omega) hj, gmul_zero_right]; rfl
    · rw [radd_other e]; exact a3 i j hj hij
  · by_cases e : i = a
    · subst e
      rw [radd_at (by omega), a1 d hdn, gmul_one (h8 i d), Nat.xor_self]
    · rw [radd_other e]; exact a4 i (by omega)
theorem up_next {M : Nat → Nat → Nat} {n d : Nat} (h : Up n d d M) : Up n (d + 1) 0 M :=
  ⟨h.1, fun i j hj hij => by
    by_cases e : j = d
    · subst e; exact h.2.2 i hij
    · exact h.2.1 i j (by omega) hij, fun i hi => by omega⟩
theorem up_unit {M : Nat → Nat → Nat} {n : Nat} (h : Up n n 0 M) : ∀ i, i < n → ∀ j, j < n → M i j = if i = j then 1 else 0 := fun i hi j hj => by
  by_cases e : i = j
  · subst e; rw [if_pos rfl]; exact h.1.1 i hi
  · rw [if_neg e]
    rcases Nat.lt_or_ge i j with h1 | h1
    · exact h.2.1 i j hj h1
    · exact h.1.2 i j hi hj (by omega)
end Go.Proofs.YtpjfokolbgcbhaaDoor.Ge

/- What the reduction keeps: the plain part. -/
namespace Go.Proofs.YtpjfokolbgcbhaaDoor.Ge
open Go.RowKit Go.Proofs.YtpjfokolbgcbhaaDoor

/-- If the matrix is of full rank, each column so far had its pivot. -/
def Ci (I : Prop) (n r c : Nat) (M : Nat → Nat → Nat) : Prop := I → r = c ∧ ∀ i, i < n → ∀ j, j < c → M i j = if i = j then 1 else 0
/-- On the way through the rows. -/
def El (I : Prop) (n r c t : Nat) (M : Nat → Nat → Nat) : Prop := Ci I n r c M ∧ M r c = 1 ∧ ∀ i, i < t → i ≠ r → M i c = 0
theorem ci_none {M M0 : Nat → Nat → Nat} {n m r c : Nat} (h8 : ∀ i, B8 (M i)) (e : NEq n m M0 M) (hr : r < n) (hnm : n ≤ m) (h : Ci (Inj M0 n m) n r c M) (hz : ∀ i, r ≤ i → i < n → M i c = 0) : Ci (Inj M0 n m) n r (c + 1) M := fun hI => by
  obtain ⟨rfl, hu⟩ := h hI
  refine absurd (hI.of e) (no_pivot h8 hr hnm (fun i hi => ?_) (fun i j hi hj hji => ?_) hz)
  · rw [hu i (by omega) i hi, if_pos rfl]
  · rw [hu i hi j hj, if_neg (by omega)]
theorem ci_swap {I : Prop} {M : Nat → Nat → Nat} {n r c t : Nat} (hr : r < n) (ht : t < n) (hrt : r ≤ t) (h : Ci I n r c M) : Ci I n r c (fun s => M (if s = t then r else if s = r then t else s)) := fun hI => by
  obtain ⟨rfl, hu⟩ := h hI
  refine ⟨rfl, fun i hi j hj => ?_⟩
  show M (if i = t then r else if i = r then t else i) j = _
  by_cases e1 : i = t
  · rw [if_pos e1, hu r hr j hj, if_neg (by omega), if_neg (by omega)]
  · rw [if_neg e1]
    by_cases e2 : i = r
    · rw [if_pos e2, hu t ht j hj, if_neg (by omega), if_neg (by omega)]
    · rw [if_neg e2]
      exact hu i hi j hj
theorem ci_scale {I : Prop} {M : Nat → Nat → Nat} {n r c s m : Nat} (h : Ci I n r c M) : Ci I n r c (fun i j => if i = r ∧ j < m then gmul s (M r j) else M i j) := fun hI => by
  obtain ⟨rfl, hu⟩ := h hI
  refine ⟨rfl, fun i hi j hj => ?_⟩
  show (if i = r ∧ j < m then gmul s (M r j) else M i j) = _
  by_cases e : i = r ∧ j < m
  · rw [if_pos e, hu r (by omega) j hj, if_neg (by omega), if_neg (by omega), gmul_zero_right]
  · rw [if_neg e]
    exact hu i hi j hj
theorem el_radd {I : Prop} {M : Nat → Nat → Nat} {n m r c t : Nat} (h8 : ∀ i, B8 (M i)) (hcm : c < m) (hr : r < n) (htr : t ≠ r) (h : El I n r c t M) : El I n r c (t + 1) (radd M t r (M t c) m) := by
  obtain ⟨h1, h2, h3⟩ := h
  refine ⟨fun hI => ?_, ?_, fun i hi hir => ?_⟩
  · obtain ⟨rfl, hu⟩ := h1 hI
    refine ⟨rfl, fun i hi j hj => ?_⟩
    by_cases e : i = t
    · subst e
      rw [radd_at (by omega), hu r hr j hj, if_neg (by omega), gmul_zero_right]
      exact (Nat.xor_zero _).trans (hu i hi j hj)
    · rw [radd_other e]
      exact hu i hi j hj
  · rw [radd_other (fun e => htr e.symm)]
    exact h2
  · by_cases e : i = t
    · subst e
      rw [radd_at hcm, h2, gmul_one (h8 _ _)]
      exact Nat.xor_self _
    · rw [radd_other e]
      exact h3 i (by omega) hir
theorem el_next {I : Prop} {M : Nat → Nat → Nat} {n r c : Nat} (h : El I n r c n M) : Ci I n (r + 1) (c + 1) M := fun hI => by
  obtain ⟨h1, h2, h3⟩ := h
  obtain ⟨rfl, hu⟩ := h1 hI
  refine ⟨rfl, fun i hi j hj => ?_⟩
  by_cases e : j = r
  · subst e
    by_cases e2 : i = j
    · rw [if_pos e2, e2]
      exact h2
    · rw [if_neg e2]
      exact h3 i hi e2
  · exact hu i hi j (by omega)
end Go.Proofs.YtpjfokolbgcbhaaDoor.Ge
