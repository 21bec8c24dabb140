/- Matrices over the field of 256 elements: products by grouping, and what row operations keep. No program stands in it. -/
import Derived.Test.YtpjfokolbgcbhaaDoorRt
namespace Go.Proofs.YtpjfokolbgcbhaaDoor

/-- All entries are bytes. -/
def B8 (x : Nat → Nat) : Prop := ∀ j, x j < 256
/-- The sum of the first m products. -/
def dot (r x : Nat → Nat) : Nat → Nat
  | 0 => 0
  | m + 1 => dot r x m ^^^ gmul (r m) (x m)
theorem dot_lt (r x : Nat → Nat) : ∀ m, dot r x m < 256
  | 0 => by show 0 < 256; omega
  | m + 1 => xor_lt (dot_lt r x m) (gmul_lt _ _)
theorem dot_congr {r q x y : Nat → Nat} : ∀ m, (∀ j, j < m → r j = q j) → (∀ j, j < m → x j = y j) → dot r x m = dot q y m
  | 0, _, _ => rfl
  | m + 1, h, g => by
    rw [dot, dot, dot_congr m (fun j hj => h j (by omega)) (fun j hj => g j (by omega)), h m (by omega), g m (by omega)]
theorem dot_comm (r x : Nat → Nat) : ∀ m, dot r x m = dot x r m
  | 0 => rfl
  | m + 1 => by rw [dot, dot, dot_comm r x m, gmul_comm]
theorem dot_zero_left (x : Nat → Nat) {r : Nat → Nat} : ∀ m, (∀ j, j < m → r j = 0) → dot r x m = 0
  | 0, _ => rfl
  | m + 1, h => by rw [dot, dot_zero_left x m (fun j hj => h j (by omega)), h m (by omega), gmul_zero_left]; rfl
theorem dot_zero_right (r : Nat → Nat) {x : Nat → Nat} (m : Nat) (h : ∀ j, j < m → x j = 0) : dot r x m = 0 := by
  rw [dot_comm]; exact dot_zero_left r m h
theorem dot_add {r q x : Nat → Nat} (hr : B8 r) (hq : B8 q) (hx : B8 x) : ∀ m, dot (fun j => r j ^^^ q j) x m = dot r x m ^^^ dot q x m
  | 0 => (Nat.xor_self 0).symm
  | m + 1 => by
    show dot (fun j => r j ^^^ q j) x m ^^^ gmul (r m ^^^ q m) (x m) = _
    rw [dot_add hr hq hx m, gmul_xor_left _ (hr m) (hq m) (hx m), dot, dot, xor_swap]
theorem dot_add_right {r x y : Nat → Nat} (hr : B8 r) (hx : B8 x) (hy : B8 y) (m : Nat) : dot r (fun j => x j ^^^ y j) m = dot r x m ^^^ dot r y m := by
  rw [dot_comm, dot_add hx hy hr, dot_comm x, dot_comm y]
theorem dot_scale {r x : Nat → Nat} (s : Nat) (hs : s < 256) : ∀ m, dot (fun j => gmul s (r j)) x m = gmul s (dot r x m)
  | 0 => by rw [dot, dot, gmul_zero_right]
  | m + 1 => by
    show dot (fun j => gmul s (r j)) x m ^^^ gmul (gmul s (r m)) (x m) = _
    rw [dot_scale s hs m, ← gmul_assoc, dot, gmul_xor s hs (dot_lt _ _ _) (gmul_lt _ _)]
theorem dot_scale_right {r x : Nat → Nat} (s : Nat) (hs : s < 256) (m : Nat) : dot r (fun j => gmul s (x j)) m = gmul s (dot r x m) := by
  rw [dot_comm, dot_scale s hs, dot_comm]
/-- One entry alone. -/
theorem dot_one (r : Nat → Nat) (hr : B8 r) {x : Nat → Nat} (k : Nat) : ∀ m, k < m → x k = 1 → (∀ j, j < m → j ≠ k → x j = 0) → dot r x m = r k
  | 0, h, _, _ => by omega
  | m + 1, h, h1, h0 => by
    rw [dot]
    by_cases hk : k = m
    · subst hk
      rw [dot_zero_right r k (fun j hj => h0 j (by omega) (by omega)), h1, gmul_one (hr k), Nat.zero_xor]
    · rw [dot_one r hr k m (by omega) h1 (fun j hj hne => h0 j (by omega) hne), h0 m (by omega) (fun h => hk h.symm), gmul_zero_right, Nat.xor_zero]
theorem dot_split (r x : Nat → Nat) (m : Nat) : ∀ p, dot r x (m + p) = dot r x m ^^^ dot (fun j => r (m + j)) (fun j => x (m + j)) p
  | 0 => by show dot r x m = dot r x m ^^^ 0; rw [Nat.xor_zero]
  | p + 1 => by
    show dot r x (m + p) ^^^ gmul (r (m + p)) (x (m + p)) = _
    rw [dot_split r x m p, Nat.xor_assoc]
    rfl
/-- Sums of sums, the other way round. -/
theorem dot_dot (a : Nat → Nat) (b : Nat → Nat → Nat) (c : Nat → Nat) (ha : B8 a) (hb : ∀ i, B8 (b i)) (hc : B8 c) (m : Nat) : ∀ n, dot (fun l => dot a (fun k => b k l) m) c n = dot a (fun k => dot (b k) c n) m
  | 0 => (dot_zero_right a m (fun j _ => rfl)).symm
  | n + 1 => by
    show dot (fun l => dot a (fun k => b k l) m) c n ^^^ gmul (dot a (fun k => b k n) m) (c n) = dot a (fun k => dot (b k) c n ^^^ gmul (b k n) (c n)) m
    rw [dot_dot a b c ha hb hc m n, dot_add_right ha (fun k => dot_lt _ _ _) (fun k => gmul_lt _ _), gmul_comm (dot a (fun k => b k n) m), ← dot_scale_right (c n) (hc n)]
    congr 1
    exact dot_congr m (fun _ _ => rfl) (fun k _ => gmul_comm _ _)

/-- x is sent to nothing. -/
def Null (W : Nat → Nat → Nat) (n m : Nat) (x : Nat → Nat) : Prop := ∀ i, i < n → dot (W i) x m = 0
/-- Both send the same to nothing. -/
def NEq (n m : Nat) (W V : Nat → Nat → Nat) : Prop := ∀ x, B8 x → (Null W n m x ↔ Null V n m x)
theorem NEq.refl (n m : Nat) (W : Nat → Nat → Nat) : NEq n m W W := fun _ _ => Iff.rfl
theorem NEq.trans {n m : Nat} {W V U : Nat → Nat → Nat} (h : NEq n m W V) (k : NEq n m V U) : NEq n m W U := fun x hx => (h x hx).trans (k x hx)
theorem NEq.symm {n m : Nat} {W V : Nat → Nat → Nat} (h : NEq n m W V) : NEq n m V W := fun x hx => (h x hx).symm
theorem NEq.of_eq {n m : Nat} {W V : Nat → Nat → Nat} (h : ∀ i, i < n → ∀ j, j < m → W i j = V i j) : NEq n m W V := fun x _ => by
  constructor
  · intro g i hi; rw [← dot_congr m (h i hi) (fun _ _ => rfl)]; exact g i hi
  · intro g i hi; rw [dot_congr m (h i hi) (fun _ _ => rfl)]; exact g i hi
theorem NEq.swap {n m : Nat} {W V : Nat → Nat → Nat} {a b : Nat} (ha : a < n) (hb : b < n) (h1 : ∀ j, j < m → V a j = W b j) (h2 : ∀ j, j < m → V b j = W a j) (h : ∀ i, i < n → i ≠ a → i ≠ b → ∀ j, j < m → V i j = W i j) : NEq n m W V := fun x _ => by
  constructor
  · intro g i hi
    by_cases e1 : i = a
    · subst e1; rw [dot_congr m h1 (fun _ _ => rfl)]; exact g b hb
    by_cases e2 : i = b
    · subst e2; rw [dot_congr m h2 (fun _ _ => rfl)]; exact g a ha
    rw [dot_congr m (h i hi e1 e2) (fun _ _ => rfl)]; exact g i hi
  · intro g i hi
    by_cases e1 : i = a
    · subst e1; rw [← dot_congr m h2 (fun _ _ => rfl)]; exact g b hb
    by_cases e2 : i = b
    · subst e2; rw [← dot_congr m h1 (fun _ _ => rfl)]; exact g a ha
    rw [← dot_congr m (h i hi e1 e2) (fun _ _ => rfl)]; exact g i hi
theorem NEq.scale {n m : Nat} {W V : Nat → Nat → Nat} {a s : Nat} (ha : a < n) (hs : s < 256) (h0 : s ≠ 0) (h1 : ∀ j, j < m → V a j = gmul s (W a j)) (h : ∀ i, i < n → i ≠ a → ∀ j, j < m → V i j = W i j) : NEq n m W V := fun x _ => by
  have e : dot (V a) x m = gmul s (dot (W a) x m) := by rw [dot_congr m h1 (fun _ _ => rfl), dot_scale s hs]
  constructor
  · intro g i hi
    by_cases e1 : i = a
    · subst e1; rw [e, g i hi, gmul_zero_right]
    rw [dot_congr m (h i hi e1) (fun _ _ => rfl)]; exact g i hi
  · intro g i hi
    by_cases e1 : i = a
    · subst e1
      have := g i hi
      rw [e] at this
      rcases gmul_eq_zero this with h | h
      · exact absurd h h0
      · exact h
    rw [← dot_congr m (h i hi e1) (fun _ _ => rfl)]; exact g i hi
theorem NEq.add {n m : Nat} {W V : Nat → Nat → Nat} {a b s : Nat} (_ha : a < n) (hb : b < n) (hab : a ≠ b) (hs : s < 256) (hW : ∀ i, B8 (W i)) (h1 : ∀ j, j < m → V a j = W a j ^^^ gmul s (W b j)) (h : ∀ i, i < n → i ≠ a → ∀ j, j < m → V i j = W i j) : NEq n m W V := fun x hx => by
  have e : dot (V a) x m = dot (W a) x m ^^^ gmul s (dot (W b) x m) := by
    rw [dot_congr m h1 (fun _ _ => rfl), dot_add (hW a) (fun j => gmul_lt _ _) hx, dot_scale s hs]
  have eb : dot (V b) x m = dot (W b) x m := dot_congr m (h b hb (fun h => hab h.symm)) (fun _ _ => rfl)
  constructor
  · intro g i hi
    by_cases e1 : i = a
    · subst e1; rw [e, g i hi, g b hb, gmul_zero_right]; rfl
    rw [dot_congr m (h i hi e1) (fun _ _ => rfl)]; exact g i hi
  · intro g i hi
    by_cases e1 : i = a
    · subst e1
      have := g i hi
      rw [e, ← eb, g b hb, gmul_zero_right, Nat.xor_zero] at this
      exact this
    rw [← dot_congr m (h i hi e1) (fun _ _ => rfl)]; exact g i hi

/-- Only nothing is sent to nothing by the left n columns. -/
def Inj (W : Nat → Nat → Nat) (n m : Nat) : Prop := ∀ x, B8 x → (∀ j, n ≤ j → x j = 0) → Null W n m x → ∀ j, x j = 0
theorem Inj.of {W V : Nat → Nat → Nat} {n m : Nat} (h : Inj W n m) (e : NEq n m W V) : Inj V n m := fun x hx h0 hn => h x hx h0 ((e x hx).2 hn)
/-- One whose left n columns are the identity's is. -/
theorem Inj.unit {W : Nat → Nat → Nat} {n m : Nat} (hnm : n ≤ m) (h : ∀ i, i < n → ∀ j, j < n → W i j = if i = j then 1 else 0) : Inj W n m := fun x hx h0 hn j => by
  by_cases hj : j < n
  · have := hn j hj
    obtain ⟨p, rfl⟩ := Nat.exists_eq_add_of_le hnm
    rw [dot_split, dot_zero_right _ p (fun i _ => h0 (n + i) (by omega)), Nat.xor_zero, dot_comm, dot_one x hx j n hj (by rw [h j hj j hj, if_pos rfl]) (fun i hi hne => by rw [h j hj i hi, if_neg (fun e => hne e.symm)])] at this
    exact this
  · exact h0 j (by omega)
/-- A column in which no pivot is found, behind an upper triangle: something is sent to nothing. -/
theorem no_pivot {W : Nat → Nat → Nat} {n m r : Nat} (hW : ∀ i, B8 (W i)) (hr : r < n) (hnm : n ≤ m) (h1 : ∀ i, i < r → W i i = 1) (h0 : ∀ i j, i < n → j < r → j < i → W i j = 0) (hc : ∀ i, r ≤ i → i < n → W i r = 0) : ¬ Inj W n m := by
  have key : ∀ d k, d + k = r → ∃ x : Nat → Nat, B8 x ∧ x r = 1 ∧ (∀ j, r < j → x j = 0) ∧ ∀ i, k ≤ i → i < n → dot (W i) x m = 0 := by
    intro d
    induction d with
    | zero =>
      intro k hk
      obtain rfl : k = r := by omega
      have hx : B8 fun j => if j = k then 1 else 0 := fun j => by dsimp; split <;> omega
      refine ⟨fun j => if j = k then 1 else 0, hx, by simp, fun j hj => by simp; omega, fun i h1 h2 => ?_⟩
      rw [dot_one (W i) (hW i) (x := fun j => if j = k then 1 else 0) k m (by omega) (by simp) (fun j _ hne => by simp [hne])]
      exact hc i h1 h2
    | succ d ih =>
      intro k hk
      obtain ⟨x, hx, hxr, hx0, hxn⟩ := ih (k + 1) (by omega)
      have hu : B8 fun j => if j = k then 1 else 0 := fun j => by dsimp; split <;> omega
      have hc8 := dot_lt (W k) x m
      have hcu : B8 fun j => gmul (dot (W k) x m) (if j = k then 1 else 0) := fun j => gmul_lt _ _
      refine ⟨fun j => x j ^^^ gmul (dot (W k) x m) (if j = k then 1 else 0), fun j => xor_lt (hx j) (hcu j), ?_, fun j hj => ?_, fun i hi1 hi2 => ?_⟩
      · dsimp only; rw [if_neg (by omega), gmul_zero_right, Nat.xor_zero]; exact hxr
      · dsimp only; rw [if_neg (by omega), gmul_zero_right, Nat.xor_zero]; exact hx0 j hj
      · rw [dot_add_right (hW i) hx hcu, dot_scale_right _ hc8, dot_one (W i) (hW i) (x := fun j => if j = k then 1 else 0) k m (by omega) (by simp) (fun j _ hne => by simp [hne])]
        by_cases hik : i = k
        · subst hik
          rw [h1 i (by omega), gmul_one hc8, Nat.xor_self]
        · rw [h0 i k hi2 (by omega) (by omega), gmul_zero_right, Nat.xor_zero]
          exact hxn i (by omega) hi2
  intro hI
  obtain ⟨x, hx, hxr, hx0, hxn⟩ := key r 0 (by omega)
  have := hI x hx (fun j hj => hx0 j (by omega)) (fun i hi => hxn i (by omega) hi) r
  omega

theorem dot_tail (r : Nat → Nat) {x : Nat → Nat} {n m : Nat} (hnm : n ≤ m) (h : ∀ j, n ≤ j → x j = 0) : dot r x m = dot r x n := by
  obtain ⟨p, rfl⟩ := Nat.exists_eq_add_of_le hnm
  rw [dot_split, dot_zero_right _ p (fun i _ => h (n + i) (by omega)), Nat.xor_zero]
theorem Inj.wide {W V : Nat → Nat → Nat} {n m p : Nat} (hm : n ≤ m) (hp : n ≤ p) (h : Inj W n m) (e : ∀ i, i < n → ∀ j, j < n → W i j = V i j) : Inj V n p := fun x hx h0 hn =>
  h x hx h0 fun i hi => by
    rw [dot_tail _ hm h0, dot_congr n (e i hi) (fun _ _ => rfl), ← dot_tail _ hp h0]
    exact hn i hi
/-- A matrix with the identity behind its left square. -/
def besideU (M : Nat → Nat → Nat) (n : Nat) : Nat → Nat → Nat := fun i j => if j < n then M i j else if j = n + i then 1 else 0
theorem besideU_dot (M : Nat → Nat → Nat) (n i : Nat) (hi : i < n) {z : Nat → Nat} (hz : B8 z) : dot (besideU M n i) z (n + n) = dot (M i) z n ^^^ z (n + i) := by
  rw [dot_split]
  congr 1
  · exact dot_congr n (fun j hj => by show (if j < n then _ else _) = _; rw [if_pos hj]) (fun _ _ => rfl)
  · rw [dot_comm]
    exact dot_one (fun j => z (n + j)) (fun j => hz _) i n hi (by show (if n + i < n then _ else _) = _; rw [if_neg (by omega), if_pos rfl]) (fun j _ hne => by show (if n + j < n then _ else _) = _; rw [if_neg (by omega), if_neg (by omega)])
/-- What the elimination makes of a matrix is its product with what it makes of the identity beside it. -/
theorem elim_eq {M R L : Nat → Nat → Nat} {n m : Nat} (hnm : n ≤ m) (hM : ∀ i, B8 (M i)) (hR : ∀ i, B8 (R i)) (e1 : NEq n m M R) (u1 : ∀ i, i < n → ∀ j, j < n → R i j = if i = j then 1 else 0)
    (e2 : NEq n (n + n) (besideU M n) L) (u2 : ∀ i, i < n → ∀ j, j < n → L i j = if i = j then 1 else 0) : ∀ i, i < n → ∀ j, j < m → R i j = dot (fun k => L i (n + k)) (fun k => M k j) n := by
  intro i hi j hj
  have unit : ∀ (U : Nat → Nat → Nat) (u : ∀ i, i < n → ∀ j, j < n → U i j = if i = j then 1 else 0) (y : Nat → Nat), B8 y → ∀ i, i < n → dot (U i) y n = y i := fun U u y hy i hi => by
    rw [dot_comm]
    exact dot_one y hy i n hi (by rw [u i hi i hi, if_pos rfl]) (fun t ht hne => by rw [u i hi t ht, if_neg (fun e => hne e.symm)])
  have hp : B8 fun t => if t < n then R t j else 0 := fun t => by
    dsimp only; split
    · exact hR _ _
    · omega
  have hd : B8 fun t => if t = j then 1 else 0 := fun t => by dsimp only; split <;> omega
  have part : ∀ (r : Nat → Nat), dot r (fun t => if t < n then R t j else 0) m = dot r (fun t => R t j) n := fun r => by
    rw [dot_tail r hnm (fun t ht => if_neg (by omega))]
    exact dot_congr n (fun _ _ => rfl) (fun t ht => if_pos ht)
  have hx : B8 fun t => (if t < n then R t j else 0) ^^^ (if t = j then 1 else 0) := fun t => xor_lt (hp t) (hd t)
  have row : ∀ (U : Nat → Nat → Nat), (∀ i, B8 (U i)) → ∀ i, dot (U i) (fun t => (if t < n then R t j else 0) ^^^ (if t = j then 1 else 0)) m = dot (U i) (fun t => R t j) n ^^^ U i j := fun U hU i => by
    rw [dot_add_right (hU i) hp hd, part, dot_one (U i) (hU i) (x := fun t => if t = j then 1 else 0) j m hj (by simp) (fun t _ hne => by simp [hne])]
  have n1 : Null R n m fun t => (if t < n then R t j else 0) ^^^ (if t = j then 1 else 0) := fun i hi => by
    rw [row R hR, unit R u1 (fun t => R t j) (fun t => hR _ _) i hi, Nat.xor_self]
  have n2 := (e1 _ hx).2 n1
  have hz : B8 fun t => if t < n then R t j else M (t - n) j := fun t => by
    dsimp only; split
    · exact hR _ _
    · exact hM _ _
  have cong : ∀ r : Nat → Nat, dot r (fun t => if t < n then R t j else M (t - n) j) n = dot r (fun t => R t j) n := fun r => dot_congr n (fun _ _ => rfl) (fun t ht => if_pos ht)
  have n3 : Null (besideU M n) n (n + n) fun t => if t < n then R t j else M (t - n) j := fun i hi => by
    have h := n2 i hi
    rw [row M hM] at h
    rw [besideU_dot M n i hi hz, cong, if_neg (by omega), show n + i - n = i by omega]
    exact h
  have n4 := (e2 _ hz).1 n3 i hi
  rw [dot_split, cong, unit L u2 (fun t => R t j) (fun t => hR _ _) i hi, dot_congr (y := fun k => M k j) n (fun _ _ => rfl) (fun k _ => by rw [if_neg (by omega), show n + k - n = k by omega])] at n4
  exact xor_eq_zero' n4
end Go.Proofs.YtpjfokolbgcbhaaDoor
