/- Hashing up along a path: the program's way and the reference's are one: plain. -/
import Derived.Test.YtfhcpniibiobgaaPh
namespace Go.Proofs.Ytfhcpniibiobgaa.Pure
open Go.RowKit Go.Proofs.YtfhcpniibiobgaaW.PrintWords Go.Proofs.YtfhcpniibiobgaaW.PrintMore Go.Proofs.YtfhcpniibiobgaaW.PrintLast

/-- Bit i of an index. -/
abbrev bitI (ix : Int) (i : Nat) : Int := Go.bits .and .u64 (ix / 2 ^ min i 64) 1
def chI (a0 a2 a5 ix : Int) : List (List Int) → List Int → Nat → List Int
  | [], s, _ => s
  | h :: t, s, i => chI a0 a2 a5 ix t (if bitI ix i = 0 then hcF a0 a2 a5 s h else hcF a0 a2 a5 h s) (i + 1)
def chB (a0 a2 a5 : Int) : List (List Int) → List Int → List Int
  | [], s => s
  | h :: t, s => chB a0 a2 a5 t (hcF a0 a2 a5 h s)
theorem chI_len (a0 a2 a5 ix : Int) : ∀ (l : List (List Int)) (s : List Int) (i : Nat), (∀ h ∈ l, h.length ≤ 5000) → (chI a0 a2 a5 ix l s i).length ≤ s.length + 5009 * l.length
  | [], s, i, _ => by simp [chI]
  | h :: t, s, i, hl => by
    have h1 := hl h (by simp)
    have e1 := hcF_len a0 a2 a5 s h
    have e2 := hcF_len a0 a2 a5 h s
    rw [chI, List.length_cons]
    split
    · have := chI_len a0 a2 a5 ix t (hcF a0 a2 a5 s h) (i + 1) (fun x hx => hl x (by simp [hx]))
      omega
    · have := chI_len a0 a2 a5 ix t (hcF a0 a2 a5 h s) (i + 1) (fun x hx => hl x (by simp [hx]))
      omega
theorem chB_len (a0 a2 a5 : Int) : ∀ (l : List (List Int)) (s : List Int), (∀ h ∈ l, h.length ≤ 5000) → (chB a0 a2 a5 l s).length ≤ s.length + 5009 * l.length
  | [], s, _ => by simp [chB]
  | h :: t, s, hl => by
    have h1 := hl h (by simp)
    have e2 := hcF_len a0 a2 a5 h s
    rw [chB, List.length_cons]
    have := chB_len a0 a2 a5 t (hcF a0 a2 a5 h s) (fun x hx => hl x (by simp [hx]))
    omega
theorem toyI (a0 a1 a2 a3 a4 a5 ix : Int) : ∀ (l : List (List Int)) (s : List Int) (i : Nat), (∀ h ∈ l, h.length ≤ 5000) → s.length + 5009 * l.length ≤ 100000000 → Qf.chainI a0 a1 a2 a3 a4 a5 ix l s i = some (chI a0 a2 a5 ix l s i)
  | [], s, i, _, _ => rfl
  | h :: t, s, i, hl, hs => by
    have h1 := hl h (by simp)
    rw [List.length_cons] at hs
    have e1 := hcF_len a0 a2 a5 s h
    have e2 := hcF_len a0 a2 a5 h s
    rw [Qf.chainI, chI, toyHC a0 a1 a2 a3 a4 a5 s h (by omega) (by omega), toyHC a0 a1 a2 a3 a4 a5 h s (by omega) (by omega)]
    by_cases hb : bitI ix i = 0
    · rw [if_pos hb, if_pos hb, Option.bind_some]
      exact toyI a0 a1 a2 a3 a4 a5 ix t _ (i + 1) (fun x hx => hl x (by simp [hx])) (by omega)
    · rw [if_neg hb, if_neg hb, Option.bind_some]
      exact toyI a0 a1 a2 a3 a4 a5 ix t _ (i + 1) (fun x hx => hl x (by simp [hx])) (by omega)
theorem toyB (a0 a1 a2 a3 a4 a5 : Int) : ∀ (l : List (List Int)) (s : List Int), (∀ h ∈ l, h.length ≤ 5000) → s.length + 5009 * l.length ≤ 100000000 → Qf.chainB a0 a1 a2 a3 a4 a5 l s = some (chB a0 a2 a5 l s)
  | [], s, _, _ => rfl
  | h :: t, s, hl, hs => by
    have h1 := hl h (by simp)
    rw [List.length_cons] at hs
    have e2 := hcF_len a0 a2 a5 h s
    rw [Qf.chainB, chB, toyHC a0 a1 a2 a3 a4 a5 h s (by omega) (by omega), Option.bind_some]
    exact toyB a0 a1 a2 a3 a4 a5 t _ (fun x hx => hl x (by simp [hx])) (by omega)

/-- The reference, its two kinds in one. -/
def chS (a0 a2 a5 ix : Int) (right : Bool) : List (List Int) → List Int → Nat → List Int
  | [], s, _ => s
  | h :: t, s, i => chS a0 a2 a5 ix right t (if bitI ix i == 1 then hcF a0 a2 a5 h s else if right then s else hcF a0 a2 a5 s h) (i + 1)
theorem specS (a0 a1 a2 a3 a4 a5 ix : Int) (right : Bool) (l : List (List Int)) (hl : ∀ h ∈ l, h.length ≤ 5000) (h64 : l.length ≤ 64) : ∀ (m j k : Nat) (s : List Int), j + m = l.length → s.length + 5009 * m ≤ 10000000 → 100000000 + 2 * m ≤ k → Qg.spec_Chained.l0 k s ix right l (l.length : Int) (j : Int) a0 a1 a2 a3 a4 a5 = some (chS a0 a2 a5 ix right (l.drop j) s j)
  | 0, j, k, s, h, _, hk => by
    obtain ⟨k, rfl⟩ : ∃ k', k = k' + 1 := ⟨k - 1, by omega⟩
    rw [Qg.spec_Chained.l0, if_neg (by omega), List.drop_eq_nil_of_le (by omega)]
    rfl
  | m + 1, j, k, s, h, hs, hk => by
    obtain ⟨k, rfl⟩ : ∃ k', k = k' + 1 + 1 := ⟨k - 2, by omega⟩
    have hj : j < l.length := by omega
    have hx : Qg.rd_L1 l (j : Int) = l[j] := by
      show l.getD (j : Int).toNat [] = l[j]
      rw [Int.toNat_natCast, List.getD_eq_getElem?_getD, List.getElem?_eq_getElem hj]
      rfl
    have h1 := hl l[j] (List.getElem_mem hj)
    have e1 := hcF_len a0 a2 a5 s l[j]
    have e2 := hcF_len a0 a2 a5 l[j] s
    have hsh : shr .u64 ix (j : Int) = ix / 2 ^ min j 64 := by
      show ix / 2 ^ min (j : Int).toNat 64 = _
      rw [Int.toNat_natCast]
    rw [Qg.spec_Chained.l0, if_pos (by omega), if_pos (by omega), if_pos (by omega), if_pos (by omega), hx, Qg.spec_Chained.j1, w64p _ (by omega), show ((j : Int) + 1) = ((j + 1 : Nat) : Int) by omega, List.drop_eq_getElem_cons hj, chS, hsh, specHC a0 a1 a2 a3 a4 a5 l[j] s (by omega) (by omega) k (by omega), specHC a0 a1 a2 a3 a4 a5 s l[j] (by omega) (by omega) k (by omega), Option.bind_some, Option.bind_some]
    by_cases hb : (bitI ix j == 1) = true
    · rw [if_pos hb, if_pos hb]
      exact specS a0 a1 a2 a3 a4 a5 ix right l hl h64 m (j + 1) k _ (by omega) (by omega) (by omega)
    · rw [if_neg hb, if_neg hb]
      cases right
      · rw [if_neg (by simp), if_neg (by simp)]
        exact specS a0 a1 a2 a3 a4 a5 ix false l hl h64 m (j + 1) k _ (by omega) (by omega) (by omega)
      · rw [if_pos rfl, if_pos rfl]
        exact specS a0 a1 a2 a3 a4 a5 ix true l hl h64 m (j + 1) k _ (by omega) (by omega) (by omega)
end Go.Proofs.Ytfhcpniibiobgaa.Pure
