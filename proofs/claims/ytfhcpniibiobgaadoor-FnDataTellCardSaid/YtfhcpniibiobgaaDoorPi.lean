/- Hashing up along a path: the program's way and the reference's are one: plain. -/
import Derived.Test.YtfhcpniibiobgaaDoorPh
namespace Go.Proofs.YtfhcpniibiobgaaDoor.Pure
open Go.RowKit Go.Proofs.YtfhcpniibiobgaaDoorW.PrintWords Go.Proofs.YtfhcpniibiobgaaDoorW.PrintMore Go.Proofs.YtfhcpniibiobgaaDoorW.PrintLast

/-- Bit i of an index. -/
abbrev bitI (ix : Int) (i : Nat) : Int := Go.bits .and .u64 (ix / 2 ^ min i 64) 1
def chI (a0 a2 a5 ix : Int) : List (List Int) → List Int → Nat → List Int
  | [], s, _ => s
  | h :: t, s, i => chI a0 a2 a5 ix t (if bitI ix i = 0 then hcF a0 a2 a5 s h else hcF a0 a2 a5 h s) (i + 1)
def chB (a0 a2 a5 : Int) : List (List Int) → List Int → List Int
  | [], s => s
  | h :: t, s => chB a0 a2 a5 t (hcF a0 a2 a5 h s)
theorem chI_len (a0 a2 a5 ix : Int) : ∀ (l : List (List Int)) (s : List Int) (i : Nat), (∀ h ∈ l, h.length ≤ 3000000000) → (chI a0 a2 a5 ix l s i).length ≤ s.length + 3000000009 * l.length
  | [], s, i, _ => by simp [chI]
  | h :: t, s, i, hl => by
    have h1 := hl h (by simp)
    have e1 := hcF_len a0 a2 a5 s h
    have e2 := hcF_len a0 a2 a5 h s
    rw [chI, List.length_cons]
    split
    · have := chI_len a0 a2 a5 ix t (hcF a0 a2 a5 s h) (i + 1) (fun x hx => hl x (by simp [hx]))
      omega
    · have := chI_len a0 a2 a5 ix t (hcF a0 a2 a5 h s) (i + 1) (fun x hx => hl x (by simp [hx]))
      omega
theorem chB_len (a0 a2 a5 : Int) : ∀ (l : List (List Int)) (s : List Int), (∀ h ∈ l, h.length ≤ 3000000000) → (chB a0 a2 a5 l s).length ≤ s.length + 3000000009 * l.length
  | [], s, _ => by simp [chB]
  | h :: t, s, hl => by
    have h1 := hl h (by simp)
    have e2 := hcF_len a0 a2 a5 h s
    rw [chB, List.length_cons]
    have := chB_len a0 a2 a5 t (hcF a0 a2 a5 h s) (fun x hx => hl x (by simp [hx]))
    omega
theorem toyB (a0 a1 a2 a3 a4 a5 : Int) : ∀ (l : List (List Int)) (s : List Int), (∀ h ∈ l, h.length ≤ 3000000000) → s.length + 3000000009 * l.length ≤ 10000000000000 → Qf.chainB a0 a1 a2 a3 a4 a5 l s = some (chB a0 a2 a5 l s)
  | [], s, _, _ => rfl
  | h :: t, s, hl, hs => by
    have h1 := hl h (by simp)
    rw [List.length_cons] at hs
    have e2 := hcF_len a0 a2 a5 h s
    rw [Qf.chainB, chB, toyHC a0 a1 a2 a3 a4 a5 h s (by omega) (by omega), Option.bind_some]
    exact toyB a0 a1 a2 a3 a4 a5 t _ (fun x hx => hl x (by simp [hx])) (by omega)

end Go.Proofs.YtfhcpniibiobgaaDoor.Pure
