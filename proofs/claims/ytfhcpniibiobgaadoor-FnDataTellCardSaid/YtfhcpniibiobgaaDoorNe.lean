/- The tree of testonly: made, asked for its size and a leaf's hash. -/
import Derived.Test.YtfhcpniibiobgaaDoorNc
namespace Go.Proofs.YtfhcpniibiobgaaDoor.Qf
open Go.RowKit Go.Proofs.YtfhcpniibiobgaaDoorW.PrintWords Go.Proofs.YtfhcpniibiobgaaDoorW.PrintLast Go.Proofs.YtfhcpniibiobgaaDoorW.PrintMore
open Hs (CB CL at_L at_B infoB infoL R_of_blk)

set_option maxHeartbeats 1000000 in
set_option maxRecDepth 100000 in
theorem tNew_calls (T : Value) (w : World) :
    Calls Tryd.prog 46 #[.iface 90 T] w fun en w' => en = .returned (.pointer (some ⟨w.heap.size, 0, none⟩)) ∧ w' = w.alloc (.cells #[.iface 90 T, .int .u64 0, .slice none 0 0] 143) := by
  go_enter Tryd.func46, Tryd.ntmps46
  go_wp2
  go_ret
  exact ⟨rfl, rfl⟩
/-- The new tree is empty. -/
theorem TSt.init (T : Value) (w0 w : World) (hb : Below w0.heap.size w0 w) : TSt T w0 w.heap.size (fun k => k = w.heap.size) (w.alloc (.cells #[T, .int .u64 0, .slice none 0 0] 143)) 0 (.slice none 0 0) [] [] [] where
  below := below_step hb (below_alloc (Below.refl _ _) _)
  base := fun k hk => by rw [hk]; exact hb.size
  top := fun k hk => by rw [hk]; simp
  obj := heap_alloc_new _ _
  sobj := rfl
  outer := Kd.R_nil _ _ _ _ _
  sown := fun k hk => by simp [Value.ownBlock] at hk
  lo := rfl
  lv := rfl
  row := fun i hi => by simp at hi
  apart := fun i j hi => by simp at hi
set_option maxHeartbeats 1000000 in
set_option maxRecDepth 100000 in
theorem tSize_calls (gt : Nat) (T vh : Value) (n : Int) (w : World) (h : w.heap[gt]? = some (.cells #[T, .int .u64 n, vh] 143 (0, 0))) :
    Calls Tryd.prog 49 #[.pointer (some ⟨gt, 0, none⟩)] w fun en w' => en = .returned (.int .u64 n) ∧ Below w.heap.size w w' := by
  have k1 : w.cell? ⟨gt, 1, none⟩ = some (.int .u64 n) := (blk_cell h 1).trans rfl
  clear h
  go_enter Tryd.func49, Tryd.ntmps49
  go_wp2
  go_ret
  exact ⟨rfl, Below.refl _ _⟩
set_option maxHeartbeats 1000000 in
set_option maxRecDepth 100000 in
theorem tLeaf_calls (T : Value) (w0 : World) (gt : Nat) (S : Nat → Prop) (w : World) (n : Int) (vh : Value) (rv : List RV) (rows : List (List (List Int))) (i : Nat) (h : TSt T w0 gt S w n vh rv rv rows) (hr : 0 < rows.length) (hi : i < (rows.getD 0 []).length) (hl : (rows.getD 0 []).length ≤ 100000) :
    Calls Tryd.prog 50 #[.pointer (some ⟨gt, 0, none⟩), .int .u64 (i : Nat)] w fun en w' => ∃ A c, en = .returned (.slice A ((rows.getD 0 []).getD i []).length c) ∧ ((rows.getD 0 []).getD i []).length ≤ c ∧ Safe S w A ((rows.getD 0 []).getD i []) ∧ Below w.heap.size w w' := by
  obtain ⟨go, cap, hvh, hcap⟩ := h.form hr
  subst hvh
  have k2 : w.cell? ⟨gt, 2, none⟩ = some (.slice (some ⟨go, 0, none⟩) rows.length cap) := (blk_cell h.obj 2).trans rfl
  have hc := (h.cells rfl 0 hr).1
  obtain ⟨Ar, cr, hrv, hcr⟩ := h.rowv 0 hr
  have hrow := h.row 0 hr
  rw [hrv] at hc hrow
  obtain ⟨ad, cx, Ah, ch, hsl, _, hx, hlh, hsafe⟩ := hrow.at i hi
  injection hsl with e1 _ e3
  subst e1 e3
  have hc0 : w.cell? ⟨go, 0, none⟩ = some (.slice (some ad) (rows.getD 0 []).length cr) := hc
  have hL : (0 : Int) < (rows.length : Int) := by omega
  have HL := Aside0.mk hl
  have hi0 : (0 : Int) ≤ (i : Int) := by omega
  have hi1 : (i : Int) < ((rows.getD 0 []).length : Int) := by omega
  have HSF := Aside0.mk hsafe
  have HLH := Aside0.mk hlh
  clear hsafe hlh h hrow hc hrv hcr hcap hl
  generalize (rows.getD 0 []).getD i [] = hsh at hx HSF HLH ⊢
  generalize (rows.getD 0 []).length = L0 at hc0 hi1 hi HL
  go_enter Tryd.func50, Tryd.ntmps50
  go_wp2
  go_ret
  exact ⟨Ah, ch, rfl, HLH.out, HSF.out, Below.refl _ _⟩
end Go.Proofs.YtfhcpniibiobgaaDoor.Qf
