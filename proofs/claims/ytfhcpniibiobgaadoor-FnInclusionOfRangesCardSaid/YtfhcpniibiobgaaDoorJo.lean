/- Several texts, joined. -/
import Derived.Test.YtfhcpniibiobgaaDoorJk
import Derived.Test.YtfhcpniibiobgaaDoorJl
import Derived.Test.YtfhcpniibiobgaaDoorJy
import Derived.Test.YtfhcpniibiobgaaDoorJx
namespace Go.Proofs.YtfhcpniibiobgaaDoor.Qf
open Go.RowKit Go.Proofs.YtfhcpniibiobgaaDoorW.PrintWords Go.Proofs.YtfhcpniibiobgaaDoorW.PrintLast Go.Proofs.YtfhcpniibiobgaaDoorW.PrintMore
open Hs (CB CL at_L at_B infoB infoL R_of_blk)
abbrev RV := Option Addr × Nat × Nat
abbrev encR (x : RV) : Value := .slice x.1 x.2.1 x.2.2
abbrev z0 : RV := (none, 0, 0)
abbrev kO : Kd RV := Kd.scalar encR (fun _ => rfl)
theorem getD_set_self {α : Type} (l : List α) (i : Nat) (x d : α) (h : i < l.length) : (l.set i x).getD i d = x := by
  rw [List.getD_eq_getElem?_getD, List.getElem?_set_self h]
  rfl
theorem getD_set_ne {α : Type} (l : List α) (i j : Nat) (x d : α) (h : i ≠ j) : (l.set i x).getD j d = l.getD j d := by
  rw [List.getD_eq_getElem?_getD, List.getElem?_set_ne h, List.getD_eq_getElem?_getD]
theorem getD_snoc {α : Type} (l : List α) (x d : α) (j : Nat) : (l ++ [x]).getD j d = if j = l.length then x else l.getD j d := by
  by_cases h : j = l.length
  · subst h
    rw [if_pos rfl, List.getD_eq_getElem?_getD, List.getElem?_append_right (Nat.le_refl _), Nat.sub_self]
    rfl
  · rw [if_neg h, List.getD_eq_getElem?_getD, List.getD_eq_getElem?_getD]
    rcases Nat.lt_or_ge j l.length with hl | hg
    · rw [List.getElem?_append_left hl]
    · rw [List.getElem?_append_right hg, List.getElem?_eq_none (by simp; omega), List.getElem?_eq_none hg]
structure HRow (w0 : World) (gr cap : Nat) (w : World) (hv : List RV) (L : List (List Int)) : Prop where
  own : kO.R 28 w w0.heap.size (fun _ => True) (.slice (some ⟨gr, 0, none⟩) L.length cap) hv
  len : hv.length = L.length
  el : ∀ i, i < L.length → ∃ A c, hv.getD i z0 = (A, (L.getD i []).length, c) ∧ (L.getD i []).length ≤ c ∧ Safe (fun k => k = gr) w A (L.getD i [])
theorem HRow.step {w0 : World} {gr cap : Nat} {w w' : World} {hv : List RV} {L : List (List Int)} (h : HRow w0 gr cap w hv L) (hb : Below w.heap.size w w') : HRow w0 gr cap w' hv L :=
  ⟨Kd.R_below h.own hb, h.len, fun i hi => by
    obtain ⟨A, c, e1, e2, e3⟩ := h.el i hi
    exact ⟨A, c, e1, e2, e3.below hb⟩⟩
theorem HRow.at {w0 : World} {gr cap : Nat} {w : World} {hv : List RV} {L : List (List Int)} (h : HRow w0 gr cap w hv L) (i : Nat) (hi : i < L.length) : ∃ A c, w.cell? ⟨gr, i, none⟩ = some (.slice A (L.getD i []).length c) ∧ (L.getD i []).length ≤ c ∧ Safe (fun k => k = gr) w A (L.getD i []) := by
  obtain ⟨A, c, e1, e2, e3⟩ := h.el i hi
  have hcs := (Kd.R_celln z0 h.own (i : Int) (by omega) (by omega)).1
  rw [Int.toNat_natCast] at hcs
  have e4 : rdOf z0 hv (i : Int) = (A, (L.getD i []).length, c) := by
    show hv.getD (i : Int).toNat z0 = _
    rw [Int.toNat_natCast]
    exact e1
  rw [e4] at hcs
  exact ⟨A, c, hcs, e2, e3⟩
theorem HRow.put {w0 : World} {gr cap : Nat} {w : World} {hv : List RV} {L : List (List Int)} (h : HRow w0 gr cap w hv L) (i : Nat) (hi : i < L.length) {A : Option Addr} {s : List Int} {c : Nat} (hc : s.length ≤ c) (hs : Safe (fun k => k = gr) w A s) : HRow w0 gr cap (w.setCell ⟨gr, i, none⟩ (.slice A s.length c)) (hv.set i ((A, s.length, c) : RV)) (L.set i s) := by
  have hput := Kd.R_putn h.own (i : Int) ((A, s.length, c) : RV)
  rw [Int.toNat_natCast] at hput
  have hk : KeptS (fun k => k = gr) w (w.setCell ⟨gr, i, none⟩ (.slice A s.length c)) := ⟨by simp, fun k _ hne => by
    exact Below.heap_setCell w ⟨gr, i, none⟩ _ k hne⟩
  refine ⟨by rw [List.length_set]; exact hput, by rw [List.length_set, List.length_set]; exact h.len, fun j hj => ?_⟩
  rw [List.length_set] at hj
  by_cases e : i = j
  · subst e
    rw [getD_set_self _ _ _ _ (by rw [h.len]; exact hi), getD_set_self _ _ _ _ hi]
    exact ⟨A, c, rfl, hc, hs.step (Grows.refl _ _) hk⟩
  · rw [getD_set_ne _ _ _ _ _ e, getD_set_ne _ _ _ _ _ e]
    obtain ⟨A', c', e1, e2, e3⟩ := h.el j hj
    exact ⟨A', c', e1, e2, e3.step (Grows.refl _ _) hk⟩
theorem HRow.read {w0 : World} {gr cap : Nat} {w : World} {hv : List RV} {L r : List (List Int)} (h : HRow w0 gr cap w hv L) (hl : L.length ≤ 1000) (hr : r.length ≤ L.length) (he : ∀ j, j < r.length → L.getD j [] = r.getD j []) : CL w (some ⟨gr, 0, none⟩) r := by
  refine ⟨rfl, by omega, fun _ => ⟨⟨gr, 0, none⟩, rfl, fun i q hi => ?_⟩⟩
  obtain ⟨hil, hiq⟩ := List.getElem?_eq_some_iff.1 hi
  have hget : r.getD i [] = q := by rw [List.getD_eq_getElem?_getD, hi]; rfl
  obtain ⟨A, c, e1, e2, e3⟩ := h.at i (by omega)
  rw [he i hil, hget] at e1 e2 e3
  refine ⟨_, rfl, ⟨A, c, rfl, e2, e3.bytes⟩, fun u x hu => ?_⟩
  rcases u with _ | u
  · obtain rfl := Option.some.inj hu
    have ha : ∀ q : Nat, (⟨gr, 0, none⟩ : Addr).add q = ⟨gr, q, none⟩ := fun q => by
      simp [Addr.add]
      intro h0
      exact h0.symm
    show w.cell? ((⟨gr, 0, none⟩ : Addr).add (i * 1 + 0)) = _
    rw [Nat.mul_one, Nat.add_zero, ha]
    exact e1
  · simp at hu
def decR : Value → RV
  | .slice a n c => (a, n, c)
  | _ => z0
theorem HRow.of_S {w w' : World} {v : Value} {L : List (List Int)} (h : Kd.S (Kd.slice 5 (Kd.int .u8)) 28 w' w.heap.size (fun _ => True) v L) (hne : 0 < L.length) : ∃ gr cap hv, v = .slice (some ⟨gr, 0, none⟩) L.length cap ∧ L.length ≤ cap ∧ HRow w gr cap w' hv L := by
  have hR := Kd.S_R h
  obtain ⟨A, c, e, hl, _⟩ := Kd.R_reads hR
  obtain ⟨h0, inner, ho, hlen, hel⟩ := hR
  have hsz : (Kd.slice 5 (Kd.int .u8)).sz = 1 := rfl
  rw [hsz] at hlen hel ho
  have hA : ∃ gr, A = some ⟨gr, 0, none⟩ := by
    rcases ho.2 with ⟨hv, hn⟩ | ⟨g, cap, cur, hv, _⟩
    · rw [e] at hv
      injection hv with _ h2 _
      omega
    · rw [e] at hv
      injection hv with h1 _ _
      exact ⟨g, h1⟩
  obtain ⟨gr, rfl⟩ := hA
  subst e
  have hil : inner.length = L.length := by rw [hlen, Nat.mul_one]
  have hcell : ∀ i (hi : i < L.length), ∃ A' c', inner.getD i .nilIface = .slice A' (L.getD i []).length c' ∧ (L.getD i []).length ≤ c' ∧ Kd.R (Kd.int .u8) 5 w' w.heap.size (fun k => True ∧ some k ≠ (Value.slice (some ⟨gr, 0, none⟩) L.length c).ownBlock) (.slice A' (L.getD i []).length c') (L.getD i []) := fun i hi => by
    have hm := hel i (L.getD i []) (by rw [List.getD_eq_getElem?_getD, List.getElem?_eq_getElem hi]; rfl)
    obtain ⟨u, hu, hr⟩ := hm
    rw [Nat.mul_one] at hu
    have hu2 : inner.getD i .nilIface = u := by
      have h1 : inner.drop i = inner[i] :: inner.drop (i + 1) := List.drop_eq_getElem_cons (by omega)
      rw [h1, List.take_succ_cons, List.take_zero] at hu
      rw [List.getD_eq_getElem?_getD, List.getElem?_eq_getElem (by omega)]
      exact (List.cons.inj hu).1
    obtain ⟨A', c', e', hl', _⟩ := Kd.R_reads hr
    subst e'
    exact ⟨A', c', hu2, hl', hr⟩
  refine ⟨gr, c, inner.map decR, rfl, hl, ⟨⟨fun _ _ => trivial, inner, ?_, ?_, fun j p hp => ?_⟩, by rw [List.length_map, hil], fun i hi => ?_⟩⟩
  · rw [List.length_map, hil]
    exact ho
  · rw [List.length_map]
    show inner.length = inner.length * 1
    rw [Nat.mul_one]
  · rw [List.getElem?_map] at hp
    obtain ⟨u, hu, rfl⟩ := Option.map_eq_some_iff.1 hp
    obtain ⟨hj, huj⟩ := List.getElem?_eq_some_iff.1 hu
    obtain ⟨A', c', e1, _, _⟩ := hcell j (by omega)
    rw [List.getD_eq_getElem?_getD, hu] at e1
    have e2 : u = _ := e1
    show (inner.drop (j * 1)).take 1 = [encR (decR u)]
    rw [Nat.mul_one, List.drop_eq_getElem_cons hj, List.take_succ_cons, List.take_zero, huj, e2]
    rfl
  · obtain ⟨A', c', e1, e2, e3⟩ := hcell i hi
    refine ⟨A', c', ?_, e2, (Kd.R_reads' e3).2.2, fun _ ad e => ?_⟩
    · have hi' : i < inner.length := by omega
      rw [List.getD_eq_getElem?_getD, List.getElem?_eq_getElem hi'] at e1
      have e1' : inner[i] = _ := e1
      rw [List.getD_eq_getElem?_getD, List.getElem?_map, List.getElem?_eq_getElem hi']
      show decR inner[i] = _
      rw [e1']
      rfl
    · subst e
      have h1 := hash_blk (Kd.R_mono e3 (fun _ _ => trivial)) ad rfl
      refine ⟨h1.2, fun hs => ?_⟩
      have h2 := (e3.1 ad.block rfl).2
      exact h2 (by rw [hs]; rfl)
def rehG (a0 a1 a2 a3 a4 a5 : Int) (L : List (List Int)) (B E : Nat) : Nat → Nat → List (List Int) → Option (List (List Int))
  | 0, _, out => some out
  | f + 1, i, out => if i < L.length then
      (if B ≤ i ∧ i < E then (chainB a0 a1 a2 a3 a4 a5 ((L.drop (i + 1)).take (E - (i + 1))) (L.getD i [])).bind fun s => rehG a0 a1 a2 a3 a4 a5 L B E f E (out ++ [s]) else rehG a0 a1 a2 a3 a4 a5 L B E f (i + 1) (out ++ [L.getD i []]))
    else some out
structure RhSt (w0 : World) (gr cap : Nat) (L : List (List Int)) (gb : Nat) (bc : Array Value) (w : World) (i : Nat) (out Lc : List (List Int)) (hvc : List RV) : Prop where
  len : Lc.length = L.length
  oi : out.length ≤ i
  eq : ∀ j, i ≤ j → Lc.getD j [] = L.getD j []
  eo : ∀ j, j < out.length → Lc.getD j [] = out.getD j []
  row : HRow w0 gr cap w hvc Lc
  below : Below w0.heap.size w0 w
  box : w.heap[gb]? = some (.cells bc 132 (0, 0))
theorem RhSt.step {w0 : World} {gr cap : Nat} {L : List (List Int)} {gb : Nat} {bc : Array Value} {w w' : World} {i : Nat} {out Lc : List (List Int)} {hvc : List RV} (h : RhSt w0 gr cap L gb bc w i out Lc hvc) (hb : Below w.heap.size w w') : RhSt w0 gr cap L gb bc w' i out Lc hvc :=
  ⟨h.len, h.oi, h.eq, h.eo, h.row.step hb, below_step h.below hb, blk_below h.box hb⟩
theorem RhSt.put {w0 : World} {gr cap : Nat} {L : List (List Int)} {gb : Nat} {bc : Array Value} {w : World} {i : Nat} {out Lc : List (List Int)} {hvc : List RV} (h : RhSt w0 gr cap L gb bc w i out Lc hvc) (hne : gr ≠ gb) (hi : i < L.length) (i' : Nat) (hii : i < i') {A : Option Addr} {s : List Int} {c : Nat} (hc : s.length ≤ c) (hs : Safe (fun k => k = gr) w A s) :
    RhSt w0 gr cap L gb bc (w.setCell ⟨gr, out.length, none⟩ (.slice A s.length c)) i' (out ++ [s]) (Lc.set out.length s) (hvc.set out.length ((A, s.length, c) : RV)) := by
  have ho : out.length < Lc.length := by have := h.oi; have := h.len; omega
  refine ⟨by rw [List.length_set]; exact h.len, by rw [List.length_append, List.length_singleton]; have := h.oi; omega, fun j hj => ?_, fun j hj => ?_, h.row.put out.length ho hc hs, Below.setCell h.below (Kd.R_base h.row.own gr rfl) _, ?_⟩
  · rw [getD_set_ne _ _ _ _ _ (by have := h.oi; omega)]
    exact h.eq j (by omega)
  · rw [List.length_append, List.length_singleton] at hj
    by_cases e : out.length = j
    · subst e
      rw [getD_set_self _ _ _ _ ho, getD_snoc, if_pos rfl]
    · rw [getD_set_ne _ _ _ _ _ e, getD_snoc, if_neg (by omega)]
      exact h.eo j (by omega)
  · rw [Below.heap_setCell w ⟨gr, out.length, none⟩ _ gb (fun e => hne e.symm)]
    exact h.box
set_option maxHeartbeats 4000000 in
set_option maxRecDepth 100000 in
theorem rehash_calls (a0 a1 a2 a3 a4 a5 : Int) (w0 w : World) (gr cap : Nat) (hv : List RV) (L : List (List Int)) (Ai : Option Addr) (ci B E : Nat) (lv ix : Int) (r : List (List Int)) (hB : Below w0.heap.size w0 w) (h : HRow w0 gr cap w hv L) (hcp : L.length ≤ cap) (hl : L.length ≤ 1000) (hE : E ≤ L.length) (hr : rehG a0 a1 a2 a3 a4 a5 L B E L.length 0 [] = some r) :
    Calls Tryd.prog 82 #[.agg #[.slice Ai L.length ci, .int .i64 (B : Int), .int .i64 (E : Int), .int .u64 lv, .int .u64 ix], .slice (some ⟨gr, 0, none⟩) L.length cap, .func (.func 53) #[.agg #[.int .i64 a0, .int .i64 a1, .int .i64 a2, .int .u64 a3, .int .u64 a4, .int .u64 a5]] #[]] w fun en w' => en = .returned (.tuple #[.slice (some ⟨gr, 0, none⟩) r.length cap, .nilIface]) ∧ CL w' (some ⟨gr, 0, none⟩) r ∧ r.length ≤ cap ∧ Below w0.heap.size w0 w' := by
  have hg0 : w0.heap.size ≤ gr := Kd.R_base h.own gr rfl
  have HG0 := aq hg0
  have hgl := Kd.R_lt h.own gr rfl
  have HGX : Aside0 (gr ≠ w.heap.size) := ⟨by omega⟩
  have HH0 := aq h
  have HB0 := aq hB
  have HCP := aq hcp
  have HL := aq hl
  have HE := aq hE
  have HR := aq hr
  clear hg0 hgl hB h hcp hl hE hr
  have t1 : ((L.length : Int) != (L.length : Int)) = false := bne_eq_false_iff_eq.2 rfl
  have t1n : (L.length != L.length) = false := bne_eq_false_iff_eq.2 rfl
  go_enter Tryd.func82, Tryd.ntmps82
  go_wp2
  have hb3 : Below w.heap.size w (w.alloc (.cells #[.slice Ai L.length ci, .int .i64 (B : Int), .int .i64 (E : Int), .int .u64 lv, .int .u64 ix] 132)).drew := below_drew (below_alloc (Below.refl _ _) _)
  have HX := aq (blk_drew (heap_alloc_new w (.cells #[.slice Ai L.length ci, .int .i64 (B : Int), .int .i64 (E : Int), .int .u64 lv, .int .u64 ix] 132)))
  have HH := aq (HH0.out.step hb3)
  have HB := aq (below_step HB0.out hb3)
  refine start_ (n := 7) (S := fun w' => w'.cell? ⟨w.heap.size, 0, none⟩ = some (.slice Ai L.length ci)) (ds := []) #[false, false, false, false, false, false, false] (by kernel_rfl) rfl rfl (bc HX 0) (fun hHeld => ?_)
  generalize (w.alloc (.cells #[.slice Ai L.length ci, .int .i64 (B : Int), .int .i64 (E : Int), .int .u64 lv, .int .u64 ix] 132)).drew = wz at HX HH HB hHeld ⊢
  generalize w.heap.size = gb at HX HGX hHeld ⊢
  clear hb3 HH0 HB0
  refine pu 0 14 ?_
  refine pu 1 15 ?_
  refine pu 2 16 ?_
  refine ta 3 17 hHeld ?_
  refine pu 4 18 ?_
  refine pu 5 8 ?_
  refine pu 6 9 ?_
  refine done_ (by kernel_rfl) ?_
  clear hHeld
  go_wp2
  go_loopg [10, 11] L.length (fun kq v10 v11 wr => ∃ (i f : Nat) (out Lc : List (List Int)) (hvc : List RV), i + kq = L.length ∧ v11 = .int .i64 (i : Nat) ∧ v10 = .int .i64 (out.length : Nat) ∧ Aside0 (L.length ≤ i + f) ∧ Aside0 (rehG a0 a1 a2 a3 a4 a5 L B E f i out = some r) ∧ Aside0 (RhSt w0 gr cap L gb #[.slice Ai L.length ci, .int .i64 (B : Int), .int .i64 (E : Int), .int .u64 lv, .int .u64 ix] wr i out Lc hvc))
  case atStart => exact ⟨0, L.length, [], L, hv, by omega, rfl, rfl, ⟨by omega⟩, HR, ⟨⟨rfl, by simp, fun _ _ => rfl, fun j hj => by simp at hj, HH.out, HB.out, HX.out⟩⟩⟩
  case round =>
    clear HR HH HB HX
    obtain ⟨i, f, out, Lc, hvc, hi, rfl, rfl, HF, HR, HS⟩ := hrel
    rename World => wr
    have k1 : wr.cell? ⟨gb, 1, none⟩ = some (.int .i64 (B : Int)) := (blk_cell HS.out.box 1).trans rfl
    have k2 : wr.cell? ⟨gb, 2, none⟩ = some (.int .i64 (E : Int)) := (blk_cell HS.out.box 2).trans rfl
    by_cases hlt : i < L.length
    · obtain ⟨f, rfl⟩ : ∃ f', f = f' + 1 := ⟨f - 1, by have := HF.out; omega⟩
      obtain ⟨A, c, hx, hxl, hsf⟩ := HS.out.row.at i (by rw [HS.out.len]; exact hlt)
      rw [HS.out.eq i (Nat.le_refl _)] at hx hxl hsf
      have hrr := HR.out
      rw [rehG, if_pos hlt] at hrr
      obtain ⟨hcs, hfs⟩ := Kd.R_celln z0 HS.out.row.own (out.length : Int) (by omega) (by have := HS.out.oi; have := HS.out.len; omega)
      rw [Int.toNat_natCast] at hcs hfs
      generalize L.getD i [] = s at hx hxl hsf hrr
      have HXL := aq hxl
      have HSF := aq hsf
      have HJL : Aside0 (i < L.length) := ⟨hlt⟩
      clear HR hxl hsf
      have hi0 : (0 : Int) ≤ (i : Int) := by omega
      have hi1 : (i : Int) < (L.length : Int) := by omega
      have ho0 : (0 : Int) ≤ (out.length : Int) := by omega
      have ho1 : (out.length : Int) < (L.length : Int) := by have := HS.out.oi; omega
      have hw1 : ∀ z : Int, z = 1 → wrap64 ((i : Int) + z) = ((i + 1 : Nat) : Int) := fun z hz => by rw [hz, w64_in _ (by have := HL.out; omega)]; omega
      have hw2 : ∀ z : Int, z = 1 → wrap64 ((out.length : Int) + z) = ((out.length + 1 : Nat) : Int) := fun z hz => by rw [hz, w64_in _ (by have := HL.out; have := HS.out.oi; omega)]; omega
      by_cases hblk : B ≤ i ∧ i < E
      · rw [if_pos hblk] at hrr
        obtain ⟨s2, hs2, hr2⟩ := Option.bind_eq_some_iff.mp hrr
        have HS2 := aq hs2
        have HR2 := aq hr2
        have p1 : decide ((B : Int) ≤ (i : Int)) = true := decide_eq_true (by omega)
        have p1n : decide (B ≤ i) = true := decide_eq_true hblk.1
        have p2 : decide ((i : Int) < (E : Int)) = true := decide_eq_true (by omega)
        have p2n : decide (i < E) = true := decide_eq_true hblk.2
        clear hs2 hr2 hrr
        have HBI := aq hblk
        clear hblk
        go_wp2
        go_loopg [11, 13] (E - (i + 1)) (fun kq v11 v13 wv => ∃ (j : Nat) (s' : List Int) (A' : Option Addr) (c' : Nat), j + kq = E ∧ i < j ∧ v11 = .int .i64 (j : Nat) ∧ v13 = .slice A' s'.length c' ∧ Aside0 (s'.length ≤ c') ∧ Aside0 (Safe (fun k => k = gr) wv A' s') ∧ Aside0 (chainB a0 a1 a2 a3 a4 a5 ((L.drop j).take (E - j)) s' = some s2) ∧ Aside0 (RhSt w0 gr cap L gb #[.slice Ai L.length ci, .int .i64 (B : Int), .int .i64 (E : Int), .int .u64 lv, .int .u64 ix] wv i out Lc hvc))
        case atStart =>
          have hv1 := hw1 1 rfl
          have hi2 : i + 1 + (E - (i + 1)) = E := by clear hw1 hw2 hv1; have := HBI.out; omega
          exact ⟨i + 1, s, A, c, hi2, Nat.lt_succ_self i, by first | rfl | exact congrArg (Value.int .i64) hv1, rfl, HXL, HSF, HS2, HS⟩
        case round =>
          clear HXL HSF HS2 HS hx hcs hfs k1 k2 hw1 p1 p1n p2 p2n
          obtain ⟨j, s', A', c', hj, hij, rfl, rfl, HXL, HSF, HS2, HS⟩ := hrel
          rename World => wv
          have k2 : wv.cell? ⟨gb, 2, none⟩ = some (.int .i64 (E : Int)) := (blk_cell HS.out.box 2).trans rfl
          have HIJ := aq hij
          by_cases hje : j < E
          · have hjl : j < L.length := by have := HE.out; omega
            obtain ⟨Ah, ch, hx, hxl, hsf⟩ := HS.out.row.at j (by rw [HS.out.len]; exact hjl)
            rw [HS.out.eq j (by omega)] at hx hxl hsf
            have htk : (L.drop j).take (E - j) = L.getD j [] :: (L.drop (j + 1)).take (E - (j + 1)) := by
              rw [List.drop_eq_getElem_cons hjl, show E - j = (E - (j + 1)) + 1 by omega, List.take_succ_cons, List.getD_eq_getElem?_getD, List.getElem?_eq_getElem hjl]
              rfl
            have hh := HS2.out
            rw [htk] at hh
            generalize L.getD j [] = hsh at hh hx hxl hsf
            simp only [chainB] at hh
            obtain ⟨s3, hs3, hh3⟩ := Option.bind_eq_some_iff.mp hh
            have HH3 := aq hh3
            have HS3 := aq hs3
            have HXh := aq hxl
            have HSh := aq hsf
            have HJL2 : Aside0 (j < L.length) := ⟨hjl⟩
            have HJE : Aside0 (j < E) := ⟨hje⟩
            clear htk hh hh3 hs3 hxl hsf HS2
            have q0 : (0 : Int) ≤ (j : Int) := by omega
            have q1 : (j : Int) < (L.length : Int) := by omega
            have q2 : decide ((j : Int) < (E : Int)) = true := decide_eq_true (by omega)
            have q2n : decide (j < E) = true := decide_eq_true hje
            have hw3 : ∀ z : Int, z = 1 → wrap64 ((j : Int) + z) = ((j + 1 : Nat) : Int) := fun z hz => by rw [hz, w64_in _ (by have := HL.out; have := HJL2.out; omega)]; omega
            go_wp2_with (first
              | (go_at_call 53; (with_reducible refine (impl_toy_HashChildren.calls a0 a1 a2 a3 a4 a5 Ah ch hsh A' c' s' s3 _ HSh.out.bytes HXh.out HSF.out.bytes HXL.out HS3.out).mono ?_); rintro en w3 ⟨v3, rfl, hR3, hb⟩; obtain ⟨A3, c3, rfl, hl3, _⟩ := Kd.R_reads hR3; have HL3 := aq hl3; have HSF3 := aq (Safe.new (S := fun k => k = gr) (w := wv) (fun k hk => by rw [hk]; exact Kd.R_lt HS.out.row.own gr rfl) hR3); have HSt := aq (HS.out.step hb); clear hR3 hl3 hb))
            go_roundg (E - (j + 1))
            case measure =>
              clear hw3 hw2
              omega
            case rel =>
              have hv3 := hw3 1 rfl
              have hj2 : j + 1 + (E - (j + 1)) = E := by clear hw3 hv3 hw2; omega
              have hj3 : i < j + 1 := by clear hw3 hv3 hw2; omega
              exact ⟨j + 1, s3, A3, c3, hj2, hj3, by first | rfl | exact congrArg (Value.int .i64) hv3, rfl, HL3, HSF3, HH3, HSt⟩
          · obtain rfl : j = E := by omega
            have hh := HS2.out
            rw [Nat.sub_self, List.take_zero] at hh
            obtain rfl := Option.some.inj hh
            clear hh HS2
            obtain ⟨hcs, hfs⟩ := Kd.R_celln z0 HS.out.row.own (out.length : Int) (by omega) (by have := HS.out.oi; have := HS.out.len; omega)
            rw [Int.toNat_natCast] at hcs hfs
            have HSp := aq (HS.out.put HGX.out HJL.out j HIJ.out HXL.out HSF.out)
            have q2 : decide ((j : Int) < (j : Int)) = false := decide_eq_false (by omega)
            have q2n : decide (j < j) = false := decide_eq_false (by omega)
            have hw3 : ∀ z : Int, z = 1 → wrap64 ((j : Int) - z) = (j : Int) - 1 := fun z hz => by rw [hz, w64_in _ (by have := HL.out; have := HE.out; omega)]
            have hw4 : ∀ z : Int, z = 1 → wrap64 ((j : Int) - 1 + z) = (j : Int) := fun z hz => by rw [hz, w64_in _ (by have := HL.out; have := HE.out; omega)]; omega
            have hw5 : ∀ z : Int, z = (j : Int) → wrap64 z = (j : Int) := fun z hz => by rw [hz, w64_in _ (by have := HL.out; have := HE.out; omega)]
            go_wp2
            go_roundg (L.length - j)
            case measure =>
              clear hw3 hw4 hw5 hw2
              have := HIJ.out
              have := HE.out
              omega
            case rel =>
              have hv2 := hw2 1 rfl
              have hv3 := hw3 1 rfl
              have hv4 := hw4 1 rfl
              have hv5 := hw5 _ rfl
              have hi2 : j + (L.length - j) = L.length := by clear hw3 hw4 hw5 hv2 hv3 hv4 hv5 hw2; have := HE.out; omega
              have hf2 : L.length ≤ j + f := by clear hw3 hw4 hw5 hv2 hv3 hv4 hv5 hw2; have := HF.out; have := HIJ.out; omega
              exact ⟨j, f, out ++ [s'], _, _, hi2, by first | rfl | exact congrArg (Value.int .i64) hv5 | exact congrArg (Value.int .i64) hv4, by rw [List.length_append, List.length_singleton]; first | rfl | exact congrArg (Value.int .i64) hv2, ⟨hf2⟩, HR2, HSp⟩
      · rw [if_neg hblk] at hrr
        have HR2 := aq hrr
        have HS2 := aq (HS.out.put HGX.out HJL.out (i + 1) (by omega) HXL.out HSF.out)
        clear hrr
        by_cases hbi : B ≤ i
        · have p1 : decide ((B : Int) ≤ (i : Int)) = true := decide_eq_true (by omega)
          have p1n : decide (B ≤ i) = true := decide_eq_true hbi
          have p2 : decide ((i : Int) < (E : Int)) = false := decide_eq_false (by omega)
          have p2n : decide (i < E) = false := decide_eq_false (by omega)
          clear hbi hblk
          go_wp2
          go_roundg (L.length - (i + 1))
          case measure =>
            clear hw1 hw2
            omega
          case rel =>
            have hv1 := hw1 1 rfl
            have hv2 := hw2 1 rfl
            have hi2 : i + 1 + (L.length - (i + 1)) = L.length := by clear hw1 hw2 hv1 hv2; omega
            have hf2 : L.length ≤ i + 1 + f := by clear hw1 hw2 hv1 hv2; have := HF.out; omega
            exact ⟨i + 1, f, out ++ [s], _, _, hi2, by first | rfl | exact congrArg (Value.int .i64) hv1, by rw [List.length_append, List.length_singleton]; first | rfl | exact congrArg (Value.int .i64) hv2, ⟨hf2⟩, HR2, HS2⟩
        · have p1 : decide ((B : Int) ≤ (i : Int)) = false := decide_eq_false (by omega)
          have p1n : decide (B ≤ i) = false := decide_eq_false hbi
          clear hbi hblk
          go_wp2
          go_roundg (L.length - (i + 1))
          case measure =>
            clear hw1 hw2
            omega
          case rel =>
            have hv1 := hw1 1 rfl
            have hv2 := hw2 1 rfl
            have hi2 : i + 1 + (L.length - (i + 1)) = L.length := by clear hw1 hw2 hv1 hv2; omega
            have hf2 : L.length ≤ i + 1 + f := by clear hw1 hw2 hv1 hv2; have := HF.out; omega
            exact ⟨i + 1, f, out ++ [s], _, _, hi2, by first | rfl | exact congrArg (Value.int .i64) hv1, by rw [List.length_append, List.length_singleton]; first | rfl | exact congrArg (Value.int .i64) hv2, ⟨hf2⟩, HR2, HS2⟩
    · obtain rfl : i = L.length := by omega
      have hrr := HR.out
      have hro : out = r := by
        rcases f with _ | f
        · exact Option.some.inj hrr
        · rw [rehG, if_neg (by omega)] at hrr
          exact Option.some.inj hrr
      subst hro
      clear hrr HR
      have hcut : ∀ W : World, (Instr.slice 25 (.slice (some ⟨gr, 0, none⟩) L.length cap) none (some (.int .i64 (out.length : Int))) none).run Tryd.prog W = .ok (.slice (some ⟨gr, 0, none⟩) out.length cap) W := fun W => by
        obtain ⟨iL, hiL, _⟩ := Option.map_eq_some_iff.1 infoL
        have h := cut_to (P := Tryd.prog) 25 28 .i64 Tryd.underlying25 hiL (some ⟨gr, 0, none⟩) L.length cap (out.length : Int) (by omega) (by have := HS.out.oi; have := HCP.out; omega) HCP.out W
        rw [Int.toNat_natCast] at h
        exact h
      go_wp2
      go_ret2
      exact ⟨rfl, HS.out.row.read (by rw [HS.out.len]; exact HL.out) (by rw [HS.out.len]; exact HS.out.oi) HS.out.eo, by have := HS.out.oi; have := HCP.out; omega, HS.out.below⟩
set_option maxHeartbeats 2000000 in
set_option maxRecDepth 100000 in
theorem rehash0_calls (fv : Value) (Ai Ah : Option Addr) (ci ch : Nat) (B E lv ix : Int) (w : World) :
    Calls Tryd.prog 82 #[.agg #[.slice Ai 0 ci, .int .i64 B, .int .i64 E, .int .u64 lv, .int .u64 ix], .slice Ah 0 ch, fv] w fun en w' => en = .returned (.tuple #[.slice Ah 0 ch, .nilIface]) ∧ Below w.heap.size w w' := by
  have t1 : ((0 : Int) != 0) = false := rfl
  go_enter Tryd.func82, Tryd.ntmps82
  go_wp2
  have HB : Aside0 (Below w.heap.size w (w.alloc (.cells #[.slice Ai 0 ci, .int .i64 B, .int .i64 E, .int .u64 lv, .int .u64 ix] 132)).drew) := ⟨below_drew (below_alloc (Below.refl _ _) _)⟩
  have HX := aq (blk_drew (heap_alloc_new w (.cells #[.slice Ai 0 ci, .int .i64 B, .int .i64 E, .int .u64 lv, .int .u64 ix] 132)))
  refine start_ (n := 7) (S := fun w' => w'.cell? ⟨w.heap.size, 0, none⟩ = some (.slice Ai 0 ci)) (ds := []) #[false, false, false, false, false, false, false] (by kernel_rfl) rfl rfl (bc HX 0) (fun hHeld => ?_)
  generalize (w.alloc (.cells #[.slice Ai 0 ci, .int .i64 B, .int .i64 E, .int .u64 lv, .int .u64 ix] 132)).drew = wz at HX HB hHeld ⊢
  refine pu 0 14 ?_
  refine pu 1 15 ?_
  refine pu 2 16 ?_
  refine ta 3 17 hHeld ?_
  refine pu 4 18 ?_
  refine pu 5 8 ?_
  refine pu 6 9 ?_
  refine done_ (by kernel_rfl) ?_
  clear hHeld
  go_wp2
  go_loopg [10, 11] 0 (fun kq v10 v11 wr => v11 = .int .i64 0 ∧ v10 = .int .i64 0 ∧ Aside0 (Below w.heap.size w wr))
  case atStart => exact ⟨rfl, rfl, HB⟩
  case round =>
    obtain ⟨rfl, rfl, HB⟩ := hrel
    rename World => wr
    have hcut : ∀ W : World, (Instr.slice 25 (.slice Ah 0 ch) none (some (.int .i64 0)) none).run Tryd.prog W = .ok (.slice Ah 0 ch) W := fun W => by
      obtain ⟨iL, hiL, _⟩ := Option.map_eq_some_iff.1 infoL
      exact cut_to (P := Tryd.prog) 25 28 .i64 Tryd.underlying25 hiL Ah 0 ch 0 (by omega) (by omega) (by omega) W
    go_wp2
    go_ret2
    exact ⟨rfl, HB.out⟩
theorem reh_any (a0 a1 a2 a3 a4 a5 : Int) (w4 w5 : World) (v : Value) (L : List (List Int)) (Ai : Option Addr) (n ci B E : Nat) (lv ix : Int) (r : List (List Int)) (hn : n = L.length) (hb : Below w4.heap.size w4 w5) (hS : Kd.S (Kd.slice 5 (Kd.int .u8)) 28 w5 w4.heap.size (fun _ => True) v L) (hl : L.length ≤ 1000) (hE : E ≤ L.length) (hr : rehG a0 a1 a2 a3 a4 a5 L B E L.length 0 [] = some r) :
    Calls Tryd.prog 82 #[.agg #[.slice Ai n ci, .int .i64 (B : Int), .int .i64 (E : Int), .int .u64 lv, .int .u64 ix], v, .func (.func 53) #[.agg #[.int .i64 a0, .int .i64 a1, .int .i64 a2, .int .u64 a3, .int .u64 a4, .int .u64 a5]] #[]] w5 fun en w' => ∃ A' c', en = .returned (.tuple #[.slice A' r.length c', .nilIface]) ∧ CL w' A' r ∧ r.length ≤ c' ∧ Below w4.heap.size w4 w' := by
  subst hn
  rcases Nat.eq_zero_or_pos L.length with h0 | h0
  · obtain rfl := List.eq_nil_of_length_eq_zero h0
    obtain rfl := Option.some.inj hr
    obtain ⟨A, c, rfl, hlc, hC⟩ := Kd.S_reads hS
    exact (rehash0_calls _ Ai A ci c B E lv ix w5).mono fun _ _ ⟨e, hb2⟩ => ⟨A, c, e, Kd.C_below hC hb2, hlc, below_step hb hb2⟩
  · obtain ⟨gr, cap, hv, rfl, hcp, hrow⟩ := HRow.of_S hS h0
    exact (rehash_calls a0 a1 a2 a3 a4 a5 w4 w5 gr cap hv L Ai ci B E lv ix r hb hrow hcp hl hE hr).mono fun _ _ ⟨e, hC, hlc, hb2⟩ => ⟨_, _, e, hC, hlc, hb2⟩
end Go.Proofs.YtfhcpniibiobgaaDoor.Qf
namespace Go.Proofs.YtfhcpniibiobgaaDoor.Qf
open Go.RowKit Go.Proofs.YtfhcpniibiobgaaDoorW.PrintWords Go.Proofs.YtfhcpniibiobgaaDoorW.PrintLast Go.Proofs.YtfhcpniibiobgaaDoorW.PrintMore
open Hs (CB CL at_L at_B infoB infoL R_of_blk)
set_option maxHeartbeats 4000000 in
set_option maxRecDepth 100000 in
theorem inclusionHashes_calls (a0 a1 a2 a3 a4 a5 : Int) (i n : Int) (A : Option Addr) (c : Nat) (L : List (List Int)) (w : World) (kp kt : Nat) (ids : List S108) (B E : Nat) (lv ix : Int) (r : List (List Int)) (HG_ : Glob w) (hL : CL w A L) (hc : L.length ≤ c) (hp : proof_Inclusion.f kp i n = some (ids, (B : Int), (E : Int), lv, ix, none)) (hid : ids.length = L.length) (hE : E ≤ L.length) (hl : L.length ≤ 1000) (ht : impl_texts.f kt L = some L) (ht2 : impl_texts.f kt r = some r) (hr : rehG a0 a1 a2 a3 a4 a5 L B E L.length 0 [] = some r) :
    Calls Tryd.prog 44 #[.agg #[.int .i64 a0, .int .i64 a1, .int .i64 a2, .int .u64 a3, .int .u64 a4, .int .u64 a5], .int .u64 i, .int .u64 n, .slice A L.length c] w fun en w' => ∃ A' c', en = .returned (.tuple #[.slice A' r.length c', .bool true]) ∧ r.length ≤ c' ∧ CL w' A' r ∧ Below w.heap.size w w' := by
  have HG := aq HG_
  clear HG_
  have HL := aq hL
  clear hL
  have HC := aq hc
  clear hc
  have HP := aq hp
  clear hp
  have HID := aq hid
  clear hid
  have HE := aq hE
  clear hE
  have HLN := aq hl
  clear hl
  have HT := aq ht
  clear ht
  have HT2 := aq ht2
  clear ht2
  have HR := aq hr
  clear hr
  have HX0 := aq (heap_alloc_new w (.cells #[.int .i64 a0, .int .i64 a1, .int .i64 a2, .int .u64 a3, .int .u64 a4, .int .u64 a5] 24))
  have HB0 : Aside0 (Below w.heap.size w (w.alloc (.cells #[.int .i64 a0, .int .i64 a1, .int .i64 a2, .int .u64 a3, .int .u64 a4, .int .u64 a5] 24))) := ⟨below_alloc (Below.refl _ _) _⟩
  go_enter Tryd.func44, Tryd.ntmps44
  go_wp2_with (first
    | (go_at_call 79; (with_reducible refine (proof_Inclusion.calls kp i n ids (B : Int) (E : Int) lv ix none _ (Glob.below HG.out HB0.out) HP.out).mono ?_); rintro en w5 ⟨v5, rfl, hQ5, hb⟩; obtain ⟨A5, c5, rfl, hl5⟩ := Kd.Q_slice hQ5; have HX5 := aq (blk_below HX0.out hb); have HB5 := aq (below_then HB0.out HB0.out.size hb); have lt5 : w.heap.size < w5.heap.size := lt_of_block HX5.out; clear hQ5 hl5 hb HX0 HB0; rw [show errW none = Value.nilIface from rfl]))
  have hb3 : Below w5.heap.size w5 (w5.alloc (.cells #[.slice A5 ids.length c5, .int .i64 (B : Int), .int .i64 (E : Int), .int .u64 lv, .int .u64 ix] 132)).drew := below_drew (below_alloc (Below.refl _ _) _)
  have HN := aq (blk_drew (heap_alloc_new w5 (.cells #[.slice A5 ids.length c5, .int .i64 (B : Int), .int .i64 (E : Int), .int .u64 lv, .int .u64 ix] 132)))
  have HB := aq (below_step HB5.out hb3)
  have HX := aq (blk_below HX5.out hb3)
  refine start_ (n := 12) (S := fun w' => w'.cell? ⟨w5.heap.size, 0, none⟩ = some (.slice A5 ids.length c5) ∧ w'.cell? ⟨w5.heap.size, 1, none⟩ = some (.int .i64 (B : Int)) ∧ w'.cell? ⟨w5.heap.size, 2, none⟩ = some (.int .i64 (E : Int)) ∧ w'.cell? ⟨w5.heap.size, 3, none⟩ = some (.int .u64 lv) ∧ w'.cell? ⟨w5.heap.size, 4, none⟩ = some (.int .u64 ix) ∧ w'.cell? ⟨w.heap.size, 0, none⟩ = some (.int .i64 a0) ∧ w'.cell? ⟨w.heap.size, 1, none⟩ = some (.int .i64 a1) ∧ w'.cell? ⟨w.heap.size, 2, none⟩ = some (.int .i64 a2) ∧ w'.cell? ⟨w.heap.size, 3, none⟩ = some (.int .u64 a3) ∧ w'.cell? ⟨w.heap.size, 4, none⟩ = some (.int .u64 a4) ∧ w'.cell? ⟨w.heap.size, 5, none⟩ = some (.int .u64 a5)) (ds := []) #[false, false, false, false, false, false, false, false, false, false, false, false] (by kernel_rfl) rfl rfl ⟨bc HN 0, bc HN 1, bc HN 2, bc HN 3, bc HN 4, bc HX 0, bc HX 1, bc HX 2, bc HX 3, bc HX 4, bc HX 5⟩ (fun hHeld => ?_)
  generalize (w5.alloc (.cells #[.slice A5 ids.length c5, .int .i64 (B : Int), .int .i64 (E : Int), .int .u64 lv, .int .u64 ix] 132)).drew = wz at HN HX HB hHeld ⊢
  generalize w5.heap.size = gb at HN hHeld ⊢
  clear hb3 HB5 HX5
  refine ta 0 22 hHeld ?_
  refine pu 1 23 ?_
  refine ta 3 25 hHeld ?_
  refine pu 4 26 ?_
  refine pu 5 27 ?_
  refine on1 2 24 fun K hK => ?_
  refine gS Tryd.func48 #[.slice A L.length c] ?_
  refine (impl_texts.calls kt A c L L wz (Kd.C_below HL.out HB.out) HC.out HT.out).mono ?_
  rintro en w6 ⟨v6, rfl, hS6, hb⟩
  refine ⟨_, rfl, ?_⟩
  have HS6 := aq hS6
  have HN6 := aq (blk_below HN.out hb)
  have HX6 := aq (blk_below HX.out hb)
  have HB6 := aq hb
  clear hS6 hb hHeld
  refine hK.out _ _ ⟨bc HN6 0, bc HN6 1, bc HN6 2, bc HN6 3, bc HN6 4, bc HX6 0, bc HX6 1, bc HX6 2, bc HX6 3, bc HX6 4, bc HX6 5⟩ (fun hHeld => ?_)
  clear hK K
  refine nm ?_
  refine on1 6 28 fun K hK => ?_
  refine gS Tryd.func82 #[.agg #[.slice A5 ids.length c5, .int .i64 (B : Int), .int .i64 (E : Int), .int .u64 lv, .int .u64 ix], v6, .func (.func 53) #[.agg #[.int .i64 a0, .int .i64 a1, .int .i64 a2, .int .u64 a3, .int .u64 a4, .int .u64 a5]] #[]] ?_
  refine (reh_any a0 a1 a2 a3 a4 a5 wz w6 v6 L A5 ids.length c5 B E lv ix r HID.out HB6.out HS6.out HLN.out HE.out HR.out).mono ?_
  rintro en w7 ⟨A7, c7, rfl, hC7, hl7, hb⟩
  refine ⟨_, rfl, ?_⟩
  have HC7 := aq hC7
  have HL7 := aq hl7
  have HB7 := aq (below_step HB.out hb)
  have HN7 := aq (blk_below HN.out hb)
  have HX7 := aq (blk_below HX.out hb)
  clear hC7 hl7 hHeld HS6 HN6 HX6 HB6 HB HX HN hb
  refine hK.out _ _ ⟨bc HN7 0, bc HN7 1, bc HN7 2, bc HN7 3, bc HN7 4, bc HX7 0, bc HX7 1, bc HX7 2, bc HX7 3, bc HX7 4, bc HX7 5⟩ (fun hHeld => ?_)
  clear hK K
  refine nm ?_
  refine pu 7 21 ?_
  refine pu 8 29 ?_
  refine pu 9 30 ?_
  refine pu 10 12 ?_
  refine pu 11 11 ?_
  refine done_ (by kernel_rfl) ?_
  clear hHeld HN7 HX7
  go_wp2
  have HB8 := aq (below_drew1 HB7.out)
  have HC8 := aq (Kd.C_below HC7.out (below_drew (Below.refl w7.heap.size w7)))
  refine start_ (n := 6) (S := fun _ => True) (ds := []) #[false, false, false, false, false, false] (by kernel_rfl) rfl rfl trivial (fun hHeld => ?_)
  generalize w7.drew = wy at HB8 HC8 hHeld ⊢
  clear HB7 HC7
  refine pu 0 31 ?_
  refine pu 2 33 ?_
  refine pu 3 34 ?_
  refine on1 1 32 fun K hK => ?_
  refine gS Tryd.func48 #[.slice A7 r.length c7] ?_
  refine (impl_texts.calls kt A7 c7 r r wy HC8.out HL7.out HT2.out).mono ?_
  rintro en w9 ⟨v9, rfl, hS9, hb⟩
  obtain ⟨A9, c9, rfl, hl9, hC9⟩ := Kd.S_reads hS9
  refine ⟨_, rfl, ?_⟩
  have HC9 := aq hC9
  have HL9 := aq hl9
  have HB9 := aq (below_then HB8.out HB8.out.size hb)
  clear hC9 hl9 hS9 hb HB8 HC8 hHeld
  refine hK.out _ _ trivial (fun hHeld => ?_)
  clear hK K
  refine nm ?_
  refine pu 4 8 ?_
  refine pu 5 9 ?_
  refine done_ (by kernel_rfl) ?_
  go_wp2
  first | go_ret2 | go_ret
  exact ⟨_, _, rfl, HL9.out, HC9.out, HB9.out⟩
end Go.Proofs.YtfhcpniibiobgaaDoor.Qf
namespace Go.Proofs.YtfhcpniibiobgaaDoor.Qf
open Go.RowKit Go.Proofs.YtfhcpniibiobgaaDoorW.PrintWords Go.Proofs.YtfhcpniibiobgaaDoorW.PrintLast Go.Proofs.YtfhcpniibiobgaaDoorW.PrintMore
open Hs (CB CL at_L at_B infoB infoL R_of_blk)
open Go.Proofs.YtfhcpniibiobgaaDoor.Pure (hcF chB)
set_option maxHeartbeats 2000000 in
set_option maxRecDepth 100000 in
theorem leaf_calls (x : Int) (A1 : Option Addr) (n1 c1 : Nat) (w : World) :
    Calls Tryd.prog 41 #[.int .u64 x, .slice A1 n1 c1] w fun en w' => ∃ g, en = .returned (.agg #[.int .u64 x, .int .u64 (IntKind.u64.wrap (x + 1)), .slice (some ⟨g, 0, none⟩) 1 1]) ∧ w.heap.size ≤ g ∧ w'.heap[g]? = some (.cells #[.slice A1 n1 c1] 28 (0, 0)) ∧ Below w.heap.size w w' := by
  go_enter Tryd.func41, Tryd.ntmps41
  have SA := blk_below (heap_alloc_new w (.cells #[.int .u64 x, .int .u64 (IntKind.u64.wrap (x + 1)), .slice (some ⟨w.heap.size + 1, 0, none⟩) 1 1] 35)) (below_alloc (Below.refl _ _) (.cells #[.slice A1 n1 c1] 28))
  have HG := heap_alloc_new (w.alloc (.cells #[.int .u64 x, .int .u64 (IntKind.u64.wrap (x + 1)), .slice (some ⟨w.heap.size + 1, 0, none⟩) 1 1] 35)) (.cells #[.slice A1 n1 c1] 28)
  have HB : Below w.heap.size w ((w.alloc (.cells #[.int .u64 x, .int .u64 (IntKind.u64.wrap (x + 1)), .slice (some ⟨w.heap.size + 1, 0, none⟩) 1 1] 35)).alloc (.cells #[.slice A1 n1 c1] 28)) := below_alloc (below_alloc (Below.refl _ _) _) _
  have hz : (w.alloc (.cells #[.int .u64 x, .int .u64 (IntKind.u64.wrap (x + 1)), .slice (some ⟨w.heap.size + 1, 0, none⟩) 1 1] 35)).heap.size = w.heap.size + 1 := by simp
  rw [hz] at HG
  go_wp2
  generalize ((w.alloc (.cells #[.int .u64 x, .int .u64 (IntKind.u64.wrap (x + 1)), .slice (some ⟨w.heap.size + 1, 0, none⟩) 1 1] 35)).alloc (.cells #[.slice A1 n1 c1] 28)) = wf at SA HG HB ⊢
  have g0 : wf.cell? ⟨w.heap.size, 0, none⟩ = some (.int .u64 x) := (blk_cell SA 0).trans rfl
  have g1 : wf.cell? ⟨w.heap.size, 1, none⟩ = some (.int .u64 (IntKind.u64.wrap (x + 1))) := (blk_cell SA 1).trans rfl
  have g2 : wf.cell? ⟨w.heap.size, 2, none⟩ = some (.slice (some ⟨w.heap.size + 1, 0, none⟩) 1 1) := (blk_cell SA 2).trans rfl
  exact bodyPost_ret (v := .agg #[.int .u64 x, .int .u64 (IntKind.u64.wrap (x + 1)), .slice (some ⟨w.heap.size + 1, 0, none⟩) 1 1]) (by simp [results, Tryd.results41, go_sem, g0, g1, g2]) rfl ⟨w.heap.size + 1, rfl, Nat.le_succ _, HG, HB⟩
theorem allocs2 (w : World) (c1 : Array Value) (t1 : Nat) (c2 : Array Value) (t2 : Nat) : Below w.heap.size w ((w.alloc (.cells c1 t1)).alloc (.cells c2 t2)) ∧ ((w.alloc (.cells c1 t1)).alloc (.cells c2 t2)).heap[w.heap.size]? = some (.cells c1 t1 (0, 0)) ∧ ((w.alloc (.cells c1 t1)).alloc (.cells c2 t2)).heap[w.heap.size + 1]? = some (.cells c2 t2 (0, 0)) := by
  have s1 : (w.alloc (.cells c1 t1)).heap.size = w.heap.size + 1 := by simp
  refine ⟨(below_alloc (below_alloc (Below.refl _ _) (.cells c1 t1)) (.cells c2 t2)), ?_, ?_⟩
  · exact blk_below (heap_alloc_new w (.cells c1 t1)) (below_alloc (Below.refl _ _) (.cells c2 t2))
  · have h := blk_below (heap_alloc_new (w.alloc (.cells c1 t1)) (.cells c2 t2)) (Below.refl _ _)
    rwa [s1] at h
theorem infoR : (Tryd.prog.info? 35).map (fun i => i.size) = some 3 := by kernel_rfl
theorem ArOk.callsS {a0 a1 a2 a3 a4 a5 : Int} {e x : Nat} {l m l' : List (List Int)} {k : Nat} (h : ArOk a0 a1 a2 a3 a4 a5 0 e x l m l' k) {A : Option Addr} {c : Nat} {Am : Option Addr} {cm n : Nat} {w : World} (hn : m.length = n) (hl : CL w A l) (hc : l.length ≤ c) (hm : CL w Am m) (hcm : n ≤ cm) (HG : Glob w) :
    Calls Tryd.prog 33 #[.agg #[.int .i64 a0, .int .i64 a1, .int .i64 a2, .int .u64 a3, .int .u64 a4, .int .u64 a5], .agg #[.int .u64 0, .int .u64 (e : Nat), .slice A l.length c], .agg #[.int .u64 (e : Nat), .int .u64 (x : Nat), .slice Am n cm]] w fun en w' => ∃ A' d' vs, en = .returned (.tuple #[.agg #[.int .u64 0, .int .u64 (x : Nat), .slice A' l'.length d'], vs, .bool true]) ∧ Kd.S (Kd.slice 5 (Kd.int .u8)) 28 w' w.heap.size (fun _ => True) (.slice A' l'.length d') l' ∧ Below w.heap.size w w' := by
  subst hn
  exact (appendRange2_calls a0 a1 a2 a3 a4 a5 0 e x A c l Am cm m l' k w hc hcm hl hm HG h.t1 h.t2 h.t3 h.be h.ex h.s1 h.s2 h.e64 h.n1 h.n2 h.st).mono fun _ _ ⟨v, vs, he, hS, hb⟩ => by
    obtain ⟨A', d', rfl, _, _⟩ := Kd.S_reads hS
    exact ⟨A', d', vs, he, hS, hb⟩
set_option maxHeartbeats 4000000 in
set_option maxRecDepth 100000 in
theorem growthRoot3_calls (a0 a1 a2 a3 a4 a5 : Int) (e E1 x : Nat) (A : Option Addr) (c : Nat) (l1 : List (List Int)) (Am : Option Addr) (cm : Nat) (s : List Int) (A3 : Option Addr) (c3 : Nat) (l3 lab labc : List (List Int)) (m : Nat) (r : List Int) (k gl : Nat) (w : World) (hblk : w.heap[gl]? = some (.cells #[.int .u64 0, .int .u64 (e : Nat), .slice A l1.length c, .int .u64 (e : Nat), .int .u64 (E1 : Nat), .slice Am 1 cm, .int .u64 (E1 : Nat), .int .u64 (x : Nat), .slice A3 l3.length c3] 35 (0, 0))) (hc : l1.length ≤ c) (hcm : 1 ≤ cm) (hc3 : l3.length ≤ c3) (hl : CL w A l1) (hM : CL w Am [s]) (hl3 : CL w A3 l3) (HG_ : Glob w) (o1 : ArOk a0 a1 a2 a3 a4 a5 0 e E1 l1 [s] lab k) (o2 : ArOk a0 a1 a2 a3 a4 a5 0 E1 x lab l3 labc k) (hszE : compact_RangeSize.f ((0 : Nat) : Int) (x : Int) = some (labc.length : Int)) (he : x < 18446744073709551616) (hm : labc.length = m + 1) (hm2 : m ≤ 1000) (hrow : ∀ h ∈ labc, h.length ≤ 3000000000) (hr : chB a0 a2 a5 (labc.take m).reverse (labc.getD m []) = r) :
    Calls Tryd.prog 40 #[.agg #[.int .i64 a0, .int .i64 a1, .int .i64 a2, .int .u64 a3, .int .u64 a4, .int .u64 a5], .slice (some ⟨gl, 0, none⟩) 3 3] w fun en w' => ∃ A' c', en = .returned (.tuple #[.slice A' r.length c', .bool true]) ∧ r.length ≤ c' ∧ CB w' A' r ∧ Below w.heap.size w w' := by
  have HBK := aq hblk
  have HL := aq hl
  clear hl
  have HM := aq hM
  clear hM
  have HL3 := aq hl3
  clear hl3
  have HC3 := aq hc3
  clear hc3
  have HG := aq HG_
  clear HG_
  have HO1 := aq o1
  clear o1
  have HO2 := aq o2
  clear o2
  have HSE := aq hszE
  clear hszE
  have HE := aq he
  clear he
  have HMM := aq hm
  clear hm
  have HM2 := aq hm2
  clear hm2
  have HRW := aq hrow
  clear hrow
  have HR := aq hr
  clear hr
  have hgl : gl < w.heap.size := lt_of_block hblk
  have b0 : w.cell? ⟨gl, 0, none⟩ = some (.int .u64 0) := (blk_cell hblk 0).trans rfl
  have b1 : w.cell? ⟨gl, 1, none⟩ = some (.int .u64 (e : Nat)) := (blk_cell hblk 1).trans rfl
  have b2 : w.cell? ⟨gl, 2, none⟩ = some (.slice A l1.length c) := (blk_cell hblk 2).trans rfl
  clear hblk
  obtain ⟨iL, hiL, hsL⟩ := Option.map_eq_some_iff.1 infoR
  have hcut : ∀ W : World, (Instr.slice 129 (.slice (some ⟨gl, 0, none⟩) 3 3) (some (.int .i64 1)) none none).run Tryd.prog W = .ok (.slice (some ⟨gl, 3, none⟩) 2 2) W := fun W => cut_from (P := Tryd.prog) 129 35 .i64 Tryd.underlying129 hiL 3 (by simpa using hsL) (some ⟨gl, 0, none⟩) 3 3 1 (by omega) (by omega) W
  clear hiL hsL
  go_enter Tryd.func40, Tryd.ntmps40
  go_wp2
  obtain ⟨hB1, hX1, hY1⟩ := allocs2 w #[.int .i64 a0, .int .i64 a1, .int .i64 a2, .int .u64 a3, .int .u64 a4, .int .u64 a5] 24 #[.int .u64 0, .int .u64 (e : Nat), .slice A l1.length c] 35
  generalize ((w.alloc (.cells #[.int .i64 a0, .int .i64 a1, .int .i64 a2, .int .u64 a3, .int .u64 a4, .int .u64 a5] 24)).alloc (.cells #[.int .u64 0, .int .u64 (e : Nat), .slice A l1.length c] 35)) = W1 at hB1 hX1 hY1 ⊢
  have HB1 := aq hB1
  have HX1 := aq hX1
  have HY1 := aq hY1
  clear hB1 hX1 hY1 b0 b1 b2
  (try simp only [Act.put, List.setIfInBounds_toArray, List.set_cons_zero, List.set_cons_succ])
  go_loopg [7, 22] 2 (fun kq v7 v22 wr => ∃ j : Nat, j + kq = 2 ∧ v22 = .int .i64 (j : Nat) ∧ v7 = .bool true ∧ Aside0 (Below w.heap.size w wr) ∧ Aside0 (wr.heap[w.heap.size]? = some (.cells #[.int .i64 a0, .int .i64 a1, .int .i64 a2, .int .u64 a3, .int .u64 a4, .int .u64 a5] 24 (0, 0))) ∧ Aside0 ((j = 0 ∧ wr.heap[w.heap.size + 1]? = some (.cells #[.int .u64 0, .int .u64 (e : Nat), .slice A l1.length c] 35 (0, 0))) ∨ (j = 1 ∧ ∃ A6 d6, wr.heap[w.heap.size + 1]? = some (.cells #[.int .u64 0, .int .u64 (E1 : Nat), .slice A6 lab.length d6] 35 (0, 0)) ∧ lab.length ≤ d6 ∧ CL wr A6 lab) ∨ (j = 2 ∧ ∃ A6 d6, wr.heap[w.heap.size + 1]? = some (.cells #[.int .u64 0, .int .u64 (x : Nat), .slice A6 labc.length d6] 35 (0, 0)) ∧ labc.length ≤ d6 ∧ CL wr A6 labc)))
  case atStart => exact ⟨0, rfl, rfl, rfl, HB1, HX1, ⟨.inl ⟨rfl, HY1.out⟩⟩⟩
  case round =>
    clear HB1 HX1 HY1
    obtain ⟨j, hj, rfl, rfl, HB, HX, HY⟩ := hrel
    rename World => wr
    obtain ⟨hk0, hk1, hk2, hk3, hk4, hk5⟩ := box6 HX.out
    have BKr := aq (blk_below HBK.out HB.out)
    rcases HY.out with ⟨rfl, hy⟩ | ⟨rfl, A6, d6, hy, hd6, hC6⟩ | ⟨rfl, A6, d6, hy, hd6, hC6⟩
    · clear HY
      have HY := aq hy
      clear hy
      obtain ⟨y0, y1, y2⟩ := box3 HY.out
      have b3 : wr.cell? ⟨gl, 3, none⟩ = some (.int .u64 (e : Nat)) := bc BKr 3
      have b4 : wr.cell? ⟨gl, 4, none⟩ = some (.int .u64 (E1 : Nat)) := bc BKr 4
      have b5 : wr.cell? ⟨gl, 5, none⟩ = some (.slice Am 1 cm) := bc BKr 5
      have lt0 : gl < wr.heap.size := lt_of_block BKr.out
      have lt1 : w.heap.size < wr.heap.size := lt_of_block HX.out
      have lt2 : w.heap.size + 1 < wr.heap.size := lt_of_block HY.out
      have hba : Below wr.heap.size wr (wr.alloc (.cells #[.int .u64 (e : Nat), .int .u64 (E1 : Nat), .slice Am 1 cm] 35)) := below_alloc (Below.refl _ _) _
      have HBa : Aside0 (Below w.heap.size w (wr.alloc (.cells #[.int .u64 (e : Nat), .int .u64 (E1 : Nat), .slice Am 1 cm] 35))) := ⟨below_step HB.out hba⟩
      go_wp2_with (first
        | (go_at_call 33; (with_reducible refine (HO1.out.callsS (k := k) (n := 1) rfl (Kd.C_below HL.out HBa.out) hc (Kd.C_below HM.out HBa.out) hcm (Glob.below HG.out HBa.out)).mono ?_); rintro en w8 ⟨A8, d8, vs8, rfl, hS8, hb⟩; have HS8 := aq hS8; clear hS8; have HB8 := aq (below_then HBa.out HBa.out.size hb); have HX8 := aq (blk_below (blk_below HX.out (below_alloc (Below.refl _ _) _)) hb); have HY8 := aq (blk_below (blk_below HY.out (below_alloc (Below.refl _ _) _)) hb); have lt3 : w.heap.size < w8.heap.size := lt_of_block HX8.out; have lt4 : w.heap.size + 1 < w8.heap.size := lt_of_block HY8.out; have c0 : w8.cell? ⟨w.heap.size + 1, 0, none⟩ = some (.int .u64 0) := bc HY8 0; have f0 : w8.frozen? ⟨w.heap.size + 1, 0, none⟩ = false := bz HY8 0; have c1 : w8.cell? ⟨w.heap.size + 1, 1, none⟩ = some (.int .u64 (e : Nat)) := bc HY8 1; have f1 : w8.frozen? ⟨w.heap.size + 1, 1, none⟩ = false := bz HY8 1; have c2 : w8.cell? ⟨w.heap.size + 1, 2, none⟩ = some (.slice A l1.length c) := bc HY8 2; have f2 : w8.frozen? ⟨w.heap.size + 1, 2, none⟩ = false := bz HY8 2; skip))
      have S1 : Aside0 ((w8.setCell ⟨w.heap.size + 1, 0, none⟩ (.int .u64 0)).heap[w.heap.size + 1]? = some (.cells #[.int .u64 0, .int .u64 (e : Nat), .slice A l1.length c] 35 (0, 0))) := ⟨blk_set HY8.out 0 _⟩
      have S2 : Aside0 (((w8.setCell ⟨w.heap.size + 1, 0, none⟩ (.int .u64 0)).setCell ⟨w.heap.size + 1, 1, none⟩ (.int .u64 (E1 : Nat))).heap[w.heap.size + 1]? = some (.cells #[.int .u64 0, .int .u64 (E1 : Nat), .slice A l1.length c] 35 (0, 0))) := ⟨blk_set S1.out 1 _⟩
      have S3 : Aside0 ((((w8.setCell ⟨w.heap.size + 1, 0, none⟩ (.int .u64 0)).setCell ⟨w.heap.size + 1, 1, none⟩ (.int .u64 (E1 : Nat))).setCell ⟨w.heap.size + 1, 2, none⟩ (.slice A8 lab.length d8)).heap[w.heap.size + 1]? = some (.cells #[.int .u64 0, .int .u64 (E1 : Nat), .slice A8 lab.length d8] 35 (0, 0))) := ⟨blk_set S2.out 2 _⟩
      have T6 := Kd.S_set (Kd.S_set (Kd.S_set HS8.out HY8.out (by decide) 0 (.int .u64 0)) S1.out (by decide) 1 (.int .u64 (E1 : Nat))) S2.out (by decide) 2 (.slice A8 lab.length d8)
      obtain ⟨A9, d9, e9, hd9, hC9⟩ := Kd.S_reads T6
      injection e9 with e9 _ e10
      subst e9 e10
      have hne : w.heap.size ≠ w.heap.size + 1 := by omega
      have HX9 : (((w8.setCell ⟨w.heap.size + 1, 0, none⟩ (.int .u64 0)).setCell ⟨w.heap.size + 1, 1, none⟩ (.int .u64 (E1 : Nat))).setCell ⟨w.heap.size + 1, 2, none⟩ (.slice A8 lab.length d8)).heap[w.heap.size]? = some (.cells #[.int .i64 a0, .int .i64 a1, .int .i64 a2, .int .u64 a3, .int .u64 a4, .int .u64 a5] 24 (0, 0)) := (Below.heap_setCell _ _ _ _ hne).trans ((Below.heap_setCell _ _ _ _ hne).trans ((Below.heap_setCell _ _ _ _ hne).trans HX8.out))
      have HB9 : Below w.heap.size w (((w8.setCell ⟨w.heap.size + 1, 0, none⟩ (.int .u64 0)).setCell ⟨w.heap.size + 1, 1, none⟩ (.int .u64 (E1 : Nat))).setCell ⟨w.heap.size + 1, 2, none⟩ (.slice A8 lab.length d8)) := Below.setCell (Below.setCell (Below.setCell HB8.out (Nat.le_succ _) _) (Nat.le_succ _) _) (Nat.le_succ _) _
      clear T6 f0 f1 f2 c0 c1 c2
      generalize (((w8.setCell ⟨w.heap.size + 1, 0, none⟩ (.int .u64 0)).setCell ⟨w.heap.size + 1, 1, none⟩ (.int .u64 (E1 : Nat))).setCell ⟨w.heap.size + 1, 2, none⟩ (.slice A8 lab.length d8)) = wz at S3 hC9 HX9 HB9 ⊢
      go_roundg 1
      case measure => omega
      case rel => exact ⟨1, by omega, by first | rfl | go_num, rfl, ⟨below_step HB9 (below_alloc (Below.refl _ _) _)⟩, ⟨blk_below HX9 (below_alloc (Below.refl _ _) _)⟩, ⟨.inr (.inl ⟨rfl, _, _, blk_below S3.out (below_alloc (Below.refl _ _) _), hd9, Kd.C_below hC9 (below_alloc (Below.refl _ _) _)⟩)⟩⟩
    · clear HY
      have HY := aq hy
      clear hy
      have HC6 := aq hC6
      have HD6 := aq hd6
      clear hC6 hd6
      obtain ⟨y0, y1, y2⟩ := box3 HY.out
      have b6 : wr.cell? ⟨gl, 6, none⟩ = some (.int .u64 (E1 : Nat)) := bc BKr 6
      have b7 : wr.cell? ⟨gl, 7, none⟩ = some (.int .u64 (x : Nat)) := bc BKr 7
      have b8 : wr.cell? ⟨gl, 8, none⟩ = some (.slice A3 l3.length c3) := bc BKr 8
      have lt0 : gl < wr.heap.size := lt_of_block BKr.out
      have lt1 : w.heap.size < wr.heap.size := lt_of_block HX.out
      have lt2 : w.heap.size + 1 < wr.heap.size := lt_of_block HY.out
      have hba : Below wr.heap.size wr (wr.alloc (.cells #[.int .u64 (E1 : Nat), .int .u64 (x : Nat), .slice A3 l3.length c3] 35)) := below_alloc (Below.refl _ _) _
      have HBa : Aside0 (Below w.heap.size w (wr.alloc (.cells #[.int .u64 (E1 : Nat), .int .u64 (x : Nat), .slice A3 l3.length c3] 35))) := ⟨below_step HB.out hba⟩
      go_wp2_with (first
        | (go_at_call 33; (with_reducible refine (HO2.out.callsS (k := k) rfl (Kd.C_below HC6.out hba) HD6.out (Kd.C_below HL3.out HBa.out) HC3.out (Glob.below HG.out HBa.out)).mono ?_); rintro en w8 ⟨A8, d8, vs8, rfl, hS8, hb⟩; have HS8 := aq hS8; clear hS8; have HB8 := aq (below_then HBa.out HBa.out.size hb); have HX8 := aq (blk_below (blk_below HX.out (below_alloc (Below.refl _ _) _)) hb); have HY8 := aq (blk_below (blk_below HY.out (below_alloc (Below.refl _ _) _)) hb); have lt3 : w.heap.size < w8.heap.size := lt_of_block HX8.out; have lt4 : w.heap.size + 1 < w8.heap.size := lt_of_block HY8.out; have c0 : w8.cell? ⟨w.heap.size + 1, 0, none⟩ = some (.int .u64 0) := bc HY8 0; have f0 : w8.frozen? ⟨w.heap.size + 1, 0, none⟩ = false := bz HY8 0; have c1 : w8.cell? ⟨w.heap.size + 1, 1, none⟩ = some (.int .u64 (E1 : Nat)) := bc HY8 1; have f1 : w8.frozen? ⟨w.heap.size + 1, 1, none⟩ = false := bz HY8 1; have c2 : w8.cell? ⟨w.heap.size + 1, 2, none⟩ = some (.slice A6 lab.length d6) := bc HY8 2; have f2 : w8.frozen? ⟨w.heap.size + 1, 2, none⟩ = false := bz HY8 2; skip))
      have S1 : Aside0 ((w8.setCell ⟨w.heap.size + 1, 0, none⟩ (.int .u64 0)).heap[w.heap.size + 1]? = some (.cells #[.int .u64 0, .int .u64 (E1 : Nat), .slice A6 lab.length d6] 35 (0, 0))) := ⟨blk_set HY8.out 0 _⟩
      have S2 : Aside0 (((w8.setCell ⟨w.heap.size + 1, 0, none⟩ (.int .u64 0)).setCell ⟨w.heap.size + 1, 1, none⟩ (.int .u64 (x : Nat))).heap[w.heap.size + 1]? = some (.cells #[.int .u64 0, .int .u64 (x : Nat), .slice A6 lab.length d6] 35 (0, 0))) := ⟨blk_set S1.out 1 _⟩
      have S3 : Aside0 ((((w8.setCell ⟨w.heap.size + 1, 0, none⟩ (.int .u64 0)).setCell ⟨w.heap.size + 1, 1, none⟩ (.int .u64 (x : Nat))).setCell ⟨w.heap.size + 1, 2, none⟩ (.slice A8 labc.length d8)).heap[w.heap.size + 1]? = some (.cells #[.int .u64 0, .int .u64 (x : Nat), .slice A8 labc.length d8] 35 (0, 0))) := ⟨blk_set S2.out 2 _⟩
      have T6 := Kd.S_set (Kd.S_set (Kd.S_set HS8.out HY8.out (by decide) 0 (.int .u64 0)) S1.out (by decide) 1 (.int .u64 (x : Nat))) S2.out (by decide) 2 (.slice A8 labc.length d8)
      obtain ⟨A9, d9, e9, hd9, hC9⟩ := Kd.S_reads T6
      injection e9 with e9 _ e10
      subst e9 e10
      have hne : w.heap.size ≠ w.heap.size + 1 := by omega
      have HX9 : (((w8.setCell ⟨w.heap.size + 1, 0, none⟩ (.int .u64 0)).setCell ⟨w.heap.size + 1, 1, none⟩ (.int .u64 (x : Nat))).setCell ⟨w.heap.size + 1, 2, none⟩ (.slice A8 labc.length d8)).heap[w.heap.size]? = some (.cells #[.int .i64 a0, .int .i64 a1, .int .i64 a2, .int .u64 a3, .int .u64 a4, .int .u64 a5] 24 (0, 0)) := (Below.heap_setCell _ _ _ _ hne).trans ((Below.heap_setCell _ _ _ _ hne).trans ((Below.heap_setCell _ _ _ _ hne).trans HX8.out))
      have HB9 : Below w.heap.size w (((w8.setCell ⟨w.heap.size + 1, 0, none⟩ (.int .u64 0)).setCell ⟨w.heap.size + 1, 1, none⟩ (.int .u64 (x : Nat))).setCell ⟨w.heap.size + 1, 2, none⟩ (.slice A8 labc.length d8)) := Below.setCell (Below.setCell (Below.setCell HB8.out (Nat.le_succ _) _) (Nat.le_succ _) _) (Nat.le_succ _) _
      clear T6 f0 f1 f2 c0 c1 c2
      generalize (((w8.setCell ⟨w.heap.size + 1, 0, none⟩ (.int .u64 0)).setCell ⟨w.heap.size + 1, 1, none⟩ (.int .u64 (x : Nat))).setCell ⟨w.heap.size + 1, 2, none⟩ (.slice A8 labc.length d8)) = wz at S3 hC9 HX9 HB9 ⊢
      go_roundg 0
      case measure => omega
      case rel => exact ⟨2, by omega, by first | rfl | go_num, rfl, ⟨below_step HB9 (below_alloc (Below.refl _ _) _)⟩, ⟨blk_below HX9 (below_alloc (Below.refl _ _) _)⟩, ⟨.inr (.inr ⟨rfl, _, _, blk_below S3.out (below_alloc (Below.refl _ _) _), hd9, Kd.C_below hC9 (below_alloc (Below.refl _ _) _)⟩)⟩⟩
    · clear HY
      have HY := aq hy
      have HC6 := aq hC6
      have HD6 := aq hd6
      clear hy hC6 hd6
      obtain ⟨y0, y1, y2⟩ := box3 HY.out
      go_wp2_with (first
        | (go_at_call 21; (with_reducible refine (Qe.rootHash_calls a0 a1 a2 a3 a4 a5 x A6 d6 m labc r _ HMM.out HM2.out HD6.out HE.out (Glob.below HG.out HB.out) HRW.out HC6.out k HO2.out.t3 HSE.out HR.out).mono ?_); rintro en w7 ⟨A7, c7, v7, rfl, hl7, hC7, hb⟩; have HL7 := aq hl7; have HC7 := aq hC7; have HB7 := aq (below_then HB.out HB.out.size hb); clear hl7 hC7 hb))
      first | go_ret2 | go_ret
      exact ⟨A7, c7, rfl, HL7.out, HC7.out, HB7.out⟩
end Go.Proofs.YtfhcpniibiobgaaDoor.Qf
namespace Go.Proofs.YtfhcpniibiobgaaDoor.Qf
open Go.RowKit Go.Proofs.YtfhcpniibiobgaaDoorW.PrintWords Go.Proofs.YtfhcpniibiobgaaDoorW.PrintLast Go.Proofs.YtfhcpniibiobgaaDoorW.PrintMore
open Hs (CB CL at_L at_B infoB infoL R_of_blk sameF)
open Go.Proofs.YtfhcpniibiobgaaDoor.Pure (hcF chB)
theorem allocs3' (w : World) (c1 : Array Value) (t1 : Nat) (c2 : Array Value) (t2 : Nat) (c3 : Array Value) (t3 : Nat) : Below w.heap.size w (((w.alloc (.cells c1 t1)).alloc (.cells c2 t2)).alloc (.cells c3 t3)) ∧ (((w.alloc (.cells c1 t1)).alloc (.cells c2 t2)).alloc (.cells c3 t3)).heap[w.heap.size]? = some (.cells c1 t1 (0, 0)) ∧ (((w.alloc (.cells c1 t1)).alloc (.cells c2 t2)).alloc (.cells c3 t3)).heap[w.heap.size + 1]? = some (.cells c2 t2 (0, 0)) ∧ (((w.alloc (.cells c1 t1)).alloc (.cells c2 t2)).alloc (.cells c3 t3)).heap[w.heap.size + 1 + 1]? = some (.cells c3 t3 (0, 0)) := by
  have s1 : (w.alloc (.cells c1 t1)).heap.size = w.heap.size + 1 := by simp
  have s2 : ((w.alloc (.cells c1 t1)).alloc (.cells c2 t2)).heap.size = w.heap.size + 1 + 1 := by simp
  refine ⟨below_alloc (below_alloc (below_alloc (Below.refl _ _) _) _) _, ?_, ?_, ?_⟩
  · exact blk_below (heap_alloc_new w (.cells c1 t1)) (below_alloc (below_alloc (Below.refl _ _) _) _)
  · have h := blk_below (heap_alloc_new (w.alloc (.cells c1 t1)) (.cells c2 t2)) (below_alloc (Below.refl _ _) (.cells c3 t3))
    rwa [s1] at h
  · have h := heap_alloc_new ((w.alloc (.cells c1 t1)).alloc (.cells c2 t2)) (.cells c3 t3)
    rwa [s2] at h
theorem allocs2' (w : World) (c1 : Array Value) (t1 : Nat) (c2 : Array Value) (t2 : Nat) : Below w.heap.size w ((w.alloc (.cells c1 t1)).alloc (.cells c2 t2)) ∧ ((w.alloc (.cells c1 t1)).alloc (.cells c2 t2)).heap[w.heap.size]? = some (.cells c1 t1 (0, 0)) ∧ ((w.alloc (.cells c1 t1)).alloc (.cells c2 t2)).heap[w.heap.size + 1]? = some (.cells c2 t2 (0, 0)) := by
  have s1 : (w.alloc (.cells c1 t1)).heap.size = w.heap.size + 1 := by simp
  refine ⟨below_alloc (below_alloc (Below.refl _ _) _) _, blk_below (heap_alloc_new w (.cells c1 t1)) (below_alloc (Below.refl _ _) _), ?_⟩
  have h := heap_alloc_new (w.alloc (.cells c1 t1)) (.cells c2 t2)
  rwa [s1] at h
theorem c35_2 {W : World} {g : Nat} {b0 e0 b1 e1 : Int} {A0 A1 : Option Addr} {c0 c1 : Nat} {m0 m1 : List (List Int)} (h : W.heap[g]? = some (.cells #[.int .u64 b0, .int .u64 e0, .slice A0 m0.length c0, .int .u64 b1, .int .u64 e1, .slice A1 m1.length c1] 35 (0, 0))) (hc0 : m0.length ≤ c0) (hC0 : CL W A0 m0) (hc1 : m1.length ≤ c1) (hC1 : CL W A1 m1) : Kd.C k35 W (some ⟨g, 0, none⟩) 2 [⟨b0, e0, m0⟩, ⟨b1, e1, m1⟩] := by
  refine ⟨rfl, by simp, fun _ => ⟨⟨g, 0, none⟩, rfl, fun j q hj => ?_⟩⟩
  rcases j with _ | _ | j
  · obtain rfl : (⟨b0, e0, m0⟩ : S35) = q := by simpa using hj
    refine ⟨_, rfl, k35_mk W ⟨b0, e0, m0⟩ hc0 hC0, fun i u hu => ?_⟩
    rcases i with _ | _ | _ | i
    · obtain rfl := Option.some.inj hu
      exact (blk_cell h 0).trans rfl
    · obtain rfl := Option.some.inj hu
      exact (blk_cell h 1).trans rfl
    · obtain rfl := Option.some.inj hu
      exact (blk_cell h 2).trans rfl
    · simp at hu
  · obtain rfl : (⟨b1, e1, m1⟩ : S35) = q := by simpa using hj
    refine ⟨_, rfl, k35_mk W ⟨b1, e1, m1⟩ hc1 hC1, fun i u hu => ?_⟩
    rcases i with _ | _ | _ | i
    · obtain rfl := Option.some.inj hu
      exact (blk_cell h 3).trans rfl
    · obtain rfl := Option.some.inj hu
      exact (blk_cell h 4).trans rfl
    · obtain rfl := Option.some.inj hu
      exact (blk_cell h 5).trans rfl
    · simp at hu
  · simp at hj
theorem c35_3 {W : World} {g : Nat} {b0 e0 b1 e1 b2 e2 : Int} {A0 A1 A2 : Option Addr} {c0 c1 c2 : Nat} {m0 m1 m2 : List (List Int)} (h : W.heap[g]? = some (.cells #[.int .u64 b0, .int .u64 e0, .slice A0 m0.length c0, .int .u64 b1, .int .u64 e1, .slice A1 m1.length c1, .int .u64 b2, .int .u64 e2, .slice A2 m2.length c2] 35 (0, 0))) (hc0 : m0.length ≤ c0) (hC0 : CL W A0 m0) (hc1 : m1.length ≤ c1) (hC1 : CL W A1 m1) (hc2 : m2.length ≤ c2) (hC2 : CL W A2 m2) : Kd.C k35 W (some ⟨g, 0, none⟩) 3 [⟨b0, e0, m0⟩, ⟨b1, e1, m1⟩, ⟨b2, e2, m2⟩] := by
  refine ⟨rfl, by simp, fun _ => ⟨⟨g, 0, none⟩, rfl, fun j q hj => ?_⟩⟩
  rcases j with _ | _ | _ | j
  · obtain rfl : (⟨b0, e0, m0⟩ : S35) = q := by simpa using hj
    refine ⟨_, rfl, k35_mk W ⟨b0, e0, m0⟩ hc0 hC0, fun i u hu => ?_⟩
    rcases i with _ | _ | _ | i
    · obtain rfl := Option.some.inj hu
      exact (blk_cell h 0).trans rfl
    · obtain rfl := Option.some.inj hu
      exact (blk_cell h 1).trans rfl
    · obtain rfl := Option.some.inj hu
      exact (blk_cell h 2).trans rfl
    · simp at hu
  · obtain rfl : (⟨b1, e1, m1⟩ : S35) = q := by simpa using hj
    refine ⟨_, rfl, k35_mk W ⟨b1, e1, m1⟩ hc1 hC1, fun i u hu => ?_⟩
    rcases i with _ | _ | _ | i
    · obtain rfl := Option.some.inj hu
      exact (blk_cell h 3).trans rfl
    · obtain rfl := Option.some.inj hu
      exact (blk_cell h 4).trans rfl
    · obtain rfl := Option.some.inj hu
      exact (blk_cell h 5).trans rfl
    · simp at hu
  · obtain rfl : (⟨b2, e2, m2⟩ : S35) = q := by simpa using hj
    refine ⟨_, rfl, k35_mk W ⟨b2, e2, m2⟩ hc2 hC2, fun i u hu => ?_⟩
    rcases i with _ | _ | _ | i
    · obtain rfl := Option.some.inj hu
      exact (blk_cell h 6).trans rfl
    · obtain rfl := Option.some.inj hu
      exact (blk_cell h 7).trans rfl
    · obtain rfl := Option.some.inj hu
      exact (blk_cell h 8).trans rfl
    · simp at hu
  · simp at hj
theorem cl_one {W : World} {g : Nat} {A : Option Addr} {c : Nat} {s : List Int} (h : W.heap[g]? = some (.cells #[.slice A s.length c] 28 (0, 0))) (hc : s.length ≤ c) (hC : CB W A s) : CL W (some ⟨g, 0, none⟩) [s] := by
  refine ⟨rfl, by simp, fun _ => ⟨⟨g, 0, none⟩, rfl, fun j q hj => ?_⟩⟩
  rcases j with _ | j
  · obtain rfl : s = q := by simpa using hj
    refine ⟨_, rfl, ⟨A, c, rfl, hc, hC⟩, fun i u hu => ?_⟩
    rcases i with _ | i
    · obtain rfl := Option.some.inj hu
      exact (blk_cell h 0).trans rfl
    · simp at hu
  · simp at hj
theorem leaf0_calls (x E1 : Nat) (h : x + 1 = E1) (hE : E1 < 18446744073709551616) (A1 : Option Addr) (n1 c1 : Nat) (w : World) :
    Calls Tryd.prog 41 #[.int .u64 (x : Nat), .slice A1 n1 c1] w fun en w' => ∃ g, en = .returned (.agg #[.int .u64 (x : Nat), .int .u64 (E1 : Nat), .slice (some ⟨g, 0, none⟩) 1 1]) ∧ w.heap.size ≤ g ∧ w'.heap[g]? = some (.cells #[.slice A1 n1 c1] 28 (0, 0)) ∧ Below w.heap.size w w' := by
  have hw : IntKind.u64.wrap ((x : Int) + 1) = (E1 : Int) := by
    show ((x : Int) + 1) % 18446744073709551616 = _
    omega
  have hl := leaf_calls (x : Int) A1 n1 c1 w
  rwa [hw] at hl
set_option maxHeartbeats 2000000 in
set_option maxRecDepth 100000 in
theorem li1 (Kf : Nat) (a0 a1 a2 a3 a4 a5 : Int) (b e b3 x : Nat) (A1 : Option Addr) (c1 : Nat) (l1 : List (List Int)) (A2 : Option Addr) (c2 : Nat) (s : List Int) (A3 : Option Addr) (c3 : Nat) (l3 : List (List Int)) (w : World) (h1 : CL w A1 l1) (n1 : l1.length ≤ c1) (h2 : CB w A2 s) (n2 : s.length ≤ c2) (h3 : CL w A3 l3) (n3 : l3.length ≤ c3) (z1_ : laws_zzFits7.f Kf (b : Int) (e : Int) l1 = some false) :
    Calls Tryd.prog 12 #[.agg #[.int .i64 a0, .int .i64 a1, .int .i64 a2, .int .u64 a3, .int .u64 a4, .int .u64 a5], .agg #[.int .u64 (b : Nat), .int .u64 (e : Nat), .slice A1 l1.length c1], .slice A2 s.length c2, .agg #[.int .u64 (b3 : Nat), .int .u64 (x : Nat), .slice A3 l3.length c3]] w fun en w' => en = .returned (.bool true) ∧ Below w.heap.size w w' := by
  have h1_ := aq h1
  clear h1
  have h2_ := aq h2
  clear h2
  have h3_ := aq h3
  clear h3
  have _u := And.intro n1 (And.intro n2 (And.intro n3 (Eq.refl Kf)))
  clear _u
  obtain ⟨hB0, hX0, hX1, hX2⟩ := allocs3' w #[.int .i64 a0, .int .i64 a1, .int .i64 a2, .int .u64 a3, .int .u64 a4, .int .u64 a5] 24 #[.int .u64 (b : Nat), .int .u64 (e : Nat), .slice A1 l1.length c1] 35 #[.int .u64 (b3 : Nat), .int .u64 (x : Nat), .slice A3 l3.length c3] 35
  have HB := aq hB0
  have HX := aq hX0
  have X1 := aq hX1
  have X2 := aq hX2
  clear hB0 hX0 hX1 hX2
  have Z1 := aq z1_
  clear z1_
  go_enter Tryd.func12, Tryd.ntmps12
  go_wp2_with fail
  (try generalize (((w.alloc (.cells #[.int .i64 a0, .int .i64 a1, .int .i64 a2, .int .u64 a3, .int .u64 a4, .int .u64 a5] 24)).alloc (.cells #[.int .u64 (b : Nat), .int .u64 (e : Nat), .slice A1 l1.length c1] 35)).alloc (.cells #[.int .u64 (b3 : Nat), .int .u64 (x : Nat), .slice A3 l3.length c3] 35)) = wA at HB HX X1 X2 ⊢)
  (try clear hk0 hk1 hk2 hk3 hk4 hk5 x10 x11 x12 x20 x21 x22)
  obtain ⟨hk0, hk1, hk2, hk3, hk4, hk5⟩ := box6 HX.out
  obtain ⟨x10, x11, x12⟩ := box3 X1.out
  obtain ⟨x20, x21, x22⟩ := box3 X2.out
  have lt0a : w.heap.size < wA.heap.size := lt_of_block HX.out
  have lt0b : w.heap.size + 1 < wA.heap.size := lt_of_block X1.out
  have lt0c : w.heap.size + 1 + 1 < wA.heap.size := lt_of_block X2.out
  go_wp2_with (first
    | (go_at_call 19; (with_reducible refine (laws_zzFits7.calls Kf (b : Int) (e : Int) A1 c1 l1 _ _ (Kd.C_below h1_.out HB.out) n1 Z1.out).mono ?_); rintro en wz1 ⟨rfl, hd⟩; (first | have hb := hd.below | have hb := hd); clear hd; replace HB := aq (below_then HB.out HB.out.size hb); replace HX := aq (blk_below HX.out hb); replace X1 := aq (blk_below X1.out hb); replace X2 := aq (blk_below X2.out hb); clear hb; (try clear hk0 hk1 hk2 hk3 hk4 hk5 x10 x11 x12 x20 x21 x22); obtain ⟨hk0, hk1, hk2, hk3, hk4, hk5⟩ := box6 HX.out; obtain ⟨x10, x11, x12⟩ := box3 X1.out; obtain ⟨x20, x21, x22⟩ := box3 X2.out; have lt1a : w.heap.size < wz1.heap.size := lt_of_block HX.out; have lt1b : w.heap.size + 1 < wz1.heap.size := lt_of_block X1.out; have lt1c : w.heap.size + 1 + 1 < wz1.heap.size := lt_of_block X2.out))
  go_ret
  exact ⟨rfl, HB.out⟩
set_option maxHeartbeats 2000000 in
set_option maxRecDepth 100000 in
theorem li2 (Kf : Nat) (a0 a1 a2 a3 a4 a5 : Int) (b e b3 x : Nat) (A1 : Option Addr) (c1 : Nat) (l1 : List (List Int)) (A2 : Option Addr) (c2 : Nat) (s : List Int) (A3 : Option Addr) (c3 : Nat) (l3 : List (List Int)) (w : World) (h1 : CL w A1 l1) (n1 : l1.length ≤ c1) (h2 : CB w A2 s) (n2 : s.length ≤ c2) (h3 : CL w A3 l3) (n3 : l3.length ≤ c3) (z1_ : laws_zzFits7.f Kf (b : Int) (e : Int) l1 = some true) (hbig : 2147483647 < s.length) :
    Calls Tryd.prog 12 #[.agg #[.int .i64 a0, .int .i64 a1, .int .i64 a2, .int .u64 a3, .int .u64 a4, .int .u64 a5], .agg #[.int .u64 (b : Nat), .int .u64 (e : Nat), .slice A1 l1.length c1], .slice A2 s.length c2, .agg #[.int .u64 (b3 : Nat), .int .u64 (x : Nat), .slice A3 l3.length c3]] w fun en w' => en = .returned (.bool true) ∧ Below w.heap.size w w' := by
  have h1_ := aq h1
  clear h1
  have h2_ := aq h2
  clear h2
  have h3_ := aq h3
  clear h3
  have _u := And.intro n1 (And.intro n2 (And.intro n3 (Eq.refl Kf)))
  clear _u
  obtain ⟨hB0, hX0, hX1, hX2⟩ := allocs3' w #[.int .i64 a0, .int .i64 a1, .int .i64 a2, .int .u64 a3, .int .u64 a4, .int .u64 a5] 24 #[.int .u64 (b : Nat), .int .u64 (e : Nat), .slice A1 l1.length c1] 35 #[.int .u64 (b3 : Nat), .int .u64 (x : Nat), .slice A3 l3.length c3] 35
  have HB := aq hB0
  have HX := aq hX0
  have X1 := aq hX1
  have X2 := aq hX2
  clear hB0 hX0 hX1 hX2
  have Z1 := aq z1_
  clear z1_
  have t1 : decide ((2147483647 : Int) < (s.length : Int)) = true := decide_eq_true (by omega)
  have t1n : decide (2147483647 < s.length) = true := decide_eq_true (by omega)
  clear hbig
  go_enter Tryd.func12, Tryd.ntmps12
  go_wp2_with fail
  (try generalize (((w.alloc (.cells #[.int .i64 a0, .int .i64 a1, .int .i64 a2, .int .u64 a3, .int .u64 a4, .int .u64 a5] 24)).alloc (.cells #[.int .u64 (b : Nat), .int .u64 (e : Nat), .slice A1 l1.length c1] 35)).alloc (.cells #[.int .u64 (b3 : Nat), .int .u64 (x : Nat), .slice A3 l3.length c3] 35)) = wA at HB HX X1 X2 ⊢)
  (try clear hk0 hk1 hk2 hk3 hk4 hk5 x10 x11 x12 x20 x21 x22)
  obtain ⟨hk0, hk1, hk2, hk3, hk4, hk5⟩ := box6 HX.out
  obtain ⟨x10, x11, x12⟩ := box3 X1.out
  obtain ⟨x20, x21, x22⟩ := box3 X2.out
  have lt0a : w.heap.size < wA.heap.size := lt_of_block HX.out
  have lt0b : w.heap.size + 1 < wA.heap.size := lt_of_block X1.out
  have lt0c : w.heap.size + 1 + 1 < wA.heap.size := lt_of_block X2.out
  go_wp2_with (first
    | (go_at_call 19; (with_reducible refine (laws_zzFits7.calls Kf (b : Int) (e : Int) A1 c1 l1 _ _ (Kd.C_below h1_.out HB.out) n1 Z1.out).mono ?_); rintro en wz1 ⟨rfl, hd⟩; (first | have hb := hd.below | have hb := hd); clear hd; replace HB := aq (below_then HB.out HB.out.size hb); replace HX := aq (blk_below HX.out hb); replace X1 := aq (blk_below X1.out hb); replace X2 := aq (blk_below X2.out hb); clear hb; (try clear hk0 hk1 hk2 hk3 hk4 hk5 x10 x11 x12 x20 x21 x22); obtain ⟨hk0, hk1, hk2, hk3, hk4, hk5⟩ := box6 HX.out; obtain ⟨x10, x11, x12⟩ := box3 X1.out; obtain ⟨x20, x21, x22⟩ := box3 X2.out; have lt1a : w.heap.size < wz1.heap.size := lt_of_block HX.out; have lt1b : w.heap.size + 1 < wz1.heap.size := lt_of_block X1.out; have lt1c : w.heap.size + 1 + 1 < wz1.heap.size := lt_of_block X2.out))
  go_ret
  exact ⟨rfl, HB.out⟩
set_option maxHeartbeats 2000000 in
set_option maxRecDepth 100000 in
theorem li3 (Kf : Nat) (a0 a1 a2 a3 a4 a5 : Int) (b e b3 x : Nat) (A1 : Option Addr) (c1 : Nat) (l1 : List (List Int)) (A2 : Option Addr) (c2 : Nat) (s : List Int) (A3 : Option Addr) (c3 : Nat) (l3 : List (List Int)) (w : World) (h1 : CL w A1 l1) (n1 : l1.length ≤ c1) (h2 : CB w A2 s) (n2 : s.length ≤ c2) (h3 : CL w A3 l3) (n3 : l3.length ≤ c3) (z1_ : laws_zzFits7.f Kf (b : Int) (e : Int) l1 = some true) (hbig : s.length ≤ 2147483647) (z3_ : laws_zzFits7.f Kf (b3 : Int) (x : Int) l3 = some false) :
    Calls Tryd.prog 12 #[.agg #[.int .i64 a0, .int .i64 a1, .int .i64 a2, .int .u64 a3, .int .u64 a4, .int .u64 a5], .agg #[.int .u64 (b : Nat), .int .u64 (e : Nat), .slice A1 l1.length c1], .slice A2 s.length c2, .agg #[.int .u64 (b3 : Nat), .int .u64 (x : Nat), .slice A3 l3.length c3]] w fun en w' => en = .returned (.bool true) ∧ Below w.heap.size w w' := by
  have h1_ := aq h1
  clear h1
  have h2_ := aq h2
  clear h2
  have h3_ := aq h3
  clear h3
  have _u := And.intro n1 (And.intro n2 (And.intro n3 (Eq.refl Kf)))
  clear _u
  obtain ⟨hB0, hX0, hX1, hX2⟩ := allocs3' w #[.int .i64 a0, .int .i64 a1, .int .i64 a2, .int .u64 a3, .int .u64 a4, .int .u64 a5] 24 #[.int .u64 (b : Nat), .int .u64 (e : Nat), .slice A1 l1.length c1] 35 #[.int .u64 (b3 : Nat), .int .u64 (x : Nat), .slice A3 l3.length c3] 35
  have HB := aq hB0
  have HX := aq hX0
  have X1 := aq hX1
  have X2 := aq hX2
  clear hB0 hX0 hX1 hX2
  have Z1 := aq z1_
  clear z1_
  have Z3 := aq z3_
  clear z3_
  have t1 : decide ((2147483647 : Int) < (s.length : Int)) = false := decide_eq_false (by omega)
  have t1n : decide (2147483647 < s.length) = false := decide_eq_false (by omega)
  clear hbig
  go_enter Tryd.func12, Tryd.ntmps12
  go_wp2_with fail
  (try generalize (((w.alloc (.cells #[.int .i64 a0, .int .i64 a1, .int .i64 a2, .int .u64 a3, .int .u64 a4, .int .u64 a5] 24)).alloc (.cells #[.int .u64 (b : Nat), .int .u64 (e : Nat), .slice A1 l1.length c1] 35)).alloc (.cells #[.int .u64 (b3 : Nat), .int .u64 (x : Nat), .slice A3 l3.length c3] 35)) = wA at HB HX X1 X2 ⊢)
  (try clear hk0 hk1 hk2 hk3 hk4 hk5 x10 x11 x12 x20 x21 x22)
  obtain ⟨hk0, hk1, hk2, hk3, hk4, hk5⟩ := box6 HX.out
  obtain ⟨x10, x11, x12⟩ := box3 X1.out
  obtain ⟨x20, x21, x22⟩ := box3 X2.out
  have lt0a : w.heap.size < wA.heap.size := lt_of_block HX.out
  have lt0b : w.heap.size + 1 < wA.heap.size := lt_of_block X1.out
  have lt0c : w.heap.size + 1 + 1 < wA.heap.size := lt_of_block X2.out
  go_wp2_with (first
    | (go_at_call 19; (with_reducible refine (laws_zzFits7.calls Kf (b : Int) (e : Int) A1 c1 l1 _ _ (Kd.C_below h1_.out HB.out) n1 Z1.out).mono ?_); rintro en wz1 ⟨rfl, hd⟩; (first | have hb := hd.below | have hb := hd); clear hd; replace HB := aq (below_then HB.out HB.out.size hb); replace HX := aq (blk_below HX.out hb); replace X1 := aq (blk_below X1.out hb); replace X2 := aq (blk_below X2.out hb); clear hb; (try clear hk0 hk1 hk2 hk3 hk4 hk5 x10 x11 x12 x20 x21 x22); obtain ⟨hk0, hk1, hk2, hk3, hk4, hk5⟩ := box6 HX.out; obtain ⟨x10, x11, x12⟩ := box3 X1.out; obtain ⟨x20, x21, x22⟩ := box3 X2.out; have lt1a : w.heap.size < wz1.heap.size := lt_of_block HX.out; have lt1b : w.heap.size + 1 < wz1.heap.size := lt_of_block X1.out; have lt1c : w.heap.size + 1 + 1 < wz1.heap.size := lt_of_block X2.out)
    | (go_at_call 19; (with_reducible refine (laws_zzFits7.calls Kf (b3 : Int) (x : Int) A3 c3 l3 _ _ (Kd.C_below h3_.out HB.out) n3 Z3.out).mono ?_); rintro en wz2 ⟨rfl, hd⟩; (first | have hb := hd.below | have hb := hd); clear hd; replace HB := aq (below_then HB.out HB.out.size hb); replace HX := aq (blk_below HX.out hb); replace X1 := aq (blk_below X1.out hb); replace X2 := aq (blk_below X2.out hb); clear hb; (try clear hk0 hk1 hk2 hk3 hk4 hk5 x10 x11 x12 x20 x21 x22); obtain ⟨hk0, hk1, hk2, hk3, hk4, hk5⟩ := box6 HX.out; obtain ⟨x10, x11, x12⟩ := box3 X1.out; obtain ⟨x20, x21, x22⟩ := box3 X2.out; have lt2a : w.heap.size < wz2.heap.size := lt_of_block HX.out; have lt2b : w.heap.size + 1 < wz2.heap.size := lt_of_block X1.out; have lt2c : w.heap.size + 1 + 1 < wz2.heap.size := lt_of_block X2.out))
  go_ret
  exact ⟨rfl, HB.out⟩
set_option maxHeartbeats 2000000 in
set_option maxRecDepth 100000 in
theorem li4 (Kf : Nat) (a0 a1 a2 a3 a4 a5 : Int) (b e b3 x : Nat) (A1 : Option Addr) (c1 : Nat) (l1 : List (List Int)) (A2 : Option Addr) (c2 : Nat) (s : List Int) (A3 : Option Addr) (c3 : Nat) (l3 : List (List Int)) (w : World) (h1 : CL w A1 l1) (n1 : l1.length ≤ c1) (h2 : CB w A2 s) (n2 : s.length ≤ c2) (h3 : CL w A3 l3) (n3 : l3.length ≤ c3) (z1_ : laws_zzFits7.f Kf (b : Int) (e : Int) l1 = some true) (hbig : s.length ≤ 2147483647) (z3_ : laws_zzFits7.f Kf (b3 : Int) (x : Int) l3 = some true) (hne : (s.length : Int) ≠ a1) :
    Calls Tryd.prog 12 #[.agg #[.int .i64 a0, .int .i64 a1, .int .i64 a2, .int .u64 a3, .int .u64 a4, .int .u64 a5], .agg #[.int .u64 (b : Nat), .int .u64 (e : Nat), .slice A1 l1.length c1], .slice A2 s.length c2, .agg #[.int .u64 (b3 : Nat), .int .u64 (x : Nat), .slice A3 l3.length c3]] w fun en w' => en = .returned (.bool true) ∧ Below w.heap.size w w' := by
  have h1_ := aq h1
  clear h1
  have h2_ := aq h2
  clear h2
  have h3_ := aq h3
  clear h3
  have _u := And.intro n1 (And.intro n2 (And.intro n3 (Eq.refl Kf)))
  clear _u
  obtain ⟨hB0, hX0, hX1, hX2⟩ := allocs3' w #[.int .i64 a0, .int .i64 a1, .int .i64 a2, .int .u64 a3, .int .u64 a4, .int .u64 a5] 24 #[.int .u64 (b : Nat), .int .u64 (e : Nat), .slice A1 l1.length c1] 35 #[.int .u64 (b3 : Nat), .int .u64 (x : Nat), .slice A3 l3.length c3] 35
  have HB := aq hB0
  have HX := aq hX0
  have X1 := aq hX1
  have X2 := aq hX2
  clear hB0 hX0 hX1 hX2
  have Z1 := aq z1_
  clear z1_
  have Z3 := aq z3_
  clear z3_
  have t1 : decide ((2147483647 : Int) < (s.length : Int)) = false := decide_eq_false (by omega)
  have t1n : decide (2147483647 < s.length) = false := decide_eq_false (by omega)
  clear hbig
  have t2 : ((s.length : Int) != a1) = true := bne_iff_ne.2 hne
  clear hne
  go_enter Tryd.func12, Tryd.ntmps12
  go_wp2_with fail
  (try generalize (((w.alloc (.cells #[.int .i64 a0, .int .i64 a1, .int .i64 a2, .int .u64 a3, .int .u64 a4, .int .u64 a5] 24)).alloc (.cells #[.int .u64 (b : Nat), .int .u64 (e : Nat), .slice A1 l1.length c1] 35)).alloc (.cells #[.int .u64 (b3 : Nat), .int .u64 (x : Nat), .slice A3 l3.length c3] 35)) = wA at HB HX X1 X2 ⊢)
  (try clear hk0 hk1 hk2 hk3 hk4 hk5 x10 x11 x12 x20 x21 x22)
  obtain ⟨hk0, hk1, hk2, hk3, hk4, hk5⟩ := box6 HX.out
  obtain ⟨x10, x11, x12⟩ := box3 X1.out
  obtain ⟨x20, x21, x22⟩ := box3 X2.out
  have lt0a : w.heap.size < wA.heap.size := lt_of_block HX.out
  have lt0b : w.heap.size + 1 < wA.heap.size := lt_of_block X1.out
  have lt0c : w.heap.size + 1 + 1 < wA.heap.size := lt_of_block X2.out
  go_wp2_with (first
    | (go_at_call 19; (with_reducible refine (laws_zzFits7.calls Kf (b : Int) (e : Int) A1 c1 l1 _ _ (Kd.C_below h1_.out HB.out) n1 Z1.out).mono ?_); rintro en wz1 ⟨rfl, hd⟩; (first | have hb := hd.below | have hb := hd); clear hd; replace HB := aq (below_then HB.out HB.out.size hb); replace HX := aq (blk_below HX.out hb); replace X1 := aq (blk_below X1.out hb); replace X2 := aq (blk_below X2.out hb); clear hb; (try clear hk0 hk1 hk2 hk3 hk4 hk5 x10 x11 x12 x20 x21 x22); obtain ⟨hk0, hk1, hk2, hk3, hk4, hk5⟩ := box6 HX.out; obtain ⟨x10, x11, x12⟩ := box3 X1.out; obtain ⟨x20, x21, x22⟩ := box3 X2.out; have lt1a : w.heap.size < wz1.heap.size := lt_of_block HX.out; have lt1b : w.heap.size + 1 < wz1.heap.size := lt_of_block X1.out; have lt1c : w.heap.size + 1 + 1 < wz1.heap.size := lt_of_block X2.out)
    | (go_at_call 19; (with_reducible refine (laws_zzFits7.calls Kf (b3 : Int) (x : Int) A3 c3 l3 _ _ (Kd.C_below h3_.out HB.out) n3 Z3.out).mono ?_); rintro en wz2 ⟨rfl, hd⟩; (first | have hb := hd.below | have hb := hd); clear hd; replace HB := aq (below_then HB.out HB.out.size hb); replace HX := aq (blk_below HX.out hb); replace X1 := aq (blk_below X1.out hb); replace X2 := aq (blk_below X2.out hb); clear hb; (try clear hk0 hk1 hk2 hk3 hk4 hk5 x10 x11 x12 x20 x21 x22); obtain ⟨hk0, hk1, hk2, hk3, hk4, hk5⟩ := box6 HX.out; obtain ⟨x10, x11, x12⟩ := box3 X1.out; obtain ⟨x20, x21, x22⟩ := box3 X2.out; have lt2a : w.heap.size < wz2.heap.size := lt_of_block HX.out; have lt2b : w.heap.size + 1 < wz2.heap.size := lt_of_block X1.out; have lt2c : w.heap.size + 1 + 1 < wz2.heap.size := lt_of_block X2.out))
  have HBd := aq (below_drew1 HB.out)
  have HXd := aq (blk_drew HX.out)
  have X1d := aq (blk_drew X1.out)
  have X2d := aq (blk_drew X2.out)
  refine start_ (n := 22) (S := fun w' => w'.cell? ⟨w.heap.size, 0, none⟩ = some (.int .i64 a0) ∧ w'.cell? ⟨w.heap.size, 1, none⟩ = some (.int .i64 a1) ∧ w'.cell? ⟨w.heap.size, 2, none⟩ = some (.int .i64 a2) ∧ w'.cell? ⟨w.heap.size, 3, none⟩ = some (.int .u64 a3) ∧ w'.cell? ⟨w.heap.size, 4, none⟩ = some (.int .u64 a4) ∧ w'.cell? ⟨w.heap.size, 5, none⟩ = some (.int .u64 a5) ∧ w'.cell? ⟨w.heap.size + 1, 0, none⟩ = some (.int .u64 (b : Nat)) ∧ w'.cell? ⟨w.heap.size + 1, 1, none⟩ = some (.int .u64 (e : Nat)) ∧ w'.cell? ⟨w.heap.size + 1, 2, none⟩ = some (.slice A1 l1.length c1) ∧ w'.cell? ⟨w.heap.size + 1 + 1, 0, none⟩ = some (.int .u64 (b3 : Nat)) ∧ w'.cell? ⟨w.heap.size + 1 + 1, 1, none⟩ = some (.int .u64 (x : Nat)) ∧ w'.cell? ⟨w.heap.size + 1 + 1, 2, none⟩ = some (.slice A3 l3.length c3)) (ds := []) #[false, false, false, false, false, false, false, false, false, false, false, false, false, false, false, false, false, false, false, false, false, false] (by kernel_rfl) rfl rfl ⟨bc HXd 0, bc HXd 1, bc HXd 2, bc HXd 3, bc HXd 4, bc HXd 5, bc X1d 0, bc X1d 1, bc X1d 2, bc X2d 0, bc X2d 1, bc X2d 2⟩ (fun hHeld => ?_)
  generalize wz2.drew = wd at HBd HXd X1d X2d hHeld ⊢
  clear HB HX X1 X2 hk0 hk1 hk2 hk3 hk4 hk5 x10 x11 x12 x20 x21 x22 lt0a lt0b lt0c lt1a lt1b lt1c lt2a lt2b lt2c
  have HB := HBd
  have HX := HXd
  have X1 := X1d
  have X2 := X2d
  clear HBd HXd X1d X2d
  refine pu 0 32 ?_
  refine pu 1 33 ?_
  refine pu 2 34 ?_
  refine ta 3 35 hHeld ?_
  refine pure_ (i := 4) (N := some 36) (v := .bool true) (a' := ?_) #[true, true, true, true, true, false, false, false, false, false, false, false, false, false, false, false, false, false, false, false, false, false] rfl rfl (by kernel_rfl) (fun _ _ _ h => h) (Or.inl ⟨by rfl, ?_⟩) ?_ ?_
  · intro w'
    first | (go_simp; with_reducible rfl) | (go_simp; done) | (go_simp; rw [t2]) | (go_simp; simp [t2])
  rotate_left
  · simp only [Act.put, List.setIfInBounds_toArray, List.set_cons_zero, List.set_cons_succ]
    rfl
  refine pu 5 37 ?_
  refine pure_ (i := 6) (N := some 38) (v := undef) (a' := ?_) #[true, true, true, true, true, true, true, false, false, false, false, false, false, false, false, false, false, false, false, false, false, false] rfl rfl (by kernel_rfl) (fun _ _ _ h => h) (Or.inr ⟨by rfl, rfl⟩) ?_ ?_
  rotate_left
  · simp only [Act.put, List.setIfInBounds_toArray, List.set_cons_zero, List.set_cons_succ]
    rfl
  refine pure_ (i := 7) (N := some 39) (v := undef) (a' := ?_) #[true, true, true, true, true, true, true, true, false, false, false, false, false, false, false, false, false, false, false, false, false, false] rfl rfl (by kernel_rfl) (fun _ _ _ h => h) (Or.inr ⟨by rfl, rfl⟩) ?_ ?_
  rotate_left
  · simp only [Act.put, List.setIfInBounds_toArray, List.set_cons_zero, List.set_cons_succ]
    rfl
  refine pure_ (i := 8) (N := some 40) (v := undef) (a' := ?_) #[true, true, true, true, true, true, true, true, true, false, false, false, false, false, false, false, false, false, false, false, false, false] rfl rfl (by kernel_rfl) (fun _ _ _ h => h) (Or.inr ⟨by rfl, rfl⟩) ?_ ?_
  rotate_left
  · simp only [Act.put, List.setIfInBounds_toArray, List.set_cons_zero, List.set_cons_succ]
    rfl
  refine pure_ (i := 9) (N := some 41) (v := undef) (a' := ?_) #[true, true, true, true, true, true, true, true, true, true, false, false, false, false, false, false, false, false, false, false, false, false] rfl rfl (by kernel_rfl) (fun _ _ _ h => h) (Or.inr ⟨by rfl, rfl⟩) ?_ ?_
  rotate_left
  · simp only [Act.put, List.setIfInBounds_toArray, List.set_cons_zero, List.set_cons_succ]
    rfl
  refine pu 10 42 ?_
  refine pu 11 43 ?_
  refine pure_ (i := 12) (N := some 44) (v := undef) (a' := ?_) #[true, true, true, true, true, true, true, true, true, true, true, true, true, false, false, false, false, false, false, false, false, false] rfl rfl (by kernel_rfl) (fun _ _ _ h => h) (Or.inr ⟨by rfl, rfl⟩) ?_ ?_
  rotate_left
  · simp only [Act.put, List.setIfInBounds_toArray, List.set_cons_zero, List.set_cons_succ]
    rfl
  refine pure_ (i := 13) (N := some 45) (v := undef) (a' := ?_) #[true, true, true, true, true, true, true, true, true, true, true, true, true, true, false, false, false, false, false, false, false, false] rfl rfl (by kernel_rfl) (fun _ _ _ h => h) (Or.inr ⟨by rfl, rfl⟩) ?_ ?_
  rotate_left
  · simp only [Act.put, List.setIfInBounds_toArray, List.set_cons_zero, List.set_cons_succ]
    rfl
  refine pure_ (i := 14) (N := some 46) (v := undef) (a' := ?_) #[true, true, true, true, true, true, true, true, true, true, true, true, true, true, true, false, false, false, false, false, false, false] rfl rfl (by kernel_rfl) (fun _ _ _ h => h) (Or.inr ⟨by rfl, rfl⟩) ?_ ?_
  rotate_left
  · simp only [Act.put, List.setIfInBounds_toArray, List.set_cons_zero, List.set_cons_succ]
    rfl
  refine pure_ (i := 15) (N := some 47) (v := undef) (a' := ?_) #[true, true, true, true, true, true, true, true, true, true, true, true, true, true, true, true, false, false, false, false, false, false] rfl rfl (by kernel_rfl) (fun _ _ _ h => h) (Or.inr ⟨by rfl, rfl⟩) ?_ ?_
  rotate_left
  · simp only [Act.put, List.setIfInBounds_toArray, List.set_cons_zero, List.set_cons_succ]
    rfl
  refine pure_ (i := 16) (N := some 48) (v := undef) (a' := ?_) #[true, true, true, true, true, true, true, true, true, true, true, true, true, true, true, true, true, false, false, false, false, false] rfl rfl (by kernel_rfl) (fun _ _ _ h => h) (Or.inr ⟨by rfl, rfl⟩) ?_ ?_
  rotate_left
  · simp only [Act.put, List.setIfInBounds_toArray, List.set_cons_zero, List.set_cons_succ]
    rfl
  refine pure_ (i := 17) (N := some 49) (v := undef) (a' := ?_) #[true, true, true, true, true, true, true, true, true, true, true, true, true, true, true, true, true, true, false, false, false, false] rfl rfl (by kernel_rfl) (fun _ _ _ h => h) (Or.inr ⟨by rfl, rfl⟩) ?_ ?_
  rotate_left
  · simp only [Act.put, List.setIfInBounds_toArray, List.set_cons_zero, List.set_cons_succ]
    rfl
  refine pure_ (i := 18) (N := some 50) (v := undef) (a' := ?_) #[true, true, true, true, true, true, true, true, true, true, true, true, true, true, true, true, true, true, true, false, false, false] rfl rfl (by kernel_rfl) (fun _ _ _ h => h) (Or.inr ⟨by rfl, rfl⟩) ?_ ?_
  rotate_left
  · simp only [Act.put, List.setIfInBounds_toArray, List.set_cons_zero, List.set_cons_succ]
    rfl
  refine pure_ (i := 19) (N := some 51) (v := undef) (a' := ?_) #[true, true, true, true, true, true, true, true, true, true, true, true, true, true, true, true, true, true, true, true, false, false] rfl rfl (by kernel_rfl) (fun _ _ _ h => h) (Or.inr ⟨by rfl, rfl⟩) ?_ ?_
  rotate_left
  · simp only [Act.put, List.setIfInBounds_toArray, List.set_cons_zero, List.set_cons_succ]
    rfl
  refine pure_ (i := 20) (N := some 52) (v := undef) (a' := ?_) #[true, true, true, true, true, true, true, true, true, true, true, true, true, true, true, true, true, true, true, true, true, false] rfl rfl (by kernel_rfl) (fun _ _ _ h => h) (Or.inr ⟨by rfl, rfl⟩) ?_ ?_
  rotate_left
  · simp only [Act.put, List.setIfInBounds_toArray, List.set_cons_zero, List.set_cons_succ]
    rfl
  refine pu 21 53 ?_
  refine done_ (by kernel_rfl) ?_
  go_wp2
  go_ret
  exact ⟨rfl, HB.out⟩
set_option maxHeartbeats 2000000 in
set_option maxRecDepth 100000 in
theorem li5 (Kf : Nat) (a0 a1 a2 a3 a4 a5 : Int) (b e b3 x : Nat) (A1 : Option Addr) (c1 : Nat) (l1 : List (List Int)) (A2 : Option Addr) (c2 : Nat) (s : List Int) (A3 : Option Addr) (c3 : Nat) (l3 : List (List Int)) (w : World) (h1 : CL w A1 l1) (n1 : l1.length ≤ c1) (h2 : CB w A2 s) (n2 : s.length ≤ c2) (h3 : CL w A3 l3) (n3 : l3.length ≤ c3) (z1_ : laws_zzFits7.f Kf (b : Int) (e : Int) l1 = some true) (hbig : s.length ≤ 2147483647) (z3_ : laws_zzFits7.f Kf (b3 : Int) (x : Int) l3 = some true) (hne : (s.length : Int) = a1) (he : e = 18446744073709551615) :
    Calls Tryd.prog 12 #[.agg #[.int .i64 a0, .int .i64 a1, .int .i64 a2, .int .u64 a3, .int .u64 a4, .int .u64 a5], .agg #[.int .u64 (b : Nat), .int .u64 (e : Nat), .slice A1 l1.length c1], .slice A2 s.length c2, .agg #[.int .u64 (b3 : Nat), .int .u64 (x : Nat), .slice A3 l3.length c3]] w fun en w' => en = .returned (.bool true) ∧ Below w.heap.size w w' := by
  have h1_ := aq h1
  clear h1
  have h2_ := aq h2
  clear h2
  have h3_ := aq h3
  clear h3
  have _u := And.intro n1 (And.intro n2 (And.intro n3 (Eq.refl Kf)))
  clear _u
  obtain ⟨hB0, hX0, hX1, hX2⟩ := allocs3' w #[.int .i64 a0, .int .i64 a1, .int .i64 a2, .int .u64 a3, .int .u64 a4, .int .u64 a5] 24 #[.int .u64 (b : Nat), .int .u64 (e : Nat), .slice A1 l1.length c1] 35 #[.int .u64 (b3 : Nat), .int .u64 (x : Nat), .slice A3 l3.length c3] 35
  have HB := aq hB0
  have HX := aq hX0
  have X1 := aq hX1
  have X2 := aq hX2
  clear hB0 hX0 hX1 hX2
  have Z1 := aq z1_
  clear z1_
  have Z3 := aq z3_
  clear z3_
  have t1 : decide ((2147483647 : Int) < (s.length : Int)) = false := decide_eq_false (by omega)
  have t1n : decide (2147483647 < s.length) = false := decide_eq_false (by omega)
  clear hbig
  have t2 : ((s.length : Int) != a1) = false := bne_eq_false_iff_eq.2 hne
  clear hne
  have hw : ∀ z : Int, z = 1 → IntKind.u64.wrap ((e : Int) + z) = 0 := fun z hz => by
    rw [hz, he]
    rfl
  have t3 : ((0 : Int) == 0) = true := rfl
  clear he
  go_enter Tryd.func12, Tryd.ntmps12
  go_wp2_with fail
  (try generalize (((w.alloc (.cells #[.int .i64 a0, .int .i64 a1, .int .i64 a2, .int .u64 a3, .int .u64 a4, .int .u64 a5] 24)).alloc (.cells #[.int .u64 (b : Nat), .int .u64 (e : Nat), .slice A1 l1.length c1] 35)).alloc (.cells #[.int .u64 (b3 : Nat), .int .u64 (x : Nat), .slice A3 l3.length c3] 35)) = wA at HB HX X1 X2 ⊢)
  (try clear hk0 hk1 hk2 hk3 hk4 hk5 x10 x11 x12 x20 x21 x22)
  obtain ⟨hk0, hk1, hk2, hk3, hk4, hk5⟩ := box6 HX.out
  obtain ⟨x10, x11, x12⟩ := box3 X1.out
  obtain ⟨x20, x21, x22⟩ := box3 X2.out
  have lt0a : w.heap.size < wA.heap.size := lt_of_block HX.out
  have lt0b : w.heap.size + 1 < wA.heap.size := lt_of_block X1.out
  have lt0c : w.heap.size + 1 + 1 < wA.heap.size := lt_of_block X2.out
  go_wp2_with (first
    | (go_at_call 19; (with_reducible refine (laws_zzFits7.calls Kf (b : Int) (e : Int) A1 c1 l1 _ _ (Kd.C_below h1_.out HB.out) n1 Z1.out).mono ?_); rintro en wz1 ⟨rfl, hd⟩; (first | have hb := hd.below | have hb := hd); clear hd; replace HB := aq (below_then HB.out HB.out.size hb); replace HX := aq (blk_below HX.out hb); replace X1 := aq (blk_below X1.out hb); replace X2 := aq (blk_below X2.out hb); clear hb; (try clear hk0 hk1 hk2 hk3 hk4 hk5 x10 x11 x12 x20 x21 x22); obtain ⟨hk0, hk1, hk2, hk3, hk4, hk5⟩ := box6 HX.out; obtain ⟨x10, x11, x12⟩ := box3 X1.out; obtain ⟨x20, x21, x22⟩ := box3 X2.out; have lt1a : w.heap.size < wz1.heap.size := lt_of_block HX.out; have lt1b : w.heap.size + 1 < wz1.heap.size := lt_of_block X1.out; have lt1c : w.heap.size + 1 + 1 < wz1.heap.size := lt_of_block X2.out)
    | (go_at_call 19; (with_reducible refine (laws_zzFits7.calls Kf (b3 : Int) (x : Int) A3 c3 l3 _ _ (Kd.C_below h3_.out HB.out) n3 Z3.out).mono ?_); rintro en wz2 ⟨rfl, hd⟩; (first | have hb := hd.below | have hb := hd); clear hd; replace HB := aq (below_then HB.out HB.out.size hb); replace HX := aq (blk_below HX.out hb); replace X1 := aq (blk_below X1.out hb); replace X2 := aq (blk_below X2.out hb); clear hb; (try clear hk0 hk1 hk2 hk3 hk4 hk5 x10 x11 x12 x20 x21 x22); obtain ⟨hk0, hk1, hk2, hk3, hk4, hk5⟩ := box6 HX.out; obtain ⟨x10, x11, x12⟩ := box3 X1.out; obtain ⟨x20, x21, x22⟩ := box3 X2.out; have lt2a : w.heap.size < wz2.heap.size := lt_of_block HX.out; have lt2b : w.heap.size + 1 < wz2.heap.size := lt_of_block X1.out; have lt2c : w.heap.size + 1 + 1 < wz2.heap.size := lt_of_block X2.out))
  have HBd := aq (below_drew1 HB.out)
  have HXd := aq (blk_drew HX.out)
  have X1d := aq (blk_drew X1.out)
  have X2d := aq (blk_drew X2.out)
  refine start_ (n := 22) (S := fun w' => w'.cell? ⟨w.heap.size, 0, none⟩ = some (.int .i64 a0) ∧ w'.cell? ⟨w.heap.size, 1, none⟩ = some (.int .i64 a1) ∧ w'.cell? ⟨w.heap.size, 2, none⟩ = some (.int .i64 a2) ∧ w'.cell? ⟨w.heap.size, 3, none⟩ = some (.int .u64 a3) ∧ w'.cell? ⟨w.heap.size, 4, none⟩ = some (.int .u64 a4) ∧ w'.cell? ⟨w.heap.size, 5, none⟩ = some (.int .u64 a5) ∧ w'.cell? ⟨w.heap.size + 1, 0, none⟩ = some (.int .u64 (b : Nat)) ∧ w'.cell? ⟨w.heap.size + 1, 1, none⟩ = some (.int .u64 (e : Nat)) ∧ w'.cell? ⟨w.heap.size + 1, 2, none⟩ = some (.slice A1 l1.length c1) ∧ w'.cell? ⟨w.heap.size + 1 + 1, 0, none⟩ = some (.int .u64 (b3 : Nat)) ∧ w'.cell? ⟨w.heap.size + 1 + 1, 1, none⟩ = some (.int .u64 (x : Nat)) ∧ w'.cell? ⟨w.heap.size + 1 + 1, 2, none⟩ = some (.slice A3 l3.length c3)) (ds := []) #[false, false, false, false, false, false, false, false, false, false, false, false, false, false, false, false, false, false, false, false, false, false] (by kernel_rfl) rfl rfl ⟨bc HXd 0, bc HXd 1, bc HXd 2, bc HXd 3, bc HXd 4, bc HXd 5, bc X1d 0, bc X1d 1, bc X1d 2, bc X2d 0, bc X2d 1, bc X2d 2⟩ (fun hHeld => ?_)
  generalize wz2.drew = wd at HBd HXd X1d X2d hHeld ⊢
  clear HB HX X1 X2 hk0 hk1 hk2 hk3 hk4 hk5 x10 x11 x12 x20 x21 x22 lt0a lt0b lt0c lt1a lt1b lt1c lt2a lt2b lt2c
  have HB := HBd
  have HX := HXd
  have X1 := X1d
  have X2 := X2d
  clear HBd HXd X1d X2d
  refine pu 0 32 ?_
  refine pu 1 33 ?_
  refine pu 2 34 ?_
  refine ta 3 35 hHeld ?_
  refine pure_ (i := 4) (N := some 36) (v := .bool false) (a' := ?_) #[true, true, true, true, true, false, false, false, false, false, false, false, false, false, false, false, false, false, false, false, false, false] rfl rfl (by kernel_rfl) (fun _ _ _ h => h) (Or.inl ⟨by rfl, ?_⟩) ?_ ?_
  · intro w'
    first | (go_simp; with_reducible rfl) | (go_simp; done) | (go_simp; rw [t2]) | (go_simp; simp [t2])
  rotate_left
  · simp only [Act.put, List.setIfInBounds_toArray, List.set_cons_zero, List.set_cons_succ]
    rfl
  refine pu 5 37 ?_
  refine pu 6 38 ?_
  refine ta 7 39 hHeld ?_
  refine pure_ (i := 8) (N := some 40) (v := .int .u64 0) (a' := ?_) #[true, true, true, true, true, true, true, true, true, false, false, false, false, false, false, false, false, false, false, false, false, false] rfl rfl (by kernel_rfl) (fun _ _ _ h => h) (Or.inl ⟨by rfl, ?_⟩) ?_ ?_
  · intro w'
    first | (go_simp; with_reducible rfl) | (go_simp; done) | (go_simp; rw [hw 1 rfl]) | (go_simp; simp [hw 1 rfl])
  rotate_left
  · simp only [Act.put, List.setIfInBounds_toArray, List.set_cons_zero, List.set_cons_succ]
    rfl
  refine pure_ (i := 9) (N := some 41) (v := .bool true) (a' := ?_) #[true, true, true, true, true, true, true, true, true, true, false, false, false, false, false, false, false, false, false, false, false, false] rfl rfl (by kernel_rfl) (fun _ _ _ h => h) (Or.inl ⟨by rfl, ?_⟩) ?_ ?_
  · intro w'
    first | (go_simp; with_reducible rfl) | (go_simp; done) | (go_simp; rw [t3]) | (go_simp; simp [t3])
  rotate_left
  · simp only [Act.put, List.setIfInBounds_toArray, List.set_cons_zero, List.set_cons_succ]
    rfl
  refine pu 10 42 ?_
  refine pu 11 43 ?_
  refine pure_ (i := 12) (N := some 44) (v := undef) (a' := ?_) #[true, true, true, true, true, true, true, true, true, true, true, true, true, false, false, false, false, false, false, false, false, false] rfl rfl (by kernel_rfl) (fun _ _ _ h => h) (Or.inr ⟨by rfl, rfl⟩) ?_ ?_
  rotate_left
  · simp only [Act.put, List.setIfInBounds_toArray, List.set_cons_zero, List.set_cons_succ]
    rfl
  refine pure_ (i := 13) (N := some 45) (v := undef) (a' := ?_) #[true, true, true, true, true, true, true, true, true, true, true, true, true, true, false, false, false, false, false, false, false, false] rfl rfl (by kernel_rfl) (fun _ _ _ h => h) (Or.inr ⟨by rfl, rfl⟩) ?_ ?_
  rotate_left
  · simp only [Act.put, List.setIfInBounds_toArray, List.set_cons_zero, List.set_cons_succ]
    rfl
  refine pure_ (i := 14) (N := some 46) (v := undef) (a' := ?_) #[true, true, true, true, true, true, true, true, true, true, true, true, true, true, true, false, false, false, false, false, false, false] rfl rfl (by kernel_rfl) (fun _ _ _ h => h) (Or.inr ⟨by rfl, rfl⟩) ?_ ?_
  rotate_left
  · simp only [Act.put, List.setIfInBounds_toArray, List.set_cons_zero, List.set_cons_succ]
    rfl
  refine pure_ (i := 15) (N := some 47) (v := undef) (a' := ?_) #[true, true, true, true, true, true, true, true, true, true, true, true, true, true, true, true, false, false, false, false, false, false] rfl rfl (by kernel_rfl) (fun _ _ _ h => h) (Or.inr ⟨by rfl, rfl⟩) ?_ ?_
  rotate_left
  · simp only [Act.put, List.setIfInBounds_toArray, List.set_cons_zero, List.set_cons_succ]
    rfl
  refine pure_ (i := 16) (N := some 48) (v := undef) (a' := ?_) #[true, true, true, true, true, true, true, true, true, true, true, true, true, true, true, true, true, false, false, false, false, false] rfl rfl (by kernel_rfl) (fun _ _ _ h => h) (Or.inr ⟨by rfl, rfl⟩) ?_ ?_
  rotate_left
  · simp only [Act.put, List.setIfInBounds_toArray, List.set_cons_zero, List.set_cons_succ]
    rfl
  refine pure_ (i := 17) (N := some 49) (v := undef) (a' := ?_) #[true, true, true, true, true, true, true, true, true, true, true, true, true, true, true, true, true, true, false, false, false, false] rfl rfl (by kernel_rfl) (fun _ _ _ h => h) (Or.inr ⟨by rfl, rfl⟩) ?_ ?_
  rotate_left
  · simp only [Act.put, List.setIfInBounds_toArray, List.set_cons_zero, List.set_cons_succ]
    rfl
  refine pure_ (i := 18) (N := some 50) (v := undef) (a' := ?_) #[true, true, true, true, true, true, true, true, true, true, true, true, true, true, true, true, true, true, true, false, false, false] rfl rfl (by kernel_rfl) (fun _ _ _ h => h) (Or.inr ⟨by rfl, rfl⟩) ?_ ?_
  rotate_left
  · simp only [Act.put, List.setIfInBounds_toArray, List.set_cons_zero, List.set_cons_succ]
    rfl
  refine pure_ (i := 19) (N := some 51) (v := undef) (a' := ?_) #[true, true, true, true, true, true, true, true, true, true, true, true, true, true, true, true, true, true, true, true, false, false] rfl rfl (by kernel_rfl) (fun _ _ _ h => h) (Or.inr ⟨by rfl, rfl⟩) ?_ ?_
  rotate_left
  · simp only [Act.put, List.setIfInBounds_toArray, List.set_cons_zero, List.set_cons_succ]
    rfl
  refine pure_ (i := 20) (N := some 52) (v := undef) (a' := ?_) #[true, true, true, true, true, true, true, true, true, true, true, true, true, true, true, true, true, true, true, true, true, false] rfl rfl (by kernel_rfl) (fun _ _ _ h => h) (Or.inr ⟨by rfl, rfl⟩) ?_ ?_
  rotate_left
  · simp only [Act.put, List.setIfInBounds_toArray, List.set_cons_zero, List.set_cons_succ]
    rfl
  refine pu 21 53 ?_
  refine done_ (by kernel_rfl) ?_
  go_wp2
  go_ret
  exact ⟨rfl, HB.out⟩
set_option maxHeartbeats 4000000 in
set_option maxRecDepth 100000 in
theorem li6 (Kf : Nat) (a0 a1 a2 a3 a4 a5 : Int) (b e b3 x E1 : Nat) (A1 : Option Addr) (c1 : Nat) (l1 : List (List Int)) (A2 : Option Addr) (c2 : Nat) (s : List Int) (A3 : Option Addr) (c3 : Nat) (l3 : List (List Int)) (w : World) (h1 : CL w A1 l1) (n1 : l1.length ≤ c1) (h2 : CB w A2 s) (n2 : s.length ≤ c2) (h3 : CL w A3 l3) (n3 : l3.length ≤ c3) (z1_ : laws_zzFits7.f Kf (b : Int) (e : Int) l1 = some true) (hbig : s.length ≤ 2147483647) (z3_ : laws_zzFits7.f Kf (b3 : Int) (x : Int) l3 = some true) (hne : (s.length : Int) = a1) (hE1 : e + 1 = E1) (he : E1 < 18446744073709551616) (gn : laws_growthNext.f Kf [⟨(b : Int), (e : Int), l1⟩, ⟨(e : Int), (E1 : Int), [s]⟩, ⟨(b3 : Int), (x : Int), l3⟩] = some false) :
    Calls Tryd.prog 12 #[.agg #[.int .i64 a0, .int .i64 a1, .int .i64 a2, .int .u64 a3, .int .u64 a4, .int .u64 a5], .agg #[.int .u64 (b : Nat), .int .u64 (e : Nat), .slice A1 l1.length c1], .slice A2 s.length c2, .agg #[.int .u64 (b3 : Nat), .int .u64 (x : Nat), .slice A3 l3.length c3]] w fun en w' => en = .returned (.bool true) ∧ Below w.heap.size w w' := by
  have h1_ := aq h1
  clear h1
  have h2_ := aq h2
  clear h2
  have h3_ := aq h3
  clear h3
  have _u := And.intro n1 (And.intro n2 (And.intro n3 (Eq.refl Kf)))
  clear _u
  obtain ⟨hB0, hX0, hX1, hX2⟩ := allocs3' w #[.int .i64 a0, .int .i64 a1, .int .i64 a2, .int .u64 a3, .int .u64 a4, .int .u64 a5] 24 #[.int .u64 (b : Nat), .int .u64 (e : Nat), .slice A1 l1.length c1] 35 #[.int .u64 (b3 : Nat), .int .u64 (x : Nat), .slice A3 l3.length c3] 35
  have HB := aq hB0
  have HX := aq hX0
  have X1 := aq hX1
  have X2 := aq hX2
  clear hB0 hX0 hX1 hX2
  have Z1 := aq z1_
  clear z1_
  have Z3 := aq z3_
  clear z3_
  have GN := aq gn
  clear gn
  have t1 : decide ((2147483647 : Int) < (s.length : Int)) = false := decide_eq_false (by omega)
  have t1n : decide (2147483647 < s.length) = false := decide_eq_false (by omega)
  clear hbig
  have t2 : ((s.length : Int) != a1) = false := bne_eq_false_iff_eq.2 hne
  clear hne
  have hw : ∀ z : Int, z = 1 → IntKind.u64.wrap ((e : Int) + z) = (E1 : Int) := fun z hz => by
    rw [hz]
    show ((e : Int) + 1) % 18446744073709551616 = _
    omega
  have t3 : ((E1 : Int) == 0) = false := beq_eq_false_iff_ne.2 (by omega)
  have HE := aq he
  have HE1 := aq hE1
  clear he hE1
  go_enter Tryd.func12, Tryd.ntmps12
  go_wp2_with fail
  (try generalize (((w.alloc (.cells #[.int .i64 a0, .int .i64 a1, .int .i64 a2, .int .u64 a3, .int .u64 a4, .int .u64 a5] 24)).alloc (.cells #[.int .u64 (b : Nat), .int .u64 (e : Nat), .slice A1 l1.length c1] 35)).alloc (.cells #[.int .u64 (b3 : Nat), .int .u64 (x : Nat), .slice A3 l3.length c3] 35)) = wA at HB HX X1 X2 ⊢)
  (try clear hk0 hk1 hk2 hk3 hk4 hk5 x10 x11 x12 x20 x21 x22)
  obtain ⟨hk0, hk1, hk2, hk3, hk4, hk5⟩ := box6 HX.out
  obtain ⟨x10, x11, x12⟩ := box3 X1.out
  obtain ⟨x20, x21, x22⟩ := box3 X2.out
  have lt0a : w.heap.size < wA.heap.size := lt_of_block HX.out
  have lt0b : w.heap.size + 1 < wA.heap.size := lt_of_block X1.out
  have lt0c : w.heap.size + 1 + 1 < wA.heap.size := lt_of_block X2.out
  go_wp2_with (first
    | (go_at_call 19; (with_reducible refine (laws_zzFits7.calls Kf (b : Int) (e : Int) A1 c1 l1 _ _ (Kd.C_below h1_.out HB.out) n1 Z1.out).mono ?_); rintro en wz1 ⟨rfl, hd⟩; (first | have hb := hd.below | have hb := hd); clear hd; replace HB := aq (below_then HB.out HB.out.size hb); replace HX := aq (blk_below HX.out hb); replace X1 := aq (blk_below X1.out hb); replace X2 := aq (blk_below X2.out hb); clear hb; (try clear hk0 hk1 hk2 hk3 hk4 hk5 x10 x11 x12 x20 x21 x22); obtain ⟨hk0, hk1, hk2, hk3, hk4, hk5⟩ := box6 HX.out; obtain ⟨x10, x11, x12⟩ := box3 X1.out; obtain ⟨x20, x21, x22⟩ := box3 X2.out; have lt1a : w.heap.size < wz1.heap.size := lt_of_block HX.out; have lt1b : w.heap.size + 1 < wz1.heap.size := lt_of_block X1.out; have lt1c : w.heap.size + 1 + 1 < wz1.heap.size := lt_of_block X2.out)
    | (go_at_call 19; (with_reducible refine (laws_zzFits7.calls Kf (b3 : Int) (x : Int) A3 c3 l3 _ _ (Kd.C_below h3_.out HB.out) n3 Z3.out).mono ?_); rintro en wz2 ⟨rfl, hd⟩; (first | have hb := hd.below | have hb := hd); clear hd; replace HB := aq (below_then HB.out HB.out.size hb); replace HX := aq (blk_below HX.out hb); replace X1 := aq (blk_below X1.out hb); replace X2 := aq (blk_below X2.out hb); clear hb; (try clear hk0 hk1 hk2 hk3 hk4 hk5 x10 x11 x12 x20 x21 x22); obtain ⟨hk0, hk1, hk2, hk3, hk4, hk5⟩ := box6 HX.out; obtain ⟨x10, x11, x12⟩ := box3 X1.out; obtain ⟨x20, x21, x22⟩ := box3 X2.out; have lt2a : w.heap.size < wz2.heap.size := lt_of_block HX.out; have lt2b : w.heap.size + 1 < wz2.heap.size := lt_of_block X1.out; have lt2c : w.heap.size + 1 + 1 < wz2.heap.size := lt_of_block X2.out))
  have HBd := aq (below_drew1 HB.out)
  have HXd := aq (blk_drew HX.out)
  have X1d := aq (blk_drew X1.out)
  have X2d := aq (blk_drew X2.out)
  refine start_ (n := 22) (S := fun w' => w'.cell? ⟨w.heap.size, 0, none⟩ = some (.int .i64 a0) ∧ w'.cell? ⟨w.heap.size, 1, none⟩ = some (.int .i64 a1) ∧ w'.cell? ⟨w.heap.size, 2, none⟩ = some (.int .i64 a2) ∧ w'.cell? ⟨w.heap.size, 3, none⟩ = some (.int .u64 a3) ∧ w'.cell? ⟨w.heap.size, 4, none⟩ = some (.int .u64 a4) ∧ w'.cell? ⟨w.heap.size, 5, none⟩ = some (.int .u64 a5) ∧ w'.cell? ⟨w.heap.size + 1, 0, none⟩ = some (.int .u64 (b : Nat)) ∧ w'.cell? ⟨w.heap.size + 1, 1, none⟩ = some (.int .u64 (e : Nat)) ∧ w'.cell? ⟨w.heap.size + 1, 2, none⟩ = some (.slice A1 l1.length c1) ∧ w'.cell? ⟨w.heap.size + 1 + 1, 0, none⟩ = some (.int .u64 (b3 : Nat)) ∧ w'.cell? ⟨w.heap.size + 1 + 1, 1, none⟩ = some (.int .u64 (x : Nat)) ∧ w'.cell? ⟨w.heap.size + 1 + 1, 2, none⟩ = some (.slice A3 l3.length c3)) (ds := []) #[false, false, false, false, false, false, false, false, false, false, false, false, false, false, false, false, false, false, false, false, false, false] (by kernel_rfl) rfl rfl ⟨bc HXd 0, bc HXd 1, bc HXd 2, bc HXd 3, bc HXd 4, bc HXd 5, bc X1d 0, bc X1d 1, bc X1d 2, bc X2d 0, bc X2d 1, bc X2d 2⟩ (fun hHeld => ?_)
  generalize wz2.drew = wd at HBd HXd X1d X2d hHeld ⊢
  clear HB HX X1 X2 hk0 hk1 hk2 hk3 hk4 hk5 x10 x11 x12 x20 x21 x22 lt0a lt0b lt0c lt1a lt1b lt1c lt2a lt2b lt2c
  have HB := HBd
  have HX := HXd
  have X1 := X1d
  have X2 := X2d
  clear HBd HXd X1d X2d
  refine pu 0 32 ?_
  refine pu 1 33 ?_
  refine pu 2 34 ?_
  refine ta 3 35 hHeld ?_
  refine pure_ (i := 4) (N := some 36) (v := .bool false) (a' := ?_) #[true, true, true, true, true, false, false, false, false, false, false, false, false, false, false, false, false, false, false, false, false, false] rfl rfl (by kernel_rfl) (fun _ _ _ h => h) (Or.inl ⟨by rfl, ?_⟩) ?_ ?_
  · intro w'
    first | (go_simp; with_reducible rfl) | (go_simp; done) | (go_simp; rw [t2]) | (go_simp; simp [t2])
  rotate_left
  · simp only [Act.put, List.setIfInBounds_toArray, List.set_cons_zero, List.set_cons_succ]
    rfl
  refine pu 5 37 ?_
  refine pu 6 38 ?_
  refine ta 7 39 hHeld ?_
  refine pure_ (i := 8) (N := some 40) (v := .int .u64 (E1 : Nat)) (a' := ?_) #[true, true, true, true, true, true, true, true, true, false, false, false, false, false, false, false, false, false, false, false, false, false] rfl rfl (by kernel_rfl) (fun _ _ _ h => h) (Or.inl ⟨by rfl, ?_⟩) ?_ ?_
  · intro w'
    first | (go_simp; with_reducible rfl) | (go_simp; done) | (go_simp; rw [hw 1 rfl]) | (go_simp; simp [hw 1 rfl])
  rotate_left
  · simp only [Act.put, List.setIfInBounds_toArray, List.set_cons_zero, List.set_cons_succ]
    rfl
  refine pure_ (i := 9) (N := some 41) (v := .bool false) (a' := ?_) #[true, true, true, true, true, true, true, true, true, true, false, false, false, false, false, false, false, false, false, false, false, false] rfl rfl (by kernel_rfl) (fun _ _ _ h => h) (Or.inl ⟨by rfl, ?_⟩) ?_ ?_
  · intro w'
    first | (go_simp; with_reducible rfl) | (go_simp; done) | (go_simp; rw [t3]) | (go_simp; simp [t3])
  rotate_left
  · simp only [Act.put, List.setIfInBounds_toArray, List.set_cons_zero, List.set_cons_succ]
    rfl
  refine pu 10 42 ?_
  refine pu 11 43 ?_
  refine ta 12 44 hHeld ?_
  refine pu 13 45 ?_
  refine ta 14 46 hHeld ?_
  refine pu 15 47 ?_
  refine ta 17 49 hHeld ?_
  refine on1 16 48 fun K hK => ?_
  refine gS Tryd.func41 #[.int .u64 (e : Nat), .slice A2 s.length c2] ?_
  refine (leaf0_calls e E1 HE1.out HE.out A2 s.length c2 _).mono ?_
  rintro en w4 ⟨g, rfl, hg0, hg1, hb⟩
  refine ⟨_, rfl, ?_⟩
  have HB4 := aq (below_then HB.out HB.out.size hb)
  have HX4 := aq (blk_below HX.out hb)
  have X14 := aq (blk_below X1.out hb)
  have X24 := aq (blk_below X2.out hb)
  have G4 := aq hg1
  clear HB HX X1 X2 hb hg0 hg1 hHeld
  have HB := HB4
  have HX := HX4
  have X1 := X14
  have X2 := X24
  clear HB4 HX4 X14 X24
  refine hK.out _ _ ⟨bc HX 0, bc HX 1, bc HX 2, bc HX 3, bc HX 4, bc HX 5, bc X1 0, bc X1 1, bc X1 2, bc X2 0, bc X2 1, bc X2 2⟩ (fun hHeld => ?_)
  clear hK K
  refine nm ?_
  refine on1 18 50 fun K hK => ?_
  refine event_step rfl (v := .slice (some ⟨_, 0, none⟩) 3 3) (w1 := World.alloc _ (.cells #[.int .u64 (b : Nat), .int .u64 (e : Nat), .slice A1 l1.length c1, .int .u64 (e : Nat), .int .u64 (E1 : Nat), .slice (some ⟨g, 0, none⟩) 1 1, .int .u64 (b3 : Nat), .int .u64 (x : Nat), .slice A3 l3.length c3] 35)) (by first | (go_simp; done) | (go_simp; rfl) | (go_simp; exact ⟨rfl, rfl⟩)) ?_
  have hb : Below w4.heap.size w4 (w4.alloc (.cells #[.int .u64 (b : Nat), .int .u64 (e : Nat), .slice A1 l1.length c1, .int .u64 (e : Nat), .int .u64 (E1 : Nat), .slice (some ⟨g, 0, none⟩) 1 1, .int .u64 (b3 : Nat), .int .u64 (x : Nat), .slice A3 l3.length c3] 35)) := below_alloc (Below.refl _ _) _
  have GL := aq (heap_alloc_new w4 (.cells #[.int .u64 (b : Nat), .int .u64 (e : Nat), .slice A1 l1.length c1, .int .u64 (e : Nat), .int .u64 (E1 : Nat), .slice (some ⟨g, 0, none⟩) 1 1, .int .u64 (b3 : Nat), .int .u64 (x : Nat), .slice A3 l3.length c3] 35))
  have HB5 := aq (below_then HB.out HB.out.size hb)
  have HX5 := aq (blk_below HX.out hb)
  have X15 := aq (blk_below X1.out hb)
  have X25 := aq (blk_below X2.out hb)
  have G5 := aq (blk_below G4.out hb)
  clear HB HX X1 X2 hb G4 hHeld
  have HB := HB5
  have HX := HX5
  have X1 := X15
  have X2 := X25
  clear HB5 HX5 X15 X25
  generalize (w4.alloc (.cells #[.int .u64 (b : Nat), .int .u64 (e : Nat), .slice A1 l1.length c1, .int .u64 (e : Nat), .int .u64 (E1 : Nat), .slice (some ⟨g, 0, none⟩) 1 1, .int .u64 (b3 : Nat), .int .u64 (x : Nat), .slice A3 l3.length c3] 35)) = w5 at GL HB HX X1 X2 G5 ⊢
  refine hK.out _ _ ⟨bc HX 0, bc HX 1, bc HX 2, bc HX 3, bc HX 4, bc HX 5, bc X1 0, bc X1 1, bc X1 2, bc X2 0, bc X2 1, bc X2 2⟩ (fun hHeld => ?_)
  clear hK K
  refine nm ?_
  refine on1 19 51 fun K hK => ?_
  refine gS Tryd.func39 #[.slice (some ⟨w4.heap.size, 0, none⟩) 3 3] ?_
  refine (laws_growthNext.calls Kf (some ⟨w4.heap.size, 0, none⟩) 3 [⟨(b : Int), (e : Int), l1⟩, ⟨(e : Int), (E1 : Int), [s]⟩, ⟨(b3 : Int), (x : Int), l3⟩] _ _ (c35_3 GL.out n1 (Kd.C_below h1_.out HB.out) (Nat.le_refl 1) (cl_one G5.out n2 (Kd.C_below h2_.out HB.out)) n3 (Kd.C_below h3_.out HB.out)) (Nat.le_refl _) GN.out).mono ?_
  rintro en w6 ⟨rfl, hd⟩
  (first | have hb := hd.below | have hb := hd)
  clear hd
  refine ⟨_, rfl, ?_⟩
  replace HB := aq (below_then HB.out HB.out.size hb)
  replace HX := aq (blk_below HX.out hb)
  replace X1 := aq (blk_below X1.out hb)
  replace X2 := aq (blk_below X2.out hb)
  clear hb GL G5 hHeld
  refine hK.out _ _ ⟨bc HX 0, bc HX 1, bc HX 2, bc HX 3, bc HX 4, bc HX 5, bc X1 0, bc X1 1, bc X1 2, bc X2 0, bc X2 1, bc X2 2⟩ (fun hHeld => ?_)
  clear hK K
  refine nm ?_
  refine pu 20 52 ?_
  refine pu 21 53 ?_
  refine done_ (by kernel_rfl) ?_
  go_wp2
  go_ret
  exact ⟨rfl, HB.out⟩
set_option maxHeartbeats 8000000 in
set_option maxRecDepth 100000 in
theorem li7 (Kf : Nat) (a0 a1 a2 a3 a4 a5 : Int) (e E1 x : Nat) (A1 : Option Addr) (c1 : Nat) (l1 : List (List Int)) (A2 : Option Addr) (c2 : Nat) (s : List Int) (A3 : Option Addr) (c3 : Nat) (l3 : List (List Int)) (w : World) (h1 : CL w A1 l1) (n1 : l1.length ≤ c1) (h2 : CB w A2 s) (n2 : s.length ≤ c2) (h3 : CL w A3 l3) (n3 : l3.length ≤ c3) (z1_ : laws_zzFits7.f Kf 0 (e : Int) l1 = some true) (hbig : s.length ≤ 2147483647) (z3_ : laws_zzFits7.f Kf (E1 : Int) (x : Int) l3 = some true) (hne : (s.length : Int) = a1) (hE1 : e + 1 = E1) (he : E1 < 18446744073709551616) (gn : laws_growthNext.f Kf [⟨0, (e : Int), l1⟩, ⟨(e : Int), (E1 : Int), [s]⟩, ⟨(E1 : Int), (x : Int), l3⟩] = some true) (HG_ : Glob w) (k : Nat) (lab labc : List (List Int)) (m : Nat) (r : List Int) (o1 : ArOk a0 a1 a2 a3 a4 a5 0 e E1 l1 [s] lab k) (o2 : ArOk a0 a1 a2 a3 a4 a5 0 E1 x lab l3 labc k) (hszE : compact_RangeSize.f ((0 : Nat) : Int) (x : Int) = some (labc.length : Int)) (hx : x < 18446744073709551616) (hm : labc.length = m + 1) (hm2 : m ≤ 1000) (hrow : ∀ h ∈ labc, h.length ≤ 3000000000) (hr : chB a0 a2 a5 (labc.take m).reverse (labc.getD m []) = r) (ids : List S52) (q2 q3 q4 q5 : Int) (hin : impl_Inclusion.f Kf (e : Int) (x : Int) = some (ids, q2, q3, q4, q5, true)) (L : List (List Int)) (hgh : laws_growthHashes.f Kf ids [⟨0, (e : Int), l1⟩, ⟨(E1 : Int), (x : Int), l3⟩] = some (L, true)) (kp kt : Nat) (ids1 : List S108) (B E : Nat) (lv ix : Int) (path : List (List Int)) (hp : proof_Inclusion.f kp (e : Int) (x : Int) = some (ids1, (B : Int), (E : Int), lv, ix, none)) (hid : ids1.length = L.length) (hEl : E ≤ L.length) (hLl : L.length ≤ 1000) (ht : impl_texts.f kt L = some L) (ht2 : impl_texts.f kt path = some path) (hrg : rehG a0 a1 a2 a3 a4 a5 L B E L.length 0 [] = some path) (hvi : Qe.viF a0 a1 a2 a3 a4 a5 (e : Int) (x : Int) s path r = some (0, [])) (parts : List S55) (hpp : spec_PathParts.f Kf (e : Int) (x : Int) = some parts) (hlen : path.length = parts.length) :
    Calls Tryd.prog 12 #[.agg #[.int .i64 a0, .int .i64 a1, .int .i64 a2, .int .u64 a3, .int .u64 a4, .int .u64 a5], .agg #[.int .u64 0, .int .u64 (e : Nat), .slice A1 l1.length c1], .slice A2 s.length c2, .agg #[.int .u64 (E1 : Nat), .int .u64 (x : Nat), .slice A3 l3.length c3]] w fun en w' => en = .returned (.bool true) ∧ Below w.heap.size w w' := by
  have h1_ := aq h1
  clear h1
  have h2_ := aq h2
  clear h2
  have h3_ := aq h3
  clear h3
  have _u := And.intro n1 (And.intro n2 (And.intro n3 (Eq.refl Kf)))
  clear _u
  obtain ⟨hB0, hX0, hX1, hX2⟩ := allocs3' w #[.int .i64 a0, .int .i64 a1, .int .i64 a2, .int .u64 a3, .int .u64 a4, .int .u64 a5] 24 #[.int .u64 0, .int .u64 (e : Nat), .slice A1 l1.length c1] 35 #[.int .u64 (E1 : Nat), .int .u64 (x : Nat), .slice A3 l3.length c3] 35
  have HB := aq hB0
  have HX := aq hX0
  have X1 := aq hX1
  have X2 := aq hX2
  clear hB0 hX0 hX1 hX2
  have Z1 := aq z1_
  clear z1_
  have Z3 := aq z3_
  clear z3_
  have GN := aq gn
  clear gn
  have HG := aq HG_
  clear HG_
  have HO1 := aq o1
  clear o1
  have HO2 := aq o2
  clear o2
  have HSE := aq hszE
  clear hszE
  have HXX := aq hx
  clear hx
  have HMM := aq hm
  clear hm
  have HM2 := aq hm2
  clear hm2
  have HRW := aq hrow
  clear hrow
  have HR := aq hr
  clear hr
  have HIN := aq hin
  clear hin
  have HGH := aq hgh
  clear hgh
  have HP := aq hp
  clear hp
  have HID := aq hid
  clear hid
  have HEL := aq hEl
  clear hEl
  have HLN := aq hLl
  clear hLl
  have HT := aq ht
  clear ht
  have HT2 := aq ht2
  clear ht2
  have HRG := aq hrg
  clear hrg
  have HVI := aq hvi
  clear hvi
  have HPP := aq hpp
  clear hpp
  have t1 : decide ((2147483647 : Int) < (s.length : Int)) = false := decide_eq_false (by omega)
  have t1n : decide (2147483647 < s.length) = false := decide_eq_false (by omega)
  clear hbig
  have t2 : ((s.length : Int) != a1) = false := bne_eq_false_iff_eq.2 hne
  clear hne
  have hw : ∀ z : Int, z = 1 → IntKind.u64.wrap ((e : Int) + z) = (E1 : Int) := fun z hz => by
    rw [hz]
    show ((e : Int) + 1) % 18446744073709551616 = _
    omega
  have t3 : ((E1 : Int) == 0) = false := beq_eq_false_iff_ne.2 (by omega)
  have HE := aq he
  have HE1 := aq hE1
  clear he hE1
  have teq : ((path.length : Int) == (parts.length : Int)) = true := beq_iff_eq.2 (by omega)
  have teqn : (path.length == parts.length) = true := beq_iff_eq.2 hlen
  clear hlen
  go_enter Tryd.func12, Tryd.ntmps12
  go_wp2_with fail
  (try generalize (((w.alloc (.cells #[.int .i64 a0, .int .i64 a1, .int .i64 a2, .int .u64 a3, .int .u64 a4, .int .u64 a5] 24)).alloc (.cells #[.int .u64 0, .int .u64 (e : Nat), .slice A1 l1.length c1] 35)).alloc (.cells #[.int .u64 (E1 : Nat), .int .u64 (x : Nat), .slice A3 l3.length c3] 35)) = wA at HB HX X1 X2 ⊢)
  (try clear hk0 hk1 hk2 hk3 hk4 hk5 x10 x11 x12 x20 x21 x22)
  obtain ⟨hk0, hk1, hk2, hk3, hk4, hk5⟩ := box6 HX.out
  obtain ⟨x10, x11, x12⟩ := box3 X1.out
  obtain ⟨x20, x21, x22⟩ := box3 X2.out
  have lt0a : w.heap.size < wA.heap.size := lt_of_block HX.out
  have lt0b : w.heap.size + 1 < wA.heap.size := lt_of_block X1.out
  have lt0c : w.heap.size + 1 + 1 < wA.heap.size := lt_of_block X2.out
  go_wp2_with (first
    | (go_at_call 19; (with_reducible refine (laws_zzFits7.calls Kf 0 (e : Int) A1 c1 l1 _ _ (Kd.C_below h1_.out HB.out) n1 Z1.out).mono ?_); rintro en wz1 ⟨rfl, hd⟩; (first | have hb := hd.below | have hb := hd); clear hd; replace HB := aq (below_then HB.out HB.out.size hb); replace HX := aq (blk_below HX.out hb); replace X1 := aq (blk_below X1.out hb); replace X2 := aq (blk_below X2.out hb); clear hb; (try clear hk0 hk1 hk2 hk3 hk4 hk5 x10 x11 x12 x20 x21 x22); obtain ⟨hk0, hk1, hk2, hk3, hk4, hk5⟩ := box6 HX.out; obtain ⟨x10, x11, x12⟩ := box3 X1.out; obtain ⟨x20, x21, x22⟩ := box3 X2.out; have lt1a : w.heap.size < wz1.heap.size := lt_of_block HX.out; have lt1b : w.heap.size + 1 < wz1.heap.size := lt_of_block X1.out; have lt1c : w.heap.size + 1 + 1 < wz1.heap.size := lt_of_block X2.out)
    | (go_at_call 19; (with_reducible refine (laws_zzFits7.calls Kf (E1 : Int) (x : Int) A3 c3 l3 _ _ (Kd.C_below h3_.out HB.out) n3 Z3.out).mono ?_); rintro en wz2 ⟨rfl, hd⟩; (first | have hb := hd.below | have hb := hd); clear hd; replace HB := aq (below_then HB.out HB.out.size hb); replace HX := aq (blk_below HX.out hb); replace X1 := aq (blk_below X1.out hb); replace X2 := aq (blk_below X2.out hb); clear hb; (try clear hk0 hk1 hk2 hk3 hk4 hk5 x10 x11 x12 x20 x21 x22); obtain ⟨hk0, hk1, hk2, hk3, hk4, hk5⟩ := box6 HX.out; obtain ⟨x10, x11, x12⟩ := box3 X1.out; obtain ⟨x20, x21, x22⟩ := box3 X2.out; have lt2a : w.heap.size < wz2.heap.size := lt_of_block HX.out; have lt2b : w.heap.size + 1 < wz2.heap.size := lt_of_block X1.out; have lt2c : w.heap.size + 1 + 1 < wz2.heap.size := lt_of_block X2.out))
  have HBd := aq (below_drew1 HB.out)
  have HXd := aq (blk_drew HX.out)
  have X1d := aq (blk_drew X1.out)
  have X2d := aq (blk_drew X2.out)
  refine start_ (n := 22) (S := fun w' => w'.cell? ⟨w.heap.size, 0, none⟩ = some (.int .i64 a0) ∧ w'.cell? ⟨w.heap.size, 1, none⟩ = some (.int .i64 a1) ∧ w'.cell? ⟨w.heap.size, 2, none⟩ = some (.int .i64 a2) ∧ w'.cell? ⟨w.heap.size, 3, none⟩ = some (.int .u64 a3) ∧ w'.cell? ⟨w.heap.size, 4, none⟩ = some (.int .u64 a4) ∧ w'.cell? ⟨w.heap.size, 5, none⟩ = some (.int .u64 a5) ∧ w'.cell? ⟨w.heap.size + 1, 0, none⟩ = some (.int .u64 0) ∧ w'.cell? ⟨w.heap.size + 1, 1, none⟩ = some (.int .u64 (e : Nat)) ∧ w'.cell? ⟨w.heap.size + 1, 2, none⟩ = some (.slice A1 l1.length c1) ∧ w'.cell? ⟨w.heap.size + 1 + 1, 0, none⟩ = some (.int .u64 (E1 : Nat)) ∧ w'.cell? ⟨w.heap.size + 1 + 1, 1, none⟩ = some (.int .u64 (x : Nat)) ∧ w'.cell? ⟨w.heap.size + 1 + 1, 2, none⟩ = some (.slice A3 l3.length c3)) (ds := []) #[false, false, false, false, false, false, false, false, false, false, false, false, false, false, false, false, false, false, false, false, false, false] (by kernel_rfl) rfl rfl ⟨bc HXd 0, bc HXd 1, bc HXd 2, bc HXd 3, bc HXd 4, bc HXd 5, bc X1d 0, bc X1d 1, bc X1d 2, bc X2d 0, bc X2d 1, bc X2d 2⟩ (fun hHeld => ?_)
  generalize wz2.drew = wd at HBd HXd X1d X2d hHeld ⊢
  clear HB HX X1 X2 hk0 hk1 hk2 hk3 hk4 hk5 x10 x11 x12 x20 x21 x22 lt0a lt0b lt0c lt1a lt1b lt1c lt2a lt2b lt2c
  have HB := HBd
  have HX := HXd
  have X1 := X1d
  have X2 := X2d
  clear HBd HXd X1d X2d
  refine pu 0 32 ?_
  refine pu 1 33 ?_
  refine pu 2 34 ?_
  refine ta 3 35 hHeld ?_
  refine pure_ (i := 4) (N := some 36) (v := .bool false) (a' := ?_) #[true, true, true, true, true, false, false, false, false, false, false, false, false, false, false, false, false, false, false, false, false, false] rfl rfl (by kernel_rfl) (fun _ _ _ h => h) (Or.inl ⟨by rfl, ?_⟩) ?_ ?_
  · intro w'
    first | (go_simp; with_reducible rfl) | (go_simp; done) | (go_simp; rw [t2]) | (go_simp; simp [t2])
  rotate_left
  · simp only [Act.put, List.setIfInBounds_toArray, List.set_cons_zero, List.set_cons_succ]
    rfl
  refine pu 5 37 ?_
  refine pu 6 38 ?_
  refine ta 7 39 hHeld ?_
  refine pure_ (i := 8) (N := some 40) (v := .int .u64 (E1 : Nat)) (a' := ?_) #[true, true, true, true, true, true, true, true, true, false, false, false, false, false, false, false, false, false, false, false, false, false] rfl rfl (by kernel_rfl) (fun _ _ _ h => h) (Or.inl ⟨by rfl, ?_⟩) ?_ ?_
  · intro w'
    first | (go_simp; with_reducible rfl) | (go_simp; done) | (go_simp; rw [hw 1 rfl]) | (go_simp; simp [hw 1 rfl])
  rotate_left
  · simp only [Act.put, List.setIfInBounds_toArray, List.set_cons_zero, List.set_cons_succ]
    rfl
  refine pure_ (i := 9) (N := some 41) (v := .bool false) (a' := ?_) #[true, true, true, true, true, true, true, true, true, true, false, false, false, false, false, false, false, false, false, false, false, false] rfl rfl (by kernel_rfl) (fun _ _ _ h => h) (Or.inl ⟨by rfl, ?_⟩) ?_ ?_
  · intro w'
    first | (go_simp; with_reducible rfl) | (go_simp; done) | (go_simp; rw [t3]) | (go_simp; simp [t3])
  rotate_left
  · simp only [Act.put, List.setIfInBounds_toArray, List.set_cons_zero, List.set_cons_succ]
    rfl
  refine pu 10 42 ?_
  refine pu 11 43 ?_
  refine ta 12 44 hHeld ?_
  refine pu 13 45 ?_
  refine ta 14 46 hHeld ?_
  refine pu 15 47 ?_
  refine ta 17 49 hHeld ?_
  refine on1 16 48 fun K hK => ?_
  refine gS Tryd.func41 #[.int .u64 (e : Nat), .slice A2 s.length c2] ?_
  refine (leaf0_calls e E1 HE1.out HE.out A2 s.length c2 _).mono ?_
  rintro en w4 ⟨g, rfl, hg0, hg1, hb⟩
  refine ⟨_, rfl, ?_⟩
  have HB4 := aq (below_then HB.out HB.out.size hb)
  have HX4 := aq (blk_below HX.out hb)
  have X14 := aq (blk_below X1.out hb)
  have X24 := aq (blk_below X2.out hb)
  have G4 := aq hg1
  clear HB HX X1 X2 hb hg0 hg1 hHeld
  have HB := HB4
  have HX := HX4
  have X1 := X14
  have X2 := X24
  clear HB4 HX4 X14 X24
  refine hK.out _ _ ⟨bc HX 0, bc HX 1, bc HX 2, bc HX 3, bc HX 4, bc HX 5, bc X1 0, bc X1 1, bc X1 2, bc X2 0, bc X2 1, bc X2 2⟩ (fun hHeld => ?_)
  clear hK K
  refine nm ?_
  refine on1 18 50 fun K hK => ?_
  refine event_step rfl (v := .slice (some ⟨_, 0, none⟩) 3 3) (w1 := World.alloc _ (.cells #[.int .u64 0, .int .u64 (e : Nat), .slice A1 l1.length c1, .int .u64 (e : Nat), .int .u64 (E1 : Nat), .slice (some ⟨g, 0, none⟩) 1 1, .int .u64 (E1 : Nat), .int .u64 (x : Nat), .slice A3 l3.length c3] 35)) (by first | (go_simp; done) | (go_simp; rfl) | (go_simp; exact ⟨rfl, rfl⟩)) ?_
  have hb : Below w4.heap.size w4 (w4.alloc (.cells #[.int .u64 0, .int .u64 (e : Nat), .slice A1 l1.length c1, .int .u64 (e : Nat), .int .u64 (E1 : Nat), .slice (some ⟨g, 0, none⟩) 1 1, .int .u64 (E1 : Nat), .int .u64 (x : Nat), .slice A3 l3.length c3] 35)) := below_alloc (Below.refl _ _) _
  have GL := aq (heap_alloc_new w4 (.cells #[.int .u64 0, .int .u64 (e : Nat), .slice A1 l1.length c1, .int .u64 (e : Nat), .int .u64 (E1 : Nat), .slice (some ⟨g, 0, none⟩) 1 1, .int .u64 (E1 : Nat), .int .u64 (x : Nat), .slice A3 l3.length c3] 35))
  have HB5 := aq (below_then HB.out HB.out.size hb)
  have HX5 := aq (blk_below HX.out hb)
  have X15 := aq (blk_below X1.out hb)
  have X25 := aq (blk_below X2.out hb)
  have G5 := aq (blk_below G4.out hb)
  clear HB HX X1 X2 hb G4 hHeld
  have HB := HB5
  have HX := HX5
  have X1 := X15
  have X2 := X25
  clear HB5 HX5 X15 X25
  generalize (w4.alloc (.cells #[.int .u64 0, .int .u64 (e : Nat), .slice A1 l1.length c1, .int .u64 (e : Nat), .int .u64 (E1 : Nat), .slice (some ⟨g, 0, none⟩) 1 1, .int .u64 (E1 : Nat), .int .u64 (x : Nat), .slice A3 l3.length c3] 35)) = w5 at GL HB HX X1 X2 G5 ⊢
  refine hK.out _ _ ⟨bc HX 0, bc HX 1, bc HX 2, bc HX 3, bc HX 4, bc HX 5, bc X1 0, bc X1 1, bc X1 2, bc X2 0, bc X2 1, bc X2 2⟩ (fun hHeld => ?_)
  clear hK K
  refine nm ?_
  refine on1 19 51 fun K hK => ?_
  refine gS Tryd.func39 #[.slice (some ⟨w4.heap.size, 0, none⟩) 3 3] ?_
  refine (laws_growthNext.calls Kf (some ⟨w4.heap.size, 0, none⟩) 3 [⟨0, (e : Int), l1⟩, ⟨(e : Int), (E1 : Int), [s]⟩, ⟨(E1 : Int), (x : Int), l3⟩] _ _ (c35_3 GL.out n1 (Kd.C_below h1_.out HB.out) (Nat.le_refl 1) (cl_one G5.out n2 (Kd.C_below h2_.out HB.out)) n3 (Kd.C_below h3_.out HB.out)) (Nat.le_refl _) GN.out).mono ?_
  rintro en w6 ⟨rfl, hd⟩
  (first | have hb := hd.below | have hb := hd)
  clear hd
  refine ⟨_, rfl, ?_⟩
  replace HB := aq (below_then HB.out HB.out.size hb)
  replace HX := aq (blk_below HX.out hb)
  replace X1 := aq (blk_below X1.out hb)
  replace X2 := aq (blk_below X2.out hb)
  clear hb GL G5 hHeld
  refine hK.out _ _ ⟨bc HX 0, bc HX 1, bc HX 2, bc HX 3, bc HX 4, bc HX 5, bc X1 0, bc X1 1, bc X1 2, bc X2 0, bc X2 1, bc X2 2⟩ (fun hHeld => ?_)
  clear hK K
  refine nm ?_
  refine pu 20 52 ?_
  refine pu 21 53 ?_
  refine done_ (by kernel_rfl) ?_
  go_wp2
  have HBd := aq (below_drew1 HB.out)
  have HXd := aq (blk_drew HX.out)
  have X1d := aq (blk_drew X1.out)
  have X2d := aq (blk_drew X2.out)
  refine start_ (n := 14) (S := fun w' => w'.cell? ⟨w.heap.size, 0, none⟩ = some (.int .i64 a0) ∧ w'.cell? ⟨w.heap.size, 1, none⟩ = some (.int .i64 a1) ∧ w'.cell? ⟨w.heap.size, 2, none⟩ = some (.int .i64 a2) ∧ w'.cell? ⟨w.heap.size, 3, none⟩ = some (.int .u64 a3) ∧ w'.cell? ⟨w.heap.size, 4, none⟩ = some (.int .u64 a4) ∧ w'.cell? ⟨w.heap.size, 5, none⟩ = some (.int .u64 a5) ∧ w'.cell? ⟨w.heap.size + 1, 0, none⟩ = some (.int .u64 0) ∧ w'.cell? ⟨w.heap.size + 1, 1, none⟩ = some (.int .u64 (e : Nat)) ∧ w'.cell? ⟨w.heap.size + 1, 2, none⟩ = some (.slice A1 l1.length c1) ∧ w'.cell? ⟨w.heap.size + 1 + 1, 0, none⟩ = some (.int .u64 (E1 : Nat)) ∧ w'.cell? ⟨w.heap.size + 1 + 1, 1, none⟩ = some (.int .u64 (x : Nat)) ∧ w'.cell? ⟨w.heap.size + 1 + 1, 2, none⟩ = some (.slice A3 l3.length c3)) (ds := []) #[false, false, false, false, false, false, false, false, false, false, false, false, false, false] (by kernel_rfl) rfl rfl ⟨bc HXd 0, bc HXd 1, bc HXd 2, bc HXd 3, bc HXd 4, bc HXd 5, bc X1d 0, bc X1d 1, bc X1d 2, bc X2d 0, bc X2d 1, bc X2d 2⟩ (fun hHeld => ?_)
  generalize w6.drew = we at HBd HXd X1d X2d hHeld ⊢
  clear HB HX X1 X2 
  have HB := HBd
  have HX := HXd
  have X1 := X1d
  have X2 := X2d
  clear HBd HXd X1d X2d
  refine ta 0 55 hHeld ?_
  refine ta 1 56 hHeld ?_
  refine pu 2 57 ?_
  refine ta 3 58 hHeld ?_
  refine pu 4 59 ?_
  refine ta 6 61 hHeld ?_
  refine on1 5 60 fun K hK => ?_
  refine gS Tryd.func41 #[.int .u64 (e : Nat), .slice A2 s.length c2] ?_
  refine (leaf0_calls e E1 HE1.out HE.out A2 s.length c2 _).mono ?_
  rintro en w7 ⟨g2, rfl, hg0, hg1, hb⟩
  refine ⟨_, rfl, ?_⟩
  have HB4 := aq (below_then HB.out HB.out.size hb)
  have HX4 := aq (blk_below HX.out hb)
  have X14 := aq (blk_below X1.out hb)
  have X24 := aq (blk_below X2.out hb)
  have G4 := aq hg1
  clear HB HX X1 X2 hb hg0 hg1 hHeld
  have HB := HB4
  have HX := HX4
  have X1 := X14
  have X2 := X24
  clear HB4 HX4 X14 X24
  refine hK.out _ _ ⟨bc HX 0, bc HX 1, bc HX 2, bc HX 3, bc HX 4, bc HX 5, bc X1 0, bc X1 1, bc X1 2, bc X2 0, bc X2 1, bc X2 2⟩ (fun hHeld => ?_)
  clear hK K
  refine nm ?_
  refine on1 7 62 fun K hK => ?_
  refine event_step rfl (v := .slice (some ⟨_, 0, none⟩) 3 3) (w1 := World.alloc _ (.cells #[.int .u64 0, .int .u64 (e : Nat), .slice A1 l1.length c1, .int .u64 (e : Nat), .int .u64 (E1 : Nat), .slice (some ⟨g2, 0, none⟩) 1 1, .int .u64 (E1 : Nat), .int .u64 (x : Nat), .slice A3 l3.length c3] 35)) (by first | (go_simp; done) | (go_simp; rfl) | (go_simp; exact ⟨rfl, rfl⟩)) ?_
  have hb : Below w7.heap.size w7 (w7.alloc (.cells #[.int .u64 0, .int .u64 (e : Nat), .slice A1 l1.length c1, .int .u64 (e : Nat), .int .u64 (E1 : Nat), .slice (some ⟨g2, 0, none⟩) 1 1, .int .u64 (E1 : Nat), .int .u64 (x : Nat), .slice A3 l3.length c3] 35)) := below_alloc (Below.refl _ _) _
  have GL := aq (heap_alloc_new w7 (.cells #[.int .u64 0, .int .u64 (e : Nat), .slice A1 l1.length c1, .int .u64 (e : Nat), .int .u64 (E1 : Nat), .slice (some ⟨g2, 0, none⟩) 1 1, .int .u64 (E1 : Nat), .int .u64 (x : Nat), .slice A3 l3.length c3] 35))
  have HB5 := aq (below_then HB.out HB.out.size hb)
  have HX5 := aq (blk_below HX.out hb)
  have X15 := aq (blk_below X1.out hb)
  have X25 := aq (blk_below X2.out hb)
  have G5 := aq (blk_below G4.out hb)
  clear HB HX X1 X2 hb G4 hHeld
  have HB := HB5
  have HX := HX5
  have X1 := X15
  have X2 := X25
  clear HB5 HX5 X15 X25
  generalize (w7.alloc (.cells #[.int .u64 0, .int .u64 (e : Nat), .slice A1 l1.length c1, .int .u64 (e : Nat), .int .u64 (E1 : Nat), .slice (some ⟨g2, 0, none⟩) 1 1, .int .u64 (E1 : Nat), .int .u64 (x : Nat), .slice A3 l3.length c3] 35)) = w8 at GL HB HX X1 X2 G5 ⊢
  refine hK.out _ _ ⟨bc HX 0, bc HX 1, bc HX 2, bc HX 3, bc HX 4, bc HX 5, bc X1 0, bc X1 1, bc X1 2, bc X2 0, bc X2 1, bc X2 2⟩ (fun hHeld => ?_)
  clear hK K
  refine nm ?_
  refine on1 8 63 fun K hK => ?_
  refine gS Tryd.func40 #[.agg #[.int .i64 a0, .int .i64 a1, .int .i64 a2, .int .u64 a3, .int .u64 a4, .int .u64 a5], .slice (some ⟨w7.heap.size, 0, none⟩) 3 3] ?_
  refine (growthRoot3_calls a0 a1 a2 a3 a4 a5 e E1 x A1 c1 l1 (some ⟨g2, 0, none⟩) 1 s A3 c3 l3 lab labc m r k w7.heap.size w8 GL.out n1 (Nat.le_refl 1) n3 (Kd.C_below h1_.out HB.out) (cl_one G5.out n2 (Kd.C_below h2_.out HB.out)) (Kd.C_below h3_.out HB.out) (Glob.below HG.out HB.out) HO1.out HO2.out HSE.out HXX.out HMM.out HM2.out HRW.out HR.out).mono ?_
  rintro en w9 ⟨A9, c9, rfl, hl9, hC9, hb⟩
  refine ⟨_, rfl, ?_⟩
  have HC9 := aq hC9
  have HL9 := aq hl9
  replace HB := aq (below_then HB.out HB.out.size hb)
  replace HX := aq (blk_below HX.out hb)
  replace X1 := aq (blk_below X1.out hb)
  replace X2 := aq (blk_below X2.out hb)
  clear hb GL G5 hHeld hC9 hl9
  refine hK.out _ _ ⟨bc HX 0, bc HX 1, bc HX 2, bc HX 3, bc HX 4, bc HX 5, bc X1 0, bc X1 1, bc X1 2, bc X2 0, bc X2 1, bc X2 2⟩ (fun hHeld => ?_)
  clear hK K
  refine nm ?_
  refine pu 9 54 ?_
  refine pu 10 64 ?_
  refine pu 11 65 ?_
  refine pu 12 9 ?_
  refine pu 13 10 ?_
  refine done_ (by kernel_rfl) ?_
  clear hHeld
  (try clear hk0 hk1 hk2 hk3 hk4 hk5 x10 x11 x12 x20 x21 x22)
  obtain ⟨hk0, hk1, hk2, hk3, hk4, hk5⟩ := box6 HX.out
  obtain ⟨x10, x11, x12⟩ := box3 X1.out
  obtain ⟨x20, x21, x22⟩ := box3 X2.out
  have lt9a : w.heap.size < w9.heap.size := lt_of_block HX.out
  have lt9b : w.heap.size + 1 < w9.heap.size := lt_of_block X1.out
  have lt9c : w.heap.size + 1 + 1 < w9.heap.size := lt_of_block X2.out
  go_wp2_with (first
    | (go_at_call 42; (with_reducible refine (impl_Inclusion.calls Kf (e : Int) (x : Int) ids q2 q3 q4 q5 true _ (Glob.below HG.out HB.out) HIN.out).mono ?_); rintro en wa ⟨va, rfl, hRa, hb⟩; obtain ⟨Aa, ca, rfl, hla, hCa⟩ := Kd.R_reads hRa; have HLa := aq hla; have HCa := aq hCa; clear hRa hla hCa; replace HB := aq (below_then HB.out HB.out.size hb); replace HX := aq (blk_below HX.out hb); replace X1 := aq (blk_below X1.out hb); replace X2 := aq (blk_below X2.out hb); replace HC9 := aq (Kd.C_below HC9.out hb); clear hb; (try clear hk0 hk1 hk2 hk3 hk4 hk5 x10 x11 x12 x20 x21 x22); obtain ⟨hk0, hk1, hk2, hk3, hk4, hk5⟩ := box6 HX.out; obtain ⟨x10, x11, x12⟩ := box3 X1.out; obtain ⟨x20, x21, x22⟩ := box3 X2.out; (try clear lt9a lt9b lt9c lt10a lt10b lt10c lt11a lt11b lt11c lt12a lt12b lt12c lt13a lt13b lt13c); have lt10a : w.heap.size < wa.heap.size := lt_of_block HX.out; have lt10b : w.heap.size + 1 < wa.heap.size := lt_of_block X1.out; have lt10c : w.heap.size + 1 + 1 < wa.heap.size := lt_of_block X2.out)
    | (go_at_call 43; obtain ⟨hba, _, hbs⟩ := allocs2' wa #[.slice Aa ids.length ca, .int .u64 q2, .int .u64 q3, .int .i64 q4, .int .i64 q5] 79 #[.int .u64 0, .int .u64 (e : Nat), .slice A1 l1.length c1, .int .u64 (E1 : Nat), .int .u64 (x : Nat), .slice A3 l3.length c3] 35; refine (laws_growthHashes.calls Kf Aa ca ids _ (some ⟨wa.heap.size + 1, 0, none⟩) 2 [⟨0, (e : Int), l1⟩, ⟨(E1 : Int), (x : Int), l3⟩] L true _ (Kd.C_below HCa.out hba) HLa.out (Kd.V_mk (Nat.le_refl 2) (Kd.C_F k35_heap (c35_2 hbs n1 (Kd.C_below (Kd.C_below h1_.out HB.out) hba) n3 (Kd.C_below (Kd.C_below h3_.out HB.out) hba)))) HGH.out).mono ?_; rintro en wb ⟨vb, rfl, hNb, hb0⟩; obtain ⟨Ab, cb, rfl, hlb, hCb⟩ := Kd.N_reads hNb; have HLb := aq hlb; have HCb := aq hCb; have hb := below_step hba hb0; clear hba hbs hb0 hNb hlb hCb HCa HLa; replace HB := aq (below_then HB.out HB.out.size hb); replace HX := aq (blk_below HX.out hb); replace X1 := aq (blk_below X1.out hb); replace X2 := aq (blk_below X2.out hb); replace HC9 := aq (Kd.C_below HC9.out hb); clear hb; (try clear hk0 hk1 hk2 hk3 hk4 hk5 x10 x11 x12 x20 x21 x22); obtain ⟨hk0, hk1, hk2, hk3, hk4, hk5⟩ := box6 HX.out; obtain ⟨x10, x11, x12⟩ := box3 X1.out; obtain ⟨x20, x21, x22⟩ := box3 X2.out; (try clear lt9a lt9b lt9c lt10a lt10b lt10c lt11a lt11b lt11c lt12a lt12b lt12c lt13a lt13b lt13c); have lt11a : w.heap.size < wb.heap.size := lt_of_block HX.out; have lt11b : w.heap.size + 1 < wb.heap.size := lt_of_block X1.out; have lt11c : w.heap.size + 1 + 1 < wb.heap.size := lt_of_block X2.out)
    | (go_at_call 44; (with_reducible refine (inclusionHashes_calls a0 a1 a2 a3 a4 a5 (e : Int) (x : Int) Ab cb L _ kp kt ids1 B E lv ix path (Glob.below HG.out HB.out) HCb.out HLb.out HP.out HID.out HEL.out HLN.out HT.out HT2.out HRG.out).mono ?_); rintro en wc ⟨Ac, cc, rfl, hlc, hCc, hb⟩; have HLc := aq hlc; have HCc := aq hCc; clear hlc hCc HCb HLb; replace HB := aq (below_then HB.out HB.out.size hb); replace HX := aq (blk_below HX.out hb); replace X1 := aq (blk_below X1.out hb); replace X2 := aq (blk_below X2.out hb); replace HC9 := aq (Kd.C_below HC9.out hb); clear hb; (try clear hk0 hk1 hk2 hk3 hk4 hk5 x10 x11 x12 x20 x21 x22); obtain ⟨hk0, hk1, hk2, hk3, hk4, hk5⟩ := box6 HX.out; obtain ⟨x10, x11, x12⟩ := box3 X1.out; obtain ⟨x20, x21, x22⟩ := box3 X2.out; (try clear lt9a lt9b lt9c lt10a lt10b lt10c lt11a lt11b lt11c lt12a lt12b lt12c lt13a lt13b lt13c); have lt12a : w.heap.size < wc.heap.size := lt_of_block HX.out; have lt12b : w.heap.size + 1 < wc.heap.size := lt_of_block X1.out; have lt12c : w.heap.size + 1 + 1 < wc.heap.size := lt_of_block X2.out)
    | (go_at_call 38; (with_reducible refine (Qe.viF_calls a0 a1 a2 a3 a4 a5 (e : Int) (x : Int) A2 c2 s Ac cc path A9 c9 r 0 [] _ (Kd.C_below h2_.out HB.out) HCc.out HLc.out HC9.out HVI.out).mono ?_); rintro en wv ⟨vv, rfl, _, hb⟩; replace HB := aq (below_then HB.out HB.out.size hb); replace HX := aq (blk_below HX.out hb); replace X1 := aq (blk_below X1.out hb); replace X2 := aq (blk_below X2.out hb); clear hb; (try clear hk0 hk1 hk2 hk3 hk4 hk5 x10 x11 x12 x20 x21 x22); obtain ⟨hk0, hk1, hk2, hk3, hk4, hk5⟩ := box6 HX.out; obtain ⟨x10, x11, x12⟩ := box3 X1.out; obtain ⟨x20, x21, x22⟩ := box3 X2.out; (try clear lt9a lt9b lt9c lt10a lt10b lt10c lt11a lt11b lt11c lt12a lt12b lt12c lt13a lt13b lt13c); have lt13a : w.heap.size < wv.heap.size := lt_of_block HX.out; have lt13b : w.heap.size + 1 < wv.heap.size := lt_of_block X1.out; have lt13c : w.heap.size + 1 + 1 < wv.heap.size := lt_of_block X2.out)
    | (go_at_call 45; (with_reducible refine (spec_PathParts.calls Kf (e : Int) (x : Int) parts _ HPP.out).mono ?_); rintro en wp ⟨vp, rfl, hRp, hb⟩; obtain ⟨Ap, cp, rfl, hlp, _⟩ := Kd.R_reads hRp; clear hRp hlp; replace HB := aq (below_then HB.out HB.out.size hb); replace HX := aq (blk_below HX.out hb); replace X1 := aq (blk_below X1.out hb); replace X2 := aq (blk_below X2.out hb); clear hb; (try clear hk0 hk1 hk2 hk3 hk4 hk5 x10 x11 x12 x20 x21 x22); obtain ⟨hk0, hk1, hk2, hk3, hk4, hk5⟩ := box6 HX.out; obtain ⟨x10, x11, x12⟩ := box3 X1.out; obtain ⟨x20, x21, x22⟩ := box3 X2.out))
  go_ret
  exact ⟨rfl, HB.out⟩
end Go.Proofs.YtfhcpniibiobgaaDoor.Qf
