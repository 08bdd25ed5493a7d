/- The scripted body's Read by its contract. -/
import Derived.Test.YbulkdfokDoorBody
namespace Go.Proofs.YbulkdfokDoor
open Go.ChangeShapes Go.WideShapes Go.ChangeAt Go.RowKit

theorem Laid.set {B bb pb k m c : Nat} {nsV kindsV lensV v' : Value} {oa : Addr} {ls xs : List Value} {w w2 : World} (h : Laid B bb pb k m nsV kindsV lensV v' oa ls xs w w2) (u : Value) :
    Laid B bb pb k m nsV kindsV lensV v' oa ls (xs.set c u) w (w2.setCell ⟨pb, c, none⟩ u) := by
  obtain ⟨h1, h2⟩ := h.row.stored c u
  have hbp : bb ≠ pb := other_block h.row h.body (by decide)
  have hpv : some pb ≠ v'.ownBlock := by
    obtain ⟨_, ⟨h, _⟩ | ⟨g, c, cur, h', _, hh, _⟩⟩ := h.row
    · simp at h
    · simp only [Value.slice.injEq, Option.some.injEq, Addr.mk.injEq, and_true, true_and] at h'
      obtain ⟨rfl, rfl⟩ := h'
      exact own_ne h.own hh (by decide)
  have hbl : bb < w2.heap.size := (Array.getElem?_eq_some_iff.1 h.body).1
  refine ⟨(h2.block bb hbl (by simp; exact hbp)).trans h.body, h.own.kept h2 (.inr fun e => hpv e.symm), h1, h.below.setCell ((h.row.lt pb rfl).1) _, fun i hi h3 h4 h5 => ?_⟩
  rw [h2.block i (Nat.lt_of_lt_of_le hi h.below.size) (by simp; exact h4)]
  exact h.keep i hi h3 h4 h5

theorem Laid.drew {B bb pb k m : Nat} {nsV kindsV lensV v' : Value} {oa : Addr} {ls xs : List Value} {w w2 : World} (h : Laid B bb pb k m nsV kindsV lensV v' oa ls xs w w2) (n : Nat) :
    Laid B bb pb k m nsV kindsV lensV v' oa ls xs w (w2.drewN n) := ⟨h.body, h.own, h.row, below_drewN h.below n, h.keep⟩

theorem rem_nat (z m : Nat) : (z : Int) % ((m : Int) + 1) = ((z % (m + 1) : Nat) : Int) := by rw [Int.natCast_emod]; rfl

set_option maxHeartbeats 1000000 in
theorem body_read (B bb pb k m z nb noff nl nc kl kc kd : Nat) (ka : Option Addr) (ea oa : Addr) (lensV : Value) (ls xs : List Value) (w : World)
    (hk : k < 1024) (hkn : k < nl) (hnl : nl ≤ 1024) (hm : m ≤ 255) (hz : z ≤ 255) (hB : B ≤ w.heap.size) (hB1 : B ≤ bb) (hB0 : 0 < B) (hnb : nb < B)
    (hbb : w.heap[bb]? = some (.cells (bodyC (.slice (some ⟨nb, noff, none⟩) nl nc) (.slice ka kl kc) k lensV oa) 29 (0, 0)))
    (hown : w.ownsRow B 3 1 lensV k ls) (hp : w.ownsRow B 5 1 (.slice (some ⟨pb, 0, none⟩) m m) m xs)
    (hns : w.cell? ⟨nb, noff + k, none⟩ = some (.int .u8 (z : Nat))) (hkd : KindAt w B ka kl k kd)
    (hE : w.cell? ⟨0, 0, none⟩ = some (.iface 44 (.pointer (some ea)))) :
    Calls Ybad.prog 22 #[.pointer (some ⟨bb, 0, none⟩), .slice (some ⟨pb, 0, none⟩) m m] w fun e w' =>
      e = .returned (.tuple #[.int .i64 ((z % (m + 1) : Nat) : Int), errV kd ea oa]) ∧
      ∃ v' xs', Laid B bb pb k m (.slice (some ⟨nb, noff, none⟩) nl nc) (.slice ka kl kc) lensV v' oa ls xs' w w' ∧ ∀ j, j < z % (m + 1) → xs'[j]? = some (.int .u8 (((k + j) % 256 : Nat) : Int)) := by
  obtain ⟨i0, hi, hz0, hz1, hz2⟩ := info_parts Ybad.info3
  have hcv : w.cell? ⟨bb, 3, none⟩ = some lensV := by rw [cell_of_row w bb 3 _ 29 (0, 0) hbb]; rfl
  have hn := Nat.mod_lt z (show m + 1 > 0 by omega)
  have hr := rem_nat z m
  obtain ⟨n, hn0⟩ : ∃ n, n = z % (m + 1) := ⟨_, rfl⟩
  rw [← hn0] at hn hr ⊢
  clear hn0
  have HBB := hide hbb
  have HOWN := hide hown
  have HP := hide hp
  have HKD := hide hkd
  have HNS := hide hns
  have HE := hide hE
  clear hbb hown hp hkd hns hE
  go_enter Ybad.func22, Ybad.ntmps22
  go_wp2_with (at_builtin; refine wpList_append_own _ rfl _ _ 27 rfl B 3 i0 (.int .i64 0) 1 8 Ybad.underlying27 hi hz0 hz1 hz2 rfl (by decide) lensV k ls rfl (HOWN.out.alloc _) ⟨w.heap.size, 0, none⟩ 1 1 [.int .i64 (m : Int)] rfl rfl (cell_one_new _ _ _) (ones_one _) (by unfold maxLen; omega) (by omega) (by simp; omega) ?_)
  intro v' w1 ho1 hg1 _
  obtain ⟨g, c, rfl⟩ : ∃ g c, v' = .slice (some ⟨g, 0, none⟩) (k + 1) c := by
    rcases ho1.2 with ⟨_, h0⟩ | ⟨g, c, cur, rfl, _⟩
    · omega
    · exact ⟨g, c, rfl⟩
  obtain ⟨hc3, hf3, hc2, hf2, hc0, hL⟩ := laid_step hB hB1 HBB.out HOWN.out HP.out ho1 hg1
  have hns2 : ((w1.setCell ⟨bb, 3, none⟩ (.slice (some ⟨g, 0, none⟩) (k + 1) c)).setCell ⟨bb, 2, none⟩ (.int .i64 ((k : Int) + 1))).cell? ⟨nb, noff + k, none⟩ = some (.int .u8 (z : Nat)) := by rw [hL.below.cell hnb]; exact HNS.out
  have HL := hide hL
  clear hL ho1 hg1 hcv hi hz0 hz1 hz2
  have hkn' : ¬ (nl : Int) ≤ (k : Int) := by omega
  go_wp2
  clear hc3 hf3 hc2 hf2 hc0 hns2 hr
  go_loopw [8] (fun j wr => ∃ (c' : Nat) (xs' : List Value), c' ≤ n ∧ j = .int .i64 c' ∧ Laid B bb pb k m (.slice (some ⟨nb, noff, none⟩) nl nc) (.slice ka kl kc) lensV (.slice (some ⟨g, 0, none⟩) (k + 1) c) oa ls xs' w wr ∧
      ∀ j, j < c' → xs'[j]? = some (.int .u8 (((k + j) % 256 : Nat) : Int))) (fun j _ => n - (intOf j).toNat)
  case atStart => exact ⟨0, xs, Nat.zero_le _, rfl, HL.out, fun j hj => absurd hj (by omega)⟩
  case round =>
    obtain ⟨c', xs', hc', rfl, hL, hx⟩ := hrel
    have HLR := hide hL
    have HX := hide hx
    clear hL hx
    by_cases hlt : c' < n
    · have hlt' : (c' : Int) < (n : Int) := by omega
      have hl := HLR.out.row.1
      have hc : wr.cell? ⟨pb, c', none⟩ = some (xs'[c']'(by omega)) := by rw [HLR.out.row.cellAt c' (by omega)]; simp
      have hf := HLR.out.row.frozenAt c'
      go_wp2
      go_roundw
      case rel =>
        refine ⟨c' + 1, _, by omega, by go_num, HLR.out.set _, fun j hj => ?_⟩
        rcases Nat.lt_or_ge j c' with h | h
        · rw [List.getElem?_set_ne (by omega)]; exact HX.out j h
        · obtain rfl : j = c' := by omega
          rw [List.getElem?_set_self (by omega)]
          congr 2
      case measure => simp [intOf]; omega
    · obtain rfl : c' = n := by omega
      have c1 : wr.cell? ⟨bb, 1, none⟩ = some (.slice ka kl kc) := by rw [cell_of_row wr bb 1 _ 29 (0, 0) HLR.out.body]; rfl
      have c4 : wr.cell? ⟨bb, 4, none⟩ = some (.iface 44 (.pointer (some oa))) := by rw [cell_of_row wr bb 4 _ 29 (0, 0) HLR.out.body]; rfl
      have c0 : wr.cell? ⟨0, 0, none⟩ = some (.iface 44 (.pointer (some ea))) := by rw [HLR.out.below.cell hB0]; exact HE.out
      rcases HKD.out.below HLR.out.below with ⟨hkl, rfl⟩ | ⟨kb, koff, y, hkl, rfl, hkb, hky, hy, hkd'⟩
      · have hkl' : (kl : Int) ≤ (k : Int) := by omega
        go_wp2
        go_ret2
        exact ⟨rfl, _, _, HLR.out, HX.out⟩
      · have hkl' : (k : Int) < (kl : Int) := by omega
        have h4 : y % 4 = 0 ∨ y % 4 = 1 ∨ y % 4 = 2 ∨ y % 4 = 3 := by omega
        rcases h4 with h4 | h4 | h4 | h4
        · have e4 : (y : Int) % 4 = 0 := by omega
          obtain rfl : kd = 0 := by omega
          clear h4 hkd'
          go_wp2
          go_ret2
          exact ⟨rfl, _, _, HLR.out, HX.out⟩
        · have e4 : (y : Int) % 4 = 1 := by omega
          obtain rfl : kd = 1 := by omega
          clear h4 hkd'
          go_wp2
          go_quiet (fail)
          go_wp2
          go_ret2
          exact ⟨rfl, _, _, HLR.out.drew _, HX.out⟩
        · have e4 : (y : Int) % 4 = 2 := by omega
          obtain rfl : kd = 2 := by omega
          clear h4 hkd'
          go_wp2
          go_quiet (fail)
          go_wp2
          go_ret2
          exact ⟨rfl, _, _, HLR.out.drew _, HX.out⟩
        · have e4 : (y : Int) % 4 = 3 := by omega
          obtain rfl : kd = 3 := by omega
          clear h4 hkd'
          go_wp2
          go_ret2
          exact ⟨rfl, _, _, HLR.out, HX.out⟩
end Go.Proofs.YbulkdfokDoor
