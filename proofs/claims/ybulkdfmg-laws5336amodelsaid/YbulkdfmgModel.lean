/- The walk of LawS5336AModel. -/
import Derived.Test.YbulkdfmgEqual
namespace Go.Proofs.Ybulkdfmg
open Go.ChangeShapes Go.WideShapes Go.ChangeAt Go.RowKit

theorem at_cells {w w' : World} {ao : Option Addr} {zs : List Int} (h : At w ao zs) (hb : Below w.heap.size w w') : ∀ ad, ao = some ad → ∀ j u, (zs.map (Value.int .i64))[j]? = some u → w'.cell? (ad.add j) = some u := by
  intro ad had j u hj
  have hj' : j < zs.length := by have := (List.getElem?_eq_some_iff.1 hj).1; simpa using this
  obtain ⟨b, off, h1, h2, h3⟩ := h j hj'
  rw [h1] at had
  obtain rfl := Option.some.inj had
  rw [Addr.add_lit, hb.cell h2, h3]
  simpa [hj'] using hj

theorem and_shift (s k : Nat) (hs : s < 9223372036854775808) : bits .and .i64 ((s : Int) / 2 ^ k) 1 = ((s / 2 ^ k % 2 : Nat) : Int) := by
  have h := i64_and_one (s / 2 ^ k) (Nat.lt_of_le_of_lt (Nat.div_le_self _ _) hs)
  rw [Int.natCast_ediv, Int.natCast_pow] at h
  exact h

set_option maxHeartbeats 2000000 in
theorem model_walk (A0 A1 A2 A3 n p s : Nat) (hA0 : A0 ≤ 255) (hA1 : A1 ≤ 255) (hA2 : A2 ≤ 65535) (hA3 : A3 ≤ 18446744073709551615) (hn : n = 1 + A1 % 20) (hp : p = 1 + A0 % n) (hs : s = A3 % 2 ^ (n - 1))
    (ao : Option Addr) (cap : Nat) (zs : List Int) (hz : zs.length ≤ 1024) (hnone : ao = none → zs.length = 0 ∧ cap = 0) (w : World) (hat : At w ao zs) :
    Calls Yba.prog 3 #[.int .u8 A0, .int .u8 A1, .int .u16 A2, .int .u64 A3, .slice ao zs.length cap] w fun e w' => e = .returned (.bool true) ∧ Below w.heap.size w w' := by
  have hn20 : n ≤ 20 := by omega
  have hn1 : 1 ≤ n := by omega
  have hpn : p ≤ n := by have := Nat.mod_lt A0 hn1; omega
  have hp1 : 1 ≤ p := by omega
  have en : 1 + (A1 : Int) % 20 = (n : Int) := by omega
  have ep : 1 + (A0 : Int) % (n : Int) = (p : Int) := by rw [← Int.natCast_emod]; omega
  have hw := sets_wrap n hn20
  have hS2 := sets_bound n hn20
  have hS1 : 1 ≤ 2 ^ (n - 1) := Nat.one_le_two_pow
  have hsl : s < 2 ^ (n - 1) := by rw [hs]; exact Nat.mod_lt _ hS1
  have es : (A3 : Int) % ((2 ^ (n - 1) : Nat) : Int) = (s : Int) := by rw [hs, Int.natCast_emod]
  have hD : (A2 : Int) * ((2 ^ (n - 1) : Nat) : Int) = ((A2 * 2 ^ (n - 1) : Nat) : Int) := (Int.natCast_mul _ _).symm
  have hDl : A2 * 2 ^ (n - 1) ≤ 65535 * 524288 := Nat.mul_le_mul hA2 hS2
  obtain ⟨S, hS⟩ : ∃ S, S = 2 ^ (n - 1) := ⟨_, rfl⟩
  rw [← hS] at hw hD hS2 hS1 hsl es hDl
  obtain ⟨D, hDe⟩ : ∃ D, D = A2 * S := ⟨_, rfl⟩
  rw [← hDe] at hD hDl
  obtain ⟨i0, hi, hz0, hz1, hz2⟩ := info_parts Yba.info3
  have HN := hide hn
  have HP := hide hp
  have HS := hide hs
  have HSS := hide hS
  have HDE := hide hDe
  have HAT := hide hat
  have HNO := hide hnone
  clear hn hp hs hS hDe hat hnone
  go_enter Yba.func3, Yba.ntmps3
  iterate 89 go_step
  rw [hw]
  clear hw
  go_wp2_with (at_make; refine wpList_make_full _ rfl _ _ 24 rfl w.heap.size 3 i0 (.int .i64 0) 1 Yba.underlying24 hi hz0 hz1 _ _ _ _ zs.length rfl rfl rfl rfl (by rw [hz2]; omega) (by unfold maxLen; omega) (Nat.le_refl _) ?_)
  intro w1 hown hgrow
  obtain ⟨w2, hcp, hr2, hb2, hs2⟩ := copy_fact (cap := cap) HAT.out hown hgrow
  have HR2 := hide hr2
  clear hown hgrow hr2
  go_wp2_with fail
  rw [show ((D : Int) + (s : Int)) = ((D + s : Nat) : Int) from (Int.natCast_add D s).symm]
  refine (crash_any p n (D + s) A2 s hp1 hpn hn20 (by omega) (by rw [HDE.out, HSS.out]) (by rw [← HSS.out]; exact hsl) (some ⟨w.heap.size, 0, none⟩) zs hz nofun w2 HR2.out).mono ?_
  rintro e w3 ⟨a, c, rfl, hr3, hb3⟩
  rw [List.length_append]
  have HR3 := hide hr3
  have B3 : Below w.heap.size w w3 := hb2.trans (hb3.mono (by omega))
  have P3 : Row w3 (some ⟨w.heap.size, 0, none⟩) zs := HR2.out.below hb3
  have HP3 := hide P3
  have hpl := recvs_length p s (n - 1)
  have s3 : w.heap.size < w3.heap.size := Nat.lt_of_lt_of_le hs2 hb3.size
  clear hr3 hcp hb2 hb3 HR2 en ep es hD P3
  go_wp2_with (at_make; refine wpList_make_own _ rfl _ _ 24 rfl (w3.heap.size + 1) 3 i0 (.int .i64 0) 1 Yba.underlying24 hi hz0 hz1 _ _ _ (zs.length + n) rfl rfl (by omega) (by rw [hz2]; omega) (by unfold maxLen; omega) (by simp) ?_)
  intro w5 ho5 hg5
  have hb5 : Below (w3.heap.size + 1) (w3.alloc (.cells #[.int .i64 p, .int .i64 ((A2 : Int) + 1), .slice a (zs.length + (recvs p s (n - 1)).length) c] 26)) w5 := (Below.refl _ _).grown hg5 (by simp) nofun
  have B5 : Below w.heap.size w w5 := (B3.alloc (by omega) _).trans (hb5.mono (by omega))
  have s5 := (ho5.lt _ rfl).2
  have hcell5 := at_cells HAT.out B5
  go_wp2_with (at_builtin; refine wpList_append_fits_any _ rfl _ _ 24 rfl (w3.heap.size + 1) 3 i0 1 Yba.underlying24 hi hz1 (w3.heap.size + 1) 0 (zs.length + n) [] rfl ho5 ao zs.length cap (zs.map (Value.int .i64)) rfl (by simp) (fun h => HNO.out h) hcell5 (ints_oneCell _ _) (by omega) ?_)
  intro w6 ho6 hg6
  have hb6 := hb5.grown hg6 (by have := hb5.size; simp at this; omega) (fun k e => by cases e; exact Nat.le_refl _)
  have hsa : s < 9223372036854775808 := by omega
  have HB6 := hide hb6
  have HO6 := hide ho6
  clear ho5 hg5 hb5 B5 s5 hcell5 ho6 hg6 hb6 hDl
  go_wp2
  go_loopw [18, 19] (fun v i wr => ∃ k : Nat, k ≤ n - 1 ∧ i = .int .i64 k ∧ v = .slice (some ⟨w3.heap.size + 1, 0, none⟩) (zs.length + (recvs p s k).length) (zs.length + n) ∧
      wr.ownsRow (w3.heap.size + 1) 3 1 (.slice (some ⟨w3.heap.size + 1, 0, none⟩) (zs.length + (recvs p s k).length) (zs.length + n)) (zs.length + (recvs p s k).length) ((zs ++ recvs p s k).map (Value.int .i64)) ∧
      Below (w3.heap.size + 1) (w3.alloc (.cells #[.int .i64 p, .int .i64 ((A2 : Int) + 1), .slice a (zs.length + (recvs p s (n - 1)).length) c] 26)) wr) (fun _ i _ => n - (intOf i).toNat)
  case atStart => exact ⟨0, Nat.zero_le _, rfl, rfl, by simpa [recvs, bitsL] using HO6.out, HB6.out⟩
  case round =>
    obtain ⟨k, hk, rfl, rfl, ho, hb⟩ := hrel
    clear HB6 HO6
    by_cases hlt : k < n - 1
    · have hki : (k : Int) < (n : Int) - 1 := by omega
      have hl := recvs_length p s k
      have hand := and_shift s k hsa
      by_cases hbit : s / 2 ^ k % 2 = 1
      · rw [hbit] at hand
        have hq := recvs_hit p s k hbit
        have HQ := hide hq
        clear hq hbit
        by_cases hkp : k + 1 < p
        · have hr : (recvOf p k : Int) = (k : Int) + 1 := by unfold recvOf; rw [if_pos hkp]; rfl
          rw [hr] at HQ
          clear hr
          go_wp2_with (at_builtin; refine wpList_append_fits _ rfl _ _ 24 rfl (w3.heap.size + 1) 3 i0 1 Yba.underlying24 hi hz1 (w3.heap.size + 1) (zs.length + (recvs p s k).length) (zs.length + n) _ rfl (ho.alloc _) ⟨wr.heap.size, 0, none⟩ 1 1 [.int .i64 ((k : Int) + 1)] rfl rfl (cell_one_new _ _ _) (ones_one _) (by omega) ?_)
          intro w7 ho7 hg7
          have hb7 := (hb.alloc (by have := hb.size; simp at this; omega) _).grown hg7 (by have := hb.size; simp at this ⊢; omega) (fun k e => by cases e; exact Nat.le_refl _)
          have HO7 := hide ho7
          clear ho7 hg7 ho hl hand
          go_wp2
          go_roundw
          case rel => exact ⟨k + 1, by omega, by go_num, by rw [HQ.out, List.length_append]; rfl, by rw [HQ.out, List.length_append]; simpa [Nat.add_assoc] using HO7.out, hb7⟩
          case measure => simp [intOf]; omega
        · have hr : (recvOf p k : Int) = (k : Int) + 1 + 1 := by unfold recvOf; rw [if_neg hkp]; rfl
          rw [hr] at HQ
          have hge : (p : Int) ≤ (k : Int) + 1 := by omega
          clear hr
          go_wp2_with (at_builtin; refine wpList_append_fits _ rfl _ _ 24 rfl (w3.heap.size + 1) 3 i0 1 Yba.underlying24 hi hz1 (w3.heap.size + 1) (zs.length + (recvs p s k).length) (zs.length + n) _ rfl (ho.alloc _) ⟨wr.heap.size, 0, none⟩ 1 1 [.int .i64 ((k : Int) + 1 + 1)] rfl rfl (cell_one_new _ _ _) (ones_one _) (by omega) ?_)
          intro w7 ho7 hg7
          have hb7 := (hb.alloc (by have := hb.size; simp at this; omega) _).grown hg7 (by have := hb.size; simp at this ⊢; omega) (fun k e => by cases e; exact Nat.le_refl _)
          have HO7 := hide ho7
          clear ho7 hg7 ho hl hand
          go_wp2
          go_roundw
          case rel => exact ⟨k + 1, by omega, by go_num, by rw [HQ.out, List.length_append]; rfl, by rw [HQ.out, List.length_append]; simpa [Nat.add_assoc] using HO7.out, hb7⟩
          case measure => simp [intOf]; omega
      · have hb0 : s / 2 ^ k % 2 = 0 := by omega
        rw [hb0] at hand
        have hq := recvs_miss p s k hbit
        have HQ := hide hq
        have HO := hide ho
        clear hq hbit hb0 ho
        go_wp2
        go_roundw
        case rel => exact ⟨k + 1, by omega, by go_num, by rw [HQ.out], by rw [HQ.out]; exact HO.out, hb⟩
        case measure => simp [intOf]; omega
    · obtain rfl : k = n - 1 := by omega
      have hc2 : wr.cell? ⟨w3.heap.size, 2, none⟩ = some (.slice a (zs.length + (recvs p s (n - 1)).length) c) := by rw [hb.cell (by simp)]; simp [go_sem]
      have hsz : w3.heap.size + 1 ≤ wr.heap.size := by have := hb.size; simp at this; omega
      have b3r : Below w3.heap.size w3 wr := ((Below.refl _ w3).alloc (Nat.le_refl _) _).trans (hb.mono (by omega))
      have e1 : At wr a (zs ++ recvs p s (n - 1)) := HR3.out.at.below b3r
      have e2 : At wr (some ⟨w3.heap.size + 1, 0, none⟩) (zs ++ recvs p s (n - 1)) := (owned_row (by rw [List.length_append]; exact ho)).at
      have e3 : At wr (some ⟨w.heap.size, 0, none⟩) zs := HP3.out.at.below b3r
      have e4 : At wr ao zs := HAT.out.below (B3.trans (b3r.mono (by omega)))
      have E1 := hide e1
      have E2 := hide e2
      have E3 := hide e3
      have E4 := hide e4
      clear ho hi hz0 hz1 hz2 e1 e2 e3 e4
      go_wp2_with fail
      refine (equal_at _ _ _ _ _ (zs ++ recvs p s (n - 1)) (by rw [List.length_append]) (by omega) _ E1.out E2.out).mono ?_
      rintro e w8 ⟨rfl, nq, rfl⟩
      go_wp2_with fail
      refine (equal_at _ _ _ _ _ zs rfl (by omega) _ (E3.out.below (below_drewN (Below.refl _ _) nq)) (E4.out.below (below_drewN (Below.refl _ _) nq))).mono ?_
      rintro e w9 ⟨rfl, nq2, rfl⟩
      go_wp2
      go_ret
      exact ⟨rfl, below_drewN (B3.trans (b3r.mono (by omega))) _⟩
end Go.Proofs.Ybulkdfmg
