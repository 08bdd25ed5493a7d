/- The walk of LawS5336ARoundTrip. -/
import Derived.Test.YbulkdfmgCrash
namespace Go.Proofs.Ybulkdfmg
open Go.ChangeShapes Go.WideShapes Go.ChangeAt Go.RowKit

theorem crash_nil (p n choice R s : Nat) (hp : 1 ≤ p) (hpn : p ≤ n) (hn : n ≤ 20) (hc : choice ≤ 2199023255552) (hch : choice = R * 2 ^ (n - 1) + s) (hs : s < 2 ^ (n - 1)) (w : World) :
    Calls Yba.prog 5 #[.int .i64 p, .int .i64 n, .int .i64 choice, .slice none 0 0] w fun e w' => ∃ a c, e = .returned (.agg #[.int .i64 p, .int .i64 ((R : Int) + 1), .slice a (bitsL s (n - 1)).length c]) ∧ Row w' a (recvs p s (n - 1)) ∧ Below w.heap.size w w' := by
  refine (crash_any p n choice R s hp hpn hn hc hch hs none [] (by simp) (fun _ => rfl) w nofun).mono ?_
  rintro e w' ⟨a, c, rfl, hr, hb⟩
  rw [List.nil_append] at hr
  refine ⟨a, c, ?_, hr, hb⟩
  rw [List.nil_append]
  unfold recvs
  rw [List.length_map]

/-- The last receiver among those that the first j places stand for; 0 where there is none. -/
def lastOf (p : Nat) (l : List Nat) : Int := match l.getLast? with
  | none => 0
  | some i => (recvOf p i : Int)
theorem lastOf_snoc (p : Nat) (l : List Nat) (i : Nat) : lastOf p (l ++ [i]) = (recvOf p i : Int) := by simp [lastOf]
theorem lastOf_lt (p i : Nat) (l : List Nat) (h : ∀ j ∈ l, j < i) : 0 ≤ lastOf p l ∧ lastOf p l < (recvOf p i : Int) := by
  unfold lastOf
  cases hl : l.getLast? with
  | none => have := recv_pos p i; simp; omega
  | some j =>
    have := recv_mono p j i (h j (List.mem_of_getLast? hl))
    simp
    omega
theorem take_snoc (l : List Nat) (j i : Nat) (h : l[j]? = some i) : l.take (j + 1) = l.take j ++ [i] := by
  obtain ⟨hj, rfl⟩ := List.getElem?_eq_some_iff.1 h
  rw [List.take_succ_eq_append_getElem hj]

set_option maxHeartbeats 1000000 in
theorem round_walk (A0 A1 choice R s n p : Nat) (hA0 : A0 ≤ 255) (hA1 : A1 ≤ 255) (hn : n = 1 + A1 % 20) (hp : p = 1 + A0 % n) (hc : choice ≤ 1099511627776) (hch : choice = R * 2 ^ (n - 1) + s) (hs : s < 2 ^ (n - 1)) (w : World) :
    Calls Yba.prog 4 #[.int .u8 A0, .int .u8 A1, .int .i64 choice] w fun e w' => e = .returned (.bool true) ∧ Below w.heap.size w w' := by
  have hn20 : n ≤ 20 := by omega
  have hn1 : 1 ≤ n := by omega
  have hpn : p ≤ n := by have := Nat.mod_lt A0 hn1; omega
  have hp1 : 1 ≤ p := by omega
  have en : 1 + (A1 : Int) % 20 = (n : Int) := by omega
  have ep : 1 + (A0 : Int) % (n : Int) = (p : Int) := by rw [← Int.natCast_emod]; omega
  have hw := sets_wrap n hn20
  have hD : (R : Int) * ((2 ^ (n - 1) : Nat) : Int) = ((R * 2 ^ (n - 1) : Nat) : Int) := (Int.natCast_mul _ _).symm
  obtain ⟨S, hS⟩ : ∃ S, S = 2 ^ (n - 1) := ⟨_, rfl⟩
  rw [← hS] at hw hD
  obtain ⟨D, hDe⟩ : ∃ D, D = R * S := ⟨_, rfl⟩
  rw [← hDe] at hD
  have hDc : D ≤ choice := by rw [hch, hDe, hS]; exact Nat.le_add_right _ _
  have hRc : R ≤ choice := by rw [hch]; exact Nat.le_trans (Nat.le_mul_of_pos_right R Nat.one_le_two_pow) (Nat.le_add_right _ _)
  have HN := hide hn
  have HP := hide hp
  have HC := hide hch
  have HS := hide hs
  have HSS := hide hS
  have HDE := hide hDe
  clear hn hp hch hs hS hDe
  go_enter Yba.func4, Yba.ntmps4
  go_wp2_with fail
  refine (crash_nil p n choice R s hp1 hpn hn20 (by omega) HC.out HS.out _).mono ?_
  rintro e w1 ⟨a, c, rfl, hrow, hb⟩
  have HROW := hide hrow
  have hlen := bitsL_length s (n - 1)
  clear hrow en ep
  go_wp2
  clear hw hD
  go_loop [11, 12, 55] (fun b l i => ∃ j : Nat, j ≤ (bitsL s (n - 1)).length ∧ i = .int .i64 j ∧ b = .int .i64 ((D + sumL ((bitsL s (n - 1)).take j) : Nat) : Int) ∧ l = .int .i64 (lastOf p ((bitsL s (n - 1)).take j))) (fun _ _ i => (bitsL s (n - 1)).length - (intOf i).toNat)
  case atStart => exact ⟨0, Nat.zero_le _, rfl, rfl, rfl⟩
  case round =>
    obtain ⟨j, hj, rfl, rfl, rfl⟩ := hrel
    by_cases hlt : j < (bitsL s (n - 1)).length
    · have hi := List.getElem?_eq_getElem hlt
      obtain ⟨i, hie⟩ : ∃ i, i = (bitsL s (n - 1))[j] := ⟨_, rfl⟩
      rw [← hie] at hi
      have ht := bitsL_take s (n - 1) j i hi
      have hil : i < n - 1 := (bitsL_lt s (n - 1) i (List.mem_of_getElem? hi)).1
      have hsum : sumL ((bitsL s (n - 1)).take j) = s % 2 ^ i := by rw [ht, sum_bits]
      have hlast := lastOf_lt p i ((bitsL s (n - 1)).take j) (by rw [ht]; exact fun x hx => (bitsL_lt s i x hx).1)
      have hsn : sumL ((bitsL s (n - 1)).take (j + 1)) = s % 2 ^ i + 2 ^ i := by rw [take_snoc _ _ _ hi, sumL_append, hsum]; simp [sumL]
      have hln : lastOf p ((bitsL s (n - 1)).take (j + 1)) = (recvOf p i : Int) := by rw [take_snoc _ _ _ hi, lastOf_snoc]
      have hor := or_bit R (s % 2 ^ i) i (n - 1) hil (Nat.mod_lt _ Nat.one_le_two_pow)
      rw [← HSS.out, ← HDE.out] at hor
      obtain ⟨g, rfl, hg, hcell⟩ := HROW.out j (by simpa [recvs] using hlt)
      have hgd : (recvs p s (n - 1)).getD j 0 = (recvOf p i : Int) := by simp [recvs, hi]
      rw [hgd] at hcell
      have hpi : 2 ^ i ≤ 524288 := Nat.pow_le_pow_right (by omega) (show i ≤ 19 by omega)
      have hmi : s % 2 ^ i < 2 ^ i := Nat.mod_lt _ Nat.one_le_two_pow
      have horI : bits .or .i64 ((D + s % 2 ^ i : Nat) : Int) ((2 ^ i : Nat) : Int) = ((D + (s % 2 ^ i + 2 ^ i) : Nat) : Int) := by rw [i64_or_nat _ _ (by omega) (by omega), hor]
      have hshift : wrap64 ((2 : Int) ^ i) = ((2 ^ i : Nat) : Int) := by
        have h2 : ((2 ^ i : Nat) : Int) = (2 : Int) ^ i := by simp
        rw [← h2]
        generalize 2 ^ i = Q at hpi
        unfold wrap64
        omega
      rw [hsum]
      obtain ⟨lst, hle⟩ : ∃ x, x = lastOf p ((bitsL s (n - 1)).take j) := ⟨_, rfl⟩
      rw [← hle] at hlast ⊢
      have HSN := hide hsn
      have HLN := hide hln
      obtain ⟨E, hE⟩ : ∃ E, E = D + s % 2 ^ i := ⟨_, rfl⟩
      obtain ⟨Q, hQ⟩ : ∃ Q, Q = 2 ^ i := ⟨_, rfl⟩
      obtain ⟨F, hF⟩ : ∃ F, F = D + (s % 2 ^ i + 2 ^ i) := ⟨_, rfl⟩
      rw [← hE, ← hF, ← hQ] at horI
      rw [← hQ] at hshift
      rw [← hE]
      have HF := hide hF
      clear hi ht hsum hsn hln hor hgd hie hle hE hQ hF hmi hpi HROW
      have hl0 := hlast.1
      have hl1 := hlast.2
      clear hlast
      have hjl : (j : Int) < ((bitsL s (n - 1)).length : Int) := by omega
      by_cases hip : i + 1 < p
      · have hr : (recvOf p i : Int) = (i : Int) + 1 := by unfold recvOf; rw [if_pos hip]; rfl
        rw [hr] at hcell hl1 HLN
        have hb2 : ((i : Int) + 1 == (p : Int)) = false := by simp; omega
        clear hr
        go_wp2
        go_round
        case rel => exact ⟨j + 1, by omega, by go_num, by rw [HSN.out, HF.out], by rw [HLN.out]⟩
        case measure => simp [intOf]; omega
      · have hr : (recvOf p i : Int) = (i : Int) + 2 := by unfold recvOf; rw [if_neg hip]; rfl
        rw [hr] at hcell hl1 HLN
        have hb2 : ((i : Int) + 2 == (p : Int)) = false := by simp; omega
        have hgt : (p : Int) < (i : Int) + 2 := by omega
        clear hr
        go_wp2
        go_round
        case rel => exact ⟨j + 1, by omega, by go_num, by rw [HSN.out, HF.out], by rw [HLN.out]⟩
        case measure => simp [intOf]; omega
    · obtain rfl : j = (bitsL s (n - 1)).length := by omega
      have hfin : D + sumL ((bitsL s (n - 1)).take (bitsL s (n - 1)).length) = choice := by
        rw [List.take_length, sum_bits, Nat.mod_eq_of_lt HS.out, HC.out, HDE.out, HSS.out]
      rw [hfin]
      have B : Below w.heap.size w (w1.alloc (.cells #[.int .i64 p, .int .i64 ((R : Int) + 1), .slice a (bitsL s (n - 1)).length c] 26)) := hb.alloc hb.size _
      clear hfin HROW
      go_wp2
      go_ret
      exact ⟨rfl, B⟩
end Go.Proofs.Ybulkdfmg
