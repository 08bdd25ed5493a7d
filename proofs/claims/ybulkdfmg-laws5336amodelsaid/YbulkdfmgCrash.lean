/- crashOf by its contract. -/
import Derived.Test.YbulkdfmgPlain
import Derived.Test.YbulkdfmgRows
import Derived.WalkKit
import Derived.ProofKit
import Derived.WalkLawsBesides
import Derived.WalkSpells
import Derived.ArgAppend
import Derived.Maps.AppendAt
import Derived.Laws.BitsAllLaws
import Derived.Laws.Runes
import Derived.Outline
namespace Go.Proofs.Ybulkdfmg
open Go.ChangeShapes Go.WideShapes Go.ChangeAt Go.RowKit

theorem hide {p : Prop} (h : p) : Hid p := h

theorem i64_and_nat (a b : Nat) (ha : a < 9223372036854775808) (hb : b < 9223372036854775808) : bits .and .i64 (a : Int) (b : Int) = ((a &&& b : Nat) : Int) := by
  have hx : a &&& b < 2 ^ 63 := Nat.and_lt_two_pow _ (by omega)
  show IntKind.i64.wrap ((BitVec.ofInt 64 (a : Int) &&& BitVec.ofInt 64 (b : Int)).toNat : Int) = _
  rw [BitVec.toNat_and, ofInt_u64 a (by omega), ofInt_u64 b (by omega), IntKind.wrap_i64]
  omega
theorem i64_or_nat (a b : Nat) (ha : a < 9223372036854775808) (hb : b < 9223372036854775808) : bits .or .i64 (a : Int) (b : Int) = ((a ||| b : Nat) : Int) := by
  have hx : a ||| b < 2 ^ 63 := Nat.or_lt_two_pow (by omega) (by omega)
  show IntKind.i64.wrap ((BitVec.ofInt 64 (a : Int) ||| BitVec.ofInt 64 (b : Int)).toNat : Int) = _
  rw [BitVec.toNat_or, ofInt_u64 a (by omega), ofInt_u64 b (by omega), IntKind.wrap_i64]
  omega
theorem i64_and_one (a : Nat) (ha : a < 9223372036854775808) : bits .and .i64 (a : Int) 1 = ((a % 2 : Nat) : Int) := by
  have := i64_and_nat a 1 ha (by omega)
  rw [nat_mask1] at this
  exact this

theorem Yba.info3 : (Yba.prog.info? 3).map (fun i => (i.zero, i.size, i.bytes)) = some (some (.int .i64 0), 1, 8) := by kernel_rfl

theorem ediv_nat (C S R s : Nat) (h : C = R * S + s) (hs : s < S) : (C : Int) / (S : Int) = (R : Int) := by
  rw [← Int.natCast_ediv, h, Nat.mul_comm, Nat.mul_add_div (by omega), Nat.div_eq_of_lt hs, Nat.add_zero]
theorem emod_nat (C S R s : Nat) (h : C = R * S + s) (hs : s < S) : (C : Int) % (S : Int) = (s : Int) := by
  rw [← Int.natCast_emod, h, Nat.mul_comm, Nat.mul_add_mod, Nat.mod_eq_of_lt hs]
theorem tdiv_nat (C S R s : Nat) (h : C = R * S + s) (hs : s < S) : (C : Int).tdiv (S : Int) = (R : Int) := by
  rw [Int.tdiv_eq_ediv_of_nonneg (by omega)]
  exact ediv_nat C S R s h hs
theorem tmod_nat (C S R s : Nat) (h : C = R * S + s) (hs : s < S) : (C : Int).tmod (S : Int) = (s : Int) := by
  rw [Int.tmod_eq_emod_of_nonneg (by omega)]
  exact emod_nat C S R s h hs
theorem sets_bound (n : Nat) (h : n ≤ 20) : 2 ^ (n - 1) ≤ 524288 := Nat.pow_le_pow_right (by omega) (show n - 1 ≤ 19 by omega)
theorem sets_wrap (n : Nat) (h : n ≤ 20) : wrap64 ((2 : Int) ^ (n - 1)) = ((2 ^ (n - 1) : Nat) : Int) := by
  have h1 := sets_bound n h
  have h2 : ((2 ^ (n - 1) : Nat) : Int) = (2 : Int) ^ (n - 1) := by simp
  rw [← h2]
  generalize 2 ^ (n - 1) = S at h1
  unfold wrap64
  omega

/-- The receivers that the bits of s below c stand for. -/
def recvs (p s c : Nat) : List Int := (bitsL s c).map fun i => (recvOf p i : Int)
theorem recvs_length (p s c : Nat) : (recvs p s c).length ≤ c := by unfold recvs; rw [List.length_map]; exact bitsL_length s c
theorem recvs_hit (p s c : Nat) (h : s / 2 ^ c % 2 = 1) : recvs p s (c + 1) = recvs p s c ++ [(recvOf p c : Int)] := by simp [recvs, bitsL, h]
theorem recvs_miss (p s c : Nat) (h : s / 2 ^ c % 2 ≠ 1) : recvs p s (c + 1) = recvs p s c := by simp [recvs, bitsL, h]

/-- The numbers zs lie from the head of a block on. -/
def Row (w : World) (a : Option Addr) (zs : List Int) : Prop := ∀ j, j < zs.length → ∃ g, a = some ⟨g, 0, none⟩ ∧ g < w.heap.size ∧ w.cell? ⟨g, j, none⟩ = some (.int .i64 (zs.getD j 0))

theorem Row.below {w w' : World} {a : Option Addr} {zs : List Int} (h : Row w a zs) (hb : Below w.heap.size w w') : Row w' a zs := fun j hj => by
  obtain ⟨g, h1, h2, h3⟩ := h j hj
  exact ⟨g, h1, Nat.lt_of_lt_of_le h2 hb.size, by rw [hb.cell h2]; exact h3⟩

/-- What the field Receivers holds: what was handed in, or a row of the call's own. -/
def Recv (B : Nat) (wr : World) (ao : Option Addr) (zs l : List Int) (v : Value) : Prop :=
  (l = [] ∧ v = .slice ao zs.length zs.length) ∨ (∃ g c, v = .slice (some ⟨g, 0, none⟩) (zs.length + l.length) c ∧ wr.ownsRow B 3 1 (.slice (some ⟨g, 0, none⟩) (zs.length + l.length) c) (zs.length + l.length) ((zs ++ l).map (Value.int .i64)))

theorem owned_row {w : World} {B g c : Nat} {zs : List Int} (h : w.ownsRow B 3 1 (.slice (some ⟨g, 0, none⟩) zs.length c) zs.length (zs.map (Value.int .i64))) : Row w (some ⟨g, 0, none⟩) zs := fun j hj => by
  refine ⟨g, rfl, (h.lt g rfl).2, ?_⟩
  rw [h.cellAt j (by omega)]
  simp [hj]

/-- A block of another type is no row of numbers. -/
theorem other_block {w : World} {B g n c cb : Nat} {xs : List Value} {C : Array Value} (h : w.ownsRow B 3 1 (.slice (some ⟨g, 0, none⟩) n c) n xs) (hc : w.heap[cb]? = some (.cells C 26 (0, 0))) : cb ≠ g := by
  rintro rfl
  rcases h.2 with ⟨h', _⟩ | ⟨g', cap', cur, h', _, hg, _⟩
  · simp at h'
  · simp only [Value.slice.injEq, Option.some.injEq, Addr.mk.injEq, and_true, true_and] at h'
    obtain ⟨rfl, rfl⟩ := h'
    rw [hc] at hg
    simp at hg

/-- Behind 'c.Receivers = append(c.Receivers, q)'. -/
theorem recv_step {B cb rb : Nat} {w wr w1 : World} {zs l : List Int} {q : Int} {v' : Value} {row : Option Nat} {tmp : Obj} {C D : Array Value} {u0 u1 u2 : Value}
    (hC : C = #[u0, u1, u2]) (hcb : wr.heap[cb]? = some (.cells C 26 (0, 0))) (hrb : wr.heap[rb]? = some (.cells D 26 (0, 0))) (hne : rb ≠ cb) (hrow1 : some cb ≠ row) (hrow2 : some rb ≠ row)
    (hB : B ≤ cb) (hrowB : ∀ k, row = some k → B ≤ k) (hb : Below B w wr) (hBw : B ≤ wr.heap.size)
    (ho : w1.ownsRow B 3 1 v' (zs.length + l.length + 1) ((zs ++ l).map (Value.int .i64) ++ [.int .i64 q])) (hg : (wr.alloc tmp).grownBy w1 row) :
    ∃ g c, v' = .slice (some ⟨g, 0, none⟩) (zs.length + (l ++ [q]).length) c ∧ w1.cell? ⟨cb, 2, none⟩ = some u2 ∧ w1.frozen? ⟨cb, 2, none⟩ = false ∧
      (w1.setCell ⟨cb, 2, none⟩ v').heap[cb]? = some (.cells #[u0, u1, v'] 26 (0, 0)) ∧ (w1.setCell ⟨cb, 2, none⟩ v').heap[rb]? = some (.cells D 26 (0, 0)) ∧
      Below B w (w1.setCell ⟨cb, 2, none⟩ v') ∧ (w1.setCell ⟨cb, 2, none⟩ v').ownsRow B 3 1 v' (zs.length + (l ++ [q]).length) ((zs ++ (l ++ [q])).map (Value.int .i64)) := by
  subst hC
  have hlen : zs.length + (l ++ [q]).length = zs.length + l.length + 1 := by simp; omega
  have hmap : (zs ++ (l ++ [q])).map (Value.int .i64) = (zs ++ l).map (Value.int .i64) ++ [.int .i64 q] := by simp
  rw [hlen, hmap]
  have hcl : cb < wr.heap.size := (Array.getElem?_eq_some_iff.1 hcb).1
  have hrl : rb < wr.heap.size := (Array.getElem?_eq_some_iff.1 hrb).1
  have hcb1 : w1.heap[cb]? = some (.cells #[u0, u1, u2] 26 (0, 0)) := (hg.block cb (by simp; omega) hrow1).trans ((Below.heap_alloc wr tmp cb hcl).trans hcb)
  have hrb1 : w1.heap[rb]? = some (.cells D 26 (0, 0)) := (hg.block rb (by simp; omega) hrow2).trans ((Below.heap_alloc wr tmp rb hrl).trans hrb)
  rcases ho.2 with ⟨_, h0⟩ | ⟨g, c, cur, rfl, _⟩
  · omega
  have hneg : cb ≠ g := other_block ho hcb1
  refine ⟨g, c, rfl, by rw [cell_of_row w1 cb 2 _ 26 (0, 0) hcb1]; rfl, frozen_of_row w1 cb 2 _ 26 hcb1, ?_, ?_, ?_, ?_⟩
  · rw [heap_setCell_same w1 cb 2 _ 26 _ hcb1]
    rfl
  · rw [Below.heap_setCell w1 _ _ rb hne]; exact hrb1
  · exact ((hb.alloc hBw tmp).grown hg (by simp; omega) hrowB).setCell (by exact hB) _
  · refine ho.kept (row := some cb) ⟨rfl, rfl, rfl, by simp [World.setCell], fun k _ hk => Below.heap_setCell w1 _ _ k (fun e => hk (by rw [e]))⟩ (.inr ?_)
    simp only [Value.ownBlock, ne_eq, Option.some.injEq]
    exact fun e => hneg e.symm

theorem row_set {w : World} {a : Option Addr} {zs : List Int} {b i : Nat} {v : Value} (h : Row w a zs) (hne : ∀ j, j < zs.length → ∀ g, a = some ⟨g, 0, none⟩ → g ≠ b) : Row (w.setCell ⟨b, i, none⟩ v) a zs := fun j hj => by
  obtain ⟨g, h1, h2, h3⟩ := h j hj
  exact ⟨g, h1, by simpa [World.setCell] using h2, by rw [World.cell?_of_block (w := w) (Below.heap_setCell w ⟨b, i, none⟩ v g (hne j hj g h1))]; exact h3⟩
theorem half_val {T s c c' : Nat} (hc : c' = c + 1) (h : T = s / 2 ^ c) : Value.int .i64 ((T : Int) / 2) = Value.int .i64 ((s / 2 ^ c' : Nat) : Int) := by
  subst hc
  have : s / 2 ^ (c + 1) = T / 2 := by rw [h, Nat.div_div_eq_div_mul, Nat.pow_succ]
  rw [this]
  congr 1
theorem ones_one (x : Int) : ∀ u ∈ [Value.int .i64 x], u.oneCell' = true := by
  intro u hu
  simp at hu
  subst hu
  rfl
theorem owns_le {w : World} {B B' n : Nat} {v : Value} {xs : List Value} (h : w.ownsRow B' 3 1 v n xs) (hb : B ≤ B') : w.ownsRow B 3 1 v n xs :=
  ⟨h.1, by
    rcases h.2 with h | ⟨g, c, cur, h1, h2, h3⟩
    · exact .inl h
    · exact .inr ⟨g, c, cur, h1, Nat.le_trans hb h2, h3⟩⟩
theorem row_cells {w wr : World} {o : Obj} {ao : Option Addr} {zs : List Int} (h : Row w ao zs) (hb : Below w.heap.size w wr) : ∀ b, ao = some b → ∀ j u, (zs.map (Value.int .i64))[j]? = some u → (wr.alloc o).cell? (b.add j) = some u := by
  intro b hbb j u hj
  have hj' : j < zs.length := by have := (List.getElem?_eq_some_iff.1 hj).1; simpa using this
  obtain ⟨g, h1, h2, h3⟩ := h j hj'
  rw [h1] at hbb
  obtain rfl := Option.some.inj hbb
  rw [Addr.add_lit, Nat.zero_add, World.cell?_alloc_lt _ _ _ (Nat.lt_of_lt_of_le h2 hb.size), hb.cell h2, h3]
  simpa [hj'] using hj

set_option maxHeartbeats 2000000 in
theorem crash_any (p n choice R s : Nat) (hp : 1 ≤ p) (hpn : p ≤ n) (hn : n ≤ 20) (hc : choice ≤ 2199023255552) (hch : choice = R * 2 ^ (n - 1) + s) (hs : s < 2 ^ (n - 1))
    (ao : Option Addr) (zs : List Int) (hz : zs.length ≤ 1024) (hnone : ao = none → zs.length = 0) (w : World) (hrow : Row w ao zs) :
    Calls Yba.prog 5 #[.int .i64 p, .int .i64 n, .int .i64 choice, .slice ao zs.length zs.length] w fun e w' => ∃ a c, e = .returned (.agg #[.int .i64 p, .int .i64 ((R : Int) + 1), .slice a (zs ++ recvs p s (n - 1)).length c]) ∧ Row w' a (zs ++ recvs p s (n - 1)) ∧ Below w.heap.size w w' := by
  have hw := sets_wrap n hn
  have hS2 := sets_bound n hn
  have hS1 : 1 ≤ 2 ^ (n - 1) := Nat.one_le_two_pow
  obtain ⟨S, hS⟩ : ∃ S, S = 2 ^ (n - 1) := ⟨_, rfl⟩
  rw [← hS] at hw hS2 hS1 hch hs
  have hq := tdiv_nat choice S R s hch hs
  have hr := tmod_nat choice S R s hch hs
  have hq2 := ediv_nat choice S R s hch hs
  have hr2 := emod_nat choice S R s hch hs
  have hR : R ≤ choice := by
    rw [hch]
    exact Nat.le_trans (Nat.le_mul_of_pos_right R hS1) (Nat.le_add_right _ _)
  obtain ⟨i0, hi, hz0, hz1, hz2⟩ := info_parts Yba.info3
  have HS := hide hS
  have HC := hide hch
  have HROW := hide hrow
  have HN := hide hnone
  clear hS hch hrow hnone
  go_enter Yba.func5, Yba.ntmps5
  go_wp2
  clear hq hr hq2 hr2 hw
  go_loopw [11, 12] (fun t i wr => ∃ (k : Nat) (v : Value), k ≤ n ∧ i = .int .i64 ((k : Int) + 1) ∧ t = .int .i64 ((s / 2 ^ cnt p k : Nat) : Int) ∧
      wr.heap[w.heap.size + 1]? = some (.cells #[.int .i64 p, .int .i64 ((R : Int) + 1), v] 26 (0, 0)) ∧ wr.heap[w.heap.size]? = some (.cells #[.int .i64 0, .int .i64 0, .slice none 0 0] 26 (0, 0)) ∧
      Recv w.heap.size wr ao zs (recvs p s (cnt p k)) v ∧ Below w.heap.size w wr) (fun _ i _ => n + 1 - (intOf i).toNat)
  case atStart =>
    refine ⟨0, .slice ao zs.length zs.length, Nat.zero_le _, rfl, ?_, heap_alloc2_new w _ _, heap_alloc2_old w _ _, .inl ⟨?_, rfl⟩, ((Below.refl _ _).alloc (Nat.le_refl _) _).alloc (by simp) _⟩
    · have : cnt p 0 = 0 := by unfold cnt; split <;> rfl
      rw [this]; simp
    · have : cnt p 0 = 0 := by unfold cnt; split <;> rfl
      rw [this]; rfl
  case round =>
    obtain ⟨k, v, hk, rfl, rfl, hcb, hrb, hrv, hb⟩ := hrel
    have hT : s / 2 ^ cnt p k < 9223372036854775808 := Nat.lt_of_le_of_lt (Nat.div_le_self _ _) (by omega)
    obtain ⟨T, hTe⟩ : ∃ T, T = s / 2 ^ cnt p k := ⟨_, rfl⟩
    rw [← hTe] at hT ⊢
    have hand := i64_and_one T hT
    have HT := hide hTe
    have HCB := hide hcb
    have HRB := hide hrb
    have HRV := hide hrv
    clear hTe hcb hrb hrv
    by_cases hlt : k < n
    · have hql : (k : Int) + 1 ≤ (n : Int) := by omega
      by_cases hkp : k + 1 = p
      · have hbe : ((k : Int) + 1 == (p : Int)) = true := by simp; omega
        clear hand
        go_wp2
        go_roundw
        case rel => exact ⟨k + 1, v, by omega, by go_num, by rw [cnt_at p k hkp, ← HT.out], HCB.out, HRB.out, by rw [cnt_at p k hkp]; exact HRV.out, hb⟩
        case measure => simp [intOf]; omega
      · have hbe : ((k : Int) + 1 == (p : Int)) = false := by simp; omega
        by_cases hbit : T % 2 = 1
        · rw [hbit] at hand
          have hcv : wr.cell? ⟨w.heap.size + 1, 2, none⟩ = some v := by rw [cell_of_row wr _ 2 _ 26 (0, 0) HCB.out]; rfl
          have hsz := hb.size
          have hcl : w.heap.size + 1 < wr.heap.size := (Array.getElem?_eq_some_iff.1 HCB.out).1
          have hq1 : recvs p s (cnt p (k + 1)) = recvs p s (cnt p k) ++ [(k : Int) + 1] := by
            rw [cnt_succ p k hp hkp, recvs_hit p s (cnt p k) (by rw [← HT.out]; exact hbit), recv_cnt p k hp hkp]; rfl
          have HQ := hide hq1
          have hl := recvs_length p s (cnt p k)
          have hcl2 := cnt_le p k
          clear hq1
          rcases HRV.out with ⟨hl0, rfl⟩ | ⟨g, c, rfl, ho⟩
          · have HL0 := hide hl0
            clear hl0
            go_wp2_with (at_builtin; refine wpList_append_grows _ rfl _ _ 24 rfl 3 i0 (.int .i64 0) 1 8 Yba.underlying24 hi hz0 hz1 hz2 rfl (by decide) ao zs.length zs.length (zs.map (Value.int .i64)) rfl (fun h => ⟨HN.out h, HN.out h⟩) (by simp) (row_cells HROW.out hb) ⟨wr.heap.size, 0, none⟩ 1 1 [.int .i64 ((k : Int) + 1)] rfl rfl (cell_one_new _ _ _) (ones_one _) (by omega) (by unfold maxLen; omega) (by omega) ?_)
            intro v' w1 ho1 hg1
            obtain ⟨g, c, rfl, hc1, hf1, hcb1, hrb1, hb1, ho2⟩ := recv_step (l := []) (row := none) rfl HCB.out HRB.out (by omega) nofun nofun (by omega) nofun hb (by omega) (owns_le (by simpa using ho1) (by first | omega | (simp; omega))) hg1
            have HCB1 := hide hcb1
            have HRB1 := hide hrb1
            have HO2 := hide ho2
            clear ho1 hg1 hcb1 hrb1 ho2 hcv hi hz0 hz1 hz2 hl hcl2 hcl
            go_wp2
            go_roundw
            case rel => exact ⟨k + 1, _, by omega, by go_num, half_val (cnt_succ p k hp hkp) HT.out, HCB1.out, HRB1.out, .inr ⟨g, c, by rw [HQ.out, HL0.out], by rw [HQ.out, HL0.out]; exact HO2.out⟩, hb1⟩
            case measure => simp [intOf]; omega
          · go_wp2_with (at_builtin; refine wpList_append_own _ rfl _ _ 24 rfl w.heap.size 3 i0 (.int .i64 0) 1 8 Yba.underlying24 hi hz0 hz1 hz2 rfl (by decide) _ _ _ rfl (ho.alloc _) ⟨wr.heap.size, 0, none⟩ 1 1 [.int .i64 ((k : Int) + 1)] rfl rfl (cell_one_new _ _ _) (ones_one _) (by unfold maxLen; omega) (by omega) (by simp; omega) ?_)
            intro v' w1 ho1 hg1 _
            obtain ⟨g', c', rfl, hc1, hf1, hcb1, hrb1, hb1, ho2⟩ := recv_step rfl HCB.out HRB.out (by omega) (by simp [Value.ownBlock]; exact other_block ho HCB.out) (by simp [Value.ownBlock]; exact other_block ho HRB.out) (by omega) (fun k' e => by simp [Value.ownBlock] at e; rw [← e]; exact (ho.lt g rfl).1) hb (by omega) (l := recvs p s (cnt p k)) (q := (k : Int) + 1) (zs := zs) (by simpa using ho1) hg1
            rw [List.length_append, List.length_singleton] at hcb1 hrb1 hb1 ho2
            have HCB1 := hide hcb1
            have HRB1 := hide hrb1
            have HO2 := hide ho2
            clear ho1 hg1 hcb1 hrb1 ho2 hcv hi hz0 hz1 hz2 hl hcl2 hcl ho
            go_wp2
            go_roundw
            case rel => exact ⟨k + 1, _, by omega, by go_num, half_val (cnt_succ p k hp hkp) HT.out, HCB1.out, HRB1.out, .inr ⟨g', c', by rw [HQ.out, List.length_append, List.length_singleton], by rw [HQ.out, List.length_append, List.length_singleton]; exact HO2.out⟩, hb1⟩
            case measure => simp [intOf]; omega
        · have h0 : T % 2 = 0 := by omega
          rw [h0] at hand
          go_wp2
          go_roundw
          case rel => exact ⟨k + 1, v, by omega, by go_num, half_val (cnt_succ p k hp hkp) HT.out, HCB.out, HRB.out, by rw [cnt_succ p k hp hkp, recvs_miss p s (cnt p k) (by rw [← HT.out]; exact hbit)]; exact HRV.out, hb⟩
          case measure => simp [intOf]; omega
    · obtain rfl : k = n := by omega
      obtain ⟨a, c, rfl, hrw⟩ : ∃ a c, v = .slice a (zs.length + (recvs p s (cnt p k)).length) c ∧ Row wr a (zs ++ recvs p s (cnt p k)) ∧ ∀ j, j < (zs ++ recvs p s (cnt p k)).length → ∀ g, a = some ⟨g, 0, none⟩ → g ≠ w.heap.size := by
        rcases HRV.out with ⟨hl0, rfl⟩ | ⟨g, c, rfl, ho⟩
        · refine ⟨ao, zs.length, by rw [hl0]; rfl, by rw [hl0, List.append_nil]; exact HROW.out.below hb, fun j hj g hg => ?_⟩
          rw [hl0, List.append_nil] at hj
          obtain ⟨g', h1, h2, _⟩ := HROW.out j hj
          rw [hg] at h1
          simp at h1
          omega
        · refine ⟨_, c, rfl, owned_row (by rw [List.length_append]; exact ho), fun j _ g' hg => ?_⟩
          simp at hg
          subst hg
          exact (other_block ho HRB.out).symm
      have HRW := hide hrw
      clear hrw
      have hc0 : wr.cell? ⟨w.heap.size + 1, 0, none⟩ = some (.int .i64 p) := by rw [cell_of_row wr _ 0 _ 26 (0, 0) HCB.out]; rfl
      have hc1 : wr.cell? ⟨w.heap.size + 1, 1, none⟩ = some (.int .i64 ((R : Int) + 1)) := by rw [cell_of_row wr _ 1 _ 26 (0, 0) HCB.out]; rfl
      have hc2 : wr.cell? ⟨w.heap.size + 1, 2, none⟩ = some (.slice a (zs.length + (recvs p s (cnt p k)).length) c) := by rw [cell_of_row wr _ 2 _ 26 (0, 0) HCB.out]; rfl
      have hd0 : wr.cell? ⟨w.heap.size, 0, none⟩ = some (.int .i64 0) := by rw [cell_of_row wr _ 0 _ 26 (0, 0) HRB.out]; rfl
      have hd1 : wr.cell? ⟨w.heap.size, 1, none⟩ = some (.int .i64 0) := by rw [cell_of_row wr _ 1 _ 26 (0, 0) HRB.out]; rfl
      have hd2 : wr.cell? ⟨w.heap.size, 2, none⟩ = some (.slice none 0 0) := by rw [cell_of_row wr _ 2 _ 26 (0, 0) HRB.out]; rfl
      have he0 := frozen_of_row wr w.heap.size 0 _ 26 HRB.out
      have he1 := frozen_of_row wr w.heap.size 1 _ 26 HRB.out
      have he2 := frozen_of_row wr w.heap.size 2 _ 26 HRB.out
      clear hi hz0 hz1 hz2
      have hce := cnt_end p k hpn
      rw [hce] at HRW hc2
      go_wp2
      refine bodyPost_ret (v := .agg #[.int .i64 p, .int .i64 ((R : Int) + 1), .slice a (zs.length + (recvs p s (k - 1)).length) c]) (by simp [results, Yba.results5, go_sem, hd0, hd1, hd2]) rfl ⟨a, c, by rw [List.length_append], ?_, ((hb.setCell (by simp) _).setCell (by simp) _).setCell (by simp) _⟩
      exact row_set (row_set (row_set HRW.out.1 HRW.out.2) HRW.out.2) HRW.out.2
end Go.Proofs.Ybulkdfmg
