/- The walk of LawS5334AExact. -/
import Derived.Test.YbulkdfleItems
import Derived.RegionTactic
import Derived.Deep.RegionWith
import Derived.Deep.QuietTactic
import Derived.BigQuiet
namespace Go.Proofs.Ybulkdfle
open Go.ChangeShapes Go.WideShapes Go.ChangeAt Go.RowKit

attribute [local go_sem ↓] to_bd36 to_bd38 to_bd43 to_al38 to_al43 to_ld38 to_ld43 to_ld23 to_st38 to_st43 to_bs40 to_nq38
attribute [local go_sem] run_bd36 run_bd38 run_bd38_zero run_bd43 run_al38 run_al43 run_st38_new run_st43_new run_ld38 run_ld43 run_ld23 run_nq38 run_bs40
attribute [local go_sem] aggAt_alloc aggAt_drew aggAt_drewN aggAt_new ivC_size listC_size Option.elim_some

/-- What the walk is told of the slice of items that came in. -/
def IsItems (w : World) (a : Option Addr) (len cap : Nat) (f : Nat → It) : Prop :=
  (a = none ∧ len = 0 ∧ cap = 0) ∨
  ∃ x, a = some x ∧ (0 < len → x.spot = none ∧ x.block < w.heap.size) ∧
    ∀ j, j < len → aggAt w 4 x.block (x.off + j * 4) = some (.agg #[.int .u8 (f j).p, .int .i32 (f j).s, .int .u8 (f j).q, .int .i32 (f j).t])

theorem IsItems.below {w w' : World} {a : Option Addr} {len cap : Nat} {f : Nat → It} (h : IsItems w a len cap f) (hb : Below w.heap.size w w') : IsItems w' a len cap f := by
  rcases h with h | ⟨x, rfl, h1, h2⟩
  · exact .inl h
  · exact .inr ⟨x, rfl, fun h => ⟨(h1 h).1, Nat.lt_of_lt_of_le (h1 h).2 hb.size⟩, fun j hj => by rw [aggAt_below hb (h1 (by omega)).2]; exact h2 j hj⟩

/-- The j-th item that came in. -/
theorem IsItems.at {w : World} {a : Option Addr} {len cap : Nat} {f : Nat → It} (h : IsItems w a len cap f) (j : Nat) (hj : j < len) :
    ∃ b off, a = some ⟨b, off, none⟩ ∧ b < w.heap.size ∧ aggAt w 4 b (off + j * 4) = some (.agg #[.int .u8 (f j).p, .int .i32 (f j).s, .int .u8 (f j).q, .int .i32 (f j).t]) := by
  rcases h with ⟨_, h, _⟩ | ⟨⟨b, off, spot⟩, rfl, h1, h2⟩
  · omega
  · obtain ⟨h3, h4⟩ := h1 (by omega)
    simp only at h3
    subst h3
    exact ⟨b, off, rfl, h4, h2 j hj⟩

theorem rest_any (a : Option Addr) (len cap : Nat) (f : Nat → It) (hl : len ≤ 1024) (w : World) (h : IsItems w a len cap f) :
    Calls Yba.prog 7 #[.slice a len cap] w fun e w' => ∃ ra rc, e = .returned (.slice ra len rc) ∧ (∀ j, j < len → ∃ g, ra = some ⟨g, 0, none⟩ ∧ g < w'.heap.size ∧ aggAt w' 40 g (j * 40) = some (.agg (ivC (f j)))) ∧ Below w.heap.size w w' := by
  rcases h with ⟨rfl, rfl, rfl⟩ | ⟨x, rfl, h1, h2⟩
  · refine (rest_nil w).mono ?_
    rintro e w' ⟨rfl, rfl⟩
    exact ⟨none, 0, rfl, fun j hj => by omega, Below.refl _ _⟩
  · refine (rest_row x len cap f hl w (fun h => (h1 h).1) h2 (fun h => (h1 h).2)).mono ?_
    rintro e w' ⟨rfl, ho, hb⟩
    refine ⟨_, len, rfl, fun j hj => ⟨w.heap.size, rfl, ?_, owned_at ho j hj⟩, hb⟩
    exact (ho.lt w.heap.size rfl).2

/-- All items: the first, then the rest. -/
def hd (x : It) (f : Nat → It) : Nat → It
  | 0 => x
  | j + 1 => f j

theorem items_none (a : Option Addr) (len c : Nat) (hl : len ≤ 1024) (x : It) (f : Nat → It) (hp : x.p = 0) (w : World)
    (hrow : ∀ j, j < len → ∃ g, a = some ⟨g, 0, none⟩ ∧ g < w.heap.size ∧ aggAt w 40 g (j * 40) = some (.agg (ivC (f j)))) :
    Calls Yba.prog 8 #[.agg (listC x (.slice a len c))] w fun e W' => e = .returned (.slice none 0 0) ∧ Below w.heap.size w W' := by
  have e : howMany (hd x f 0) len = 0 := if_pos hp
  refine ((callsIn_wide (n := 3)).1 (Items_in Fence.wide 3 trivial trivial trivial rfl (by omega) a len c hl (hd x f) w hrow)).mono ?_
  rintro _ W' ⟨v, rfl, _, hv, hb⟩
  rw [hv.2 e]
  exact ⟨rfl, hb⟩

theorem items_all (a : Option Addr) (len c : Nat) (hl : len ≤ 1024) (x : It) (f : Nat → It) (hp : x.p ≠ 0) (w : World)
    (hrow : ∀ j, j < len → ∃ g, a = some ⟨g, 0, none⟩ ∧ g < w.heap.size ∧ aggAt w 40 g (j * 40) = some (.agg (ivC (f j)))) :
    Calls Yba.prog 8 #[.agg (listC x (.slice a len c))] w fun e W' => ∃ g cap, e = .returned (.slice (some ⟨g, 0, none⟩) (len + 1) cap) ∧ w.heap.size ≤ g ∧ g < W'.heap.size ∧
      W'.ownsRow w.heap.size 38 40 (.slice (some ⟨g, 0, none⟩) (len + 1) cap) (len + 1) (rowL (hd x f) (len + 1)) ∧ Below w.heap.size w W' := by
  have e : howMany (hd x f 0) len = len + 1 := if_neg hp
  refine ((callsIn_wide (n := 3)).1 (Items_in Fence.wide 3 trivial trivial trivial rfl (by omega) a len c hl (hd x f) w hrow)).mono ?_
  rintro _ W' ⟨v, rfl, ho, hv, hb⟩
  rw [e] at ho
  obtain ⟨g, cap, rfl⟩ := ownsRow_succ ho
  have := ho.lt g rfl
  exact ⟨g, cap, rfl, this.1, this.2, ho, hb⟩

theorem walk_none (x : It) (a : Option Addr) (len cap : Nat) (f : Nat → It) (hl : len ≤ 1024) (hp : x.p = 0) (w : World) (h : IsItems w a len cap f) :
    Calls Yba.prog 3 #[.agg #[.int .u8 x.p, .int .i32 x.s, .int .u8 x.q, .int .i32 x.t], .slice a len cap] w fun e w' => e = .returned (.bool true) ∧ Below w.heap.size w w' := by
  have heq := fun wx => Lib.run_eql_slice_nil (P := Yba.prog) wx 40 38 none 0 0 0 0 Yba.underlying40
  have HP := hide hp
  have HI := hide h
  clear hp h
  go_enter Yba.func3, Yba.ntmps3
  go_wp2_with fail
  refine (iv_any x _).mono ?_
  rintro e w1 ⟨rfl, hb1⟩
  have s1 : w.heap.size < w1.heap.size := by have := hb1.size; simp at this; omega
  have c1 : w1.cell? ⟨w.heap.size, 0, none⟩ = some (.int .u8 x.p) := by rw [hb1.cell (by simp)]; simp [go_sem]
  have B1 : Below w.heap.size w w1 := ((Below.refl _ w).alloc (Nat.le_refl _) _).trans (hb1.mono (by simp))
  clear hb1
  go_wp2_with fail
  have B1' : Below w.heap.size w (w1.alloc (.cells (ivC x) 38)) := B1.alloc (by omega) _
  refine (rest_any a len cap f hl _ (HI.out.below B1')).mono ?_
  rintro e w2 ⟨ra, rc, rfl, hrow, hb2⟩
  have s2 : w1.heap.size < w2.heap.size := by have := hb2.size; simp at this; omega
  have c2 : w2.cell? ⟨w.heap.size, 0, none⟩ = some (.int .u8 x.p) := by rw [hb2.cell (by simp; omega)]; simpa [go_sem, s1] using c1
  have a2 : aggAt w2 40 w1.heap.size 0 = some (.agg (ivC x)) := by rw [aggAt_below hb2 (by simp)]; exact aggAt_new rfl (ivC_size x)
  have B2 : Below w.heap.size w w2 := B1'.trans (hb2.mono (by simp; omega))
  have HROW := hide hrow
  clear hrow hb2 B1 B1' c1
  go_wp2_with fail
  have hr3 : ∀ j, j < len → ∃ g, ra = some ⟨g, 0, none⟩ ∧ g < (w2.alloc (.cells (listC x (.slice ra len rc)) 43)).heap.size ∧ aggAt (w2.alloc (.cells (listC x (.slice ra len rc)) 43)) 40 g (j * 40) = some (.agg (ivC (f j))) := fun j hj => by
    obtain ⟨g, h1, h2, h3⟩ := HROW.out j hj
    exact ⟨g, h1, by simp; omega, by rw [aggAt_alloc _ h2]; exact h3⟩
  refine (items_none ra len rc hl x f HP.out _ hr3).mono ?_
  rintro e w3 ⟨rfl, hb3⟩
  clear hr3
  have c3 : w3.cell? ⟨w.heap.size, 0, none⟩ = some (.int .u8 0) := by rw [hb3.cell (by simp; omega)]; simpa [go_sem, show w.heap.size < w2.heap.size by omega, HP.out] using c2
  have B3 : Below w.heap.size w w3 := (B2.alloc (by omega) _).trans (hb3.mono (by simp; omega))
  clear hb3 B2 c2 a2 HROW
  go_wp2
  go_ret
  exact ⟨rfl, B3⟩

set_option maxHeartbeats 1000000 in
theorem walk_all (x : It) (a : Option Addr) (len cap : Nat) (f : Nat → It) (hl : len ≤ 1024) (hp : x.p ≠ 0) (w : World) (h : IsItems w a len cap f) :
    Calls Yba.prog 3 #[.agg #[.int .u8 x.p, .int .i32 x.s, .int .u8 x.q, .int .i32 x.t], .slice a len cap] w fun e w' => e = .returned (.bool true) ∧ Below w.heap.size w w' := by
  have hpe : (x.p == 0) = false := by simpa using hp
  have hle : ((len : Int) + 1 != 1 + (len : Int)) = false := by simp; omega
  have HP := hide hp
  have HI := hide h
  clear hp h
  go_enter Yba.func3, Yba.ntmps3
  go_wp2_with fail
  refine (iv_any x _).mono ?_
  rintro e w1 ⟨rfl, hb1⟩
  have s1 : w.heap.size < w1.heap.size := by have := hb1.size; simp at this; omega
  have c1 : w1.cell? ⟨w.heap.size, 0, none⟩ = some (.int .u8 x.p) := by rw [hb1.cell (by simp)]; simp [go_sem]
  have B1 : Below w.heap.size w w1 := ((Below.refl _ w).alloc (Nat.le_refl _) _).trans (hb1.mono (by simp))
  clear hb1
  go_wp2_with fail
  have B1' : Below w.heap.size w (w1.alloc (.cells (ivC x) 38)) := B1.alloc (by omega) _
  refine (rest_any a len cap f hl _ (HI.out.below B1')).mono ?_
  rintro e w2 ⟨ra, rc, rfl, hrow, hb2⟩
  have s2 : w1.heap.size < w2.heap.size := by have := hb2.size; simp at this; omega
  have c2 : w2.cell? ⟨w.heap.size, 0, none⟩ = some (.int .u8 x.p) := by rw [hb2.cell (by simp; omega)]; simpa [go_sem, s1] using c1
  have a2 : aggAt w2 40 w1.heap.size 0 = some (.agg (ivC x)) := by rw [aggAt_below hb2 (by simp)]; exact aggAt_new rfl (ivC_size x)
  have B2 : Below w.heap.size w w2 := B1'.trans (hb2.mono (by simp; omega))
  have HROW := hide hrow
  clear hrow hb2 B1 B1' c1
  go_wp2_with fail
  have hr3 : ∀ j, j < len → ∃ g, ra = some ⟨g, 0, none⟩ ∧ g < (w2.alloc (.cells (listC x (.slice ra len rc)) 43)).heap.size ∧ aggAt (w2.alloc (.cells (listC x (.slice ra len rc)) 43)) 40 g (j * 40) = some (.agg (ivC (f j))) := fun j hj => by
    obtain ⟨g, h1, h2, h3⟩ := HROW.out j hj
    exact ⟨g, h1, by simp; omega, by rw [aggAt_alloc _ h2]; exact h3⟩
  refine (items_all ra len rc hl x f HP.out _ hr3).mono ?_
  rintro e w3 ⟨g, gc, rfl, hgl, hgs, ho, hb3⟩
  have c3 : w3.cell? ⟨w.heap.size, 0, none⟩ = some (.int .u8 x.p) := by rw [hb3.cell (by simp; omega)]; simpa [go_sem, show w.heap.size < w2.heap.size by omega] using c2
  have a3 : aggAt w3 40 w1.heap.size 0 = some (.agg (ivC x)) := by rw [aggAt_below hb3 (by simp; omega), aggAt_alloc _ s2]; exact a2
  have B3 : Below w.heap.size w w3 := (B2.alloc (by omega) _).trans (hb3.mono (by simp; omega))
  have HO := hide ho
  have g0 : aggAt w3 40 g 0 = some (.agg (ivC x)) := by have := owned_at ho 0 (by omega); rw [Nat.zero_mul] at this; exact this
  have HR3 : Hid (∀ j, j < len → ∃ g, ra = some ⟨g, 0, none⟩ ∧ g < w3.heap.size ∧ aggAt w3 40 g (j * 40) = some (.agg (ivC (f j)))) := fun j hj => by
    obtain ⟨g, h1, h2, h3⟩ := hr3 j hj
    exact ⟨g, h1, Nat.lt_of_lt_of_le h2 hb3.size, by rw [aggAt_below hb3 h2]; exact h3⟩
  clear hb3 B2 c2 a2 HROW hr3 ho
  go_wp2
  go_quiet (fail)
  go_wp2
  go_loopw [9] (fun i wr => ∃ k : Nat, k ≤ len ∧ i = .int .i64 k ∧ Below w3.heap.size w3 wr) (fun i _ => len - (intOf i).toNat)
  case atStart => exact ⟨0, Nat.zero_le _, rfl, below_drewN (Below.refl _ _) _⟩
  case round =>
    obtain ⟨k, hk, rfl, hbr⟩ := hrel
    by_cases hlt : k < len
    · obtain ⟨rg, rfl, hrg, arg⟩ := HR3.out k hlt
      obtain ⟨b, off, rfl, hbl, ab⟩ := (HI.out.below B3).at k hlt
      have ag := owned_at HO.out (k + 1) (by omega)
      have ag' : aggAt wr 40 g ((k + 1) * 40) = some (.agg (ivC (f k))) := by rw [aggAt_below hbr hgs]; exact ag
      have arg' : aggAt wr 40 rg (k * 40) = some (.agg (ivC (f k))) := by rw [aggAt_below hbr hrg]; exact arg
      have ab' : aggAt wr 4 b (off + k * 4) = some (.agg #[.int .u8 (f k).p, .int .i32 (f k).s, .int .u8 (f k).q, .int .i32 (f k).t]) := by rw [aggAt_below hbr hbl]; exact ab
      have z1 : g < wr.heap.size := Nat.lt_of_lt_of_le hgs hbr.size
      have z2 : rg < wr.heap.size := Nat.lt_of_lt_of_le hrg hbr.size
      have z3 : b < wr.heap.size := Nat.lt_of_lt_of_le hbl hbr.size
      have hlt' : (k : Int) < (len : Int) := by omega
      have hlt1 : (k : Int) + 1 < (len : Int) + 1 := by omega
      have hlt2 : (0 : Int) ≤ (k : Int) + 1 := by omega
      have hwr : IntKind.i64.wrap ((k : Int) + 1) = (k : Int) + 1 := wrap_small _ (by omega) (by omega)
      clear ag arg ab a3 c3 g0 hgl
      go_wp2_with fail
      go_region_with (go_at_call 6; refine (iv_any (f k) _).mono ?_; rintro e w' ⟨rfl, hb4⟩; have g1 := (aggAt_below (n := 40) (o := (k + 1) * 40) hb4 z1).trans ag'; have g2 := (aggAt_below (n := 40) (o := k * 40) hb4 z2).trans arg'; have g3 := (aggAt_below (n := 4) (o := off + k * 4) hb4 z3).trans ab')
      all_goals
        have y1 : g < w'.heap.size := Nat.lt_of_lt_of_le z1 hb4.size
        have y2 : rg < w'.heap.size := Nat.lt_of_lt_of_le z2 hb4.size
        have y3 : b < w'.heap.size := Nat.lt_of_lt_of_le z3 hb4.size
        have hbr2 : Below w3.heap.size w3 w' := hbr.drew.trans (hb4.mono hbr.size)
        clear ag' arg' ab' z1 z2 z3 hb4
        go_wp2_with fail
        go_region_with (go_at_call 6; refine (iv_any (f k) _).mono ?_; rintro e w5 ⟨rfl, hb5⟩; have q1 := (aggAt_below (n := 40) (o := (k + 1) * 40) hb5 y1).trans g1; have q2 := (aggAt_below (n := 40) (o := k * 40) hb5 y2).trans g2; have q3 := (aggAt_below (n := 4) (o := off + k * 4) hb5 y3).trans g3)
        all_goals
          have hbr3 : Below w3.heap.size w3 w5 := hbr2.drew.trans (hb5.mono hbr2.size)
          clear g1 g2 g3 q1 q2 q3 y1 y2 y3 hb5 hbr2
          go_wp2
          go_roundw
          case rel => exact ⟨k + 1, by omega, by go_num, hbr3⟩
          case measure => simp [intOf]; omega
    · clear HO HR3 HI a3 c3 g0 hgl
      go_wp2
      go_ret
      exact ⟨rfl, B3.trans (hbr.mono B3.size)⟩
end Go.Proofs.Ybulkdfle
