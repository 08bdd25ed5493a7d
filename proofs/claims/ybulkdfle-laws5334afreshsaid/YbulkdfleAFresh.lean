/- The walk of LawS5334AFresh. -/
import Derived.Test.YbulkdfleAExact
import Derived.Lib.LazyBuf
namespace Go.Proofs.Ybulkdfle
open Go.ChangeShapes Go.WideShapes Go.ChangeAt Go.RowKit

attribute [local go_sem ↓] to_bd36 to_bd38 to_bd43 to_al38 to_al43 to_ld38 to_ld43 to_ld23 to_st38 to_st43 to_bs40 to_nq38
attribute [local go_sem] run_bd36 run_bd38 run_bd38_zero run_bd43 run_al38 run_al43 run_st38_new run_st43_new run_ld38 run_ld43 run_ld23 run_nq38 run_bs40
attribute [local go_sem] aggAt_alloc aggAt_drew aggAt_drewN aggAt_new ivC_size listC_size Option.elim_some

/-- What the rest of the law leans on, in a world wq: the first item's precision, f, the list, its rest, what came in. -/
structure Facts (w w1 w2 wq : World) (x : It) (a ra : Option Addr) (len cap rc : Nat) (f : Nat → It) : Prop where
  s1 : w.heap.size < w1.heap.size
  s2 : w1.heap.size < w2.heap.size
  size : w2.heap.size < wq.heap.size
  prec : wq.cell? ⟨w.heap.size, 0, none⟩ = some (.int .u8 x.p)
  first : aggAt wq 40 w1.heap.size 0 = some (.agg (ivC x))
  list : wq.heap[w2.heap.size]? = some (.cells (listC x (.slice ra len rc)) 43 (0, 0))
  row : ∀ j, j < len → ∃ g, ra = some ⟨g, 0, none⟩ ∧ g < w2.heap.size ∧ aggAt wq 40 g (j * 40) = some (.agg (ivC (f j)))
  items : IsItems wq a len cap f
  below : Below w.heap.size w wq

theorem Facts.step {w w1 w2 wq wq' : World} {x : It} {a ra : Option Addr} {len cap rc : Nat} {f : Nat → It} (h : Facts w w1 w2 wq x a ra len cap rc f) (hw : IsItems w a len cap f) (hb : Below (w2.heap.size + 1) wq wq') : Facts w w1 w2 wq' x a ra len cap rc f :=
  have hb' : Below w.heap.size w wq' := h.below.trans (hb.mono (by have := h.s1; have := h.s2; omega))
  { s1 := h.s1, s2 := h.s2
    size := Nat.lt_of_lt_of_le h.size hb.size
    prec := by rw [hb.cell (show w.heap.size < w2.heap.size + 1 by have := h.s1; have := h.s2; omega)]; exact h.prec
    first := by rw [aggAt_below hb (by have := h.s2; omega)]; exact h.first
    list := (hb.block _ (by omega)).trans h.list
    row := fun j hj => by
      obtain ⟨g, h1, h2, h3⟩ := h.row j hj
      exact ⟨g, h1, h2, by rw [aggAt_below hb (by omega)]; exact h3⟩
    items := hw.below hb'
    below := hb' }

/-- The world behind the first call of Items. -/
theorem facts_start {w w1 w2 w3 : World} {x : It} {a ra : Option Addr} {len cap rc : Nat} {f : Nat → It} (hw : IsItems w a len cap f) (s1 : w.heap.size < w1.heap.size) (s2 : w1.heap.size < w2.heap.size)
    (c2 : w2.cell? ⟨w.heap.size, 0, none⟩ = some (.int .u8 x.p)) (a2 : aggAt w2 40 w1.heap.size 0 = some (.agg (ivC x))) (hrow : ∀ j, j < len → ∃ g, ra = some ⟨g, 0, none⟩ ∧ g < w2.heap.size ∧ aggAt w2 40 g (j * 40) = some (.agg (ivC (f j))))
    (B2 : Below w.heap.size w w2) (hb3 : Below (w2.alloc (.cells (listC x (.slice ra len rc)) 43)).heap.size (w2.alloc (.cells (listC x (.slice ra len rc)) 43)) w3) : Facts w w1 w2 w3 x a ra len cap rc f := by
  have hs : (w2.alloc (.cells (listC x (.slice ra len rc)) 43)).heap.size = w2.heap.size + 1 := by simp
  have B3 : Below w.heap.size w w3 := (B2.alloc (by omega) _).trans (hb3.mono (by simp; omega))
  exact {
    s1 := s1, s2 := s2
    size := by have := hb3.size; omega
    prec := by rw [hb3.cell (by show w.heap.size < _; omega), World.cell?_alloc_lt _ _ _ (by show w.heap.size < _; omega)]; exact c2
    first := by rw [aggAt_below hb3 (by omega), aggAt_alloc _ s2]; exact a2
    list := (hb3.block _ (by omega)).trans (heap_alloc_new w2 _)
    row := fun j hj => by
      obtain ⟨g, h1, h2, h3⟩ := hrow j hj
      exact ⟨g, h1, h2, by rw [aggAt_below hb3 (by omega), aggAt_alloc _ h2]; exact h3⟩
    items := hw.below B3
    below := B3 }

theorem Facts.agg40 {w w1 w2 wq : World} {x : It} {a ra : Option Addr} {len cap rc : Nat} {f : Nat → It} (h : Facts w w1 w2 wq x a ra len cap rc f) : aggAt wq 40 w2.heap.size 0 = some (.agg (ivC x)) := by
  rw [aggAt_of_block h.list (by rw [listC_size]; omega), listC_first]
theorem Facts.agg41 {w w1 w2 wq : World} {x : It} {a ra : Option Addr} {len cap rc : Nat} {f : Nat → It} (h : Facts w w1 w2 wq x a ra len cap rc f) : aggAt wq 41 w2.heap.size 0 = some (.agg (listC x (.slice ra len rc))) := by
  rw [aggAt_of_block h.list (by rw [listC_size]; omega)]
  have : (listC x (.slice ra len rc)).extract 0 (0 + 41) = listC x (.slice ra len rc) := by rw [Nat.zero_add, ← listC_size x (.slice ra len rc), Array.extract_size]
  rw [this]

theorem run_st38_mid (w : World) (b o : Nat) (ht : w.there b o 40) : (st38 (.pointer (some ⟨b, o, none⟩)) (.agg zero38)).run Yba.prog w = .ok () (w.setCells b o zero38.toList) :=
  run_storeAt_mid w b o 38 zero38 ht size38 (ivC_one _)

theorem owned_there {w : World} {B g n c : Nat} {f : Nat → It} (h : w.ownsRow B 38 40 (.slice (some ⟨g, 0, none⟩) n c) n (rowL f n)) : w.there g 0 (n * 40) := fun j hj => by
  rw [Nat.zero_add]
  refine ⟨?_, h.frozenAt j⟩
  rw [h.cellAt j hj, List.getElem?_eq_getElem (by rw [rowL_length]; exact hj)]
  rfl
theorem there_part {w : World} {g N o : Nat} (h : w.there g 0 N) (ho : o + 40 ≤ N) : w.there g o 40 := fun j hj => by
  have := h (o + j) (by omega)
  rwa [Nat.zero_add] at this

set_option maxHeartbeats 2000000 in
theorem fresh_none (x : It) (a : Option Addr) (len cap : Nat) (f : Nat → It) (hl : len ≤ 1024) (hp : x.p = 0) (w : World) (h : IsItems w a len cap f) :
    Calls Yba.prog 4 #[.agg #[.int .u8 x.p, .int .i32 x.s, .int .u8 x.q, .int .i32 x.t], .slice a len cap] w fun e w' => e = .returned (.bool true) ∧ Below w.heap.size w w' := by
  have heq := fun wx => Lib.run_eql_slice_nil (P := Yba.prog) wx 40 38 none 0 0 0 0 Yba.underlying40
  have HP := hide hp
  have HI := hide h
  clear hp h
  go_enter Yba.func4, Yba.ntmps4
  go_wp2_with fail
  refine (iv_any x _).mono ?_
  rintro e w1 ⟨rfl, hb1⟩
  have s1 : w.heap.size < w1.heap.size := by have := hb1.size; simp at this; omega
  have c1 : w1.cell? ⟨w.heap.size, 0, none⟩ = some (.int .u8 x.p) := by rw [hb1.cell (by simp)]; simp [go_sem]
  have B1 : Below w.heap.size w w1 := ((Below.refl _ w).alloc (Nat.le_refl _) _).trans (hb1.mono (by simp))
  clear hb1
  go_wp2_with fail
  have B1' : Below w.heap.size w (w1.alloc (.cells (ivC x) 38)) := B1.alloc (by omega) _
  refine (rest_any a len cap f hl _ (HI.out.below B1')).mono ?_
  rintro e w2 ⟨ra, rc, rfl, hrow, hb2⟩
  have s2 : w1.heap.size < w2.heap.size := by have := hb2.size; simp at this; omega
  have c2 : w2.cell? ⟨w.heap.size, 0, none⟩ = some (.int .u8 x.p) := by rw [hb2.cell (by simp; omega)]; simpa [go_sem, s1] using c1
  have a2 : aggAt w2 40 w1.heap.size 0 = some (.agg (ivC x)) := by rw [aggAt_below hb2 (by simp)]; exact aggAt_new rfl (ivC_size x)
  have B2 : Below w.heap.size w w2 := B1'.trans (hb2.mono (by simp; omega))
  have HROW := hide hrow
  clear hrow hb2 B1 B1' c1
  go_wp2_with fail
  have hr3 : ∀ j, j < len → ∃ g, ra = some ⟨g, 0, none⟩ ∧ g < (w2.alloc (.cells (listC x (.slice ra len rc)) 43)).heap.size ∧ aggAt (w2.alloc (.cells (listC x (.slice ra len rc)) 43)) 40 g (j * 40) = some (.agg (ivC (f j))) := fun j hj => by
    obtain ⟨g, h1, h2, h3⟩ := HROW.out j hj
    exact ⟨g, h1, by simp; omega, by rw [aggAt_alloc _ h2]; exact h3⟩
  refine (items_none ra len rc hl x f HP.out _ hr3).mono ?_
  rintro e w3 ⟨rfl, hb3⟩
  have FQ : Facts w w1 w2 w3 x a ra len cap rc f := facts_start HI.out s1 s2 c2 a2 HROW.out B2 hb3
  clear hr3 hb3 B2 c2 a2 HROW
  go_wp2
  refine wp_loop_rounds 1 ?_
  rw [rounds_succ]
  have m1 := FQ.first
  have m2 := FQ.agg40
  have HFQ := hide FQ
  clear FQ
  go_wp2
  go_loopw [10] (fun i wr => ∃ k : Nat, k ≤ len ∧ i = .int .i64 k ∧ Facts w w1 w2 wr x a ra len cap rc f) (fun i _ => len - (intOf i).toNat)
  case atStart => exact ⟨0, Nat.zero_le _, rfl, HFQ.out⟩
  case round =>
    clear m1 m2 HFQ
    obtain ⟨k, hk, rfl, FR⟩ := hrel
    by_cases hlt : k < len
    · obtain ⟨rg, rfl, hrg, arg⟩ := FR.row k hlt
      obtain ⟨b, off, rfl, hbl, ab⟩ := FR.items.at k hlt
      have z2 : rg < wr.heap.size := Nat.lt_trans hrg FR.size
      have HFR := hide FR
      have hlt' : (k : Int) < (len : Int) := by omega
      clear FR hrg
      go_wp2_with fail
      go_region_with (go_at_call 6; refine (iv_any (f k) _).mono ?_; rintro e w' ⟨rfl, hb4⟩; have g2 := (aggAt_below (n := 40) (o := k * 40) hb4 z2).trans arg; have g3 := (aggAt_below (n := 4) (o := off + k * 4) hb4 hbl).trans ab)
      all_goals
        have FR2 := HFR.out.step HI.out ((below_drewN (Below.refl _ _) 1).trans (hb4.mono (show w2.heap.size + 1 ≤ wr.heap.size from HFR.out.size)))
        have HFR2 := hide FR2
        clear g2 g3 hb4 HFR FR2 z2 arg ab hbl
        go_wp2
        go_roundw
        case rel => exact ⟨k + 1, by omega, by go_num, HFR2.out⟩
        case measure => simp [intOf]; omega
    · have m3 := FR.agg41
      have m4 := FR.prec
      have HFR := hide FR
      clear FR
      go_wp2_with fail
      have hr5 : ∀ j, j < len → ∃ g, ra = some ⟨g, 0, none⟩ ∧ g < wr.heap.size ∧ aggAt wr 40 g (j * 40) = some (.agg (ivC (f j))) := fun j hj => by
        obtain ⟨g, h1, h2, h3⟩ := HFR.out.row j hj
        exact ⟨g, h1, Nat.lt_trans h2 HFR.out.size, h3⟩
      refine (items_none ra len rc hl x f HP.out _ hr5).mono ?_
      rintro e w6 ⟨rfl, hb6⟩
      have B6 : Below w.heap.size w w6 := HFR.out.below.trans (hb6.mono HFR.out.below.size)
      have c6 : w6.cell? ⟨w.heap.size, 0, none⟩ = some (.int .u8 0) := by rw [hb6.cell (show w.heap.size < wr.heap.size by have := HFR.out.s1; have := HFR.out.s2; have := HFR.out.size; omega), m4, HP.out]
      clear hr5 m3 m4 HFR hb6
      go_wp2
      go_ret
      exact ⟨rfl, B6⟩

set_option maxHeartbeats 4000000 in
theorem fresh_all (x : It) (a : Option Addr) (len cap : Nat) (f : Nat → It) (hl : len ≤ 1024) (hp : x.p ≠ 0) (w : World) (h : IsItems w a len cap f) :
    Calls Yba.prog 4 #[.agg #[.int .u8 x.p, .int .i32 x.s, .int .u8 x.q, .int .i32 x.t], .slice a len cap] w fun e w' => e = .returned (.bool true) ∧ Below w.heap.size w w' := by
  have hpe : (x.p == 0) = false := by simpa using hp
  have hle : ((len : Int) + 1 != 1 + (len : Int)) = false := by simp; omega
  have HP := hide hp
  have HI := hide h
  clear hp h
  go_enter Yba.func4, Yba.ntmps4
  go_wp2_with fail
  refine (iv_any x _).mono ?_
  rintro e w1 ⟨rfl, hb1⟩
  have s1 : w.heap.size < w1.heap.size := by have := hb1.size; simp at this; omega
  have c1 : w1.cell? ⟨w.heap.size, 0, none⟩ = some (.int .u8 x.p) := by rw [hb1.cell (by simp)]; simp [go_sem]
  have B1 : Below w.heap.size w w1 := ((Below.refl _ w).alloc (Nat.le_refl _) _).trans (hb1.mono (by simp))
  clear hb1
  go_wp2_with fail
  have B1' : Below w.heap.size w (w1.alloc (.cells (ivC x) 38)) := B1.alloc (by omega) _
  refine (rest_any a len cap f hl _ (HI.out.below B1')).mono ?_
  rintro e w2 ⟨ra, rc, rfl, hrow, hb2⟩
  have s2 : w1.heap.size < w2.heap.size := by have := hb2.size; simp at this; omega
  have c2 : w2.cell? ⟨w.heap.size, 0, none⟩ = some (.int .u8 x.p) := by rw [hb2.cell (by simp; omega)]; simpa [go_sem, s1] using c1
  have a2 : aggAt w2 40 w1.heap.size 0 = some (.agg (ivC x)) := by rw [aggAt_below hb2 (by simp)]; exact aggAt_new rfl (ivC_size x)
  have B2 : Below w.heap.size w w2 := B1'.trans (hb2.mono (by simp; omega))
  have HROW := hide hrow
  clear hrow hb2 B1 B1' c1
  go_wp2_with fail
  have hr3 : ∀ j, j < len → ∃ g, ra = some ⟨g, 0, none⟩ ∧ g < (w2.alloc (.cells (listC x (.slice ra len rc)) 43)).heap.size ∧ aggAt (w2.alloc (.cells (listC x (.slice ra len rc)) 43)) 40 g (j * 40) = some (.agg (ivC (f j))) := fun j hj => by
    obtain ⟨g, h1, h2, h3⟩ := HROW.out j hj
    exact ⟨g, h1, by simp; omega, by rw [aggAt_alloc _ h2]; exact h3⟩
  refine (items_all ra len rc hl x f HP.out _ hr3).mono ?_
  rintro e w3 ⟨g, gc, rfl, hgl, hgs, ho, hb3⟩
  have F3 : Facts w w1 w2 w3 x a ra len cap rc f := facts_start HI.out s1 s2 c2 a2 HROW.out B2 hb3
  have hth : w3.there g 0 ((len + 1) * 40) := owned_there ho
  have hgl' : w2.heap.size + 1 ≤ g := by simpa using hgl
  have HF3 := hide F3
  have HTH := hide hth
  clear hr3 hb3 B2 c2 a2 HROW hgl ho F3 hth
  go_wp2
  go_loopw [9] (fun i wr => ∃ k : Nat, k ≤ len + 1 ∧ i = .int .i64 k ∧ wr.there g 0 ((len + 1) * 40) ∧ Facts w w1 w2 wr x a ra len cap rc f) (fun i _ => len + 1 - (intOf i).toNat)
  case atStart => exact ⟨0, Nat.zero_le _, rfl, HTH.out, HF3.out⟩
  case round =>
    obtain ⟨k0, hk0, rfl, ht, FQ⟩ := hrel
    clear HTH HF3
    by_cases hlt0 : k0 < len + 1
    · have hlt' : (k0 : Int) < (len : Int) + 1 := by omega
      have ht0 := there_part ht (o := k0 * 40) (by omega)
      have FQ2 := FQ.step HI.out (below_setCells hgl' zero38.toList (k0 * 40) wr (Below.refl _ _))
      have ht2 := World.there_setCells ht g (k0 * 40) zero38.toList
      have HFQ2 := hide FQ2
      have HT2 := hide ht2
      have hst := run_st38_mid wr g (k0 * 40) ht0
      clear FQ FQ2 ht ht2 ht0
      go_wp2
      go_roundw
      case rel => exact ⟨k0 + 1, by omega, by go_num, HT2.out, HFQ2.out⟩
      case measure => simp [intOf]; omega
    · clear ht
      have m1 := FQ.first
      have m2 := FQ.agg40
      have HFQ := hide FQ
      clear FQ
      go_wp2
      go_loopw [10] (fun i wr => ∃ k : Nat, k ≤ len ∧ i = .int .i64 k ∧ Facts w w1 w2 wr x a ra len cap rc f) (fun i _ => len - (intOf i).toNat)
      case atStart => exact ⟨0, Nat.zero_le _, rfl, HFQ.out⟩
      case round =>
        clear m1 m2 HFQ
        obtain ⟨k, hk, rfl, FR⟩ := hrel
        by_cases hlt : k < len
        · obtain ⟨rg, rfl, hrg, arg⟩ := FR.row k hlt
          obtain ⟨b, off, rfl, hbl, ab⟩ := FR.items.at k hlt
          have z2 : rg < wr.heap.size := Nat.lt_trans hrg FR.size
          have HFR := hide FR
          have hlt' : (k : Int) < (len : Int) := by omega
          clear FR hrg
          go_wp2_with fail
          go_region_with (go_at_call 6; refine (iv_any (f k) _).mono ?_; rintro e w' ⟨rfl, hb4⟩; have g2 := (aggAt_below (n := 40) (o := k * 40) hb4 z2).trans arg; have g3 := (aggAt_below (n := 4) (o := off + k * 4) hb4 hbl).trans ab)
          all_goals
            have FR2 := HFR.out.step HI.out ((below_drewN (Below.refl _ _) 1).trans (hb4.mono (show w2.heap.size + 1 ≤ wr.heap.size from HFR.out.size)))
            have HFR2 := hide FR2
            clear g2 g3 hb4 HFR FR2 z2 arg ab hbl
            go_wp2
            go_roundw
            case rel => exact ⟨k + 1, by omega, by go_num, HFR2.out⟩
            case measure => simp [intOf]; omega
        · have m3 := FR.agg41
          have m4 := FR.prec
          have HFR := hide FR
          clear FR
          go_wp2_with fail
          have hr5 : ∀ j, j < len → ∃ g, ra = some ⟨g, 0, none⟩ ∧ g < wr.heap.size ∧ aggAt wr 40 g (j * 40) = some (.agg (ivC (f j))) := fun j hj => by
            obtain ⟨g, h1, h2, h3⟩ := HFR.out.row j hj
            exact ⟨g, h1, Nat.lt_trans h2 HFR.out.size, h3⟩
          refine (items_all ra len rc hl x f HP.out _ hr5).mono ?_
          rintro e w6 ⟨g6, gc6, rfl, hg6, hgs6, ho6, hb6⟩
          have F6 := HFR.out.step HI.out (hb6.mono (show w2.heap.size + 1 ≤ wr.heap.size from HFR.out.size))
          have HO6 := hide ho6
          have m5 := F6.prec
          have m6 := F6.first
          have m7 : aggAt w6 40 g6 0 = some (.agg (ivC x)) := by have := owned_at ho6 0 (by omega); rw [Nat.zero_mul] at this; exact this
          have HF6 := hide F6
          clear hr5 m3 m4 HFR hb6 ho6 hg6 F6
          go_wp2_with fail
          go_quiet (fail)
          go_wp2
          go_loopw [12] (fun i wr => ∃ k : Nat, k ≤ len ∧ i = .int .i64 k ∧ Below w6.heap.size w6 wr) (fun i _ => len - (intOf i).toNat)
          case atStart => exact ⟨0, Nat.zero_le _, rfl, below_drewN (Below.refl _ _) _⟩
          case round =>
            clear m5 m6 m7
            obtain ⟨k3, hk3, rfl, hb7⟩ := hrel
            by_cases hlt3 : k3 < len
            · obtain ⟨b, off, rfl, hbl, ab⟩ := HF6.out.items.at k3 hlt3
              have ag := owned_at HO6.out (k3 + 1) (by omega)
              have ag' : aggAt wr 40 g6 ((k3 + 1) * 40) = some (.agg (ivC (f k3))) := by rw [aggAt_below hb7 hgs6]; exact ag
              have ab' : aggAt wr 4 b (off + k3 * 4) = some (.agg #[.int .u8 (f k3).p, .int .i32 (f k3).s, .int .u8 (f k3).q, .int .i32 (f k3).t]) := by rw [aggAt_below hb7 hbl]; exact ab
              have z1 : g6 < wr.heap.size := Nat.lt_of_lt_of_le hgs6 hb7.size
              have z3 : b < wr.heap.size := Nat.lt_of_lt_of_le hbl hb7.size
              have hlt' : (k3 : Int) < (len : Int) := by omega
              have hlt1 : (k3 : Int) + 1 < (len : Int) + 1 := by omega
              have hlt2 : (0 : Int) ≤ (k3 : Int) + 1 := by omega
              have hwr : IntKind.i64.wrap ((k3 : Int) + 1) = (k3 : Int) + 1 := wrap_small _ (by omega) (by omega)
              clear ag ab
              go_wp2_with fail
              go_region_with (go_at_call 6; refine (iv_any (f k3) _).mono ?_; rintro e w' ⟨rfl, hb4⟩; have g1 := (aggAt_below (n := 40) (o := (k3 + 1) * 40) hb4 z1).trans ag'; have g3 := (aggAt_below (n := 4) (o := off + k3 * 4) hb4 z3).trans ab')
              all_goals
                have hb8 : Below w6.heap.size w6 w' := hb7.drew.trans (hb4.mono hb7.size)
                clear g1 g3 ag' ab' z1 z3 hb4 hwr
                go_wp2
                go_roundw
                case rel => exact ⟨k3 + 1, by omega, by go_num, hb8⟩
                case measure => simp [intOf]; omega
            · clear HO6
              have B9 : Below w.heap.size w wr := HF6.out.below.trans (hb7.mono HF6.out.below.size)
              clear HF6
              go_wp2
              go_ret
              exact ⟨rfl, B9⟩
end Go.Proofs.Ybulkdfle
