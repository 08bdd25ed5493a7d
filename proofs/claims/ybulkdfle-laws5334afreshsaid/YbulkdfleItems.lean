/- (List).all, its closure, (List).Items. -/
import Derived.Test.YbulkdfleRest
import Derived.RangeFuncNested
import Derived.RangeFuncBound
import Derived.RangeFuncCalls
import Derived.RangeFuncLeaves
import Derived.Shelf.Abstract
import Derived.Shelf.RegionOpen
import Derived.OwnWalkIn
import Derived.TacticsInMore
import Derived.LoopNIn
import Derived.LoopIn
namespace Go.Proofs.Ybulkdfle
open Go.ChangeShapes Go.WideShapes Go.ChangeAt Go.RowKit Go.Shelf

attribute [local go_sem] Oper.semAt_some
attribute [local go_sem ↓] to_bd36 to_bd38 to_bd43 to_al38 to_al43 to_ld38 to_ld43 to_ld23 to_st38 to_st43 to_bs40 to_nq38
attribute [local go_sem] run_bd36 run_bd38 run_bd38_zero run_bd43 run_al38 run_al43 run_st38_new run_st43_new run_ld38 run_ld43 run_ld23 run_nq38 run_bs40
attribute [local go_sem] aggAt_alloc aggAt_drew aggAt_drewN aggAt_new ivC_size listC_size Option.elim_some

/-- What a round of the iterator keeps: all below n₀, and the box of the list. -/
def Kept (n₀ Bn : Nat) (W W' : World) : Prop := Below n₀ W W' ∧ W'.heap[Bn]? = W.heap[Bn]?

theorem Kept.step {n₀ Bn : Nat} {W wr W4 : World} {o : Obj} (h : Kept n₀ Bn W wr) (hn : n₀ ≤ W.heap.size) (hB : (W.heap[Bn]?).isSome = true) (h4 : Kept n₀ Bn (wr.alloc o) W4) : Kept n₀ Bn W W4 := by
  obtain ⟨ob, hob⟩ := Option.isSome_iff_exists.1 hB
  have hlt : Bn < wr.heap.size := Nat.lt_of_lt_of_le (Array.getElem?_eq_some_iff.1 hob).1 h.1.size
  exact ⟨(h.1.alloc (Nat.le_trans hn h.1.size) o).trans h4.1, (h4.2.trans (Below.heap_alloc wr o Bn hlt)).trans h.2⟩

/-- The items in their order, each with its place: the first k of them. -/
def upto (h : Nat → It) (k : Nat) : List (Int × It) := (List.range k).map fun (j : Nat) => ((j : Int), h j)
theorem upto_succ (h : Nat → It) (k : Nat) : upto h (k + 1) = upto h k ++ [((k : Int), h k)] := by simp [upto, List.range_succ]
theorem upto_length (h : Nat → It) (k : Nat) : (upto h k).length = k := by simp [upto]

theorem all_in (F : Fence) (n : Nat) (h10 : F.fn 10) (hro : F.round = none) (c : Array Value) (w : World) :
    CallsIn F n Yba.prog 10 #[.agg c] w fun e w' => e = .returned (.func (.func 11) #[] #[.pointer (some ⟨w.heap.size, 0, none⟩)]) ∧ w' = w.alloc (.cells c 43) := by
  refine callsIn_of_wp Yba.func10 rfl h10 ?_ hro
  simp only [Yba.ntmps10, List.size_toArray, List.length_cons, List.length_nil, Nat.reduceAdd, Nat.reduceSub, Array.replicate_succ, Array.replicate_zero, List.push_toArray, List.append_toArray, List.nil_append, List.cons_append]
  gi_wp2
  go_ret
  exact ⟨rfl, rfl⟩

/-- The first item's Start has no precision: nothing comes. -/
theorem all1_none (F : Fence) (n : Nat) (h11 : F.fn 11) (hro : F.round = none) (l Bn : Nat) (x : It) (v : Value) (hp : x.p = 0)
    (W : World) (hB : W.heap[Bn]? = some (.cells (listC x v) 43 (0, 0))) :
    CallsIn F n Yba.prog 11 #[.func (.yield l) #[] #[], .pointer (some ⟨Bn, 0, none⟩)] W fun e W' => e = .returned (.tuple #[]) ∧ W' = W := by
  have hc : W.cell? ⟨Bn, 8, none⟩ = some (.int .u8 0) := by rw [cell_of_row W Bn 8 _ 43 (0, 0) hB, listC_prec, hp]
  refine callsIn_of_wp Yba.func11 rfl h11 ?_ hro
  simp only [Yba.ntmps11, List.size_toArray, List.length_cons, List.length_nil, Nat.reduceAdd, Nat.reduceSub, Array.replicate_succ, Array.replicate_zero, List.push_toArray, List.append_toArray, List.nil_append, List.cons_append]
  gi_wp2
  refine ⟨fun _ h => (by cases h), ?_⟩
  gi_wp2
  refine bodyPost_ret (results_none rfl _ _ _) rfl ?_
  exact ⟨rfl, rfl⟩

/-- ALL ITEMS COME, in their order, each with its place: for every loop body that keeps what lay below n₀ and the list's box. -/
theorem all1_in (F : Fence) (n : Nat) (h11 : F.fn 11) (hro : F.round = none) (hn : 1 ≤ n) (l Bn n₀ : Nat) (a : Option Addr) (len c : Nat) (hl : len ≤ 1024) (h : Nat → It) (hp : (h 0).p ≠ 0) (J Jx : List (Int × It) → World → Prop)
    (hY : ∀ pre y W, J pre W → pre.length < len + 1 → YieldAt F (n - 1) Yba.prog l #[.int .i64 y.1, .agg (ivC y.2)] W fun e W' =>
      (e = .returned (.bool true) ∧ J (pre ++ [y]) W' ∧ Kept n₀ Bn W W') ∨ (e = .returned (.bool false) ∧ Jx (pre ++ [y]) W'))
    (W : World) (hJ : AbidesFrom W.heap.size J) (hB : W.heap[Bn]? = some (.cells (listC (h 0) (.slice a len c)) 43 (0, 0)))
    (hrow : ∀ j, j < len → ∃ g, a = some ⟨g, 0, none⟩ ∧ g < n₀ ∧ aggAt W 40 g (j * 40) = some (.agg (ivC (h (j + 1))))) (hn₀ : n₀ ≤ W.heap.size) (h0 : J [] W) :
    CallsIn F n Yba.prog 11 #[.func (.yield l) #[] #[], .pointer (some ⟨Bn, 0, none⟩)] W fun e W' => (∃ v, e = .returned v) ∧
      ((∃ ys, ys = upto h (len + 1) ∧ J ys W') ∨ (∃ pre, True ∧ Jx pre W')) := by
  have hc : W.cell? ⟨Bn, 8, none⟩ = some (.int .u8 (h 0).p) := by rw [cell_of_row W Bn 8 _ 43 (0, 0) hB, listC_prec]
  have hne : ((h 0).p == 0) = false := by simpa using hp
  have hf : aggAt W 40 Bn 0 = some (.agg (ivC (h 0))) := by rw [aggAt_of_block hB (by rw [listC_size]; omega), listC_first]
  obtain ⟨fn, tmps, assign, body, hy, hR⟩ := hY [] (0, h 0) W h0 (by simp)
  dsimp only at hy
  have HROW := hide hrow
  have HY := hide hY
  have HJ := hide hJ
  have HBN := hide hB
  clear hrow hY hJ
  refine callsIn_of_wp Yba.func11 rfl h11 ?_ hro
  simp only [Yba.ntmps11, List.size_toArray, List.length_cons, List.length_nil, Nat.reduceAdd, Nat.reduceSub, Array.replicate_succ, Array.replicate_zero, List.push_toArray, List.append_toArray, List.nil_append, List.cons_append]
  gi_wp2
  refine hR.mono ?_
  rintro e W3 (⟨rfl, hJ3, hk3⟩ | ⟨rfl, hJx3⟩)
  · clear hy hR
    have hB3 : W3.heap[Bn]? = some (.cells (listC (h 0) (.slice a len c)) 43 (0, 0)) := hk3.2.trans hB
    have hc3 : W3.cell? ⟨Bn, 40, none⟩ = some (.slice a len c) := by rw [cell_of_row W3 Bn 40 _ 43 (0, 0) hB3, listC_at]
    have HK3 := hide hk3
    clear hc hf hB hB3 hk3
    gi_wp2
    gi_loopw [20] (fun i wr => ∃ k : Nat, k ≤ len ∧ i = .int .i64 k ∧ J (upto h (k + 1)) wr ∧ Kept n₀ Bn W wr) (fun i _ => len - (intOf i).toNat)
    case atStart => exact ⟨0, Nat.zero_le _, rfl, hJ3, HK3.out⟩
    case round =>
      obtain ⟨k, hk, rfl, hJr, hKr⟩ := hrel
      clear hJ3 HK3 hc3
      by_cases hlt : k < len
      · obtain ⟨g, rfl, hg, hag⟩ := HROW.out k hlt
        have hag' : aggAt wr 40 g (k * 40) = some (.agg (ivC (h (k + 1)))) := by rw [aggAt_below hKr.1 hg]; exact hag
        have hJa : J (upto h (k + 1)) (wr.alloc (.cells (ivC (h (k + 1))) 38)) := HJ.out _ wr _ none hJr (World.grownBy_alloc wr _ none) nofun
        have hlt' : (k : Int) < (len : Int) := by omega
        obtain ⟨fn2, tmps2, assign2, body2, hy2, hR2⟩ := HY.out (upto h (k + 1)) ((k : Int) + 1, h (k + 1)) _ hJa (by rw [upto_length]; omega)
        dsimp only at hy2
        have HKr := hide hKr
        clear hag hJa hKr
        gi_wp2
        refine hR2.mono ?_
        rintro e W4 (⟨rfl, hJ4, hk4⟩ | ⟨rfl, hJx4⟩)
        · have hJ5 : J (upto h (k + 1 + 1)) W4 := by rw [upto_succ h (k + 1)]; exact hJ4
          have hK5 : Kept n₀ Bn W W4 := Kept.step HKr.out hn₀ (by rw [HBN.out]; exact rfl) hk4
          clear hy2 hR2 hJ4 hk4
          gi_wp2
          go_roundw
          case rel => exact ⟨k + 1, by omega, by go_num, hJ5, hK5⟩
          case measure => simp [intOf]; omega
        · gi_wp2
          refine bodyPost_ret (results_none rfl _ _ _) rfl ?_
          exact ⟨⟨_, rfl⟩, .inr ⟨_, trivial, hJx4⟩⟩
      · obtain rfl : k = len := by omega
        clear hKr
        gi_wp2
        go_end0
        exact ⟨⟨_, rfl⟩, .inl ⟨_, rfl, hJr⟩⟩
  · gi_wp2
    refine bodyPost_ret (results_none rfl _ _ _) rfl ?_
    exact ⟨⟨_, rfl⟩, .inr ⟨_, trivial, hJx3⟩⟩

theorem agg_block {W : World} {Bx : Nat} {x : It} (h : W.heap[Bx]? = some (.cells (ivC x) 38 (0, 0))) : aggAt W 40 Bx 0 = some (.agg (ivC x)) := by
  rw [aggAt_of_block h (by rw [ivC_size]; omega)]
  have : (ivC x).extract 0 (0 + 40) = ivC x := by rw [Nat.zero_add, ← ivC_size x, Array.extract_size]
  rw [this]

theorem listBox_kept {W w1 : World} {n₀ B Bn k : Nat} {v v' : Value} {tmp : Obj} {C : Array Value} {xs : List Value} (hBn : W.heap[Bn]? = some (.cells C 43 (0, 0))) (hrow : W.ownsRow n₀ 38 40 v k xs)
    (hgrow : (W.alloc tmp).grownBy w1 v.ownBlock) (hne : Bn ≠ B) : (w1.setCell ⟨B, 0, none⟩ v').heap[Bn]? = W.heap[Bn]? := by
  have hlt : Bn < W.heap.size := (Array.getElem?_eq_some_iff.1 hBn).1
  rw [Below.heap_setCell w1 ⟨B, 0, none⟩ v' Bn hne, hgrow.block Bn (by simp; omega) ?_, Below.heap_alloc W tmp Bn hlt]
  rcases hrow.2 with ⟨rfl, _⟩ | ⟨g, cap, cur, rfl, _, hgb, _⟩
  · simp [Value.ownBlock]
  · intro e
    obtain rfl : Bn = g := by simpa [Value.ownBlock] using e
    rw [hBn] at hgb
    simp at hgb

/-- How many items the list has. -/
def howMany (x : It) (len : Nat) : Nat := if x.p = 0 then 0 else len + 1

theorem all_stops (F : Fence) (n : Nat) (h11 : F.fn 11) (hro : F.round = none) (hn : 1 ≤ n) (Bn n₀ : Nat) (a : Option Addr) (len c : Nat) (hl : len ≤ 1024) (h : Nat → It) (w : World)
    (hB : w.heap[Bn]? = some (.cells (listC (h 0) (.slice a len c)) 43 (0, 0))) (hn₀ : n₀ ≤ w.heap.size)
    (hrow : ∀ j, j < len → ∃ g, a = some ⟨g, 0, none⟩ ∧ g < n₀ ∧ aggAt w 40 g (j * 40) = some (.agg (ivC (h (j + 1))))) :
    SeqStopsK F n Yba.prog 11 #[.pointer (some ⟨Bn, 0, none⟩)] (fun y : Int × It => #[.int .i64 y.1, .agg (ivC y.2)]) (Kept n₀ Bn) (fun ys => ys = upto h (howMany (h 0) len)) (fun _ => True) (len + 1) w := fun l J Jx W hW hJ _ hY h0 => by
  have hBn : Bn < w.heap.size := (Array.getElem?_eq_some_iff.1 hB).1
  have hBW : W.heap[Bn]? = some (.cells (listC (h 0) (.slice a len c)) 43 (0, 0)) := (hW.block Bn hBn).trans hB
  by_cases hp : (h 0).p = 0
  · have e : howMany (h 0) len = 0 := if_pos hp
    rw [e]
    refine (all1_none F n h11 hro l Bn (h 0) _ hp W hBW).mono ?_
    rintro e W' ⟨rfl, rfl⟩
    exact ⟨⟨_, rfl⟩, .inl ⟨_, rfl, h0⟩⟩
  · have e : howMany (h 0) len = len + 1 := if_neg hp
    rw [e]
    exact all1_in F n h11 hro hn l Bn n₀ a len c hl h hp J Jx hY W hJ hBW (fun j hj => by
      obtain ⟨g, hg, hlt, hag⟩ := hrow j hj
      exact ⟨g, hg, hlt, by rw [aggAt_below hW (by omega)]; exact hag⟩) (Nat.le_trans hn₀ hW.size) h0

def cellsOf (ys : List (Int × It)) : List Value := ys.flatMap fun y => (ivC y.2).toList
theorem cellsOf_snoc (ys : List (Int × It)) (y : Int × It) : cellsOf (ys ++ [y]) = cellsOf ys ++ (ivC y.2).toList := by simp [cellsOf]
theorem cellsOf_upto (h : Nat → It) : ∀ k, cellsOf (upto h k) = rowL h k
  | 0 => rfl
  | k + 1 => by rw [upto_succ, cellsOf_snoc, cellsOf_upto h k, rowL_succ]

theorem listBox_own (Bn : Nat) (C : Array Value) : Own (fun (_ : List (Int × It)) W => W.heap[Bn]? = some (.cells C 43 (0, 0))) := fun _ _ _ _ hs hg hr =>
  (grownBy_keeps_cells hg hr hs rfl).trans hs
theorem kept_t {n₀ Bn : Nat} {A B C : World} (h : Kept n₀ Bn A B) (k : Kept n₀ Bn B C) : Kept n₀ Bn A C := ⟨h.1.trans k.1, k.2.trans h.2⟩
theorem kept_b {n₀ Bn : Nat} {w : World} (hn : n₀ ≤ w.heap.size) (hB : Bn < w.heap.size) (W : World) (l : Nat) (o o' : Obj) (hl : w.heap.size ≤ l) (h : W.heap[l]? = some o) (hc : o.isCells = false) (hw : o.isWalk = false) : Kept n₀ Bn W (W.putObj l o') :=
  ⟨belowK_b hn W l o o' hl h hc hw, World.putObj_heap_other (by omega)⟩

set_option maxRecDepth 100000 in
set_option maxHeartbeats 2000000 in
theorem Items_in (F : Fence) (n : Nat) (h8 : F.fn 8) (h10 : F.fn 10) (h11 : F.fn 11) (hro : F.round = none) (hn : 3 ≤ n) (a : Option Addr) (len c : Nat) (hl : len ≤ 1024) (h : Nat → It) (w : World)
    (hrow : ∀ j, j < len → ∃ g, a = some ⟨g, 0, none⟩ ∧ g < w.heap.size ∧ aggAt w 40 g (j * 40) = some (.agg (ivC (h (j + 1))))) :
    CallsIn F n Yba.prog 8 #[.agg (listC (h 0) (.slice a len c))] w fun e W' => ∃ v, e = .returned v ∧ W'.ownsRow w.heap.size 38 40 v (howMany (h 0) len) (rowL h (howMany (h 0) len)) ∧ (v = .slice none 0 0 ↔ howMany (h 0) len = 0) ∧ Below w.heap.size w W' := by
  have h1 : 1 ≤ n := by omega
  obtain ⟨i0, hi, hz0, hz1, hz2⟩ := info_parts Yba.info38
  have HROW := hide hrow
  clear hrow
  refine callsIn_of_wp_marks Yba.func8 rfl h8 ?_ hro
  simp only [Yba.ntmps8, List.size_toArray, List.length_cons, List.length_nil, Nat.reduceAdd, Nat.reduceSub, Array.replicate_succ, Array.replicate_zero, List.push_toArray, List.append_toArray, List.nil_append, List.cons_append]
  gi_wp2_with (gi_at_call 10; refine (all_in F (n - 1) h10 hro _ _).mono ?_; rintro e w' ⟨rfl, rfl⟩)
  obtain ⟨W0, hW0⟩ : ∃ W0, ((w.alloc (.cells (listC (h 0) (.slice a len c)) 43)).alloc (.cells #[.slice none 0 0] 40)).alloc (.cells (listC (h 0) (.slice a len c)) 43) = W0 := ⟨_, rfl⟩
  have hsz : W0.heap.size = w.heap.size + 3 := by rw [← hW0]; simp
  have bO : Boxed W0 (w.heap.size + 1) 40 (.slice none 0 0) := by
    rw [← hW0]
    have := Boxed.new (w.alloc (.cells (listC (h 0) (.slice a len c)) 43)) 40 (.slice none 0 0)
    rw [World.size_alloc] at this
    exact this.alloc _
  have bN : W0.heap[w.heap.size + 2]? = some (.cells (listC (h 0) (.slice a len c)) 43 (0, 0)) := by
    rw [← hW0]
    have := heap_alloc_new ((w.alloc (.cells (listC (h 0) (.slice a len c)) 43)).alloc (.cells #[.slice none 0 0] 40)) (.cells (listC (h 0) (.slice a len c)) 43)
    rwa [World.size_alloc, World.size_alloc] at this
  have hB0 : Below w.heap.size w W0 := by rw [← hW0]; exact (((Below.refl _ w).alloc (Nat.le_refl _) _).alloc (by simp) _).alloc (by simp; omega) _
  rw [hW0]
  clear hW0
  refine wpIn_rangeFunc_ownH hro h1 (gf := 11) (lb := #[.pointer (some ⟨w.heap.size + 2, 0, none⟩)]) rfl h11 (enters_of Yba.func11 (by kernel_rfl) rfl)
    (all_stops F (n - 1) h11 hro (by omega) (w.heap.size + 2) w.heap.size a len c hl h W0 bN hB0.size (fun j hj => by
      obtain ⟨g, hg, hlt, hag⟩ := HROW.out j hj
      exact ⟨g, hg, hlt, by rw [aggAt_below hB0 hlt]; exact hag⟩)) kept_t (kept_b hB0.size (by omega)) (Below.refl _ _) (fun _ => rfl)
    (fun pre W => (∃ v, Boxed W (w.heap.size + 1) 40 v ∧ W.ownsRow w.heap.size 38 40 v pre.length (cellsOf pre) ∧ (v = .slice none 0 0 ↔ pre = [])) ∧ W.heap[w.heap.size + 2]? = some (.cells (listC (h 0) (.slice a len c)) 43 (0, 0)) ∧ Below w.heap.size w W)
    (fun _ _ _ => False)
    (OwnFrom.and (Own.from (holdsRow_own w.heap.size (w.heap.size + 1) 40 38 40 (fun pre : List (Int × It) => pre.length) (fun pre => cellsOf pre) (fun pre v => v = .slice none 0 0 ↔ pre = [])) _) (OwnFrom.and (Own.from (listBox_own _ _) _) (ownFrom_below (Nat.le_refl _) hB0.size)))
    (fun _ _ _ _ _ hs _ _ => hs)
    ⟨⟨_, bO, World.ownsRow_nil _ _ _ _, by simp⟩, bN, hB0⟩
    (fun y a' W => ∃ Bx, W.heap[Bx]? = some (.cells (ivC y.2) 38 (0, 0)) ∧ a' = { tmps := #[.agg (listC (h 0) (.slice a len c)), .pointer (some ⟨w.heap.size, 0, none⟩), .slice none 0 0, .pointer (some ⟨w.heap.size + 1, 0, none⟩), undef, .pointer (some ⟨Bx, 0, none⟩), .agg (listC (h 0) (.slice a len c)), .func (.func 11) #[] #[.pointer (some ⟨w.heap.size + 2, 0, none⟩)], .int .i64 y.1, .agg (ivC y.2), undef, undef, undef, undef, undef], defers := [] })
    (fun y a' _ X Y row hs hg hr => by
      obtain ⟨Bx, hb, ha⟩ := hs
      exact ⟨Bx, (grownBy_keeps_cells hg (fun r e => (hr r e).2) hb rfl).trans hb, ha⟩) ?assign ?body ?done ?stop
  case assign =>
    rintro l pre y W K ⟨⟨v, hv, hrow, hnil⟩, hBn, hB⟩ hK
    have hs := hB.size
    have hBl : w.heap.size + 2 < W.heap.size := (Array.getElem?_eq_some_iff.1 hBn).1
    have HK := hide hK
    clear hK
    gi_wp2
    exact HK.out _ _ ((KeepsOthers.alloc _ _).from _) ⟨(Below.refl _ W).alloc hs _, Below.heap_alloc W _ _ hBl⟩ ⟨⟨v, hv.alloc _, hrow.alloc _, hnil⟩, (Below.heap_alloc W _ _ hBl).trans hBn, hB.alloc hs _⟩ ⟨W.heap.size, heap_alloc_new W _, rfl⟩
  case body =>
    rintro l pre y a' W hll ⟨r, hr⟩ ⟨⟨v, hv, hrow, hnil⟩, hBn, hB⟩ ⟨Bx, hbx, rfl⟩ hlt
    have hc := hv.cell
    have hagx : aggAt W 40 Bx 0 = some (.agg (ivC y.2)) := agg_block hbx
    have hBl : w.heap.size + 2 < W.heap.size := (Array.getElem?_eq_some_iff.1 hBn).1
    have HBN := hide hBn
    clear hbx hBn hr
    gi_wp2_with (gi_at_builtin; refine wpListIn_append_own _ rfl _ _ 40 rfl w.heap.size 38 i0 (.agg zero38) 40 104 Yba.underlying40 hi hz0 hz1 hz2 rfl (by decide) _ _ _ rfl (hrow.alloc _) ⟨W.heap.size, 0, none⟩ 1 1 (ivC y.2).toList rfl (by rw [Array.length_toList, ivC_size]) (cells_new _ _ _) (ivC_ones _) (by unfold maxLen; omega) (by omega) (by have := hB.size; simp; omega) ?_; intro v' w1 hown' hgrow _; obtain ⟨g', cap', rfl⟩ := ownsRow_succ hown'; obtain ⟨hv1, hv2, hr2, hk2, hb2⟩ := hv.appended (by decide) hrow hB.size (by omega) hown' hgrow; have hc1 := hv1.cell; have hf1 := hv1.frozen)
    have hbn := listBox_kept HBN.out hrow hgrow (B := w.heap.size + 1) (v' := .slice (some ⟨g', 0, none⟩) (pre.length + 1) cap') (by omega)
    refine ⟨hk2.from _, ⟨hb2, hbn⟩, ⟨_, hv2, ?_, by simp⟩, hbn.trans HBN.out, hB.trans hb2⟩
    rw [cellsOf_snoc, List.length_append]
    exact hr2
  case done =>
    rintro D ys W hD rfl ⟨⟨v, hv, hrow, hnil⟩, hBn, hB⟩ hK
    have hc := hv.cell
    clear hBn
    rw [upto_length, cellsOf_upto] at hrow
    gi_wp2
    refine ⟨by simp, .inl ⟨_, _, rfl, run_takeDeferred hK, ?_⟩⟩
    refine ⟨_, results_tmp rfl _ _ _, v, rfl, ownsRow_putObj hrow _ hK rfl, hnil.trans ?_, hB.trans (belowK_b (w := w) (Nat.le_refl _) W D _ _ (by omega) hK rfl rfl)⟩
    rw [← List.length_eq_zero_iff, upto_length]
  case stop =>
    rintro D c pre W _ _ h _
    exact h.elim
end Go.Proofs.Ybulkdfle
