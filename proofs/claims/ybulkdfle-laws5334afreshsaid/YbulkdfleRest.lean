/- zzs5334arest: the intervals of the items of a slice. -/
import Derived.Test.YbulkdfleIv
namespace Go.Proofs.Ybulkdfle
open Go.ChangeShapes Go.WideShapes Go.ChangeAt Go.RowKit

attribute [local go_sem ↓] to_bd36 to_bd38 to_bd43 to_al38 to_al43 to_ld38 to_ld43 to_ld23 to_st38 to_st43 to_bs40 to_nq38
attribute [local go_sem] run_bd36 run_bd38 run_bd38_zero run_bd43 run_al38 run_al43 run_st38_new run_st43_new run_ld38 run_ld43 run_ld23 run_nq38 run_bs40
attribute [local go_sem] aggAt_alloc aggAt_drew aggAt_drewN aggAt_new ivC_size listC_size Option.elim_some

theorem hide {p : Prop} (h : p) : Hid p := h

/-- The cells of n intervals, one behind the other. -/
def rowL (f : Nat → It) (n : Nat) : List Value := (List.range n).flatMap fun j => (ivC (f j)).toList
theorem rowL_zero (f : Nat → It) : rowL f 0 = [] := rfl
theorem rowL_succ (f : Nat → It) (n : Nat) : rowL f (n + 1) = rowL f n ++ (ivC (f n)).toList := by
  unfold rowL
  rw [List.range_succ, List.flatMap_append]
  simp
theorem rowL_length (f : Nat → It) : ∀ n, (rowL f n).length = n * 40
  | 0 => rfl
  | n + 1 => by rw [rowL_succ, List.length_append, rowL_length f n, Array.length_toList, ivC_size]; omega
theorem rowL_at (f : Nat → It) : ∀ n j i, j < n → i < 40 → (rowL f n)[j * 40 + i]? = (ivC (f j)).toList[i]?
  | 0, j, i, h, _ => by omega
  | n + 1, j, i, h, hi => by
    rw [rowL_succ]
    by_cases e : j < n
    · rw [List.getElem?_append_left (by rw [rowL_length]; omega), rowL_at f n j i e hi]
    · obtain rfl : j = n := by omega
      rw [List.getElem?_append_right (by rw [rowL_length]; omega), rowL_length]
      congr 1
      omega
theorem Yba.info38 : (Yba.prog.info? 38).map (fun i => (i.zero, i.size, i.bytes)) = some (some (.agg zero38), 40, 104) := by kernel_rfl

/-- Out of an owned row of intervals: the j-th. -/
theorem owned_at {w : World} {B g n c : Nat} {f : Nat → It} (h : w.ownsRow B 38 40 (.slice (some ⟨g, 0, none⟩) n c) n (rowL f n)) (j : Nat) (hj : j < n) : aggAt w 40 g (j * 40) = some (.agg (ivC (f j))) := by
  have := aggAt_of_range (w := w) (n := 40) (b := g) (o := j * 40) (cs := (ivC (f j)).toList) (fun i v hi => by
    have hi' : i < 40 := by have := (List.getElem?_eq_some_iff.1 hi).1; simpa [ivC_size] using this
    rw [h.cellAt _ (by omega), rowL_at f n j i hj hi']
    exact hi) (by rw [Array.length_toList, ivC_size])
  rw [this, Array.toArray_toList]

theorem owns_below {w w' : World} {B n : Nat} {v : Value} {xs : List Value} (h : w.ownsRow B 38 40 v n xs) (hb : Below w.heap.size w w') : w'.ownsRow B 38 40 v n xs := by
  have hg : w.grownBy w' none := ⟨hb.os, hb.tape, hb.output, hb.size, fun k hk _ => hb.block k hk⟩
  refine h.kept hg ?_
  cases v.ownBlock <;> simp
theorem cells_new (w : World) (C : Array Value) (t : TypeId) : ∀ j u, C.toList[j]? = some u → (w.alloc (.cells C t)).cell? ((⟨w.heap.size, 0, none⟩ : Addr).add j) = some u := by
  intro j u hj
  rw [Addr.add_lit, Nat.zero_add, cell_of_row _ _ j C t (0, 0) (heap_alloc_new w _)]
  simpa using hj
theorem ivC_ones (x : It) : ∀ u ∈ (ivC x).toList, u.oneCell' = true := fun u hu => (Array.all_eq_true_iff_forall_mem.1 (ivC_one x)) u (by simpa using hu)

theorem rest_nil (w : World) : Calls Yba.prog 7 #[.slice none 0 0] w fun e w' => e = .returned (.slice none 0 0) ∧ w' = w := by
  have heq := fun wx => Lib.run_eql_slice_nil (P := Yba.prog) wx 24 23 none 0 0 0 0 Yba.underlying24
  go_enter Yba.func7, Yba.ntmps7
  go_wp2
  go_ret
  exact ⟨rfl, rfl⟩

theorem rest_row (x : Addr) (len cap : Nat) (f : Nat → It) (hl : len ≤ 1024) (w : World) (hsp : 0 < len → x.spot = none)
    (hx : ∀ j, j < len → aggAt w 4 x.block (x.off + j * 4) = some (.agg #[.int .u8 (f j).p, .int .i32 (f j).s, .int .u8 (f j).q, .int .i32 (f j).t])) (hxb : 0 < len → x.block < w.heap.size) :
    Calls Yba.prog 7 #[.slice (some x) len cap] w fun e w' => e = .returned (.slice (some ⟨w.heap.size, 0, none⟩) len len) ∧ w'.ownsRow w.heap.size 38 40 (.slice (some ⟨w.heap.size, 0, none⟩) len len) len (rowL f len) ∧ Below w.heap.size w w' := by
  have heq := fun wx => Lib.run_eql_slice_nil (P := Yba.prog) wx 24 23 (some x) len cap 0 0 Yba.underlying24
  obtain ⟨i0, hi, hz0, hz1, hz2⟩ := info_parts Yba.info38
  have HX := hide hx
  clear hx
  go_enter Yba.func7, Yba.ntmps7
  go_wp2_with (at_make; refine wpList_make_own _ rfl _ _ 40 rfl w.heap.size 38 i0 (.agg zero38) 40 Yba.underlying40 hi hz0 hz1 _ _ _ len rfl rfl rfl (by rw [hz2]; omega) (by unfold maxLen; omega) (Nat.le_refl _) ?_)
  intro w1 hown hgrow
  have hb1 : Below w.heap.size w w1 := (Below.refl _ _).grown hgrow (Nat.le_refl _) nofun
  clear hgrow
  go_wp2
  go_loopw [3, 4] (fun v i wr => ∃ k : Nat, k ≤ len ∧ i = .int .i64 k ∧ v = .slice (some ⟨w.heap.size, 0, none⟩) k len ∧ wr.ownsRow w.heap.size 38 40 (.slice (some ⟨w.heap.size, 0, none⟩) k len) k (rowL f k) ∧ Below w.heap.size w wr) (fun _ i _ => len - (intOf i).toNat)
  case atStart => exact ⟨0, Nat.zero_le _, rfl, rfl, hown, hb1⟩
  case round =>
    obtain ⟨k, hk, rfl, rfl, ho, hb⟩ := hrel
    clear hown hb1
    by_cases hlt : k < len
    · obtain ⟨b, off, spot⟩ := x
      have hspot : spot = none := hsp (by omega)
      subst hspot
      have hbl : b < w.heap.size := hxb (by omega)
      have hc : aggAt wr 4 b (off + k * 4) = some (.agg #[.int .u8 (f k).p, .int .i32 (f k).s, .int .u8 (f k).q, .int .i32 (f k).t]) := by rw [aggAt_below hb hbl]; exact HX.out k hlt
      have hlt' : (k : Int) < (len : Int) := by omega
      go_wp2_with (first | (go_at_call 6; refine (iv_any (f k) _).mono ?_; rintro e w' ⟨rfl, hb2⟩; have ho2 := owns_below ho hb2) | (at_builtin; refine wpList_append_fits _ rfl _ _ 40 rfl w.heap.size 38 i0 40 Yba.underlying40 hi hz1 w.heap.size k len (rowL f k) rfl (ho2.alloc _) ⟨w'.heap.size, 0, none⟩ 1 1 (ivC (f k)).toList rfl (by rw [Array.length_toList, ivC_size]) (cells_new _ _ _) (ivC_ones _) (by omega) ?_; intro w2 ho3 hg3))
      rw [← rowL_succ] at ho3
      have hb3 : Below w.heap.size w w2 := ((hb.trans (hb2.mono hb.size)).alloc (by have := hb.size; have := hb2.size; omega) _).grown hg3 (by have := hb.size; have := hb2.size; simp; omega) (fun k h => by cases h; exact Nat.le_refl _)
      clear hc ho ho2 hg3 hi hz0 hz1 hz2
      go_wp2
      go_roundw
      case rel => exact ⟨k + 1, by omega, by go_num, rfl, ho3, hb3⟩
      case measure => simp [intOf]; omega
    · obtain rfl : k = len := by omega
      go_wp2
      go_ret
      exact ⟨rfl, ho, hb⟩
end Go.Proofs.Ybulkdfle
