/- slices.Equal at []int on equal numbers; 'copy' into a row that 'make' has just laid. -/
import Derived.Test.YbulkdfmgCrash
import Derived.Deep.QuietTactic
import Derived.BigQuiet
import Derived.Laws.CopyOwn
import Derived.Laws.IdiomCopy
namespace Go.Proofs.Ybulkdfmg
open Go.ChangeShapes Go.WideShapes Go.ChangeAt Go.RowKit

/-- The numbers zs lie at the slice's address. -/
def At (w : World) (a : Option Addr) (zs : List Int) : Prop := ∀ j, j < zs.length → ∃ b off, a = some ⟨b, off, none⟩ ∧ b < w.heap.size ∧ w.cell? ⟨b, off + j, none⟩ = some (.int .i64 (zs.getD j 0))

theorem At.below {w w' : World} {a : Option Addr} {zs : List Int} (h : At w a zs) (hb : Below w.heap.size w w') : At w' a zs := fun j hj => by
  obtain ⟨b, off, h1, h2, h3⟩ := h j hj
  exact ⟨b, off, h1, Nat.lt_of_lt_of_le h2 hb.size, by rw [hb.cell h2]; exact h3⟩
theorem Row.at {w : World} {a : Option Addr} {zs : List Int} (h : Row w a zs) : At w a zs := fun j hj => by
  obtain ⟨g, h1, h2, h3⟩ := h j hj
  exact ⟨g, 0, h1, h2, by rw [Nat.zero_add]; exact h3⟩

theorem equal_true (a1 a2 : Option Addr) (c1 c2 : Nat) (zs : List Int) (hz : zs.length ≤ 100000) (w : World) (h1 : At w a1 zs) (h2 : At w a2 zs) :
    Calls Yba.prog 6 #[.slice a1 zs.length c1, .slice a2 zs.length c2] w fun e w' => e = .returned (.bool true) ∧ ∃ nq, w' = w.drewN nq := by
  have H1 := hide h1
  have H2 := hide h2
  clear h1 h2
  go_enter Yba.func6, Yba.ntmps6
  go_wp2
  go_loopw [13] (fun i wr => ∃ k nr : Nat, k ≤ zs.length ∧ i = .int .i64 k ∧ wr = w.drewN nr) (fun i _ => zs.length - (intOf i).toNat)
  case atStart => exact ⟨0, 0, Nat.zero_le _, rfl, rfl⟩
  case round =>
    obtain ⟨k, nr, hk, rfl, hwr⟩ := hrel
    by_cases hlt : k < zs.length
    · obtain ⟨b, off, rfl, _, g1⟩ := H1.out k hlt
      obtain ⟨b2, off2, rfl, _, g2⟩ := H2.out k hlt
      have c1 : wr.cell? ⟨b, off + k, none⟩ = some (.int .i64 (zs.getD k 0)) := by rw [hwr]; exact g1
      have c2 : wr.cell? ⟨b2, off2 + k, none⟩ = some (.int .i64 (zs.getD k 0)) := by rw [hwr]; exact g2
      generalize zs.getD k 0 = c at c1 c2
      have hlt' : (k : Int) < (zs.length : Int) := by omega
      have HW := hide hwr
      clear g1 g2 hwr
      go_wp2
      go_quiet (fail)
      go_wp2
      go_roundw
      case rel => exact ⟨k + 1, nr + nq, by omega, by go_num, by rw [HW.out, World.drewN_drewN]⟩
      case measure => simp [intOf]; omega
    · have HW := hide hwr
      clear hwr
      go_wp2
      go_ret
      exact ⟨rfl, nr, HW.out⟩

theorem equal_at (a1 a2 : Option Addr) (c1 c2 N : Nat) (zs : List Int) (hN : N = zs.length) (hz : N ≤ 100000) (w : World) (h1 : At w a1 zs) (h2 : At w a2 zs) :
    Calls Yba.prog 6 #[.slice a1 N c1, .slice a2 N c2] w fun e w' => e = .returned (.bool true) ∧ ∃ nq, w' = w.drewN nq := by
  subst hN
  exact equal_true a1 a2 c1 c2 zs hz w h1 h2

/-- 'copy(pre, prefix)', pre the row that 'make' has just laid, prefix whatever came in. -/
theorem copy_fact {w w1 : World} {ao : Option Addr} {cap : Nat} {zs : List Int} {xs : List Value} (hat : At w ao zs)
    (hown : w1.ownsRow w.heap.size 3 1 (.slice (some ⟨w.heap.size, 0, none⟩) zs.length zs.length) zs.length xs) (hgrow : w.grownBy w1 none) :
    ∃ w2, (Builtin.copy_ #[24, 24] 3 #[.slice (some ⟨w.heap.size, 0, none⟩) zs.length zs.length, .slice ao zs.length cap]).run Yba.prog w1 = .ok (.int .i64 zs.length) w2 ∧
      Row w2 (some ⟨w.heap.size, 0, none⟩) zs ∧ Below w.heap.size w w2 ∧ w.heap.size < w2.heap.size := by
  have hb1 : Below w.heap.size w w1 := (Below.refl _ _).grown hgrow (Nat.le_refl _) nofun
  have hl1 := (hown.lt w.heap.size rfl).2
  by_cases h0 : zs.length = 0
  · have hr := run_copy_none (P := Yba.prog) w1 24 24 3 3 (some ⟨w.heap.size, 0, none⟩) ao zs.length zs.length zs.length cap Yba.underlying24 (by kernel_rfl) (by rw [h0]; rfl)
    refine ⟨w1, by rw [hr, h0]; rfl, fun j hj => by omega, hb1, hl1⟩
  · rcases hown.2 with ⟨h, _⟩ | ⟨g, c, cur, h, hB, hg, h1, h2, h3, h4⟩
    · simp at h
    simp only [Value.slice.injEq, Option.some.injEq, Addr.mk.injEq, and_true, true_and] at h
    obtain ⟨rfl, rfl⟩ := h
    obtain ⟨b, off, rfl, _, _⟩ := hat 0 (by omega)
    have hlen : (zs.map (Value.int .i64)).length = zs.length := by simp
    have hr := run_copy_row (P := Yba.prog) w1 24 24 3 3 w.heap.size 0 zs.length zs.length ⟨b, off, none⟩ zs.length cap cur 3 (zs.map (Value.int .i64)) Yba.underlying24 (by kernel_rfl) hg (by rw [hlen]; exact (Nat.min_self _).symm)
      (fun j v hj => by
        have hj' : j < zs.length := by have := (List.getElem?_eq_some_iff.1 hj).1; rwa [hlen] at this
        obtain ⟨b', off', e, hlt, hc⟩ := hat j hj'
        simp only [Option.some.injEq, Addr.mk.injEq, and_true] at e
        obtain ⟨rfl, rfl⟩ := e
        rw [Addr.add_lit, hb1.cell hlt, hc]
        simpa [hj'] using hj) (by rw [hlen]; omega) (ints_oneCell _ _)
    rw [hlen] at hr
    refine ⟨_, hr, fun j hj => ⟨w.heap.size, rfl, ?_, ?_⟩, below_setRow hb1 (Nat.le_refl _) _, ?_⟩
    · simpa [World.setRow] using hl1
    · rw [cell_of_row _ w.heap.size j _ 3 (0, 0) (setRow_heap w1 w.heap.size _ _ 3 _ hg)]
      simp
      rw [List.getElem?_append_left (by simpa using hj)]
      simp [hj]
    · simpa [World.setRow] using hl1
end Go.Proofs.Ybulkdfmg
