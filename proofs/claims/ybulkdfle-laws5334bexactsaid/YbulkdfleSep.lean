/- Contracts of appendSep on the road of LawS5334BExact. -/
import Derived.Test.YbulkdfleRows
import Derived.WalkKit
import Derived.ProofKit
import Derived.WalkLawsBesides
import Derived.ArgAppend
import Derived.Maps.AppendAt
import Derived.WalkSpells
import Derived.Laws.CopyOwn
import Derived.LoopN
import Derived.Outline
import Derived.Deep.QuietTactic
import Derived.BigQuiet
namespace Go.Proofs.Ybulkdfle
open Go.ChangeShapes Go.WideShapes Go.ChangeAt Go.RowKit

theorem hide {p : Prop} (h : p) : Hid p := h
theorem Yba.info5 : (Yba.prog.info? 5).map (fun i => (i.zero, i.size, i.bytes)) = some (some (.int .u8 0), 1, 1) := by kernel_rfl

theorem appendSep_no (v : Value) (sep : Int) (w : World) :
    Calls Yba.prog 9 #[v, .int .u8 sep, .bool false] w fun e w' => e = .returned v ∧ w' = w := by
  go_enter Yba.func9, Yba.ntmps9
  go_wp2
  go_ret
  exact ⟨rfl, rfl⟩

theorem sep_end {w' : World} {B n : Nat} {zs : List Int} {sep : Int} {v : Value} (hz : zs.length = n) (h : w'.ownsRow B 5 1 v (n + 1) (zs.map (Value.int .u8) ++ [.int .u8 sep])) :
    ∃ g cap, v = .slice (some ⟨g, 0, none⟩) (n + 1) cap ∧ B ≤ g ∧ g < w'.heap.size ∧ (∀ j, j < n → w'.cell? ⟨g, j, none⟩ = some (.int .u8 (zs.getD j 0))) ∧ w'.cell? ⟨g, n, none⟩ = some (.int .u8 sep) := by
  have h0 := h
  rcases h.2 with ⟨_, h2⟩ | ⟨g, cap, cur, rfl, hB, hg, _⟩
  · omega
  · refine ⟨g, cap, rfl, hB, (Array.getElem?_eq_some_iff.1 hg).1, fun j hj => ?_, ?_⟩
    · rw [h0.cellAt j (by omega), List.getElem?_append_left (by simp; omega)]
      simp [List.getElem?_eq_getElem (show j < zs.length by omega)]
    · rw [h0.cellAt n (by omega), List.getElem?_append_right (by simp; omega)]
      simp [hz]

theorem appendSep_yes (ao : Option Addr) (n : Nat) (zs : List Int) (sep : Int) (hn : n ≤ 4096) (hz : zs.length = n) (hnone : ao = none → n = 0) (w : World)
    (hc : ∀ g, ao = some g → ∀ j, j < n → w.cell? (g.add j) = some (.int .u8 (zs.getD j 0))) :
    Calls Yba.prog 9 #[.slice ao n n, .int .u8 sep, .bool true] w fun e w' => ∃ g cap, e = .returned (.slice (some ⟨g, 0, none⟩) (n + 1) cap) ∧ w.heap.size < g ∧ g < w'.heap.size ∧
      (∀ j, j < n → w'.cell? ⟨g, j, none⟩ = some (.int .u8 (zs.getD j 0))) ∧ w'.cell? ⟨g, n, none⟩ = some (.int .u8 sep) ∧ Below w.heap.size w w' := by
  obtain ⟨i0, hi, hz0, hz1, hz2⟩ := info_parts Yba.info5
  have HC := hide hc
  have HZ := hide hz
  clear hc hz
  go_enter Yba.func9, Yba.ntmps9
  go_wp2_with (at_builtin; refine wpList_append_grows _ rfl _ _ 46 rfl 5 i0 (.int .u8 0) 1 1 Yba.underlying46 hi hz0 hz1 hz2 rfl (by decide) ao n n (zs.map (Value.int .u8)) rfl (fun h => ⟨hnone h, hnone h⟩) (by simp [HZ.out]) ?c1 ⟨w.heap.size, 0, none⟩ 1 1 [.int .u8 sep] rfl rfl (cell_one_new _ _ _) ?c2 (by omega) (by unfold maxLen; omega) (by omega) ?_)
  case c1 =>
    intro b hb j u hj
    have hj' : j < n := by have := (List.getElem?_eq_some_iff.1 hj).1; simpa [HZ.out] using this
    rw [cell_later ((Below.refl _ _).alloc (Nat.le_refl _) _) (HC.out b hb j hj')]
    simpa [List.getElem?_eq_getElem (show j < zs.length by rw [HZ.out]; exact hj')] using hj
  case c2 => intro u hu; simp at hu; subst hu; rfl
  intro v' w1 hown hgrow
  obtain ⟨g, cap, rfl, hB, hlt, hcells, hsep⟩ := sep_end HZ.out hown
  have hb : Below w.heap.size w w1 := ((Below.refl _ _).alloc (Nat.le_refl _) _).grown hgrow (by simp) nofun
  clear hown hgrow hi hz0 hz1 hz2
  have HCC := hide hcells
  clear hcells
  go_wp2
  go_ret
  exact ⟨g, cap, rfl, by omega, hlt, HCC.out, hsep, hb⟩

/-- 'copy(c, b)', c the row that 'make' has just laid, b whatever came in. -/
theorem copy_fact {w w1 : World} {x : Addr} {len cap : Nat} {z : List Int} {xs : List Value} (hlc : len ≤ cap) (hz : z.length = cap)
    (hcell : ∀ i, i < len → w.cell? (x.add i) = some (.int .u8 (z.getD i 0))) (hown : w1.ownsRow w.heap.size 5 1 (.slice (some ⟨w.heap.size, 0, none⟩) len len) len xs) (hgrow : w.grownBy w1 none) :
    ∃ w2, (Builtin.copy_ #[46, 46] 3 #[.slice (some ⟨w.heap.size, 0, none⟩) len len, .slice (some x) len cap]).run Yba.prog w1 = .ok (.int .i64 len) w2 ∧
      (∀ j, j < len → w2.cell? ⟨w.heap.size, j, none⟩ = some (.int .u8 (z.getD j 0))) ∧ Below w.heap.size w w2 ∧ w.heap.size < w2.heap.size := by
  rcases hown.2 with ⟨h, _⟩ | ⟨g, c, cur, h, hB, hg, h1, h2, h3, h4⟩
  · simp at h
  simp only [Value.slice.injEq, Option.some.injEq, Addr.mk.injEq, and_true, true_and] at h
  obtain ⟨rfl, rfl⟩ := h
  have hlen : ((z.take len).map (Value.int .u8)).length = len := by simp; omega
  have hb1 : Below w.heap.size w w1 := (Below.refl _ _).grown hgrow (Nat.le_refl _) nofun
  have hr := run_copy_row (P := Yba.prog) w1 46 46 3 5 w.heap.size 0 len len x len cap cur 5 ((z.take len).map (Value.int .u8)) Yba.underlying46 (by kernel_rfl) hg (by rw [hlen]; exact (Nat.min_self _).symm)
    (fun j v hj => by
      have hj' : j < len := by have := (List.getElem?_eq_some_iff.1 hj).1; rwa [hlen] at this
      rw [cell_later hb1 (hcell j hj')]
      have hjz : j < z.length := by omega
      simpa [hj', List.getElem?_eq_getElem hjz] using hj) (by rw [hlen]; omega) (ints_oneCell _ _)
  rw [hlen] at hr
  refine ⟨_, hr, fun j hj => ?_, below_setRow hb1 (Nat.le_refl _) _, ?_⟩
  · rw [cell_of_row _ w.heap.size j _ 5 (0, 0) (setRow_heap w1 w.heap.size _ _ 5 _ hg)]
    have hjz : j < z.length := by omega
    simp [hjz]
    rw [List.getElem?_append_left (by simp; omega)]
    simp [hj, hjz]
  · have := (Array.getElem?_eq_some_iff.1 hg).1
    simpa [World.setRow] using this
end Go.Proofs.Ybulkdfle
