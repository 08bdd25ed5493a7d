/- Whole structs (40 and 41 cells) as closed values: rules for the walk, so that it never opens them cell by cell. -/
import Derived.Test.YbulkdfleRows
import Derived.WalkKit
import Derived.ProofKit
import Derived.WalkLawsBesides
import Derived.WalkSpells
import Derived.Laws.StructEq
import Derived.Laws.Tables
import Derived.Deep.MidRow
import Derived.Deep.WholeRow
namespace Go.Proofs.Ybulkdfle
open Go.ChangeShapes Go.WideShapes Go.ChangeAt Go.RowKit

/-- The struct of n cells that lies at offset o of block b. -/
def aggAt (w : World) (n b o : Nat) : Option Value := ((List.range n).mapM fun j => w.cell? ⟨b, o + j, none⟩).map fun l => .agg l.toArray

theorem mapM_range_of {f : Nat → Option Value} : ∀ (cs : List Value) (s : Nat), (∀ j v, cs[j]? = some v → f (s + j) = some v) → (List.range' s cs.length).mapM f = some cs
  | [], _, _ => by simp
  | c :: cs, s, h => by
    have h0 : f s = some c := by simpa using h 0 c (by simp)
    have hr := mapM_range_of (f := f) cs (s + 1) (fun j v hj => by
      have := h (j + 1) v (by simpa using hj)
      rwa [show s + (j + 1) = s + 1 + j by omega] at this)
    simp only [List.length_cons, List.range'_succ, List.mapM_cons, h0, hr]
    rfl

theorem aggAt_of_range {w : World} {n b o : Nat} {cs : List Value} (h : w.rangeAt b o cs) (hn : cs.length = n) : aggAt w n b o = some (.agg cs.toArray) := by
  subst hn
  unfold aggAt
  rw [List.range_eq_range', mapM_range_of (f := fun j => w.cell? ⟨b, o + j, none⟩) cs 0 (fun j v hj => by simpa using h j v hj)]
  rfl

theorem range_of_mapM {f : Nat → Option Value} : ∀ (n s : Nat) (cs : List Value), (List.range' s n).mapM f = some cs → cs.length = n ∧ ∀ j v, cs[j]? = some v → f (s + j) = some v
  | 0, s, cs, h => by simp at h; subst h; simp
  | n + 1, s, cs, h => by
    simp only [List.range'_succ, List.mapM_cons] at h
    cases h0 : f s with
    | none => simp [h0] at h
    | some c =>
      cases hr : (List.range' (s + 1) n).mapM f with
      | none => simp [h0, hr] at h
      | some r =>
        simp [h0, hr] at h
        subst h
        obtain ⟨hl, hc⟩ := range_of_mapM n (s + 1) r hr
        refine ⟨by simp [hl], fun j v hj => ?_⟩
        cases j with
        | zero => simp at hj; subst hj; simpa using h0
        | succ j =>
          have := hc j v (by simpa using hj)
          rwa [show s + (j + 1) = s + 1 + j by omega]

theorem range_of_aggAt {w : World} {n b o : Nat} {v : Value} (h : aggAt w n b o = some v) : ∃ cs : List Value, v = .agg cs.toArray ∧ cs.length = n ∧ w.rangeAt b o cs := by
  unfold aggAt at h
  obtain ⟨cs, hcs, rfl⟩ := Option.map_eq_some_iff.1 h
  rw [List.range_eq_range'] at hcs
  obtain ⟨hl, hc⟩ := range_of_mapM n 0 cs hcs
  exact ⟨cs, rfl, hl, fun j v hj => by simpa using hc j v hj⟩

theorem aggAt_congr {w w' : World} {n b o : Nat} (h : ∀ j, j < n → w'.cell? ⟨b, o + j, none⟩ = w.cell? ⟨b, o + j, none⟩) : aggAt w' n b o = aggAt w n b o := by
  unfold aggAt
  congr 1
  have : ∀ l : List Nat, (∀ j ∈ l, j < n) → l.mapM (fun j => w'.cell? ⟨b, o + j, none⟩) = l.mapM (fun j => w.cell? ⟨b, o + j, none⟩) := by
    intro l
    induction l with
    | nil => intro _; rfl
    | cons a l ih =>
      intro hl
      simp only [List.mapM_cons, h a (hl a (by simp)), ih (fun j hj => hl j (by simp [hj]))]
  exact this _ (fun j hj => by simpa using hj)

theorem aggAt_block {w w' : World} {n b o : Nat} (h : w'.heap[b]? = w.heap[b]?) : aggAt w' n b o = aggAt w n b o :=
  aggAt_congr fun _ _ => World.cell?_of_block (a := ⟨b, _, none⟩) h

theorem aggAt_below {w w' : World} {B n b o : Nat} (hb : Below B w w') (h : b < B) : aggAt w' n b o = aggAt w n b o := aggAt_block (hb.block b h)

theorem aggAt_alloc {w : World} {n b o : Nat} (ob : Obj) (h : b < w.heap.size) : aggAt (w.alloc ob) n b o = aggAt w n b o := aggAt_block (Below.heap_alloc w ob b h)
theorem aggAt_drew {w : World} {n b o : Nat} : aggAt w.drew n b o = aggAt w n b o := rfl
theorem aggAt_drewN {w : World} {n b o q : Nat} : aggAt (w.drewN q) n b o = aggAt w n b o := rfl
theorem aggAt_setCell {w : World} {n b o : Nat} (a : Addr) (v : Value) (h : b ≠ a.block) : aggAt (w.setCell a v) n b o = aggAt w n b o := aggAt_block (Below.heap_setCell w a v b h)

theorem aggAt_of_block {w : World} {n b o : Nat} {C : Array Value} {t : TypeId} {fr : Nat × Nat} (hb : w.heap[b]? = some (.cells C t fr)) (h : o + n ≤ C.size) : aggAt w n b o = some (.agg (C.extract o (o + n))) := by
  have := aggAt_of_range (w.rangeAt_of_block hb o n) (n := n) (by simp; omega)
  rw [this, Array.toArray_toList]

theorem aggAt_new {w : World} {n m : Nat} {C : Array Value} {t : TypeId} {fr : Nat × Nat} (hm : m = w.heap.size) (hn : C.size = n) : aggAt (w.alloc (.cells C t fr)) n m 0 = some (.agg C) := by
  subst hm
  subst hn
  rw [aggAt_of_block (heap_alloc_new w _) (by simp)]
  simp

/-- THE LOAD of a struct: a rule for the walk. -/
theorem run_load_agg {P : Program} {ty : TypeId} {d : TypeDesc} {n : Nat} (hu : P.underlying ty = some d) (hd : d.isRow = true) (hi : (P.info? ty).map (·.size) = some n) (w : World) (b o : Nat) :
    (Instr.loadAt ty (.pointer (some ⟨b, o, none⟩))).run P w = (aggAt w n b o).elim ((loadVar ty ⟨b, o, none⟩).run P w) (fun v => .ok v w) := by
  cases h : aggAt w n b o with
  | none => simp [Instr.loadAt, Instr.sureAddr]
  | some v =>
    obtain ⟨cs, rfl, hl, hr⟩ := range_of_aggAt h
    exact run_loadAt_mid w b o ty cs d hr hu hd (by rw [hi, hl])
end Go.Proofs.Ybulkdfle
