/- errors.New and the scripted body's Read by their contracts. -/
import Derived.Test.YbulkdfokDoorRows
import Derived.WalkKit
import Derived.ProofKit
import Derived.WalkLawsBesides
import Derived.WalkSpells
import Derived.ArgAppend
import Derived.Maps.AppendAt
import Derived.BigQuiet
import Derived.LaidEql
import Derived.Outline
namespace Go.Proofs.YbulkdfokDoor
open Go.ChangeShapes Go.WideShapes Go.ChangeAt Go.RowKit

theorem hide {p : Prop} (h : p) : Hid p := h
theorem Ybad.info3 : (Ybad.prog.info? 3).map (fun i => (i.zero, i.size, i.bytes)) = some (some (.int .i64 0), 1, 8) := by kernel_rfl

/-- errors.New: a new block with the text. -/
theorem errNew_any (s : ByteArray) (w : World) :
    Calls Ybad.prog 4 #[.string s] w fun e w' => e = .returned (.iface 44 (.pointer (some ⟨w.heap.size, 0, none⟩))) ∧ w' = w.alloc (.cells #[.string s] 46) := by
  go_enter Ybad.func4, Ybad.ntmps4
  go_wp2
  go_ret
  exact ⟨rfl, rfl⟩

/-- The error that the script answers. -/
def errV (kd : Nat) (ea oa : Addr) : Value :=
  match kd with
  | 1 => .iface 44 (.pointer (some ea))
  | 2 => .iface 44 (.pointer (some oa))
  | 3 => .iface 41 (.agg #[])
  | _ => .nilIface

/-- The kind that stands at place k of the script. -/
def KindAt (w : World) (B : Nat) (ka : Option Addr) (kl k kd : Nat) : Prop :=
  (kl ≤ k ∧ kd = 0) ∨ ∃ kb koff y, k < kl ∧ ka = some ⟨kb, koff, none⟩ ∧ kb < B ∧ w.cell? ⟨kb, koff + k, none⟩ = some (.int .u8 (y : Nat)) ∧ y ≤ 255 ∧ kd = y % 4

theorem KindAt.below {w w' : World} {B kl k kd : Nat} {ka : Option Addr} (h : KindAt w B ka kl k kd) (hb : Below B w w') : KindAt w' B ka kl k kd := by
  rcases h with h | ⟨kb, koff, y, h1, h2, h3, h4, h5⟩
  · exact .inl h
  · exact .inr ⟨kb, koff, y, h1, h2, h3, by rw [hb.cell h3]; exact h4, h5⟩

/-- The scripted body as it lies in memory. -/
def bodyC (nsV kindsV : Value) (k : Nat) (lensV : Value) (oa : Addr) : Array Value := #[nsV, kindsV, .int .i64 k, lensV, .iface 44 (.pointer (some oa)), .int .i64 0]

/-- A block of another type is no row. -/
theorem other_block {w : World} {B g n c cb : Nat} {e t : TypeId} {xs : List Value} {C : Array Value} (h : w.ownsRow B e 1 (.slice (some ⟨g, 0, none⟩) n c) n xs) (hc : w.heap[cb]? = some (.cells C t (0, 0))) (ht : t ≠ e) : cb ≠ g := by
  rintro rfl
  rcases h.2 with ⟨h', _⟩ | ⟨g', cap', cur, h', _, hg, _⟩
  · simp at h'
  · simp only [Value.slice.injEq, Option.some.injEq, Addr.mk.injEq, and_true, true_and] at h'
    obtain ⟨rfl, rfl⟩ := h'
    rw [hc] at hg
    simp at hg
    exact ht hg.2

theorem ones_one (x : Int) : ∀ u ∈ [Value.int .i64 x], u.oneCell' = true := by
  intro u hu
  simp at hu
  subst hu
  rfl

/-- What the two stores behind the append leave. -/
structure Laid (B bb pb k m : Nat) (nsV kindsV lensV v' : Value) (oa : Addr) (ls xs : List Value) (w w2 : World) : Prop where
  body : w2.heap[bb]? = some (.cells (bodyC nsV kindsV (k + 1) v' oa) 29 (0, 0))
  own : w2.ownsRow B 3 1 v' (k + 1) (ls ++ [.int .i64 m])
  row : w2.ownsRow B 5 1 (.slice (some ⟨pb, 0, none⟩) m m) m xs
  below : Below B w w2
  keep : ∀ i, i < w.heap.size → i ≠ bb → i ≠ pb → some i ≠ lensV.ownBlock → w2.heap[i]? = w.heap[i]?

theorem own_ne {w : World} {B n bb : Nat} {e t : TypeId} {v : Value} {xs : List Value} {C : Array Value} (h : w.ownsRow B e 1 v n xs) (hc : w.heap[bb]? = some (.cells C t (0, 0))) (ht : t ≠ e) : some bb ≠ v.ownBlock := by
  rcases h.2 with ⟨rfl, _⟩ | ⟨g, c, cur, rfl, _⟩
  · simp [Value.ownBlock]
  · simp only [Value.ownBlock, ne_eq, Option.some.injEq]
    exact other_block h hc ht

theorem own_ge {w : World} {B n : Nat} {e : TypeId} {v : Value} {xs : List Value} (h : w.ownsRow B e 1 v n xs) : ∀ i, v.ownBlock = some i → B ≤ i ∧ i < w.heap.size := by
  intro i hi
  rcases h.2 with ⟨rfl, _⟩ | ⟨g, c, cur, rfl, _⟩
  · simp [Value.ownBlock] at hi
  · simp [Value.ownBlock] at hi
    subst hi
    exact h.lt g rfl

theorem laid_step {B bb pb k m : Nat} {nsV kindsV lensV v' : Value} {oa : Addr} {ls xs : List Value} {w w1 : World} {tmp : Obj} (hB : B ≤ w.heap.size) (hB1 : B ≤ bb)
    (hbb : w.heap[bb]? = some (.cells (bodyC nsV kindsV k lensV oa) 29 (0, 0))) (hown : w.ownsRow B 3 1 lensV k ls) (hp : w.ownsRow B 5 1 (.slice (some ⟨pb, 0, none⟩) m m) m xs)
    (ho : w1.ownsRow B 3 1 v' (k + 1) (ls ++ [.int .i64 m])) (hg : (w.alloc tmp).grownBy w1 lensV.ownBlock) :
    w1.cell? ⟨bb, 3, none⟩ = some lensV ∧ w1.frozen? ⟨bb, 3, none⟩ = false ∧ w1.cell? ⟨bb, 2, none⟩ = some (.int .i64 k) ∧ w1.frozen? ⟨bb, 2, none⟩ = false ∧ w1.cell? ⟨bb, 0, none⟩ = some nsV ∧
    Laid B bb pb k m nsV kindsV lensV v' oa ls xs w ((w1.setCell ⟨bb, 3, none⟩ v').setCell ⟨bb, 2, none⟩ (.int .i64 ((k : Int) + 1))) := by
  have hbl : bb < w.heap.size := (Array.getElem?_eq_some_iff.1 hbb).1
  have hbr : some bb ≠ lensV.ownBlock := own_ne hown hbb (by decide)
  have hb1 : w1.heap[bb]? = some (.cells (bodyC nsV kindsV k lensV oa) 29 (0, 0)) := (hg.block bb (by simp; omega) hbr).trans ((Below.heap_alloc w tmp bb hbl).trans hbb)
  have hpb := hp.lt pb rfl
  have hpr : some pb ≠ lensV.ownBlock := by
    obtain ⟨_, ⟨h, _⟩ | ⟨g, c, cur, h, _, hh, _⟩⟩ := hp
    · simp at h
    · simp only [Value.slice.injEq, Option.some.injEq, Addr.mk.injEq, and_true, true_and] at h
      obtain ⟨rfl, rfl⟩ := h
      exact own_ne hown hh (by decide)
  have hbp : bb ≠ pb := other_block hp hbb (by decide)
  have hb2 : (w1.setCell ⟨bb, 3, none⟩ v').heap[bb]? = some (.cells (bodyC nsV kindsV k v' oa) 29 (0, 0)) := by
    rw [heap_setCell_same w1 bb 3 _ 29 _ hb1]; rfl
  have hb3 : ((w1.setCell ⟨bb, 3, none⟩ v').setCell ⟨bb, 2, none⟩ (.int .i64 ((k : Int) + 1))).heap[bb]? = some (.cells (bodyC nsV kindsV (k + 1) v' oa) 29 (0, 0)) := by
    rw [heap_setCell_same _ bb 2 _ 29 _ hb2]; rfl
  have hk1 : w1.grownBy (w1.setCell ⟨bb, 3, none⟩ v') (some bb) := ⟨rfl, rfl, rfl, by simp [World.setCell], fun k _ hk => Below.heap_setCell w1 _ _ k (fun e => hk (by rw [e]))⟩
  have hk2 : (w1.setCell ⟨bb, 3, none⟩ v').grownBy ((w1.setCell ⟨bb, 3, none⟩ v').setCell ⟨bb, 2, none⟩ (.int .i64 ((k : Int) + 1))) (some bb) := ⟨rfl, rfl, rfl, by simp [World.setCell], fun k _ hk => Below.heap_setCell _ _ _ k (fun e => hk (by rw [e]))⟩
  have hvb : v'.ownBlock = none ∨ v'.ownBlock ≠ some bb := .inr fun e => own_ne ho hb1 (by decide) e.symm
  refine ⟨by rw [cell_of_row w1 bb 3 _ 29 (0, 0) hb1]; rfl, frozen_of_row w1 bb 3 _ 29 hb1, by rw [cell_of_row w1 bb 2 _ 29 (0, 0) hb1]; rfl, frozen_of_row w1 bb 2 _ 29 hb1, by rw [cell_of_row w1 bb 0 _ 29 (0, 0) hb1]; rfl, hb3, (ho.kept hk1 hvb).kept hk2 hvb, ?_, ?_, ?_⟩
  · refine ((((hp.alloc tmp).kept hg (.inr ?_)).kept hk1 (.inr ?_)).kept hk2 (.inr ?_))
    · exact hpr
    · simp [Value.ownBlock]; exact fun e => hbp e.symm
    · simp [Value.ownBlock]; exact fun e => hbp e.symm
  · exact ((((Below.refl B w).alloc hB tmp).grown hg (by simp; omega) (fun i hi => (own_ge hown i hi).1)).setCell (by exact hB1) _).setCell (by exact hB1) _
  · intro i hi h1 h2 h3
    rw [hk2.block i (by have := hg.size; simp [World.setCell] at this ⊢; omega) (by simp; exact h1), hk1.block i (by have := hg.size; simp at this; omega) (by simp; exact h1), hg.block i (by simp; omega) h3]
    exact Below.heap_alloc w tmp i hi

end Go.Proofs.YbulkdfokDoor
