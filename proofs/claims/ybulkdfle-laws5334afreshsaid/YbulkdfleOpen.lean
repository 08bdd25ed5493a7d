/- The two arguments of LawS5334AExact and LawS5334AFresh, opened. -/
import Derived.Test.YbulkdfleAExact
import Derived.Lib.SmallJoins
import Derived.Deep.Slices
import Derived.OpenShut
import Derived.ChangeOld
namespace Go.Proofs.Ybulkdfle
open Go.ChangeShapes Go.WideShapes Go.ChangeAt Go.RowKit Go.Joins Go.Deep

theorem Yba.cells23 : Yba.prog.cellsOf 23 = 4 := by kernel_rfl
theorem Yba.fields23 : ∃ f0 f1 f2 f3 : Field, Yba.prog.underlying 23 = some (.struct #[f0, f1, f2, f3]) ∧ (f0.type, f0.offset) = (5, 0) ∧ (f1.type, f1.offset) = (21, 1) ∧ (f2.type, f2.offset) = (5, 2) ∧ (f3.type, f3.offset) = (21, 3) :=
  ⟨_, _, _, _, Yba.underlying23, rfl, rfl, rfl, rfl⟩
theorem Yba.cells5 : Yba.prog.cellsOf 5 = 1 := by kernel_rfl
theorem Yba.cells21 : Yba.prog.cellsOf 21 = 1 := by kernel_rfl

section
variable {H : Type} {enc : TypeId × Value → H} {w : World} {base : Nat} {spare : Nat → Bool} {held : Bool}

/-- Four cells that read as an item. -/
theorem item_cells {fuel : Nat} {cs : List Value} {y : DataW H × List MemPlace} (h : DataW.trod enc Yba.prog w base spare held fuel 23 cs = some y) : ∃ x : It, cs = [.int .u8 x.p, .int .i32 x.s, .int .u8 x.q, .int .i32 x.t] := by
  obtain ⟨f0, f1, f2, f3, hu, e0, e1, e2, e3⟩ := Yba.fields23
  simp only [Prod.mk.injEq] at e0 e1 e2 e3
  obtain ⟨y0, y1, y2, y3, n, _, hl, h0, h1, h2, h3⟩ := trod_struct4 hu h
  rw [Yba.cells23] at hl
  match cs, hl with
  | [c0, c1, c2, c3], _ =>
    rw [e0.1, e0.2, Yba.cells5] at h0
    rw [e1.1, e1.2, Yba.cells21] at h1
    rw [e2.1, e2.2, Yba.cells5] at h2
    rw [e3.1, e3.2, Yba.cells21] at h3
    obtain ⟨p, hp, _, _⟩ := DataW.trod_int Yba.underlying5 h0
    obtain ⟨s, hs, _, _⟩ := DataW.trod_int Yba.underlying21 h1
    obtain ⟨q, hq, _, _⟩ := DataW.trod_int Yba.underlying5 h2
    obtain ⟨t, ht, _, _⟩ := DataW.trod_int Yba.underlying21 h3
    simp at hp hs hq ht
    exact ⟨⟨p, s, q, t⟩, by rw [hp, hs, hq, ht]⟩

theorem item_open {r : Reach} {b0 : Nat} {v : Value} {d : DataW H} {p : List MemPlace} (hv : Value.okWide Yba.prog w r b0 23 v) (h : DataW.Trod enc Yba.prog w base spare held 23 v d p) :
    ∃ x : It, v = .agg #[.int .u8 x.p, .int .i32 x.s, .int .u8 x.q, .int .i32 x.t] := by
  obtain ⟨cs, rfl, _⟩ := okWide_struct Yba.underlying23 hv
  obtain ⟨fuel, hf⟩ := h
  obtain ⟨x, hx⟩ := item_cells hf
  refine ⟨x, ?_⟩
  have : cs = (#[.int .u8 x.p, .int .i32 x.s, .int .u8 x.q, .int .i32 x.t] : Array Value) := by
    apply Array.ext'
    simpa [Value.cells] using hx
  rw [this]

theorem items_open {a : Option Addr} {len cap fuel : Nat} {y : DataW H × List MemPlace} (h : DataW.trod enc Yba.prog w base (fun _ => true) held fuel 24 [.slice a len cap] = some y) :
    ∃ f : Nat → It, IsItems w a len cap f := by
  rcases open_slice Yba.underlying24 h with ⟨hcs, _⟩ | ⟨x, l, c, m, n, D, Pl, hcs, _, hl, _, hmm, _, hx⟩
  · simp at hcs
    exact ⟨fun _ => ⟨0, 0, 0, 0⟩, .inl hcs⟩
  · simp at hcs
    obtain ⟨rfl, rfl, rfl⟩ := hcs
    simp only [if_true] at hmm
    subst hmm
    have each : ∀ i, i < len → ∃ it : It, x.spot = none ∧ x.block < w.heap.size ∧ aggAt w 4 x.block (x.off + i * 4) = some (.agg #[.int .u8 it.p, .int .i32 it.s, .int .u8 it.q, .int .i32 it.t]) := by
      intro i hi
      obtain ⟨cs0, h0, _⟩ := hx 0 (by omega)
      obtain ⟨cs', h1, h2⟩ := hx i (by omega)
      rw [Yba.cells23] at h0 h1
      obtain ⟨it, rfl⟩ := item_cells h2
      obtain ⟨_, hlen0, hc0⟩ := World.cells?_some h0
      obtain ⟨_, _, hc⟩ := World.cells?_some h1
      obtain ⟨b, off, spot⟩ := x
      have hs : spot = none := by
        have := hc0 0 (by omega)
        rw [List.getElem?_eq_getElem (by omega)] at this
        simpa [Addr.add] using World.cell?_spot this
      subst hs
      refine ⟨it, rfl, ?_, ?_⟩
      · have := hc 0 (by omega)
        simp only [List.getElem?_cons_zero] at this
        rw [add_plain, add_plain] at this
        exact World.block_lt_of_cell? w ⟨b, off + i * 4 + 0, none⟩ this
      · refine aggAt_of_range (cs := [.int .u8 it.p, .int .i32 it.s, .int .u8 it.q, .int .i32 it.t]) (fun j v hj => ?_) rfl
        have hj' : j < 4 := (List.getElem?_eq_some_iff.1 hj).1
        have := hc j hj'
        rw [add_plain, add_plain] at this
        rw [this]
        exact hj
    by_cases h0 : len = 0
    · exact ⟨fun _ => ⟨0, 0, 0, 0⟩, .inr ⟨x, rfl, fun h => by omega, fun j hj => by omega⟩⟩
    · refine ⟨fun i => if hi : i < len then Classical.choose (each i hi) else ⟨0, 0, 0, 0⟩, .inr ⟨x, rfl, fun _ => ?_, fun j hj => ?_⟩⟩
      · obtain ⟨_, h1, h2, _⟩ := each 0 (by omega)
        exact ⟨h1, h2⟩
      · simp only [dif_pos hj]
        exact (Classical.choose_spec (each j hj)).2.2
end
end Go.Proofs.Ybulkdfle
