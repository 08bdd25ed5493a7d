/- The proof of the row 'Rows.LawS5340CScriptSaid'. -/
import Derived.Test.YbulkdfokDoorRows
import Derived.WalkKit
import Derived.ProofKit
import Derived.OpenShut
import Derived.ShutString
import Derived.ChangeOld
import Derived.Below
import Derived.LaidMore
import Derived.LaidLaws
import Derived.Stop.LaidErr
import Derived.Stop.Joined
import Derived.Test.YbulkdfokDoorLaw
namespace Go.Proofs.YbulkdfokDoor.lawS5340CScript
open Go.ChangeShapes Go.WideShapes Go.ChangeAt Go.RowKit
set_option linter.unusedVariables false

theorem own : ownKnob Ybad.prog.godebug = none := by kernel_rfl
theorem laidOut : laidOutB Ybad.prog = true := by kernel_rfl
theorem gEof : Ybad.prog.globalNamed "io.EOF" = some 0 := by kernel_rfl
theorem tEof : (Ybad.prog.globals[0]?).map (·.type) = some 24 := by kernel_rfl
theorem cells46 : Ybad.prog.cellsOf 46 = 1 := by kernel_rfl
theorem cells9 : Ybad.prog.cellsOf 9 = 1 := by kernel_rfl
theorem nameEof (u : TypeId) (hu : Ybad.prog.typeName? 3 u = some "*errors.errorString") : u = 44 :=
  typeName_ptr_named (nm := "errors.errorString") (by kernel_rfl) (by kernel_rfl) (by decide) u hu

/-- The door's own heap meets the condition. -/
theorem door_met (os : Os) (args : Array Value) : laidMetH Ybad.prog [("io.EOF", Rows.laid_io_EOF)] ((World.doorLaid Ybad.prog 47 os).forCall (fun _ _ => 0) ⟨#[], args, []⟩).memory :=
  laidMetH_of_parts3 (fuel := 8) (laidMet_of_run' 8 (by kernel_rfl) (by kernel_rfl)) (by kernel_rfl) (by kernel_rfl)

/-- What the listed variable gives the walk. -/
theorem of_laid {W : World} (h : laidMetH Ybad.prog [("io.EOF", Rows.laid_io_EOF)] W) :
    ∃ (ea : Addr) (ce : Array Value) (te : TypeId), W.cell? ⟨0, 0, none⟩ = some (.iface 44 (.pointer (some ea))) ∧ W.heap[ea.block]? = some (.cells ce te (0, 0)) := by
  rw [MakeChecks.laidMetH_plain _ _ _ (by kernel_rfl)] at h
  obtain ⟨ps, ⟨g0, t0, cs0, f0, p0, q0, hg0, ht0, hv0, hd0, _, e0⟩, _, hrows⟩ := h
  obtain rfl := Option.some.inj (gEof.symm.trans hg0)
  obtain rfl := Option.some.inj (tEof.symm.trans ht0)
  subst e0
  obtain ⟨l0⟩ := cs0
  have ok0 : ∀ u v, l0 = [.iface u v] → Value.okWide Ybad.prog W .any 0 u v := fun u v e => by
    subst e
    exact (hrows 0 0 (by simp [MemPlace.row])).2 u v (by simpa using World.var?_cell hg0 hv0 0)
  obtain ⟨ms, h24⟩ := ms24
  obtain ⟨a0, s0, rfl, hc0, hs0, hz0, hp0⟩ := errorString_of_trod h24 nameEof Ybad.under44 Ybad.underlying46 rfl rfl Ybad.underlying9 cells46 cells9 hd0 ok0
  obtain ⟨⟨c, t, hb⟩, _⟩ := hrows a0.block a0.off (by rw [hp0]; simp [MemPlace.row])
  exact ⟨a0, c, t, by simpa using World.var?_cell hg0 hv0 0, hb⟩

/-- A slice of bytes that came in, as the walk is told of it. -/
theorem u8row_of {H : Type} {enc : TypeId × Value → H} {W : World} {a : Option Addr} {len cap : Nat} {d : DataW H} {p : List MemPlace} {b : Bool} {base : Nat}
    (h : ∃ fuel, DataW.trod enc Ybad.prog W base (fun _ => true) b fuel 22 (Value.slice a len cap).cells.toList = some (d, p)) : U8Row W a len := by
  obtain ⟨fuel, hf⟩ := h
  rcases open_ints Ybad.underlying22 Ybad.underlying5 (by kernel_rfl) hf with ⟨hcs, _⟩ | ⟨x, l, c, zs, hcs, _, hl, hm, hz, _, hcell, hwz⟩
  · simp [Value.cells] at hcs
    obtain ⟨rfl, rfl, rfl⟩ := hcs
    exact fun j hj => absurd hj (by omega)
  · simp [Value.cells] at hcs
    obtain ⟨rfl, rfl, rfl⟩ := hcs
    intro j hj
    have hzl : zs.length = cap := by simpa using hz
    have hcj := hcell j (by omega)
    obtain ⟨b, off, spot⟩ := x
    have hspot : spot = none := by simpa [Addr.add] using World.cell?_spot (hcell 0 (by omega))
    subst hspot
    rw [add_plain] at hcj
    have hjz : j < zs.length := by omega
    have hmem : zs.getD j 0 ∈ zs := by simp [hjz]
    have hw := bounds_u8 (hwz (zs.getD j 0) hmem)
    obtain ⟨z, hz'⟩ := Int.eq_ofNat_of_zero_le hw.1
    exact ⟨b, off, z, rfl, World.block_lt_of_cell? W ⟨b, off + j, none⟩ hcj, by rw [hcj, hz'], by omega⟩

theorem walk (na ka sa : Option Addr) (nl nc kl kc sl sc : Nat) (en0 keep : Bool) (ea : Addr) (ce : Array Value) (te : TypeId) (w : World)
    (hns : U8Row w na nl) (hks : U8Row w ka kl) (hss : U8Row w sa sl) (hE : w.cell? ⟨0, 0, none⟩ = some (.iface 44 (.pointer (some ea)))) (hea : w.heap[ea.block]? = some (.cells ce te (0, 0))) :
    Calls Ybad.prog 3 #[.slice na nl nc, .slice ka kl kc, .slice sa sl sc, .bool en0, .bool keep] w fun e w' => e = .returned (.bool true) ∧ Below w.heap.size w w' := by
  by_cases hl : nl ≤ 1024
  · exact law_walk na ka sa nl nc kl kc sl sc en0 keep ea ce te w hl hns hks hss hE hea
  · clear hns hks hss hE hea
    have hl' : (1024 : Int) < (nl : Int) := by omega
    exact over_walk na ka sa nl nc kl kc sl sc en0 keep w hl'

set_option maxRecDepth 100000 in
theorem lifted (os : Os) (started : os.Started) (H : Type) (enc : TypeId × Value → H) :
    ReturnsInHanded {} Ybad.checked os 3 .any (fun w args => (Rows.lawS5340CScriptSpec.pre enc Ybad.prog Ybad.f3 [] false w args ∧ laidMetH Ybad.prog [("io.EOF", Rows.laid_io_EOF)] w) ∧ sizedMet enc Ybad.prog Ybad.f3 (OpenSpec.ofChange Rows.lawS5340CScriptSpec) false w args)
      (Rows.lawS5340CScriptSpec.post enc Ybad.prog Ybad.f3 false true false false) := by
  refine returnsInHanded_of_change_and (C := Ybad.checked) (X := fun w _ => laidMetH Ybad.prog [("io.EOF", Rows.laid_io_EOF)] w) (fun _ _ _ hh h => h.of_heap hh) own started (by kernel_rfl) Ybad.func3
    (ChangeSpec.witness_shaped (enc := enc) (C := Ybad.checked) (os := os) (X := fun w _ => laidMetH Ybad.prog [("io.EOF", Rows.laid_io_EOF)] w) false (World.doorLaid Ybad.prog 47 os) #[.slice none 0 0, .slice none 0 0, .slice none 0 0, .bool false, .bool false] 8 rfl (World.shaped_of_RefB (by kernel_rfl) (by kernel_rfl)) (by kernel_rfl) (by kernel_rfl) (by kernel_rfl) (door_met os _)) ?_
  intro W base args ds gs before hval0 hW _ _ hL _
  have hval : ∀ (j : Nat) t v, Ybad.f3.params[j]? = some t → args[j]? = some v → Value.okWide Ybad.prog W .any base t v := hval0
  have hW' := hW
  obtain ⟨p, q, hA0, hV, rfl, hfz, hnd⟩ := hW
  have hA : DataW.TrodAll enc Ybad.prog W 0 (fun _ => true) true Ybad.f3.params.toList args.toList ds p := hA0
  rw [Ybad.params3] at hA hval
  obtain ⟨v0, vs0, d0, ds0, p0, q0, hargs, rfl, rfl, h0, r0⟩ := trodAll_cons hA
  obtain ⟨v1, vs1, d1, ds1, p1, q1, rfl, rfl, rfl, h1, r1⟩ := trodAll_cons r0
  obtain ⟨v2, vs2, d2, ds2, p2, q2, rfl, rfl, rfl, h2, r2⟩ := trodAll_cons r1
  obtain ⟨v3, vs3, d3, ds3, p3, q3, rfl, rfl, rfl, h3, r3⟩ := trodAll_cons r2
  obtain ⟨v4, vs4, d4, ds4, p4, q4, rfl, rfl, rfl, h4, r4⟩ := trodAll_cons r3
  obtain ⟨rfl, rfl, rfl⟩ := trodAll_nil r4
  obtain rfl : args = #[v0, v1, v2, v3, v4] := by cases args; simp_all
  obtain ⟨rfl, rfl⟩ := trodVars_none hV
  obtain ⟨a0, len0, cap0, rfl⟩ := okWide_slice Ybad.underlying22 (hval 0 22 v0 rfl rfl)
  obtain ⟨a1, len1, cap1, rfl⟩ := okWide_slice Ybad.underlying22 (hval 1 22 v1 rfl rfl)
  obtain ⟨a2, len2, cap2, rfl⟩ := okWide_slice Ybad.underlying22 (hval 2 22 v2 rfl rfl)
  obtain ⟨b3, rfl, rfl, rfl⟩ := open_bool Ybad.underlying4 (hval 3 4 v3 rfl rfl) h3
  obtain ⟨b4, rfl, rfl, rfl⟩ := open_bool Ybad.underlying4 (hval 4 4 v4 rfl rfl) h4
  have k0 := h0
  have lt0 : ∀ x ∈ p0, x.block < W.heap.size := by obtain ⟨m, hm⟩ := k0; exact DataW.trod_lt m _ _ _ hm
  have k1 := h1
  have lt1 : ∀ x ∈ p1, x.block < W.heap.size := by obtain ⟨m, hm⟩ := k1; exact DataW.trod_lt m _ _ _ hm
  have k2 := h2
  have lt2 : ∀ x ∈ p2, x.block < W.heap.size := by obtain ⟨m, hm⟩ := k2; exact DataW.trod_lt m _ _ _ hm
  obtain ⟨ea, ce, te, hE, hea⟩ := of_laid hL
  clear hA0 hval0
  refine (walk a0 a1 a2 len0 cap0 len1 cap1 len2 cap2 b3 b4 ea ce te W (u8row_of h0) (u8row_of h1) (u8row_of h2) hE hea).mono fun e W' ⟨he, bel⟩ => ?_
  subst he
  exact ⟨_, rfl, _, _, _, [], _, [], hW', trodAll_mk1 (shut_bool Ybad.underlying4 _), (trodAll_cons_mk (Below.trod laidOut (by kernel_rfl) (of_decide_eq_true (by kernel_rfl)) k0 bel lt0) (trodAll_cons_mk (Below.trod laidOut (by kernel_rfl) (of_decide_eq_true (by kernel_rfl)) k1 bel lt1) (trodAll_cons_mk (Below.trod laidOut (by kernel_rfl) (of_decide_eq_true (by kernel_rfl)) k2 bel lt2) (trodAll_cons_mk (shut_bool Ybad.underlying4 _) (trodAll_cons_mk (shut_bool Ybad.underlying4 _) trodAll_mk0))))), rfl, bel.frame _, fun h => by cases h⟩

/-- The row. -/
theorem row_holds : Rows.LawS5340CScriptSaid :=
  OpenClaim.holds_of_wide 3 Ybad.f3 rfl rfl rfl rfl rfl rfl rfl ⟨rfl, rfl, rfl, rfl, rfl⟩ rfl rfl rfl rfl rfl (by kernel_rfl) Ybad.func3 (by kernel_rfl)
    (of_decide_eq_true (by kernel_rfl)) (by unfold Func.isWrapper; first | (rw [if_pos (by decide +kernel)]; kernel_rfl) | (rw [if_neg (by decide +kernel)]; exact ⟨rfl, rfl⟩))
    (fun os started H enc _ => lifted os started H enc)
#print axioms row_holds
end Go.Proofs.YbulkdfokDoor.lawS5340CScript
