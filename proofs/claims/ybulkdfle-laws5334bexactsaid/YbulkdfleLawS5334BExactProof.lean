/- The proof of 'Rows.LawS5334BExactSaid': the given shell, its hole filled. -/
import Derived.Test.YbulkdfleRows
import Derived.WalkKit
import Derived.ProofKit
import Derived.OpenShut
import Derived.ShutString
import Derived.ChangeOld
import Derived.Below
import Derived.Test.YbulkdfleSep
namespace Go.Proofs.Ybulkdfle.lawS5334BExact
open Go.ChangeShapes Go.WideShapes Go.ChangeAt Go.RowKit
open Go.ChangeMaps (open_string shut_string)
set_option linter.unusedVariables false

theorem own : ownKnob Yba.prog.godebug = none := by kernel_rfl
theorem laidOut : laidOutB Yba.prog = true := by kernel_rfl

/-- WHAT THE WALK IS TOLD OF A SLICE OF INTEGERS THAT CAME IN: it is nil; or it leads to a row of 'cap' cells, the numbers 'zs' (the first 'len' are its elements, the rest its spare room), each fitting its kind. -/
def IsRow (k : IntKind) (w : World) (a : Option Addr) (len cap : Nat) (zs : List Int) : Prop :=
  (a = none ∧ len = 0 ∧ cap = 0 ∧ zs = []) ∨
  ∃ x, a = some x ∧ len ≤ cap ∧ cap ≤ maxLen ∧ zs.length = cap ∧ (∀ i, i < zs.length → w.cell? (x.add i) = some (.int k (zs.getD i 0))) ∧ ∀ n ∈ zs, (Lit.int k n).wf = true

/-! ### STEP 1: THE WALK: the Go text returns true, and writes nothing that was there -/
theorem walk_nil (a1 : Int) (a2 : Bool) (w : World) :
    Calls Yba.prog 5 #[.slice none 0 0, .int .u8 a1, .bool a2] w fun e w' => e = .returned (.bool true) ∧ Below w.heap.size w w' := by
  have hne := fun wx => run_neq_slice_nil_any (P := Yba.prog) wx 46 5 none 0 0 0 0 Yba.underlying46
  have heq := fun wx => Lib.run_eql_slice_nil (P := Yba.prog) wx 46 5 none 0 0 0 0 Yba.underlying46
  cases a2
  · go_enter Yba.func5, Yba.ntmps5
    go_wp2_with (go_at_call 9; refine (appendSep_no _ _ _).mono ?_; rintro e w' ⟨rfl, rfl⟩)
    refine wp_loop_rounds 1 ?_
    rw [rounds_succ]
    go_wp2
    go_ret
    exact ⟨rfl, Below.refl _ _⟩
  · go_enter Yba.func5, Yba.ntmps5
    go_wp2_with fail
    refine (appendSep_yes none 0 [] a1 (by omega) rfl (fun _ => rfl) _ nofun).mono ?_
    rintro e w1 ⟨g, cap, rfl, hg, hlt, hc, hs, hb⟩
    clear hc
    go_wp2
    refine wp_loop_rounds 1 ?_
    rw [rounds_succ]
    go_wp2
    go_ret
    exact ⟨rfl, hb⟩

theorem walk_pos (x : Addr) (len cap : Nat) (z : List Int) (a1 : Int) (a2 : Bool) (w : World) (hl : len ≤ 4096) (hlc : len ≤ cap) (hz : z.length = cap)
    (hcell : ∀ i, i < len → w.cell? (x.add i) = some (.int .u8 (z.getD i 0))) :
    Calls Yba.prog 5 #[.slice (some x) len cap, .int .u8 a1, .bool a2] w fun e w' => e = .returned (.bool true) ∧ Below w.heap.size w w' := by
  have hne := fun wx => run_neq_slice_nil_any (P := Yba.prog) wx 46 5 (some x) len cap 0 0 Yba.underlying46
  have heq := fun wx n c => Lib.run_eql_slice_nil (P := Yba.prog) wx 46 5 (some x) n c 0 0 Yba.underlying46
  obtain ⟨i0, hi, hz0, hz1, hz2⟩ := info_parts Yba.info5
  have HC := hide hcell
  clear hcell
  go_enter Yba.func5, Yba.ntmps5
  go_wp2_with (at_make; refine wpList_make_full _ rfl _ _ 46 rfl w.heap.size 5 i0 (.int .u8 0) 1 Yba.underlying46 hi hz0 hz1 _ _ _ _ len rfl rfl rfl rfl (by rw [hz2]; omega) (by unfold maxLen; omega) (Nat.le_refl _) ?_)
  intro w1 hown hgrow
  obtain ⟨w2, hcp, hc2, hb2, hs2⟩ := copy_fact hlc hz HC.out hown hgrow
  clear hown hgrow hi hz0 hz1 hz2
  have HC2 := hide hc2
  clear hc2
  go_wp2_with fail
  have heq2 := fun wx => Lib.run_eql_slice_nil (P := Yba.prog) wx 46 5 (some (⟨w.heap.size, 0, none⟩ : Addr)) len len 0 0 Yba.underlying46
  cases a2
  · refine (appendSep_no _ _ _).mono ?_
    rintro e w3 ⟨rfl, rfl⟩
    go_wp2
    go_loopw [10] (fun i wr => ∃ k nr : Nat, k ≤ len ∧ i = .int .i64 k ∧ wr = w3.drewN nr) (fun i _ => len - (intOf i).toNat)
    case atStart => exact ⟨0, 0, Nat.zero_le _, rfl, rfl⟩
    case round =>
      obtain ⟨k, nr, hk, rfl, hwr⟩ := hrel
      by_cases hlt : k < len
      · obtain ⟨b, off, spot⟩ := x
        have hc := HC.out k hlt
        have hspot : spot = none := by simpa [Addr.add] using World.cell?_spot (HC.out 0 (by omega))
        subst hspot
        have hc1 : wr.cell? ⟨b, off + k, none⟩ = some (.int .u8 (z.getD k 0)) := by rw [hwr]; exact cell_later (below_drewN hb2 _) (by rw [← add_plain]; exact hc)
        have hc2 : wr.cell? ⟨w.heap.size, k, none⟩ = some (.int .u8 (z.getD k 0)) := by rw [hwr]; exact HC2.out k hlt
        have hlt' : (k : Int) < (len : Int) := by omega
        generalize z.getD k 0 = c at hc1 hc2
        have HW := hide hwr
        clear hc hwr
        go_wp2
        go_quiet (fail)
        go_wp2
        go_roundw
        case rel => exact ⟨k + 1, nr + nq, by omega, by go_num, by rw [HW.out, World.drewN_drewN]⟩
        case measure => simp [intOf]; omega
      · have HW := hide hwr
        clear hwr
        go_wp2
        go_ret
        exact ⟨rfl, by rw [HW.out]; exact below_drewN hb2 _⟩
  · refine (appendSep_yes (some ⟨w.heap.size, 0, none⟩) len (z.take len) a1 hl (by simp; omega) nofun _ ?_).mono ?_
    · intro g hg j hj
      obtain rfl := Option.some.inj hg
      rw [Addr.add_lit, Nat.zero_add, HC2.out j hj]
      simp [hj]
    rintro e w3 ⟨g, rc, rfl, hg, hgl, hgc, hgs, hb3⟩
    have HG := hide hgc
    clear hgc
    have hb4 := hb2.trans (hb3.mono (by omega))
    go_wp2
    go_loopw [10] (fun i wr => ∃ k nr : Nat, k ≤ len ∧ i = .int .i64 k ∧ wr = w3.drewN nr) (fun i _ => len - (intOf i).toNat)
    case atStart => exact ⟨0, 0, Nat.zero_le _, rfl, rfl⟩
    case round =>
      obtain ⟨k, nr, hk, rfl, hwr⟩ := hrel
      by_cases hlt : k < len
      · obtain ⟨b, off, spot⟩ := x
        have hc := HC.out k hlt
        have hspot : spot = none := by simpa [Addr.add] using World.cell?_spot (HC.out 0 (by omega))
        subst hspot
        have hc1 : wr.cell? ⟨b, off + k, none⟩ = some (.int .u8 (z.getD k 0)) := by rw [hwr]; exact cell_later (below_drewN hb4 _) (by rw [← add_plain]; exact hc)
        have hc2 : wr.cell? ⟨w.heap.size, k, none⟩ = some (.int .u8 (z.getD k 0)) := by rw [hwr]; exact cell_later (below_drewN hb3 _) (HC2.out k hlt)
        have hc3 : wr.cell? ⟨g, k, none⟩ = some (.int .u8 (z.getD k 0)) := by rw [hwr]; refine (HG.out k hlt).trans ?_; simp [hlt]
        have hlt' : (k : Int) < (len : Int) := by omega
        generalize z.getD k 0 = c at hc1 hc2 hc3
        have HW := hide hwr
        clear hc hwr hgs
        go_wp2
        go_quiet (fail)
        go_wp2
        go_roundw
        case rel => exact ⟨k + 1, nr + nq, by omega, by go_num, by rw [HW.out, World.drewN_drewN]⟩
        case measure => simp [intOf]; omega
      · have HW := hide hwr
        clear hwr
        go_wp2
        go_ret
        exact ⟨rfl, by rw [HW.out]; exact below_drewN hb4 _⟩

theorem walk (a0 : Option Addr) (len0 cap0 : Nat) (z0 : List Int) (a1 : Int) (a2 : Bool) (w : World) (w0 : IsRow .u8 w a0 len0 cap0 z0) (w1 : (Lit.int .u8 a1).wf = true) :
    Calls Yba.prog 5 #[.slice a0 len0 cap0, .int .u8 a1, .bool a2] w fun e w' => e = .returned (.bool true) ∧ Below w.heap.size w w' := by
  rcases w0 with ⟨rfl, rfl, rfl, rfl⟩ | ⟨x, rfl, hl, hm, hz, hcell, hwz⟩
  · exact walk_nil a1 a2 w
  · by_cases h : len0 ≤ 4096
    · exact walk_pos x len0 cap0 z0 a1 a2 w h hl hz (fun i hi => hcell i (by omega))
    · clear hcell hwz
      unfold maxLen at hm
      have h' : ((4096 : Int) < (len0 : Int)) := by omega
      go_enter Yba.func5, Yba.ntmps5
      go_wp2
      go_ret
      exact ⟨rfl, Below.refl _ _⟩

/-! ### THE ROW's STEP: WRITTEN OUT: LEAVE IT -/
set_option maxRecDepth 100000 in
theorem lifted (os : Os) (started : os.Started) (H : Type) (enc : TypeId × Value → H) :
    ReturnsInHanded {} Yba.checked os 5 .any (Rows.lawS5334BExactSpec.pre6 enc Yba.prog Yba.f5 Rows.lawS5334BExactRow.domain false) (Rows.lawS5334BExactSpec.post enc Yba.prog Yba.f5 false true false false) := by
  refine returnsInHanded_of_change (C := Yba.checked) own started (by kernel_rfl) Yba.func5
    (ChangeSpec.witness6 (enc := enc) (C := Yba.checked) false ⟨#[], #[.slice none 0 0, .int .u8 0, .bool false], []⟩ 8 (by kernel_rfl) (by kernel_rfl) (by kernel_rfl) (by kernel_rfl)) ?_
  intro W base args ds gs before hval0 hW hcnd _
  have hval : ∀ (j : Nat) t v, Yba.f5.params[j]? = some t → args[j]? = some v → Value.okWide Yba.prog W .any base t v := hval0
  have hW' := hW
  obtain ⟨p, q, hA0, hV, rfl, hfz, hnd⟩ := hW
  have hA : DataW.TrodAll enc Yba.prog W 0 (fun _ => true) true Yba.f5.params.toList args.toList ds p := hA0
  rw [Yba.params5] at hA hval
  obtain ⟨v0, vs0, d0, ds0, p0, q0, hargs, rfl, rfl, h0, r0⟩ := trodAll_cons hA
  obtain ⟨v1, vs1, d1, ds1, p1, q1, rfl, rfl, rfl, h1, r1⟩ := trodAll_cons r0
  obtain ⟨v2, vs2, d2, ds2, p2, q2, rfl, rfl, rfl, h2, r2⟩ := trodAll_cons r1
  obtain ⟨rfl, rfl, rfl⟩ := trodAll_nil r2
  obtain rfl : args = #[v0, v1, v2] := by cases args; simp_all
  obtain ⟨rfl, rfl⟩ := trodVars_none hV
  obtain ⟨a0, len0, cap0, rfl⟩ := okWide_slice Yba.underlying46 (hval 0 46 v0 rfl rfl)
  have k0 := h0
  have lt0 : ∀ x ∈ p0, x.block < W.heap.size := by obtain ⟨m, hm⟩ := k0; exact DataW.trod_lt m _ _ _ hm
  obtain ⟨z0, w0⟩ : ∃ zs, IsRow .u8 W a0 len0 cap0 zs := by
    obtain ⟨fuel, hf⟩ := h0
    rcases open_ints Yba.underlying46 Yba.underlying5 (by kernel_rfl) hf with ⟨hcs, _⟩ | ⟨x, l, c, zs, hcs, _, hl, hm, hz, _, hcell, hwz⟩
    · simp [Value.cells] at hcs
      obtain ⟨rfl, rfl, rfl⟩ := hcs
      exact ⟨[], .inl ⟨rfl, rfl, rfl, rfl⟩⟩
    · simp [Value.cells] at hcs
      obtain ⟨rfl, rfl, rfl⟩ := hcs
      exact ⟨zs, .inr ⟨_, rfl, hl, hm, by simpa using hz, hcell, hwz⟩⟩
  obtain ⟨a1, rfl, rfl, rfl, w1⟩ := open_int Yba.underlying5 (hval 1 5 v1 rfl rfl) h1
  obtain ⟨a2, rfl, rfl, rfl⟩ := open_bool Yba.underlying4 (hval 2 4 v2 rfl rfl) h2
  clear hA0 hval0
  refine (walk a0 len0 cap0 z0 a1 a2 W w0 w1).mono fun e W' ⟨he, bel⟩ => ?_
  subst he
  exact ⟨_, rfl, _, _, _, [], _, [], hW', trodAll_mk1 (shut_bool Yba.underlying4 _), (trodAll_cons_mk (Below.trod laidOut (by kernel_rfl) (of_decide_eq_true (by kernel_rfl)) k0 bel lt0) (trodAll_cons_mk (shut_int Yba.underlying5 w1) (trodAll_cons_mk (shut_bool Yba.underlying4 _) trodAll_mk0))), rfl, bel.frame _, fun h => by cases h⟩

theorem over : Rows.lawS5334BExactRow.holds Yba.pinned (OpenSpec.ofChange Rows.lawS5334BExactSpec) :=
  OpenClaim.holds_of_wide 5 Yba.f5 rfl rfl rfl rfl rfl rfl rfl ⟨rfl, rfl, rfl, rfl, rfl⟩ rfl rfl rfl rfl rfl (by kernel_rfl) Yba.func5 (by kernel_rfl)
    (of_decide_eq_true (by kernel_rfl)) (by unfold Func.isWrapper; first | (rw [if_pos (by decide +kernel)]; kernel_rfl) | (rw [if_neg (by decide +kernel)]; exact ⟨rfl, rfl⟩))
    (fun os started H enc _ => lifted os started H enc)

/-- ████ THE STATEMENT ████ -/
theorem proved : Rows.LawS5334BExactSaid := over
#print axioms proved
end Go.Proofs.Ybulkdfle.lawS5334BExact
