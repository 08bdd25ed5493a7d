/- answerBody.Read by its contract. -/
import Derived.Test.YbulkdfokDoorRead
namespace Go.Proofs.YbulkdfokDoor
open Go.ChangeShapes Go.WideShapes Go.ChangeAt Go.RowKit

/-- The answer's body as it lies in memory. -/
def ansC (bb : Nat) (keep en : Bool) : Array Value := #[.iface 26 (.pointer (some ⟨bb, 0, none⟩)), .pointer none, .pointer none, .bool keep, .bool en, .nilFunc]

theorem Ybad.info44 : (Ybad.prog.info? 44).map (fun i => i.comparable) = some true := by kernel_rfl
theorem Ybad.info41 : (Ybad.prog.info? 41).map (fun i => i.comparable) = some true := by kernel_rfl
theorem Ybad.info46 : (Ybad.prog.info? 46).map (fun i => i.size) = some 1 := by kernel_rfl
theorem Ybad.under44 : Ybad.prog.underlying 44 = some (.pointer 46) := by kernel_rfl

theorem ms24 : ∃ ms, Ybad.prog.underlying 24 = some (.interface ms) := ⟨_, Ybad.underlying24⟩

/-- How the error that the script answers compares with io.EOF. -/
theorem eql_eof {kd : Nat} {ea oa : Addr} {ce co : Array Value} {te to : TypeId} {w : World} (hkd : kd ≤ 3) (hne : oa ≠ ea) (ho : w.heap[oa.block]? = some (.cells co to (0, 0))) (he : w.heap[ea.block]? = some (.cells ce te (0, 0))) :
    (binOp .eql 24 (errV kd ea oa) (.iface 44 (.pointer (some ea)))).run Ybad.prog w = .ok (.bool (kd == 1)) w := by
  obtain ⟨ms, h24⟩ := ms24
  obtain ⟨i, hi, hc⟩ : ∃ i, Ybad.prog.info? 44 = some i ∧ i.comparable = true := by
    have := Ybad.info44
    cases h : Ybad.prog.info? 44 <;> simp [h] at this
    exact ⟨_, rfl, this⟩
  obtain ⟨j, hj, hs⟩ : ∃ j, Ybad.prog.info? 46 = some j ∧ j.size = 1 := by
    have := Ybad.info46
    cases h : Ybad.prog.info? 46 <;> simp [h] at this
    exact ⟨_, rfl, this⟩
  have h4 : kd = 0 ∨ kd = 1 ∨ kd = 2 ∨ kd = 3 := by omega
  rcases h4 with rfl | rfl | rfl | rfl
  · exact run_eql_iface_nil_left w 44 _ h24
  · exact run_eql_iface_ptr_same w ea h24 Ybad.under44 hi hc hj
  · exact run_eql_iface_ptr_other w h24 Ybad.under44 hi hc hj (by omega) hne ho he
  · show (binOp .eql 24 (.iface 41 (.agg #[])) (.iface 44 (.pointer (some ea)))).run Ybad.prog w = .ok (.bool false) w
    have h : ∀ d : Nat, (Op.equalIn (d + 1) 24 (.iface 41 (.agg #[])) (.iface 44 (.pointer (some ea)))).run Ybad.prog w = .ok false w := fun d => by simp [Op.equalIn, run_underlying h24]
    simp only [binOp]
    simp [Op.equal, Op.maxDepth, h 9999]

theorem guard_iface (P : Program) (w : World) (t t' : TypeId) (x y : Operand) (v p : Value) : (eqGuard .eql t x y v (.iface t' p)).run P w = .ok () w := by
  have : eqGuard .eql t x y v (.iface t' p) = pure () := by cases v <;> rfl
  rw [this]; rfl

theorem method_read (a : Addr) (w : World) : (method 210 26 (.pointer (some a)) "Read").run Ybad.prog w = .ok (22, .pointer (some a)) w := by kernel_rfl

/-- What the Read leaves. -/
structure Post (B bb ab pb k m n kd : Nat) (nsV kindsV : Value) (keep en : Bool) (oa : Addr) (ls : List Value) (w w' : World) (v' : Value) (xs' : List Value) : Prop where
  body : w'.heap[bb]? = some (.cells (bodyC nsV kindsV (k + 1) v' oa) 29 (0, 0))
  ans : w'.heap[ab]? = some (.cells (ansC bb keep (en || kd == 1)) 37 (0, 0))
  own : w'.ownsRow B 3 1 v' (k + 1) (ls ++ [.int .i64 m])
  row : w'.ownsRow B 5 1 (.slice (some ⟨pb, 0, none⟩) m m) m xs'
  data : ∀ j, j < n → xs'[j]? = some (.int .u8 (((k + j) % 256 : Nat) : Int))
  below : Below B w w'
  oth : w'.heap[oa.block]? = w.heap[oa.block]?

set_option maxHeartbeats 1000000 in
theorem answer_read (B bb ab pb k m z nb noff nl nc kl kc kd : Nat) (keep en : Bool) (ka : Option Addr) (ea oa : Addr) (lensV : Value) (ls xs : List Value) (ce co : Array Value) (te : TypeId) (w : World)
    (hk : k < 1024) (hkn : k < nl) (hnl : nl ≤ 1024) (hm : m ≤ 255) (hz : z ≤ 255) (hB : B ≤ w.heap.size) (hB1 : B ≤ bb) (hB2 : B ≤ ab) (hB0 : 0 < B) (hnb : nb < B)
    (hbb : w.heap[bb]? = some (.cells (bodyC (.slice (some ⟨nb, noff, none⟩) nl nc) (.slice ka kl kc) k lensV oa) 29 (0, 0)))
    (hab : w.heap[ab]? = some (.cells (ansC bb keep en) 37 (0, 0)))
    (hoa : w.heap[oa.block]? = some (.cells co 46 (0, 0))) (hea : w.heap[ea.block]? = some (.cells ce te (0, 0))) (hoB : B ≤ oa.block) (heB : ea.block < B)
    (hown : w.ownsRow B 3 1 lensV k ls) (hp : w.ownsRow B 5 1 (.slice (some ⟨pb, 0, none⟩) m m) m xs)
    (hns : w.cell? ⟨nb, noff + k, none⟩ = some (.int .u8 (z : Nat))) (hkd : KindAt w B ka kl k kd)
    (hE : w.cell? ⟨0, 0, none⟩ = some (.iface 44 (.pointer (some ea)))) :
    Calls Ybad.prog 5 #[.pointer (some ⟨ab, 0, none⟩), .slice (some ⟨pb, 0, none⟩) m m] w fun e w' =>
      e = .returned (.tuple #[.int .i64 ((z % (m + 1) : Nat) : Int), errV kd ea oa]) ∧
      ∃ v' xs', Post B bb ab pb k m (z % (m + 1)) kd (.slice (some ⟨nb, noff, none⟩) nl nc) (.slice ka kl kc) keep en oa ls w w' v' xs' := by
  have hc0 : w.cell? ⟨ab, 0, none⟩ = some (.iface 26 (.pointer (some ⟨bb, 0, none⟩))) := by rw [cell_of_row w ab 0 _ 37 (0, 0) hab]; rfl
  have hbr := body_read B bb pb k m z nb noff nl nc kl kc kd ka ea oa lensV ls xs w hk hkn hnl hm hz hB hB1 hB0 hnb hbb hown hp hns hkd hE
  obtain ⟨n, hn0⟩ : ∃ n, n = z % (m + 1) := ⟨_, rfl⟩
  rw [← hn0] at hbr ⊢
  clear hn0
  have HBR := hide hbr
  clear hbr
  have HBB := hide hbb
  have HAB := hide hab
  have HOA := hide hoa
  have HEA := hide hea
  have HOWN := hide hown
  have HP := hide hp
  have HKD := hide hkd
  have HNS := hide hns
  have HE := hide hE
  clear hbb hown hp hkd hns hE hab hoa hea
  go_enter Ybad.func5, Ybad.ntmps5
  have hmr := method_read ⟨bb, 0, none⟩
  go_wp2_with fail
  refine HBR.out.mono ?_
  rintro e wL ⟨rfl, v', xs', hL, hx⟩
  clear hmr hc0
  have habL : wL.heap[ab]? = some (.cells (ansC bb keep en) 37 (0, 0)) := by
    rw [hL.keep ab ((Array.getElem?_eq_some_iff.1 HAB.out).1) ?_ ?_ ?_]
    · exact HAB.out
    · rintro rfl
      have := HAB.out.symm.trans HBB.out
      simp at this
    · exact other_block HP.out HAB.out (by decide)
    · exact own_ne HOWN.out HAB.out (by decide)
  have hoL : wL.heap[oa.block]? = w.heap[oa.block]? := by
    refine hL.keep oa.block ((Array.getElem?_eq_some_iff.1 HOA.out).1) ?_ ?_ ?_
    · intro e
      have := HOA.out
      rw [e, HBB.out] at this
      simp at this
    · exact other_block HP.out HOA.out (by decide)
    · exact own_ne HOWN.out HOA.out (by decide)
  have hkd3 : kd ≤ 3 := by
    rcases HKD.out with ⟨_, rfl⟩ | ⟨_, _, y, _, _, _, _, _, rfl⟩ <;> omega
  have hq : (binOp .eql 24 (errV kd ea oa) (.iface 44 (.pointer (some ea)))).run Ybad.prog wL = .ok (.bool (kd == 1)) wL :=
    eql_eof hkd3 (fun e => by rw [e] at hoB; omega) (hoL.trans HOA.out) ((hL.below.block _ heB).trans HEA.out)
  have c0 : wL.cell? ⟨0, 0, none⟩ = some (.iface 44 (.pointer (some ea))) := by rw [hL.below.cell hB0]; exact HE.out
  have HQL := hide hL
  have HX := hide hx
  have HABL := hide habL
  have HOL := hide hoL
  clear hL hx habL hoL
  have hgd := fun p => guard_iface Ybad.prog wL 24 44 (.tmp 17) (.tmp 18) (errV kd ea oa) p
  generalize hev : errV kd ea oa = ev at hq hgd ⊢
  have HEV := hide hev
  clear hev
  by_cases h1 : kd = 1
  · subst h1
    have c4 : wL.cell? ⟨ab, 4, none⟩ = some (.bool en) := by rw [cell_of_row wL ab 4 _ 37 (0, 0) HABL.out]; rfl
    have f4 := frozen_of_row wL ab 4 _ 37 HABL.out
    rw [show ((1 : Nat) == 1) = true from rfl] at hq
    go_wp2
    go_ret2
    have hs : wL.grownBy (wL.setCell ⟨ab, 4, none⟩ (.bool true)) (some ab) := ⟨rfl, rfl, rfl, by simp [World.setCell], fun k _ hk => Below.heap_setCell wL _ _ k (fun e => hk (by rw [e]))⟩
    have hbb := HQL.out.body
    have hne : bb ≠ ab := by
      rintro rfl
      have := hbb.symm.trans HABL.out
      simp at this
    refine ⟨by rw [HEV.out]; rfl, v', xs', ?_, ?_, HQL.out.own.kept hs (.inr ?_), HQL.out.row.kept hs (.inr ?_), HX.out, HQL.out.below.setCell (by exact hB2) _, ?_⟩
    · rw [hs.block bb ((Array.getElem?_eq_some_iff.1 hbb).1) (by simp; exact hne)]; exact hbb
    · rw [heap_setCell_same wL ab 4 _ 37 _ HABL.out]
      simp [ansC]
    · exact fun e => own_ne HQL.out.own HABL.out (by decide) e.symm
    · exact fun e => own_ne HQL.out.row HABL.out (by decide) e.symm
    · have hol : oa.block < wL.heap.size := Nat.lt_of_lt_of_le ((Array.getElem?_eq_some_iff.1 HOA.out).1) HQL.out.below.size
      have hoab : oa.block ≠ ab := by
        intro e
        have := HOA.out
        rw [e, HAB.out] at this
        simp at this
      rw [hs.block oa.block hol (by simp; exact hoab)]
      exact HOL.out
  · have hb : (kd == 1) = false := by simp [h1]
    rw [hb] at hq
    go_wp2
    go_ret2
    refine ⟨by rw [HEV.out]; rfl, v', xs', HQL.out.body, ?_, HQL.out.own, HQL.out.row, HX.out, HQL.out.below, HOL.out⟩
    rw [hb, Bool.or_false]
    exact HABL.out
end Go.Proofs.YbulkdfokDoor
