/- The walk of LawS5340CScript. -/
import Derived.Test.YbulkdfokDoorAnswer
namespace Go.Proofs.YbulkdfokDoor
open Go.ChangeShapes Go.WideShapes Go.ChangeAt Go.RowKit

theorem Ybad.info5 : (Ybad.prog.info? 5).map (fun i => (i.zero, i.size, i.bytes)) = some (some (.int .u8 0), 1, 1) := by kernel_rfl

/-- A slice of bytes that came in. -/
def U8Row (w : World) (a : Option Addr) (len : Nat) : Prop := ∀ j, j < len → ∃ b off z, a = some ⟨b, off, none⟩ ∧ b < w.heap.size ∧ w.cell? ⟨b, off + j, none⟩ = some (.int .u8 (z : Nat)) ∧ z ≤ 255

/-- What stands at the head of each round. -/
structure St (k nl : Nat) (nsV kindsV lensV : Value) (keep en : Bool) (ls : List Value) (co : Array Value) (w wr : World) : Prop where
  le : k ≤ nl
  body : wr.heap[w.heap.size + 1]? = some (.cells (bodyC nsV kindsV k lensV ⟨w.heap.size, 0, none⟩) 29 (0, 0))
  ans : wr.heap[w.heap.size + 1 + 1]? = some (.cells (ansC (w.heap.size + 1) keep en) 37 (0, 0))
  oth : wr.heap[w.heap.size]? = some (.cells co 46 (0, 0))
  own : wr.ownsRow w.heap.size 3 1 lensV k ls
  below : Below w.heap.size w wr

theorem heap3 (w : World) (a b c : Obj) : (((w.alloc a).alloc b).alloc c).heap[w.heap.size + 1 + 1]? = some c ∧ (((w.alloc a).alloc b).alloc c).heap[w.heap.size + 1]? = some b ∧ (((w.alloc a).alloc b).alloc c).heap[w.heap.size]? = some a := by
  refine ⟨?_, ?_, ?_⟩
  · have := heap_alloc2_new (w.alloc a) b c; rw [World.size_alloc] at this; exact this
  · rw [Below.heap_alloc _ _ _ (by simp)]; exact heap_alloc2_new w a b
  · rw [Below.heap_alloc _ _ _ (by simp; omega)]; exact heap_alloc2_old w a b

theorem St.grow {k nl : Nat} {nsV kindsV lensV : Value} {keep en : Bool} {ls : List Value} {co : Array Value} {w wr w1 : World} (h : St k nl nsV kindsV lensV keep en ls co w wr) (hg : wr.grownBy w1 none) : St k nl nsV kindsV lensV keep en ls co w w1 :=
  ⟨h.le, (hg.block _ ((Array.getElem?_eq_some_iff.1 h.body).1) nofun).trans h.body, (hg.block _ ((Array.getElem?_eq_some_iff.1 h.ans).1) nofun).trans h.ans, (hg.block _ ((Array.getElem?_eq_some_iff.1 h.oth).1) nofun).trans h.oth,
    h.own.kept hg (by cases lensV.ownBlock <;> simp), h.below.grown hg h.below.size nofun⟩

theorem kind_at {w w' : World} {ka : Option Addr} {kl : Nat} (h : U8Row w ka kl) (k : Nat) (hb : Below w.heap.size w w') : ∃ kd, KindAt w' w.heap.size ka kl k kd := by
  by_cases hk : k < kl
  · obtain ⟨b, off, y, h1, h2, h3, h4⟩ := h k hk
    exact ⟨y % 4, .inr ⟨b, off, y, hk, h1, h2, by rw [hb.cell h2]; exact h3, h4, rfl⟩⟩
  · exact ⟨0, .inl ⟨by omega, rfl⟩⟩

theorem neq_same (a : Addr) (w : World) : (binOp .neq 24 (.iface 44 (.pointer (some a))) (.iface 44 (.pointer (some a)))).run Ybad.prog w = .ok (.bool false) w := by
  obtain ⟨ms, h24⟩ := ms24
  obtain ⟨i, hi, hc⟩ : ∃ i, Ybad.prog.info? 44 = some i ∧ i.comparable = true := by
    have := Ybad.info44
    cases h : Ybad.prog.info? 44 <;> simp [h] at this
    exact ⟨_, rfl, this⟩
  obtain ⟨j, hj, hs⟩ : ∃ j, Ybad.prog.info? 46 = some j ∧ j.size = 1 := by
    have := Ybad.info46
    cases h : Ybad.prog.info? 46 <;> simp [h] at this
    exact ⟨_, rfl, this⟩
  simp only [binOp]
  simp [Op.equal, Op.maxDepth, run_equalIn_iface_ptr_same w 9998 a h24 Ybad.under44 hi hc hj]

theorem after_read {k nl pb m n kd : Nat} {nsV kindsV lensV v' : Value} {keep en : Bool} {ls xs' : List Value} {co : Array Value} {w w1 w3 : World} (h : St k nl nsV kindsV lensV keep en ls co w w1)
    (hp : Post w.heap.size (w.heap.size + 1) (w.heap.size + 1 + 1) pb k m n kd nsV kindsV keep en ⟨w.heap.size, 0, none⟩ ls w1 w3 v' xs') (hlt : k < nl) : St (k + 1) nl nsV kindsV v' keep (en || kd == 1) (ls ++ [.int .i64 m]) co w w3 :=
  ⟨hlt, hp.body, hp.ans, hp.oth.trans h.oth, hp.own, h.below.trans hp.below⟩

theorem assert_wrap (w : World) : (Instr.typeAssert (.iface 41 (.agg #[])) 24 41 true).run Ybad.prog w = .ok (.tuple #[.agg #[], .bool true]) w := by kernel_rfl

set_option maxRecDepth 100000 in
theorem over_walk (na ka sa : Option Addr) (nl nc kl kc sl sc : Nat) (en0 keep : Bool) (w : World) (hl : (1024 : Int) < (nl : Int)) :
    Calls Ybad.prog 3 #[.slice na nl nc, .slice ka kl kc, .slice sa sl sc, .bool en0, .bool keep] w fun e w' => e = .returned (.bool true) ∧ Below w.heap.size w w' := by
  go_enter Ybad.func3, Ybad.ntmps3
  go_wp2
  go_ret
  exact ⟨rfl, Below.refl _ _⟩

theorem nil_func (w : World) : (binOp .eql 35 .nilFunc .nilFunc).run Ybad.prog w = .ok (.bool true) w := by kernel_rfl

set_option maxRecDepth 100000 in
set_option maxHeartbeats 2000000 in
theorem law_walk (na ka sa : Option Addr) (nl nc kl kc sl sc : Nat) (en0 keep : Bool) (ea : Addr) (ce : Array Value) (te : TypeId) (w : World)
    (hnl : nl ≤ 1024) (hns : U8Row w na nl) (hks : U8Row w ka kl) (hss : U8Row w sa sl) (hE : w.cell? ⟨0, 0, none⟩ = some (.iface 44 (.pointer (some ea)))) (hea : w.heap[ea.block]? = some (.cells ce te (0, 0))) :
    Calls Ybad.prog 3 #[.slice na nl nc, .slice ka kl kc, .slice sa sl sc, .bool en0, .bool keep] w fun e w' => e = .returned (.bool true) ∧ Below w.heap.size w w' := by
  have hB0 : 0 < w.heap.size := World.block_lt_of_cell? w ⟨0, 0, none⟩ hE
  have heB : ea.block < w.heap.size := (Array.getElem?_eq_some_iff.1 hea).1
  have hle : (decide ((1024 : Int) < (nl : Int))) = false := by simp; omega
  have HNS := hide hns
  have HKS := hide hks
  have HSS := hide hss
  have HE := hide hE
  have HEA := hide hea
  clear hns hks hss hE hea
  go_enter Ybad.func3, Ybad.ntmps3
  go_wp2_with (go_at_call 4; refine (errNew_any _ _).mono ?_; rintro e w' ⟨rfl, rfl⟩)
  clear hle
  go_loopw [15, 16] (fun wt i wr => ∃ (k : Nat) (en : Bool) (lensV : Value) (ls : List Value), i = .int .i64 k ∧ wt = .bool en ∧ St k nl (.slice na nl nc) (.slice ka kl kc) lensV keep en ls #[.string ⟨#[122, 122, 115, 53, 51, 52, 48, 99, 32, 111, 116, 104, 101, 114]⟩] w wr) (fun _ i _ => nl - (intOf i).toNat)
  case atStart =>
    obtain ⟨e1, e2, e3⟩ := heap3 w _ _ _
    exact ⟨0, en0, .slice none 0 0, [], rfl, rfl, Nat.zero_le _, e2, e1, e3, ⟨rfl, .inl ⟨rfl, rfl⟩⟩, (((Below.refl _ _).alloc (Nat.le_refl _) _).alloc (by rw [World.size_alloc]; omega) _).alloc (by rw [World.size_alloc, World.size_alloc]; omega) _⟩
  case round =>
    obtain ⟨k, en, lensV, ls, rfl, rfl, hst⟩ := hrel
    have hkl := hst.le
    have HST := hide hst
    clear hst
    by_cases hlt : k < nl
    · have hlt' : (k : Int) < (nl : Int) := by omega
      obtain ⟨nb, noff, z, rfl, hnb, hnc, hz⟩ := HNS.out k hlt
      obtain ⟨i0, hi, hz0, hz1, hz2⟩ := info_parts Ybad.info5
      by_cases hks : k < sl
      · obtain ⟨sb, soff, s, rfl, hsb, hsc, hs⟩ := HSS.out k hks
        have hks' : (k : Int) < (sl : Int) := by omega
        have hsr : wr.cell? ⟨sb, soff + k, none⟩ = some (.int .u8 (s : Nat)) := by rw [HST.out.below.cell hsb]; exact hsc
        obtain ⟨m, hm⟩ : ∃ m, m = s % 100 := ⟨_, rfl⟩
        have hme : (s : Int) % 100 = (m : Int) := by omega
        have hml : m ≤ 99 := by omega
        clear hm hsc
        go_wp2_with (at_make; refine wpList_make_full _ rfl _ _ 22 rfl w.heap.size 5 i0 (.int .u8 0) 1 Ybad.underlying22 hi hz0 hz1 _ _ _ _ m rfl rfl hme hme (by rw [hz2]; omega) (by unfold maxLen; omega) HST.out.below.size ?_)
        intro w1 hown hgrow
        have hst1 := HST.out.grow hgrow
        have hpb := HST.out.below.size
        clear HST hgrow
        generalize wr.heap.size = pb at hown hpb ⊢
        clear hi hz0 hz1 hz2 hme hsr
        obtain ⟨kd, hkd⟩ := kind_at HKS.out k hst1.below
        have hcall := answer_read w.heap.size (w.heap.size + 1) (w.heap.size + 1 + 1) pb k m z nb noff nl nc kl kc kd keep en ka ea ⟨w.heap.size, 0, none⟩ lensV ls _ ce _ te w1 (by omega) hlt hnl (by omega) hz hst1.below.size (by omega) (by omega) hB0 hnb
          hst1.body hst1.ans hst1.oth ((hst1.below.block _ heB).trans HEA.out) (Nat.le_refl _) heB hst1.own hown (by rw [hst1.below.cell hnb]; exact hnc) hkd (by rw [hst1.below.cell hB0]; exact HE.out)
        have hr := rem_nat z m
        have hn := Nat.mod_lt z (show m + 1 > 0 by omega)
        obtain ⟨n, hn0⟩ : ∃ n, n = z % (m + 1) := ⟨_, rfl⟩
        rw [← hn0] at hcall hr hn
        have HCALL := hide hcall
        have HKD := hide hkd
        have HS1 := hide hst1
        have HNC := hide hnc
        have HN0 := hide hn0
        clear hcall hkd hst1 hnc hn0 hown
        go_wp2_with fail
        refine HCALL.out.mono ?_
        rintro e w3 ⟨rfl, v', xs', hpo⟩
        have hnc3 : w3.cell? ⟨nb, noff + k, none⟩ = some (.int .u8 (z : Nat)) := by rw [(HS1.out.below.trans hpo.below).cell hnb]; exact HNC.out
        generalize hev : errV kd ea ⟨w.heap.size, 0, none⟩ = ev
        have HEV := hide hev
        have HPO := hide hpo
        clear hev hpo HCALL
        go_wp2
        clear hr hnc3
        go_loopw [22] (fun j wi => ∃ c : Nat, c ≤ n ∧ j = .int .i64 c ∧ wi = w3) (fun j _ => n - (intOf j).toNat)
        case atStart => exact ⟨0, Nat.zero_le _, rfl, rfl⟩
        case round =>
          obtain ⟨c, hc, rfl, rfl⟩ := hrel
          by_cases hcn : c < n
          · have hcn' : (c : Int) < (n : Int) := by omega
            have hcell : wr.cell? ⟨pb, c, none⟩ = some (.int .u8 (((k : Int) + (c : Int)) % 256)) := by
              rw [HPO.out.row.cellAt c (by omega), HPO.out.data c hcn]
              congr 2
            go_wp2
            go_roundw
            case rel => exact ⟨c + 1, by omega, by go_num, by first | rfl | trivial⟩
            case measure => simp [intOf]; omega
          · have hcn' : ¬ (c : Int) < (n : Int) := by omega
            obtain ⟨g, cp, rfl⟩ : ∃ g cp, v' = .slice (some ⟨g, 0, none⟩) (k + 1) cp := by
              rcases HPO.out.own.2 with ⟨_, h0⟩ | ⟨g, cp, cur, rfl, _⟩
              · omega
              · exact ⟨g, cp, rfl⟩
            have c3 : wr.cell? ⟨w.heap.size + 1, 3, none⟩ = some (.slice (some ⟨g, 0, none⟩) (k + 1) cp) := by rw [cell_of_row wr _ 3 _ 29 (0, 0) HPO.out.body]; rfl
            have c4 : wr.cell? ⟨w.heap.size + 1 + 1, 4, none⟩ = some (.bool (en || kd == 1)) := by rw [cell_of_row wr _ 4 _ 37 (0, 0) HPO.out.ans]; rfl
            have hll : ls.length = k := by have := HS1.out.own.1; omega
            have cg : wr.cell? ⟨g, k, none⟩ = some (.int .i64 m) := by
              rw [HPO.out.own.cellAt k (by omega), List.getElem?_append_right (by omega), hll, Nat.sub_self]
              rfl
            have fin := after_read HS1.out HPO.out hlt
            have HFIN := hide fin
            clear fin hll hnb hz
            rcases HKD.out.below HPO.out.below with ⟨hkk, rfl⟩ | ⟨kb, koff, y, hkk, rfl, hkb, hky, hy, hkd'⟩
            · obtain rfl : ev = .nilIface := by rw [← HEV.out]; rfl
              have hkk' : ¬ (k : Int) < (kl : Int) := by omega
              rw [show (en || ((0 : Nat) == 1)) = en by simp] at c4
              rw [show (en || ((0 : Nat) == 1)) = en by simp] at HFIN
              clear HPO HS1 HKD HEV HKS
              go_wp2
              go_roundw
              case rel => exact ⟨k + 1, en, _, _, by go_num, rfl, HFIN.out⟩
              case measure => simp [intOf]; omega
            · have hkk' : (k : Int) < (kl : Int) := by omega
              have h4 : y % 4 = 0 ∨ y % 4 = 1 ∨ y % 4 = 2 ∨ y % 4 = 3 := by omega
              rcases h4 with h4 | h4 | h4 | h4
              · have e4 : (y : Int) % 4 = 0 := by omega
                obtain rfl : kd = 0 := by omega
                obtain rfl : ev = .nilIface := by rw [← HEV.out]; rfl
                clear h4 hkd'
                rw [show (en || ((0 : Nat) == 1)) = en by simp] at c4
                rw [show (en || ((0 : Nat) == 1)) = en by simp] at HFIN
                clear HPO HS1 HKD HEV HKS
                go_wp2
                go_roundw
                case rel => exact ⟨k + 1, en, _, _, by go_num, rfl, HFIN.out⟩
                case measure => simp [intOf]; omega
              · have e4 : (y : Int) % 4 = 1 := by omega
                obtain rfl : kd = 1 := by omega
                obtain rfl : ev = .iface 44 (.pointer (some ea)) := by rw [← HEV.out]; rfl
                clear h4 hkd'
                rw [show (en || ((1 : Nat) == 1)) = true by simp] at c4
                rw [show (en || ((1 : Nat) == 1)) = true by simp] at HFIN
                have c0 : wr.cell? ⟨0, 0, none⟩ = some (.iface 44 (.pointer (some ea))) := by rw [(HS1.out.below.trans HPO.out.below).cell hB0]; exact HE.out
                have hq := neq_same ea wr
                clear HPO HS1 HKD HEV HKS
                go_wp2
                go_roundw
                case rel => exact ⟨k + 1, true, _, _, by go_num, rfl, HFIN.out⟩
                case measure => simp [intOf]; omega
              · have e4 : (y : Int) % 4 = 2 := by omega
                obtain rfl : kd = 2 := by omega
                obtain rfl : ev = .iface 44 (.pointer (some ⟨w.heap.size, 0, none⟩)) := by rw [← HEV.out]; rfl
                clear h4 hkd'
                rw [show (en || ((2 : Nat) == 1)) = en by simp] at c4
                rw [show (en || ((2 : Nat) == 1)) = en by simp] at HFIN
                have hq := neq_same ⟨w.heap.size, 0, none⟩ wr
                clear HPO HS1 HKD HEV HKS
                go_wp2
                go_roundw
                case rel => exact ⟨k + 1, en, _, _, by go_num, rfl, HFIN.out⟩
                case measure => simp [intOf]; omega
              · have e4 : (y : Int) % 4 = 3 := by omega
                obtain rfl : kd = 3 := by omega
                obtain rfl : ev = .iface 41 (.agg #[]) := by rw [← HEV.out]; rfl
                clear h4 hkd'
                rw [show (en || ((3 : Nat) == 1)) = en by simp] at c4
                rw [show (en || ((3 : Nat) == 1)) = en by simp] at HFIN
                have hta := assert_wrap wr
                have l2 : w.heap.size + 1 + 1 < wr.heap.size := (Array.getElem?_eq_some_iff.1 HPO.out.ans).1
                have l1 : w.heap.size + 1 < wr.heap.size := by omega
                have lg : g < wr.heap.size := (HPO.out.own.lt g rfl).2
                clear HPO HS1 HKD HEV HKS
                go_wp2
                go_roundw
                case rel => exact ⟨k + 1, en, _, _, by go_num, rfl, HFIN.out.grow (World.grownBy_alloc _ _ none)⟩
                case measure => simp [intOf]; omega
      · have hks' : ¬ (k : Int) < (sl : Int) := by omega
        go_wp2_with (at_make; refine wpList_make_full _ rfl _ _ 22 rfl w.heap.size 5 i0 (.int .u8 0) 1 Ybad.underlying22 hi hz0 hz1 _ _ _ _ 0 rfl rfl rfl rfl (by omega) (by unfold maxLen; omega) HST.out.below.size ?_)
        intro w1 hown hgrow
        have hst1 := HST.out.grow hgrow
        have hpb := HST.out.below.size
        clear HST hgrow
        generalize wr.heap.size = pb at hown hpb ⊢
        clear hi hz0 hz1 hz2 
        obtain ⟨kd, hkd⟩ := kind_at HKS.out k hst1.below
        have hcall := answer_read w.heap.size (w.heap.size + 1) (w.heap.size + 1 + 1) pb k 0 z nb noff nl nc kl kc kd keep en ka ea ⟨w.heap.size, 0, none⟩ lensV ls _ ce _ te w1 (by omega) hlt hnl (by omega) hz hst1.below.size (by omega) (by omega) hB0 hnb
          hst1.body hst1.ans hst1.oth ((hst1.below.block _ heB).trans HEA.out) (Nat.le_refl _) heB hst1.own hown (by rw [hst1.below.cell hnb]; exact hnc) hkd (by rw [hst1.below.cell hB0]; exact HE.out)
        rw [show z % (0 + 1) = 0 by omega] at hcall
        have HCALL := hide hcall
        have HKD := hide hkd
        have HS1 := hide hst1
        have HNC := hide hnc
        clear hcall hkd hst1 hnc hown
        go_wp2_with fail
        refine HCALL.out.mono ?_
        rintro e w3 ⟨rfl, v', xs', hpo⟩
        have hnc3 : w3.cell? ⟨nb, noff + k, none⟩ = some (.int .u8 (z : Nat)) := by rw [(HS1.out.below.trans hpo.below).cell hnb]; exact HNC.out
        generalize hev : errV kd ea ⟨w.heap.size, 0, none⟩ = ev
        have HEV := hide hev
        have HPO := hide hpo
        clear hev hpo HCALL
        go_wp2
        clear hnc3
        go_loopw [22] (fun j wi => ∃ c : Nat, c ≤ 0 ∧ j = .int .i64 c ∧ wi = w3) (fun j _ => 0 - (intOf j).toNat)
        case atStart => exact ⟨0, Nat.zero_le _, rfl, rfl⟩
        case round =>
          obtain ⟨c, hc, rfl, rfl⟩ := hrel
          by_cases hcn : c < 0
          · omega
          · obtain rfl : c = 0 := by omega
            obtain ⟨g, cp, rfl⟩ : ∃ g cp, v' = .slice (some ⟨g, 0, none⟩) (k + 1) cp := by
              rcases HPO.out.own.2 with ⟨_, h0⟩ | ⟨g, cp, cur, rfl, _⟩
              · omega
              · exact ⟨g, cp, rfl⟩
            have c3 : wr.cell? ⟨w.heap.size + 1, 3, none⟩ = some (.slice (some ⟨g, 0, none⟩) (k + 1) cp) := by rw [cell_of_row wr _ 3 _ 29 (0, 0) HPO.out.body]; rfl
            have c4 : wr.cell? ⟨w.heap.size + 1 + 1, 4, none⟩ = some (.bool (en || kd == 1)) := by rw [cell_of_row wr _ 4 _ 37 (0, 0) HPO.out.ans]; rfl
            have hll : ls.length = k := by have := HS1.out.own.1; omega
            have cg : wr.cell? ⟨g, k, none⟩ = some (.int .i64 0) := by
              rw [HPO.out.own.cellAt k (by omega), List.getElem?_append_right (by omega), hll, Nat.sub_self]
              rfl
            have fin := after_read HS1.out HPO.out hlt
            have HFIN := hide fin
            clear fin hll hnb hz
            rcases HKD.out.below HPO.out.below with ⟨hkk, rfl⟩ | ⟨kb, koff, y, hkk, rfl, hkb, hky, hy, hkd'⟩
            · obtain rfl : ev = .nilIface := by rw [← HEV.out]; rfl
              have hkk' : ¬ (k : Int) < (kl : Int) := by omega
              rw [show (en || ((0 : Nat) == 1)) = en by simp] at c4
              rw [show (en || ((0 : Nat) == 1)) = en by simp] at HFIN
              clear HPO HS1 HKD HEV HKS
              go_wp2
              go_roundw
              case rel => exact ⟨k + 1, en, _, _, by go_num, rfl, HFIN.out⟩
              case measure => simp [intOf]; omega
            · have hkk' : (k : Int) < (kl : Int) := by omega
              have h4 : y % 4 = 0 ∨ y % 4 = 1 ∨ y % 4 = 2 ∨ y % 4 = 3 := by omega
              rcases h4 with h4 | h4 | h4 | h4
              · have e4 : (y : Int) % 4 = 0 := by omega
                obtain rfl : kd = 0 := by omega
                obtain rfl : ev = .nilIface := by rw [← HEV.out]; rfl
                clear h4 hkd'
                rw [show (en || ((0 : Nat) == 1)) = en by simp] at c4
                rw [show (en || ((0 : Nat) == 1)) = en by simp] at HFIN
                clear HPO HS1 HKD HEV HKS
                go_wp2
                go_roundw
                case rel => exact ⟨k + 1, en, _, _, by go_num, rfl, HFIN.out⟩
                case measure => simp [intOf]; omega
              · have e4 : (y : Int) % 4 = 1 := by omega
                obtain rfl : kd = 1 := by omega
                obtain rfl : ev = .iface 44 (.pointer (some ea)) := by rw [← HEV.out]; rfl
                clear h4 hkd'
                rw [show (en || ((1 : Nat) == 1)) = true by simp] at c4
                rw [show (en || ((1 : Nat) == 1)) = true by simp] at HFIN
                have c0 : wr.cell? ⟨0, 0, none⟩ = some (.iface 44 (.pointer (some ea))) := by rw [(HS1.out.below.trans HPO.out.below).cell hB0]; exact HE.out
                have hq := neq_same ea wr
                clear HPO HS1 HKD HEV HKS
                go_wp2
                go_roundw
                case rel => exact ⟨k + 1, true, _, _, by go_num, rfl, HFIN.out⟩
                case measure => simp [intOf]; omega
              · have e4 : (y : Int) % 4 = 2 := by omega
                obtain rfl : kd = 2 := by omega
                obtain rfl : ev = .iface 44 (.pointer (some ⟨w.heap.size, 0, none⟩)) := by rw [← HEV.out]; rfl
                clear h4 hkd'
                rw [show (en || ((2 : Nat) == 1)) = en by simp] at c4
                rw [show (en || ((2 : Nat) == 1)) = en by simp] at HFIN
                have hq := neq_same ⟨w.heap.size, 0, none⟩ wr
                clear HPO HS1 HKD HEV HKS
                go_wp2
                go_roundw
                case rel => exact ⟨k + 1, en, _, _, by go_num, rfl, HFIN.out⟩
                case measure => simp [intOf]; omega
              · have e4 : (y : Int) % 4 = 3 := by omega
                obtain rfl : kd = 3 := by omega
                obtain rfl : ev = .iface 41 (.agg #[]) := by rw [← HEV.out]; rfl
                clear h4 hkd'
                rw [show (en || ((3 : Nat) == 1)) = en by simp] at c4
                rw [show (en || ((3 : Nat) == 1)) = en by simp] at HFIN
                have hta := assert_wrap wr
                have l2 : w.heap.size + 1 + 1 < wr.heap.size := (Array.getElem?_eq_some_iff.1 HPO.out.ans).1
                have l1 : w.heap.size + 1 < wr.heap.size := by omega
                have lg : g < wr.heap.size := (HPO.out.own.lt g rfl).2
                clear HPO HS1 HKD HEV HKS
                go_wp2
                go_roundw
                case rel => exact ⟨k + 1, en, _, _, by go_num, rfl, HFIN.out.grow (World.grownBy_alloc _ _ none)⟩
                case measure => simp [intOf]; omega
    · have hge : ¬ (k : Int) < (nl : Int) := by omega
      have b1 := HST.out.body
      have b2 := HST.out.ans
      obtain rfl : k = nl := by omega
      have c2 : wr.cell? ⟨w.heap.size + 1, 2, none⟩ = some (.int .i64 k) := by rw [cell_of_row wr _ 2 _ 29 (0, 0) b1]; rfl
      have c5 : wr.cell? ⟨w.heap.size + 1, 5, none⟩ = some (.int .i64 0) := by rw [cell_of_row wr _ 5 _ 29 (0, 0) b1]; rfl
      have d1 : wr.cell? ⟨w.heap.size + 1 + 1, 1, none⟩ = some (.pointer none) := by rw [cell_of_row wr _ 1 _ 37 (0, 0) b2]; rfl
      have d2 : wr.cell? ⟨w.heap.size + 1 + 1, 2, none⟩ = some (.pointer none) := by rw [cell_of_row wr _ 2 _ 37 (0, 0) b2]; rfl
      have d3 : wr.cell? ⟨w.heap.size + 1 + 1, 3, none⟩ = some (.bool keep) := by rw [cell_of_row wr _ 3 _ 37 (0, 0) b2]; rfl
      have d5 : wr.cell? ⟨w.heap.size + 1 + 1, 5, none⟩ = some .nilFunc := by rw [cell_of_row wr _ 5 _ 37 (0, 0) b2]; rfl
      have HB := hide HST.out.below
      clear b1 b2
      have hnf := nil_func wr
      go_wp2
      go_ret
      exact ⟨rfl, HB.out⟩
end Go.Proofs.YbulkdfokDoor
