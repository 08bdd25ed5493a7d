/- Contracts of the project's functions on the road of LawS5333CExact: lowerOctet, hasCapital, lowerASCII, Canonical, zzs5333clower. -/
import Derived.Test.YbulkdfkqRows
import Derived.WalkKit
import Derived.ProofKit
import Derived.WalkLawsBesides
import Derived.Outline
import Derived.Deep.QuietTactic
import Derived.BigQuiet
import Derived.Laws.IdiomStrings
import Derived.Laws.BytesArg
namespace Go.Proofs.Ybulkdfkq
open Go.ChangeShapes Go.WideShapes Go.ChangeAt Go.RowKit

def lowI (c : Int) : Int := if 65 ≤ c ∧ c ≤ 90 then c + 32 else c

theorem lowI_range (c : Int) (h0 : 0 ≤ c) (h1 : c ≤ 255) : 0 ≤ lowI c ∧ lowI c ≤ 255 := by unfold lowI; split <;> omega

theorem hide {p : Prop} (h : p) : Hid p := h

theorem ret_int {k : IntKind} {a b : Int} (h : a = b) : Ending.returned (.int k a) = .returned (.int k b) := by rw [h]

theorem lowerOctet_any (c : Int) (h0 : 0 ≤ c) (h1 : c ≤ 255) (w : World) :
    Calls Yba.prog 9 #[.int .u8 c] w fun e w' => e = .returned (.int .u8 (lowI c)) ∧ w' = w := by
  by_cases a : 65 ≤ c
  · by_cases b : c ≤ 90
    · go_enter Yba.func9, Yba.ntmps9
      go_wp2
      go_ret
      exact ⟨ret_int (by unfold lowI; rw [if_pos ⟨a, b⟩]; omega), rfl⟩
    · go_enter Yba.func9, Yba.ntmps9
      go_wp2
      go_ret
      exact ⟨ret_int (by unfold lowI; rw [if_neg (by omega)]), rfl⟩
  · go_enter Yba.func9, Yba.ntmps9
    go_wp2
    go_ret
    exact ⟨ret_int (by unfold lowI; rw [if_neg (by omega)]), rfl⟩

theorem hasCapital_any (s : ByteArray) (hs : s.size ≤ maxLen) (w : World) :
    Calls Yba.prog 7 #[.string s] w fun e w' => ∃ r nq, e = .returned (.bool r) ∧ (r = false → ∀ k (h : k < s.size), lowI (s[k].toNat) = s[k].toNat) ∧ w' = w.drewN nq := by
  unfold maxLen at hs
  go_enter Yba.func7, Yba.ntmps7
  go_wp2
  go_loopw [6] (fun i wr => ∃ k nq: Nat, k ≤ s.size ∧ i = .int .i64 k ∧ wr = w.drewN nq ∧ (∀ j (h : j < s.size), j < k → lowI (s[j].toNat) = s[j].toNat)) (fun i _ => s.size - (intOf i).toNat)
  case atStart => exact ⟨0, 0, Nat.zero_le _, rfl, rfl, fun j h hj => by omega⟩
  case round =>
    obtain ⟨k, nr, hk, rfl, hwr, hall⟩ := hrel
    have HA := hide hall
    have HW := hide hwr
    clear hall hwr
    by_cases hlt : k < s.size
    · have hb : (s[k].toNat : Int) ≤ 255 := by have := s[k].toNat_lt; omega
      go_wp2
      go_quiet ((go_at_call 9; exact Calls.quiet_of_same (lowerOctet_any _ (by omega) hb _)))
      go_wp2
      · go_ret
        exact ⟨true, nr + nq, rfl, nofun, by rw [HW.out, World.drewN_drewN]⟩
      · have hne : (lowI ↑s[k].toNat != ↑s[k].toNat) = false := by assumption
        go_roundw
        case rel => 
          refine ⟨k + 1, nr + nq, by omega, by go_num, by rw [HW.out, World.drewN_drewN], fun j h hj => ?_⟩
          by_cases e : j = k
          · subst e; simpa using hne
          · exact HA.out j h (by omega)
        case measure => simp [intOf]; omega
    · go_wp2
      go_ret
      exact ⟨false, nr, rfl, fun _ j h => HA.out j h (by omega), HW.out⟩

theorem lower_step {wr : World} {b n k : Nat} {f : Nat → Int}
    (h : ∀ j, j < n → wr.cell? ⟨b, j, none⟩ = some (.int .u8 (if j < k then lowI (f j) else f j))) (hk : k < n) :
    ∀ j, j < n → (wr.setCell ⟨b, k, none⟩ (.int .u8 (lowI (f k)))).cell? ⟨b, j, none⟩ = some (.int .u8 (if j < k + 1 then lowI (f j) else f j)) := by
  intro j hj
  by_cases e : j = k
  · subst e
    rw [World.cell?_setCell_same _ _ _ (h j hj), if_pos (Nat.lt_succ_self _)]
  · rw [World.cell?_setCell_other _ _ _ _ (fun h => e (congrArg Addr.off h).symm), h j hj]
    by_cases e2 : j < k
    · rw [if_pos e2, if_pos (by omega)]
    · rw [if_neg e2, if_neg (by omega)]

theorem lowerASCII_any (b n cap : Nat) (f : Nat → Int) (hf : ∀ j, 0 ≤ f j ∧ f j ≤ 255) (hn : n ≤ maxLen) (w : World)
    (hc : ∀ j, j < n → w.cell? ⟨b, j, none⟩ = some (.int .u8 (f j))) (hz : ∀ j, j < n → w.frozen? ⟨b, j, none⟩ = false) :
    Calls Yba.prog 8 #[.slice (some ⟨b, 0, none⟩) n cap] w fun e w' => e = .returned (.slice (some ⟨b, 0, none⟩) n cap) ∧ (∀ j, j < n → w'.cell? ⟨b, j, none⟩ = some (.int .u8 (lowI (f j)))) ∧ Below b w w' := by
  unfold maxLen at hn
  go_enter Yba.func8, Yba.ntmps8
  go_wp2
  go_loopw [7] (fun i wr => ∃ k : Nat, k ≤ n ∧ i = .int .i64 k ∧ (∀ j, j < n → wr.cell? ⟨b, j, none⟩ = some (.int .u8 (if j < k then lowI (f j) else f j))) ∧ (∀ j, j < n → wr.frozen? ⟨b, j, none⟩ = false) ∧ Below b w wr) (fun i _ => n - (intOf i).toNat)
  case atStart => exact ⟨0, Nat.zero_le _, rfl, fun j h => by simpa using hc j h, hz, Below.refl _ _⟩
  case round =>
    obtain ⟨k, hk, rfl, hcr, hzr, hbel⟩ := hrel
    by_cases hlt : k < n
    · have hck : wr.cell? ⟨b, k, none⟩ = some (.int .u8 (f k)) := by simpa using hcr k hlt
      have hzk := hzr k hlt
      have hi : (k : Int) < (n : Int) := by omega
      have HC := hide hcr
      have HZ := hide hzr
      clear hcr hzr hc hz
      have hf0 := (hf k).1
      have hf1 := (hf k).2
      have HF := hide hf
      clear hf
      go_wp2_with (go_at_call 9; refine (lowerOctet_any _ hf0 hf1 _).mono ?_; rintro e w' ⟨rfl, rfl⟩)
      go_roundw
      case rel => exact ⟨k + 1, by omega, by go_num, lower_step HC.out hlt, fun j h => by rw [World.frozen?_setCell]; exact HZ.out j h, hbel.setCell (Nat.le_refl _) _⟩
      case measure => simp [intOf]; omega
    · have HC := hide hcr
      clear hcr hzr hc hz
      go_wp2
      go_ret
      exact ⟨rfl, fun j h => by rw [HC.out j h, if_pos (by omega)], hbel⟩

def lowB (c : UInt8) : UInt8 := if 65 ≤ c.toNat ∧ c.toNat ≤ 90 then c + 32 else c
theorem lowB_toNat (c : UInt8) : ((lowB c).toNat : Int) = lowI c.toNat := by
  unfold lowB lowI
  by_cases h : 65 ≤ c.toNat ∧ c.toNat ≤ 90
  · rw [if_pos h, if_pos (by omega), UInt8.toNat_add]
    simp
    omega
  · rw [if_neg h, if_neg (by omega)]
def lowS (s : ByteArray) : ByteArray := ⟨(s.data.toList.map lowB).toArray⟩
theorem lowS_size (s : ByteArray) : (lowS s).size = s.size := by unfold lowS ByteArray.size; simp only [List.size_toArray, List.length_map, Array.length_toList]
theorem lowS_same (s : ByteArray) (h : ∀ k (h : k < s.size), lowI (s[k].toNat) = s[k].toNat) : lowS s = s := by
  have : s.data.toList.map lowB = s.data.toList := by
    apply List.ext_getElem
    · simp
    · intro i h1 h2
      simp only [List.getElem_map]
      have h3 : i < s.size := by simpa using h2
      have := h i h3
      rw [← lowB_toNat] at this
      have e : (lowB s[i]).toNat = s[i].toNat := by omega
      exact UInt8.toNat_inj.1 e
  unfold lowS
  rw [this]

def byteAt (s : ByteArray) (j : Nat) : Int := ((s.data.getD j 0).toNat : Int)
theorem byteAt_range (s : ByteArray) (j : Nat) : 0 ≤ byteAt s j ∧ byteAt s j ≤ 255 := by
  unfold byteAt
  have := (s.data.getD j 0).toNat_lt
  omega
theorem row_cells (W : World) (s : ByteArray) (cap b : Nat) (hb : b = W.heap.size) (j : Nat) (hj : j < s.size) :
    (W.alloc (Obj.cells (bytesRow s cap) 5 ((bytesRow s cap).size, (bytesRow s cap).size + 1))).cell? ⟨b, j, none⟩ = some (.int .u8 (byteAt s j)) := by
  subst hb
  rw [World.cell?_alloc_mark, bytesRow_at s cap j hj]
  unfold byteAt
  rw [Array.getD_eq_getD_getElem?, Array.getElem?_eq_getElem hj]
  rfl
theorem row_frozen (W : World) (s : ByteArray) (cap b : Nat) (hb : b = W.heap.size) (j : Nat) (hj : j < s.size) :
    (W.alloc (Obj.cells (bytesRow s cap) 5 ((bytesRow s cap).size, (bytesRow s cap).size + 1))).frozen? ⟨b, j, none⟩ = false := by
  subst hb
  rw [World.frozen?_alloc_mark]
  have : s.size ≤ (bytesRow s cap).size := by unfold bytesRow; rw [Array.size_append, Array.size_map]; exact Nat.le_add_right _ _
  have : ¬ (bytesRow s cap).size ≤ j := by omega
  simp [this]
theorem run_convert_bytes_low (w : World) (b cap : Nat) (s : ByteArray) (hc : ∀ j, j < s.size → w.cell? ⟨b, j, none⟩ = some (.int .u8 (lowI (byteAt s j)))) :
    (convert 27 9 (.slice (some ⟨b, 0, none⟩) s.size cap)).run Yba.prog w = .ok (.string (lowS s)) w := by
  have h := run_convert_bytes_back (P := Yba.prog) w 27 9 5 ⟨b, 0, none⟩ cap (s.data.toList.map lowB) Yba.underlying27 Yba.underlying5 Yba.underlying9 (fun j hj => by
    have hj' : j < s.size := by simpa using hj
    rw [Addr.add_lit, Nat.zero_add, hc j hj']
    simp only [List.getElem_map]
    rw [lowB_toNat]
    unfold byteAt
    rw [Array.getD_eq_getD_getElem?, Array.getElem?_eq_getElem hj']
    rfl)
  rw [List.length_map, Array.length_toList] at h
  exact h

set_option maxHeartbeats 400000 in
theorem canonical_any (s : ByteArray) (hs : s.size ≤ maxLen) (w : World) :
    Calls Yba.prog 5 #[.agg #[.string s]] w fun e w' => e = .returned (.agg #[.string (lowS s)]) ∧ Below w.heap.size w w' := by
  go_enter Yba.func5, Yba.ntmps5
  go_wp2_with fail
  refine (hasCapital_any _ hs _).mono ?_
  rintro e w1 ⟨r, nq, rfl, hr, rfl⟩
  have HR := hide hr
  clear hr
  have kc := fun (wx : World) => run_bytes_of_string (P := Yba.prog) wx 9 27 5 s Yba.underlying9 Yba.underlying27 Yba.underlying5
  cases r
  · go_wp2
    rw [lowS_same s (fun k h => HR.out trivial k h)]
    exact bodyPost_ret (v := .agg #[.string s]) (by simp [results, Yba.results5, go_sem]) rfl ⟨rfl, (below_drewN (((Below.refl _ _).alloc (Nat.le_refl _) _).alloc (by simp) _) _).setCell (by simp) _⟩
  · go_wp2_with fail
    generalize grownCap _ _ _ _ = cap
    have hc := row_cells (((w.alloc (Obj.cells #[Value.string s] 23)).alloc (Obj.cells #[Value.string { data := #[] }] 23)).drewN (nq + 1)) s cap (w.heap.size + 1 + 1) (by simp)
    have hz := row_frozen (((w.alloc (Obj.cells #[Value.string s] 23)).alloc (Obj.cells #[Value.string { data := #[] }] 23)).drewN (nq + 1)) s cap (w.heap.size + 1 + 1) (by simp)
    refine (lowerASCII_any _ _ _ (byteAt s) (byteAt_range s) hs _ hc hz).mono ?_
    rintro e w2 ⟨rfl, hc2, hb2⟩
    have kb := run_convert_bytes_low w2 (w.heap.size + 1 + 1) cap s hc2
    have hz2 : w.heap.size + 1 < w2.heap.size := by have := hb2.size; simp at this; omega
    have c1 : w2.cell? ⟨w.heap.size + 1, 0, none⟩ = some (.string ⟨#[]⟩) := by rw [hb2.cell (by simp)]; simp [go_sem]
    have f1 : w2.frozen? ⟨w.heap.size + 1, 0, none⟩ = false := by rw [hb2.frozen (by simp)]; simp [go_sem]
    have hb3 : Below w.heap.size w w2 := (below_drewN (((Below.refl _ _).alloc (Nat.le_refl _) _).alloc (by simp) _) (nq + 1)).alloc (by simp; omega) _ |>.trans (hb2.mono (by omega))
    clear hc hz hc2 hb2 kc
    go_wp2
    exact bodyPost_ret (v := .agg #[.string (lowS s)]) (by simp [results, Yba.results5, go_sem, c1]) rfl ⟨rfl, hb3.setCell (by simp) _⟩

theorem Yba.info5 : (Yba.prog.info? 5).map (fun i => (i.zero, i.size, i.bytes)) = some (some (.int .u8 0), 1, 1) := by kernel_rfl

theorem put_step {wr : World} {b n k : Nat} {f : Nat → Int} {v : Int}
    (h : ∀ j, j < n → wr.cell? ⟨b, j, none⟩ = some (.int .u8 (if j < k then f j else 0))) (hk : k < n) (hv : v = f k) :
    ∀ j, j < n → (wr.setCell ⟨b, k, none⟩ (.int .u8 v)).cell? ⟨b, j, none⟩ = some (.int .u8 (if j < k + 1 then f j else 0)) := by
  intro j hj
  by_cases e : j = k
  · subst e
    rw [World.cell?_setCell_same _ _ _ (h j hj), if_pos (Nat.lt_succ_self _), hv]
  · rw [World.cell?_setCell_other _ _ _ _ (fun h => e (congrArg Addr.off h).symm), h j hj]
    by_cases e2 : j < k
    · rw [if_pos e2, if_pos (by omega)]
    · rw [if_neg e2, if_neg (by omega)]

theorem byteAt_get (s : ByteArray) (k : Nat) (h : k < s.size) : byteAt s k = (s[k].toNat : Int) := by
  unfold byteAt
  rw [Array.getD_eq_getD_getElem?, Array.getElem?_eq_getElem h]
  rfl

set_option maxHeartbeats 400000 in
theorem zzlower_any (s : ByteArray) (hs : s.size ≤ 4096) (w : World) :
    Calls Yba.prog 6 #[.string s] w fun e w' => e = .returned (.string (lowS s)) ∧ Below w.heap.size w w' := by
  obtain ⟨i0, hi, hz0, hz1, hz2⟩ := info_parts Yba.info5
  go_enter Yba.func6, Yba.ntmps6
  go_wp2_with (at_make; refine wpList_make_full _ rfl _ _ 27 rfl w.heap.size 5 i0 (.int .u8 0) 1 Yba.underlying27 hi hz0 hz1 _ _ _ _ s.size rfl rfl rfl rfl (by rw [hz2]; omega) (by unfold maxLen; omega) (Nat.le_refl _) ?_)
  intro w1 hown hgrow
  have hc1 : ∀ j, j < s.size → w1.cell? ⟨w.heap.size, j, none⟩ = some (.int .u8 0) := by
    intro j hj
    rw [hown.cellAt j (by omega)]
    simp [toList_madeCells_one, hj]
  have hf1 : ∀ j, w1.frozen? ⟨w.heap.size, j, none⟩ = false := fun j => hown.frozenAt j
  have hb1 : Below w.heap.size w w1 := (Below.refl _ _).grown hgrow (Nat.le_refl _) nofun
  clear hown hgrow hi hz0 hz1 hz2
  have HC1 := hide hc1
  clear hc1
  go_wp2
  go_loopw [4] (fun i wr => ∃ k : Nat, k ≤ s.size ∧ i = .int .i64 k ∧ (∀ j, j < s.size → wr.cell? ⟨w.heap.size, j, none⟩ = some (.int .u8 (if j < k then lowI (byteAt s j) else 0))) ∧ (∀ j, wr.frozen? ⟨w.heap.size, j, none⟩ = false) ∧ Below w.heap.size w wr) (fun i _ => s.size - (intOf i).toNat)
  case atStart => exact ⟨0, Nat.zero_le _, rfl, fun j h => by simpa using HC1.out j h, hf1, hb1⟩
  case round =>
    obtain ⟨k, hk, rfl, hcr, hzr, hbel⟩ := hrel
    clear hb1 hf1 HC1
    by_cases hlt : k < s.size
    · have hck := hcr k hlt
      rw [if_neg (by omega)] at hck
      have hzk := hzr k
      have hi : (k : Int) < (s.size : Int) := by omega
      have HC := hide hcr
      have HZ := hide hzr
      have hb : (s[k].toNat : Int) ≤ 255 := by have := s[k].toNat_lt; omega
      clear hcr hzr
      by_cases a : 65 ≤ (s[k].toNat : Int)
      · by_cases b : (s[k].toNat : Int) ≤ 90
        · go_wp2
          go_roundw
          case rel => exact ⟨k + 1, by omega, by go_num, put_step HC.out hlt (by rw [byteAt_get s k hlt]; unfold lowI; rw [if_pos ⟨a, b⟩]), fun j => by rw [World.frozen?_setCell]; exact HZ.out j, hbel.setCell (Nat.le_refl _) _⟩
          case measure => simp [intOf]; omega
        · go_wp2
          go_roundw
          case rel => exact ⟨k + 1, by omega, by go_num, put_step HC.out hlt (by rw [byteAt_get s k hlt]; unfold lowI; rw [if_neg (by omega)]), fun j => by rw [World.frozen?_setCell]; exact HZ.out j, hbel.setCell (Nat.le_refl _) _⟩
          case measure => simp [intOf]; omega
      · go_wp2
        go_roundw
        case rel => exact ⟨k + 1, by omega, by go_num, put_step HC.out hlt (by rw [byteAt_get s k hlt]; unfold lowI; rw [if_neg (by omega)]), fun j => by rw [World.frozen?_setCell]; exact HZ.out j, hbel.setCell (Nat.le_refl _) _⟩
        case measure => simp [intOf]; omega
    · have kb := run_convert_bytes_low wr w.heap.size s.size s (fun j h => by rw [hcr j h, if_pos (by omega)])
      clear hcr hzr
      go_wp2
      go_ret
      exact ⟨rfl, hbel⟩
end Go.Proofs.Ybulkdfkq
