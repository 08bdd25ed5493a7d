/- zzs5334aiv: the interval of an item; intervals and lists as closed values: each operation on them goes behind a name of its own, and a rule says what its run is. -/
import Derived.Test.YbulkdfleEq
import Derived.Outline
namespace Go.Proofs.Ybulkdfle
open Go.ChangeShapes Go.WideShapes Go.ChangeAt Go.RowKit

def zero38 : Array Value := ivC ⟨0, 0, 0, 0⟩
/-- The cells of a List. -/
def listC (x : It) (v : Value) : Array Value := (ivC x).push v
def zero43 : Array Value := listC ⟨0, 0, 0, 0⟩ (.slice none 0 0)

theorem ivC_size (x : It) : (ivC x).size = 40 := by simp [ivC]
theorem listC_size (x : It) (v : Value) : (listC x v).size = 41 := by simp [listC, ivC]
theorem ivC_one (x : It) : (ivC x).all (·.oneCell') = true := by
  unfold ivC
  simp [Value.oneCell']
theorem zero38_size : zero38.size = 40 := rfl
theorem zero43_size : zero43.size = 41 := rfl
theorem listC_at (x : It) (v : Value) : (listC x v)[40]? = some v := rfl
theorem listC_prec (x : It) (v : Value) : (listC x v)[8]? = some (.int .u8 x.p) := rfl
theorem listC_first (x : It) (v : Value) : (listC x v).extract 0 40 = ivC x := by kernel_rfl

theorem built36 (p s : Int) : Yba.prog.built 36 [(3, .int .u8 p), (1, .int .i32 s)] = some (valC p s) := by kernel_rfl
theorem built38 (x : It) : Yba.prog.built 38 [(0, .agg (valC x.p x.s)), (1, .agg (valC x.q x.t))] = some (ivC x) := by kernel_rfl
theorem built38_zero : Yba.prog.built 38 [] = some zero38 := by kernel_rfl
theorem built43 (x : It) (a : Option Addr) (n c : Nat) : Yba.prog.built 43 [(0, .agg (ivC x)), (1, .slice a n c)] = some (listC x (.slice a n c)) := by kernel_rfl
theorem size38 : (Yba.prog.info? 38).map (·.size) = some 40 := by kernel_rfl
theorem size43 : (Yba.prog.info? 43).map (·.size) = some 41 := by kernel_rfl
theorem size23 : (Yba.prog.info? 23).map (·.size) = some 4 := by kernel_rfl

/-! ### The names -/
def bd36 (ps : Array (Nat × Value)) : Sem Value := Instr.build 36 ps
def bd38 (ps : Array (Nat × Value)) : Sem Value := Instr.build 38 ps
def bd43 (ps : Array (Nat × Value)) : Sem Value := Instr.build 43 ps
def al38 (v : Value) : Sem Value := Instr.alloc 38 true v
def al43 (v : Value) : Sem Value := Instr.alloc 43 true v
def ld38 (v : Value) : Sem Value := Instr.loadAt 38 v
def ld43 (v : Value) : Sem Value := Instr.loadAt 43 v
def ld23 (v : Value) : Sem Value := Instr.loadAt 23 v
def st38 (v x : Value) : Sem Unit := Instr.storeAt 38 v x
def st43 (v x : Value) : Sem Unit := Instr.storeAt 43 v x
def bs40 (ps : Array (Nat × Value)) : Sem Value := Instr.buildSlice 40 1 ps
/-- What a load gives where no whole struct lies: never met; behind a name, so that the walk does not open it. -/
def noneAt (P : Program) (ty : TypeId) (b o : Nat) (w : World) : Result Value := (loadVar ty ⟨b, o, none⟩).run P w
def nq38 (x y : Value) : Sem Value := binOp .neq 38 x y
theorem to_bd36 (ps : Array (Nat × Value)) : Instr.build 36 ps = bd36 ps := rfl
theorem to_bd38 (ps : Array (Nat × Value)) : Instr.build 38 ps = bd38 ps := rfl
theorem to_bd43 (ps : Array (Nat × Value)) : Instr.build 43 ps = bd43 ps := rfl
theorem to_al38 (v : Value) : Instr.alloc 38 true v = al38 v := rfl
theorem to_al43 (v : Value) : Instr.alloc 43 true v = al43 v := rfl
theorem to_ld38 (v : Value) : Instr.loadAt 38 v = ld38 v := rfl
theorem to_ld43 (v : Value) : Instr.loadAt 43 v = ld43 v := rfl
theorem to_ld23 (v : Value) : Instr.loadAt 23 v = ld23 v := rfl
theorem to_st38 (v x : Value) : Instr.storeAt 38 v x = st38 v x := rfl
theorem to_st43 (v x : Value) : Instr.storeAt 43 v x = st43 v x := rfl
theorem to_bs40 (ps : Array (Nat × Value)) : Instr.buildSlice 40 1 ps = bs40 ps := rfl
theorem to_nq38 (x y : Value) : binOp .neq 38 x y = nq38 x y := rfl

/-! ### Their runs -/
theorem run_bd36 (w : World) (p s : Int) : (bd36 #[(3, .int .u8 p), (1, .int .i32 s)]).run Yba.prog w = .ok (.agg (valC p s)) w := run_build w 36 _ _ (built36 p s)
theorem run_bd38 (w : World) (p s q t : Int) : (bd38 #[(0, .agg (valC p s)), (1, .agg (valC q t))]).run Yba.prog w = .ok (.agg (ivC ⟨p, s, q, t⟩)) w := run_build w 38 _ _ (built38 ⟨p, s, q, t⟩)
theorem run_bd38_zero (w : World) : (bd38 #[]).run Yba.prog w = .ok (.agg zero38) w := run_build w 38 _ _ built38_zero
theorem run_bd43 (w : World) (x : It) (a : Option Addr) (n c : Nat) : (bd43 #[(0, .agg (ivC x)), (1, .slice a n c)]).run Yba.prog w = .ok (.agg (listC x (.slice a n c))) w := run_build w 43 _ _ (built43 x a n c)
theorem run_al38 (w : World) : (al38 (.tuple #[])).run Yba.prog w = .ok (.pointer (some ⟨w.heap.size, 0, none⟩)) (w.alloc (.cells zero38 38)) := by
  have hz : (zeroValue 38).run Yba.prog w = .ok (.agg zero38) w := (zero_of_info (P := Yba.prog) (t := 38) (v := .agg zero38) (n := 40) (by kernel_rfl)).1 w
  simp [al38, Instr.alloc, hz, newVar, newRow, Value.cells]
theorem run_al43 (w : World) : (al43 (.tuple #[])).run Yba.prog w = .ok (.pointer (some ⟨w.heap.size, 0, none⟩)) (w.alloc (.cells zero43 43)) := by
  have hz : (zeroValue 43).run Yba.prog w = .ok (.agg zero43) w := (zero_of_info (P := Yba.prog) (t := 43) (v := .agg zero43) (n := 41) (by kernel_rfl)).1 w
  simp [al43, Instr.alloc, hz, newVar, newRow, Value.cells]
theorem run_st38_new (w : World) (x : It) (m : Nat) (hm : m = w.heap.size) :
    (st38 (.pointer (some ⟨m, 0, none⟩)) (.agg (ivC x))).run Yba.prog (w.alloc (.cells zero38 38)) = .ok () (w.alloc (.cells (ivC x) 38)) := by
  subst hm
  exact run_storeAt_new w 38 zero38 (ivC x) size38 rfl (ivC_one x)
theorem run_st43_new (w : World) (x : It) (a : Option Addr) (n c m : Nat) (hm : m = w.heap.size) :
    (st43 (.pointer (some ⟨m, 0, none⟩)) (.agg (listC x (.slice a n c)))).run Yba.prog (w.alloc (.cells zero43 43)) = .ok () (w.alloc (.cells (listC x (.slice a n c)) 43)) := by
  subst hm
  refine run_storeAt_new w 43 zero43 (listC x (.slice a n c)) size43 rfl ?_
  unfold listC
  rw [Array.all_push, ivC_one]
  rfl
theorem run_ld38 (w : World) (b o : Nat) : (ld38 (.pointer (some ⟨b, o, none⟩))).run Yba.prog w = (aggAt w 40 b o).elim (noneAt Yba.prog 38 b o w) (fun v => .ok v w) :=
  run_load_agg Yba.underlying38 rfl size38 w b o
theorem run_ld43 (w : World) (b o : Nat) : (ld43 (.pointer (some ⟨b, o, none⟩))).run Yba.prog w = (aggAt w 41 b o).elim (noneAt Yba.prog 43 b o w) (fun v => .ok v w) :=
  run_load_agg Yba.underlying43 rfl size43 w b o
theorem run_ld23 (w : World) (b o : Nat) : (ld23 (.pointer (some ⟨b, o, none⟩))).run Yba.prog w = (aggAt w 4 b o).elim (noneAt Yba.prog 23 b o w) (fun v => .ok v w) :=
  run_load_agg Yba.underlying23 rfl size23 w b o
theorem run_nq38 (w : World) (x : It) : (nq38 (.agg (ivC x)) (.agg (ivC x))).run Yba.prog w = .ok (.bool false) w := run_neq_iv w x
theorem bs_fill (x : It) : Instr.fill (fun i => some (i * 40, 40)) ((Array.range (1 * 40)).map (zero38[· % zero38.size]!)) [(0, .agg (ivC x))] = some (ivC x) := by kernel_rfl
theorem run_bs40 (w : World) (x : It) : (bs40 #[(0, .agg (ivC x))]).run Yba.prog w = .ok (.slice (some ⟨w.heap.size, 0, none⟩) 1 1) (w.alloc (.cells (ivC x) 38)) := by
  have hz : (zeroValue 38).run Yba.prog w = .ok (.agg zero38) w := (zero_of_info (P := Yba.prog) (t := 38) (v := .agg zero38) (n := 40) (by kernel_rfl)).1 w
  have hs : (sizeOf 38).run Yba.prog w = .ok 40 w := by kernel_rfl
  have hf := bs_fill x
  simp only [bs40, Instr.buildSlice, Sem.run_bind, run_underlying Yba.underlying40, Result.andThen_ok, hs]
  rw [if_neg (by decide), if_neg (by decide)]
  simp only [Sem.run_bind, Sem.run_pure, hz, Result.andThen_ok, Value.cells, hf, newRow]
  rfl

attribute [local go_sem ↓] to_bd36 to_bd38 to_bd43 to_al38 to_al43 to_ld38 to_ld43 to_ld23 to_st38 to_st43 to_bs40 to_nq38
attribute [local go_sem] run_bd36 run_bd38 run_bd38_zero run_bd43 run_al38 run_al43 run_st38_new run_st43_new run_ld38 run_ld43 run_ld23 run_nq38 run_bs40
attribute [local go_sem] aggAt_alloc aggAt_drew aggAt_drewN aggAt_new ivC_size listC_size Option.elim_some

theorem iv_any (x : It) (w : World) :
    Calls Yba.prog 6 #[.agg #[.int .u8 x.p, .int .i32 x.s, .int .u8 x.q, .int .i32 x.t]] w fun e w' => e = .returned (.agg (ivC x)) ∧ Below w.heap.size w w' := by
  go_enter Yba.func6, Yba.ntmps6
  go_wp2
  exact bodyPost_ret (v := .agg (ivC x)) (results_cell_row Yba.results6 _ _ (w.heap.size + 1) 38 (ivC x) (0, 0) _ rfl (heap_alloc2_new w _ _) Yba.underlying38 rfl size38) rfl
    ⟨rfl, ((Below.refl _ _).alloc (Nat.le_refl _) _).alloc (by simp) _⟩
end Go.Proofs.Ybulkdfle
