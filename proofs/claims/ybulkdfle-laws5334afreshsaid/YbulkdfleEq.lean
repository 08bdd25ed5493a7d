/- '!=' on two equal intervals. -/
import Derived.Test.YbulkdfleAgg
namespace Go.Proofs.Ybulkdfle
open Go.ChangeShapes Go.WideShapes Go.ChangeAt Go.RowKit

structure It where
  p : Int
  s : Int
  q : Int
  t : Int

/-- The cells of a Value: precision p, nanoseconds s, all else zero. -/
def valC (p s : Int) : Array Value := #[.int .i32 0, .int .i32 0, .int .i32 0, .int .i32 0, .int .i32 0, .int .i32 0, .int .i32 s, .int .u8 0, .int .u8 p, .bool false, .int .u8 0, .int .i16 0, .bool false, .int .i32 0, .int .u16 0, .bool false, .bool false, .int .u32 0, .int .u16 0, .bool false]
/-- The cells of an item's interval. -/
def ivC (x : It) : Array Value := #[.int .i32 0, .int .i32 0, .int .i32 0, .int .i32 0, .int .i32 0, .int .i32 0, .int .i32 x.s, .int .u8 0, .int .u8 x.p, .bool false, .int .u8 0, .int .i16 0, .bool false, .int .i32 0, .int .u16 0, .bool false, .bool false, .int .u32 0, .int .u16 0, .bool false,
  .int .i32 0, .int .i32 0, .int .i32 0, .int .i32 0, .int .i32 0, .int .i32 0, .int .i32 x.t, .int .u8 0, .int .u8 x.q, .bool false, .int .u8 0, .int .i16 0, .bool false, .int .i32 0, .int .u16 0, .bool false, .bool false, .int .u32 0, .int .u16 0, .bool false]

def cArr : Array Value := #[.int .i32 0, .int .i32 0, .int .i32 0, .int .i32 0, .int .i32 0, .int .i32 0]
def mArr : Array Value := #[.int .i32 0, .int .u16 0, .bool false, .bool false, .int .u32 0, .int .u16 0, .bool false]

theorem eq_c (w : World) (d : Nat) : (Op.equalIn (d + 2) 25 (.agg cArr) (.agg cArr)).run Yba.prog w = .ok true w := by kernel_rfl
theorem eq_m (w : World) (d : Nat) : (Op.equalIn (d + 3) 34 (.agg mArr) (.agg mArr)).run Yba.prog w = .ok true w := by kernel_rfl
theorem fields36 : (Yba.prog.fieldsOf 36).toList.map (fun f => (f.name == "_", f.type, f.offset)) = [(false, 25, 0), (false, 21, 6), (false, 5, 7), (false, 26, 8), (false, 4, 9), (false, 27, 10), (false, 28, 11), (false, 4, 12), (false, 34, 13)] := by kernel_rfl
theorem fields38 : (Yba.prog.fieldsOf 38).toList.map (fun f => (f.name == "_", f.type, f.offset)) = [(false, 36, 0), (false, 36, 20)] := by kernel_rfl

theorem eqFields_true {P : Program} {w : World} {d : Nat} {xs : Array Value} : ∀ (fs : List Field), (∀ f ∈ fs, ∃ v, (part f.type xs f.offset).run P w = .ok v w ∧ (Op.equalIn d f.type v v).run P w = .ok true w) → (Op.eqFields d xs xs fs).run P w = .ok true w
  | [], _ => by simp [Op.eqFields]
  | f :: fs, h => by
    obtain ⟨v, h1, h2⟩ := h f (by simp)
    have ih := eqFields_true fs (fun g hg => h g (by simp [hg]))
    unfold Op.eqFields
    split
    · simp [h1, h2, ih]
    · exact ih

theorem eq_val (w : World) (d : Nat) (p s : Int) : (Op.equalIn (d + 5) 36 (.agg (valC p s)) (.agg (valC p s))).run Yba.prog w = .ok true w := by
  rw [run_equalIn_struct w (d + 4) 36 _ _ (by kernel_rfl) (by kernel_rfl)]
  refine eqFields_true _ (fun f hf => ?_)
  have hm : (f.name == "_", f.type, f.offset) ∈ (Yba.prog.fieldsOf 36).toList.map (fun f => (f.name == "_", f.type, f.offset)) := List.mem_map.2 ⟨f, hf, rfl⟩
  rw [fields36] at hm
  generalize f.type = ty at hm ⊢
  generalize f.offset = off at hm ⊢
  simp only [List.mem_cons, Prod.mk.injEq, List.not_mem_nil, or_false] at hm
  rcases hm with ⟨_, rfl, rfl⟩ | ⟨_, rfl, rfl⟩ | ⟨_, rfl, rfl⟩ | ⟨_, rfl, rfl⟩ | ⟨_, rfl, rfl⟩ | ⟨_, rfl, rfl⟩ | ⟨_, rfl, rfl⟩ | ⟨_, rfl, rfl⟩ | ⟨_, rfl, rfl⟩
  · exact ⟨.agg cArr, by kernel_rfl, eq_c w (d + 2)⟩
  · exact ⟨.int .i32 s, by kernel_rfl, by rw [run_equalIn_int w (d + 3) 21 .i32 .i32 s s (by kernel_rfl)]; simp⟩
  · exact ⟨.int .u8 0, by kernel_rfl, by rw [run_equalIn_int w (d + 3) 5 .u8 .u8 0 0 (by kernel_rfl)]; simp⟩
  · exact ⟨.int .u8 p, by kernel_rfl, by rw [run_equalIn_int w (d + 3) 26 .u8 .u8 p p (by kernel_rfl)]; simp⟩
  · exact ⟨.bool false, by kernel_rfl, by rw [run_equalIn_bool' w (d + 3) 4 false false (by kernel_rfl)]; simp⟩
  · exact ⟨.int .u8 0, by kernel_rfl, by rw [run_equalIn_int w (d + 3) 27 .u8 .u8 0 0 (by kernel_rfl)]; simp⟩
  · exact ⟨.int .i16 0, by kernel_rfl, by rw [run_equalIn_int w (d + 3) 28 .i16 .i16 0 0 (by kernel_rfl)]; simp⟩
  · exact ⟨.bool false, by kernel_rfl, by rw [run_equalIn_bool' w (d + 3) 4 false false (by kernel_rfl)]; simp⟩
  · exact ⟨.agg mArr, by kernel_rfl, eq_m w (d + 1)⟩

theorem eq_iv (w : World) (d : Nat) (x : It) : (Op.equalIn (d + 6) 38 (.agg (ivC x)) (.agg (ivC x))).run Yba.prog w = .ok true w := by
  rw [run_equalIn_struct w (d + 5) 38 _ _ (by kernel_rfl) (by kernel_rfl)]
  refine eqFields_true _ (fun f hf => ?_)
  have hm : (f.name == "_", f.type, f.offset) ∈ (Yba.prog.fieldsOf 38).toList.map (fun f => (f.name == "_", f.type, f.offset)) := List.mem_map.2 ⟨f, hf, rfl⟩
  rw [fields38] at hm
  generalize f.type = ty at hm ⊢
  generalize f.offset = off at hm ⊢
  simp only [List.mem_cons, Prod.mk.injEq, List.not_mem_nil, or_false] at hm
  rcases hm with ⟨_, rfl, rfl⟩ | ⟨_, rfl, rfl⟩
  · exact ⟨.agg (valC x.p x.s), by kernel_rfl, eq_val w d x.p x.s⟩
  · exact ⟨.agg (valC x.q x.t), by kernel_rfl, eq_val w d x.q x.t⟩

theorem run_neq_iv (w : World) (x : It) : (binOp .neq 38 (.agg (ivC x)) (.agg (ivC x))).run Yba.prog w = .ok (.bool false) w := by
  rw [run_neq_struct]
  have := eq_iv w 9994 x
  rw [this]
  rfl
end Go.Proofs.Ybulkdfle
