/- The walks of ZZBitmask and of impl's Bitmask, over handle_bitmasks' contract. -/
import Derived.Test.YthcboddeannjcaaHb
namespace Go.Proofs.Ythcboddeannjcaa.Hb
open Go.RowKit
theorem assert47_yes (W : World) (v : Value) : (Instr.typeAssert (.iface 47 v) 50 47 true).run Try.prog W = .ok (.tuple #[v, .bool true]) W := by kernel_rfl
theorem assert47_nil (W : World) : (Instr.typeAssert .nilIface 50 47 true).run Try.prog W = .ok (.tuple #[.agg #[.int .u64 0, .bool false], .bool false]) W := by kernel_rfl

/-- A pair that ZZBitmask answers. -/
def pairV : Option Int → Value
  | none => .tuple #[.int .u64 0, .bool false]
  | some m => .tuple #[.int .u64 m, .bool true]

theorem zz_some (x ds m : Int) (w : World) (h : Calls Try.prog 31 #[.int .u32 x, .int .u8 ds] w fun e w' => e = .returned (.iface 47 (.agg #[.int .u64 m, .bool false])) ∧ w' = w) :
    Calls Try.prog 25 #[.int .u32 x, .int .u8 ds] w fun e w' => e = .returned (.tuple #[.int .u64 m, .bool true]) ∧ Below w.heap.size w w' := by
  have h1 := assert47_yes w (.agg #[.int .u64 m, .bool false])
  have H : Hid (Calls Try.prog 31 #[.int .u32 x, .int .u8 ds] w fun e w' => e = .returned (.iface 47 (.agg #[.int .u64 m, .bool false])) ∧ w' = w) := h
  clear h
  go_enter Try.func25, Try.ntmps25
  go_wp2_with (go_at_call 31; refine H.out.mono ?_; rintro e w' ⟨rfl, rfl⟩)
  go_ret2
  exact ⟨rfl, by first | exact Below.refl _ _ | exact (Below.refl _ _).alloc (Nat.le_refl _) _⟩
theorem zz_none (x ds : Int) (w : World) (h : Calls Try.prog 31 #[.int .u32 x, .int .u8 ds] w fun e w' => e = .returned .nilIface ∧ w' = w) :
    Calls Try.prog 25 #[.int .u32 x, .int .u8 ds] w fun e w' => e = .returned (.tuple #[.int .u64 0, .bool false]) ∧ Below w.heap.size w w' := by
  have h1 := assert47_nil w
  have H : Hid (Calls Try.prog 31 #[.int .u32 x, .int .u8 ds] w fun e w' => e = .returned .nilIface ∧ w' = w) := h
  clear h
  go_enter Try.func25, Try.ntmps25
  go_wp2_with (go_at_call 31; refine H.out.mono ?_; rintro e w' ⟨rfl, rfl⟩)
  go_ret2
  exact ⟨rfl, by first | exact Below.refl _ _ | exact (Below.refl _ _).alloc (Nat.le_refl _) _⟩

theorem bm_some (x ds m : Int) (w : World) (d0 : 0 ≤ ds) (d1 : ds ≤ 64) (h : Calls Try.prog 31 #[.int .u32 x, .int .u8 ds] w fun e w' => e = .returned (.iface 47 (.agg #[.int .u64 m, .bool false])) ∧ w' = w) :
    Calls Try.prog 18 #[.int .u32 x, .int .i64 ds] w fun e w' => e = .returned (.tuple #[.int .u64 m, .bool true]) ∧ Below w.heap.size w w' := by
  have H : Hid (Calls Try.prog 25 #[.int .u32 x, .int .u8 ds] w fun e w' => e = .returned (.tuple #[.int .u64 m, .bool true]) ∧ Below w.heap.size w w') := zz_some x ds m w h
  clear h
  go_enter Try.func18, Try.ntmps18
  go_wp2_with (go_at_call 25; refine H.out.mono ?_; rintro e w' ⟨rfl, hb⟩)
  go_ret2
  exact ⟨rfl, hb⟩
theorem bm_none (x ds : Int) (w : World) (d0 : 0 ≤ ds) (d1 : ds ≤ 64) (h : Calls Try.prog 31 #[.int .u32 x, .int .u8 ds] w fun e w' => e = .returned .nilIface ∧ w' = w) :
    Calls Try.prog 18 #[.int .u32 x, .int .i64 ds] w fun e w' => e = .returned (.tuple #[.int .u64 0, .bool false]) ∧ Below w.heap.size w w' := by
  have H : Hid (Calls Try.prog 25 #[.int .u32 x, .int .u8 ds] w fun e w' => e = .returned (.tuple #[.int .u64 0, .bool false]) ∧ Below w.heap.size w w') := zz_none x ds w h
  clear h
  go_enter Try.func18, Try.ntmps18
  go_wp2_with (go_at_call 25; refine H.out.mono ?_; rintro e w' ⟨rfl, hb⟩)
  go_ret2
  exact ⟨rfl, hb⟩
theorem bm_any (x ds : Int) (o : Option Int) (w : World) (d0 : 0 ≤ ds) (d1 : ds ≤ 64) (h : Calls Try.prog 31 #[.int .u32 x, .int .u8 ds] w fun e w' => e = .returned (hbV o) ∧ w' = w) :
    Calls Try.prog 18 #[.int .u32 x, .int .i64 ds] w fun e w' => e = .returned (pairV o) ∧ Below w.heap.size w w' := by
  cases o with
  | none => exact bm_none x ds w d0 d1 h
  | some m => exact bm_some x ds m w d0 d1 h
end Go.Proofs.Ythcboddeannjcaa.Hb
