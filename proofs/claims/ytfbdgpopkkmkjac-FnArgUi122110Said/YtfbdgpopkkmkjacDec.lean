/- The walks of decodeArg, kind by kind. -/
import Derived.Test.YtfbdgpopkkmkjacProg
import Derived.Test.YtfbdgpopkkmkjacBits
import Derived.WalkKit
import Derived.KernelRfl
import Derived.Below
namespace Go.Proofs.Ytfbdgpopkkmkjac.Arg
open Go.RowKit
set_option maxRecDepth 100000 in
theorem dec_ArgRd (x i : Int) (w : World) (x0 : 0 ≤ x) (x1 : x ≤ 4294967295) : Calls Try.prog 36 #[.int .u16 5, .int .u32 x, .int .i64 i] w fun e w' => e = .returned (.iface 38 (.int .u16 (x % 32))) ∧ w' = w := by
  have HE : Hid (IntKind.u16.wrap (IntKind.u16.wrap (Go.bits .and .u32 x 31)) = x % 32) := hid (eq_ArgRd x x0 x1)
  go_enter Try.func36, Try.ntmps36
  go_wp2
  go_ret
  refine ⟨?_, rfl⟩
  show Ending.returned (.iface 38 (.int .u16 (IntKind.u16.wrap (IntKind.u16.wrap (Go.bits .and .u32 x 31))))) = _
  rw [HE.out]
set_option maxRecDepth 100000 in
theorem dec_ArgRj (x i : Int) (w : World) (x0 : 0 ≤ x) (x1 : x ≤ 4294967295) : Calls Try.prog 36 #[.int .u16 6, .int .u32 x, .int .i64 i] w fun e w' => e = .returned (.iface 38 (.int .u16 (x / 32 % 32))) ∧ w' = w := by
  have HE : Hid (IntKind.u16.wrap (IntKind.u16.wrap (Go.bits .and .u32 (x / 32) 31)) = x / 32 % 32) := hid (eq_ArgRj x x0 x1)
  go_enter Try.func36, Try.ntmps36
  go_wp2
  go_ret
  refine ⟨?_, rfl⟩
  show Ending.returned (.iface 38 (.int .u16 (IntKind.u16.wrap (IntKind.u16.wrap (Go.bits .and .u32 (x / 32) 31))))) = _
  rw [HE.out]
set_option maxRecDepth 100000 in
theorem dec_ArgRk (x i : Int) (w : World) (x0 : 0 ≤ x) (x1 : x ≤ 4294967295) : Calls Try.prog 36 #[.int .u16 7, .int .u32 x, .int .i64 i] w fun e w' => e = .returned (.iface 38 (.int .u16 (x / 1024 % 32))) ∧ w' = w := by
  have HE : Hid (IntKind.u16.wrap (IntKind.u16.wrap (Go.bits .and .u32 (x / 1024) 31)) = x / 1024 % 32) := hid (eq_ArgRk x x0 x1)
  go_enter Try.func36, Try.ntmps36
  go_wp2
  go_ret
  refine ⟨?_, rfl⟩
  show Ending.returned (.iface 38 (.int .u16 (IntKind.u16.wrap (IntKind.u16.wrap (Go.bits .and .u32 (x / 1024) 31))))) = _
  rw [HE.out]
set_option maxRecDepth 100000 in
theorem dec_ArgSa31715 (x i : Int) (w : World) (x0 : 0 ≤ x) (x1 : x ≤ 4294967295) : Calls Try.prog 36 #[.int .u16 16, .int .u32 x, .int .i64 i] w fun e w' => e = .returned (.iface 50 (.int .i16 (x / 32768 % 8))) ∧ w' = w := by
  have HE : Hid (IntKind.i16.wrap (Go.bits .and .u32 (x / 32768) 7) = x / 32768 % 8) := hid (eq_ArgSa31715 x x0 x1)
  go_enter Try.func36, Try.ntmps36
  go_wp2
  go_ret
  refine ⟨?_, rfl⟩
  show Ending.returned (.iface 50 (.int .i16 (IntKind.i16.wrap (Go.bits .and .u32 (x / 32768) 7)))) = _
  rw [HE.out]
set_option maxRecDepth 100000 in
theorem dec_ArgSeq1710 (x i : Int) (w : World) (x0 : 0 ≤ x) (x1 : x ≤ 4294967295) : Calls Try.prog 36 #[.int .u16 30, .int .u32 x, .int .i64 i] w fun e w' => e = .returned (.iface 47 (.agg #[.int .u32 (x / 1024 % 256), .bool false])) ∧ w' = w := by
  have HE : Hid (Go.bits .and .u32 (x / 1024) 255 = x / 1024 % 256) := hid (eq_ArgSeq1710 x x0 x1)
  go_enter Try.func36, Try.ntmps36
  go_wp2
  go_ret
  refine ⟨?_, rfl⟩
  show Ending.returned (.iface 47 (.agg #[.int .u32 (Go.bits .and .u32 (x / 1024) 255), .bool false])) = _
  rw [HE.out]
set_option maxRecDepth 100000 in
theorem dec1_ArgSi122110 (x i : Int) (w : World) (x0 : 0 ≤ x) (x1 : x ≤ 4294967295) (_c : (Go.bits .and .u32 x 2097152 == 2097152) = true) (hs : x / 2097152 % 2 = 1) : Calls Try.prog 36 #[.int .u16 31, .int .u32 x, .int .i64 i] w fun e w' => e = .returned (.iface 43 (.agg #[.int .i16 (sg 2048 (x / 1024 % 4096)), .int .u8 12])) ∧ w' = w := by
  have HE : Hid (IntKind.i16.wrap (Go.bits .or .u32 (Go.bits .and .u32 (x / 1024) 4095) 61440) = sg 2048 (x / 1024 % 4096)) := hid (eq1_ArgSi122110 x x0 x1 hs)
  clear hs
  go_enter Try.func36, Try.ntmps36
  go_wp2
  go_ret
  refine ⟨?_, rfl⟩
  show Ending.returned (.iface 43 (.agg #[.int .i16 (IntKind.i16.wrap (Go.bits .or .u32 (Go.bits .and .u32 (x / 1024) 4095) 61440)), .int .u8 12])) = _
  rw [HE.out]
set_option maxRecDepth 100000 in
theorem dec0_ArgSi122110 (x i : Int) (w : World) (x0 : 0 ≤ x) (x1 : x ≤ 4294967295) (_c : (Go.bits .and .u32 x 2097152 == 2097152) = false) (hs : x / 2097152 % 2 = 0) : Calls Try.prog 36 #[.int .u16 31, .int .u32 x, .int .i64 i] w fun e w' => e = .returned (.iface 43 (.agg #[.int .i16 (sg 2048 (x / 1024 % 4096)), .int .u8 12])) ∧ w' = w := by
  have HE : Hid (IntKind.i16.wrap (Go.bits .or .u32 (Go.bits .and .u32 (x / 1024) 4095) 0) = sg 2048 (x / 1024 % 4096)) := hid (eq0_ArgSi122110 x x0 x1 hs)
  clear hs
  go_enter Try.func36, Try.ntmps36
  go_wp2
  go_ret
  refine ⟨?_, rfl⟩
  show Ending.returned (.iface 43 (.agg #[.int .i16 (IntKind.i16.wrap (Go.bits .or .u32 (Go.bits .and .u32 (x / 1024) 4095) 0)), .int .u8 12])) = _
  rw [HE.out]
theorem dec_ArgSi122110 (x i : Int) (w : World) (x0 : 0 ≤ x) (x1 : x ≤ 4294967295) : Calls Try.prog 36 #[.int .u16 31, .int .u32 x, .int .i64 i] w fun e w' => e = .returned (.iface 43 (.agg #[.int .i16 (sg 2048 (x / 1024 % 4096)), .int .u8 12])) ∧ w' = w := by
  have hb := bit_ArgSi122110 x x0 x1
  by_cases hs : x / 2097152 % 2 = 1
  · exact dec1_ArgSi122110 x i w x0 x1 (hb.trans (decide_eq_true hs)) hs
  · exact dec0_ArgSi122110 x i w x0 x1 (hb.trans (decide_eq_false hs)) (by omega)
set_option maxRecDepth 100000 in
theorem dec1_ArgSi142310 (x i : Int) (w : World) (x0 : 0 ≤ x) (x1 : x ≤ 4294967295) (_c : (Go.bits .and .u32 x 8388608 == 8388608) = true) (hs : x / 8388608 % 2 = 1) : Calls Try.prog 36 #[.int .u16 32, .int .u32 x, .int .i64 i] w fun e w' => e = .returned (.iface 45 (.agg #[.int .i32 (4 * sg 8192 (x / 1024 % 16384)), .int .u8 14])) ∧ w' = w := by
  have HE : Hid (wrap32 (Go.bits .or .u32 (Go.bits .and .u32 (x / 1024) 16383 * 4 % 4294967296) 4294901760) = 4 * sg 8192 (x / 1024 % 16384)) := hid (eq1_ArgSi142310 x x0 x1 hs)
  clear hs
  go_enter Try.func36, Try.ntmps36
  go_wp2
  go_ret
  refine ⟨?_, rfl⟩
  show Ending.returned (.iface 45 (.agg #[.int .i32 (wrap32 (Go.bits .or .u32 (Go.bits .and .u32 (x / 1024) 16383 * 4 % 4294967296) 4294901760)), .int .u8 14])) = _
  rw [HE.out]
set_option maxRecDepth 100000 in
theorem dec0_ArgSi142310 (x i : Int) (w : World) (x0 : 0 ≤ x) (x1 : x ≤ 4294967295) (_c : (Go.bits .and .u32 x 8388608 == 8388608) = false) (hs : x / 8388608 % 2 = 0) : Calls Try.prog 36 #[.int .u16 32, .int .u32 x, .int .i64 i] w fun e w' => e = .returned (.iface 45 (.agg #[.int .i32 (4 * sg 8192 (x / 1024 % 16384)), .int .u8 14])) ∧ w' = w := by
  have HE : Hid (wrap32 (Go.bits .or .u32 (Go.bits .and .u32 (x / 1024) 16383 * 4 % 4294967296) 0) = 4 * sg 8192 (x / 1024 % 16384)) := hid (eq0_ArgSi142310 x x0 x1 hs)
  clear hs
  go_enter Try.func36, Try.ntmps36
  go_wp2
  go_ret
  refine ⟨?_, rfl⟩
  show Ending.returned (.iface 45 (.agg #[.int .i32 (wrap32 (Go.bits .or .u32 (Go.bits .and .u32 (x / 1024) 16383 * 4 % 4294967296) 0)), .int .u8 14])) = _
  rw [HE.out]
theorem dec_ArgSi142310 (x i : Int) (w : World) (x0 : 0 ≤ x) (x1 : x ≤ 4294967295) : Calls Try.prog 36 #[.int .u16 32, .int .u32 x, .int .i64 i] w fun e w' => e = .returned (.iface 45 (.agg #[.int .i32 (4 * sg 8192 (x / 1024 % 16384)), .int .u8 14])) ∧ w' = w := by
  have hb := bit_ArgSi142310 x x0 x1
  by_cases hs : x / 8388608 % 2 = 1
  · exact dec1_ArgSi142310 x i w x0 x1 (hb.trans (decide_eq_true hs)) hs
  · exact dec0_ArgSi142310 x i w x0 x1 (hb.trans (decide_eq_false hs)) (by omega)
set_option maxRecDepth 100000 in
theorem dec1_ArgSi162510 (x i : Int) (w : World) (x0 : 0 ≤ x) (x1 : x ≤ 4294967295) (_c : (Go.bits .and .u32 x 33554432 == 33554432) = true) (hs : x / 33554432 % 2 = 1) : Calls Try.prog 36 #[.int .u16 33, .int .u32 x, .int .i64 i] w fun e w' => e = .returned (.iface 45 (.agg #[.int .i32 (sg 32768 (x / 1024 % 65536)), .int .u8 16])) ∧ w' = w := by
  have HE : Hid (wrap32 (Go.bits .or .u32 (Go.bits .and .u32 (x / 1024) 65535) 4294901760) = sg 32768 (x / 1024 % 65536)) := hid (eq1_ArgSi162510 x x0 x1 hs)
  clear hs
  go_enter Try.func36, Try.ntmps36
  go_wp2
  go_ret
  refine ⟨?_, rfl⟩
  show Ending.returned (.iface 45 (.agg #[.int .i32 (wrap32 (Go.bits .or .u32 (Go.bits .and .u32 (x / 1024) 65535) 4294901760)), .int .u8 16])) = _
  rw [HE.out]
set_option maxRecDepth 100000 in
theorem dec0_ArgSi162510 (x i : Int) (w : World) (x0 : 0 ≤ x) (x1 : x ≤ 4294967295) (_c : (Go.bits .and .u32 x 33554432 == 33554432) = false) (hs : x / 33554432 % 2 = 0) : Calls Try.prog 36 #[.int .u16 33, .int .u32 x, .int .i64 i] w fun e w' => e = .returned (.iface 45 (.agg #[.int .i32 (sg 32768 (x / 1024 % 65536)), .int .u8 16])) ∧ w' = w := by
  have HE : Hid (wrap32 (Go.bits .or .u32 (Go.bits .and .u32 (x / 1024) 65535) 0) = sg 32768 (x / 1024 % 65536)) := hid (eq0_ArgSi162510 x x0 x1 hs)
  clear hs
  go_enter Try.func36, Try.ntmps36
  go_wp2
  go_ret
  refine ⟨?_, rfl⟩
  show Ending.returned (.iface 45 (.agg #[.int .i32 (wrap32 (Go.bits .or .u32 (Go.bits .and .u32 (x / 1024) 65535) 0)), .int .u8 16])) = _
  rw [HE.out]
theorem dec_ArgSi162510 (x i : Int) (w : World) (x0 : 0 ≤ x) (x1 : x ≤ 4294967295) : Calls Try.prog 36 #[.int .u16 33, .int .u32 x, .int .i64 i] w fun e w' => e = .returned (.iface 45 (.agg #[.int .i32 (sg 32768 (x / 1024 % 65536)), .int .u8 16])) ∧ w' = w := by
  have hb := bit_ArgSi162510 x x0 x1
  by_cases hs : x / 33554432 % 2 = 1
  · exact dec1_ArgSi162510 x i w x0 x1 (hb.trans (decide_eq_true hs)) hs
  · exact dec0_ArgSi162510 x i w x0 x1 (hb.trans (decide_eq_false hs)) (by omega)
set_option maxRecDepth 100000 in
theorem dec1_ArgSi20245 (x i : Int) (w : World) (x0 : 0 ≤ x) (x1 : x ≤ 4294967295) (_c : (Go.bits .and .u32 x 16777216 == 16777216) = true) (hs : x / 16777216 % 2 = 1) : Calls Try.prog 36 #[.int .u16 34, .int .u32 x, .int .i64 i] w fun e w' => e = .returned (.iface 45 (.agg #[.int .i32 (sg 524288 (x / 32 % 1048576)), .int .u8 20])) ∧ w' = w := by
  have HE : Hid (wrap32 (Go.bits .or .u32 (Go.bits .and .u32 (x / 32) 1048575) 4293918720) = sg 524288 (x / 32 % 1048576)) := hid (eq1_ArgSi20245 x x0 x1 hs)
  clear hs
  go_enter Try.func36, Try.ntmps36
  go_wp2
  go_ret
  refine ⟨?_, rfl⟩
  show Ending.returned (.iface 45 (.agg #[.int .i32 (wrap32 (Go.bits .or .u32 (Go.bits .and .u32 (x / 32) 1048575) 4293918720)), .int .u8 20])) = _
  rw [HE.out]
set_option maxRecDepth 100000 in
theorem dec0_ArgSi20245 (x i : Int) (w : World) (x0 : 0 ≤ x) (x1 : x ≤ 4294967295) (_c : (Go.bits .and .u32 x 16777216 == 16777216) = false) (hs : x / 16777216 % 2 = 0) : Calls Try.prog 36 #[.int .u16 34, .int .u32 x, .int .i64 i] w fun e w' => e = .returned (.iface 45 (.agg #[.int .i32 (sg 524288 (x / 32 % 1048576)), .int .u8 20])) ∧ w' = w := by
  have HE : Hid (wrap32 (Go.bits .or .u32 (Go.bits .and .u32 (x / 32) 1048575) 0) = sg 524288 (x / 32 % 1048576)) := hid (eq0_ArgSi20245 x x0 x1 hs)
  clear hs
  go_enter Try.func36, Try.ntmps36
  go_wp2
  go_ret
  refine ⟨?_, rfl⟩
  show Ending.returned (.iface 45 (.agg #[.int .i32 (wrap32 (Go.bits .or .u32 (Go.bits .and .u32 (x / 32) 1048575) 0)), .int .u8 20])) = _
  rw [HE.out]
theorem dec_ArgSi20245 (x i : Int) (w : World) (x0 : 0 ≤ x) (x1 : x ≤ 4294967295) : Calls Try.prog 36 #[.int .u16 34, .int .u32 x, .int .i64 i] w fun e w' => e = .returned (.iface 45 (.agg #[.int .i32 (sg 524288 (x / 32 % 1048576)), .int .u8 20])) ∧ w' = w := by
  have hb := bit_ArgSi20245 x x0 x1
  by_cases hs : x / 16777216 % 2 = 1
  · exact dec1_ArgSi20245 x i w x0 x1 (hb.trans (decide_eq_true hs)) hs
  · exact dec0_ArgSi20245 x i w x0 x1 (hb.trans (decide_eq_false hs)) (by omega)
set_option maxRecDepth 100000 in
theorem dec_ArgUi122110 (x i : Int) (w : World) (x0 : 0 ≤ x) (x1 : x ≤ 4294967295) : Calls Try.prog 36 #[.int .u16 21, .int .u32 x, .int .i64 i] w fun e w' => e = .returned (.iface 47 (.agg #[.int .u32 (x / 1024 % 4096), .bool false])) ∧ w' = w := by
  have HE : Hid (Go.bits .and .u32 (Go.bits .and .u32 (x / 1024) 4095) 4095 = x / 1024 % 4096) := hid (eq_ArgUi122110 x x0 x1)
  go_enter Try.func36, Try.ntmps36
  go_wp2
  go_ret
  refine ⟨?_, rfl⟩
  show Ending.returned (.iface 47 (.agg #[.int .u32 (Go.bits .and .u32 (Go.bits .and .u32 (x / 1024) 4095) 4095), .bool false])) = _
  rw [HE.out]
set_option maxRecDepth 100000 in
theorem dec_ArgUi51410 (x i : Int) (w : World) (x0 : 0 ≤ x) (x1 : x ≤ 4294967295) : Calls Try.prog 36 #[.int .u16 19, .int .u32 x, .int .i64 i] w fun e w' => e = .returned (.iface 47 (.agg #[.int .u32 (x / 1024 % 32), .bool false])) ∧ w' = w := by
  have HE : Hid (Go.bits .and .u32 (x / 1024) 31 = x / 1024 % 32) := hid (eq_ArgUi51410 x x0 x1)
  go_enter Try.func36, Try.ntmps36
  go_wp2
  go_ret
  refine ⟨?_, rfl⟩
  show Ending.returned (.iface 47 (.agg #[.int .u32 (Go.bits .and .u32 (x / 1024) 31), .bool false])) = _
  rw [HE.out]
set_option maxRecDepth 100000 in
theorem dec_ArgUi61510 (x i : Int) (w : World) (x0 : 0 ≤ x) (x1 : x ≤ 4294967295) : Calls Try.prog 36 #[.int .u16 20, .int .u32 x, .int .i64 i] w fun e w' => e = .returned (.iface 47 (.agg #[.int .u32 (x / 1024 % 64), .bool false])) ∧ w' = w := by
  have HE : Hid (Go.bits .and .u32 (x / 1024) 63 = x / 1024 % 64) := hid (eq_ArgUi61510 x x0 x1)
  go_enter Try.func36, Try.ntmps36
  go_wp2
  go_ret
  refine ⟨?_, rfl⟩
  show Ending.returned (.iface 47 (.agg #[.int .u32 (Go.bits .and .u32 (x / 1024) 63), .bool false])) = _
  rw [HE.out]
end Go.Proofs.Ytfbdgpopkkmkjac.Arg
