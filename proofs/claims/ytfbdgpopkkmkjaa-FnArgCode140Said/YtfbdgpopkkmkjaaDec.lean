/- The walks of decodeArg, kind by kind. -/
import Derived.Test.YtfbdgpopkkmkjaaProg
import Derived.Test.YtfbdgpopkkmkjaaBits
import Derived.WalkKit
import Derived.KernelRfl
import Derived.Below
namespace Go.Proofs.Ytfbdgpopkkmkjaa.Arg
open Go.RowKit
set_option maxRecDepth 100000 in
theorem dec_ArgCa (x i : Int) (w : World) (x0 : 0 ≤ x) (x1 : x ≤ 4294967295) : Calls Try.prog 34 #[.int .u16 14, .int .u32 x, .int .i64 i] w fun e w' => e = .returned (.iface 37 (.int .u8 (x / 32768 % 8))) ∧ w' = w := by
  have HE : Hid (Go.bits .and .u32 (x / 32768) 7 % 256 = x / 32768 % 8) := hid (eq_ArgCa x x0 x1)
  go_enter Try.func34, Try.ntmps34
  go_wp2
  go_ret
  refine ⟨?_, rfl⟩
  show Ending.returned (.iface 37 (.int .u8 (Go.bits .and .u32 (x / 32768) 7 % 256))) = _
  rw [HE.out]
set_option maxRecDepth 100000 in
theorem dec_ArgCd (x i : Int) (w : World) (x0 : 0 ≤ x) (x1 : x ≤ 4294967295) : Calls Try.prog 34 #[.int .u16 12, .int .u32 x, .int .i64 i] w fun e w' => e = .returned (.iface 37 (.int .u8 (x % 8))) ∧ w' = w := by
  have HE : Hid (Go.bits .and .u32 x 7 % 256 = x % 8) := hid (eq_ArgCd x x0 x1)
  go_enter Try.func34, Try.ntmps34
  go_wp2
  go_ret
  refine ⟨?_, rfl⟩
  show Ending.returned (.iface 37 (.int .u8 (Go.bits .and .u32 x 7 % 256))) = _
  rw [HE.out]
set_option maxRecDepth 100000 in
theorem dec_ArgCj (x i : Int) (w : World) (x0 : 0 ≤ x) (x1 : x ≤ 4294967295) : Calls Try.prog 34 #[.int .u16 13, .int .u32 x, .int .i64 i] w fun e w' => e = .returned (.iface 37 (.int .u8 (x / 32 % 8))) ∧ w' = w := by
  have HE : Hid (Go.bits .and .u32 (x / 32) 7 % 256 = x / 32 % 8) := hid (eq_ArgCj x x0 x1)
  go_enter Try.func34, Try.ntmps34
  go_wp2
  go_ret
  refine ⟨?_, rfl⟩
  show Ending.returned (.iface 37 (.int .u8 (Go.bits .and .u32 (x / 32) 7 % 256))) = _
  rw [HE.out]
set_option maxRecDepth 100000 in
theorem dec_ArgCode140 (x i : Int) (w : World) (x0 : 0 ≤ x) (x1 : x ≤ 4294967295) : Calls Try.prog 34 #[.int .u16 18, .int .u32 x, .int .i64 i] w fun e w' => e = .returned (.iface 47 (.int .i16 (x % 32768))) ∧ w' = w := by
  have HE : Hid (IntKind.i16.wrap (Go.bits .and .u32 x 32767) = x % 32768) := hid (eq_ArgCode140 x x0 x1)
  go_enter Try.func34, Try.ntmps34
  go_wp2
  go_ret
  refine ⟨?_, rfl⟩
  show Ending.returned (.iface 47 (.int .i16 (IntKind.i16.wrap (Go.bits .and .u32 x 32767)))) = _
  rw [HE.out]
set_option maxRecDepth 100000 in
theorem dec_ArgCode40 (x i : Int) (w : World) (x0 : 0 ≤ x) (x1 : x ≤ 4294967295) : Calls Try.prog 34 #[.int .u16 17, .int .u32 x, .int .i64 i] w fun e w' => e = .returned (.iface 47 (.int .i16 (x % 32))) ∧ w' = w := by
  have HE : Hid (IntKind.i16.wrap (Go.bits .and .u32 x 31) = x % 32) := hid (eq_ArgCode40 x x0 x1)
  go_enter Try.func34, Try.ntmps34
  go_wp2
  go_ret
  refine ⟨?_, rfl⟩
  show Ending.returned (.iface 47 (.int .i16 (IntKind.i16.wrap (Go.bits .and .u32 x 31)))) = _
  rw [HE.out]
set_option maxRecDepth 100000 in
theorem dec_ArgCsr2310 (x i : Int) (w : World) (x0 : 0 ≤ x) (x1 : x ≤ 4294967295) : Calls Try.prog 34 #[.int .u16 11, .int .u32 x, .int .i64 i] w fun e w' => e = .returned (.iface 45 (.agg #[.int .u32 (x / 1024 % 16384), .bool false])) ∧ w' = w := by
  have HE : Hid (Go.bits .and .u32 (x / 1024) 16383 = x / 1024 % 16384) := hid (eq_ArgCsr2310 x x0 x1)
  go_enter Try.func34, Try.ntmps34
  go_wp2
  go_ret
  refine ⟨?_, rfl⟩
  show Ending.returned (.iface 45 (.agg #[.int .u32 (Go.bits .and .u32 (x / 1024) 16383), .bool false])) = _
  rw [HE.out]
set_option maxRecDepth 100000 in
theorem dec_ArgFa (x i : Int) (w : World) (x0 : 0 ≤ x) (x1 : x ≤ 4294967295) : Calls Try.prog 34 #[.int .u16 4, .int .u32 x, .int .i64 i] w fun e w' => e = .returned (.iface 36 (.int .u16 (32 + x / 32768 % 32))) ∧ w' = w := by
  have HE : Hid (IntKind.u16.wrap (32 + IntKind.u16.wrap (Go.bits .and .u32 (x / 32768) 31)) = 32 + x / 32768 % 32) := hid (eq_ArgFa x x0 x1)
  go_enter Try.func34, Try.ntmps34
  go_wp2
  go_ret
  refine ⟨?_, rfl⟩
  show Ending.returned (.iface 36 (.int .u16 (IntKind.u16.wrap (32 + IntKind.u16.wrap (Go.bits .and .u32 (x / 32768) 31))))) = _
  rw [HE.out]
set_option maxRecDepth 100000 in
theorem dec_ArgFcsr40 (x i : Int) (w : World) (x0 : 0 ≤ x) (x1 : x ≤ 4294967295) : Calls Try.prog 34 #[.int .u16 9, .int .u32 x, .int .i64 i] w fun e w' => e = .returned (.iface 38 (.int .u8 (x % 32))) ∧ w' = w := by
  have HE : Hid (Go.bits .and .u32 x 31 % 256 = x % 32) := hid (eq_ArgFcsr40 x x0 x1)
  go_enter Try.func34, Try.ntmps34
  go_wp2
  go_ret
  refine ⟨?_, rfl⟩
  show Ending.returned (.iface 38 (.int .u8 (Go.bits .and .u32 x 31 % 256))) = _
  rw [HE.out]
set_option maxRecDepth 100000 in
theorem dec_ArgFcsr95 (x i : Int) (w : World) (x0 : 0 ≤ x) (x1 : x ≤ 4294967295) : Calls Try.prog 34 #[.int .u16 10, .int .u32 x, .int .i64 i] w fun e w' => e = .returned (.iface 38 (.int .u8 (x / 32 % 32))) ∧ w' = w := by
  have HE : Hid (Go.bits .and .u32 (x / 32) 31 % 256 = x / 32 % 32) := hid (eq_ArgFcsr95 x x0 x1)
  go_enter Try.func34, Try.ntmps34
  go_wp2
  go_ret
  refine ⟨?_, rfl⟩
  show Ending.returned (.iface 38 (.int .u8 (Go.bits .and .u32 (x / 32) 31 % 256))) = _
  rw [HE.out]
set_option maxRecDepth 100000 in
theorem dec_ArgFd (x i : Int) (w : World) (x0 : 0 ≤ x) (x1 : x ≤ 4294967295) : Calls Try.prog 34 #[.int .u16 1, .int .u32 x, .int .i64 i] w fun e w' => e = .returned (.iface 36 (.int .u16 (32 + x % 32))) ∧ w' = w := by
  have HE : Hid (IntKind.u16.wrap (32 + IntKind.u16.wrap (Go.bits .and .u32 x 31)) = 32 + x % 32) := hid (eq_ArgFd x x0 x1)
  go_enter Try.func34, Try.ntmps34
  go_wp2
  go_ret
  refine ⟨?_, rfl⟩
  show Ending.returned (.iface 36 (.int .u16 (IntKind.u16.wrap (32 + IntKind.u16.wrap (Go.bits .and .u32 x 31))))) = _
  rw [HE.out]
set_option maxRecDepth 100000 in
theorem dec_ArgFj (x i : Int) (w : World) (x0 : 0 ≤ x) (x1 : x ≤ 4294967295) : Calls Try.prog 34 #[.int .u16 2, .int .u32 x, .int .i64 i] w fun e w' => e = .returned (.iface 36 (.int .u16 (32 + x / 32 % 32))) ∧ w' = w := by
  have HE : Hid (IntKind.u16.wrap (32 + IntKind.u16.wrap (Go.bits .and .u32 (x / 32) 31)) = 32 + x / 32 % 32) := hid (eq_ArgFj x x0 x1)
  go_enter Try.func34, Try.ntmps34
  go_wp2
  go_ret
  refine ⟨?_, rfl⟩
  show Ending.returned (.iface 36 (.int .u16 (IntKind.u16.wrap (32 + IntKind.u16.wrap (Go.bits .and .u32 (x / 32) 31))))) = _
  rw [HE.out]
set_option maxRecDepth 100000 in
theorem dec_ArgFk (x i : Int) (w : World) (x0 : 0 ≤ x) (x1 : x ≤ 4294967295) : Calls Try.prog 34 #[.int .u16 3, .int .u32 x, .int .i64 i] w fun e w' => e = .returned (.iface 36 (.int .u16 (32 + x / 1024 % 32))) ∧ w' = w := by
  have HE : Hid (IntKind.u16.wrap (32 + IntKind.u16.wrap (Go.bits .and .u32 (x / 1024) 31)) = 32 + x / 1024 % 32) := hid (eq_ArgFk x x0 x1)
  go_enter Try.func34, Try.ntmps34
  go_wp2
  go_ret
  refine ⟨?_, rfl⟩
  show Ending.returned (.iface 36 (.int .u16 (IntKind.u16.wrap (32 + IntKind.u16.wrap (Go.bits .and .u32 (x / 1024) 31))))) = _
  rw [HE.out]
end Go.Proofs.Ytfbdgpopkkmkjaa.Arg
