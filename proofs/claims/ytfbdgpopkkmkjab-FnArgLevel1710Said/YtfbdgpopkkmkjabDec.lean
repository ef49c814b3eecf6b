/- The walks of decodeArg, kind by kind. -/
import Derived.Test.YtfbdgpopkkmkjabProg
import Derived.Test.YtfbdgpopkkmkjabBits
import Derived.WalkKit
import Derived.KernelRfl
import Derived.Below
namespace Go.Proofs.Ytfbdgpopkkmkjab.Arg
open Go.RowKit
set_option maxRecDepth 100000 in
theorem dec_ArgHint140 (x i : Int) (w : World) (x0 : 0 ≤ x) (x1 : x ≤ 4294967295) : Calls Try.prog 38 #[.int .u16 27, .int .u32 x, .int .i64 i] w fun e w' => e = .returned (.iface 49 (.agg #[.int .u32 (x % 32768), .bool false])) ∧ w' = w := by
  have HE : Hid (Go.bits .and .u32 x 32767 = x % 32768) := hid (eq_ArgHint140 x x0 x1)
  go_enter Try.func38, Try.ntmps38
  go_wp2
  go_ret
  refine ⟨?_, rfl⟩
  show Ending.returned (.iface 49 (.agg #[.int .u32 (Go.bits .and .u32 x 32767), .bool false])) = _
  rw [HE.out]
set_option maxRecDepth 100000 in
theorem dec_ArgHint40 (x i : Int) (w : World) (x0 : 0 ≤ x) (x1 : x ≤ 4294967295) : Calls Try.prog 38 #[.int .u16 26, .int .u32 x, .int .i64 i] w fun e w' => e = .returned (.iface 49 (.agg #[.int .u32 (x % 32), .bool false])) ∧ w' = w := by
  have HE : Hid (Go.bits .and .u32 x 31 = x % 32) := hid (eq_ArgHint40 x x0 x1)
  go_enter Try.func38, Try.ntmps38
  go_wp2
  go_ret
  refine ⟨?_, rfl⟩
  show Ending.returned (.iface 49 (.agg #[.int .u32 (Go.bits .and .u32 x 31), .bool false])) = _
  rw [HE.out]
set_option maxRecDepth 100000 in
theorem dec_ArgLevel140 (x i : Int) (w : World) (x0 : 0 ≤ x) (x1 : x ≤ 4294967295) : Calls Try.prog 38 #[.int .u16 28, .int .u32 x, .int .i64 i] w fun e w' => e = .returned (.iface 49 (.agg #[.int .u32 (x % 32768), .bool false])) ∧ w' = w := by
  have HE : Hid (Go.bits .and .u32 x 32767 = x % 32768) := hid (eq_ArgLevel140 x x0 x1)
  go_enter Try.func38, Try.ntmps38
  go_wp2
  go_ret
  refine ⟨?_, rfl⟩
  show Ending.returned (.iface 49 (.agg #[.int .u32 (Go.bits .and .u32 x 32767), .bool false])) = _
  rw [HE.out]
set_option maxRecDepth 100000 in
theorem dec_ArgLevel1710 (x i : Int) (w : World) (x0 : 0 ≤ x) (x1 : x ≤ 4294967295) : Calls Try.prog 38 #[.int .u16 29, .int .u32 x, .int .i64 i] w fun e w' => e = .returned (.iface 49 (.agg #[.int .u32 (x / 1024 % 256), .bool false])) ∧ w' = w := by
  have HE : Hid (Go.bits .and .u32 (x / 1024) 255 = x / 1024 % 256) := hid (eq_ArgLevel1710 x x0 x1)
  go_enter Try.func38, Try.ntmps38
  go_wp2
  go_ret
  refine ⟨?_, rfl⟩
  show Ending.returned (.iface 49 (.agg #[.int .u32 (Go.bits .and .u32 (x / 1024) 255), .bool false])) = _
  rw [HE.out]
set_option maxRecDepth 100000 in
theorem dec_ArgLsbd (x i : Int) (w : World) (x0 : 0 ≤ x) (x1 : x ≤ 4294967295) : Calls Try.prog 38 #[.int .u16 24, .int .u32 x, .int .i64 i] w fun e w' => e = .returned (.iface 49 (.agg #[.int .u32 (x / 1024 % 64), .bool false])) ∧ w' = w := by
  have HE : Hid (Go.bits .and .u32 (x / 1024) 63 = x / 1024 % 64) := hid (eq_ArgLsbd x x0 x1)
  go_enter Try.func38, Try.ntmps38
  go_wp2
  go_ret
  refine ⟨?_, rfl⟩
  show Ending.returned (.iface 49 (.agg #[.int .u32 (Go.bits .and .u32 (x / 1024) 63), .bool false])) = _
  rw [HE.out]
set_option maxRecDepth 100000 in
theorem dec_ArgLsbw (x i : Int) (w : World) (x0 : 0 ≤ x) (x1 : x ≤ 4294967295) : Calls Try.prog 38 #[.int .u16 22, .int .u32 x, .int .i64 i] w fun e w' => e = .returned (.iface 49 (.agg #[.int .u32 (x / 1024 % 32), .bool false])) ∧ w' = w := by
  have HE : Hid (Go.bits .and .u32 (x / 1024) 31 = x / 1024 % 32) := hid (eq_ArgLsbw x x0 x1)
  go_enter Try.func38, Try.ntmps38
  go_wp2
  go_ret
  refine ⟨?_, rfl⟩
  show Ending.returned (.iface 49 (.agg #[.int .u32 (Go.bits .and .u32 (x / 1024) 31), .bool false])) = _
  rw [HE.out]
set_option maxRecDepth 100000 in
theorem dec_ArgMsbd (x i : Int) (w : World) (x0 : 0 ≤ x) (x1 : x ≤ 4294967295) : Calls Try.prog 38 #[.int .u16 25, .int .u32 x, .int .i64 i] w fun e w' => e = .returned (.iface 49 (.agg #[.int .u32 (x / 65536 % 64), .bool false])) ∧ w' = w := by
  have HE : Hid (Go.bits .and .u32 (x / 65536) 63 = x / 65536 % 64) := hid (eq_ArgMsbd x x0 x1)
  go_enter Try.func38, Try.ntmps38
  go_wp2
  go_ret
  refine ⟨?_, rfl⟩
  show Ending.returned (.iface 49 (.agg #[.int .u32 (Go.bits .and .u32 (x / 65536) 63), .bool false])) = _
  rw [HE.out]
set_option maxRecDepth 100000 in
theorem dec_ArgMsbw (x i : Int) (w : World) (x0 : 0 ≤ x) (x1 : x ≤ 4294967295) : Calls Try.prog 38 #[.int .u16 23, .int .u32 x, .int .i64 i] w fun e w' => e = .returned (.iface 49 (.agg #[.int .u32 (x / 65536 % 32), .bool false])) ∧ w' = w := by
  have HE : Hid (Go.bits .and .u32 (x / 65536) 31 = x / 65536 % 32) := hid (eq_ArgMsbw x x0 x1)
  go_enter Try.func38, Try.ntmps38
  go_wp2
  go_ret
  refine ⟨?_, rfl⟩
  show Ending.returned (.iface 49 (.agg #[.int .u32 (Go.bits .and .u32 (x / 65536) 31), .bool false])) = _
  rw [HE.out]
set_option maxRecDepth 100000 in
theorem dec1_ArgOffset150 (x i : Int) (w : World) (x0 : 0 ≤ x) (x1 : x ≤ 4294967295) (_c : (Go.bits .and .u32 x 33554432 == 33554432) = true) (hs : x / 33554432 % 2 = 1) : Calls Try.prog 38 #[.int .u16 37, .int .u32 x, .int .i64 i] w fun e w' => e = .returned (.iface 50 (.agg #[.int .i32 (4 * sg 32768 (x / 1024 % 65536)), .int .u8 16])) ∧ w' = w := by
  have HE : Hid (wrap32 (Go.bits .or .u32 (Go.bits .and .u32 (x / 1024) 65535 * 4 % 4294967296) 4294705152) = 4 * sg 32768 (x / 1024 % 65536)) := hid (eq1_ArgOffset150 x x0 x1 hs)
  clear hs
  go_enter Try.func38, Try.ntmps38
  go_wp2
  go_ret
  refine ⟨?_, rfl⟩
  show Ending.returned (.iface 50 (.agg #[.int .i32 (wrap32 (Go.bits .or .u32 (Go.bits .and .u32 (x / 1024) 65535 * 4 % 4294967296) 4294705152)), .int .u8 16])) = _
  rw [HE.out]
set_option maxRecDepth 100000 in
theorem dec0_ArgOffset150 (x i : Int) (w : World) (x0 : 0 ≤ x) (x1 : x ≤ 4294967295) (_c : (Go.bits .and .u32 x 33554432 == 33554432) = false) (hs : x / 33554432 % 2 = 0) : Calls Try.prog 38 #[.int .u16 37, .int .u32 x, .int .i64 i] w fun e w' => e = .returned (.iface 50 (.agg #[.int .i32 (4 * sg 32768 (x / 1024 % 65536)), .int .u8 16])) ∧ w' = w := by
  have HE : Hid (wrap32 (Go.bits .or .u32 (Go.bits .and .u32 (x / 1024) 65535 * 4 % 4294967296) 0) = 4 * sg 32768 (x / 1024 % 65536)) := hid (eq0_ArgOffset150 x x0 x1 hs)
  clear hs
  go_enter Try.func38, Try.ntmps38
  go_wp2
  go_ret
  refine ⟨?_, rfl⟩
  show Ending.returned (.iface 50 (.agg #[.int .i32 (wrap32 (Go.bits .or .u32 (Go.bits .and .u32 (x / 1024) 65535 * 4 % 4294967296) 0)), .int .u8 16])) = _
  rw [HE.out]
theorem dec_ArgOffset150 (x i : Int) (w : World) (x0 : 0 ≤ x) (x1 : x ≤ 4294967295) : Calls Try.prog 38 #[.int .u16 37, .int .u32 x, .int .i64 i] w fun e w' => e = .returned (.iface 50 (.agg #[.int .i32 (4 * sg 32768 (x / 1024 % 65536)), .int .u8 16])) ∧ w' = w := by
  have hb := bit_ArgOffset150 x x0 x1
  by_cases hs : x / 33554432 % 2 = 1
  · exact dec1_ArgOffset150 x i w x0 x1 (hb.trans (decide_eq_true hs)) hs
  · exact dec0_ArgOffset150 x i w x0 x1 (hb.trans (decide_eq_false hs)) (by omega)
set_option maxRecDepth 100000 in
theorem dec1_ArgOffset200 (x i : Int) (w : World) (x0 : 0 ≤ x) (x1 : x ≤ 4294967295) (_c : (Go.bits .and .u32 x 16 == 16) = true) (hs : x / 16 % 2 = 1) : Calls Try.prog 38 #[.int .u16 35, .int .u32 x, .int .i64 i] w fun e w' => e = .returned (.iface 50 (.agg #[.int .i32 (4 * sg 1048576 (x % 32 * 65536 + x / 1024 % 65536)), .int .u8 21])) ∧ w' = w := by
  have HE : Hid (wrap32 (Go.bits .or .u32 (Go.bits .and .u32 (Go.bits .or .u32 (x * 65536 % 4294967296) (Go.bits .and .u32 (x / 1024) 65535)) 2097151 * 4 % 4294967296) 4286578688) = 4 * sg 1048576 (x % 32 * 65536 + x / 1024 % 65536)) := hid (eq1_ArgOffset200 x x0 x1 hs)
  clear hs
  go_enter Try.func38, Try.ntmps38
  go_wp2
  go_ret
  refine ⟨?_, rfl⟩
  show Ending.returned (.iface 50 (.agg #[.int .i32 (wrap32 (Go.bits .or .u32 (Go.bits .and .u32 (Go.bits .or .u32 (x * 65536 % 4294967296) (Go.bits .and .u32 (x / 1024) 65535)) 2097151 * 4 % 4294967296) 4286578688)), .int .u8 21])) = _
  rw [HE.out]
set_option maxRecDepth 100000 in
theorem dec0_ArgOffset200 (x i : Int) (w : World) (x0 : 0 ≤ x) (x1 : x ≤ 4294967295) (_c : (Go.bits .and .u32 x 16 == 16) = false) (hs : x / 16 % 2 = 0) : Calls Try.prog 38 #[.int .u16 35, .int .u32 x, .int .i64 i] w fun e w' => e = .returned (.iface 50 (.agg #[.int .i32 (4 * sg 1048576 (x % 32 * 65536 + x / 1024 % 65536)), .int .u8 21])) ∧ w' = w := by
  have HE : Hid (wrap32 (Go.bits .and .u32 (Go.bits .or .u32 (x * 65536 % 4294967296) (Go.bits .and .u32 (x / 1024) 65535)) 2097151 * 4 % 4294967296) = 4 * sg 1048576 (x % 32 * 65536 + x / 1024 % 65536)) := hid (eq0_ArgOffset200 x x0 x1 hs)
  clear hs
  go_enter Try.func38, Try.ntmps38
  go_wp2
  go_ret
  refine ⟨?_, rfl⟩
  show Ending.returned (.iface 50 (.agg #[.int .i32 (wrap32 (Go.bits .and .u32 (Go.bits .or .u32 (x * 65536 % 4294967296) (Go.bits .and .u32 (x / 1024) 65535)) 2097151 * 4 % 4294967296)), .int .u8 21])) = _
  rw [HE.out]
theorem dec_ArgOffset200 (x i : Int) (w : World) (x0 : 0 ≤ x) (x1 : x ≤ 4294967295) : Calls Try.prog 38 #[.int .u16 35, .int .u32 x, .int .i64 i] w fun e w' => e = .returned (.iface 50 (.agg #[.int .i32 (4 * sg 1048576 (x % 32 * 65536 + x / 1024 % 65536)), .int .u8 21])) ∧ w' = w := by
  have hb := bit_ArgOffset200 x x0 x1
  by_cases hs : x / 16 % 2 = 1
  · exact dec1_ArgOffset200 x i w x0 x1 (hb.trans (decide_eq_true hs)) hs
  · exact dec0_ArgOffset200 x i w x0 x1 (hb.trans (decide_eq_false hs)) (by omega)
set_option maxRecDepth 100000 in
theorem dec1_ArgOffset250 (x i : Int) (w : World) (x0 : 0 ≤ x) (x1 : x ≤ 4294967295) (_c : (Go.bits .and .u32 x 512 == 512) = true) (hs : x / 512 % 2 = 1) : Calls Try.prog 38 #[.int .u16 36, .int .u32 x, .int .i64 i] w fun e w' => e = .returned (.iface 50 (.agg #[.int .i32 (4 * sg 33554432 (x % 1024 * 65536 + x / 1024 % 65536)), .int .u8 26])) ∧ w' = w := by
  have HE : Hid (wrap32 (Go.bits .or .u32 (Go.bits .and .u32 (Go.bits .or .u32 (x * 65536 % 4294967296) (Go.bits .and .u32 (x / 1024) 65535)) 67108863 * 4 % 4294967296) 4026531840) = 4 * sg 33554432 (x % 1024 * 65536 + x / 1024 % 65536)) := hid (eq1_ArgOffset250 x x0 x1 hs)
  clear hs
  go_enter Try.func38, Try.ntmps38
  go_wp2
  go_ret
  refine ⟨?_, rfl⟩
  show Ending.returned (.iface 50 (.agg #[.int .i32 (wrap32 (Go.bits .or .u32 (Go.bits .and .u32 (Go.bits .or .u32 (x * 65536 % 4294967296) (Go.bits .and .u32 (x / 1024) 65535)) 67108863 * 4 % 4294967296) 4026531840)), .int .u8 26])) = _
  rw [HE.out]
set_option maxRecDepth 100000 in
theorem dec0_ArgOffset250 (x i : Int) (w : World) (x0 : 0 ≤ x) (x1 : x ≤ 4294967295) (_c : (Go.bits .and .u32 x 512 == 512) = false) (hs : x / 512 % 2 = 0) : Calls Try.prog 38 #[.int .u16 36, .int .u32 x, .int .i64 i] w fun e w' => e = .returned (.iface 50 (.agg #[.int .i32 (4 * sg 33554432 (x % 1024 * 65536 + x / 1024 % 65536)), .int .u8 26])) ∧ w' = w := by
  have HE : Hid (wrap32 (Go.bits .or .u32 (Go.bits .and .u32 (Go.bits .or .u32 (x * 65536 % 4294967296) (Go.bits .and .u32 (x / 1024) 65535)) 67108863 * 4 % 4294967296) 0) = 4 * sg 33554432 (x % 1024 * 65536 + x / 1024 % 65536)) := hid (eq0_ArgOffset250 x x0 x1 hs)
  clear hs
  go_enter Try.func38, Try.ntmps38
  go_wp2
  go_ret
  refine ⟨?_, rfl⟩
  show Ending.returned (.iface 50 (.agg #[.int .i32 (wrap32 (Go.bits .or .u32 (Go.bits .and .u32 (Go.bits .or .u32 (x * 65536 % 4294967296) (Go.bits .and .u32 (x / 1024) 65535)) 67108863 * 4 % 4294967296) 0)), .int .u8 26])) = _
  rw [HE.out]
theorem dec_ArgOffset250 (x i : Int) (w : World) (x0 : 0 ≤ x) (x1 : x ≤ 4294967295) : Calls Try.prog 38 #[.int .u16 36, .int .u32 x, .int .i64 i] w fun e w' => e = .returned (.iface 50 (.agg #[.int .i32 (4 * sg 33554432 (x % 1024 * 65536 + x / 1024 % 65536)), .int .u8 26])) ∧ w' = w := by
  have hb := bit_ArgOffset250 x x0 x1
  by_cases hs : x / 512 % 2 = 1
  · exact dec1_ArgOffset250 x i w x0 x1 (hb.trans (decide_eq_true hs)) hs
  · exact dec0_ArgOffset250 x i w x0 x1 (hb.trans (decide_eq_false hs)) (by omega)
set_option maxRecDepth 100000 in
theorem dec_ArgOp40 (x i : Int) (w : World) (x0 : 0 ≤ x) (x1 : x ≤ 4294967295) : Calls Try.prog 38 #[.int .u16 8, .int .u32 x, .int .i64 i] w fun e w' => e = .returned (.iface 49 (.agg #[.int .u32 (x % 32), .bool false])) ∧ w' = w := by
  have HE : Hid (Go.bits .and .u32 x 31 = x % 32) := hid (eq_ArgOp40 x x0 x1)
  go_enter Try.func38, Try.ntmps38
  go_wp2
  go_ret
  refine ⟨?_, rfl⟩
  show Ending.returned (.iface 49 (.agg #[.int .u32 (Go.bits .and .u32 x 31), .bool false])) = _
  rw [HE.out]
end Go.Proofs.Ytfbdgpopkkmkjab.Arg
