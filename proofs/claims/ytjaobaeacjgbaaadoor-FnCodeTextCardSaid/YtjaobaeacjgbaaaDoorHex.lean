/- The walks of FormatInt at base 16 up to 32767, of hexText, CodeText and FnCodeText: each code of 15 bits has a text of its own. -/
import Derived.Test.YtjaobaeacjgbaaaDoorProg
import Derived.WalkKit
import Derived.KernelRfl
import Derived.Below
import Derived.WalkSpells
import Derived.LoopN
import Derived.Laws.IdiomStrings
import Derived.Laws.BitsLemmas
import Derived.Lib.AppendIntMem
namespace Go.Proofs.YtjaobaeacjgbaaaDoor.Hex
open Go.RowKit
theorem hid {p : Prop} (h : p) : Hid p := h
theorem ret_true {a : Bool} (h : a = true) : Ending.returned (.bool a) = .returned (.bool true) := by rw [h]
theorem z16 : IntKind.u64.wrap (Go.bits .and .u64 16 (IntKind.u64.wrap (-16)) * 285870213051353865) / 288230376151711744 = 15 := by kernel_rfl
theorem p16 : Go.bits .and .i64 16 15 = 0 := by kernel_rfl
theorem wraps_u64 (n : Int) (h₀ : 0 ≤ n) (h₁ : n < 2 ^ 63) : IntKind.u64.wrap n = n := by
  have : IntKind.u64.wrap n = n % 18446744073709551616 := by simp [IntKind.wrap, IntKind.bits, IntKind.signed]
  rw [this]
  omega
theorem and15 (x : Int) (h₀ : 0 ≤ x) (h₁ : x ≤ 32767) : Go.bits .and .u64 x 15 = x % 16 :=
  bits_mask .u64 63 (by decide) wraps_u64 4 (by decide) x h₀ (by omega)
theorem tz64 (w : World) (hc : w.cell? ⟨2, 15, none⟩ = some (.int .u8 4)) : Calls Tryd.prog 39 #[.int .u64 16] w fun e w' => e = .returned (.int .i64 4) ∧ w' = w := by
  have hz := z16
  go_enter Tryd.func39, Tryd.ntmps39
  go_wp2
  go_ret
  exact ⟨rfl, rfl⟩
theorem tz (w : World) (hc : w.cell? ⟨2, 15, none⟩ = some (.int .u8 4)) : Calls Tryd.prog 37 #[.int .u64 16] w fun e w' => e = .returned (.int .i64 4) ∧ w' = w := by
  go_enter Tryd.func37, Tryd.ntmps37
  go_wp2_with (go_at_call 39; refine (tz64 _ hc).mono ?_; rintro e w' ⟨rfl, rfl⟩)
  go_ret
  exact ⟨rfl, rfl⟩
theorem pow2 (w : World) : Calls Tryd.prog 36 #[.int .i64 16] w fun e w' => e = .returned (.bool true) ∧ w' = w := by
  have hz := p16
  go_enter Tryd.func36, Tryd.ntmps36
  go_wp2
  go_ret
  exact ⟨rfl, rfl⟩
/-- Sixty-five bytes, all 0. -/
def Z : Array Value := Array.replicate 65 (.int .u8 0)
theorem Z_size : Z.size = 65 := by kernel_rfl
theorem Z64 : Z[64]? = some (.int .u8 0) := by kernel_rfl
theorem Z63 : Z[63]? = some (.int .u8 0) := by kernel_rfl
theorem Z62 : Z[62]? = some (.int .u8 0) := by kernel_rfl
theorem Z61 : Z[61]? = some (.int .u8 0) := by kernel_rfl
theorem zero54 (w : World) : (zeroValue 54).run Tryd.prog w = .ok (.agg Z) w := by kernel_rfl
/-- A hexadecimal digit's byte. -/
def hx (d : Int) : Int := if d < 10 then 48 + d else 87 + d
def hb (d : Int) : UInt8 := UInt8.ofNat (hx d).toNat
theorem hb_toNat (d : Int) (h0 : 0 ≤ d) (h1 : d < 16) : ((hb d).toNat : Int) = hx d := by
  unfold hb
  rw [UInt8.toNat_ofNat']
  unfold hx
  split <;> omega
theorem hx_0 (w : World) : (Instr.index 9 (.string ⟨#[48, 49, 50, 51, 52, 53, 54, 55, 56, 57, 97, 98, 99, 100, 101, 102, 103, 104, 105, 106, 107, 108, 109, 110, 111, 112, 113, 114, 115, 116, 117, 118, 119, 120, 121, 122]⟩) (.int .u64 0)).run Tryd.prog w = .ok (.int .u8 (hx 0)) w := by kernel_rfl
theorem hx_1 (w : World) : (Instr.index 9 (.string ⟨#[48, 49, 50, 51, 52, 53, 54, 55, 56, 57, 97, 98, 99, 100, 101, 102, 103, 104, 105, 106, 107, 108, 109, 110, 111, 112, 113, 114, 115, 116, 117, 118, 119, 120, 121, 122]⟩) (.int .u64 1)).run Tryd.prog w = .ok (.int .u8 (hx 1)) w := by kernel_rfl
theorem hx_2 (w : World) : (Instr.index 9 (.string ⟨#[48, 49, 50, 51, 52, 53, 54, 55, 56, 57, 97, 98, 99, 100, 101, 102, 103, 104, 105, 106, 107, 108, 109, 110, 111, 112, 113, 114, 115, 116, 117, 118, 119, 120, 121, 122]⟩) (.int .u64 2)).run Tryd.prog w = .ok (.int .u8 (hx 2)) w := by kernel_rfl
theorem hx_3 (w : World) : (Instr.index 9 (.string ⟨#[48, 49, 50, 51, 52, 53, 54, 55, 56, 57, 97, 98, 99, 100, 101, 102, 103, 104, 105, 106, 107, 108, 109, 110, 111, 112, 113, 114, 115, 116, 117, 118, 119, 120, 121, 122]⟩) (.int .u64 3)).run Tryd.prog w = .ok (.int .u8 (hx 3)) w := by kernel_rfl
theorem hx_4 (w : World) : (Instr.index 9 (.string ⟨#[48, 49, 50, 51, 52, 53, 54, 55, 56, 57, 97, 98, 99, 100, 101, 102, 103, 104, 105, 106, 107, 108, 109, 110, 111, 112, 113, 114, 115, 116, 117, 118, 119, 120, 121, 122]⟩) (.int .u64 4)).run Tryd.prog w = .ok (.int .u8 (hx 4)) w := by kernel_rfl
theorem hx_5 (w : World) : (Instr.index 9 (.string ⟨#[48, 49, 50, 51, 52, 53, 54, 55, 56, 57, 97, 98, 99, 100, 101, 102, 103, 104, 105, 106, 107, 108, 109, 110, 111, 112, 113, 114, 115, 116, 117, 118, 119, 120, 121, 122]⟩) (.int .u64 5)).run Tryd.prog w = .ok (.int .u8 (hx 5)) w := by kernel_rfl
theorem hx_6 (w : World) : (Instr.index 9 (.string ⟨#[48, 49, 50, 51, 52, 53, 54, 55, 56, 57, 97, 98, 99, 100, 101, 102, 103, 104, 105, 106, 107, 108, 109, 110, 111, 112, 113, 114, 115, 116, 117, 118, 119, 120, 121, 122]⟩) (.int .u64 6)).run Tryd.prog w = .ok (.int .u8 (hx 6)) w := by kernel_rfl
theorem hx_7 (w : World) : (Instr.index 9 (.string ⟨#[48, 49, 50, 51, 52, 53, 54, 55, 56, 57, 97, 98, 99, 100, 101, 102, 103, 104, 105, 106, 107, 108, 109, 110, 111, 112, 113, 114, 115, 116, 117, 118, 119, 120, 121, 122]⟩) (.int .u64 7)).run Tryd.prog w = .ok (.int .u8 (hx 7)) w := by kernel_rfl
theorem hx_8 (w : World) : (Instr.index 9 (.string ⟨#[48, 49, 50, 51, 52, 53, 54, 55, 56, 57, 97, 98, 99, 100, 101, 102, 103, 104, 105, 106, 107, 108, 109, 110, 111, 112, 113, 114, 115, 116, 117, 118, 119, 120, 121, 122]⟩) (.int .u64 8)).run Tryd.prog w = .ok (.int .u8 (hx 8)) w := by kernel_rfl
theorem hx_9 (w : World) : (Instr.index 9 (.string ⟨#[48, 49, 50, 51, 52, 53, 54, 55, 56, 57, 97, 98, 99, 100, 101, 102, 103, 104, 105, 106, 107, 108, 109, 110, 111, 112, 113, 114, 115, 116, 117, 118, 119, 120, 121, 122]⟩) (.int .u64 9)).run Tryd.prog w = .ok (.int .u8 (hx 9)) w := by kernel_rfl
theorem hx_10 (w : World) : (Instr.index 9 (.string ⟨#[48, 49, 50, 51, 52, 53, 54, 55, 56, 57, 97, 98, 99, 100, 101, 102, 103, 104, 105, 106, 107, 108, 109, 110, 111, 112, 113, 114, 115, 116, 117, 118, 119, 120, 121, 122]⟩) (.int .u64 10)).run Tryd.prog w = .ok (.int .u8 (hx 10)) w := by kernel_rfl
theorem hx_11 (w : World) : (Instr.index 9 (.string ⟨#[48, 49, 50, 51, 52, 53, 54, 55, 56, 57, 97, 98, 99, 100, 101, 102, 103, 104, 105, 106, 107, 108, 109, 110, 111, 112, 113, 114, 115, 116, 117, 118, 119, 120, 121, 122]⟩) (.int .u64 11)).run Tryd.prog w = .ok (.int .u8 (hx 11)) w := by kernel_rfl
theorem hx_12 (w : World) : (Instr.index 9 (.string ⟨#[48, 49, 50, 51, 52, 53, 54, 55, 56, 57, 97, 98, 99, 100, 101, 102, 103, 104, 105, 106, 107, 108, 109, 110, 111, 112, 113, 114, 115, 116, 117, 118, 119, 120, 121, 122]⟩) (.int .u64 12)).run Tryd.prog w = .ok (.int .u8 (hx 12)) w := by kernel_rfl
theorem hx_13 (w : World) : (Instr.index 9 (.string ⟨#[48, 49, 50, 51, 52, 53, 54, 55, 56, 57, 97, 98, 99, 100, 101, 102, 103, 104, 105, 106, 107, 108, 109, 110, 111, 112, 113, 114, 115, 116, 117, 118, 119, 120, 121, 122]⟩) (.int .u64 13)).run Tryd.prog w = .ok (.int .u8 (hx 13)) w := by kernel_rfl
theorem hx_14 (w : World) : (Instr.index 9 (.string ⟨#[48, 49, 50, 51, 52, 53, 54, 55, 56, 57, 97, 98, 99, 100, 101, 102, 103, 104, 105, 106, 107, 108, 109, 110, 111, 112, 113, 114, 115, 116, 117, 118, 119, 120, 121, 122]⟩) (.int .u64 14)).run Tryd.prog w = .ok (.int .u8 (hx 14)) w := by kernel_rfl
theorem hx_15 (w : World) : (Instr.index 9 (.string ⟨#[48, 49, 50, 51, 52, 53, 54, 55, 56, 57, 97, 98, 99, 100, 101, 102, 103, 104, 105, 106, 107, 108, 109, 110, 111, 112, 113, 114, 115, 116, 117, 118, 119, 120, 121, 122]⟩) (.int .u64 15)).run Tryd.prog w = .ok (.int .u8 (hx 15)) w := by kernel_rfl
theorem hx_at (d : Int) (h0 : 0 ≤ d) (h1 : d < 16) (w : World) : (Instr.index 9 (.string ⟨#[48, 49, 50, 51, 52, 53, 54, 55, 56, 57, 97, 98, 99, 100, 101, 102, 103, 104, 105, 106, 107, 108, 109, 110, 111, 112, 113, 114, 115, 116, 117, 118, 119, 120, 121, 122]⟩) (.int .u64 d)).run Tryd.prog w = .ok (.int .u8 (hx d)) w := by
  have h : d = 0 ∨ d = 1 ∨ d = 2 ∨ d = 3 ∨ d = 4 ∨ d = 5 ∨ d = 6 ∨ d = 7 ∨ d = 8 ∨ d = 9 ∨ d = 10 ∨ d = 11 ∨ d = 12 ∨ d = 13 ∨ d = 14 ∨ d = 15 := by omega
  rcases h with rfl | rfl | rfl | rfl | rfl | rfl | rfl | rfl | rfl | rfl | rfl | rfl | rfl | rfl | rfl | rfl
  · exact hx_0 w
  · exact hx_1 w
  · exact hx_2 w
  · exact hx_3 w
  · exact hx_4 w
  · exact hx_5 w
  · exact hx_6 w
  · exact hx_7 w
  · exact hx_8 w
  · exact hx_9 w
  · exact hx_10 w
  · exact hx_11 w
  · exact hx_12 w
  · exact hx_13 w
  · exact hx_14 w
  · exact hx_15 w
/-- A code's hexadecimal digits. -/
def hexL (u : Int) : List UInt8 :=
  if u < 16 then [hb u] else if u < 256 then [hb (u / 16), hb (u % 16)] else if u < 4096 then [hb (u / 16 / 16), hb (u / 16 % 16), hb (u % 16)]
  else [hb (u / 16 / 16 / 16), hb (u / 16 / 16 % 16), hb (u / 16 % 16), hb (u % 16)]
/-- 'string(a[i:])' over the new block's cells. -/
theorem conv (w : World) (C : Array Value) (i k : Nat) (l : List UInt8) (hl : l.length = k) (hC : ∀ j (hj : j < l.length), C[i + j]? = some (.int .u8 (l[j].toNat : Int))) :
    (convert 48 9 (.slice (some ⟨w.heap.size, i, none⟩) k k)).run Tryd.prog (w.alloc (.cells C 54)) = .ok (.string ⟨l.toArray⟩) (w.alloc (.cells C 54)) := by
  subst hl
  refine run_convert_bytes_back (P := Tryd.prog) _ 48 9 5 ⟨w.heap.size, i, none⟩ _ l Tryd.underlying48 Tryd.underlying5 Tryd.underlying9 fun j hj => ?_
  have e : (⟨w.heap.size, i, none⟩ : Addr).add j = ⟨w.heap.size, i + j, none⟩ := by simp [Addr.add]
  rw [e, World.cell?_alloc_mark]
  exact hC j hj

theorem conv1 (u : Int) (w : World) (h0 : 0 ≤ u) (h1 : u ≤ 15) :
    (convert 48 9 (.slice (some ⟨w.heap.size, 64, none⟩) 1 1)).run Tryd.prog (w.alloc (.cells (Z.setIfInBounds 64 (.int .u8 (hx (u)))) 54)) = .ok (.string ⟨([hb (u)] : List UInt8).toArray⟩) (w.alloc (.cells (Z.setIfInBounds 64 (.int .u8 (hx (u)))) 54)) := by
  refine conv w _ 64 1 _ rfl fun j hj => ?_
  have hj' : j < 1 := hj
  have hs := Z_size
  obtain rfl : j = 0 := by omega
  simp [hs, hb_toNat (u) (by omega) (by omega)]

theorem fb1 (u : Int) (w : World) (h0 : 0 ≤ u) (h1 : u ≤ 15) (hc : ∀ w', Below w.heap.size w w' → w'.cell? ⟨2, 15, none⟩ = some (.int .u8 4)) :
    Calls Tryd.prog 32 #[.slice none 0 0, .int .u64 u, .int .i64 16, .bool false, .bool false] w fun e w' => e = .returned (.tuple #[.slice none 0 0, .string ⟨([hb (u)] : List UInt8).toArray⟩]) ∧ Below w.heap.size w w' := by
  have HC : Hid (∀ w', Below w.heap.size w w' → w'.cell? ⟨2, 15, none⟩ = some (.int .u8 4)) := hid hc
  have HV := Hid.out (hid (conv1 u w h0 h1))
  clear hc
  have hz := zero54 w
  have hzs := Z_size
  have hi0 := fun w => hx_at (u) (by omega) (by omega) w
  have hZ0 := Z64
  go_enter Tryd.func32, Tryd.ntmps32
  go_wp2_with (first | (go_at_call 36; refine (pow2 _).mono ?_; rintro e w' ⟨rfl, rfl⟩) | (go_at_call 37; refine (tz _ (HC.out _ ((Below.refl _ _).alloc (Nat.le_refl _) _))).mono ?_; rintro e w' ⟨rfl, rfl⟩))
  refine wp_loop_rounds 1 ?_
  rw [rounds_succ]
  go_wp2
  go_ret2
  exact ⟨rfl, (Below.refl _ _).alloc (Nat.le_refl _) _⟩

theorem conv2 (u : Int) (w : World) (h0 : 16 ≤ u) (h1 : u ≤ 255) :
    (convert 48 9 (.slice (some ⟨w.heap.size, 63, none⟩) 2 2)).run Tryd.prog (w.alloc (.cells (((Z.setIfInBounds 64 (.int .u8 (hx (u % 16))))).setIfInBounds 63 (.int .u8 (hx (u / 16)))) 54)) = .ok (.string ⟨([hb (u / 16), hb (u % 16)] : List UInt8).toArray⟩) (w.alloc (.cells (((Z.setIfInBounds 64 (.int .u8 (hx (u % 16))))).setIfInBounds 63 (.int .u8 (hx (u / 16)))) 54)) := by
  refine conv w _ 63 2 _ rfl fun j hj => ?_
  have hj' : j < 2 := hj
  have hs := Z_size
  rcases (by omega : j = 0 ∨ j = 1) with rfl | rfl
  · simp [hs, hb_toNat (u / 16) (by omega) (by omega)]
  · simp [hs, hb_toNat (u % 16) (by omega) (by omega)]

theorem fb2 (u : Int) (w : World) (h0 : 16 ≤ u) (h1 : u ≤ 255) (hc : ∀ w', Below w.heap.size w w' → w'.cell? ⟨2, 15, none⟩ = some (.int .u8 4)) :
    Calls Tryd.prog 32 #[.slice none 0 0, .int .u64 u, .int .i64 16, .bool false, .bool false] w fun e w' => e = .returned (.tuple #[.slice none 0 0, .string ⟨([hb (u / 16), hb (u % 16)] : List UInt8).toArray⟩]) ∧ Below w.heap.size w w' := by
  have HC : Hid (∀ w', Below w.heap.size w w' → w'.cell? ⟨2, 15, none⟩ = some (.int .u8 4)) := hid hc
  have HV := Hid.out (hid (conv2 u w h0 h1))
  clear hc
  have hz := zero54 w
  have hzs := Z_size
  have he0 := and15 (u) (by omega) (by omega)
  have hi0 := fun w => hx_at (u % 16) (by omega) (by omega) w
  have hi1 := fun w => hx_at (u / 16) (by omega) (by omega) w
  have hZ0 := Z64
  have hZ1 := Z63
  go_enter Tryd.func32, Tryd.ntmps32
  go_wp2_with (first | (go_at_call 36; refine (pow2 _).mono ?_; rintro e w' ⟨rfl, rfl⟩) | (go_at_call 37; refine (tz _ (HC.out _ ((Below.refl _ _).alloc (Nat.le_refl _) _))).mono ?_; rintro e w' ⟨rfl, rfl⟩))
  refine wp_loop_rounds 2 ?_
  rw [rounds_succ]
  go_wp2
  rw [rounds_succ]
  go_wp2
  go_ret2
  exact ⟨rfl, (Below.refl _ _).alloc (Nat.le_refl _) _⟩

theorem conv3 (u : Int) (w : World) (h0 : 256 ≤ u) (h1 : u ≤ 4095) :
    (convert 48 9 (.slice (some ⟨w.heap.size, 62, none⟩) 3 3)).run Tryd.prog (w.alloc (.cells (((((Z.setIfInBounds 64 (.int .u8 (hx (u % 16))))).setIfInBounds 63 (.int .u8 (hx (u / 16 % 16))))).setIfInBounds 62 (.int .u8 (hx (u / 16 / 16)))) 54)) = .ok (.string ⟨([hb (u / 16 / 16), hb (u / 16 % 16), hb (u % 16)] : List UInt8).toArray⟩) (w.alloc (.cells (((((Z.setIfInBounds 64 (.int .u8 (hx (u % 16))))).setIfInBounds 63 (.int .u8 (hx (u / 16 % 16))))).setIfInBounds 62 (.int .u8 (hx (u / 16 / 16)))) 54)) := by
  refine conv w _ 62 3 _ rfl fun j hj => ?_
  have hj' : j < 3 := hj
  have hs := Z_size
  rcases (by omega : j = 0 ∨ j = 1 ∨ j = 2) with rfl | rfl | rfl
  · simp [hs, hb_toNat (u / 16 / 16) (by omega) (by omega)]
  · simp [hs, hb_toNat (u / 16 % 16) (by omega) (by omega)]
  · simp [hs, hb_toNat (u % 16) (by omega) (by omega)]

theorem fb3 (u : Int) (w : World) (h0 : 256 ≤ u) (h1 : u ≤ 4095) (hc : ∀ w', Below w.heap.size w w' → w'.cell? ⟨2, 15, none⟩ = some (.int .u8 4)) :
    Calls Tryd.prog 32 #[.slice none 0 0, .int .u64 u, .int .i64 16, .bool false, .bool false] w fun e w' => e = .returned (.tuple #[.slice none 0 0, .string ⟨([hb (u / 16 / 16), hb (u / 16 % 16), hb (u % 16)] : List UInt8).toArray⟩]) ∧ Below w.heap.size w w' := by
  have HC : Hid (∀ w', Below w.heap.size w w' → w'.cell? ⟨2, 15, none⟩ = some (.int .u8 4)) := hid hc
  have HV := Hid.out (hid (conv3 u w h0 h1))
  clear hc
  have hz := zero54 w
  have hzs := Z_size
  have he0 := and15 (u) (by omega) (by omega)
  have hi0 := fun w => hx_at (u % 16) (by omega) (by omega) w
  have he1 := and15 (u / 16) (by omega) (by omega)
  have hi1 := fun w => hx_at (u / 16 % 16) (by omega) (by omega) w
  have hi2 := fun w => hx_at (u / 16 / 16) (by omega) (by omega) w
  have hZ0 := Z64
  have hZ1 := Z63
  have hZ2 := Z62
  go_enter Tryd.func32, Tryd.ntmps32
  go_wp2_with (first | (go_at_call 36; refine (pow2 _).mono ?_; rintro e w' ⟨rfl, rfl⟩) | (go_at_call 37; refine (tz _ (HC.out _ ((Below.refl _ _).alloc (Nat.le_refl _) _))).mono ?_; rintro e w' ⟨rfl, rfl⟩))
  refine wp_loop_rounds 3 ?_
  rw [rounds_succ]
  go_wp2
  rw [rounds_succ]
  go_wp2
  rw [rounds_succ]
  go_wp2
  go_ret2
  exact ⟨rfl, (Below.refl _ _).alloc (Nat.le_refl _) _⟩

theorem conv4 (u : Int) (w : World) (h0 : 4096 ≤ u) (h1 : u ≤ 32767) :
    (convert 48 9 (.slice (some ⟨w.heap.size, 61, none⟩) 4 4)).run Tryd.prog (w.alloc (.cells (((((((Z.setIfInBounds 64 (.int .u8 (hx (u % 16))))).setIfInBounds 63 (.int .u8 (hx (u / 16 % 16))))).setIfInBounds 62 (.int .u8 (hx (u / 16 / 16 % 16))))).setIfInBounds 61 (.int .u8 (hx (u / 16 / 16 / 16)))) 54)) = .ok (.string ⟨([hb (u / 16 / 16 / 16), hb (u / 16 / 16 % 16), hb (u / 16 % 16), hb (u % 16)] : List UInt8).toArray⟩) (w.alloc (.cells (((((((Z.setIfInBounds 64 (.int .u8 (hx (u % 16))))).setIfInBounds 63 (.int .u8 (hx (u / 16 % 16))))).setIfInBounds 62 (.int .u8 (hx (u / 16 / 16 % 16))))).setIfInBounds 61 (.int .u8 (hx (u / 16 / 16 / 16)))) 54)) := by
  refine conv w _ 61 4 _ rfl fun j hj => ?_
  have hj' : j < 4 := hj
  have hs := Z_size
  rcases (by omega : j = 0 ∨ j = 1 ∨ j = 2 ∨ j = 3) with rfl | rfl | rfl | rfl
  · simp [hs, hb_toNat (u / 16 / 16 / 16) (by omega) (by omega)]
  · simp [hs, hb_toNat (u / 16 / 16 % 16) (by omega) (by omega)]
  · simp [hs, hb_toNat (u / 16 % 16) (by omega) (by omega)]
  · simp [hs, hb_toNat (u % 16) (by omega) (by omega)]

theorem fb4 (u : Int) (w : World) (h0 : 4096 ≤ u) (h1 : u ≤ 32767) (hc : ∀ w', Below w.heap.size w w' → w'.cell? ⟨2, 15, none⟩ = some (.int .u8 4)) :
    Calls Tryd.prog 32 #[.slice none 0 0, .int .u64 u, .int .i64 16, .bool false, .bool false] w fun e w' => e = .returned (.tuple #[.slice none 0 0, .string ⟨([hb (u / 16 / 16 / 16), hb (u / 16 / 16 % 16), hb (u / 16 % 16), hb (u % 16)] : List UInt8).toArray⟩]) ∧ Below w.heap.size w w' := by
  have HC : Hid (∀ w', Below w.heap.size w w' → w'.cell? ⟨2, 15, none⟩ = some (.int .u8 4)) := hid hc
  have HV := Hid.out (hid (conv4 u w h0 h1))
  clear hc
  have hz := zero54 w
  have hzs := Z_size
  have he0 := and15 (u) (by omega) (by omega)
  have hi0 := fun w => hx_at (u % 16) (by omega) (by omega) w
  have he1 := and15 (u / 16) (by omega) (by omega)
  have hi1 := fun w => hx_at (u / 16 % 16) (by omega) (by omega) w
  have he2 := and15 (u / 16 / 16) (by omega) (by omega)
  have hi2 := fun w => hx_at (u / 16 / 16 % 16) (by omega) (by omega) w
  have hi3 := fun w => hx_at (u / 16 / 16 / 16) (by omega) (by omega) w
  have hZ0 := Z64
  have hZ1 := Z63
  have hZ2 := Z62
  have hZ3 := Z61
  go_enter Tryd.func32, Tryd.ntmps32
  go_wp2_with (first | (go_at_call 36; refine (pow2 _).mono ?_; rintro e w' ⟨rfl, rfl⟩) | (go_at_call 37; refine (tz _ (HC.out _ ((Below.refl _ _).alloc (Nat.le_refl _) _))).mono ?_; rintro e w' ⟨rfl, rfl⟩))
  refine wp_loop_rounds 4 ?_
  rw [rounds_succ]
  go_wp2
  rw [rounds_succ]
  go_wp2
  rw [rounds_succ]
  go_wp2
  rw [rounds_succ]
  go_wp2
  go_ret2
  exact ⟨rfl, (Below.refl _ _).alloc (Nat.le_refl _) _⟩


theorem fb_any (u : Int) (w : World) (h0 : 0 ≤ u) (h1 : u ≤ 32767) (hc : ∀ w', Below w.heap.size w w' → w'.cell? ⟨2, 15, none⟩ = some (.int .u8 4)) :
    Calls Tryd.prog 32 #[.slice none 0 0, .int .u64 u, .int .i64 16, .bool false, .bool false] w fun e w' => e = .returned (.tuple #[.slice none 0 0, .string ⟨(hexL u).toArray⟩]) ∧ Below w.heap.size w w' := by
  unfold hexL
  by_cases c1 : u < 16
  · rw [if_pos c1]; exact fb1 u w (by omega) (by omega) hc
  rw [if_neg c1]
  by_cases c2 : u < 256
  · rw [if_pos c2]; exact fb2 u w (by omega) (by omega) hc
  rw [if_neg c2]
  by_cases c3 : u < 4096
  · rw [if_pos c3]; exact fb3 u w (by omega) (by omega) hc
  rw [if_neg c3]
  exact fb4 u w (by omega) (by omega) hc
/-- The table's cell reads so, whatever is done from block B on. -/
def Four (B : Nat) (w : World) : Prop := ∀ w', Below B w w' → w'.cell? ⟨2, 15, none⟩ = some (.int .u8 4)
def hexT (u : Int) : ByteArray := ⟨(hexL u).toArray⟩
theorem hexT_size (u : Int) : (hexT u).size ≤ 4 := by
  have e : (hexT u).size = (hexL u).length := by simp [hexT, ByteArray.size]
  rw [e]
  unfold hexL
  split
  · simp
  split
  · simp
  split <;> simp
theorem fi28 (u : Int) (h0 : 0 ≤ u) (h1 : u ≤ 32767) (B : Nat) (w0 w : World) (hf : Four B w0) (hb : Below B w0 w) (hB : B ≤ w.heap.size) :
    Calls Tryd.prog 28 #[.int .i64 u, .int .i64 16] w fun e w' => e = .returned (.string (hexT u)) ∧ Below B w0 w' ∧ B ≤ w'.heap.size := by
  unfold hexT
  have HF : Hid (Four B w0) := hid hf
  have HB : Hid (Below B w0 w) := hid hb
  clear hf hb
  go_enter Tryd.func28, Tryd.ntmps28
  go_wp2_with (go_at_call 32; rw [decide_eq_false (show ¬ u < 0 by omega)]; refine (fb_any u _ h0 h1 (fun w' h => HF.out w' (HB.out.trans (h.mono hB)))).mono ?_; rintro e w' ⟨rfl, hb1⟩)
  go_ret
  exact ⟨rfl, HB.out.trans (hb1.mono hB), Nat.le_trans hB hb1.size⟩
theorem fi26 (u : Int) (h0 : 0 ≤ u) (h1 : u ≤ 32767) (B : Nat) (w0 w : World) (hf : Four B w0) (hb : Below B w0 w) (hB : B ≤ w.heap.size) :
    Calls Tryd.prog 26 #[.int .i64 u, .int .i64 16] w fun e w' => e = .returned (.string (hexT u)) ∧ Below B w0 w' ∧ B ≤ w'.heap.size := by
  have HF : Hid (Four B w0) := hid hf
  have HB : Hid (Below B w0 w) := hid hb
  clear hf hb
  go_enter Tryd.func26, Tryd.ntmps26
  go_wp2_with (go_at_call 28; refine (fi28 u h0 h1 B w0 _ HF.out HB.out hB).mono ?_; rintro e w' ⟨rfl, hb1, hB1⟩)
  go_ret
  exact ⟨rfl, hb1, hB1⟩
def codeT (u : Int) : ByteArray := (⟨#[48, 120]⟩ : ByteArray) ++ hexT u
theorem hex27 (u : Int) (h0 : 0 ≤ u) (h1 : u ≤ 32767) (B : Nat) (w0 w : World) (hf : Four B w0) (hb : Below B w0 w) (hB : B ≤ w.heap.size) :
    Calls Tryd.prog 27 #[.int .i64 u] w fun e w' => e = .returned (.string (codeT u)) ∧ Below B w0 w' ∧ B ≤ w'.heap.size := by
  unfold codeT
  have hs := hexT_size u
  have HF : Hid (Four B w0) := hid hf
  have HB : Hid (Below B w0 w) := hid hb
  clear hf hb
  go_enter Tryd.func27, Tryd.ntmps27
  go_wp2_with (go_at_call 26; refine (fi26 u h0 h1 B w0 _ HF.out HB.out hB).mono ?_; rintro e w' ⟨rfl, hb1, hB1⟩)
  go_ret
  exact ⟨rfl, hb1, hB1⟩
theorem code19 (u : Int) (h0 : 0 ≤ u) (h1 : u ≤ 32767) (B : Nat) (w0 w : World) (hf : Four B w0) (hb : Below B w0 w) (hB : B ≤ w.heap.size) :
    Calls Tryd.prog 19 #[.int .i16 u] w fun e w' => e = .returned (.string (codeT u)) ∧ Below B w0 w' ∧ B ≤ w'.heap.size := by
  have HF : Hid (Four B w0) := hid hf
  have HB : Hid (Below B w0 w) := hid hb
  clear hf hb
  go_enter Tryd.func19, Tryd.ntmps19
  go_wp2_with (go_at_call 27; refine (hex27 u h0 h1 B w0 _ HF.out HB.out hB).mono ?_; rintro e w' ⟨rfl, hb1, hB1⟩)
  go_ret
  exact ⟨rfl, hb1, hB1⟩
theorem code10 (u : Int) (h0 : 0 ≤ u) (h1 : u ≤ 32767) (B : Nat) (w0 w : World) (hf : Four B w0) (hb : Below B w0 w) (hB : B ≤ w.heap.size) :
    Calls Tryd.prog 10 #[.int .i64 u] w fun e w' => e = .returned (.string (codeT u)) ∧ Below B w0 w' ∧ B ≤ w'.heap.size := by
  have HF : Hid (Four B w0) := hid hf
  have HB : Hid (Below B w0 w) := hid hb
  clear hf hb
  go_enter Tryd.func10, Tryd.ntmps10
  go_wp2_with (go_at_call 19; refine (code19 u h0 h1 B w0 _ HF.out HB.out hB).mono ?_; rintro e w' ⟨rfl, hb1, hB1⟩)
  go_ret
  exact ⟨rfl, hb1, hB1⟩

/-- A digit back from its byte. -/
def un (c : UInt8) : Int := if c.toNat < 58 then (c.toNat : Int) - 48 else (c.toNat : Int) - 87
theorem un_hb (d : Int) (h0 : 0 ≤ d) (h1 : d < 16) : un (hb d) = d := by
  have h := hb_toNat d h0 h1
  unfold un
  unfold hx at h
  split at h <;> split <;> omega
def back (l : List UInt8) : Int := l.foldl (fun a c => 16 * a + un c) 0
theorem back_hexL (u : Int) (h0 : 0 ≤ u) (h1 : u ≤ 32767) : back (hexL u) = u := by
  unfold hexL back
  split
  · simp only [List.foldl]; rw [un_hb u (by omega) (by omega)]; omega
  split
  · simp only [List.foldl]; rw [un_hb (u / 16) (by omega) (by omega), un_hb (u % 16) (by omega) (by omega)]; omega
  split
  · simp only [List.foldl]; rw [un_hb (u / 16 / 16) (by omega) (by omega), un_hb (u / 16 % 16) (by omega) (by omega), un_hb (u % 16) (by omega) (by omega)]; omega
  · simp only [List.foldl]; rw [un_hb (u / 16 / 16 / 16) (by omega) (by omega), un_hb (u / 16 / 16 % 16) (by omega) (by omega), un_hb (u / 16 % 16) (by omega) (by omega), un_hb (u % 16) (by omega) (by omega)]; omega
theorem codeT_toList (u : Int) : (codeT u).toList = 48 :: 120 :: hexL u := by rw [ByteArray.toList_eq]; simp [codeT, hexT]
theorem code_unlike (a b : Int) (a0 : 0 ≤ a) (a1 : a ≤ 32767) (b0 : 0 ≤ b) (b1 : b ≤ 32767) : (((codeT a).toList == (codeT b).toList) == (a == b)) = true := by
  rw [codeT_toList, codeT_toList]
  by_cases h : a = b
  · subst h; simp
  · have h2 : ¬ (48 :: 120 :: hexL a = 48 :: 120 :: hexL b) := fun e => h (by
      have e2 := (List.cons.inj (List.cons.inj e).2).2
      rw [← back_hexL a a0 a1, e2, back_hexL b b0 b1])
    rw [beq_eq_false_iff_ne.2 h2, beq_eq_false_iff_ne.2 h]; rfl
theorem code_size (u : Int) : 0 < (codeT u).size := by
  unfold codeT
  rw [ByteArray.size_append]
  have e : (⟨#[48, 120]⟩ : ByteArray).size = 2 := rfl
  omega
theorem law4 (a b : Int) (w : World) (hf : Four w.heap.size w) (a0 : 0 ≤ a) (a1 : a ≤ 32767) (b0 : 0 ≤ b) (b1 : b ≤ 32767) : Calls Tryd.prog 4 #[.int .i64 a, .int .i64 b] w fun e w' => e = .returned (.bool true) ∧ Below w.heap.size w w' := by
  have HF : Hid (Four w.heap.size w) := hid hf
  have HU : Hid ((((codeT a).toList == (codeT b).toList) == (a == b)) = true) := hid (code_unlike a b a0 a1 b0 b1)
  have hs := code_size a
  have HB : Hid (Below w.heap.size w w) := hid (Below.refl _ _)
  clear hf
  go_enter Tryd.func4, Tryd.ntmps4
  go_wp2_with fail
  refine (code10 a (by omega) (by omega) w.heap.size w _ HF.out HB.out (Nat.le_refl _)).mono ?_
  rintro e w1 ⟨rfl, hb1, hB1⟩
  go_wp2_with fail
  refine (code10 b (by omega) (by omega) w.heap.size w _ HF.out hb1 hB1).mono ?_
  rintro e w2 ⟨rfl, hb2, hB2⟩
  go_wp2
  go_ret
  exact ⟨ret_true HU.out, hb2⟩

theorem out4_0 (a b : Int) (w : World)  (_ : a < 0) : Calls Tryd.prog 4 #[.int .i64 a, .int .i64 b] w fun e w' => e = .returned (.bool true) ∧ Below w.heap.size w w' := by
  go_enter Tryd.func4, Tryd.ntmps4
  go_wp2
  go_ret
  exact ⟨rfl, Below.refl _ _⟩
theorem out4_1 (a b : Int) (w : World) (_ : 0 ≤ a) (_ : 32767 < a) : Calls Tryd.prog 4 #[.int .i64 a, .int .i64 b] w fun e w' => e = .returned (.bool true) ∧ Below w.heap.size w w' := by
  go_enter Tryd.func4, Tryd.ntmps4
  go_wp2
  go_ret
  exact ⟨rfl, Below.refl _ _⟩
theorem out4_2 (a b : Int) (w : World) (_ : 0 ≤ a) (_ : a ≤ 32767) (_ : b < 0) : Calls Tryd.prog 4 #[.int .i64 a, .int .i64 b] w fun e w' => e = .returned (.bool true) ∧ Below w.heap.size w w' := by
  go_enter Tryd.func4, Tryd.ntmps4
  go_wp2
  go_ret
  exact ⟨rfl, Below.refl _ _⟩
theorem out4_3 (a b : Int) (w : World) (_ : 0 ≤ a) (_ : a ≤ 32767) (_ : 0 ≤ b) (_ : 32767 < b) : Calls Tryd.prog 4 #[.int .i64 a, .int .i64 b] w fun e w' => e = .returned (.bool true) ∧ Below w.heap.size w w' := by
  go_enter Tryd.func4, Tryd.ntmps4
  go_wp2
  go_ret
  exact ⟨rfl, Below.refl _ _⟩
theorem walk4 (a b : Int) (w : World) (hf : Four w.heap.size w) : Calls Tryd.prog 4 #[.int .i64 a, .int .i64 b] w fun e w' => e = .returned (.bool true) ∧ Below w.heap.size w w' := by
  by_cases h0 : a < 0
  · exact out4_0 a b w  h0
  by_cases h1 : 32767 < a
  · exact out4_1 a b w (by omega) h1
  by_cases h2 : b < 0
  · exact out4_2 a b w (by omega) (by omega) h2
  by_cases h3 : 32767 < b
  · exact out4_3 a b w (by omega) (by omega) (by omega) h3
  exact law4 a b w hf (by omega) (by omega) (by omega) (by omega)

end Go.Proofs.YtjaobaeacjgbaaaDoor.Hex
