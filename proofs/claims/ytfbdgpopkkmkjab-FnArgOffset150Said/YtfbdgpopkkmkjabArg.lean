/- The walks of the thin package's functions and of the reference's Field. -/
import Derived.Test.YtfbdgpopkkmkjabDec
import Derived.Laws.BitsLemmas
import Derived.Deep.QuietTactic
import Derived.BigQuiet
namespace Go.Proofs.Ytfbdgpopkkmkjab.Arg
open Go.RowKit
theorem bel_drewN {B : Nat} {a w : World} (h : Below B a w) (n : Nat) : Below B a (w.drewN n) := ⟨h.os, h.tape, h.output, h.size, h.block⟩
theorem nil_arg (W : World) (u : TypeId) (v : Value) : (binOp .eql 35 (.iface u v) .nilIface).run Try.prog W = .ok (.bool false) W := by kernel_rfl
theorem as_Uimm_Reg (W : World) (v : Value) : (Instr.typeAssert (.iface 49 v) 35 40 true).run Try.prog W = .ok (.tuple #[.int .u16 0, .bool false]) W := by kernel_rfl
theorem as_Uimm_Fcc (W : World) (v : Value) : (Instr.typeAssert (.iface 49 v) 35 41 true).run Try.prog W = .ok (.tuple #[.int .u8 0, .bool false]) W := by kernel_rfl
theorem as_Uimm_Fcsr (W : World) (v : Value) : (Instr.typeAssert (.iface 49 v) 35 42 true).run Try.prog W = .ok (.tuple #[.int .u8 0, .bool false]) W := by kernel_rfl
theorem as_Uimm_Simm16 (W : World) (v : Value) : (Instr.typeAssert (.iface 49 v) 35 45 true).run Try.prog W = .ok (.tuple #[.agg #[.int .i16 0, .int .u8 0], .bool false]) W := by kernel_rfl
theorem as_Uimm_Simm32 (W : World) (v : Value) : (Instr.typeAssert (.iface 49 v) 35 47 true).run Try.prog W = .ok (.tuple #[.agg #[.int .i32 0, .int .u8 0], .bool false]) W := by kernel_rfl
theorem as_Uimm_Uimm (W : World) (v : Value) : (Instr.typeAssert (.iface 49 v) 35 49 true).run Try.prog W = .ok (.tuple #[v, .bool true]) W := by kernel_rfl
theorem as_OffsetSimm_Reg (W : World) (v : Value) : (Instr.typeAssert (.iface 50 v) 35 40 true).run Try.prog W = .ok (.tuple #[.int .u16 0, .bool false]) W := by kernel_rfl
theorem as_OffsetSimm_Fcc (W : World) (v : Value) : (Instr.typeAssert (.iface 50 v) 35 41 true).run Try.prog W = .ok (.tuple #[.int .u8 0, .bool false]) W := by kernel_rfl
theorem as_OffsetSimm_Fcsr (W : World) (v : Value) : (Instr.typeAssert (.iface 50 v) 35 42 true).run Try.prog W = .ok (.tuple #[.int .u8 0, .bool false]) W := by kernel_rfl
theorem as_OffsetSimm_Simm16 (W : World) (v : Value) : (Instr.typeAssert (.iface 50 v) 35 45 true).run Try.prog W = .ok (.tuple #[.agg #[.int .i16 0, .int .u8 0], .bool false]) W := by kernel_rfl
theorem as_OffsetSimm_Simm32 (W : World) (v : Value) : (Instr.typeAssert (.iface 50 v) 35 47 true).run Try.prog W = .ok (.tuple #[.agg #[.int .i32 0, .int .u8 0], .bool false]) W := by kernel_rfl
theorem as_OffsetSimm_Uimm (W : World) (v : Value) : (Instr.typeAssert (.iface 50 v) 35 49 true).run Try.prog W = .ok (.tuple #[.agg #[.int .u32 0, .bool false], .bool false]) W := by kernel_rfl
theorem as_OffsetSimm_OffsetSimm (W : World) (v : Value) : (Instr.typeAssert (.iface 50 v) 35 50 true).run Try.prog W = .ok (.tuple #[v, .bool true]) W := by kernel_rfl
theorem field_4_0 (x : Int) (w : World) (x0 : 0 ≤ x) (x1 : x ≤ 4294967295) :
    Calls Try.prog 18 #[.int .u32 x, .int .i64 4, .int .i64 0] w fun e w' => e = .returned (.int .i64 (x % 32)) ∧ ∃ n, w' = w.drewN n := by
  go_enter Try.func18, Try.ntmps18
  go_wp2
  go_quiet (fail)
  go_wp2
  go_ret
  exact ⟨rfl, _, rfl⟩
theorem field_9_0 (x : Int) (w : World) (x0 : 0 ≤ x) (x1 : x ≤ 4294967295) :
    Calls Try.prog 18 #[.int .u32 x, .int .i64 9, .int .i64 0] w fun e w' => e = .returned (.int .i64 (x % 1024)) ∧ ∃ n, w' = w.drewN n := by
  go_enter Try.func18, Try.ntmps18
  go_wp2
  go_quiet (fail)
  go_wp2
  go_ret
  exact ⟨rfl, _, rfl⟩
theorem field_14_0 (x : Int) (w : World) (x0 : 0 ≤ x) (x1 : x ≤ 4294967295) :
    Calls Try.prog 18 #[.int .u32 x, .int .i64 14, .int .i64 0] w fun e w' => e = .returned (.int .i64 (x % 32768)) ∧ ∃ n, w' = w.drewN n := by
  go_enter Try.func18, Try.ntmps18
  go_wp2
  go_quiet (fail)
  go_wp2
  go_ret
  exact ⟨rfl, _, rfl⟩
theorem field_14_10 (x : Int) (w : World) (x0 : 0 ≤ x) (x1 : x ≤ 4294967295) :
    Calls Try.prog 18 #[.int .u32 x, .int .i64 14, .int .i64 10] w fun e w' => e = .returned (.int .i64 (x / 1024 % 32)) ∧ ∃ n, w' = w.drewN n := by
  go_enter Try.func18, Try.ntmps18
  go_wp2
  go_quiet (fail)
  go_wp2
  go_ret
  exact ⟨rfl, _, rfl⟩
theorem field_15_10 (x : Int) (w : World) (x0 : 0 ≤ x) (x1 : x ≤ 4294967295) :
    Calls Try.prog 18 #[.int .u32 x, .int .i64 15, .int .i64 10] w fun e w' => e = .returned (.int .i64 (x / 1024 % 64)) ∧ ∃ n, w' = w.drewN n := by
  go_enter Try.func18, Try.ntmps18
  go_wp2
  go_quiet (fail)
  go_wp2
  go_ret
  exact ⟨rfl, _, rfl⟩
theorem field_17_10 (x : Int) (w : World) (x0 : 0 ≤ x) (x1 : x ≤ 4294967295) :
    Calls Try.prog 18 #[.int .u32 x, .int .i64 17, .int .i64 10] w fun e w' => e = .returned (.int .i64 (x / 1024 % 256)) ∧ ∃ n, w' = w.drewN n := by
  go_enter Try.func18, Try.ntmps18
  go_wp2
  go_quiet (fail)
  go_wp2
  go_ret
  exact ⟨rfl, _, rfl⟩
theorem field_20_16 (x : Int) (w : World) (x0 : 0 ≤ x) (x1 : x ≤ 4294967295) :
    Calls Try.prog 18 #[.int .u32 x, .int .i64 20, .int .i64 16] w fun e w' => e = .returned (.int .i64 (x / 65536 % 32)) ∧ ∃ n, w' = w.drewN n := by
  go_enter Try.func18, Try.ntmps18
  go_wp2
  go_quiet (fail)
  go_wp2
  go_ret
  exact ⟨rfl, _, rfl⟩
theorem field_21_16 (x : Int) (w : World) (x0 : 0 ≤ x) (x1 : x ≤ 4294967295) :
    Calls Try.prog 18 #[.int .u32 x, .int .i64 21, .int .i64 16] w fun e w' => e = .returned (.int .i64 (x / 65536 % 64)) ∧ ∃ n, w' = w.drewN n := by
  go_enter Try.func18, Try.ntmps18
  go_wp2
  go_quiet (fail)
  go_wp2
  go_ret
  exact ⟨rfl, _, rfl⟩
theorem field_25_10 (x : Int) (w : World) (x0 : 0 ≤ x) (x1 : x ≤ 4294967295) :
    Calls Try.prog 18 #[.int .u32 x, .int .i64 25, .int .i64 10] w fun e w' => e = .returned (.int .i64 (x / 1024 % 65536)) ∧ ∃ n, w' = w.drewN n := by
  go_enter Try.func18, Try.ntmps18
  go_wp2
  go_quiet (fail)
  go_wp2
  go_ret
  exact ⟨rfl, _, rfl⟩
theorem arg_ArgHint140 (x : Int) (w : World) (x0 : 0 ≤ x) (x1 : x ≤ 4294967295) :
    Calls Try.prog 16 #[.int .u32 x] w fun e w' => e = .returned (.agg #[.int .i64 5, .int .i64 0, .int .i64 (x % 32768)]) ∧ Below w.heap.size w w' := by
  obtain ⟨v, hv⟩ : ∃ v, v = x % 32768 := ⟨_, rfl⟩
  have v0 : 0 ≤ v := by omega
  have v1 : v ≤ 32767 := by omega
  have HD : Hid (∀ w, Calls Try.prog 38 #[.int .u16 27, .int .u32 x, .int .i64 0] w fun e w' => e = .returned (.iface 49 (.agg #[.int .u32 (v), .bool false])) ∧ w' = w) := hid (fun w => by rw [hv]; exact dec_ArgHint140 x 0 w x0 x1)
  rw [← hv]
  clear hv
  have h_nil := fun W => nil_arg W 49 (.agg #[.int .u32 (v), .bool false])
  have h_Reg := fun W => as_Uimm_Reg W (.agg #[.int .u32 (v), .bool false])
  have h_Fcc := fun W => as_Uimm_Fcc W (.agg #[.int .u32 (v), .bool false])
  have h_Fcsr := fun W => as_Uimm_Fcsr W (.agg #[.int .u32 (v), .bool false])
  have h_Simm16 := fun W => as_Uimm_Simm16 W (.agg #[.int .u32 (v), .bool false])
  have h_Simm32 := fun W => as_Uimm_Simm32 W (.agg #[.int .u32 (v), .bool false])
  have h_Uimm := fun W => as_Uimm_Uimm W (.agg #[.int .u32 (v), .bool false])
  go_enter Try.func16, Try.ntmps16
  go_wp2_with (first | (go_at_call 38; refine (HD.out _).mono ?_; rintro e w' ⟨rfl, rfl⟩) | go_in)
  refine bodyPost_ret (v := .agg #[.int .i64 5, .int .i64 0, .int .i64 (v)]) (by simp [results, Try.results35, go_sem]) rfl ?_
  go_wp2
  exact bodyPost_ret (v := .agg #[.int .i64 5, .int .i64 0, .int .i64 (v)]) (by simp [results, Try.results16, go_sem]) rfl ⟨rfl, by repeat (first | exact Below.refl _ _ | (refine Below.alloc ?_ (by simp; try omega) _))⟩
theorem arg_ArgHint40 (x : Int) (w : World) (x0 : 0 ≤ x) (x1 : x ≤ 4294967295) :
    Calls Try.prog 19 #[.int .u32 x] w fun e w' => e = .returned (.agg #[.int .i64 5, .int .i64 0, .int .i64 (x % 32)]) ∧ Below w.heap.size w w' := by
  obtain ⟨v, hv⟩ : ∃ v, v = x % 32 := ⟨_, rfl⟩
  have v0 : 0 ≤ v := by omega
  have v1 : v ≤ 31 := by omega
  have HD : Hid (∀ w, Calls Try.prog 38 #[.int .u16 26, .int .u32 x, .int .i64 0] w fun e w' => e = .returned (.iface 49 (.agg #[.int .u32 (v), .bool false])) ∧ w' = w) := hid (fun w => by rw [hv]; exact dec_ArgHint40 x 0 w x0 x1)
  rw [← hv]
  clear hv
  have h_nil := fun W => nil_arg W 49 (.agg #[.int .u32 (v), .bool false])
  have h_Reg := fun W => as_Uimm_Reg W (.agg #[.int .u32 (v), .bool false])
  have h_Fcc := fun W => as_Uimm_Fcc W (.agg #[.int .u32 (v), .bool false])
  have h_Fcsr := fun W => as_Uimm_Fcsr W (.agg #[.int .u32 (v), .bool false])
  have h_Simm16 := fun W => as_Uimm_Simm16 W (.agg #[.int .u32 (v), .bool false])
  have h_Simm32 := fun W => as_Uimm_Simm32 W (.agg #[.int .u32 (v), .bool false])
  have h_Uimm := fun W => as_Uimm_Uimm W (.agg #[.int .u32 (v), .bool false])
  go_enter Try.func19, Try.ntmps19
  go_wp2_with (first | (go_at_call 38; refine (HD.out _).mono ?_; rintro e w' ⟨rfl, rfl⟩) | go_in)
  refine bodyPost_ret (v := .agg #[.int .i64 5, .int .i64 0, .int .i64 (v)]) (by simp [results, Try.results35, go_sem]) rfl ?_
  go_wp2
  exact bodyPost_ret (v := .agg #[.int .i64 5, .int .i64 0, .int .i64 (v)]) (by simp [results, Try.results19, go_sem]) rfl ⟨rfl, by repeat (first | exact Below.refl _ _ | (refine Below.alloc ?_ (by simp; try omega) _))⟩
theorem arg_ArgLevel140 (x : Int) (w : World) (x0 : 0 ≤ x) (x1 : x ≤ 4294967295) :
    Calls Try.prog 20 #[.int .u32 x] w fun e w' => e = .returned (.agg #[.int .i64 5, .int .i64 0, .int .i64 (x % 32768)]) ∧ Below w.heap.size w w' := by
  obtain ⟨v, hv⟩ : ∃ v, v = x % 32768 := ⟨_, rfl⟩
  have v0 : 0 ≤ v := by omega
  have v1 : v ≤ 32767 := by omega
  have HD : Hid (∀ w, Calls Try.prog 38 #[.int .u16 28, .int .u32 x, .int .i64 0] w fun e w' => e = .returned (.iface 49 (.agg #[.int .u32 (v), .bool false])) ∧ w' = w) := hid (fun w => by rw [hv]; exact dec_ArgLevel140 x 0 w x0 x1)
  rw [← hv]
  clear hv
  have h_nil := fun W => nil_arg W 49 (.agg #[.int .u32 (v), .bool false])
  have h_Reg := fun W => as_Uimm_Reg W (.agg #[.int .u32 (v), .bool false])
  have h_Fcc := fun W => as_Uimm_Fcc W (.agg #[.int .u32 (v), .bool false])
  have h_Fcsr := fun W => as_Uimm_Fcsr W (.agg #[.int .u32 (v), .bool false])
  have h_Simm16 := fun W => as_Uimm_Simm16 W (.agg #[.int .u32 (v), .bool false])
  have h_Simm32 := fun W => as_Uimm_Simm32 W (.agg #[.int .u32 (v), .bool false])
  have h_Uimm := fun W => as_Uimm_Uimm W (.agg #[.int .u32 (v), .bool false])
  go_enter Try.func20, Try.ntmps20
  go_wp2_with (first | (go_at_call 38; refine (HD.out _).mono ?_; rintro e w' ⟨rfl, rfl⟩) | go_in)
  refine bodyPost_ret (v := .agg #[.int .i64 5, .int .i64 0, .int .i64 (v)]) (by simp [results, Try.results35, go_sem]) rfl ?_
  go_wp2
  exact bodyPost_ret (v := .agg #[.int .i64 5, .int .i64 0, .int .i64 (v)]) (by simp [results, Try.results20, go_sem]) rfl ⟨rfl, by repeat (first | exact Below.refl _ _ | (refine Below.alloc ?_ (by simp; try omega) _))⟩
theorem arg_ArgLevel1710 (x : Int) (w : World) (x0 : 0 ≤ x) (x1 : x ≤ 4294967295) :
    Calls Try.prog 21 #[.int .u32 x] w fun e w' => e = .returned (.agg #[.int .i64 5, .int .i64 0, .int .i64 (x / 1024 % 256)]) ∧ Below w.heap.size w w' := by
  obtain ⟨v, hv⟩ : ∃ v, v = x / 1024 % 256 := ⟨_, rfl⟩
  have v0 : 0 ≤ v := by omega
  have v1 : v ≤ 255 := by omega
  have HD : Hid (∀ w, Calls Try.prog 38 #[.int .u16 29, .int .u32 x, .int .i64 0] w fun e w' => e = .returned (.iface 49 (.agg #[.int .u32 (v), .bool false])) ∧ w' = w) := hid (fun w => by rw [hv]; exact dec_ArgLevel1710 x 0 w x0 x1)
  rw [← hv]
  clear hv
  have h_nil := fun W => nil_arg W 49 (.agg #[.int .u32 (v), .bool false])
  have h_Reg := fun W => as_Uimm_Reg W (.agg #[.int .u32 (v), .bool false])
  have h_Fcc := fun W => as_Uimm_Fcc W (.agg #[.int .u32 (v), .bool false])
  have h_Fcsr := fun W => as_Uimm_Fcsr W (.agg #[.int .u32 (v), .bool false])
  have h_Simm16 := fun W => as_Uimm_Simm16 W (.agg #[.int .u32 (v), .bool false])
  have h_Simm32 := fun W => as_Uimm_Simm32 W (.agg #[.int .u32 (v), .bool false])
  have h_Uimm := fun W => as_Uimm_Uimm W (.agg #[.int .u32 (v), .bool false])
  go_enter Try.func21, Try.ntmps21
  go_wp2_with (first | (go_at_call 38; refine (HD.out _).mono ?_; rintro e w' ⟨rfl, rfl⟩) | go_in)
  refine bodyPost_ret (v := .agg #[.int .i64 5, .int .i64 0, .int .i64 (v)]) (by simp [results, Try.results35, go_sem]) rfl ?_
  go_wp2
  exact bodyPost_ret (v := .agg #[.int .i64 5, .int .i64 0, .int .i64 (v)]) (by simp [results, Try.results21, go_sem]) rfl ⟨rfl, by repeat (first | exact Below.refl _ _ | (refine Below.alloc ?_ (by simp; try omega) _))⟩
theorem arg_ArgLsbd (x : Int) (w : World) (x0 : 0 ≤ x) (x1 : x ≤ 4294967295) :
    Calls Try.prog 22 #[.int .u32 x] w fun e w' => e = .returned (.agg #[.int .i64 5, .int .i64 0, .int .i64 (x / 1024 % 64)]) ∧ Below w.heap.size w w' := by
  obtain ⟨v, hv⟩ : ∃ v, v = x / 1024 % 64 := ⟨_, rfl⟩
  have v0 : 0 ≤ v := by omega
  have v1 : v ≤ 63 := by omega
  have HD : Hid (∀ w, Calls Try.prog 38 #[.int .u16 24, .int .u32 x, .int .i64 0] w fun e w' => e = .returned (.iface 49 (.agg #[.int .u32 (v), .bool false])) ∧ w' = w) := hid (fun w => by rw [hv]; exact dec_ArgLsbd x 0 w x0 x1)
  rw [← hv]
  clear hv
  have h_nil := fun W => nil_arg W 49 (.agg #[.int .u32 (v), .bool false])
  have h_Reg := fun W => as_Uimm_Reg W (.agg #[.int .u32 (v), .bool false])
  have h_Fcc := fun W => as_Uimm_Fcc W (.agg #[.int .u32 (v), .bool false])
  have h_Fcsr := fun W => as_Uimm_Fcsr W (.agg #[.int .u32 (v), .bool false])
  have h_Simm16 := fun W => as_Uimm_Simm16 W (.agg #[.int .u32 (v), .bool false])
  have h_Simm32 := fun W => as_Uimm_Simm32 W (.agg #[.int .u32 (v), .bool false])
  have h_Uimm := fun W => as_Uimm_Uimm W (.agg #[.int .u32 (v), .bool false])
  go_enter Try.func22, Try.ntmps22
  go_wp2_with (first | (go_at_call 38; refine (HD.out _).mono ?_; rintro e w' ⟨rfl, rfl⟩) | go_in)
  refine bodyPost_ret (v := .agg #[.int .i64 5, .int .i64 0, .int .i64 (v)]) (by simp [results, Try.results35, go_sem]) rfl ?_
  go_wp2
  exact bodyPost_ret (v := .agg #[.int .i64 5, .int .i64 0, .int .i64 (v)]) (by simp [results, Try.results22, go_sem]) rfl ⟨rfl, by repeat (first | exact Below.refl _ _ | (refine Below.alloc ?_ (by simp; try omega) _))⟩
theorem arg_ArgLsbw (x : Int) (w : World) (x0 : 0 ≤ x) (x1 : x ≤ 4294967295) :
    Calls Try.prog 23 #[.int .u32 x] w fun e w' => e = .returned (.agg #[.int .i64 5, .int .i64 0, .int .i64 (x / 1024 % 32)]) ∧ Below w.heap.size w w' := by
  obtain ⟨v, hv⟩ : ∃ v, v = x / 1024 % 32 := ⟨_, rfl⟩
  have v0 : 0 ≤ v := by omega
  have v1 : v ≤ 31 := by omega
  have HD : Hid (∀ w, Calls Try.prog 38 #[.int .u16 22, .int .u32 x, .int .i64 0] w fun e w' => e = .returned (.iface 49 (.agg #[.int .u32 (v), .bool false])) ∧ w' = w) := hid (fun w => by rw [hv]; exact dec_ArgLsbw x 0 w x0 x1)
  rw [← hv]
  clear hv
  have h_nil := fun W => nil_arg W 49 (.agg #[.int .u32 (v), .bool false])
  have h_Reg := fun W => as_Uimm_Reg W (.agg #[.int .u32 (v), .bool false])
  have h_Fcc := fun W => as_Uimm_Fcc W (.agg #[.int .u32 (v), .bool false])
  have h_Fcsr := fun W => as_Uimm_Fcsr W (.agg #[.int .u32 (v), .bool false])
  have h_Simm16 := fun W => as_Uimm_Simm16 W (.agg #[.int .u32 (v), .bool false])
  have h_Simm32 := fun W => as_Uimm_Simm32 W (.agg #[.int .u32 (v), .bool false])
  have h_Uimm := fun W => as_Uimm_Uimm W (.agg #[.int .u32 (v), .bool false])
  go_enter Try.func23, Try.ntmps23
  go_wp2_with (first | (go_at_call 38; refine (HD.out _).mono ?_; rintro e w' ⟨rfl, rfl⟩) | go_in)
  refine bodyPost_ret (v := .agg #[.int .i64 5, .int .i64 0, .int .i64 (v)]) (by simp [results, Try.results35, go_sem]) rfl ?_
  go_wp2
  exact bodyPost_ret (v := .agg #[.int .i64 5, .int .i64 0, .int .i64 (v)]) (by simp [results, Try.results23, go_sem]) rfl ⟨rfl, by repeat (first | exact Below.refl _ _ | (refine Below.alloc ?_ (by simp; try omega) _))⟩
theorem arg_ArgMsbd (x : Int) (w : World) (x0 : 0 ≤ x) (x1 : x ≤ 4294967295) :
    Calls Try.prog 24 #[.int .u32 x] w fun e w' => e = .returned (.agg #[.int .i64 5, .int .i64 0, .int .i64 (x / 65536 % 64)]) ∧ Below w.heap.size w w' := by
  obtain ⟨v, hv⟩ : ∃ v, v = x / 65536 % 64 := ⟨_, rfl⟩
  have v0 : 0 ≤ v := by omega
  have v1 : v ≤ 63 := by omega
  have HD : Hid (∀ w, Calls Try.prog 38 #[.int .u16 25, .int .u32 x, .int .i64 0] w fun e w' => e = .returned (.iface 49 (.agg #[.int .u32 (v), .bool false])) ∧ w' = w) := hid (fun w => by rw [hv]; exact dec_ArgMsbd x 0 w x0 x1)
  rw [← hv]
  clear hv
  have h_nil := fun W => nil_arg W 49 (.agg #[.int .u32 (v), .bool false])
  have h_Reg := fun W => as_Uimm_Reg W (.agg #[.int .u32 (v), .bool false])
  have h_Fcc := fun W => as_Uimm_Fcc W (.agg #[.int .u32 (v), .bool false])
  have h_Fcsr := fun W => as_Uimm_Fcsr W (.agg #[.int .u32 (v), .bool false])
  have h_Simm16 := fun W => as_Uimm_Simm16 W (.agg #[.int .u32 (v), .bool false])
  have h_Simm32 := fun W => as_Uimm_Simm32 W (.agg #[.int .u32 (v), .bool false])
  have h_Uimm := fun W => as_Uimm_Uimm W (.agg #[.int .u32 (v), .bool false])
  go_enter Try.func24, Try.ntmps24
  go_wp2_with (first | (go_at_call 38; refine (HD.out _).mono ?_; rintro e w' ⟨rfl, rfl⟩) | go_in)
  refine bodyPost_ret (v := .agg #[.int .i64 5, .int .i64 0, .int .i64 (v)]) (by simp [results, Try.results35, go_sem]) rfl ?_
  go_wp2
  exact bodyPost_ret (v := .agg #[.int .i64 5, .int .i64 0, .int .i64 (v)]) (by simp [results, Try.results24, go_sem]) rfl ⟨rfl, by repeat (first | exact Below.refl _ _ | (refine Below.alloc ?_ (by simp; try omega) _))⟩
theorem arg_ArgMsbw (x : Int) (w : World) (x0 : 0 ≤ x) (x1 : x ≤ 4294967295) :
    Calls Try.prog 25 #[.int .u32 x] w fun e w' => e = .returned (.agg #[.int .i64 5, .int .i64 0, .int .i64 (x / 65536 % 32)]) ∧ Below w.heap.size w w' := by
  obtain ⟨v, hv⟩ : ∃ v, v = x / 65536 % 32 := ⟨_, rfl⟩
  have v0 : 0 ≤ v := by omega
  have v1 : v ≤ 31 := by omega
  have HD : Hid (∀ w, Calls Try.prog 38 #[.int .u16 23, .int .u32 x, .int .i64 0] w fun e w' => e = .returned (.iface 49 (.agg #[.int .u32 (v), .bool false])) ∧ w' = w) := hid (fun w => by rw [hv]; exact dec_ArgMsbw x 0 w x0 x1)
  rw [← hv]
  clear hv
  have h_nil := fun W => nil_arg W 49 (.agg #[.int .u32 (v), .bool false])
  have h_Reg := fun W => as_Uimm_Reg W (.agg #[.int .u32 (v), .bool false])
  have h_Fcc := fun W => as_Uimm_Fcc W (.agg #[.int .u32 (v), .bool false])
  have h_Fcsr := fun W => as_Uimm_Fcsr W (.agg #[.int .u32 (v), .bool false])
  have h_Simm16 := fun W => as_Uimm_Simm16 W (.agg #[.int .u32 (v), .bool false])
  have h_Simm32 := fun W => as_Uimm_Simm32 W (.agg #[.int .u32 (v), .bool false])
  have h_Uimm := fun W => as_Uimm_Uimm W (.agg #[.int .u32 (v), .bool false])
  go_enter Try.func25, Try.ntmps25
  go_wp2_with (first | (go_at_call 38; refine (HD.out _).mono ?_; rintro e w' ⟨rfl, rfl⟩) | go_in)
  refine bodyPost_ret (v := .agg #[.int .i64 5, .int .i64 0, .int .i64 (v)]) (by simp [results, Try.results35, go_sem]) rfl ?_
  go_wp2
  exact bodyPost_ret (v := .agg #[.int .i64 5, .int .i64 0, .int .i64 (v)]) (by simp [results, Try.results25, go_sem]) rfl ⟨rfl, by repeat (first | exact Below.refl _ _ | (refine Below.alloc ?_ (by simp; try omega) _))⟩
theorem arg_ArgOffset150 (x : Int) (w : World) (x0 : 0 ≤ x) (x1 : x ≤ 4294967295) :
    Calls Try.prog 27 #[.int .u32 x] w fun e w' => e = .returned (.agg #[.int .i64 6, .int .i64 0, .int .i64 (4 * sg 32768 (x / 1024 % 65536))]) ∧ Below w.heap.size w w' := by
  obtain ⟨v, hv⟩ : ∃ v, v = 4 * sg 32768 (x / 1024 % 65536) := ⟨_, rfl⟩
  have v0 : -131072 ≤ v := by rw [hv]; unfold sg; split <;> omega
  have v1 : v < 131072 := by rw [hv]; unfold sg; split <;> omega
  have HD : Hid (∀ w, Calls Try.prog 38 #[.int .u16 37, .int .u32 x, .int .i64 0] w fun e w' => e = .returned (.iface 50 (.agg #[.int .i32 (v), .int .u8 16])) ∧ w' = w) := hid (fun w => by rw [hv]; exact dec_ArgOffset150 x 0 w x0 x1)
  rw [← hv]
  clear hv
  have h_nil := fun W => nil_arg W 50 (.agg #[.int .i32 (v), .int .u8 16])
  have h_Reg := fun W => as_OffsetSimm_Reg W (.agg #[.int .i32 (v), .int .u8 16])
  have h_Fcc := fun W => as_OffsetSimm_Fcc W (.agg #[.int .i32 (v), .int .u8 16])
  have h_Fcsr := fun W => as_OffsetSimm_Fcsr W (.agg #[.int .i32 (v), .int .u8 16])
  have h_Simm16 := fun W => as_OffsetSimm_Simm16 W (.agg #[.int .i32 (v), .int .u8 16])
  have h_Simm32 := fun W => as_OffsetSimm_Simm32 W (.agg #[.int .i32 (v), .int .u8 16])
  have h_Uimm := fun W => as_OffsetSimm_Uimm W (.agg #[.int .i32 (v), .int .u8 16])
  have h_OffsetSimm := fun W => as_OffsetSimm_OffsetSimm W (.agg #[.int .i32 (v), .int .u8 16])
  go_enter Try.func27, Try.ntmps27
  go_wp2_with (first | (go_at_call 38; refine (HD.out _).mono ?_; rintro e w' ⟨rfl, rfl⟩) | go_in)
  refine bodyPost_ret (v := .agg #[.int .i64 6, .int .i64 0, .int .i64 (v)]) (by simp [results, Try.results35, go_sem]) rfl ?_
  go_wp2
  exact bodyPost_ret (v := .agg #[.int .i64 6, .int .i64 0, .int .i64 (v)]) (by simp [results, Try.results27, go_sem]) rfl ⟨rfl, by repeat (first | exact Below.refl _ _ | (refine Below.alloc ?_ (by simp; try omega) _))⟩
theorem arg_ArgOffset200 (x : Int) (w : World) (x0 : 0 ≤ x) (x1 : x ≤ 4294967295) :
    Calls Try.prog 29 #[.int .u32 x] w fun e w' => e = .returned (.agg #[.int .i64 6, .int .i64 0, .int .i64 (4 * sg 1048576 (x % 32 * 65536 + x / 1024 % 65536))]) ∧ Below w.heap.size w w' := by
  obtain ⟨v, hv⟩ : ∃ v, v = 4 * sg 1048576 (x % 32 * 65536 + x / 1024 % 65536) := ⟨_, rfl⟩
  have v0 : -4194304 ≤ v := by rw [hv]; unfold sg; split <;> omega
  have v1 : v < 4194304 := by rw [hv]; unfold sg; split <;> omega
  have HD : Hid (∀ w, Calls Try.prog 38 #[.int .u16 35, .int .u32 x, .int .i64 0] w fun e w' => e = .returned (.iface 50 (.agg #[.int .i32 (v), .int .u8 21])) ∧ w' = w) := hid (fun w => by rw [hv]; exact dec_ArgOffset200 x 0 w x0 x1)
  rw [← hv]
  clear hv
  have h_nil := fun W => nil_arg W 50 (.agg #[.int .i32 (v), .int .u8 21])
  have h_Reg := fun W => as_OffsetSimm_Reg W (.agg #[.int .i32 (v), .int .u8 21])
  have h_Fcc := fun W => as_OffsetSimm_Fcc W (.agg #[.int .i32 (v), .int .u8 21])
  have h_Fcsr := fun W => as_OffsetSimm_Fcsr W (.agg #[.int .i32 (v), .int .u8 21])
  have h_Simm16 := fun W => as_OffsetSimm_Simm16 W (.agg #[.int .i32 (v), .int .u8 21])
  have h_Simm32 := fun W => as_OffsetSimm_Simm32 W (.agg #[.int .i32 (v), .int .u8 21])
  have h_Uimm := fun W => as_OffsetSimm_Uimm W (.agg #[.int .i32 (v), .int .u8 21])
  have h_OffsetSimm := fun W => as_OffsetSimm_OffsetSimm W (.agg #[.int .i32 (v), .int .u8 21])
  go_enter Try.func29, Try.ntmps29
  go_wp2_with (first | (go_at_call 38; refine (HD.out _).mono ?_; rintro e w' ⟨rfl, rfl⟩) | go_in)
  refine bodyPost_ret (v := .agg #[.int .i64 6, .int .i64 0, .int .i64 (v)]) (by simp [results, Try.results35, go_sem]) rfl ?_
  go_wp2
  exact bodyPost_ret (v := .agg #[.int .i64 6, .int .i64 0, .int .i64 (v)]) (by simp [results, Try.results29, go_sem]) rfl ⟨rfl, by repeat (first | exact Below.refl _ _ | (refine Below.alloc ?_ (by simp; try omega) _))⟩
theorem arg_ArgOffset250 (x : Int) (w : World) (x0 : 0 ≤ x) (x1 : x ≤ 4294967295) :
    Calls Try.prog 31 #[.int .u32 x] w fun e w' => e = .returned (.agg #[.int .i64 6, .int .i64 0, .int .i64 (4 * sg 33554432 (x % 1024 * 65536 + x / 1024 % 65536))]) ∧ Below w.heap.size w w' := by
  obtain ⟨v, hv⟩ : ∃ v, v = 4 * sg 33554432 (x % 1024 * 65536 + x / 1024 % 65536) := ⟨_, rfl⟩
  have v0 : -134217728 ≤ v := by rw [hv]; unfold sg; split <;> omega
  have v1 : v < 134217728 := by rw [hv]; unfold sg; split <;> omega
  have HD : Hid (∀ w, Calls Try.prog 38 #[.int .u16 36, .int .u32 x, .int .i64 0] w fun e w' => e = .returned (.iface 50 (.agg #[.int .i32 (v), .int .u8 26])) ∧ w' = w) := hid (fun w => by rw [hv]; exact dec_ArgOffset250 x 0 w x0 x1)
  rw [← hv]
  clear hv
  have h_nil := fun W => nil_arg W 50 (.agg #[.int .i32 (v), .int .u8 26])
  have h_Reg := fun W => as_OffsetSimm_Reg W (.agg #[.int .i32 (v), .int .u8 26])
  have h_Fcc := fun W => as_OffsetSimm_Fcc W (.agg #[.int .i32 (v), .int .u8 26])
  have h_Fcsr := fun W => as_OffsetSimm_Fcsr W (.agg #[.int .i32 (v), .int .u8 26])
  have h_Simm16 := fun W => as_OffsetSimm_Simm16 W (.agg #[.int .i32 (v), .int .u8 26])
  have h_Simm32 := fun W => as_OffsetSimm_Simm32 W (.agg #[.int .i32 (v), .int .u8 26])
  have h_Uimm := fun W => as_OffsetSimm_Uimm W (.agg #[.int .i32 (v), .int .u8 26])
  have h_OffsetSimm := fun W => as_OffsetSimm_OffsetSimm W (.agg #[.int .i32 (v), .int .u8 26])
  go_enter Try.func31, Try.ntmps31
  go_wp2_with (first | (go_at_call 38; refine (HD.out _).mono ?_; rintro e w' ⟨rfl, rfl⟩) | go_in)
  refine bodyPost_ret (v := .agg #[.int .i64 6, .int .i64 0, .int .i64 (v)]) (by simp [results, Try.results35, go_sem]) rfl ?_
  go_wp2
  exact bodyPost_ret (v := .agg #[.int .i64 6, .int .i64 0, .int .i64 (v)]) (by simp [results, Try.results31, go_sem]) rfl ⟨rfl, by repeat (first | exact Below.refl _ _ | (refine Below.alloc ?_ (by simp; try omega) _))⟩
theorem arg_ArgOp40 (x : Int) (w : World) (x0 : 0 ≤ x) (x1 : x ≤ 4294967295) :
    Calls Try.prog 33 #[.int .u32 x] w fun e w' => e = .returned (.agg #[.int .i64 5, .int .i64 0, .int .i64 (x % 32)]) ∧ Below w.heap.size w w' := by
  obtain ⟨v, hv⟩ : ∃ v, v = x % 32 := ⟨_, rfl⟩
  have v0 : 0 ≤ v := by omega
  have v1 : v ≤ 31 := by omega
  have HD : Hid (∀ w, Calls Try.prog 38 #[.int .u16 8, .int .u32 x, .int .i64 0] w fun e w' => e = .returned (.iface 49 (.agg #[.int .u32 (v), .bool false])) ∧ w' = w) := hid (fun w => by rw [hv]; exact dec_ArgOp40 x 0 w x0 x1)
  rw [← hv]
  clear hv
  have h_nil := fun W => nil_arg W 49 (.agg #[.int .u32 (v), .bool false])
  have h_Reg := fun W => as_Uimm_Reg W (.agg #[.int .u32 (v), .bool false])
  have h_Fcc := fun W => as_Uimm_Fcc W (.agg #[.int .u32 (v), .bool false])
  have h_Fcsr := fun W => as_Uimm_Fcsr W (.agg #[.int .u32 (v), .bool false])
  have h_Simm16 := fun W => as_Uimm_Simm16 W (.agg #[.int .u32 (v), .bool false])
  have h_Simm32 := fun W => as_Uimm_Simm32 W (.agg #[.int .u32 (v), .bool false])
  have h_Uimm := fun W => as_Uimm_Uimm W (.agg #[.int .u32 (v), .bool false])
  go_enter Try.func33, Try.ntmps33
  go_wp2_with (first | (go_at_call 38; refine (HD.out _).mono ?_; rintro e w' ⟨rfl, rfl⟩) | go_in)
  refine bodyPost_ret (v := .agg #[.int .i64 5, .int .i64 0, .int .i64 (v)]) (by simp [results, Try.results35, go_sem]) rfl ?_
  go_wp2
  exact bodyPost_ret (v := .agg #[.int .i64 5, .int .i64 0, .int .i64 (v)]) (by simp [results, Try.results33, go_sem]) rfl ⟨rfl, by repeat (first | exact Below.refl _ _ | (refine Below.alloc ?_ (by simp; try omega) _))⟩
end Go.Proofs.Ytfbdgpopkkmkjab.Arg
