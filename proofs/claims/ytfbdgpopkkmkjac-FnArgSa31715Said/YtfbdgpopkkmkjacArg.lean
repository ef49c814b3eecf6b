/- The walks of the thin package's functions and of the reference's Field. -/
import Derived.Test.YtfbdgpopkkmkjacDec
import Derived.Laws.BitsLemmas
import Derived.Deep.QuietTactic
import Derived.BigQuiet
namespace Go.Proofs.Ytfbdgpopkkmkjac.Arg
open Go.RowKit
theorem bel_drewN {B : Nat} {a w : World} (h : Below B a w) (n : Nat) : Below B a (w.drewN n) := ⟨h.os, h.tape, h.output, h.size, h.block⟩
theorem nil_arg (W : World) (u : TypeId) (v : Value) : (binOp .eql 35 (.iface u v) .nilIface).run Try.prog W = .ok (.bool false) W := by kernel_rfl
theorem as_Reg_Reg (W : World) (v : Value) : (Instr.typeAssert (.iface 38 v) 35 38 true).run Try.prog W = .ok (.tuple #[v, .bool true]) W := by kernel_rfl
theorem as_Simm16_Reg (W : World) (v : Value) : (Instr.typeAssert (.iface 43 v) 35 38 true).run Try.prog W = .ok (.tuple #[.int .u16 0, .bool false]) W := by kernel_rfl
theorem as_Simm16_Fcc (W : World) (v : Value) : (Instr.typeAssert (.iface 43 v) 35 39 true).run Try.prog W = .ok (.tuple #[.int .u8 0, .bool false]) W := by kernel_rfl
theorem as_Simm16_Fcsr (W : World) (v : Value) : (Instr.typeAssert (.iface 43 v) 35 40 true).run Try.prog W = .ok (.tuple #[.int .u8 0, .bool false]) W := by kernel_rfl
theorem as_Simm16_Simm16 (W : World) (v : Value) : (Instr.typeAssert (.iface 43 v) 35 43 true).run Try.prog W = .ok (.tuple #[v, .bool true]) W := by kernel_rfl
theorem as_Simm32_Reg (W : World) (v : Value) : (Instr.typeAssert (.iface 45 v) 35 38 true).run Try.prog W = .ok (.tuple #[.int .u16 0, .bool false]) W := by kernel_rfl
theorem as_Simm32_Fcc (W : World) (v : Value) : (Instr.typeAssert (.iface 45 v) 35 39 true).run Try.prog W = .ok (.tuple #[.int .u8 0, .bool false]) W := by kernel_rfl
theorem as_Simm32_Fcsr (W : World) (v : Value) : (Instr.typeAssert (.iface 45 v) 35 40 true).run Try.prog W = .ok (.tuple #[.int .u8 0, .bool false]) W := by kernel_rfl
theorem as_Simm32_Simm16 (W : World) (v : Value) : (Instr.typeAssert (.iface 45 v) 35 43 true).run Try.prog W = .ok (.tuple #[.agg #[.int .i16 0, .int .u8 0], .bool false]) W := by kernel_rfl
theorem as_Simm32_Simm32 (W : World) (v : Value) : (Instr.typeAssert (.iface 45 v) 35 45 true).run Try.prog W = .ok (.tuple #[v, .bool true]) W := by kernel_rfl
theorem as_Uimm_Reg (W : World) (v : Value) : (Instr.typeAssert (.iface 47 v) 35 38 true).run Try.prog W = .ok (.tuple #[.int .u16 0, .bool false]) W := by kernel_rfl
theorem as_Uimm_Fcc (W : World) (v : Value) : (Instr.typeAssert (.iface 47 v) 35 39 true).run Try.prog W = .ok (.tuple #[.int .u8 0, .bool false]) W := by kernel_rfl
theorem as_Uimm_Fcsr (W : World) (v : Value) : (Instr.typeAssert (.iface 47 v) 35 40 true).run Try.prog W = .ok (.tuple #[.int .u8 0, .bool false]) W := by kernel_rfl
theorem as_Uimm_Simm16 (W : World) (v : Value) : (Instr.typeAssert (.iface 47 v) 35 43 true).run Try.prog W = .ok (.tuple #[.agg #[.int .i16 0, .int .u8 0], .bool false]) W := by kernel_rfl
theorem as_Uimm_Simm32 (W : World) (v : Value) : (Instr.typeAssert (.iface 47 v) 35 45 true).run Try.prog W = .ok (.tuple #[.agg #[.int .i32 0, .int .u8 0], .bool false]) W := by kernel_rfl
theorem as_Uimm_Uimm (W : World) (v : Value) : (Instr.typeAssert (.iface 47 v) 35 47 true).run Try.prog W = .ok (.tuple #[v, .bool true]) W := by kernel_rfl
theorem as_SaSimm_Reg (W : World) (v : Value) : (Instr.typeAssert (.iface 50 v) 35 38 true).run Try.prog W = .ok (.tuple #[.int .u16 0, .bool false]) W := by kernel_rfl
theorem as_SaSimm_Fcc (W : World) (v : Value) : (Instr.typeAssert (.iface 50 v) 35 39 true).run Try.prog W = .ok (.tuple #[.int .u8 0, .bool false]) W := by kernel_rfl
theorem as_SaSimm_Fcsr (W : World) (v : Value) : (Instr.typeAssert (.iface 50 v) 35 40 true).run Try.prog W = .ok (.tuple #[.int .u8 0, .bool false]) W := by kernel_rfl
theorem as_SaSimm_Simm16 (W : World) (v : Value) : (Instr.typeAssert (.iface 50 v) 35 43 true).run Try.prog W = .ok (.tuple #[.agg #[.int .i16 0, .int .u8 0], .bool false]) W := by kernel_rfl
theorem as_SaSimm_Simm32 (W : World) (v : Value) : (Instr.typeAssert (.iface 50 v) 35 45 true).run Try.prog W = .ok (.tuple #[.agg #[.int .i32 0, .int .u8 0], .bool false]) W := by kernel_rfl
theorem as_SaSimm_Uimm (W : World) (v : Value) : (Instr.typeAssert (.iface 50 v) 35 47 true).run Try.prog W = .ok (.tuple #[.agg #[.int .u32 0, .bool false], .bool false]) W := by kernel_rfl
theorem as_SaSimm_OffsetSimm (W : World) (v : Value) : (Instr.typeAssert (.iface 50 v) 35 48 true).run Try.prog W = .ok (.tuple #[.agg #[.int .i32 0, .int .u8 0], .bool false]) W := by kernel_rfl
theorem as_SaSimm_CodeSimm (W : World) (v : Value) : (Instr.typeAssert (.iface 50 v) 35 49 true).run Try.prog W = .ok (.tuple #[.int .i16 0, .bool false]) W := by kernel_rfl
theorem as_SaSimm_SaSimm (W : World) (v : Value) : (Instr.typeAssert (.iface 50 v) 35 50 true).run Try.prog W = .ok (.tuple #[v, .bool true]) W := by kernel_rfl
theorem field_4_0 (x : Int) (w : World) (x0 : 0 ≤ x) (x1 : x ≤ 4294967295) :
    Calls Try.prog 18 #[.int .u32 x, .int .i64 4, .int .i64 0] w fun e w' => e = .returned (.int .i64 (x % 32)) ∧ ∃ n, w' = w.drewN n := by
  go_enter Try.func18, Try.ntmps18
  go_wp2
  go_quiet (fail)
  go_wp2
  go_ret
  exact ⟨rfl, _, rfl⟩
theorem field_9_5 (x : Int) (w : World) (x0 : 0 ≤ x) (x1 : x ≤ 4294967295) :
    Calls Try.prog 18 #[.int .u32 x, .int .i64 9, .int .i64 5] w fun e w' => e = .returned (.int .i64 (x / 32 % 32)) ∧ ∃ n, w' = w.drewN n := by
  go_enter Try.func18, Try.ntmps18
  go_wp2
  go_quiet (fail)
  go_wp2
  go_ret
  exact ⟨rfl, _, rfl⟩
theorem field_14_10 (x : Int) (w : World) (x0 : 0 ≤ x) (x1 : x ≤ 4294967295) :
    Calls Try.prog 18 #[.int .u32 x, .int .i64 14, .int .i64 10] w fun e w' => e = .returned (.int .i64 (x / 1024 % 32)) ∧ ∃ n, w' = w.drewN n := by
  go_enter Try.func18, Try.ntmps18
  go_wp2
  go_quiet (fail)
  go_wp2
  go_ret
  exact ⟨rfl, _, rfl⟩
theorem field_15_10 (x : Int) (w : World) (x0 : 0 ≤ x) (x1 : x ≤ 4294967295) :
    Calls Try.prog 18 #[.int .u32 x, .int .i64 15, .int .i64 10] w fun e w' => e = .returned (.int .i64 (x / 1024 % 64)) ∧ ∃ n, w' = w.drewN n := by
  go_enter Try.func18, Try.ntmps18
  go_wp2
  go_quiet (fail)
  go_wp2
  go_ret
  exact ⟨rfl, _, rfl⟩
theorem field_17_10 (x : Int) (w : World) (x0 : 0 ≤ x) (x1 : x ≤ 4294967295) :
    Calls Try.prog 18 #[.int .u32 x, .int .i64 17, .int .i64 10] w fun e w' => e = .returned (.int .i64 (x / 1024 % 256)) ∧ ∃ n, w' = w.drewN n := by
  go_enter Try.func18, Try.ntmps18
  go_wp2
  go_quiet (fail)
  go_wp2
  go_ret
  exact ⟨rfl, _, rfl⟩
theorem field_17_15 (x : Int) (w : World) (x0 : 0 ≤ x) (x1 : x ≤ 4294967295) :
    Calls Try.prog 18 #[.int .u32 x, .int .i64 17, .int .i64 15] w fun e w' => e = .returned (.int .i64 (x / 32768 % 8)) ∧ ∃ n, w' = w.drewN n := by
  go_enter Try.func18, Try.ntmps18
  go_wp2
  go_quiet (fail)
  go_wp2
  go_ret
  exact ⟨rfl, _, rfl⟩
theorem field_21_10 (x : Int) (w : World) (x0 : 0 ≤ x) (x1 : x ≤ 4294967295) :
    Calls Try.prog 18 #[.int .u32 x, .int .i64 21, .int .i64 10] w fun e w' => e = .returned (.int .i64 (x / 1024 % 4096)) ∧ ∃ n, w' = w.drewN n := by
  go_enter Try.func18, Try.ntmps18
  go_wp2
  go_quiet (fail)
  go_wp2
  go_ret
  exact ⟨rfl, _, rfl⟩
theorem field_23_10 (x : Int) (w : World) (x0 : 0 ≤ x) (x1 : x ≤ 4294967295) :
    Calls Try.prog 18 #[.int .u32 x, .int .i64 23, .int .i64 10] w fun e w' => e = .returned (.int .i64 (x / 1024 % 16384)) ∧ ∃ n, w' = w.drewN n := by
  go_enter Try.func18, Try.ntmps18
  go_wp2
  go_quiet (fail)
  go_wp2
  go_ret
  exact ⟨rfl, _, rfl⟩
theorem field_24_5 (x : Int) (w : World) (x0 : 0 ≤ x) (x1 : x ≤ 4294967295) :
    Calls Try.prog 18 #[.int .u32 x, .int .i64 24, .int .i64 5] w fun e w' => e = .returned (.int .i64 (x / 32 % 1048576)) ∧ ∃ n, w' = w.drewN n := by
  go_enter Try.func18, Try.ntmps18
  go_wp2
  go_quiet (fail)
  go_wp2
  go_ret
  exact ⟨rfl, _, rfl⟩
theorem field_25_10 (x : Int) (w : World) (x0 : 0 ≤ x) (x1 : x ≤ 4294967295) :
    Calls Try.prog 18 #[.int .u32 x, .int .i64 25, .int .i64 10] w fun e w' => e = .returned (.int .i64 (x / 1024 % 65536)) ∧ ∃ n, w' = w.drewN n := by
  go_enter Try.func18, Try.ntmps18
  go_wp2
  go_quiet (fail)
  go_wp2
  go_ret
  exact ⟨rfl, _, rfl⟩
theorem arg_ArgRd (x : Int) (w : World) (x0 : 0 ≤ x) (x1 : x ≤ 4294967295) :
    Calls Try.prog 16 #[.int .u32 x] w fun e w' => e = .returned (.agg #[.int .i64 1, .int .i64 (x % 32), .int .i64 0]) ∧ Below w.heap.size w w' := by
  obtain ⟨v, hv⟩ : ∃ v, v = x % 32 := ⟨_, rfl⟩
  have v0 : 0 ≤ v := by omega
  have v1 : v ≤ 31 := by omega
  have HD : Hid (∀ w, Calls Try.prog 36 #[.int .u16 5, .int .u32 x, .int .i64 0] w fun e w' => e = .returned (.iface 38 (.int .u16 (v))) ∧ w' = w) := hid (fun w => by rw [hv]; exact dec_ArgRd x 0 w x0 x1)
  rw [← hv]
  clear hv
  have h_nil := fun W => nil_arg W 38 (.int .u16 (v))
  have h_Reg := fun W => as_Reg_Reg W (.int .u16 (v))
  go_enter Try.func16, Try.ntmps16
  go_wp2_with (first | (go_at_call 36; refine (HD.out _).mono ?_; rintro e w' ⟨rfl, rfl⟩) | go_in)
  refine bodyPost_ret (v := .agg #[.int .i64 1, .int .i64 (v), .int .i64 0]) (by simp [results, Try.results34, go_sem]) rfl ?_
  go_wp2
  exact bodyPost_ret (v := .agg #[.int .i64 1, .int .i64 (v), .int .i64 0]) (by simp [results, Try.results16, go_sem]) rfl ⟨rfl, by repeat (first | exact Below.refl _ _ | (refine Below.alloc ?_ (by simp; try omega) _))⟩
theorem arg_ArgRj (x : Int) (w : World) (x0 : 0 ≤ x) (x1 : x ≤ 4294967295) :
    Calls Try.prog 19 #[.int .u32 x] w fun e w' => e = .returned (.agg #[.int .i64 1, .int .i64 (x / 32 % 32), .int .i64 0]) ∧ Below w.heap.size w w' := by
  obtain ⟨v, hv⟩ : ∃ v, v = x / 32 % 32 := ⟨_, rfl⟩
  have v0 : 0 ≤ v := by omega
  have v1 : v ≤ 31 := by omega
  have HD : Hid (∀ w, Calls Try.prog 36 #[.int .u16 6, .int .u32 x, .int .i64 0] w fun e w' => e = .returned (.iface 38 (.int .u16 (v))) ∧ w' = w) := hid (fun w => by rw [hv]; exact dec_ArgRj x 0 w x0 x1)
  rw [← hv]
  clear hv
  have h_nil := fun W => nil_arg W 38 (.int .u16 (v))
  have h_Reg := fun W => as_Reg_Reg W (.int .u16 (v))
  go_enter Try.func19, Try.ntmps19
  go_wp2_with (first | (go_at_call 36; refine (HD.out _).mono ?_; rintro e w' ⟨rfl, rfl⟩) | go_in)
  refine bodyPost_ret (v := .agg #[.int .i64 1, .int .i64 (v), .int .i64 0]) (by simp [results, Try.results34, go_sem]) rfl ?_
  go_wp2
  exact bodyPost_ret (v := .agg #[.int .i64 1, .int .i64 (v), .int .i64 0]) (by simp [results, Try.results19, go_sem]) rfl ⟨rfl, by repeat (first | exact Below.refl _ _ | (refine Below.alloc ?_ (by simp; try omega) _))⟩
theorem arg_ArgRk (x : Int) (w : World) (x0 : 0 ≤ x) (x1 : x ≤ 4294967295) :
    Calls Try.prog 20 #[.int .u32 x] w fun e w' => e = .returned (.agg #[.int .i64 1, .int .i64 (x / 1024 % 32), .int .i64 0]) ∧ Below w.heap.size w w' := by
  obtain ⟨v, hv⟩ : ∃ v, v = x / 1024 % 32 := ⟨_, rfl⟩
  have v0 : 0 ≤ v := by omega
  have v1 : v ≤ 31 := by omega
  have HD : Hid (∀ w, Calls Try.prog 36 #[.int .u16 7, .int .u32 x, .int .i64 0] w fun e w' => e = .returned (.iface 38 (.int .u16 (v))) ∧ w' = w) := hid (fun w => by rw [hv]; exact dec_ArgRk x 0 w x0 x1)
  rw [← hv]
  clear hv
  have h_nil := fun W => nil_arg W 38 (.int .u16 (v))
  have h_Reg := fun W => as_Reg_Reg W (.int .u16 (v))
  go_enter Try.func20, Try.ntmps20
  go_wp2_with (first | (go_at_call 36; refine (HD.out _).mono ?_; rintro e w' ⟨rfl, rfl⟩) | go_in)
  refine bodyPost_ret (v := .agg #[.int .i64 1, .int .i64 (v), .int .i64 0]) (by simp [results, Try.results34, go_sem]) rfl ?_
  go_wp2
  exact bodyPost_ret (v := .agg #[.int .i64 1, .int .i64 (v), .int .i64 0]) (by simp [results, Try.results20, go_sem]) rfl ⟨rfl, by repeat (first | exact Below.refl _ _ | (refine Below.alloc ?_ (by simp; try omega) _))⟩
theorem arg_ArgSa31715 (x : Int) (w : World) (x0 : 0 ≤ x) (x1 : x ≤ 4294967295) :
    Calls Try.prog 21 #[.int .u32 x] w fun e w' => e = .returned (.agg #[.int .i64 8, .int .i64 0, .int .i64 (x / 32768 % 8)]) ∧ Below w.heap.size w w' := by
  obtain ⟨v, hv⟩ : ∃ v, v = x / 32768 % 8 := ⟨_, rfl⟩
  have v0 : 0 ≤ v := by omega
  have v1 : v ≤ 7 := by omega
  have HD : Hid (∀ w, Calls Try.prog 36 #[.int .u16 16, .int .u32 x, .int .i64 0] w fun e w' => e = .returned (.iface 50 (.int .i16 (v))) ∧ w' = w) := hid (fun w => by rw [hv]; exact dec_ArgSa31715 x 0 w x0 x1)
  rw [← hv]
  clear hv
  have h_nil := fun W => nil_arg W 50 (.int .i16 (v))
  have h_Reg := fun W => as_SaSimm_Reg W (.int .i16 (v))
  have h_Fcc := fun W => as_SaSimm_Fcc W (.int .i16 (v))
  have h_Fcsr := fun W => as_SaSimm_Fcsr W (.int .i16 (v))
  have h_Simm16 := fun W => as_SaSimm_Simm16 W (.int .i16 (v))
  have h_Simm32 := fun W => as_SaSimm_Simm32 W (.int .i16 (v))
  have h_Uimm := fun W => as_SaSimm_Uimm W (.int .i16 (v))
  have h_OffsetSimm := fun W => as_SaSimm_OffsetSimm W (.int .i16 (v))
  have h_CodeSimm := fun W => as_SaSimm_CodeSimm W (.int .i16 (v))
  have h_SaSimm := fun W => as_SaSimm_SaSimm W (.int .i16 (v))
  go_enter Try.func21, Try.ntmps21
  go_wp2_with (first | (go_at_call 36; refine (HD.out _).mono ?_; rintro e w' ⟨rfl, rfl⟩) | go_in)
  refine bodyPost_ret (v := .agg #[.int .i64 8, .int .i64 0, .int .i64 (v)]) (by simp [results, Try.results34, go_sem]) rfl ?_
  go_wp2
  exact bodyPost_ret (v := .agg #[.int .i64 8, .int .i64 0, .int .i64 (v)]) (by simp [results, Try.results21, go_sem]) rfl ⟨rfl, by repeat (first | exact Below.refl _ _ | (refine Below.alloc ?_ (by simp; try omega) _))⟩
theorem arg_ArgSeq1710 (x : Int) (w : World) (x0 : 0 ≤ x) (x1 : x ≤ 4294967295) :
    Calls Try.prog 23 #[.int .u32 x] w fun e w' => e = .returned (.agg #[.int .i64 5, .int .i64 0, .int .i64 (x / 1024 % 256)]) ∧ Below w.heap.size w w' := by
  obtain ⟨v, hv⟩ : ∃ v, v = x / 1024 % 256 := ⟨_, rfl⟩
  have v0 : 0 ≤ v := by omega
  have v1 : v ≤ 255 := by omega
  have HD : Hid (∀ w, Calls Try.prog 36 #[.int .u16 30, .int .u32 x, .int .i64 0] w fun e w' => e = .returned (.iface 47 (.agg #[.int .u32 (v), .bool false])) ∧ w' = w) := hid (fun w => by rw [hv]; exact dec_ArgSeq1710 x 0 w x0 x1)
  rw [← hv]
  clear hv
  have h_nil := fun W => nil_arg W 47 (.agg #[.int .u32 (v), .bool false])
  have h_Reg := fun W => as_Uimm_Reg W (.agg #[.int .u32 (v), .bool false])
  have h_Fcc := fun W => as_Uimm_Fcc W (.agg #[.int .u32 (v), .bool false])
  have h_Fcsr := fun W => as_Uimm_Fcsr W (.agg #[.int .u32 (v), .bool false])
  have h_Simm16 := fun W => as_Uimm_Simm16 W (.agg #[.int .u32 (v), .bool false])
  have h_Simm32 := fun W => as_Uimm_Simm32 W (.agg #[.int .u32 (v), .bool false])
  have h_Uimm := fun W => as_Uimm_Uimm W (.agg #[.int .u32 (v), .bool false])
  go_enter Try.func23, Try.ntmps23
  go_wp2_with (first | (go_at_call 36; refine (HD.out _).mono ?_; rintro e w' ⟨rfl, rfl⟩) | go_in)
  refine bodyPost_ret (v := .agg #[.int .i64 5, .int .i64 0, .int .i64 (v)]) (by simp [results, Try.results34, go_sem]) rfl ?_
  go_wp2
  exact bodyPost_ret (v := .agg #[.int .i64 5, .int .i64 0, .int .i64 (v)]) (by simp [results, Try.results23, go_sem]) rfl ⟨rfl, by repeat (first | exact Below.refl _ _ | (refine Below.alloc ?_ (by simp; try omega) _))⟩
theorem arg_ArgSi122110 (x : Int) (w : World) (x0 : 0 ≤ x) (x1 : x ≤ 4294967295) :
    Calls Try.prog 24 #[.int .u32 x] w fun e w' => e = .returned (.agg #[.int .i64 4, .int .i64 0, .int .i64 (sg 2048 (x / 1024 % 4096))]) ∧ Below w.heap.size w w' := by
  obtain ⟨v, hv⟩ : ∃ v, v = sg 2048 (x / 1024 % 4096) := ⟨_, rfl⟩
  have v0 : -2048 ≤ v := by rw [hv]; unfold sg; split <;> omega
  have v1 : v < 2048 := by rw [hv]; unfold sg; split <;> omega
  have HD : Hid (∀ w, Calls Try.prog 36 #[.int .u16 31, .int .u32 x, .int .i64 0] w fun e w' => e = .returned (.iface 43 (.agg #[.int .i16 (v), .int .u8 12])) ∧ w' = w) := hid (fun w => by rw [hv]; exact dec_ArgSi122110 x 0 w x0 x1)
  rw [← hv]
  clear hv
  have h_nil := fun W => nil_arg W 43 (.agg #[.int .i16 (v), .int .u8 12])
  have h_Reg := fun W => as_Simm16_Reg W (.agg #[.int .i16 (v), .int .u8 12])
  have h_Fcc := fun W => as_Simm16_Fcc W (.agg #[.int .i16 (v), .int .u8 12])
  have h_Fcsr := fun W => as_Simm16_Fcsr W (.agg #[.int .i16 (v), .int .u8 12])
  have h_Simm16 := fun W => as_Simm16_Simm16 W (.agg #[.int .i16 (v), .int .u8 12])
  go_enter Try.func24, Try.ntmps24
  go_wp2_with (first | (go_at_call 36; refine (HD.out _).mono ?_; rintro e w' ⟨rfl, rfl⟩) | go_in)
  refine bodyPost_ret (v := .agg #[.int .i64 4, .int .i64 0, .int .i64 (v)]) (by simp [results, Try.results34, go_sem]) rfl ?_
  go_wp2
  exact bodyPost_ret (v := .agg #[.int .i64 4, .int .i64 0, .int .i64 (v)]) (by simp [results, Try.results24, go_sem]) rfl ⟨rfl, by repeat (first | exact Below.refl _ _ | (refine Below.alloc ?_ (by simp; try omega) _))⟩
theorem arg_ArgSi142310 (x : Int) (w : World) (x0 : 0 ≤ x) (x1 : x ≤ 4294967295) :
    Calls Try.prog 27 #[.int .u32 x] w fun e w' => e = .returned (.agg #[.int .i64 4, .int .i64 0, .int .i64 (4 * sg 8192 (x / 1024 % 16384))]) ∧ Below w.heap.size w w' := by
  obtain ⟨v, hv⟩ : ∃ v, v = 4 * sg 8192 (x / 1024 % 16384) := ⟨_, rfl⟩
  have v0 : -32768 ≤ v := by rw [hv]; unfold sg; split <;> omega
  have v1 : v < 32768 := by rw [hv]; unfold sg; split <;> omega
  have HD : Hid (∀ w, Calls Try.prog 36 #[.int .u16 32, .int .u32 x, .int .i64 0] w fun e w' => e = .returned (.iface 45 (.agg #[.int .i32 (v), .int .u8 14])) ∧ w' = w) := hid (fun w => by rw [hv]; exact dec_ArgSi142310 x 0 w x0 x1)
  rw [← hv]
  clear hv
  have h_nil := fun W => nil_arg W 45 (.agg #[.int .i32 (v), .int .u8 14])
  have h_Reg := fun W => as_Simm32_Reg W (.agg #[.int .i32 (v), .int .u8 14])
  have h_Fcc := fun W => as_Simm32_Fcc W (.agg #[.int .i32 (v), .int .u8 14])
  have h_Fcsr := fun W => as_Simm32_Fcsr W (.agg #[.int .i32 (v), .int .u8 14])
  have h_Simm16 := fun W => as_Simm32_Simm16 W (.agg #[.int .i32 (v), .int .u8 14])
  have h_Simm32 := fun W => as_Simm32_Simm32 W (.agg #[.int .i32 (v), .int .u8 14])
  go_enter Try.func27, Try.ntmps27
  go_wp2_with (first | (go_at_call 36; refine (HD.out _).mono ?_; rintro e w' ⟨rfl, rfl⟩) | go_in)
  refine bodyPost_ret (v := .agg #[.int .i64 4, .int .i64 0, .int .i64 (v)]) (by simp [results, Try.results34, go_sem]) rfl ?_
  go_wp2
  exact bodyPost_ret (v := .agg #[.int .i64 4, .int .i64 0, .int .i64 (v)]) (by simp [results, Try.results27, go_sem]) rfl ⟨rfl, by repeat (first | exact Below.refl _ _ | (refine Below.alloc ?_ (by simp; try omega) _))⟩
theorem arg_ArgSi162510 (x : Int) (w : World) (x0 : 0 ≤ x) (x1 : x ≤ 4294967295) :
    Calls Try.prog 28 #[.int .u32 x] w fun e w' => e = .returned (.agg #[.int .i64 4, .int .i64 0, .int .i64 (sg 32768 (x / 1024 % 65536))]) ∧ Below w.heap.size w w' := by
  obtain ⟨v, hv⟩ : ∃ v, v = sg 32768 (x / 1024 % 65536) := ⟨_, rfl⟩
  have v0 : -32768 ≤ v := by rw [hv]; unfold sg; split <;> omega
  have v1 : v < 32768 := by rw [hv]; unfold sg; split <;> omega
  have HD : Hid (∀ w, Calls Try.prog 36 #[.int .u16 33, .int .u32 x, .int .i64 0] w fun e w' => e = .returned (.iface 45 (.agg #[.int .i32 (v), .int .u8 16])) ∧ w' = w) := hid (fun w => by rw [hv]; exact dec_ArgSi162510 x 0 w x0 x1)
  rw [← hv]
  clear hv
  have h_nil := fun W => nil_arg W 45 (.agg #[.int .i32 (v), .int .u8 16])
  have h_Reg := fun W => as_Simm32_Reg W (.agg #[.int .i32 (v), .int .u8 16])
  have h_Fcc := fun W => as_Simm32_Fcc W (.agg #[.int .i32 (v), .int .u8 16])
  have h_Fcsr := fun W => as_Simm32_Fcsr W (.agg #[.int .i32 (v), .int .u8 16])
  have h_Simm16 := fun W => as_Simm32_Simm16 W (.agg #[.int .i32 (v), .int .u8 16])
  have h_Simm32 := fun W => as_Simm32_Simm32 W (.agg #[.int .i32 (v), .int .u8 16])
  go_enter Try.func28, Try.ntmps28
  go_wp2_with (first | (go_at_call 36; refine (HD.out _).mono ?_; rintro e w' ⟨rfl, rfl⟩) | go_in)
  refine bodyPost_ret (v := .agg #[.int .i64 4, .int .i64 0, .int .i64 (v)]) (by simp [results, Try.results34, go_sem]) rfl ?_
  go_wp2
  exact bodyPost_ret (v := .agg #[.int .i64 4, .int .i64 0, .int .i64 (v)]) (by simp [results, Try.results28, go_sem]) rfl ⟨rfl, by repeat (first | exact Below.refl _ _ | (refine Below.alloc ?_ (by simp; try omega) _))⟩
theorem arg_ArgSi20245 (x : Int) (w : World) (x0 : 0 ≤ x) (x1 : x ≤ 4294967295) :
    Calls Try.prog 29 #[.int .u32 x] w fun e w' => e = .returned (.agg #[.int .i64 4, .int .i64 0, .int .i64 (sg 524288 (x / 32 % 1048576))]) ∧ Below w.heap.size w w' := by
  obtain ⟨v, hv⟩ : ∃ v, v = sg 524288 (x / 32 % 1048576) := ⟨_, rfl⟩
  have v0 : -524288 ≤ v := by rw [hv]; unfold sg; split <;> omega
  have v1 : v < 524288 := by rw [hv]; unfold sg; split <;> omega
  have HD : Hid (∀ w, Calls Try.prog 36 #[.int .u16 34, .int .u32 x, .int .i64 0] w fun e w' => e = .returned (.iface 45 (.agg #[.int .i32 (v), .int .u8 20])) ∧ w' = w) := hid (fun w => by rw [hv]; exact dec_ArgSi20245 x 0 w x0 x1)
  rw [← hv]
  clear hv
  have h_nil := fun W => nil_arg W 45 (.agg #[.int .i32 (v), .int .u8 20])
  have h_Reg := fun W => as_Simm32_Reg W (.agg #[.int .i32 (v), .int .u8 20])
  have h_Fcc := fun W => as_Simm32_Fcc W (.agg #[.int .i32 (v), .int .u8 20])
  have h_Fcsr := fun W => as_Simm32_Fcsr W (.agg #[.int .i32 (v), .int .u8 20])
  have h_Simm16 := fun W => as_Simm32_Simm16 W (.agg #[.int .i32 (v), .int .u8 20])
  have h_Simm32 := fun W => as_Simm32_Simm32 W (.agg #[.int .i32 (v), .int .u8 20])
  go_enter Try.func29, Try.ntmps29
  go_wp2_with (first | (go_at_call 36; refine (HD.out _).mono ?_; rintro e w' ⟨rfl, rfl⟩) | go_in)
  refine bodyPost_ret (v := .agg #[.int .i64 4, .int .i64 0, .int .i64 (v)]) (by simp [results, Try.results34, go_sem]) rfl ?_
  go_wp2
  exact bodyPost_ret (v := .agg #[.int .i64 4, .int .i64 0, .int .i64 (v)]) (by simp [results, Try.results29, go_sem]) rfl ⟨rfl, by repeat (first | exact Below.refl _ _ | (refine Below.alloc ?_ (by simp; try omega) _))⟩
theorem arg_ArgUi122110 (x : Int) (w : World) (x0 : 0 ≤ x) (x1 : x ≤ 4294967295) :
    Calls Try.prog 30 #[.int .u32 x] w fun e w' => e = .returned (.agg #[.int .i64 5, .int .i64 0, .int .i64 (x / 1024 % 4096)]) ∧ Below w.heap.size w w' := by
  obtain ⟨v, hv⟩ : ∃ v, v = x / 1024 % 4096 := ⟨_, rfl⟩
  have v0 : 0 ≤ v := by omega
  have v1 : v ≤ 4095 := by omega
  have HD : Hid (∀ w, Calls Try.prog 36 #[.int .u16 21, .int .u32 x, .int .i64 0] w fun e w' => e = .returned (.iface 47 (.agg #[.int .u32 (v), .bool false])) ∧ w' = w) := hid (fun w => by rw [hv]; exact dec_ArgUi122110 x 0 w x0 x1)
  rw [← hv]
  clear hv
  have h_nil := fun W => nil_arg W 47 (.agg #[.int .u32 (v), .bool false])
  have h_Reg := fun W => as_Uimm_Reg W (.agg #[.int .u32 (v), .bool false])
  have h_Fcc := fun W => as_Uimm_Fcc W (.agg #[.int .u32 (v), .bool false])
  have h_Fcsr := fun W => as_Uimm_Fcsr W (.agg #[.int .u32 (v), .bool false])
  have h_Simm16 := fun W => as_Uimm_Simm16 W (.agg #[.int .u32 (v), .bool false])
  have h_Simm32 := fun W => as_Uimm_Simm32 W (.agg #[.int .u32 (v), .bool false])
  have h_Uimm := fun W => as_Uimm_Uimm W (.agg #[.int .u32 (v), .bool false])
  go_enter Try.func30, Try.ntmps30
  go_wp2_with (first | (go_at_call 36; refine (HD.out _).mono ?_; rintro e w' ⟨rfl, rfl⟩) | go_in)
  refine bodyPost_ret (v := .agg #[.int .i64 5, .int .i64 0, .int .i64 (v)]) (by simp [results, Try.results34, go_sem]) rfl ?_
  go_wp2
  exact bodyPost_ret (v := .agg #[.int .i64 5, .int .i64 0, .int .i64 (v)]) (by simp [results, Try.results30, go_sem]) rfl ⟨rfl, by repeat (first | exact Below.refl _ _ | (refine Below.alloc ?_ (by simp; try omega) _))⟩
theorem arg_ArgUi51410 (x : Int) (w : World) (x0 : 0 ≤ x) (x1 : x ≤ 4294967295) :
    Calls Try.prog 31 #[.int .u32 x] w fun e w' => e = .returned (.agg #[.int .i64 5, .int .i64 0, .int .i64 (x / 1024 % 32)]) ∧ Below w.heap.size w w' := by
  obtain ⟨v, hv⟩ : ∃ v, v = x / 1024 % 32 := ⟨_, rfl⟩
  have v0 : 0 ≤ v := by omega
  have v1 : v ≤ 31 := by omega
  have HD : Hid (∀ w, Calls Try.prog 36 #[.int .u16 19, .int .u32 x, .int .i64 0] w fun e w' => e = .returned (.iface 47 (.agg #[.int .u32 (v), .bool false])) ∧ w' = w) := hid (fun w => by rw [hv]; exact dec_ArgUi51410 x 0 w x0 x1)
  rw [← hv]
  clear hv
  have h_nil := fun W => nil_arg W 47 (.agg #[.int .u32 (v), .bool false])
  have h_Reg := fun W => as_Uimm_Reg W (.agg #[.int .u32 (v), .bool false])
  have h_Fcc := fun W => as_Uimm_Fcc W (.agg #[.int .u32 (v), .bool false])
  have h_Fcsr := fun W => as_Uimm_Fcsr W (.agg #[.int .u32 (v), .bool false])
  have h_Simm16 := fun W => as_Uimm_Simm16 W (.agg #[.int .u32 (v), .bool false])
  have h_Simm32 := fun W => as_Uimm_Simm32 W (.agg #[.int .u32 (v), .bool false])
  have h_Uimm := fun W => as_Uimm_Uimm W (.agg #[.int .u32 (v), .bool false])
  go_enter Try.func31, Try.ntmps31
  go_wp2_with (first | (go_at_call 36; refine (HD.out _).mono ?_; rintro e w' ⟨rfl, rfl⟩) | go_in)
  refine bodyPost_ret (v := .agg #[.int .i64 5, .int .i64 0, .int .i64 (v)]) (by simp [results, Try.results34, go_sem]) rfl ?_
  go_wp2
  exact bodyPost_ret (v := .agg #[.int .i64 5, .int .i64 0, .int .i64 (v)]) (by simp [results, Try.results31, go_sem]) rfl ⟨rfl, by repeat (first | exact Below.refl _ _ | (refine Below.alloc ?_ (by simp; try omega) _))⟩
theorem arg_ArgUi61510 (x : Int) (w : World) (x0 : 0 ≤ x) (x1 : x ≤ 4294967295) :
    Calls Try.prog 32 #[.int .u32 x] w fun e w' => e = .returned (.agg #[.int .i64 5, .int .i64 0, .int .i64 (x / 1024 % 64)]) ∧ Below w.heap.size w w' := by
  obtain ⟨v, hv⟩ : ∃ v, v = x / 1024 % 64 := ⟨_, rfl⟩
  have v0 : 0 ≤ v := by omega
  have v1 : v ≤ 63 := by omega
  have HD : Hid (∀ w, Calls Try.prog 36 #[.int .u16 20, .int .u32 x, .int .i64 0] w fun e w' => e = .returned (.iface 47 (.agg #[.int .u32 (v), .bool false])) ∧ w' = w) := hid (fun w => by rw [hv]; exact dec_ArgUi61510 x 0 w x0 x1)
  rw [← hv]
  clear hv
  have h_nil := fun W => nil_arg W 47 (.agg #[.int .u32 (v), .bool false])
  have h_Reg := fun W => as_Uimm_Reg W (.agg #[.int .u32 (v), .bool false])
  have h_Fcc := fun W => as_Uimm_Fcc W (.agg #[.int .u32 (v), .bool false])
  have h_Fcsr := fun W => as_Uimm_Fcsr W (.agg #[.int .u32 (v), .bool false])
  have h_Simm16 := fun W => as_Uimm_Simm16 W (.agg #[.int .u32 (v), .bool false])
  have h_Simm32 := fun W => as_Uimm_Simm32 W (.agg #[.int .u32 (v), .bool false])
  have h_Uimm := fun W => as_Uimm_Uimm W (.agg #[.int .u32 (v), .bool false])
  go_enter Try.func32, Try.ntmps32
  go_wp2_with (first | (go_at_call 36; refine (HD.out _).mono ?_; rintro e w' ⟨rfl, rfl⟩) | go_in)
  refine bodyPost_ret (v := .agg #[.int .i64 5, .int .i64 0, .int .i64 (v)]) (by simp [results, Try.results34, go_sem]) rfl ?_
  go_wp2
  exact bodyPost_ret (v := .agg #[.int .i64 5, .int .i64 0, .int .i64 (v)]) (by simp [results, Try.results32, go_sem]) rfl ⟨rfl, by repeat (first | exact Below.refl _ _ | (refine Below.alloc ?_ (by simp; try omega) _))⟩
end Go.Proofs.Ytfbdgpopkkmkjac.Arg
