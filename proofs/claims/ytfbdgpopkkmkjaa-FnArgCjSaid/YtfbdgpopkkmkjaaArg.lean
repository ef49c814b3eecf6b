/- The walks of the thin package's functions and of the reference's Field. -/
import Derived.Test.YtfbdgpopkkmkjaaDec
import Derived.Laws.BitsLemmas
import Derived.Deep.QuietTactic
import Derived.BigQuiet
namespace Go.Proofs.Ytfbdgpopkkmkjaa.Arg
open Go.RowKit
theorem bel_drewN {B : Nat} {a w : World} (h : Below B a w) (n : Nat) : Below B a (w.drewN n) := ⟨h.os, h.tape, h.output, h.size, h.block⟩
theorem nil_arg (W : World) (u : TypeId) (v : Value) : (binOp .eql 33 (.iface u v) .nilIface).run Try.prog W = .ok (.bool false) W := by kernel_rfl
theorem as_Reg_Reg (W : World) (v : Value) : (Instr.typeAssert (.iface 36 v) 33 36 true).run Try.prog W = .ok (.tuple #[v, .bool true]) W := by kernel_rfl
theorem as_Fcc_Reg (W : World) (v : Value) : (Instr.typeAssert (.iface 37 v) 33 36 true).run Try.prog W = .ok (.tuple #[.int .u16 0, .bool false]) W := by kernel_rfl
theorem as_Fcc_Fcc (W : World) (v : Value) : (Instr.typeAssert (.iface 37 v) 33 37 true).run Try.prog W = .ok (.tuple #[v, .bool true]) W := by kernel_rfl
theorem as_Fcsr_Reg (W : World) (v : Value) : (Instr.typeAssert (.iface 38 v) 33 36 true).run Try.prog W = .ok (.tuple #[.int .u16 0, .bool false]) W := by kernel_rfl
theorem as_Fcsr_Fcc (W : World) (v : Value) : (Instr.typeAssert (.iface 38 v) 33 37 true).run Try.prog W = .ok (.tuple #[.int .u8 0, .bool false]) W := by kernel_rfl
theorem as_Fcsr_Fcsr (W : World) (v : Value) : (Instr.typeAssert (.iface 38 v) 33 38 true).run Try.prog W = .ok (.tuple #[v, .bool true]) W := by kernel_rfl
theorem as_Uimm_Reg (W : World) (v : Value) : (Instr.typeAssert (.iface 45 v) 33 36 true).run Try.prog W = .ok (.tuple #[.int .u16 0, .bool false]) W := by kernel_rfl
theorem as_Uimm_Fcc (W : World) (v : Value) : (Instr.typeAssert (.iface 45 v) 33 37 true).run Try.prog W = .ok (.tuple #[.int .u8 0, .bool false]) W := by kernel_rfl
theorem as_Uimm_Fcsr (W : World) (v : Value) : (Instr.typeAssert (.iface 45 v) 33 38 true).run Try.prog W = .ok (.tuple #[.int .u8 0, .bool false]) W := by kernel_rfl
theorem as_Uimm_Simm16 (W : World) (v : Value) : (Instr.typeAssert (.iface 45 v) 33 41 true).run Try.prog W = .ok (.tuple #[.agg #[.int .i16 0, .int .u8 0], .bool false]) W := by kernel_rfl
theorem as_Uimm_Simm32 (W : World) (v : Value) : (Instr.typeAssert (.iface 45 v) 33 43 true).run Try.prog W = .ok (.tuple #[.agg #[.int .i32 0, .int .u8 0], .bool false]) W := by kernel_rfl
theorem as_Uimm_Uimm (W : World) (v : Value) : (Instr.typeAssert (.iface 45 v) 33 45 true).run Try.prog W = .ok (.tuple #[v, .bool true]) W := by kernel_rfl
theorem as_CodeSimm_Reg (W : World) (v : Value) : (Instr.typeAssert (.iface 47 v) 33 36 true).run Try.prog W = .ok (.tuple #[.int .u16 0, .bool false]) W := by kernel_rfl
theorem as_CodeSimm_Fcc (W : World) (v : Value) : (Instr.typeAssert (.iface 47 v) 33 37 true).run Try.prog W = .ok (.tuple #[.int .u8 0, .bool false]) W := by kernel_rfl
theorem as_CodeSimm_Fcsr (W : World) (v : Value) : (Instr.typeAssert (.iface 47 v) 33 38 true).run Try.prog W = .ok (.tuple #[.int .u8 0, .bool false]) W := by kernel_rfl
theorem as_CodeSimm_Simm16 (W : World) (v : Value) : (Instr.typeAssert (.iface 47 v) 33 41 true).run Try.prog W = .ok (.tuple #[.agg #[.int .i16 0, .int .u8 0], .bool false]) W := by kernel_rfl
theorem as_CodeSimm_Simm32 (W : World) (v : Value) : (Instr.typeAssert (.iface 47 v) 33 43 true).run Try.prog W = .ok (.tuple #[.agg #[.int .i32 0, .int .u8 0], .bool false]) W := by kernel_rfl
theorem as_CodeSimm_Uimm (W : World) (v : Value) : (Instr.typeAssert (.iface 47 v) 33 45 true).run Try.prog W = .ok (.tuple #[.agg #[.int .u32 0, .bool false], .bool false]) W := by kernel_rfl
theorem as_CodeSimm_OffsetSimm (W : World) (v : Value) : (Instr.typeAssert (.iface 47 v) 33 46 true).run Try.prog W = .ok (.tuple #[.agg #[.int .i32 0, .int .u8 0], .bool false]) W := by kernel_rfl
theorem as_CodeSimm_CodeSimm (W : World) (v : Value) : (Instr.typeAssert (.iface 47 v) 33 47 true).run Try.prog W = .ok (.tuple #[v, .bool true]) W := by kernel_rfl
theorem field_2_0 (x : Int) (w : World) (x0 : 0 ≤ x) (x1 : x ≤ 4294967295) :
    Calls Try.prog 17 #[.int .u32 x, .int .i64 2, .int .i64 0] w fun e w' => e = .returned (.int .i64 (x % 8)) ∧ ∃ n, w' = w.drewN n := by
  go_enter Try.func17, Try.ntmps17
  go_wp2
  go_quiet (fail)
  go_wp2
  go_ret
  exact ⟨rfl, _, rfl⟩
theorem field_4_0 (x : Int) (w : World) (x0 : 0 ≤ x) (x1 : x ≤ 4294967295) :
    Calls Try.prog 17 #[.int .u32 x, .int .i64 4, .int .i64 0] w fun e w' => e = .returned (.int .i64 (x % 32)) ∧ ∃ n, w' = w.drewN n := by
  go_enter Try.func17, Try.ntmps17
  go_wp2
  go_quiet (fail)
  go_wp2
  go_ret
  exact ⟨rfl, _, rfl⟩
theorem field_7_5 (x : Int) (w : World) (x0 : 0 ≤ x) (x1 : x ≤ 4294967295) :
    Calls Try.prog 17 #[.int .u32 x, .int .i64 7, .int .i64 5] w fun e w' => e = .returned (.int .i64 (x / 32 % 8)) ∧ ∃ n, w' = w.drewN n := by
  go_enter Try.func17, Try.ntmps17
  go_wp2
  go_quiet (fail)
  go_wp2
  go_ret
  exact ⟨rfl, _, rfl⟩
theorem field_9_5 (x : Int) (w : World) (x0 : 0 ≤ x) (x1 : x ≤ 4294967295) :
    Calls Try.prog 17 #[.int .u32 x, .int .i64 9, .int .i64 5] w fun e w' => e = .returned (.int .i64 (x / 32 % 32)) ∧ ∃ n, w' = w.drewN n := by
  go_enter Try.func17, Try.ntmps17
  go_wp2
  go_quiet (fail)
  go_wp2
  go_ret
  exact ⟨rfl, _, rfl⟩
theorem field_14_0 (x : Int) (w : World) (x0 : 0 ≤ x) (x1 : x ≤ 4294967295) :
    Calls Try.prog 17 #[.int .u32 x, .int .i64 14, .int .i64 0] w fun e w' => e = .returned (.int .i64 (x % 32768)) ∧ ∃ n, w' = w.drewN n := by
  go_enter Try.func17, Try.ntmps17
  go_wp2
  go_quiet (fail)
  go_wp2
  go_ret
  exact ⟨rfl, _, rfl⟩
theorem field_14_10 (x : Int) (w : World) (x0 : 0 ≤ x) (x1 : x ≤ 4294967295) :
    Calls Try.prog 17 #[.int .u32 x, .int .i64 14, .int .i64 10] w fun e w' => e = .returned (.int .i64 (x / 1024 % 32)) ∧ ∃ n, w' = w.drewN n := by
  go_enter Try.func17, Try.ntmps17
  go_wp2
  go_quiet (fail)
  go_wp2
  go_ret
  exact ⟨rfl, _, rfl⟩
theorem field_17_15 (x : Int) (w : World) (x0 : 0 ≤ x) (x1 : x ≤ 4294967295) :
    Calls Try.prog 17 #[.int .u32 x, .int .i64 17, .int .i64 15] w fun e w' => e = .returned (.int .i64 (x / 32768 % 8)) ∧ ∃ n, w' = w.drewN n := by
  go_enter Try.func17, Try.ntmps17
  go_wp2
  go_quiet (fail)
  go_wp2
  go_ret
  exact ⟨rfl, _, rfl⟩
theorem field_19_15 (x : Int) (w : World) (x0 : 0 ≤ x) (x1 : x ≤ 4294967295) :
    Calls Try.prog 17 #[.int .u32 x, .int .i64 19, .int .i64 15] w fun e w' => e = .returned (.int .i64 (x / 32768 % 32)) ∧ ∃ n, w' = w.drewN n := by
  go_enter Try.func17, Try.ntmps17
  go_wp2
  go_quiet (fail)
  go_wp2
  go_ret
  exact ⟨rfl, _, rfl⟩
theorem field_23_10 (x : Int) (w : World) (x0 : 0 ≤ x) (x1 : x ≤ 4294967295) :
    Calls Try.prog 17 #[.int .u32 x, .int .i64 23, .int .i64 10] w fun e w' => e = .returned (.int .i64 (x / 1024 % 16384)) ∧ ∃ n, w' = w.drewN n := by
  go_enter Try.func17, Try.ntmps17
  go_wp2
  go_quiet (fail)
  go_wp2
  go_ret
  exact ⟨rfl, _, rfl⟩
theorem arg_ArgCa (x : Int) (w : World) (x0 : 0 ≤ x) (x1 : x ≤ 4294967295) :
    Calls Try.prog 16 #[.int .u32 x] w fun e w' => e = .returned (.agg #[.int .i64 2, .int .i64 (x / 32768 % 8), .int .i64 0]) ∧ Below w.heap.size w w' := by
  obtain ⟨v, hv⟩ : ∃ v, v = x / 32768 % 8 := ⟨_, rfl⟩
  have v0 : 0 ≤ v := by omega
  have v1 : v ≤ 7 := by omega
  have HD : Hid (∀ w, Calls Try.prog 34 #[.int .u16 14, .int .u32 x, .int .i64 0] w fun e w' => e = .returned (.iface 37 (.int .u8 (v))) ∧ w' = w) := hid (fun w => by rw [hv]; exact dec_ArgCa x 0 w x0 x1)
  rw [← hv]
  clear hv
  have h_nil := fun W => nil_arg W 37 (.int .u8 (v))
  have h_Reg := fun W => as_Fcc_Reg W (.int .u8 (v))
  have h_Fcc := fun W => as_Fcc_Fcc W (.int .u8 (v))
  go_enter Try.func16, Try.ntmps16
  go_wp2_with (first | (go_at_call 34; refine (HD.out _).mono ?_; rintro e w' ⟨rfl, rfl⟩) | go_in)
  refine bodyPost_ret (v := .agg #[.int .i64 2, .int .i64 (v), .int .i64 0]) (by simp [results, Try.results32, go_sem]) rfl ?_
  go_wp2
  exact bodyPost_ret (v := .agg #[.int .i64 2, .int .i64 (v), .int .i64 0]) (by simp [results, Try.results16, go_sem]) rfl ⟨rfl, by repeat (first | exact Below.refl _ _ | (refine Below.alloc ?_ (by simp; try omega) _))⟩
theorem arg_ArgCd (x : Int) (w : World) (x0 : 0 ≤ x) (x1 : x ≤ 4294967295) :
    Calls Try.prog 18 #[.int .u32 x] w fun e w' => e = .returned (.agg #[.int .i64 2, .int .i64 (x % 8), .int .i64 0]) ∧ Below w.heap.size w w' := by
  obtain ⟨v, hv⟩ : ∃ v, v = x % 8 := ⟨_, rfl⟩
  have v0 : 0 ≤ v := by omega
  have v1 : v ≤ 7 := by omega
  have HD : Hid (∀ w, Calls Try.prog 34 #[.int .u16 12, .int .u32 x, .int .i64 0] w fun e w' => e = .returned (.iface 37 (.int .u8 (v))) ∧ w' = w) := hid (fun w => by rw [hv]; exact dec_ArgCd x 0 w x0 x1)
  rw [← hv]
  clear hv
  have h_nil := fun W => nil_arg W 37 (.int .u8 (v))
  have h_Reg := fun W => as_Fcc_Reg W (.int .u8 (v))
  have h_Fcc := fun W => as_Fcc_Fcc W (.int .u8 (v))
  go_enter Try.func18, Try.ntmps18
  go_wp2_with (first | (go_at_call 34; refine (HD.out _).mono ?_; rintro e w' ⟨rfl, rfl⟩) | go_in)
  refine bodyPost_ret (v := .agg #[.int .i64 2, .int .i64 (v), .int .i64 0]) (by simp [results, Try.results32, go_sem]) rfl ?_
  go_wp2
  exact bodyPost_ret (v := .agg #[.int .i64 2, .int .i64 (v), .int .i64 0]) (by simp [results, Try.results18, go_sem]) rfl ⟨rfl, by repeat (first | exact Below.refl _ _ | (refine Below.alloc ?_ (by simp; try omega) _))⟩
theorem arg_ArgCj (x : Int) (w : World) (x0 : 0 ≤ x) (x1 : x ≤ 4294967295) :
    Calls Try.prog 19 #[.int .u32 x] w fun e w' => e = .returned (.agg #[.int .i64 2, .int .i64 (x / 32 % 8), .int .i64 0]) ∧ Below w.heap.size w w' := by
  obtain ⟨v, hv⟩ : ∃ v, v = x / 32 % 8 := ⟨_, rfl⟩
  have v0 : 0 ≤ v := by omega
  have v1 : v ≤ 7 := by omega
  have HD : Hid (∀ w, Calls Try.prog 34 #[.int .u16 13, .int .u32 x, .int .i64 0] w fun e w' => e = .returned (.iface 37 (.int .u8 (v))) ∧ w' = w) := hid (fun w => by rw [hv]; exact dec_ArgCj x 0 w x0 x1)
  rw [← hv]
  clear hv
  have h_nil := fun W => nil_arg W 37 (.int .u8 (v))
  have h_Reg := fun W => as_Fcc_Reg W (.int .u8 (v))
  have h_Fcc := fun W => as_Fcc_Fcc W (.int .u8 (v))
  go_enter Try.func19, Try.ntmps19
  go_wp2_with (first | (go_at_call 34; refine (HD.out _).mono ?_; rintro e w' ⟨rfl, rfl⟩) | go_in)
  refine bodyPost_ret (v := .agg #[.int .i64 2, .int .i64 (v), .int .i64 0]) (by simp [results, Try.results32, go_sem]) rfl ?_
  go_wp2
  exact bodyPost_ret (v := .agg #[.int .i64 2, .int .i64 (v), .int .i64 0]) (by simp [results, Try.results19, go_sem]) rfl ⟨rfl, by repeat (first | exact Below.refl _ _ | (refine Below.alloc ?_ (by simp; try omega) _))⟩
theorem arg_ArgCode140 (x : Int) (w : World) (x0 : 0 ≤ x) (x1 : x ≤ 4294967295) :
    Calls Try.prog 20 #[.int .u32 x] w fun e w' => e = .returned (.agg #[.int .i64 7, .int .i64 0, .int .i64 (x % 32768)]) ∧ Below w.heap.size w w' := by
  obtain ⟨v, hv⟩ : ∃ v, v = x % 32768 := ⟨_, rfl⟩
  have v0 : 0 ≤ v := by omega
  have v1 : v ≤ 32767 := by omega
  have HD : Hid (∀ w, Calls Try.prog 34 #[.int .u16 18, .int .u32 x, .int .i64 0] w fun e w' => e = .returned (.iface 47 (.int .i16 (v))) ∧ w' = w) := hid (fun w => by rw [hv]; exact dec_ArgCode140 x 0 w x0 x1)
  rw [← hv]
  clear hv
  have h_nil := fun W => nil_arg W 47 (.int .i16 (v))
  have h_Reg := fun W => as_CodeSimm_Reg W (.int .i16 (v))
  have h_Fcc := fun W => as_CodeSimm_Fcc W (.int .i16 (v))
  have h_Fcsr := fun W => as_CodeSimm_Fcsr W (.int .i16 (v))
  have h_Simm16 := fun W => as_CodeSimm_Simm16 W (.int .i16 (v))
  have h_Simm32 := fun W => as_CodeSimm_Simm32 W (.int .i16 (v))
  have h_Uimm := fun W => as_CodeSimm_Uimm W (.int .i16 (v))
  have h_OffsetSimm := fun W => as_CodeSimm_OffsetSimm W (.int .i16 (v))
  have h_CodeSimm := fun W => as_CodeSimm_CodeSimm W (.int .i16 (v))
  go_enter Try.func20, Try.ntmps20
  go_wp2_with (first | (go_at_call 34; refine (HD.out _).mono ?_; rintro e w' ⟨rfl, rfl⟩) | go_in)
  refine bodyPost_ret (v := .agg #[.int .i64 7, .int .i64 0, .int .i64 (v)]) (by simp [results, Try.results32, go_sem]) rfl ?_
  go_wp2
  exact bodyPost_ret (v := .agg #[.int .i64 7, .int .i64 0, .int .i64 (v)]) (by simp [results, Try.results20, go_sem]) rfl ⟨rfl, by repeat (first | exact Below.refl _ _ | (refine Below.alloc ?_ (by simp; try omega) _))⟩
theorem arg_ArgCode40 (x : Int) (w : World) (x0 : 0 ≤ x) (x1 : x ≤ 4294967295) :
    Calls Try.prog 22 #[.int .u32 x] w fun e w' => e = .returned (.agg #[.int .i64 7, .int .i64 0, .int .i64 (x % 32)]) ∧ Below w.heap.size w w' := by
  obtain ⟨v, hv⟩ : ∃ v, v = x % 32 := ⟨_, rfl⟩
  have v0 : 0 ≤ v := by omega
  have v1 : v ≤ 31 := by omega
  have HD : Hid (∀ w, Calls Try.prog 34 #[.int .u16 17, .int .u32 x, .int .i64 0] w fun e w' => e = .returned (.iface 47 (.int .i16 (v))) ∧ w' = w) := hid (fun w => by rw [hv]; exact dec_ArgCode40 x 0 w x0 x1)
  rw [← hv]
  clear hv
  have h_nil := fun W => nil_arg W 47 (.int .i16 (v))
  have h_Reg := fun W => as_CodeSimm_Reg W (.int .i16 (v))
  have h_Fcc := fun W => as_CodeSimm_Fcc W (.int .i16 (v))
  have h_Fcsr := fun W => as_CodeSimm_Fcsr W (.int .i16 (v))
  have h_Simm16 := fun W => as_CodeSimm_Simm16 W (.int .i16 (v))
  have h_Simm32 := fun W => as_CodeSimm_Simm32 W (.int .i16 (v))
  have h_Uimm := fun W => as_CodeSimm_Uimm W (.int .i16 (v))
  have h_OffsetSimm := fun W => as_CodeSimm_OffsetSimm W (.int .i16 (v))
  have h_CodeSimm := fun W => as_CodeSimm_CodeSimm W (.int .i16 (v))
  go_enter Try.func22, Try.ntmps22
  go_wp2_with (first | (go_at_call 34; refine (HD.out _).mono ?_; rintro e w' ⟨rfl, rfl⟩) | go_in)
  refine bodyPost_ret (v := .agg #[.int .i64 7, .int .i64 0, .int .i64 (v)]) (by simp [results, Try.results32, go_sem]) rfl ?_
  go_wp2
  exact bodyPost_ret (v := .agg #[.int .i64 7, .int .i64 0, .int .i64 (v)]) (by simp [results, Try.results22, go_sem]) rfl ⟨rfl, by repeat (first | exact Below.refl _ _ | (refine Below.alloc ?_ (by simp; try omega) _))⟩
theorem arg_ArgCsr2310 (x : Int) (w : World) (x0 : 0 ≤ x) (x1 : x ≤ 4294967295) :
    Calls Try.prog 23 #[.int .u32 x] w fun e w' => e = .returned (.agg #[.int .i64 5, .int .i64 0, .int .i64 (x / 1024 % 16384)]) ∧ Below w.heap.size w w' := by
  obtain ⟨v, hv⟩ : ∃ v, v = x / 1024 % 16384 := ⟨_, rfl⟩
  have v0 : 0 ≤ v := by omega
  have v1 : v ≤ 16383 := by omega
  have HD : Hid (∀ w, Calls Try.prog 34 #[.int .u16 11, .int .u32 x, .int .i64 0] w fun e w' => e = .returned (.iface 45 (.agg #[.int .u32 (v), .bool false])) ∧ w' = w) := hid (fun w => by rw [hv]; exact dec_ArgCsr2310 x 0 w x0 x1)
  rw [← hv]
  clear hv
  have h_nil := fun W => nil_arg W 45 (.agg #[.int .u32 (v), .bool false])
  have h_Reg := fun W => as_Uimm_Reg W (.agg #[.int .u32 (v), .bool false])
  have h_Fcc := fun W => as_Uimm_Fcc W (.agg #[.int .u32 (v), .bool false])
  have h_Fcsr := fun W => as_Uimm_Fcsr W (.agg #[.int .u32 (v), .bool false])
  have h_Simm16 := fun W => as_Uimm_Simm16 W (.agg #[.int .u32 (v), .bool false])
  have h_Simm32 := fun W => as_Uimm_Simm32 W (.agg #[.int .u32 (v), .bool false])
  have h_Uimm := fun W => as_Uimm_Uimm W (.agg #[.int .u32 (v), .bool false])
  go_enter Try.func23, Try.ntmps23
  go_wp2_with (first | (go_at_call 34; refine (HD.out _).mono ?_; rintro e w' ⟨rfl, rfl⟩) | go_in)
  refine bodyPost_ret (v := .agg #[.int .i64 5, .int .i64 0, .int .i64 (v)]) (by simp [results, Try.results32, go_sem]) rfl ?_
  go_wp2
  exact bodyPost_ret (v := .agg #[.int .i64 5, .int .i64 0, .int .i64 (v)]) (by simp [results, Try.results23, go_sem]) rfl ⟨rfl, by repeat (first | exact Below.refl _ _ | (refine Below.alloc ?_ (by simp; try omega) _))⟩
theorem arg_ArgFa (x : Int) (w : World) (x0 : 0 ≤ x) (x1 : x ≤ 4294967295) :
    Calls Try.prog 24 #[.int .u32 x] w fun e w' => e = .returned (.agg #[.int .i64 1, .int .i64 (32 + x / 32768 % 32), .int .i64 0]) ∧ Below w.heap.size w w' := by
  obtain ⟨v, hv⟩ : ∃ v, v = 32 + x / 32768 % 32 := ⟨_, rfl⟩
  have v0 : 32 ≤ v := by omega
  have v1 : v ≤ 63 := by omega
  have HD : Hid (∀ w, Calls Try.prog 34 #[.int .u16 4, .int .u32 x, .int .i64 0] w fun e w' => e = .returned (.iface 36 (.int .u16 (v))) ∧ w' = w) := hid (fun w => by rw [hv]; exact dec_ArgFa x 0 w x0 x1)
  rw [← hv]
  clear hv
  have h_nil := fun W => nil_arg W 36 (.int .u16 (v))
  have h_Reg := fun W => as_Reg_Reg W (.int .u16 (v))
  go_enter Try.func24, Try.ntmps24
  go_wp2_with (first | (go_at_call 34; refine (HD.out _).mono ?_; rintro e w' ⟨rfl, rfl⟩) | go_in)
  refine bodyPost_ret (v := .agg #[.int .i64 1, .int .i64 (v), .int .i64 0]) (by simp [results, Try.results32, go_sem]) rfl ?_
  go_wp2
  exact bodyPost_ret (v := .agg #[.int .i64 1, .int .i64 (v), .int .i64 0]) (by simp [results, Try.results24, go_sem]) rfl ⟨rfl, by repeat (first | exact Below.refl _ _ | (refine Below.alloc ?_ (by simp; try omega) _))⟩
theorem arg_ArgFcsr40 (x : Int) (w : World) (x0 : 0 ≤ x) (x1 : x ≤ 4294967295) :
    Calls Try.prog 26 #[.int .u32 x] w fun e w' => e = .returned (.agg #[.int .i64 3, .int .i64 (x % 32), .int .i64 0]) ∧ Below w.heap.size w w' := by
  obtain ⟨v, hv⟩ : ∃ v, v = x % 32 := ⟨_, rfl⟩
  have v0 : 0 ≤ v := by omega
  have v1 : v ≤ 31 := by omega
  have HD : Hid (∀ w, Calls Try.prog 34 #[.int .u16 9, .int .u32 x, .int .i64 0] w fun e w' => e = .returned (.iface 38 (.int .u8 (v))) ∧ w' = w) := hid (fun w => by rw [hv]; exact dec_ArgFcsr40 x 0 w x0 x1)
  rw [← hv]
  clear hv
  have h_nil := fun W => nil_arg W 38 (.int .u8 (v))
  have h_Reg := fun W => as_Fcsr_Reg W (.int .u8 (v))
  have h_Fcc := fun W => as_Fcsr_Fcc W (.int .u8 (v))
  have h_Fcsr := fun W => as_Fcsr_Fcsr W (.int .u8 (v))
  go_enter Try.func26, Try.ntmps26
  go_wp2_with (first | (go_at_call 34; refine (HD.out _).mono ?_; rintro e w' ⟨rfl, rfl⟩) | go_in)
  refine bodyPost_ret (v := .agg #[.int .i64 3, .int .i64 (v), .int .i64 0]) (by simp [results, Try.results32, go_sem]) rfl ?_
  go_wp2
  exact bodyPost_ret (v := .agg #[.int .i64 3, .int .i64 (v), .int .i64 0]) (by simp [results, Try.results26, go_sem]) rfl ⟨rfl, by repeat (first | exact Below.refl _ _ | (refine Below.alloc ?_ (by simp; try omega) _))⟩
theorem arg_ArgFcsr95 (x : Int) (w : World) (x0 : 0 ≤ x) (x1 : x ≤ 4294967295) :
    Calls Try.prog 27 #[.int .u32 x] w fun e w' => e = .returned (.agg #[.int .i64 3, .int .i64 (x / 32 % 32), .int .i64 0]) ∧ Below w.heap.size w w' := by
  obtain ⟨v, hv⟩ : ∃ v, v = x / 32 % 32 := ⟨_, rfl⟩
  have v0 : 0 ≤ v := by omega
  have v1 : v ≤ 31 := by omega
  have HD : Hid (∀ w, Calls Try.prog 34 #[.int .u16 10, .int .u32 x, .int .i64 0] w fun e w' => e = .returned (.iface 38 (.int .u8 (v))) ∧ w' = w) := hid (fun w => by rw [hv]; exact dec_ArgFcsr95 x 0 w x0 x1)
  rw [← hv]
  clear hv
  have h_nil := fun W => nil_arg W 38 (.int .u8 (v))
  have h_Reg := fun W => as_Fcsr_Reg W (.int .u8 (v))
  have h_Fcc := fun W => as_Fcsr_Fcc W (.int .u8 (v))
  have h_Fcsr := fun W => as_Fcsr_Fcsr W (.int .u8 (v))
  go_enter Try.func27, Try.ntmps27
  go_wp2_with (first | (go_at_call 34; refine (HD.out _).mono ?_; rintro e w' ⟨rfl, rfl⟩) | go_in)
  refine bodyPost_ret (v := .agg #[.int .i64 3, .int .i64 (v), .int .i64 0]) (by simp [results, Try.results32, go_sem]) rfl ?_
  go_wp2
  exact bodyPost_ret (v := .agg #[.int .i64 3, .int .i64 (v), .int .i64 0]) (by simp [results, Try.results27, go_sem]) rfl ⟨rfl, by repeat (first | exact Below.refl _ _ | (refine Below.alloc ?_ (by simp; try omega) _))⟩
theorem arg_ArgFd (x : Int) (w : World) (x0 : 0 ≤ x) (x1 : x ≤ 4294967295) :
    Calls Try.prog 28 #[.int .u32 x] w fun e w' => e = .returned (.agg #[.int .i64 1, .int .i64 (32 + x % 32), .int .i64 0]) ∧ Below w.heap.size w w' := by
  obtain ⟨v, hv⟩ : ∃ v, v = 32 + x % 32 := ⟨_, rfl⟩
  have v0 : 32 ≤ v := by omega
  have v1 : v ≤ 63 := by omega
  have HD : Hid (∀ w, Calls Try.prog 34 #[.int .u16 1, .int .u32 x, .int .i64 0] w fun e w' => e = .returned (.iface 36 (.int .u16 (v))) ∧ w' = w) := hid (fun w => by rw [hv]; exact dec_ArgFd x 0 w x0 x1)
  rw [← hv]
  clear hv
  have h_nil := fun W => nil_arg W 36 (.int .u16 (v))
  have h_Reg := fun W => as_Reg_Reg W (.int .u16 (v))
  go_enter Try.func28, Try.ntmps28
  go_wp2_with (first | (go_at_call 34; refine (HD.out _).mono ?_; rintro e w' ⟨rfl, rfl⟩) | go_in)
  refine bodyPost_ret (v := .agg #[.int .i64 1, .int .i64 (v), .int .i64 0]) (by simp [results, Try.results32, go_sem]) rfl ?_
  go_wp2
  exact bodyPost_ret (v := .agg #[.int .i64 1, .int .i64 (v), .int .i64 0]) (by simp [results, Try.results28, go_sem]) rfl ⟨rfl, by repeat (first | exact Below.refl _ _ | (refine Below.alloc ?_ (by simp; try omega) _))⟩
theorem arg_ArgFj (x : Int) (w : World) (x0 : 0 ≤ x) (x1 : x ≤ 4294967295) :
    Calls Try.prog 29 #[.int .u32 x] w fun e w' => e = .returned (.agg #[.int .i64 1, .int .i64 (32 + x / 32 % 32), .int .i64 0]) ∧ Below w.heap.size w w' := by
  obtain ⟨v, hv⟩ : ∃ v, v = 32 + x / 32 % 32 := ⟨_, rfl⟩
  have v0 : 32 ≤ v := by omega
  have v1 : v ≤ 63 := by omega
  have HD : Hid (∀ w, Calls Try.prog 34 #[.int .u16 2, .int .u32 x, .int .i64 0] w fun e w' => e = .returned (.iface 36 (.int .u16 (v))) ∧ w' = w) := hid (fun w => by rw [hv]; exact dec_ArgFj x 0 w x0 x1)
  rw [← hv]
  clear hv
  have h_nil := fun W => nil_arg W 36 (.int .u16 (v))
  have h_Reg := fun W => as_Reg_Reg W (.int .u16 (v))
  go_enter Try.func29, Try.ntmps29
  go_wp2_with (first | (go_at_call 34; refine (HD.out _).mono ?_; rintro e w' ⟨rfl, rfl⟩) | go_in)
  refine bodyPost_ret (v := .agg #[.int .i64 1, .int .i64 (v), .int .i64 0]) (by simp [results, Try.results32, go_sem]) rfl ?_
  go_wp2
  exact bodyPost_ret (v := .agg #[.int .i64 1, .int .i64 (v), .int .i64 0]) (by simp [results, Try.results29, go_sem]) rfl ⟨rfl, by repeat (first | exact Below.refl _ _ | (refine Below.alloc ?_ (by simp; try omega) _))⟩
theorem arg_ArgFk (x : Int) (w : World) (x0 : 0 ≤ x) (x1 : x ≤ 4294967295) :
    Calls Try.prog 30 #[.int .u32 x] w fun e w' => e = .returned (.agg #[.int .i64 1, .int .i64 (32 + x / 1024 % 32), .int .i64 0]) ∧ Below w.heap.size w w' := by
  obtain ⟨v, hv⟩ : ∃ v, v = 32 + x / 1024 % 32 := ⟨_, rfl⟩
  have v0 : 32 ≤ v := by omega
  have v1 : v ≤ 63 := by omega
  have HD : Hid (∀ w, Calls Try.prog 34 #[.int .u16 3, .int .u32 x, .int .i64 0] w fun e w' => e = .returned (.iface 36 (.int .u16 (v))) ∧ w' = w) := hid (fun w => by rw [hv]; exact dec_ArgFk x 0 w x0 x1)
  rw [← hv]
  clear hv
  have h_nil := fun W => nil_arg W 36 (.int .u16 (v))
  have h_Reg := fun W => as_Reg_Reg W (.int .u16 (v))
  go_enter Try.func30, Try.ntmps30
  go_wp2_with (first | (go_at_call 34; refine (HD.out _).mono ?_; rintro e w' ⟨rfl, rfl⟩) | go_in)
  refine bodyPost_ret (v := .agg #[.int .i64 1, .int .i64 (v), .int .i64 0]) (by simp [results, Try.results32, go_sem]) rfl ?_
  go_wp2
  exact bodyPost_ret (v := .agg #[.int .i64 1, .int .i64 (v), .int .i64 0]) (by simp [results, Try.results30, go_sem]) rfl ⟨rfl, by repeat (first | exact Below.refl _ _ | (refine Below.alloc ?_ (by simp; try omega) _))⟩
end Go.Proofs.Ytfbdgpopkkmkjaa.Arg
