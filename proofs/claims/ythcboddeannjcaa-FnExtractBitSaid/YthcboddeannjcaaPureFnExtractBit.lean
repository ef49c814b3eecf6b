/- For all 32-bit words and bit numbers, the printed law FnExtractBit answers true. No conditions. -/
import Derived.Test.YthcboddeannjcaaPFnExtractBitx1
import Derived.Laws.BitsLemmas
namespace Go.Proofs.Ythcboddeannjcaa.Pure
open Go.RowKit Go.Proofs.Ythcboddeannjcaa.PFnExtractBit Go.Proofs.YthcboddeannjcaaW.PrintWords Go.Proofs.YthcboddeannjcaaW.PrintLast

theorem eb_wf_u32 {x : Int} (h : (Lit.int .u32 x).wf = true) : 0 ≤ x ∧ x ≤ 4294967295 := by
  simp [Lit.wf, IntKind.min, IntKind.max, IntKind.signed, IntKind.bits] at h
  omega
theorem eb_wraps_u32 (n : Int) (h₀ : 0 ≤ n) (h₁ : n < 2 ^ 32) : IntKind.u32.wrap n = n := by rw [IntKind.wrap_u32]; omega

theorem FnExtractBit : laws_FnExtractBit.Pure := by
  intro a b ha hb
  have ⟨a0, a1⟩ := eb_wf_u32 ha
  have ⟨b0, b1⟩ := eb_wf_u32 hb
  unfold laws_FnExtractBit.f
  split
  · rfl
  · have hs : 0 ≤ shr .u32 a b ∧ shr .u32 a b ≤ a := by
      unfold shr
      have hp : (0 : Int) < 2 ^ min b.toNat IntKind.u32.bits := Int.pow_pos (by omega)
      exact ⟨Int.ediv_nonneg a0 (by omega), Int.ediv_le_self _ a0⟩
    simp only [impl_ExtractBit.f, arm64asm_ZZExtractBit.f, arm64asm_extract_bit.f, if_pos b0, Option.bind_some]
    have e := bits_mask .u32 32 (by decide) eb_wraps_u32 1 (by decide) (shr .u32 a b) hs.1 (by omega)
    rw [show (2 : Int) ^ 1 - 1 = 1 from rfl, show (2 : Int) ^ 1 = 2 from rfl] at e
    rw [e, Int.tmod_eq_emod_of_nonneg hs.1]
    simp

end Go.Proofs.Ythcboddeannjcaa.Pure
