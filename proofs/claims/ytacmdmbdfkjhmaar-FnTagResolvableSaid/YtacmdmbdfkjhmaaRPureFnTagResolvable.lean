/- For every text: the thin package tells that scalars with this tag are resolved just if the reference does. No further condition. -/
import Derived.Test.YtacmdmbdfkjhmaaRPFnTagResolvablex1
import Derived.Lib.Strings
namespace Go.Proofs.YtacmdmbdfkjhmaaR.Pure
open Go.RowKit Go.Proofs.YtacmdmbdfkjhmaaR.PFnTagResolvable Go.Proofs.YtacmdmbdfkjhmaaRW.PrintWords Go.Proofs.YtacmdmbdfkjhmaaRW.PrintLast

theorem FnTagResolvable : laws_FnTagResolvable.Pure := by
  intro a0 h0
  refine ⟨9, ?_⟩
  unfold laws_FnTagResolvable.f
  by_cases h : (a0.size : Int) > 2147483647
  · rw [if_pos h]
  · rw [if_neg h]
    have e0 : (⟨#[]⟩ : ByteArray).toList = [] := by rw [Lib.toList_data]
    have e1 : (⟨#[33, 33, 115, 116, 114]⟩ : ByteArray).toList = [33, 33, 115, 116, 114] := by rw [Lib.toList_data]
    have e2 : (⟨#[33, 33, 98, 111, 111, 108]⟩ : ByteArray).toList = [33, 33, 98, 111, 111, 108] := by rw [Lib.toList_data]
    have e3 : (⟨#[33, 33, 105, 110, 116]⟩ : ByteArray).toList = [33, 33, 105, 110, 116] := by rw [Lib.toList_data]
    have e4 : (⟨#[33, 33, 102, 108, 111, 97, 116]⟩ : ByteArray).toList = [33, 33, 102, 108, 111, 97, 116] := by rw [Lib.toList_data]
    have e5 : (⟨#[33, 33, 110, 117, 108, 108]⟩ : ByteArray).toList = [33, 33, 110, 117, 108, 108] := by rw [Lib.toList_data]
    have e6 : (⟨#[33, 33, 116, 105, 109, 101, 115, 116, 97, 109, 112]⟩ : ByteArray).toList = [33, 33, 116, 105, 109, 101, 115, 116, 97, 109, 112] := by rw [Lib.toList_data]
    unfold impl_Resolvable.f yaml_ZzResolvable.f yaml_resolvableTag.f spec_Resolves.f spec_oneOf.f
    simp only [spec_oneOf.l0, rdOf]
    generalize a0.toList = x
    by_cases h1 : x = []
    · simp [h1, e0]
    by_cases h2 : x = [33, 33, 115, 116, 114]
    · simp [h2, e0, e1, wrap64]
    by_cases h3 : x = [33, 33, 98, 111, 111, 108]
    · simp [h3, e0, e1, e2, wrap64]
    by_cases h4 : x = [33, 33, 105, 110, 116]
    · simp [h4, e0, e1, e2, e3, wrap64]
    by_cases h5 : x = [33, 33, 102, 108, 111, 97, 116]
    · simp [h5, e0, e1, e2, e3, e4, wrap64]
    by_cases h6 : x = [33, 33, 110, 117, 108, 108]
    · simp [h6, e0, e1, e2, e3, e4, e5, wrap64]
    by_cases h7 : x = [33, 33, 116, 105, 109, 101, 115, 116, 97, 109, 112]
    · simp [h7, e0, e1, e2, e3, e4, e5, e6, wrap64]
    · simp [h1, h2, h3, h4, h5, h6, h7, e0, e1, e2, e3, e4, e5, e6, wrap64]

end Go.Proofs.YtacmdmbdfkjhmaaR.Pure
