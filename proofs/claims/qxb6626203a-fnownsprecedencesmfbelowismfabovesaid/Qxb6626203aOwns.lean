/-
  (Role).OwnsPrecedence, function 6, by its contract.
-/
import Derived.Test.Qxb6626203aRows
import Derived.WalkKit
namespace Go.Proofs.Qxb6626203a
open Go.RowKit

/-- What OwnsPrecedence answers. -/
def ownsB (s : ByteArray) (p : Int) : Bool := if s.toList == [115, 109, 102] then decide (p ≤ 65535) else if s.toList == [105, 45, 115, 109, 102] then decide (65535 < p) else false

theorem smf_yes (p : Int) (h : p ≤ 65535) : ownsB ⟨#[115, 109, 102]⟩ p = true := by
  have e : ((⟨#[115, 109, 102]⟩ : ByteArray).toList == [115, 109, 102]) = true := by decide +kernel
  unfold ownsB; rw [if_pos e]; simpa using h
theorem smf_no (p : Int) (h : 65535 < p) : ownsB ⟨#[115, 109, 102]⟩ p = false := by
  have e : ((⟨#[115, 109, 102]⟩ : ByteArray).toList == [115, 109, 102]) = true := by decide +kernel
  unfold ownsB; rw [if_pos e]; simpa using h
theorem ismf_yes (p : Int) (h : 65535 < p) : ownsB ⟨#[105, 45, 115, 109, 102]⟩ p = true := by
  have e0 : ¬ ((⟨#[105, 45, 115, 109, 102]⟩ : ByteArray).toList == [115, 109, 102]) = true := by decide +kernel
  have e : ((⟨#[105, 45, 115, 109, 102]⟩ : ByteArray).toList == [105, 45, 115, 109, 102]) = true := by decide +kernel
  unfold ownsB; rw [if_neg e0, if_pos e]; simpa using h
theorem ismf_no (p : Int) (h : p ≤ 65535) : ownsB ⟨#[105, 45, 115, 109, 102]⟩ p = false := by
  have e0 : ¬ ((⟨#[105, 45, 115, 109, 102]⟩ : ByteArray).toList == [115, 109, 102]) = true := by decide +kernel
  have e : ((⟨#[105, 45, 115, 109, 102]⟩ : ByteArray).toList == [105, 45, 115, 109, 102]) = true := by decide +kernel
  unfold ownsB; rw [if_neg e0, if_pos e]; simpa using h

theorem owns_any (s : ByteArray) (p : Int) (w : World) :
    Calls Try.prog 6 #[.string s, .int .u32 p] w fun e w' => e = .returned (.bool (ownsB s p)) ∧ w' = w := by
  by_cases h : (s.toList == [115, 109, 102]) = true
  · go_enter Try.func6, Try.ntmps6
    go_wp2
    go_ret
    exact ⟨by unfold ownsB; rw [if_pos h]; rfl, rfl⟩
  · have h' : (s.toList == [115, 109, 102]) = false := by simpa using h
    by_cases g : (s.toList == [105, 45, 115, 109, 102]) = true
    · go_enter Try.func6, Try.ntmps6
      go_wp2
      go_ret
      exact ⟨by unfold ownsB; rw [if_neg h, if_pos g]; rfl, rfl⟩
    · have g' : (s.toList == [105, 45, 115, 109, 102]) = false := by simpa using g
      go_enter Try.func6, Try.ntmps6
      go_wp2
      go_ret
      exact ⟨by unfold ownsB; rw [if_neg h, if_neg g]; rfl, rfl⟩
end Go.Proofs.Qxb6626203a
