/-
  The bounds that the two laws lay first, functions 5 and 9, by their contracts.
-/
import Derived.Test.Qxb6626291aWalks
namespace Go.Proofs.Qxb6626291a
open Go.RowKit

/-- The bound's answer: a bool, which says true only if the lengths sum to at most 2^20. -/
def Zz (e : Ending) (m : Nat) : Prop := ∃ t : Bool, e = .returned (.bool t) ∧ (t = true → m ≤ 1048576)
theorem Zz.no {m : Nat} : Zz (.returned (.bool false)) m := ⟨false, rfl, by simp⟩
theorem Zz.yes {m : Nat} (h : m ≤ 1048576) : Zz (.returned (.bool true)) m := ⟨true, rfl, fun _ => h⟩

def Lx (Sx : Nat → ByteArray) (i : Nat) : Nat := (Sx i).size

theorem zz5 (ao : Option Addr) (n cap : Nat) (Sx : Nat → ByteArray) (x : Int) (nm : ByteArray) (w : World) (h : StrsAt w ao n Sx) (hn : n ≤ 9223372036854775807) (hl : ∀ i, i < n → Lx Sx i ≤ 9223372036854775807) (hnm : nm.size ≤ 9223372036854775807) :
    Calls Try.prog 5 #[.slice ao n cap, .int .i64 x, .string nm] w fun e w' => Zz e (n + S (Lx Sx) n + nm.size) ∧ w' = w := by
  by_cases h1 : (n : Int) ≤ 1048576
  · go_enter Try.func5, Try.ntmps5
    go_wp2
    go_loop [7, 8] (fun t i => ∃ k : Nat, k ≤ n ∧ i = .int .i64 k ∧ t = .int .i64 (n + S (Lx Sx) k : Nat) ∧ n + S (Lx Sx) k ≤ 1048576) (fun _ i => n - (intOf i).toNat)
    case atStart => exact ⟨0, Nat.zero_le _, rfl, by simp [S], by simp [S]; omega⟩
    case round =>
      obtain ⟨k, hk, rfl, rfl, hs⟩ := hrel
      by_cases hlt : k < n
      · obtain ⟨b, off, rfl, hc⟩ := h.open (by omega)
        have hck := hc k hlt
        have hlk := hl k hlt
        clear hc h hl
        obtain ⟨l, hle⟩ : ∃ l, l = Lx Sx k := ⟨_, rfl⟩
        have hsz : (Sx k).size = l := hle.symm
        have HS : Hid (S (Lx Sx) (k + 1) = S (Lx Sx) k + l) := by rw [hle]; exact S_succ _ _
        rw [← hle] at hlk
        clear hle
        by_cases g1 : (l : Int) ≤ 1048576
        · by_cases g2 : n + S (Lx Sx) k + l ≤ 1048576
          · go_wp2
            go_round
            case rel => exact ⟨k + 1, by omega, by go_num, by rw [HS.out]; go_num, by rw [HS.out]; omega⟩
            case measure => simp [intOf]; omega
          · go_wp2
            go_ret
            exact ⟨Zz.no, rfl⟩
        · go_wp2
          go_ret
          exact ⟨Zz.no, rfl⟩
      · have e : k = n := by omega
        subst e
        clear h hl
        by_cases gnm : (nm.size : Int) ≤ 1048576
        rotate_left
        · go_wp2
          go_ret
          exact ⟨Zz.no, rfl⟩
        by_cases fnm : k + S (Lx Sx) k + nm.size ≤ 1048576
        rotate_left
        · go_wp2
          go_ret
          exact ⟨Zz.no, rfl⟩
        go_wp2
        go_ret
        exact ⟨Zz.yes (by omega), rfl⟩
  · go_enter Try.func5, Try.ntmps5
    go_wp2
    go_ret
    exact ⟨Zz.no, rfl⟩

theorem zz9 (ao : Option Addr) (n cap : Nat) (Sx : Nat → ByteArray) (nm ex : ByteArray) (w : World) (h : StrsAt w ao n Sx) (hn : n ≤ 9223372036854775807) (hl : ∀ i, i < n → Lx Sx i ≤ 9223372036854775807) (hnm : nm.size ≤ 9223372036854775807) (hex : ex.size ≤ 9223372036854775807) :
    Calls Try.prog 9 #[.slice ao n cap, .string nm, .string ex] w fun e w' => Zz e (n + S (Lx Sx) n + nm.size + ex.size) ∧ w' = w := by
  by_cases h1 : (n : Int) ≤ 1048576
  · go_enter Try.func9, Try.ntmps9
    go_wp2
    go_loop [7, 8] (fun t i => ∃ k : Nat, k ≤ n ∧ i = .int .i64 k ∧ t = .int .i64 (n + S (Lx Sx) k : Nat) ∧ n + S (Lx Sx) k ≤ 1048576) (fun _ i => n - (intOf i).toNat)
    case atStart => exact ⟨0, Nat.zero_le _, rfl, by simp [S], by simp [S]; omega⟩
    case round =>
      obtain ⟨k, hk, rfl, rfl, hs⟩ := hrel
      by_cases hlt : k < n
      · obtain ⟨b, off, rfl, hc⟩ := h.open (by omega)
        have hck := hc k hlt
        have hlk := hl k hlt
        clear hc h hl
        obtain ⟨l, hle⟩ : ∃ l, l = Lx Sx k := ⟨_, rfl⟩
        have hsz : (Sx k).size = l := hle.symm
        have HS : Hid (S (Lx Sx) (k + 1) = S (Lx Sx) k + l) := by rw [hle]; exact S_succ _ _
        rw [← hle] at hlk
        clear hle
        by_cases g1 : (l : Int) ≤ 1048576
        · by_cases g2 : n + S (Lx Sx) k + l ≤ 1048576
          · go_wp2
            go_round
            case rel => exact ⟨k + 1, by omega, by go_num, by rw [HS.out]; go_num, by rw [HS.out]; omega⟩
            case measure => simp [intOf]; omega
          · go_wp2
            go_ret
            exact ⟨Zz.no, rfl⟩
        · go_wp2
          go_ret
          exact ⟨Zz.no, rfl⟩
      · have e : k = n := by omega
        subst e
        clear h hl
        by_cases gnm : (nm.size : Int) ≤ 1048576
        rotate_left
        · go_wp2
          go_ret
          exact ⟨Zz.no, rfl⟩
        by_cases fnm : k + S (Lx Sx) k + nm.size ≤ 1048576
        rotate_left
        · go_wp2
          go_ret
          exact ⟨Zz.no, rfl⟩
        by_cases gex : (ex.size : Int) ≤ 1048576
        rotate_left
        · go_wp2
          go_ret
          exact ⟨Zz.no, rfl⟩
        by_cases fex : k + S (Lx Sx) k + nm.size + ex.size ≤ 1048576
        rotate_left
        · go_wp2
          go_ret
          exact ⟨Zz.no, rfl⟩
        go_wp2
        go_ret
        exact ⟨Zz.yes (by omega), rfl⟩
  · go_enter Try.func9, Try.ntmps9
    go_wp2
    go_ret
    exact ⟨Zz.no, rfl⟩
end Go.Proofs.Qxb6626291a
