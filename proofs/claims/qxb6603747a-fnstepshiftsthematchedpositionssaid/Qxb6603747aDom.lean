/-
  THE WALKS of zzGlobB1StepDomain and of the bound on lengths.
-/
import Derived.Test.Qxb6603747aRowF
namespace Go.Proofs.Qxb6603747a
open Go.RowKit

/-- What the domain's yes says. -/
def Dom (words : Int) (f : Nat → Nat) (len1 : Nat) (top : Int) (len3 : Nat) : Prop :=
  1 ≤ words ∧ words = len1 ∧ 0 ≤ top ∧ top < words ∧ words ≤ len3 ∧ ∀ j : Nat, top < j → (j : Int) < words → f j = 0

/-- Some answer, the world as it was, and what a yes says. -/
def Said (D : Prop) (w : World) (e : Ending) (w' : World) : Prop := ∃ b, e = .returned (.bool b) ∧ w' = w ∧ (b = true → D)
theorem Said.no {D : Prop} {w : World} : Said D w (.returned (.bool false)) w := ⟨false, rfl, rfl, fun h => by cases h⟩
theorem Said.yes {D : Prop} {w : World} (h : D) : Said D w (.returned (.bool true)) w := ⟨true, rfl, rfl, fun _ => h⟩

theorem bytes_any (words top : Int) (a1 a3 : Option Addr) (len1 cap1 len3 cap3 : Nat) (w : World) (h1 : len1 ≤ 9223372036854775807) (h3 : len3 ≤ 9223372036854775807) :
    Calls Try.prog 14 #[.int .i64 words, .slice a1 len1 cap1, .int .i64 top, .slice a3 len3 cap3] w fun e w' => ∃ b, e = .returned (.bool b) ∧ w' = w := by
  go_enter Try.func14, Try.ntmps14
  go_wp2
  all_goals
    go_ret
    exact ⟨_, rfl, rfl⟩

set_option maxHeartbeats 1000000 in
theorem dom_any (words top : Int) (a1 a3 : Option Addr) (len1 cap1 len3 cap3 : Nat) (f : Nat → Nat) (w : World) (h1 : len1 ≤ 131072) (h3 : len3 ≤ 131072)
    (hr : 1 ≤ len1 → ∃ b off, a1 = some ⟨b, off, none⟩ ∧ ∀ i, i < len1 → w.cell? ⟨b, off + i, none⟩ = some (.int .u64 (f i : Nat))) :
    Calls Try.prog 15 #[.int .i64 words, .slice a1 len1 cap1, .int .i64 top, .slice a3 len3 cap3] w fun e w' => Said (Dom words f len1 top len3) w e w' := by
  have HR := hid hr
  clear hr
  by_cases hw : words < 1
  · go_enter Try.func15, Try.ntmps15
    go_wp2
    go_ret
    exact Said.no
  by_cases he : words = len1
  · subst he
    have hb : (((len1 : Nat) : Int) != ((len1 : Nat) : Int)) = false := by simp
    by_cases ht : top < 0
    · go_enter Try.func15, Try.ntmps15
      go_wp2
      go_ret
      exact Said.no
    obtain ⟨t, rfl⟩ := Int.eq_ofNat_of_zero_le (by omega : 0 ≤ top)
    by_cases ht2 : len1 ≤ t
    · go_enter Try.func15, Try.ntmps15
      go_wp2
      go_ret
      exact Said.no
    by_cases hl : len3 < len1
    · go_enter Try.func15, Try.ntmps15
      go_wp2
      go_ret
      exact Said.no
    obtain ⟨b, off, rfl, hc⟩ := HR.out (by omega)
    have HC := hid hc
    clear hc HR
    go_enter Try.func15, Try.ntmps15
    go_wp2
    go_loop [9] (fun x => ∃ k : Nat, x = .int .i64 k ∧ t < k ∧ k ≤ len1 ∧ Hid (∀ j, t < j → j < k → f j = 0)) (fun x => len1 - (intOf x).toNat)
    case atStart => exact ⟨t + 1, by go_num, by omega, by omega, fun j h1 h2 => by omega⟩
    case round =>
      obtain ⟨k, rfl, hk1, hk2, HJ⟩ := hrel
      by_cases hlt : k < len1
      · have c1 := HC.out k hlt
        by_cases hz : f k = 0
        · have hz1 : ((f k : Int) != 0) = false := by rw [bne_eq_false_iff_eq]; omega
          have HZ := hid hz
          clear hz
          go_wp2
          go_round
          case rel => exact ⟨k + 1, by go_num, by omega, by omega, fun j h1 h2 => by
            by_cases e : j = k
            · rw [e]; exact HZ.out
            · exact HJ.out j h1 (by omega)⟩
          case measure => simp [intOf]; omega
        · have hz1 : ((f k : Int) != 0) = true := by rw [bne_iff_ne]; omega
          clear hz
          go_wp2
          go_ret
          exact Said.no
      · go_wp2
        go_ret
        exact Said.yes ⟨by omega, rfl, by omega, by omega, by omega, fun j h1 h2 => HJ.out j (by omega) (by omega)⟩
  · have hb : (words != ((len1 : Nat) : Int)) = true := by rw [bne_iff_ne]; exact he
    go_enter Try.func15, Try.ntmps15
    go_wp2
    go_ret
    exact Said.no
end Go.Proofs.Qxb6603747a
