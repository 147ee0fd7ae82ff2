/-
  THE WALKS, A: zzHexVal (9), zzBytes (5), Valid (6).
-/
import Derived.Test.Qxb6002784aRows
import Derived.Test.Qxb6002784aPlain
import Derived.WalkKit
import Derived.WalkSpells
namespace Go.Proofs.Qxb6002784a
open Go.RowKit

theorem ret_int {k : IntKind} {a b : Int} (h : a = b) : Ending.returned (.int k a) = .returned (.int k b) := by rw [h]

set_option maxHeartbeats 400000 in
theorem hex_any (c : Int) (w : World) (h0 : 0 ≤ c) (h1 : c ≤ 255) :
    Calls Try.prog 9 #[.int .u8 c] w fun e w' => e = .returned (.int .i64 (Plain.hexv c)) ∧ w' = w := by
  by_cases a : 48 ≤ c ∧ c ≤ 57
  · have HS : Hid (Plain.hexv c = c - 48) := by unfold Hid Plain.hexv; rw [if_pos a]
    obtain ⟨a1, a2⟩ := a
    go_enter Try.func9, Try.ntmps9
    go_wp2
    go_ret
    exact ⟨ret_int HS.out.symm, rfl⟩
  · by_cases b : 97 ≤ c ∧ c ≤ 102
    · have HS : Hid (Plain.hexv c = c - 97 + 10) := by unfold Hid Plain.hexv; rw [if_neg a, if_pos b]
      obtain ⟨b1, b2⟩ := b
      clear a
      go_enter Try.func9, Try.ntmps9
      go_wp2
      go_ret
      exact ⟨ret_int HS.out.symm, rfl⟩
    · have HS : Hid (Plain.hexv c = -1) := by unfold Hid Plain.hexv; rw [if_neg a, if_neg b]
      have a' : c < 48 ∨ 57 < c := by omega
      have b' : c < 97 ∨ 102 < c := by omega
      clear a b
      rcases a' with a' | a'
      · clear b'
        go_enter Try.func9, Try.ntmps9
        go_wp2
        go_ret
        exact ⟨ret_int HS.out.symm, rfl⟩
      · rcases b' with b' | b'
        · go_enter Try.func9, Try.ntmps9
          go_wp2
          go_ret
          exact ⟨ret_int HS.out.symm, rfl⟩
        · go_enter Try.func9, Try.ntmps9
          go_wp2
          go_ret
          exact ⟨ret_int HS.out.symm, rfl⟩

set_option maxHeartbeats 400000 in
theorem bytes_small (s : ByteArray) (w : World) (h : s.size ≤ 1048576) :
    Calls Try.prog 5 #[.string s] w fun e w' => e = .returned (.bool true) ∧ w' = w := by
  go_enter Try.func5, Try.ntmps5
  go_wp2
  go_ret
  exact ⟨rfl, rfl⟩

set_option maxHeartbeats 400000 in
theorem bytes_great (s : ByteArray) (w : World) (h : 1048576 < s.size) :
    Calls Try.prog 5 #[.string s] w fun e w' => e = .returned (.bool false) ∧ w' = w := by
  go_enter Try.func5, Try.ntmps5
  go_wp2
  go_ret
  exact ⟨rfl, rfl⟩

end Go.Proofs.Qxb6002784a
