/-
  THE WALKS, B: Valid (6).
-/
import Derived.Test.Qxb6002784aWalkA
namespace Go.Proofs.Qxb6002784a
open Go.RowKit

/-- A string's bytes as integers. -/
def ints (s : ByteArray) : List Int := s.data.toList.map fun b => (b.toNat : Int)

theorem ints_length (s : ByteArray) : (ints s).length = s.size := by simp [ints]

theorem ints_drop (s : ByteArray) (k : Nat) (h : k < s.size) : (ints s).drop k = (s[k].toNat : Int) :: (ints s).drop (k + 1) := by
  rw [List.drop_eq_getElem_cons (by rw [ints_length]; exact h)]
  simp [ints]
  rfl

theorem ints_drop_end (s : ByteArray) (k : Nat) (h : s.size ≤ k) : (ints s).drop k = [] := by
  rw [List.drop_eq_nil_iff, ints_length]; exact h

/-! The ways of one round of Valid, in the walk's own forms. -/
theorem way_sep {k : Nat} {c : Int} (h : k = 8 ∨ k = 13 ∨ k = 18 ∨ k = 23) :
    ((c != 45) = true ∧ Plain.vpos k c = false) ∨ ((c != 45) = false ∧ Plain.vpos k c = true) := by
  unfold Plain.vpos; rw [if_pos h]
  by_cases e : c = 45
  · right; simp [e]
  · left; simp [e]

theorem way_14 {c : Int} : ((c != 55) = true ∧ Plain.vpos 14 c = false) ∨ ((c != 55) = false ∧ Plain.vpos 14 c = true) := by
  by_cases e : c = 55
  · right; simp [e, Plain.vpos]
  · left; simp [e, Plain.vpos]

theorem way_19 {c : Int} :
    ((c != 56) = true ∧ (c != 57) = true ∧ (c != 97) = true ∧ (c != 98) = true ∧ Plain.vpos 19 c = false) ∨
    ((c != 56) = false ∧ Plain.vpos 19 c = true) ∨
    ((c != 56) = true ∧ (c != 57) = false ∧ Plain.vpos 19 c = true) ∨
    ((c != 56) = true ∧ (c != 57) = true ∧ (c != 97) = false ∧ Plain.vpos 19 c = true) ∨
    ((c != 56) = true ∧ (c != 57) = true ∧ (c != 97) = true ∧ (c != 98) = false ∧ Plain.vpos 19 c = true) := by
  simp only [bne_iff_ne, ne_eq, bne_eq_false_iff_eq]
  unfold Plain.vpos
  rw [if_neg (by omega), if_neg (by omega), if_pos rfl]
  simp only [decide_eq_true_eq, decide_eq_false_iff_not]
  omega

theorem way_else {k : Nat} {c : Int} (h : ¬ (k = 8 ∨ k = 13 ∨ k = 18 ∨ k = 23)) (h1 : k ≠ 14) (h2 : k ≠ 19) :
    (c < 48 ∧ Plain.vpos k c = false) ∨ ((48 ≤ c ∧ c ≤ 57) ∧ Plain.vpos k c = true) ∨ ((57 < c ∧ c < 97) ∧ Plain.vpos k c = false) ∨
    ((97 ≤ c ∧ c ≤ 102) ∧ Plain.vpos k c = true) ∨ (102 < c ∧ Plain.vpos k c = false) := by
  unfold Plain.vpos
  rw [if_neg h, if_neg h1, if_neg h2]
  simp only [decide_eq_true_eq, decide_eq_false_iff_not]
  omega

theorem no_at {k : Nat} {c : Int} {x y b : Bool} (h1 : x = y) (h2 : x = (Plain.vpos k c && b)) (h : Plain.vpos k c = false) : y = false := by
  rw [← h1, h2, h]; rfl

theorem on_at {k : Nat} {c : Int} {x y b : Bool} (h1 : x = y) (h2 : x = (Plain.vpos k c && b)) (h : Plain.vpos k c = true) : b = y := by
  rw [← h1, h2, h]; rfl

set_option maxHeartbeats 400000 in
theorem valid_short (s : ByteArray) (w : World) (h : ((s.size : Int) == 36) = false) :
    Calls Try.prog 6 #[.string s] w fun e w' => e = .returned (.bool (Plain.valid (ints s))) ∧ w' = w := by
  have HS : Hid (Plain.valid (ints s) = false) := by
    unfold Hid Plain.valid; rw [ints_length]
    have : ¬ s.size = 36 := by intro e; rw [e] at h; cases h
    simp [this]
  go_enter Try.func6, Try.ntmps6
  go_wp2
  go_ret
  rw [HS.out]
  exact ⟨rfl, rfl⟩

set_option maxHeartbeats 2000000 in
theorem valid_full (s : ByteArray) (w : World) (h : s.size = 36) :
    Calls Try.prog 6 #[.string s] w fun e w' => e = .returned (.bool (Plain.val 0 (ints s))) ∧ w' = w := by
  have hb : ((s.size : Int) != 36) = false := by rw [h]; rfl
  have hs1 : s.size ≤ 36 := by omega
  have hs2 : 36 ≤ s.size := by omega
  clear h
  go_enter Try.func6, Try.ntmps6
  go_wp2
  go_loop [10] (fun i => ∃ k : Nat, k ≤ 36 ∧ i = .int .i64 k ∧ Hid (Plain.val k ((ints s).drop k) = Plain.val 0 (ints s))) (fun i => 36 - (intOf i).toNat)
  case atStart => exact ⟨0, Nat.zero_le _, rfl, rfl⟩
  case round =>
    obtain ⟨k, hk, rfl, HV⟩ := hrel
    by_cases hlt : k < 36
    · have hlt' : k < s.size := by omega
      have HS : Hid (Plain.val k ((ints s).drop k) = (Plain.vpos k (s[k].toNat : Int) && Plain.val (k + 1) ((ints s).drop (k + 1)))) := by
        unfold Hid; rw [ints_drop s k hlt']; rfl
      by_cases hsep : k = 8 ∨ k = 13 ∨ k = 18 ∨ k = 23
      · rcases way_sep (c := (s[k].toNat : Int)) hsep with ⟨h1, hv⟩ | ⟨h1, hv⟩
        · have HF : Hid (Plain.val 0 (ints s) = false) := no_at HV.out HS.out hv
          clear HV HS hv
          rcases hsep with rfl | rfl | rfl | rfl
          all_goals
            go_wp2
            go_ret
            rw [HF.out]
            exact ⟨rfl, rfl⟩
        · have HF : Hid (Plain.val (k + 1) ((ints s).drop (k + 1)) = Plain.val 0 (ints s)) := on_at HV.out HS.out hv
          clear HV HS hv
          rcases hsep with rfl | rfl | rfl | rfl
          all_goals
            go_wp2
            go_round
            case rel => exact ⟨_, by omega, by go_num, HF⟩
            case measure => simp [intOf]
      · by_cases h14 : k = 14
        · subst h14
          clear hsep
          rcases way_14 (c := (s[14].toNat : Int)) with ⟨h1, hv⟩ | ⟨h1, hv⟩
          · have HF : Hid (Plain.val 0 (ints s) = false) := no_at HV.out HS.out hv
            clear HV HS hv
            go_wp2
            go_ret
            rw [HF.out]
            exact ⟨rfl, rfl⟩
          · have HF : Hid (Plain.val (14 + 1) ((ints s).drop (14 + 1)) = Plain.val 0 (ints s)) := on_at HV.out HS.out hv
            clear HV HS hv
            go_wp2
            go_round
            case rel => exact ⟨_, by omega, by go_num, HF⟩
            case measure => simp [intOf]
        · by_cases h19 : k = 19
          · subst h19
            clear hsep h14
            rcases way_19 (c := (s[19].toNat : Int)) with ⟨h1, h2, h3, h4, hv⟩ | ⟨h1, hv⟩ | ⟨h1, h2, hv⟩ | ⟨h1, h2, h3, hv⟩ | ⟨h1, h2, h3, h4, hv⟩
            · have HF : Hid (Plain.val 0 (ints s) = false) := no_at HV.out HS.out hv
              clear HV HS hv
              go_wp2
              go_ret
              rw [HF.out]
              exact ⟨rfl, rfl⟩
            all_goals
              have HF : Hid (Plain.val (19 + 1) ((ints s).drop (19 + 1)) = Plain.val 0 (ints s)) := on_at HV.out HS.out hv
              clear HV HS hv
              go_wp2
              go_round
              case rel => exact ⟨_, by omega, by go_num, HF⟩
              case measure => simp [intOf]
          · have b1 : ((k : Int) == 8) = false := beq_eq_false_iff_ne.2 (by omega)
            have b2 : ((k : Int) == 13) = false := beq_eq_false_iff_ne.2 (by omega)
            have b3 : ((k : Int) == 18) = false := beq_eq_false_iff_ne.2 (by omega)
            have b4 : ((k : Int) == 23) = false := beq_eq_false_iff_ne.2 (by omega)
            have b5 : ((k : Int) == 14) = false := beq_eq_false_iff_ne.2 (by omega)
            have b6 : ((k : Int) == 19) = false := beq_eq_false_iff_ne.2 (by omega)
            rcases way_else (c := (s[k].toNat : Int)) hsep h14 h19 with ⟨h1, hv⟩ | ⟨⟨h1, h2⟩, hv⟩ | ⟨⟨h1, h2⟩, hv⟩ | ⟨⟨h1, h2⟩, hv⟩ | ⟨h1, hv⟩
            · have HF : Hid (Plain.val 0 (ints s) = false) := no_at HV.out HS.out hv
              clear HV HS hv hsep h14 h19
              go_wp2
              go_ret
              rw [HF.out]
              exact ⟨rfl, rfl⟩
            · have HF : Hid (Plain.val (k + 1) ((ints s).drop (k + 1)) = Plain.val 0 (ints s)) := on_at HV.out HS.out hv
              clear HV HS hv hsep h14 h19
              go_wp2
              go_round
              case rel => exact ⟨_, by omega, by go_num, HF⟩
              case measure => simp [intOf]; omega
            · have HF : Hid (Plain.val 0 (ints s) = false) := no_at HV.out HS.out hv
              clear HV HS hv hsep h14 h19
              go_wp2
              go_ret
              rw [HF.out]
              exact ⟨rfl, rfl⟩
            · have HF : Hid (Plain.val (k + 1) ((ints s).drop (k + 1)) = Plain.val 0 (ints s)) := on_at HV.out HS.out hv
              clear HV HS hv hsep h14 h19
              go_wp2
              go_round
              case rel => exact ⟨_, by omega, by go_num, HF⟩
              case measure => simp [intOf]; omega
            · have HF : Hid (Plain.val 0 (ints s) = false) := no_at HV.out HS.out hv
              clear HV HS hv hsep h14 h19
              go_wp2
              go_ret
              rw [HF.out]
              exact ⟨rfl, rfl⟩
    · have HF : Hid (Plain.val 0 (ints s) = true) := by
        unfold Hid; rw [← HV.out, ints_drop_end s k (by omega)]; rfl
      clear HV
      go_wp2
      go_ret
      rw [HF.out]
      exact ⟨rfl, rfl⟩

/-- VALID's CONTRACT, for every string. -/
theorem valid_any (s : ByteArray) (w : World) :
    Calls Try.prog 6 #[.string s] w fun e w' => e = .returned (.bool (Plain.valid (ints s))) ∧ w' = w := by
  by_cases h : s.size = 36
  · have e : Plain.valid (ints s) = Plain.val 0 (ints s) := by unfold Plain.valid; rw [ints_length]; simp [h]
    rw [e]
    exact valid_full s w h
  · exact valid_short s w (beq_eq_false_iff_ne.2 (by omega))

end Go.Proofs.Qxb6002784a
