/-
  THE WALKS, C: zzModelV7 (7).
-/
import Derived.Test.Qxb6002784aWalkB
namespace Go.Proofs.Qxb6002784a
open Go.RowKit

/-- The model's two arrays in memory: block B holds the groups' lengths, block B + 1 their first bytes. -/
structure Mem (B : Nat) (L F : Nat → Int) (w : World) : Prop where
  len : ∀ j, j < 5 → w.cell? ⟨B, j, none⟩ = some (.int .i64 (L j))
  lenW : ∀ j, j < 5 → w.frozen? ⟨B, j, none⟩ = false
  fst : ∀ j, j < 5 → w.cell? ⟨B + 1, j, none⟩ = some (.int .u8 (F j))
  fstW : ∀ j, j < 5 → w.frozen? ⟨B + 1, j, none⟩ = false

/-- The numbers' bounds behind k rounds. -/
structure Bds (k : Nat) (L F : Nat → Int) : Prop where
  lo : ∀ j, 0 ≤ L j
  hi : ∀ j, L j ≤ k
  flo : ∀ j, 0 ≤ F j
  fhi : ∀ j, F j ≤ 255

def zz : Nat → Int := fun _ => 0

theorem five {j : Nat} (h : j < 5) : j = 0 ∨ j = 1 ∨ j = 2 ∨ j = 3 ∨ j = 4 := by omega

theorem mem_start (w : World) (a b : TypeId) :
    Mem w.heap.size zz zz ((w.alloc (.cells #[.int .i64 0, .int .i64 0, .int .i64 0, .int .i64 0, .int .i64 0] a)).alloc (.cells #[.int .u8 0, .int .u8 0, .int .u8 0, .int .u8 0, .int .u8 0] b)) where
  len := fun j h => by
    rw [World.cell?_alloc_past _ _ _ (by simp), World.cell?_alloc_at _ _ _ _ rfl]
    rcases five h with rfl | rfl | rfl | rfl | rfl <;> rfl
  lenW := fun j h => by
    rw [World.frozen?_alloc_past _ _ _ (by simp), World.frozen?_alloc_at _ _ _ _ rfl]
  fst := fun j h => by
    rw [World.cell?_alloc_at _ _ _ _ (by simp)]
    rcases five h with rfl | rfl | rfl | rfl | rfl <;> rfl
  fstW := fun j h => by
    rw [World.frozen?_alloc_at _ _ _ _ (by simp)]

theorem mem_len {B : Nat} {L F : Nat → Int} {w : World} (m : Mem B L F w) (g : Nat) (hg : g < 5) (v : Int) :
    Mem B (Plain.upd L g v) F (w.setCell ⟨B, g, none⟩ (.int .i64 v)) where
  len := fun j h => by
    by_cases e : j = g
    · subst e
      rw [World.cell?_setCell_same (h := m.len j h)]
      simp [Plain.upd]
    · have hne : (⟨B, g, none⟩ : Addr) ≠ ⟨B, j, none⟩ := fun he => e (by cases he; rfl)
      rw [World.cell?_setCell_other (h := hne), m.len j h, Plain.upd, if_neg e]
  lenW := fun j h => by rw [World.frozen?_setCell]; exact m.lenW j h
  fst := fun j h => by rw [World.cell?_setCell_other (h := by simp)]; exact m.fst j h
  fstW := fun j h => by rw [World.frozen?_setCell]; exact m.fstW j h

theorem mem_fst {B : Nat} {L F : Nat → Int} {w : World} (m : Mem B L F w) (g : Nat) (hg : g < 5) (v : Int) :
    Mem B L (Plain.upd F g v) (w.setCell ⟨B + 1, g, none⟩ (.int .u8 v)) where
  len := fun j h => by rw [World.cell?_setCell_other (h := by simp)]; exact m.len j h
  lenW := fun j h => by rw [World.frozen?_setCell]; exact m.lenW j h
  fst := fun j h => by
    by_cases e : j = g
    · subst e
      rw [World.cell?_setCell_same (h := m.fst j h)]
      simp [Plain.upd]
    · have hne : (⟨B + 1, g, none⟩ : Addr) ≠ ⟨B + 1, j, none⟩ := fun he => e (by cases he; rfl)
      rw [World.cell?_setCell_other (h := hne), m.fst j h, Plain.upd, if_neg e]
  fstW := fun j h => by rw [World.frozen?_setCell]; exact m.fstW j h

theorem bds_same {k : Nat} {L F : Nat → Int} (b : Bds k L F) : Bds (k + 1) L F := ⟨b.lo, fun j => by have := b.hi j; omega, b.flo, b.fhi⟩

theorem bds_len {k : Nat} {L F : Nat → Int} (b : Bds k L F) (g : Nat) : Bds (k + 1) (Plain.upd L g (L g + 1)) F :=
  ⟨fun j => by have := b.lo j; have := b.lo g; unfold Plain.upd; split <;> omega, fun j => by have := b.hi j; have := b.hi g; unfold Plain.upd; split <;> omega, b.flo, b.fhi⟩

theorem bds_fst {k : Nat} {L F : Nat → Int} (b : Bds k L F) (g : Nat) (c : Int) (h0 : 0 ≤ c) (h1 : c ≤ 255) : Bds k L (Plain.upd F g c) :=
  ⟨b.lo, b.hi, fun j => by have := b.flo j; unfold Plain.upd; split <;> omega, fun j => by have := b.fhi j; unfold Plain.upd; split <;> omega⟩

/-! The ways of one round, of the model's own function. -/
theorem st_over {c : Int} {t : List Int} {g : Nat} {L F : Nat → Int} {r : Bool} (h : Plain.mod (c :: t) g L F = r) (hc : c = 45) (hg : 4 < g + 1) : r = false := by
  rw [← h, Plain.mod, if_pos hc, if_pos hg]

theorem st_dash {c : Int} {t : List Int} {g : Nat} {L F : Nat → Int} {r : Bool} (h : Plain.mod (c :: t) g L F = r) (hc : c = 45) (hg : ¬ 4 < g + 1) : Plain.mod t (g + 1) L F = r := by
  rw [← h, Plain.mod, if_pos hc, if_neg hg]

theorem st_bad {c : Int} {t : List Int} {g : Nat} {L F : Nat → Int} {r : Bool} (h : Plain.mod (c :: t) g L F = r) (hc : ¬ c = 45) (hx : Plain.hexv c < 0) : r = false := by
  rw [← h, Plain.mod, if_neg hc, if_pos hx]

theorem st_first {c : Int} {t : List Int} {g : Nat} {L F : Nat → Int} {r : Bool} (h : Plain.mod (c :: t) g L F = r) (hc : ¬ c = 45) (hx : ¬ Plain.hexv c < 0) (hz : L g = 0) :
    Plain.mod t g (Plain.upd L g (L g + 1)) (Plain.upd F g c) = r := by
  rw [← h, Plain.mod, if_neg hc, if_neg hx, if_pos hz]

theorem st_next {c : Int} {t : List Int} {g : Nat} {L F : Nat → Int} {r : Bool} (h : Plain.mod (c :: t) g L F = r) (hc : ¬ c = 45) (hx : ¬ Plain.hexv c < 0) (hz : ¬ L g = 0) :
    Plain.mod t g (Plain.upd L g (L g + 1)) F = r := by
  rw [← h, Plain.mod, if_neg hc, if_neg hx, if_neg hz]

/-- The ways of the tests behind the loop. -/
theorem fin_ways {L F : Nat → Int} {r : Bool} (h : Plain.fin 4 L F = r) :
    ((L 0 != 8) = true ∧ Hid (r = false)) ∨
    ((L 0 != 8) = false ∧ (L 1 != 4) = true ∧ Hid (r = false)) ∨
    ((L 0 != 8) = false ∧ (L 1 != 4) = false ∧ (L 2 != 4) = true ∧ Hid (r = false)) ∨
    ((L 0 != 8) = false ∧ (L 1 != 4) = false ∧ (L 2 != 4) = false ∧ (L 3 != 4) = true ∧ Hid (r = false)) ∨
    ((L 0 != 8) = false ∧ (L 1 != 4) = false ∧ (L 2 != 4) = false ∧ (L 3 != 4) = false ∧ (L 4 != 12) = true ∧ Hid (r = false)) ∨
    ((L 0 != 8) = false ∧ (L 1 != 4) = false ∧ (L 2 != 4) = false ∧ (L 3 != 4) = false ∧ (L 4 != 12) = false ∧ (F 2 != 55) = true ∧ Hid (r = false)) ∨
    ((L 0 != 8) = false ∧ (L 1 != 4) = false ∧ (L 2 != 4) = false ∧ (L 3 != 4) = false ∧ (L 4 != 12) = false ∧ (F 2 != 55) = false ∧ Hid (r = (Plain.hexv (F 3) / 4 == 2))) := by
  unfold Hid
  subst h
  simp only [bne_iff_ne, ne_eq, bne_eq_false_iff_eq]
  by_cases a0 : L 0 = 8
  · by_cases a1 : L 1 = 4
    · by_cases a2 : L 2 = 4
      · by_cases a3 : L 3 = 4
        · by_cases a4 : L 4 = 12
          · by_cases a5 : F 2 = 55
            · simp [Plain.fin, a0, a1, a2, a3, a4, a5]; rfl
            · simp [Plain.fin, a0, a1, a2, a3, a4, a5]
          · simp [Plain.fin, a0, a1, a2, a3, a4]
        · simp [Plain.fin, a0, a1, a2, a3]
      · simp [Plain.fin, a0, a1, a2]
    · simp [Plain.fin, a0, a1]
  · simp [Plain.fin, a0]

set_option maxHeartbeats 2000000 in
theorem model_core (s : ByteArray) (w : World) (hs : s.size ≤ maxLen) (r : Bool) (HR : Hid (Plain.mod (ints s) 0 zz zz = r)) :
    Calls Try.prog 7 #[.string s] w fun e w' => e = .returned (.bool r) ∧ Grown w w' := by
  unfold maxLen at hs
  have HM0 := mem_start w 28 29
  have HM1 : Hid (Mem w.heap.size zz zz ((w.alloc (.cells #[.int .i64 0, .int .i64 0, .int .i64 0, .int .i64 0, .int .i64 0] 28)).alloc (.cells #[.int .u8 0, .int .u8 0, .int .u8 0, .int .u8 0, .int .u8 0] 29))) := HM0
  clear HM0
  go_enter Try.func7, Try.ntmps7
  go_wp2
  go_loopw [5, 6] (fun gv iv wr => ∃ (k g : Nat) (L F : Nat → Int), k ≤ s.size ∧ g ≤ 4 ∧ gv = .int .i64 g ∧ iv = .int .i64 k ∧ Hid (Mem w.heap.size L F wr) ∧ Hid (Grown w wr) ∧ Hid (Bds k L F) ∧ Hid (Plain.mod ((ints s).drop k) g L F = r)) (fun _ iv _ => s.size - (intOf iv).toNat)
  case atStart => exact ⟨0, 0, zz, zz, Nat.zero_le _, Nat.zero_le _, rfl, rfl, HM1, ((Grown.refl _).alloc _ _).alloc _ _, ⟨fun _ => Int.le_refl _, fun _ => Int.le_refl _, fun _ => Int.le_refl _, fun _ => (by decide : (0 : Int) ≤ 255)⟩, HR⟩
  case round =>
    obtain ⟨k, g, L, F, hk, hg, rfl, rfl, HM, HG, HB, HV⟩ := hrel
    clear HM1 HR
    by_cases hlt : k < s.size
    · have HS := HV
      rw [Hid, ints_drop s k hlt] at HS
      have HS2 : Hid (Plain.mod ((s[k].toNat : Int) :: (ints s).drop (k + 1)) g L F = r) := HS
      clear HS HV
      by_cases hc : (s[k].toNat : Int) = 45
      · have hcb : ((s[k].toNat : Int) == 45) = true := beq_iff_eq.2 hc
        by_cases hg4 : 4 < g + 1
        · have HF : Hid (r = false) := st_over HS2.out hc hg4
          have hg4' : (4 : Int) < (g : Int) + 1 := by omega
          clear hc HS2 hg4
          go_wp2
          go_ret
          rw [HF.out]
          exact ⟨rfl, HG⟩
        · have HF : Hid (Plain.mod ((ints s).drop (k + 1)) (g + 1) L F = r) := st_dash HS2.out hc hg4
          have hg4' : (g : Int) + 1 ≤ (4 : Int) := by omega
          clear hc HS2 hg4
          go_wp2
          go_roundw
          case rel => exact ⟨k + 1, g + 1, L, F, by omega, by omega, by go_num, by go_num, HM, HG, bds_same HB, HF⟩
          case measure => simp [intOf]; omega
      · have hcb : ((s[k].toNat : Int) == 45) = false := beq_eq_false_iff_ne.2 hc
        have hc0 : (0 : Int) ≤ (s[k].toNat : Int) := by omega
        have hc1 : (s[k].toNat : Int) ≤ 255 := by have := s[k].toNat_lt; omega
        by_cases hx : Plain.hexv (s[k].toNat : Int) < 0
        · have HF : Hid (r = false) := st_bad HS2.out hc hx
          clear hc HS2
          go_wp2_with (go_at_call 9; refine (hex_any _ _ (by assumption) (by assumption)).mono ?_; rintro e w1 ⟨rfl, rfl⟩)
          go_ret
          rw [HF.out]
          exact ⟨rfl, HG⟩
        · have h1 := HM.out.len g (by omega)
          have h2 := HM.out.lenW g (by omega)
          have h3 := HM.out.fst g (by omega)
          have h4 := HM.out.fstW g (by omega)
          have h5 := HB.out.lo g
          have h6 := HB.out.hi g
          by_cases hz : L g = 0
          · have hzb : (L g == 0) = true := beq_iff_eq.2 hz
            have HF : Hid (Plain.mod ((ints s).drop (k + 1)) g (Plain.upd L g (L g + 1)) (Plain.upd F g (s[k].toNat : Int)) = r) := st_first HS2.out hc hx hz
            clear hc HS2 hz
            go_wp2_with (go_at_call 9; refine (hex_any _ _ (by assumption) (by assumption)).mono ?_; rintro e w1 ⟨rfl, rfl⟩)
            go_roundw
            case rel => exact ⟨k + 1, g, _, _, by omega, by omega, rfl, by go_num, mem_len (mem_fst HM.out g (by omega) _) g (by omega) _, (HG.out.setCell (Nat.le_succ _) _).setCell (Nat.le_refl _) _, bds_len (bds_fst HB.out g _ hc0 hc1) g, HF⟩
            case measure => simp [intOf]; omega
          · have hzb : (L g == 0) = false := beq_eq_false_iff_ne.2 hz
            have HF : Hid (Plain.mod ((ints s).drop (k + 1)) g (Plain.upd L g (L g + 1)) F = r) := st_next HS2.out hc hx hz
            clear hc HS2 hz
            go_wp2_with (go_at_call 9; refine (hex_any _ _ (by assumption) (by assumption)).mono ?_; rintro e w1 ⟨rfl, rfl⟩)
            go_roundw
            case rel => exact ⟨k + 1, g, _, _, by omega, by omega, rfl, by go_num, mem_len HM.out g (by omega) _, HG.out.setCell (Nat.le_refl _) _, bds_len HB.out g, HF⟩
            case measure => simp [intOf]; omega
    · have HS : Hid (Plain.fin g L F = r) := by
        unfold Hid; rw [← HV.out, ints_drop_end s k (by omega)]; rfl
      clear HV
      by_cases hg4 : g = 4
      · subst hg4
        have l0 := HM.out.len 0 (by omega)
        have l1 := HM.out.len 1 (by omega)
        have l2 := HM.out.len 2 (by omega)
        have l3 := HM.out.len 3 (by omega)
        have l4 := HM.out.len 4 (by omega)
        have f2 := HM.out.fst 2 (by omega)
        have f3 := HM.out.fst 3 (by omega)
        have f3a := HB.out.flo 3
        have f3b := HB.out.fhi 3
        rcases fin_ways HS.out with ⟨h0, HF⟩ | ⟨h0, h1, HF⟩ | ⟨h0, h1, h2, HF⟩ | ⟨h0, h1, h2, h3, HF⟩ | ⟨h0, h1, h2, h3, h4, HF⟩ | ⟨h0, h1, h2, h3, h4, h5, HF⟩ | ⟨h0, h1, h2, h3, h4, h5, HF⟩
        · clear HS
          go_wp2
          go_ret
          rw [HF.out]
          exact ⟨rfl, HG⟩
        · clear HS
          go_wp2
          go_ret
          rw [HF.out]
          exact ⟨rfl, HG⟩
        · clear HS
          go_wp2
          go_ret
          rw [HF.out]
          exact ⟨rfl, HG⟩
        · clear HS
          go_wp2
          go_ret
          rw [HF.out]
          exact ⟨rfl, HG⟩
        · clear HS
          go_wp2
          go_ret
          rw [HF.out]
          exact ⟨rfl, HG⟩
        · clear HS
          go_wp2
          go_ret
          rw [HF.out]
          exact ⟨rfl, HG⟩
        · clear HS
          go_wp2_with (go_at_call 9; refine (hex_any _ _ (by assumption) (by assumption)).mono ?_; rintro e w1 ⟨rfl, rfl⟩)
          go_ret
          rw [HF.out]
          exact ⟨rfl, HG⟩
      · have HF : Hid (r = false) := by
          unfold Hid; rw [← HS.out]; simp [Plain.fin, hg4]
        have hgb : ((g : Int) != 4) = true := by rw [bne_iff_ne]; omega
        clear HS hg4
        go_wp2
        go_ret
        rw [HF.out]
        exact ⟨rfl, HG⟩

/-- ZZMODELV7's CONTRACT, for every string: it answers as Valid does. -/
theorem model_any (s : ByteArray) (w : World) (hs : s.size ≤ maxLen) :
    Calls Try.prog 7 #[.string s] w fun e w' => e = .returned (.bool (Plain.valid (ints s))) ∧ Grown w w' :=
  model_core s w hs _ (Plain.mod_eq_valid (ints s))

end Go.Proofs.Qxb6002784a
