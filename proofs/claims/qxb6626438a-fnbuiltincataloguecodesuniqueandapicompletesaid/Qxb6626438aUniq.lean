/-
  Seat b6626438a: the law FnBuiltinCatalogueCodesUniqueAndAPIComplete, walked.
-/
import Derived.Test.Qxb6626438aCat
namespace Go.Proofs.Qxb6626438a
open Go.RowKit

/-! ### What the strings are -/
theorem code_eq : ∀ i, i < 9 → ∀ j, j < 9 → ((S (i * 4)).toList == (S (j * 4)).toList) = decide (i = j) := by
  simp only [ByteArray.toList_eq]
  decide
theorem not_empty : ∀ j, j < 36 → (S j).toList.isEmpty = false := by
  simp only [ByteArray.toList_eq]
  decide
theorem mod_profile : ∀ i, i < 9 → ((S (i * 4 + 3)).toList == [112, 114, 111, 102, 105, 108, 101]) = decide (i < 2) := by
  simp only [ByteArray.toList_eq]
  decide
theorem mod_rolebook : ∀ i, i < 9 → ((S (i * 4 + 3)).toList == [114, 111, 108, 101, 98, 111, 111, 107]) = decide (2 ≤ i) := by
  simp only [ByteArray.toList_eq]
  decide

theorem str_at' {w : World} {b : Nat} (h : w.rowIs b 25 36 C) {j : Nat} (hj : j < 36) : w.cell? ⟨b, j, none⟩ = some (.string (S j)) := h.cell hj

/-- apiCode: the k-th code of the API is entry k + 2's. -/
theorem api7 (k : Nat) (hk : k < 7) (w : World) : Calls Try.prog 7 #[.int .i64 (k : Nat)] w fun e w' => e = .returned (.string (S ((k + 2) * 4))) ∧ w' = w := by
  match k, hk with
  | 0, _ => go_enter Try.func7, Try.ntmps7; go_wp2; go_ret; exact ⟨rfl, rfl⟩
  | 1, _ => go_enter Try.func7, Try.ntmps7; go_wp2; go_ret; exact ⟨rfl, rfl⟩
  | 2, _ => go_enter Try.func7, Try.ntmps7; go_wp2; go_ret; exact ⟨rfl, rfl⟩
  | 3, _ => go_enter Try.func7, Try.ntmps7; go_wp2; go_ret; exact ⟨rfl, rfl⟩
  | 4, _ => go_enter Try.func7, Try.ntmps7; go_wp2; go_ret; exact ⟨rfl, rfl⟩
  | 5, _ => go_enter Try.func7, Try.ntmps7; go_wp2; go_ret; exact ⟨rfl, rfl⟩
  | 6, _ => go_enter Try.func7, Try.ntmps7; go_wp2; go_ret; exact ⟨rfl, rfl⟩

set_option maxHeartbeats 1000000 in
/-- isAPICode of entry i's code, i from 2 on: true. -/
theorem is6 (i : Nat) (h2 : 2 ≤ i) (h9 : i < 9) (w : World) : Calls Try.prog 6 #[.string (S (i * 4))] w fun e w' => e = .returned (.bool true) ∧ w' = w := by
  go_enter Try.func6, Try.ntmps6
  go_wp2
  go_loop [3] (fun t => ∃ k : Nat, k + 2 ≤ i ∧ t = .int .i64 k) (fun t => 9 - (intOf t).toNat)
  case atStart => exact ⟨0, h2, rfl⟩
  case round =>
    obtain ⟨k, hk, rfl⟩ := hrel
    have q := code_eq (k + 2) (by omega) i h9
    by_cases he : k + 2 = i
    · rw [decide_eq_true he] at q
      have HE : Hid (k + 2 = i) := he
      clear he
      go_wp2_with (go_at_call 7; refine (api7 k (by omega) _).mono ?_; rintro e w' ⟨rfl, rfl⟩)
      go_ret
      exact ⟨rfl, rfl⟩
    · rw [decide_eq_false he] at q
      have hlt : k + 2 < i := by omega
      clear he
      go_wp2_with (go_at_call 7; refine (api7 k (by omega) _).mono ?_; rintro e w' ⟨rfl, rfl⟩)
      go_round
      case rel => exact ⟨k + 1, by omega, by go_num⟩
      case measure => simp [intOf]; omega

/-- The catalogue, and the entry in hand in a block of its own. -/
def Inn (w wr : World) (N M : Nat) (x : ByteArray) : Prop := wr.rowIs N 25 36 C ∧ wr.cell? ⟨M, 0, none⟩ = some (.string x) ∧ Below N w wr ∧ N < wr.heap.size
theorem Inn.drewN {w wr : World} {N M : Nat} {x : ByteArray} (h : Inn w wr N M x) (q : Nat) : Inn w (wr.drewN q) N M x := by
  induction q with
  | zero => exact h
  | succ n ih => exact ⟨ih.1, ih.2.1, ih.2.2.1.drew, ih.2.2.2⟩
theorem inn_start {w wr : World} {N M : Nat} {x y z u : ByteArray} (h : wr.rowIs N 25 36 C) (hb : Below N w wr) (hM : wr.heap.size = M) (hN : N < wr.heap.size) : Inn w (wr.alloc (.cells #[.string x, .string y, .string z, .string u] 25)) N M x := by
  subst hM
  refine ⟨h.alloc _, ?_, hb.alloc (by omega) _, by simp; omega⟩
  have hr := World.rowIs_alloc wr #[.string x, .string y, .string z, .string u] 25 (fun j => (#[Value.string x, .string y, .string z, .string u] : Array Value).getD j (.bool false)) (fun j hj => by
    match j, hj with
    | 0, _ => rfl
    | 1, _ => rfl
    | 2, _ => rfl
    | 3, _ => rfl)
  exact hr.cell (i := 0) (by simp)

/-- How often entry m + 2 has been passed when i entries have. -/
def cnt (m i : Nat) : Nat := if m + 2 < i then 1 else 0
theorem cnt_zero (m : Nat) : cnt m 0 = 0 := by unfold cnt; rw [if_neg (by omega)]
theorem cnt_hit {m i : Nat} (h : i = m + 2) : cnt m i = 0 ∧ cnt m (i + 1) = 1 := by unfold cnt; exact ⟨by rw [if_neg (by omega)], by rw [if_pos (by omega)]⟩
theorem cnt_miss {m i : Nat} (h : i ≠ m + 2) : cnt m (i + 1) = cnt m i := by
  unfold cnt
  by_cases h2 : m + 2 < i
  · rw [if_pos h2, if_pos (by omega)]
  · rw [if_neg h2, if_neg (by omega)]
theorem cnt_le (m i : Nat) : cnt m i ≤ 1 := by unfold cnt; split <;> omega
theorem cnt_end {m i : Nat} (h : m + 2 < i) : cnt m i = 1 := by unfold cnt; rw [if_pos h]

theorem start_row (w : World) (N : Nat) (hN : w.heap.size = N) : (w.alloc (.cells catC 25)).rowIs N 25 36 C ∧ Below N w (w.alloc (.cells catC 25)) ∧ N < (w.alloc (.cells catC 25)).heap.size := by
  subst hN
  exact ⟨cat_row w, (Below.refl _ w).alloc (Nat.le_refl _) _, by simp⟩

set_option maxHeartbeats 2000000 in
set_option maxRecDepth 100000 in
theorem walk3 (w : World) : Calls Try.prog 3 #[] w fun e w' => e = .returned (.bool true) ∧ Below w.heap.size w w' := by
  obtain ⟨N, hN⟩ : ∃ N, w.heap.size = N := ⟨_, rfl⟩
  rw [hN]
  have h0 := start_row w N hN
  have H0 : Hid ((w.alloc (.cells catC 25)).rowIs N 25 36 C ∧ Below N w (w.alloc (.cells catC 25)) ∧ N < (w.alloc (.cells catC 25)).heap.size) := h0
  clear h0
  go_enter Try.func3, Try.ntmps3
  go_wp2_with (go_at_call 5; refine (bp5 _).mono ?_; rintro e w' ⟨rfl, rfl⟩)
  go_loopw [2, 3] (fun p i wr => ∃ k : Nat, k ≤ 9 ∧ i = .int .i64 k ∧ p = .int .i64 (min k 2 : Nat) ∧ wr.rowIs N 25 36 C ∧ Below N w wr ∧ N < wr.heap.size) (fun _ i _ => 9 - (intOf i).toNat)
  case atStart => exact ⟨0, Nat.zero_le _, rfl, rfl, H0.out⟩
  case round =>
    clear H0
    obtain ⟨k, hk, rfl, rfl, hrow, hbel, hNs⟩ := hrel
    by_cases hlt : k < 9
    · have a0 := str_at' hrow (j := k * 4) (by omega)
      have a1 := str_at' hrow (j := k * 4 + 1) (by omega)
      have a2 := str_at' hrow (j := k * 4 + 2) (by omega)
      have a3 := str_at' hrow (j := k * 4 + 3) (by omega)
      have n0 := not_empty (k * 4) (by omega)
      have n1 := not_empty (k * 4 + 1) (by omega)
      have n2 := not_empty (k * 4 + 2) (by omega)
      have mp := mod_profile k hlt
      have mr := mod_rolebook k hlt
      have HR : Hid (wr.rowIs N 25 36 C ∧ Below N w wr) := ⟨hrow, hbel⟩
      obtain ⟨M, hM⟩ : ∃ M, wr.heap.size = M := ⟨_, rfl⟩
      have HI : Hid (Inn w (wr.alloc (.cells #[.string (S (k * 4)), .string (S (k * 4 + 1)), .string (S (k * 4 + 2)), .string (S (k * 4 + 3))] 25)) N M (S (k * 4))) := inn_start hrow hbel hM hNs
      clear hrow hbel HR
      by_cases hk2 : k < 2
      · rw [decide_eq_true hk2] at mp
        go_wp2
        go_loopw [5] (fun t wr => ∃ j : Nat, k + 1 ≤ j ∧ j ≤ 9 ∧ t = .int .i64 j ∧ Inn w wr N M (S (k * 4))) (fun t _ => 9 - (intOf t).toNat)
        case atStart => exact ⟨k + 1, Nat.le_refl _, by omega, by go_num, HI.out⟩
        case round =>
          clear HI hM hNs
          obtain ⟨j, hj1, hj9, rfl, hin⟩ := hrel
          by_cases hjl : j < 9
          · have b0 := str_at' hin.1 (j := j * 4) (by omega)
            have c0 := hin.2.1
            have q := code_eq j hjl k hlt
            rw [decide_eq_false (by omega)] at q
            have HI : Hid (Inn w wr N M (S (k * 4))) := hin
            clear hin
            go_wp2
            go_quiet (fail)
            go_wp2
            go_roundw
            case rel => exact ⟨j + 1, by omega, by omega, by go_num, HI.out.drewN _⟩
            case measure => simp [intOf]; omega
          · have HI : Hid (Inn w wr N M (S (k * 4))) := hin
            clear hin
            go_wp2
            go_roundw
            case rel => exact ⟨k + 1, by omega, by go_num, by rw [show min (k + 1) 2 = min k 2 + 1 from by omega]; go_num, HI.out.1, HI.out.2.2.1, HI.out.2.2.2⟩
            case measure => simp [intOf]; omega
      · rw [decide_eq_false hk2] at mp
        rw [decide_eq_true (by omega)] at mr
        go_wp2_with (go_at_call 6; refine (is6 k (by omega) hlt _).mono ?_; rintro e w' ⟨rfl, rfl⟩)
        go_loopw [5] (fun t wr => ∃ j : Nat, k + 1 ≤ j ∧ j ≤ 9 ∧ t = .int .i64 j ∧ Inn w wr N M (S (k * 4))) (fun t _ => 9 - (intOf t).toNat)
        case atStart => exact ⟨k + 1, Nat.le_refl _, by omega, by go_num, HI.out⟩
        case round =>
          clear HI hM hNs
          obtain ⟨j, hj1, hj9, rfl, hin⟩ := hrel
          by_cases hjl : j < 9
          · have b0 := str_at' hin.1 (j := j * 4) (by omega)
            have c0 := hin.2.1
            have q := code_eq j hjl k hlt
            rw [decide_eq_false (by omega)] at q
            have HI : Hid (Inn w wr N M (S (k * 4))) := hin
            clear hin
            go_wp2
            go_quiet (fail)
            go_wp2
            go_roundw
            case rel => exact ⟨j + 1, by omega, by omega, by go_num, HI.out.drewN _⟩
            case measure => simp [intOf]; omega
          · have HI : Hid (Inn w wr N M (S (k * 4))) := hin
            clear hin
            go_wp2
            go_roundw
            case rel => exact ⟨k + 1, by omega, by go_num, by rw [show min (k + 1) 2 = min k 2 from by omega], HI.out.1, HI.out.2.2.1, HI.out.2.2.2⟩
            case measure => simp [intOf]; omega
    · have hmn : min k 2 = 2 := by omega
      rw [hmn]
      clear hmn
      go_wp2
      go_loop [6] (fun t => ∃ m : Nat, m ≤ 7 ∧ t = .int .i64 m) (fun t => 7 - (intOf t).toNat)
      case atStart => exact ⟨0, Nat.zero_le _, rfl⟩
      case round =>
        obtain ⟨m, hm, rfl⟩ := hrel
        by_cases hml : m < 7
        · go_wp2_with (go_at_call 7; refine (api7 m hml _).mono ?_; rintro e w' ⟨rfl, hw⟩; rw [hw]; clear hw)
          go_loop [8, 9] (fun n t => ∃ i : Nat, i ≤ 9 ∧ t = .int .i64 i ∧ n = .int .i64 (cnt m i : Nat)) (fun _ t => 9 - (intOf t).toNat)
          case atStart => exact ⟨0, Nat.zero_le _, rfl, by rw [cnt_zero]; rfl⟩
          case round =>
            obtain ⟨i, hi, rfl, rfl⟩ := hrel
            by_cases hil : i < 9
            · have b0 := str_at' hrow (j := i * 4) (by omega)
              have b3 := str_at' hrow (j := i * 4 + 3) (by omega)
              have q := code_eq i hil (m + 2) (by omega)
              by_cases he : i = m + 2
              · rw [decide_eq_true he] at q
                have mr := mod_rolebook i hil
                rw [decide_eq_true (by omega)] at mr
                obtain ⟨e1, e2⟩ := cnt_hit he
                rw [e1]
                have HE : Hid (cnt m (i + 1) = 1) := e2
                clear he e1 e2
                go_wp2
                go_round
                case rel => exact ⟨i + 1, by omega, by go_num, by rw [HE.out]; rfl⟩
                case measure => simp [intOf]; omega
              · rw [decide_eq_false he] at q
                have HE : Hid (cnt m (i + 1) = cnt m i) := cnt_miss he
                clear he
                go_wp2
                go_round
                case rel => exact ⟨i + 1, by omega, by go_num, by rw [HE.out]⟩
                case measure => simp [intOf]; omega
            · have e1 : cnt m i = 1 := cnt_end (by omega)
              rw [e1]
              clear e1
              go_wp2
              go_round
              case rel => exact ⟨m + 1, by omega, by go_num⟩
              case measure => simp [intOf]; omega
        · go_wp2
          go_ret
          exact ⟨rfl, hbel⟩
end Go.Proofs.Qxb6626438a
