/-
  Seat b6626330a: (*longLine).search, .locate, .at.
-/
import Derived.Test.Qxb6626330aW6
namespace Go.Proofs.Qxb6626330a
open Go.RowKit

theorem below_setL {B : Nat} {w : World} {L : Nat} (h : B ≤ L) (j : Nat) (v : Value) : Below B w (w.setCell ⟨L, j, none⟩ v) := (Below.refl _ _).setCell h v

theorem below_drewN' {B : Nat} {a w : World} (h : Below B a w) (q : Nat) : Below B a (w.drewN q) := by
  induction q with
  | zero => exact h
  | succ n ih => exact ih.drew

theorem LL.drewN {w : World} {L : Nat} {ps : List (List Int)} {en rd : Nat} (h : LL w L ps en rd) (q : Nat) : LL (w.drewN q) L ps en rd := h.keep (below_drewN w q)

set_option maxHeartbeats 2000000 in
/-- search: offset x lies in block k; k is remembered. -/
theorem search23 (L : Nat) (ps : List (List Int)) (en rd x : Nat) (w : World) (hN : ps.length ≤ 1048577) (hT : pre ps ps.length ≤ 1048576) (hf : Full ps) (hl : LL w L ps en rd) (hr : rd < ps.length) (hx : x < pre ps ps.length) (_hno : ¬ In ps x rd) :
    Calls Try.prog 23 #[.pointer (some ⟨L, 0, none⟩), .int .i64 (x : Nat)] w fun e w' => ∃ k q : Nat, In ps x k ∧ e = .returned (.tuple #[.int .i64 (k : Nat), .int .i64 ((x : Int) - (pre ps k : Nat))]) ∧ w' = (w.setCell ⟨L, 4, none⟩ (.int .i64 (k : Nat))).drewN q := by
  obtain ⟨ab, cb, s, cs, k0, k1, k2, k3, k4, hblk, hsL, hc, hfz, hLs⟩ := hl.cells
  have hfz4 := hfz 4
  have hxb : x ≤ 1048576 := by omega
  have HC : Hid (∀ j, j ≤ ps.length → w.cell? ⟨s, j, none⟩ = some (.int .i64 (pre ps j : Nat))) := hc
  have HF : Hid (Full ps) := hf
  have HM : Hid (∀ i j, i ≤ j → j ≤ ps.length → pre ps i ≤ pre ps j) := pre_mono ps
  have HX : Hid (x < pre ps ps.length) := hx
  have HL : Hid (LL w L ps en rd) := hl
  clear hf hl hfz hblk hx hc
  have hset : ∀ k j : Nat, j ≤ ps.length → (w.setCell ⟨L, 4, none⟩ (.int .i64 (k : Nat))).cell? ⟨s, j, none⟩ = some (.int .i64 (pre ps j : Nat)) := fun k j hj =>
    (World.cell?_of_block (w := w) (Below.heap_setCell _ _ _ _ hsL)).trans (HC.out j hj)
  have HSET : Hid (∀ k j : Nat, j ≤ ps.length → (w.setCell ⟨L, 4, none⟩ (.int .i64 (k : Nat))).cell? ⟨s, j, none⟩ = some (.int .i64 (pre ps j : Nat))) := hset
  clear hset
  have hcase : rd + 1 = ps.length ∨ (rd + 1 < ps.length ∧ x < pre ps (rd + 1)) ∨ (rd + 1 < ps.length ∧ pre ps (rd + 1) ≤ x ∧ pre ps (rd + 2) ≤ x) ∨ (rd + 1 < ps.length ∧ pre ps (rd + 1) ≤ x ∧ x < pre ps (rd + 2)) := by omega
  rcases hcase with h | ⟨h, h1⟩ | ⟨h, h1, h2⟩ | ⟨h, h1, h2⟩
  · have e1 : (((rd : Int) + 1) == (ps.length : Int)) = true := by simp; omega
    go_enter Try.func23, Try.ntmps23
    go_wp2_with fail
    refine (bs24 s cs ps.length (pre ps) x w hN HC.out HM.out HX.out).mono ?_
    rintro e w1 ⟨⟨lo, hlo, ht, hxl, rfl⟩, rfl⟩
    obtain ⟨hin1, hin2⟩ := in_of_bs HF.out HX.out hlo ht hxl
    clear ht
    by_cases hq : pre ps lo = x
    · have hin := hin1 hq
      have hd : decide (pre ps lo = x) = true := decide_eq_true hq
      rw [hd]
      have HI : Hid (In ps x lo) := hin
      have g := HSET.out lo lo hlo
      have hlt : lo < ps.length := hin.1
      have hpb := HM.out lo ps.length hlo (Nat.le_refl _)
      obtain ⟨y, hy⟩ : ∃ y, pre ps lo = y := ⟨_, rfl⟩
      rw [hy] at g hpb
      have HY : Hid (pre ps lo = y) := hy
      clear hd hin1 hin2 hq hin hy hxl
      go_wp2
      go_quiet (fail)
      go_wp2
      go_ret2
      refine ⟨lo, _, HI.out, ?_, rfl⟩
      rw [HY.out]
      rfl
    · obtain ⟨hlo1, hin⟩ := hin2 hq
      have hd : decide (pre ps lo = x) = false := decide_eq_false hq
      rw [hd]
      obtain ⟨k, rfl⟩ : ∃ k, lo = k + 1 := ⟨lo - 1, by omega⟩
      rw [Nat.add_sub_cancel] at hin
      have HI : Hid (In ps x k) := hin
      have g := HSET.out k k (by omega)
      have hlt : k < ps.length := hin.1
      have hpb := HM.out k ps.length (by omega) (Nat.le_refl _)
      obtain ⟨y, hy⟩ : ∃ y, pre ps k = y := ⟨_, rfl⟩
      rw [hy] at g hpb
      have HY : Hid (pre ps k = y) := hy
      clear hd hin1 hin2 hq hin hy hxl
      go_wp2
      go_quiet (fail)
      go_wp2
      go_ret2
      refine ⟨k, _, HI.out, ?_, rfl⟩
      rw [HY.out]
      rfl
  · have e1 : (((rd : Int) + 1) == (ps.length : Int)) = false := beq_false_of_ne (by omega)
    have g1 := HC.out (rd + 1) (by omega)
    have hd1 : decide ((x : Int) < ((pre ps (rd + 1) : Nat) : Int)) = true := decide_eq_true (by omega)
    go_enter Try.func23, Try.ntmps23
    go_wp2_with fail
    refine (bs24 s cs ps.length (pre ps) x w hN HC.out HM.out HX.out).mono ?_
    rintro e w1 ⟨⟨lo, hlo, ht, hxl, rfl⟩, rfl⟩
    obtain ⟨hin1, hin2⟩ := in_of_bs HF.out HX.out hlo ht hxl
    clear ht
    by_cases hq : pre ps lo = x
    · have hin := hin1 hq
      have hd : decide (pre ps lo = x) = true := decide_eq_true hq
      rw [hd]
      have HI : Hid (In ps x lo) := hin
      have g := HSET.out lo lo hlo
      have hlt : lo < ps.length := hin.1
      have hpb := HM.out lo ps.length hlo (Nat.le_refl _)
      obtain ⟨y, hy⟩ : ∃ y, pre ps lo = y := ⟨_, rfl⟩
      rw [hy] at g hpb
      have HY : Hid (pre ps lo = y) := hy
      clear hd hin1 hin2 hq hin hy hxl
      go_wp2
      go_quiet (fail)
      go_wp2
      go_ret2
      refine ⟨lo, _, HI.out, ?_, rfl⟩
      rw [HY.out]
      rfl
    · obtain ⟨hlo1, hin⟩ := hin2 hq
      have hd : decide (pre ps lo = x) = false := decide_eq_false hq
      rw [hd]
      obtain ⟨k, rfl⟩ : ∃ k, lo = k + 1 := ⟨lo - 1, by omega⟩
      rw [Nat.add_sub_cancel] at hin
      have HI : Hid (In ps x k) := hin
      have g := HSET.out k k (by omega)
      have hlt : k < ps.length := hin.1
      have hpb := HM.out k ps.length (by omega) (Nat.le_refl _)
      obtain ⟨y, hy⟩ : ∃ y, pre ps k = y := ⟨_, rfl⟩
      rw [hy] at g hpb
      have HY : Hid (pre ps k = y) := hy
      clear hd hin1 hin2 hq hin hy hxl
      go_wp2
      go_quiet (fail)
      go_wp2
      go_ret2
      refine ⟨k, _, HI.out, ?_, rfl⟩
      rw [HY.out]
      rfl
  · have e1 : (((rd : Int) + 1) == (ps.length : Int)) = false := beq_false_of_ne (by omega)
    have g1 := HC.out (rd + 1) (by omega)
    have g2 := HC.out (rd + 2) (by omega)
    have hd1 : decide ((x : Int) < ((pre ps (rd + 1) : Nat) : Int)) = false := decide_eq_false (by omega)
    have hd2 : decide (((pre ps (rd + 2) : Nat) : Int) ≤ (x : Int)) = true := decide_eq_true (by omega)
    go_enter Try.func23, Try.ntmps23
    go_wp2_with fail
    refine (bs24 s cs ps.length (pre ps) x w hN HC.out HM.out HX.out).mono ?_
    rintro e w1 ⟨⟨lo, hlo, ht, hxl, rfl⟩, rfl⟩
    obtain ⟨hin1, hin2⟩ := in_of_bs HF.out HX.out hlo ht hxl
    clear ht
    by_cases hq : pre ps lo = x
    · have hin := hin1 hq
      have hd : decide (pre ps lo = x) = true := decide_eq_true hq
      rw [hd]
      have HI : Hid (In ps x lo) := hin
      have g := HSET.out lo lo hlo
      have hlt : lo < ps.length := hin.1
      have hpb := HM.out lo ps.length hlo (Nat.le_refl _)
      obtain ⟨y, hy⟩ : ∃ y, pre ps lo = y := ⟨_, rfl⟩
      rw [hy] at g hpb
      have HY : Hid (pre ps lo = y) := hy
      clear hd hin1 hin2 hq hin hy hxl
      go_wp2
      go_quiet (fail)
      go_wp2
      go_ret2
      refine ⟨lo, _, HI.out, ?_, rfl⟩
      rw [HY.out]
      rfl
    · obtain ⟨hlo1, hin⟩ := hin2 hq
      have hd : decide (pre ps lo = x) = false := decide_eq_false hq
      rw [hd]
      obtain ⟨k, rfl⟩ : ∃ k, lo = k + 1 := ⟨lo - 1, by omega⟩
      rw [Nat.add_sub_cancel] at hin
      have HI : Hid (In ps x k) := hin
      have g := HSET.out k k (by omega)
      have hlt : k < ps.length := hin.1
      have hpb := HM.out k ps.length (by omega) (Nat.le_refl _)
      obtain ⟨y, hy⟩ : ∃ y, pre ps k = y := ⟨_, rfl⟩
      rw [hy] at g hpb
      have HY : Hid (pre ps k = y) := hy
      clear hd hin1 hin2 hq hin hy hxl
      go_wp2
      go_quiet (fail)
      go_wp2
      go_ret2
      refine ⟨k, _, HI.out, ?_, rfl⟩
      rw [HY.out]
      rfl
  · have e1 : (((rd : Int) + 1) == (ps.length : Int)) = false := beq_false_of_ne (by omega)
    have g1 := HC.out (rd + 1) (by omega)
    have g2 := HC.out (rd + 2) (by omega)
    have hd1 : decide ((x : Int) < ((pre ps (rd + 1) : Nat) : Int)) = false := decide_eq_false (by omega)
    have hd2 : decide (((pre ps (rd + 2) : Nat) : Int) ≤ (x : Int)) = false := decide_eq_false (by omega)
    have g := HSET.out (rd + 1) (rd + 1) (by omega)
    have HI : Hid (In ps x (rd + 1)) := ⟨h, h1, h2⟩
    have hpb := HM.out (rd + 1) ps.length (by omega) (Nat.le_refl _)
    obtain ⟨y, hy⟩ : ∃ y, pre ps (rd + 1) = y := ⟨_, rfl⟩
    rw [hy] at g g1 hpb hd1 h1
    have HY : Hid (pre ps (rd + 1) = y) := hy
    clear hy
    go_enter Try.func23, Try.ntmps23
    go_wp2
    go_quiet (fail)
    go_wp2
    go_ret2
    refine ⟨rd + 1, _, HI.out, ?_, rfl⟩
    rw [HY.out]
    rfl
end Go.Proofs.Qxb6626330a
