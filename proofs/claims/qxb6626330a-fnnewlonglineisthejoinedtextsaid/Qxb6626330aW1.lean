/-
  Seat b6626330a: the plain readers: zzBytes (both), sameBytes, lineEndFree.
-/
import Derived.Test.Qxb6626330aMem
import Derived.Deep.QuietTactic
import Derived.BigQuiet
import Derived.Outline
namespace Go.Proofs.Qxb6626330a
open Go.RowKit

/-- It returned a bool. -/
def IsB (e : Ending) : Prop := ∃ r, e = .returned (.bool r)
theorem isB (r : Bool) : IsB (.returned (.bool r)) := ⟨r, rfl⟩

theorem zz17 (a0 a1 : Option Addr) (c0 c1 n1 : Nat) (ls : List (List Int)) (cut : Int) (w : World) (h0 : Blk w a0 ls) :
    Calls Try.prog 17 #[.slice a0 ls.length c0, .slice a1 n1 c1, .int .i64 cut] w fun e w' => IsB e ∧ w' = w := by
  by_cases hbig : ls.length ≤ 1048576
  · rcases h0 with rfl | ⟨b, off, rfl, hc⟩
    · go_enter Try.func17, Try.ntmps17
      go_wp2
      refine wp_loop_rounds 1 ?_
      rw [rounds_succ]
      go_wp2
      all_goals (go_ret; exact ⟨isB _, rfl⟩)
    · go_enter Try.func17, Try.ntmps17
      go_wp2
      go_loop [7, 8] (fun z i => ∃ k : Nat, ∃ s : Int, k ≤ ls.length ∧ i = .int .i64 k ∧ z = .int .i64 s ∧ 0 ≤ s ∧ s ≤ 1048576) (fun _ i => ls.length - (intOf i).toNat)
      case atStart => exact ⟨0, _, Nat.zero_le _, rfl, rfl, by omega, by omega⟩
      case round =>
        obtain ⟨k, s, hk, rfl, rfl, hs0, hs1⟩ := hrel
        by_cases hlt : k < ls.length
        · obtain ⟨a', c', hcell, _⟩ := hc k hlt
          go_wp2
          all_goals first
            | (go_ret; exact ⟨isB _, rfl⟩)
            | (go_round
               case rel => exact ⟨k + 1, _, by omega, by go_num, rfl, by omega, by omega⟩
               case measure => simp [intOf]; omega)
        · go_wp2
          all_goals (go_ret; exact ⟨isB _, rfl⟩)
  · go_enter Try.func17, Try.ntmps17
    go_wp2
    go_ret
    exact ⟨isB _, rfl⟩
theorem zz5 (a0 a1 : Option Addr) (c0 c1 n1 : Nat) (ls : List (List Int)) (w : World) (h0 : Blk w a0 ls) :
    Calls Try.prog 5 #[.slice a0 ls.length c0, .slice a1 n1 c1] w fun e w' => IsB e ∧ w' = w := by
  by_cases hbig : ls.length ≤ 1048576
  · rcases h0 with rfl | ⟨b, off, rfl, hc⟩
    · go_enter Try.func5, Try.ntmps5
      go_wp2
      refine wp_loop_rounds 1 ?_
      rw [rounds_succ]
      go_wp2
      all_goals (go_ret; exact ⟨isB _, rfl⟩)
    · go_enter Try.func5, Try.ntmps5
      go_wp2
      go_loop [5, 6] (fun z i => ∃ k : Nat, ∃ s : Int, k ≤ ls.length ∧ i = .int .i64 k ∧ z = .int .i64 s ∧ 0 ≤ s ∧ s ≤ 1048576) (fun _ i => ls.length - (intOf i).toNat)
      case atStart => exact ⟨0, _, Nat.zero_le _, rfl, rfl, by omega, by omega⟩
      case round =>
        obtain ⟨k, s, hk, rfl, rfl, hs0, hs1⟩ := hrel
        by_cases hlt : k < ls.length
        · obtain ⟨a', c', hcell, _⟩ := hc k hlt
          go_wp2
          all_goals first
            | (go_ret; exact ⟨isB _, rfl⟩)
            | (go_round
               case rel => exact ⟨k + 1, _, by omega, by go_num, rfl, by omega, by omega⟩
               case measure => simp [intOf]; omega)
        · go_wp2
          all_goals (go_ret; exact ⟨isB _, rfl⟩)
  · go_enter Try.func5, Try.ntmps5
    go_wp2
    go_ret
    exact ⟨isB _, rfl⟩

theorem below_drewN (w : World) (q : Nat) : Below w.heap.size w (w.drewN q) := by
  induction q with
  | zero => exact Below.refl _ _
  | succ n ih => exact ih.drew

/-- sameBytes of two slices that lead to the same bytes: true. -/
theorem same13 (a0 a1 : Option Addr) (c0 c1 : Nat) (l : List Int) (w : World) (hn : l.length ≤ 4611686018427387904) (h0 : Byt w a0 l) (h1 : Byt w a1 l) :
    Calls Try.prog 13 #[.slice a0 l.length c0, .slice a1 l.length c1] w fun e w' => e = .returned (.bool true) ∧ ∃ q, w' = w.drewN q := by
  rcases h0 with rfl | ⟨b0, off0, rfl, hc0⟩
  · go_enter Try.func13, Try.ntmps13
    go_wp2
    refine wp_loop_rounds 1 ?_
    rw [rounds_succ]
    go_wp2
    go_ret
    exact ⟨rfl, 0, rfl⟩
  · rcases h1 with rfl | ⟨b1, off1, rfl, hc1⟩
    · go_enter Try.func13, Try.ntmps13
      go_wp2
      refine wp_loop_rounds 1 ?_
      rw [rounds_succ]
      go_wp2
      go_ret
      exact ⟨rfl, 0, rfl⟩
    · go_enter Try.func13, Try.ntmps13
      go_wp2
      go_loopw [5] (fun i wr => ∃ k q : Nat, k ≤ l.length ∧ i = .int .i64 k ∧ wr = w.drewN q) (fun i _ => l.length - (intOf i).toNat)
      case atStart => exact ⟨0, 0, Nat.zero_le _, rfl, rfl⟩
      case round =>
        obtain ⟨k, q, hk, rfl, rfl⟩ := hrel
        by_cases hlt : k < l.length
        · have g0 := hc0 k hlt
          have g1 := hc1 k hlt
          clear hc0 hc1
          generalize l.getD k 0 = x at g0 g1
          go_wp2
          go_quiet (fail)
          go_wp2
          go_roundw
          case rel => exact ⟨k + 1, _, by omega, by go_num, rfl⟩
          case measure => simp [intOf]; omega
        · clear hc0 hc1
          go_wp2
          go_ret
          exact ⟨rfl, _, rfl⟩
end Go.Proofs.Qxb6626330a
