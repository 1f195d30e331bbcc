/-
  Seat b6626330a: cloneBytes, cloneBlocks.
-/
import Derived.Test.Qxb6626330aW1
import Derived.WalkSpells
import Derived.WalkLawsBesides
namespace Go.Proofs.Qxb6626330a
open Go.RowKit

theorem Try.info5 : (Try.prog.info? 5).map (fun i => (i.zero, i.size, i.bytes)) = some (some (.int .u8 0), 1, 1) := by kernel_rfl
theorem Try.info23 : (Try.prog.info? 23).map (fun i => (i.zero, i.size, i.bytes)) = some (some (.slice none 0 0), 1, 24) := by kernel_rfl
theorem Try.info3 : (Try.prog.info? 3).map (fun i => (i.zero, i.size, i.bytes)) = some (some (.int .i64 0), 1, 8) := by kernel_rfl

/-- What a row of bytes, copied as far as k, holds at j. -/
def upto (l : List Int) (k j : Nat) : Value := if j < k then .int .u8 (l.getD j 0) else .int .u8 0

theorem upto_step (l : List Int) (k j : Nat) : (if j = k then Value.int .u8 (l.getD k 0) else upto l k j) = upto l (k + 1) j := by
  unfold upto
  by_cases h : j = k
  · subst h; simp
  · rw [if_neg h]
    by_cases h2 : j < k
    · rw [if_pos h2, if_pos (by omega)]
    · rw [if_neg h2, if_neg (by omega)]

theorem byt_of_row {w : World} {b n : Nat} {l : List Int} (h : w.rowIs b 5 n (upto l n)) (hn : n = l.length) : Byt w (some ⟨b, 0, none⟩) l := by
  refine .inr ⟨b, 0, rfl, fun i hi => ?_⟩
  rw [Nat.zero_add, h.cell (by omega)]
  unfold upto
  rw [if_pos (by omega)]

/-- cloneBytes: nil of nil; else a new row with the same bytes. -/
theorem clone8 (a : Option Addr) (c : Nat) (l : List Int) (w : World) (hn : l.length ≤ 1048577) (h0 : Byt w a l) :
    Calls Try.prog 8 #[.slice a l.length c] w fun e w' => (∃ a' c', e = .returned (.slice a' l.length c') ∧ Byt w' a' l ∧ ∀ x, a' = some x → w.heap.size ≤ x.block) ∧ Below w.heap.size w w' := by
  have q23 : ∀ (w : World) (a : Option Addr) (n c n' c' : Nat), (binOp .eql 23 (.slice a n c) (.slice none n' c')).run Try.prog w = .ok (.bool a.isNone) w := fun w a n c n' c' => Lib.run_eql_slice_nil w _ _ a n c n' c' Try.underlying23
  have hmk := run_make_row' (P := Try.prog) 23 5 (.int .u8 0) 1 Try.underlying23 Try.info5 rfl .i64 .i64 l.length (by omega) (by omega)
  cases a with
  | none =>
    have hl : l = [] := by
      rcases h0 with h | ⟨_, _, h, _⟩
      · exact h
      · cases h
    subst hl
    clear hmk
    go_enter Try.func8, Try.ntmps8
    go_wp2
    go_ret
    exact ⟨⟨_, _, rfl, .nil _ _, fun x hx => by cases hx⟩, Below.refl _ _⟩
  | some x =>
    by_cases hl0 : l = []
    · subst hl0
      have hmk0 : ∀ w : World, (Instr.makeSlice 23 (.int .i64 0) (.int .i64 0)).run Try.prog w = .ok (.slice (some ⟨w.heap.size, 0, none⟩) 0 0) (w.alloc (.cells (madeCells #[.int .u8 0] 0) 5)) := hmk
      clear hmk
      go_enter Try.func8, Try.ntmps8
      go_wp2
      refine wp_loop_rounds 1 ?_
      rw [rounds_succ]
      go_wp2
      go_ret
      exact ⟨⟨_, _, rfl, .nil _ _, fun x hx => by cases hx; exact Nat.le_refl _⟩, (Below.refl _ _).alloc (Nat.le_refl _) _⟩
    · obtain ⟨b, off, hx, hc⟩ : ∃ b off, x = ⟨b, off, none⟩ ∧ ∀ i, i < l.length → w.cell? ⟨b, off + i, none⟩ = some (.int .u8 (l.getD i 0)) := by
        rcases h0 with h | ⟨b, off, h, hc⟩
        · exact absurd h hl0
        · exact ⟨b, off, by simpa using h, hc⟩
      subst hx
      have hbs : b < w.heap.size := World.block_lt_of_cell? w _ (hc 0 (by have := List.length_pos_iff.2 hl0; omega))
      have H0 : Hid (l ≠ []) := hl0
      clear h0 hl0
      go_enter Try.func8, Try.ntmps8
      go_wp2
      go_loopw [4] (fun i wr => ∃ k : Nat, k ≤ l.length ∧ i = .int .i64 k ∧ wr.rowIs w.heap.size 5 l.length (upto l k) ∧ Below w.heap.size w wr) (fun i _ => l.length - (intOf i).toNat)
      case atStart => exact ⟨0, Nat.zero_le _, rfl, (World.rowIs_made w (.int .u8 0) l.length 5).congr (fun i _ => by simp [upto]), (Below.refl _ _).alloc (Nat.le_refl _) _⟩
      case round =>
        obtain ⟨k, hk, rfl, hrow, hbel⟩ := hrel
        by_cases hlt : k < l.length
        · have g0 : wr.cell? ⟨b, off + k, none⟩ = some (.int .u8 (l.getD k 0)) := (hbel.cell (by exact hbs)).trans (hc k hlt)
          have g1 := hrow.cell hlt
          have g2 := hrow.frozen k
          have R : Hid ((wr.setCell ⟨w.heap.size, k, none⟩ (.int .u8 (l.getD k 0))).rowIs w.heap.size 5 l.length (upto l (k + 1)) ∧ Below w.heap.size w (wr.setCell ⟨w.heap.size, k, none⟩ (.int .u8 (l.getD k 0)))) :=
            ⟨(hrow.set k _).congr (fun j _ => upto_step l k j), hbel.setCell (Nat.le_refl _) _⟩
          clear hc hrow hbel
          generalize l.getD k 0 = x at g0 R
          generalize upto l k k = y at g1
          go_wp2
          go_roundw
          case rel => exact ⟨k + 1, by omega, by go_num, R.out.1, R.out.2⟩
          case measure => simp [intOf]; omega
        · clear hc
          have hkl : k = l.length := by omega
          subst hkl
          go_wp2
          go_ret
          exact ⟨⟨_, _, rfl, byt_of_row hrow rfl, fun x hx => by cases hx; exact Nat.le_refl _⟩, hbel⟩

theorem Byt.setCell {w : World} {a : Option Addr} {l : List Int} (h : Byt w a l) {p : Addr} (hp : ∀ x, a = some x → x.block ≠ p.block) (v : Value) : Byt (w.setCell p v) a l := by
  rcases h with rfl | ⟨b, off, rfl, hc⟩
  · exact .inl rfl
  · refine .inr ⟨b, off, rfl, fun i hi => ?_⟩
    rw [← hc i hi]
    exact World.cell?_of_block (w := w) (Below.heap_setCell _ _ _ _ (hp ⟨b, off, none⟩ rfl))

/-- cloneBlocks, in the middle: the new row (block N) holds the headers of the first k copies. -/
def Half (w : World) (N n k : Nat) (ls : List (List Int)) : Prop :=
  ∃ F : Nat → Value, w.rowIs N 23 n F ∧ ∀ j, j < k → ∃ a' c', F j = .slice a' (ls.getD j []).length c' ∧ Byt w a' (ls.getD j []) ∧ ∀ x, a' = some x → x.block ≠ N

theorem Half.store {w : World} {N n k : Nat} {ls : List (List Int)} (h : Half w N n k ls) {a' : Option Addr} {c' : Nat} (hb : Byt w a' (ls.getD k [])) (hx : ∀ x, a' = some x → x.block ≠ N) :
    Half (w.setCell ⟨N, k, none⟩ (.slice a' (ls.getD k []).length c')) N n (k + 1) ls := by
  obtain ⟨F, hF, hj⟩ := h
  refine ⟨_, hF.set k _, fun j hjk => ?_⟩
  by_cases e : j = k
  · subst e
    exact ⟨a', c', by simp, hb.setCell hx _, hx⟩
  · obtain ⟨a1, c1, h1, h2, h3⟩ := hj j (by omega)
    exact ⟨a1, c1, by simp [e, h1], h2.setCell h3 _, h3⟩

theorem Half.keep {w w' : World} {N n k : Nat} {ls : List (List Int)} (h : Half w N n k ls) (hb : Below w.heap.size w w') : Half w' N n k ls := by
  obtain ⟨F, hF, hj⟩ := h
  refine ⟨F, hF.of_block (hb.block N hF.lt), fun j hjk => ?_⟩
  obtain ⟨a1, c1, h1, h2, h3⟩ := hj j hjk
  exact ⟨a1, c1, h1, h2.keep hb, h3⟩

theorem Half.blk {w : World} {N k : Nat} {ls : List (List Int)} (h : Half w N ls.length k ls) (hk : k = ls.length) : Blk w (some ⟨N, 0, none⟩) ls := by
  obtain ⟨F, hF, hj⟩ := h
  refine .inr ⟨N, 0, rfl, fun i hi => ?_⟩
  obtain ⟨a1, c1, h1, h2, h3⟩ := hj i (by omega)
  exact ⟨a1, c1, by rw [Nat.zero_add, hF.cell hi, h1], h2⟩

theorem Half.at {w : World} {N n k : Nat} {ls : List (List Int)} (h : Half w N n k ls) (hk : k < n) : (∃ v, w.cell? ⟨N, k, none⟩ = some v) ∧ w.frozen? ⟨N, k, none⟩ = false ∧ N < w.heap.size := by
  obtain ⟨F, hF, _⟩ := h
  exact ⟨⟨_, hF.cell hk⟩, hF.frozen k, hF.lt⟩

set_option maxHeartbeats 400000 in
/-- cloneBlocks: nil of nil; else a new row of new rows with the same bytes. -/
theorem clone7 (a : Option Addr) (c : Nat) (ls : List (List Int)) (w : World) (hn : ls.length ≤ 1048577) (hl : ∀ i, i < ls.length → (ls.getD i []).length ≤ 1048577) (h0 : Blk w a ls) :
    Calls Try.prog 7 #[.slice a ls.length c] w fun e w' => (∃ a' c', e = .returned (.slice a' ls.length c') ∧ Blk w' a' ls) ∧ Below w.heap.size w w' := by
  have q22 : ∀ (w : World) (a : Option Addr) (n c n' c' : Nat), (binOp .eql 22 (.slice a n c) (.slice none n' c')).run Try.prog w = .ok (.bool a.isNone) w := fun w a n c n' c' => Lib.run_eql_slice_nil w _ _ a n c n' c' Try.underlying22
  have hmk := run_make_row' (P := Try.prog) 22 23 (.slice none 0 0) 24 Try.underlying22 Try.info23 rfl .i64 .i64 ls.length (by omega) (by omega)
  cases a with
  | none =>
    have hl : ls = [] := by
      rcases h0 with h | ⟨_, _, h, _⟩
      · exact h
      · cases h
    subst hl
    clear hmk
    go_enter Try.func7, Try.ntmps7
    go_wp2
    go_ret
    exact ⟨⟨_, _, rfl, .nil _ _⟩, Below.refl _ _⟩
  | some x =>
    by_cases hl0 : ls = []
    · subst hl0
      have hmk0 : ∀ w : World, (Instr.makeSlice 22 (.int .i64 0) (.int .i64 0)).run Try.prog w = .ok (.slice (some ⟨w.heap.size, 0, none⟩) 0 0) (w.alloc (.cells (madeCells #[.slice none 0 0] 0) 23)) := hmk
      clear hmk
      go_enter Try.func7, Try.ntmps7
      go_wp2
      refine wp_loop_rounds 1 ?_
      rw [rounds_succ]
      go_wp2
      go_ret
      exact ⟨⟨_, _, rfl, .nil _ _⟩, (Below.refl _ _).alloc (Nat.le_refl _) _⟩
    · obtain ⟨b, off, hx, hc⟩ : ∃ b off, x = ⟨b, off, none⟩ ∧ ∀ i, i < ls.length → ∃ a' c', w.cell? ⟨b, off + i, none⟩ = some (.slice a' (ls.getD i []).length c') ∧ Byt w a' (ls.getD i []) := by
        rcases h0 with h | ⟨b, off, h, hc⟩
        · exact absurd h hl0
        · exact ⟨b, off, by simpa using h, hc⟩
      subst hx
      have H0 : Hid (ls ≠ []) := hl0
      clear h0 hl0
      go_enter Try.func7, Try.ntmps7
      go_wp2
      go_loopw [4] (fun i wr => ∃ k : Nat, k ≤ ls.length ∧ i = .int .i64 k ∧ Half wr w.heap.size ls.length k ls ∧ Below w.heap.size w wr) (fun i _ => ls.length - (intOf i).toNat)
      case atStart => exact ⟨0, Nat.zero_le _, rfl, ⟨_, World.rowIs_made w (.slice none 0 0) ls.length 23, fun j hj => absurd hj (Nat.not_lt_zero _)⟩, (Below.refl _ _).alloc (Nat.le_refl _) _⟩
      case round =>
        obtain ⟨k, hk, rfl, hhalf, hbel⟩ := hrel
        by_cases hlt : k < ls.length
        · obtain ⟨a', c', hcell, hbyt⟩ := hc k hlt
          have g0 : wr.cell? ⟨b, off + k, none⟩ = some (.slice a' (ls.getD k []).length c') := cell_keep hbel hcell
          have hbyt' : Byt wr a' (ls.getD k []) := hbyt.keep hbel
          have hlk := hl k hlt
          have HH : Hid (Half wr w.heap.size ls.length k ls) := hhalf
          have HL : Hid (∀ i, i < ls.length → (ls.getD i []).length ≤ 1048577) := hl
          clear hc hcell hbyt hhalf hl
          obtain ⟨l, hll⟩ : ∃ l, l = ls.getD k [] := ⟨_, rfl⟩
          rw [← hll] at g0 hbyt' hlk
          have HE : Hid (l = ls.getD k []) := hll
          clear hll
          go_wp2_with fail
          refine (clone8 a' c' l wr hlk hbyt').mono ?_
          rintro e w1 ⟨⟨a2, c2, rfl, hb2, hx2⟩, hbel2⟩
          have hh1 := HH.out.keep hbel2
          obtain ⟨⟨v0, hv0⟩, hfz, hN⟩ := hh1.at hlt
          have hN' : w.heap.size < wr.heap.size := (HH.out.at hlt).2.2
          have R : Hid (Half (w1.setCell ⟨w.heap.size, k, none⟩ (.slice a2 l.length c2)) w.heap.size ls.length (k + 1) ls ∧ Below w.heap.size w (w1.setCell ⟨w.heap.size, k, none⟩ (.slice a2 l.length c2))) := by
            rw [HE.out] at hb2 ⊢
            exact ⟨hh1.store hb2 (fun x hx => by have := hx2 x hx; omega), (hbel.trans (hbel2.mono (by omega))).setCell (Nat.le_refl _) _⟩
          clear hh1 HH hbel2 hb2 hbel
          go_wp2
          go_roundw
          case rel => exact ⟨k + 1, by omega, by go_num, R.out.1, R.out.2⟩
          case measure => simp [intOf]; omega
        · clear hc
          have hkl : k = ls.length := by omega
          subst hkl
          go_wp2
          go_ret
          exact ⟨⟨_, _, rfl, hhalf.blk rfl⟩, hbel⟩
end Go.Proofs.Qxb6626330a
