/-
  Seat b6626330a: joinText.
-/
import Derived.Test.Qxb6626330aW2
namespace Go.Proofs.Qxb6626330a
open Go.RowKit

theorem Byt.at {w : World} {a : Option Addr} {l : List Int} (h : Byt w a l) {k : Nat} (hk : k < l.length) : ∃ b off, a = some ⟨b, off, none⟩ ∧ ∀ i, i < l.length → w.cell? ⟨b, off + i, none⟩ = some (.int .u8 (l.getD i 0)) := by
  rcases h with rfl | h
  · simp at hk
  · exact h

theorem Blk.at {w : World} {a : Option Addr} {ls : List (List Int)} (h : Blk w a ls) {k : Nat} (hk : k < ls.length) : ∃ b off a' c', a = some ⟨b, off, none⟩ ∧ w.cell? ⟨b, off + k, none⟩ = some (.slice a' (ls.getD k []).length c') ∧ Byt w a' (ls.getD k []) := by
  rcases h with rfl | ⟨b, off, ha, h⟩
  · simp at hk
  · obtain ⟨a', c', h1, h2⟩ := h k hk
    exact ⟨b, off, a', c', ha, h1, h2⟩

/-- How many bytes the first k blocks hold. -/
def pre (ls : List (List Int)) (k : Nat) : Nat := (ls.take k).flatten.length

theorem pre_zero (ls : List (List Int)) : pre ls 0 = 0 := rfl
theorem take_succ_getD {α : Type} (l : List α) (d : α) (k : Nat) (h : k < l.length) : l.take (k + 1) = l.take k ++ [l.getD k d] := by
  rw [List.take_succ_eq_append_getElem h, List.getD_eq_getElem?_getD, List.getElem?_eq_getElem h]; rfl
theorem pre_succ (ls : List (List Int)) (k : Nat) (h : k < ls.length) : pre ls (k + 1) = pre ls k + (ls.getD k []).length := by
  unfold pre
  rw [take_succ_getD ls [] k h]
  simp
theorem pre_le (ls : List (List Int)) (k : Nat) : pre ls k ≤ ls.flatten.length := by
  unfold pre
  conv => rhs; rw [← List.take_append_drop k ls]
  rw [List.flatten_append, List.length_append]
  omega
theorem pre_all (ls : List (List Int)) : pre ls ls.length = ls.flatten.length := by unfold pre; rw [List.take_length]
theorem pre_le' (ls : List (List Int)) (k : Nat) : pre ls k ≤ pre ls ls.length := by rw [pre_all]; exact pre_le ls k

/-- All the bytes of the blocks, and j bytes of the last one. -/
def cat (ls : List (List Int)) (lb : List Int) (j : Nat) : List Int := ls.flatten ++ lb.take j
theorem cat_len (ls : List (List Int)) (lb : List Int) (j : Nat) (h : j ≤ lb.length) : (cat ls lb j).length = pre ls ls.length + j := by
  unfold cat
  rw [List.length_append, List.length_take, pre_all]
  omega
theorem cat_succ (ls : List (List Int)) (lb : List Int) (j : Nat) (h : j < lb.length) : cat ls lb (j + 1) = cat ls lb j ++ [lb.getD j 0] := by
  unfold cat
  rw [take_succ_getD _ 0 j h, List.append_assoc]
/-- The whole text. -/
def text (ls : List (List Int)) (lb : List Int) : List Int := ls.flatten ++ lb
theorem text_len (ls : List (List Int)) (lb : List Int) : (text ls lb).length = pre ls ls.length + lb.length := by
  unfold text
  rw [List.length_append, pre_all]
theorem cat_all (ls : List (List Int)) (lb : List Int) : cat ls lb lb.length = text ls lb := by unfold cat text; rw [List.take_length]

/-- The bytes of a list as values. -/
def bv (l : List Int) : List Value := l.map (Value.int .u8)

theorem byt_of_own {w : World} {B n : Nat} {v : Value} {l : List Int} (h : w.ownsRow B 5 1 v n (bv l)) (hv : v ≠ .slice none 0 0) : ∃ g c, v = .slice (some ⟨g, 0, none⟩) l.length c ∧ Byt w (some ⟨g, 0, none⟩) l ∧ l.length ≤ c ∧ c ≤ maxLen := by
  have hn : n = l.length := by have := h.1; simp [bv] at this; omega
  subst hn
  rcases h.2 with ⟨rfl, hn⟩ | ⟨g, cap, cur, rfl, hg, _, hnc, hcm, _⟩
  · exact absurd rfl hv
  · refine ⟨g, cap, rfl, .inr ⟨g, 0, rfl, fun i hi => ?_⟩, hnc, hcm⟩
    have := h.cells (g := g) rfl i (.int .u8 (l.getD i 0)) (by simp [bv, List.getD, List.getElem?_eq_getElem hi])
    rw [Addr.add_lit] at this
    exact this

/-- The bytes gathered when k blocks and j bytes of the next have been taken. -/
def got (ls : List (List Int)) (k j : Nat) : List Int := (ls.take k).flatten ++ (ls.getD k []).take j
theorem got_len (ls : List (List Int)) (k j : Nat) (h : j ≤ (ls.getD k []).length) : (got ls k j).length = pre ls k + j := by
  unfold got pre
  rw [List.length_append, List.length_take]
  omega
theorem got_succ (ls : List (List Int)) (k j : Nat) (h : j < (ls.getD k []).length) : got ls k (j + 1) = got ls k j ++ [(ls.getD k []).getD j 0] := by
  unfold got
  rw [take_succ_getD _ 0 j h, List.append_assoc]
theorem got_start (ls : List (List Int)) (k : Nat) : got ls k 0 = (ls.take k).flatten := by unfold got; simp
theorem got_end (ls : List (List Int)) (k j : Nat) (hk : k < ls.length) (hj : j = (ls.getD k []).length) : got ls k j = (ls.take (k + 1)).flatten := by
  subst hj
  unfold got
  rw [take_succ_getD ls [] k hk, List.take_length]
  simp

theorem got_all (ls : List (List Int)) (lb : List Int) : got ls ls.length 0 = cat ls lb 0 := by unfold got cat; simp
theorem got_next (ls : List (List Int)) (k j : Nat) (hk : k < ls.length) (hj : j = (ls.getD k []).length) : got ls k j = got ls (k + 1) 0 := by
  rw [got_end ls k j hk hj, got_start]

theorem own_step {w : World} {B n : Nat} {v : Value} {l l' : List Int} {x : Int} (h : w.ownsRow B 5 1 v (n + 1) (bv l ++ [.int .u8 x])) (hl : l' = l ++ [x]) : w.ownsRow B 5 1 v (n + 1) (bv l') := by
  subst hl
  simpa [bv] using h

theorem grow_below {B : Nat} {w a b : World} {v : Value} {n : Nat} {xs : List Value} {e : TypeId} {o : Obj} (h : Below B w a) (hs : B ≤ a.heap.size) (hown : a.ownsRow B e 1 v n xs) (hg : (a.alloc o).grownBy b v.ownBlock) : Below B w b :=
  (h.alloc hs o).grown hg (by simp; omega) (fun k hk => (hown.lt k hk).1)

/-- A slice that is not nil. -/
def NN (v : Value) : Prop := v ≠ .slice none 0 0
theorem NN.out {v : Value} (h : NN v) : v ≠ .slice none 0 0 := h
theorem nn_some (a : Addr) (n c : Nat) : NN (.slice (some a) n c) := fun h => by cases h

set_option maxHeartbeats 1600000 in
/-- joinText: a slice of all the bytes, one block after another, in memory of the call's own. -/
theorem join6 (a0 a1 : Option Addr) (c0 c1 : Nat) (ls : List (List Int)) (lb : List Int) (w : World) (hn : ls.length ≤ 1048577) (ht : pre ls ls.length + lb.length ≤ 1048576) (h0 : Blk w a0 ls) (h1 : Byt w a1 lb) :
    Calls Try.prog 6 #[.slice a0 ls.length c0, .slice a1 lb.length c1] w fun e w' => (∃ g c', e = .returned (.slice (some ⟨g, 0, none⟩) (text ls lb).length c') ∧ Byt w' (some ⟨g, 0, none⟩) (text ls lb) ∧ (text ls lb).length ≤ c' ∧ c' ≤ maxLen) ∧ Below w.heap.size w w' := by
  obtain ⟨i0, hi, hz0, hz1, hz2⟩ := info_parts Try.info5
  go_enter Try.func6, Try.ntmps6
  go_wp2
  go_loop [5, 6] (fun z i => ∃ k : Nat, k ≤ ls.length ∧ i = .int .i64 k ∧ z = .int .i64 (lb.length + pre ls k : Nat)) (fun _ i => ls.length - (intOf i).toNat)
  case atStart => exact ⟨0, Nat.zero_le _, rfl, rfl⟩
  case round =>
    obtain ⟨k, hk, rfl, rfl⟩ := hrel
    have hp := pre_le' ls k
    by_cases hlt : k < ls.length
    · obtain ⟨b, off, a', c', ha, hc, _⟩ := h0.at hlt
      have hs := pre_succ ls k hlt
      have HS : Hid (pre ls (k + 1) = pre ls k + (ls.getD k []).length) := hs
      have hp1 := pre_le' ls (k + 1)
      rw [hs] at hp1
      clear hs
      subst ha
      generalize (ls.getD k []).length = m at hc HS hp1
      go_wp2
      go_round
      case rel => exact ⟨k + 1, by omega, by go_num, by rw [HS.out]; go_num⟩
      case measure => simp [intOf]; omega
    · have hkl : k = ls.length := by omega
      subst hkl
      clear hp
      go_wp2_with (at_make; refine wpList_make_own _ rfl _ _ 23 rfl w.heap.size 5 i0 (.int .u8 0) 1 Try.underlying23 hi hz0 hz1 _ _ _ (lb.length + pre ls ls.length) rfl rfl ?b1 ?b2 ?b3 (Nat.le_refl _) ?_)
      case b1 => first | rfl | omega
      case b2 => first | (rw [hz2]; omega) | omega
      case b3 => unfold maxLen; omega
      intro w1 hown1 hgrow1
      have hbel1 : Below w.heap.size w w1 := (Below.refl _ w).grown hgrow1 (Nat.le_refl _) (fun k hk => by cases hk)
      clear hgrow1
      go_wp2
      go_loopw [7, 8] (fun v i wr => ∃ k : Nat, k ≤ ls.length ∧ i = .int .i64 k ∧ wr.ownsRow w.heap.size 5 1 v (pre ls k) (bv (got ls k 0)) ∧ Below w.heap.size w wr ∧ NN v) (fun _ i _ => ls.length - (intOf i).toNat)
      case atStart => exact ⟨0, Nat.zero_le _, rfl, by simpa [pre_zero, got_start, bv] using hown1, hbel1, nn_some _ _ _⟩
      case round =>
        clear hown1 hbel1
        obtain ⟨k, hk, rfl, hown, hbel, hnn⟩ := hrel
        by_cases hlt : k < ls.length
        · obtain ⟨b, off, a', c', ha, hc, hbyt⟩ := h0.at hlt
          have hs := pre_succ ls k hlt
          have HS : Hid (pre ls (k + 1) = pre ls k + (ls.getD k []).length) := hs
          have hp1 := pre_le' ls (k + 1)
          rw [hs] at hp1
          clear hs
          subst ha
          rename World => wo
          go_wp2
          go_loopw [7, 9] (fun v i wr => ∃ j : Nat, j ≤ (ls.getD k []).length ∧ i = .int .i64 j ∧ wr.ownsRow w.heap.size 5 1 v (pre ls k + j) (bv (got ls k j)) ∧ Below w.heap.size w wr ∧ NN v) (fun _ i _ => (ls.getD k []).length - (intOf i).toNat)
          case atStart => exact ⟨0, Nat.zero_le _, rfl, hown, hbel, hnn⟩
          case round =>
            clear hown hbel hnn
            obtain ⟨j, hj, rfl, hown, hbel, hnn⟩ := hrel
            have hc' := cell_keep hbel hc
            by_cases hjl : j < (ls.getD k []).length
            · obtain ⟨b', off', hb', hcj⟩ := hbyt.at hjl
              subst hb'
              have g := cell_keep hbel (hcj j hjl)
              have hsz := hbel.size
              clear hcj
              have HG : Hid (got ls k (j + 1) = got ls k j ++ [(ls.getD k []).getD j 0]) := got_succ ls k j hjl
              generalize (ls.getD k []).getD j 0 = x at g HG
              generalize (ls.getD k []).length = m at hc' hjl hp1 HS
              go_wp2_with (at_builtin; refine wpList_append_own _ rfl _ _ 23 rfl w.heap.size 5 i0 (.int .u8 0) 1 1 Try.underlying23 hi hz0 hz1 hz2 rfl (by decide) _ _ _ rfl (hown.alloc _) ⟨wr.heap.size, 0, none⟩ 1 1 [.int .u8 x] rfl rfl (cell_one_new _ _ _) ?d2 ?d3 ?d4 ?d5 ?_)
              case d2 => intro u hu; simp at hu; subst hu; rfl
              case d3 => unfold maxLen; omega
              case d4 => omega
              case d5 => simp; omega
              intro v' w2 hown2 hgrow2 hiff
              have hnn' : NN v' := hiff
              clear hiff hnn
              have hbel2 := grow_below hbel (by omega) hown hgrow2
              have hown3 := own_step hown2 HG.out
              clear hgrow2 hown2 hown hc' g
              go_wp2
              go_roundw
              case rel => exact ⟨j + 1, by omega, by go_num, hown3, hbel2, hnn'⟩
              case measure => simp [intOf]; omega
            · have hjj : j = (ls.getD k []).length := by omega
              have HE : Hid (j = (ls.getD k []).length) := hjj
              generalize (ls.getD k []).length = m at hc' hjl hjj
              have hjm : ¬ (j : Int) < (m : Int) := by omega
              clear hjj
              go_wp2
              go_roundw
              case rel => exact ⟨k + 1, by omega, by go_num, by rw [HS.out, ← got_next ls k j hlt HE.out, ← HE.out]; exact hown, hbel, hnn⟩
              case measure => simp [intOf]; omega
        · have hkl : k = ls.length := by omega
          subst hkl
          rw [got_all ls lb] at hown
          go_wp2
          go_loopw [7, 10] (fun v i wr => ∃ j : Nat, j ≤ lb.length ∧ i = .int .i64 j ∧ wr.ownsRow w.heap.size 5 1 v (pre ls ls.length + j) (bv (cat ls lb j)) ∧ Below w.heap.size w wr ∧ NN v) (fun _ i _ => lb.length - (intOf i).toNat)
          case atStart => exact ⟨0, Nat.zero_le _, rfl, hown, hbel, hnn⟩
          case round =>
            clear hown hbel hnn
            obtain ⟨j, hj, rfl, hown, hbel, hnn⟩ := hrel
            by_cases hjl : j < lb.length
            · obtain ⟨b', off', hb', hcj⟩ := h1.at hjl
              subst hb'
              have g := cell_keep hbel (hcj j hjl)
              have hsz := hbel.size
              clear hcj
              have HG : Hid (cat ls lb (j + 1) = cat ls lb j ++ [lb.getD j 0]) := cat_succ ls lb j hjl
              generalize lb.getD j 0 = x at g HG
              go_wp2_with (at_builtin; refine wpList_append_own _ rfl _ _ 23 rfl w.heap.size 5 i0 (.int .u8 0) 1 1 Try.underlying23 hi hz0 hz1 hz2 rfl (by decide) _ _ _ rfl (hown.alloc _) ⟨wr.heap.size, 0, none⟩ 1 1 [.int .u8 x] rfl rfl (cell_one_new _ _ _) ?e2 ?e3 ?e4 ?e5 ?_)
              case e2 => intro u hu; simp at hu; subst hu; rfl
              case e3 => unfold maxLen; omega
              case e4 => omega
              case e5 => simp; omega
              intro v' w2 hown2 hgrow2 hiff
              have hnn' : NN v' := hiff
              clear hiff hnn
              have hbel2 := grow_below hbel (by omega) hown hgrow2
              have hown3 := own_step hown2 HG.out
              clear hgrow2 hown2 hown g
              go_wp2
              go_roundw
              case rel => exact ⟨j + 1, by omega, by go_num, hown3, hbel2, hnn'⟩
              case measure => simp [intOf]; omega
            · have hjj : j = lb.length := by omega
              subst hjj
              rw [cat_all] at hown
              obtain ⟨aa, cc, rfl, hbt, hlc, hcm⟩ := byt_of_own hown hnn.out
              clear hown hnn
              go_wp2
              go_ret
              exact ⟨⟨_, _, rfl, hbt, hlc, hcm⟩, hbel⟩
end Go.Proofs.Qxb6626330a
