/-
  Seat b6626504a: the law FnHeightGrowsOnlyAtBoundingWorker, walked.
-/
import Derived.Test.Qxb6626504aW2
namespace Go.Proofs.Qxb6626504a
open Go.RowKit

/-- The first row as it was copied, and the second filled as far as k. -/
def Two (w wr : World) (N M n k : Nat) (H : Nat → Nat) : Prop :=
  wr.rowIs N 24 n (fun j => .int .u64 (H j : Nat)) ∧ wr.rowIs M 24 n (fun j => if j < k then .int .u64 (H j : Nat) else .int .u64 0) ∧ Below N w wr ∧ N < M

theorem Two.store {w wr : World} {N M n k : Nat} {H : Nat → Nat} (h : Two w wr N M n k H) : Two w (wr.setCell ⟨M, k, none⟩ (.int .u64 (H k : Nat))) N M n (k + 1) H := by
  obtain ⟨h1, h2, hb, hNM⟩ := h
  refine ⟨h1.setOther (a := ⟨M, k, none⟩) (by show N ≠ M; omega) _, (h2.set k _).congr (fun j _ => ?_), hb.setCell (by show N ≤ M; omega) _, hNM⟩
  by_cases e : j = k
  · subst e; rw [if_pos rfl, if_pos (by omega)]
  · rw [if_neg e]
    by_cases e2 : j < k
    · rw [if_pos e2, if_pos (by omega)]
    · rw [if_neg e2, if_neg (by omega)]

/-- The second row, one height in it grown. -/
theorem Two.bumped {w wr : World} {N M n i : Nat} {H : Nat → Nat} (h : Two w wr N M n n H) (z : Int) (hz : z = ((H i + 1 : Nat) : Int)) :
    (wr.setCell ⟨M, i, none⟩ (.int .u64 z)).rowIs M 24 n (fun j => .int .u64 (bump H i j : Nat)) ∧ Below N w (wr.setCell ⟨M, i, none⟩ (.int .u64 z)) := by
  subst hz
  obtain ⟨h1, h2, hb, hNM⟩ := h
  refine ⟨(h2.set i _).congr (fun j hj => ?_), hb.setCell (by show N ≤ M; omega) _⟩
  by_cases e : j = i
  · subst e; rw [if_pos rfl, bump_same]
  · rw [if_neg e, if_pos hj, bump_other H e]

theorem two_start {w wr : World} {N M n : Nat} {H : Nat → Nat} (h : Own w wr N n H) (hM : wr.heap.size = M) : Two w (wr.alloc (.cells (madeCells #[.int .u64 0] n) 24)) N M n 0 H := by
  subst hM
  exact ⟨h.1.alloc _, (World.rowIs_made wr (.int .u64 0) n 24).congr (fun j _ => by rw [if_neg (by omega)]), h.2.alloc (Nat.le_of_lt h.1.lt) _, h.1.lt⟩

theorem lim_top (n : Nat) : lim n ≤ 18446744073709551615 := by
  unfold lim top
  exact Nat.le_trans (Nat.div_le_self _ _) (Nat.sub_le _ _)

set_option maxHeartbeats 2000000 in
set_option maxRecDepth 100000 in
theorem walk4a (b off n c : Nat) (H : Nat → Nat) (i : Nat) (w : World) (hn : 1 ≤ n) (hin : i < n) (hc : ∀ j, j < n → w.cell? ⟨b, off + j, none⟩ = some (.int .u64 (H j : Nat))) :
    Calls Try.prog 4 #[.slice (some ⟨b, off, none⟩) n c, .int .i64 (i : Nat)] w fun e w' => e = .returned (.bool true) ∧ Below w.heap.size w w' := by
  have q22 : ∀ (w : World) (a : Option Addr) (n c n' c' : Nat), (binOp .neq 22 (.slice a n c) (.slice none n' c')).run Try.prog w = .ok (.bool (!a.isNone)) w := fun w a n c n' c' => run_neq_slice_nil_any w _ _ a n c n' c' Try.underlying22
  by_cases hN : n ≤ 131072
  · have hmk := run_make_row' (P := Try.prog) 22 24 (.int .u64 0) 8 Try.underlying22 Try.info24 rfl .i64 .i64 n (by omega) (by omega)
    have hn0 : ((n : Int) == 0) = false := beq_false_of_ne (by omega)
    have hi0 : decide ((i : Int) < 0) = false := decide_eq_false (by omega)
    obtain ⟨N, hNw⟩ : ∃ N, w.heap.size = N := ⟨_, rfl⟩
    rw [hNw]
    have HC : Hid (∀ j, j < n → w.cell? ⟨b, off + j, none⟩ = some (.int .u64 (H j : Nat))) := hc
    clear hc
    go_enter Try.func4, Try.ntmps4
    go_wp2_with fail
    refine (zz8 _ _ _ _ w).mono ?_
    rintro e w1 ⟨⟨r, rfl⟩, hw⟩
    rw [hw]
    clear hw
    cases r with
    | false =>
      go_wp2
      go_ret
      exact ⟨rfl, Below.refl _ _⟩
    | true =>
      have HG : Hid ((w.alloc (.cells (madeCells #[.int .u64 0] n) 24)).heap[N]? = some (.cells (madeCells #[.int .u64 0] n) 24 (0, 0))) := by
        show (w.alloc _).heap[N]? = _
        rw [← hNw]; exact heap_alloc_new _ _
      go_wp2_with (refine wpList_copyK rfl _ _ 22 22 rfl 24 Try.underlying22 1 n Try.size24 N n n ⟨b, off, none⟩ n c rfl rfl (Nat.min_self n) (madeCells #[.int .u64 0] n) 24 HG.out (cellsOf H n) ?s0 ?s1 ?s3 (cellsOf_one H n) ?_)
      case s0 => rw [cellsOf_len]; omega
      case s1 =>
        intro j v hj
        obtain ⟨hlt, rfl⟩ := cellsOf_at H n j v hj
        rw [Addr.add_lit]
        exact Lib.cell?_alloc_some _ (HC.out j hlt)
      case s3 => rw [cellsOf_len, size_madeCells]
      intro w2 hg2 hb2 hs2
      have HO : Hid (Own w w2 N n H) := ⟨row_of_heap hg2, ((Below.refl N w).alloc (by omega) _).trans hb2⟩
      clear hg2 hb2 hs2 HG q22
      go_wp2_with fail
      refine (lim6 n hn hN w2).mono ?_
      rintro e w' ⟨rfl, hw⟩
      rw [hw]
      clear hw
      obtain ⟨L, hL⟩ : ∃ L, lim n = L := ⟨_, rfl⟩
      rw [hL]
      have HL : Hid (lim n = L) := hL
      clear hL
      go_wp2
      go_loop [8] (fun t => ∃ k : Nat, k ≤ n ∧ t = .int .i64 k ∧ ∀ j, j < k → H j ≤ L) (fun t => n - (intOf t).toNat)
      case atStart => exact ⟨0, Nat.zero_le _, rfl, fun j hj => absurd hj (Nat.not_lt_zero _)⟩
      case round =>
        obtain ⟨k, hk, rfl, hle⟩ := hrel
        have HLE : Hid (∀ j, j < k → H j ≤ L) := hle
        clear hle
        by_cases hlt : k < n
        · have ck : w2.cell? ⟨N, k, none⟩ = some (.int .u64 (H k : Nat)) := HO.out.1.cell hlt
          obtain ⟨h, hh⟩ : ∃ h, H k = h := ⟨_, rfl⟩
          rw [hh] at ck
          have HH : Hid (H k = h) := hh
          clear hh
          by_cases hhl : h ≤ L
          · have HL2 : Hid (∀ j, j < k + 1 → H j ≤ L) := fun j hj => by
              by_cases e : j = k
              · subst e; rw [HH.out]; exact hhl
              · exact HLE.out j (by omega)
            go_wp2
            go_round
            case rel => exact ⟨k + 1, by omega, by go_num, HL2.out⟩
            case measure => simp [intOf]; omega
          · go_wp2
            go_ret
            exact ⟨rfl, HO.out.2⟩
        · have hkn : k = n := by omega
          subst hkn
          have HLA : Hid (∀ j, j < k → H j ≤ lim k) := fun j hj => by rw [HL.out]; exact HLE.out j hj
          have ci : w2.cell? ⟨N, i, none⟩ = some (.int .u64 (H i : Nat)) := HO.out.1.cell hin
          obtain ⟨g, hg⟩ : ∃ g, H i = g := ⟨_, rfl⟩
          rw [hg] at ci
          have HGI : Hid (H i = g) := hg
          clear hg
          by_cases hgL : L ≤ g
          · go_wp2
            go_ret
            exact ⟨rfl, HO.out.2⟩
          · go_wp2_with fail
            refine (height7 N k k H w2 hn hN (fun j hj => HO.out.1.cell hj) HLA.out).mono ?_
            rintro e w' ⟨⟨low, f, hi, rfl⟩, hw⟩
            rw [hw]
            clear hw
            have HI : Hid (HIs H k low f) := hi
            obtain ⟨r, hr⟩ : ∃ r, low * k + f = r := ⟨_, rfl⟩
            rw [hr]
            have HR : Hid (low * k + f = r) := hr
            have hfk : f < k := hi.lt
            have hmod : (r : Int) % (k : Int) = (f : Int) := by
              have := hi.mod
              rw [hr] at this
              omega
            have cf : w2.cell? ⟨N, f, none⟩ = some (.int .u64 (H f : Nat)) := HO.out.1.cell hfk
            obtain ⟨hp0, hp1⟩ := fits hn hN (HLA.out f hfk)
            rw [hi.at'] at cf hp0 hp1
            have q : (((low : Int) * (k : Int) + (f : Int)) != (r : Int)) = false := by
              rw [← hr, Int.natCast_add, Int.natCast_mul]; simp
            have hLt := lim_top k
            rw [HL.out] at hLt
            obtain ⟨M, hM⟩ : ∃ M, w2.heap.size = M := ⟨_, rfl⟩
            have HT : Hid (Two w (w2.alloc (.cells (madeCells #[.int .u64 0] k) 24)) N M k 0 H) := two_start HO.out hM
            clear hr hi
            go_wp2
            go_loopw [12] (fun t wr => ∃ j : Nat, j ≤ k ∧ t = .int .i64 j ∧ Two w wr N M k j H) (fun t _ => k - (intOf t).toNat)
            case atStart => exact ⟨0, Nat.zero_le _, rfl, HT.out⟩
            case round =>
              clear HT hM
              obtain ⟨j, hj, rfl, htw⟩ := hrel
              by_cases hjl : j < k
              · have cj : wr.cell? ⟨N, j, none⟩ = some (.int .u64 (H j : Nat)) := htw.1.cell hjl
                have cm := htw.2.1.cell hjl
                have fm := htw.2.1.frozen j
                obtain ⟨y, hy⟩ : ∃ y, (if j < j then Value.int .u64 (H j : Nat) else .int .u64 0) = y := ⟨_, rfl⟩
                have cm' : wr.cell? ⟨M, j, none⟩ = some y := cm.trans (by rw [← hy])
                have HT : Hid (Two w (wr.setCell ⟨M, j, none⟩ (.int .u64 (H j : Nat))) N M k (j + 1) H) := htw.store
                have hNM : N < M := htw.2.2.2
                clear htw cm hy
                go_wp2
                go_roundw
                case rel => exact ⟨j + 1, by omega, by go_num, HT.out⟩
                case measure => simp [intOf]; omega
              · have hjk : j = k := by omega
                subst hjk
                have ci2 : wr.cell? ⟨N, i, none⟩ = some (.int .u64 (g : Nat)) := by rw [← HGI.out]; exact htw.1.cell hin
                have cm := htw.2.1.cell hin
                have fm := htw.2.1.frozen i
                obtain ⟨y, hy⟩ : ∃ y, (if i < j then Value.int .u64 (H i : Nat) else .int .u64 0) = y := ⟨_, rfl⟩
                have cm' : wr.cell? ⟨M, i, none⟩ = some y := cm.trans (by rw [← hy])
                have hNM : N < M := htw.2.2.2
                have HB : Hid ((wr.setCell ⟨M, i, none⟩ (.int .u64 ((g : Int) + 1))).rowIs M 24 j (fun t => .int .u64 (bump H i t : Nat)) ∧ Below N w (wr.setCell ⟨M, i, none⟩ (.int .u64 ((g : Int) + 1)))) := htw.bumped ((g : Int) + 1) (by rw [HGI.out]; omega)
                clear htw cm hy
                go_wp2_with fail
                refine (height7 M j j (bump H i) _ hn hN (fun t ht => HB.out.1.cell ht) ?hlim).mono ?_
                case hlim =>
                  intro t ht
                  by_cases e : t = i
                  · subst e; rw [bump_same, HGI.out, HL.out]; omega
                  · rw [bump_other H e]; exact HLA.out t ht
                rintro e w' ⟨⟨low2, f2, hi2, rfl⟩, hw⟩
                rw [hw]
                clear hw
                obtain ⟨r2, hr2⟩ : ∃ r2, low2 * j + f2 = r2 := ⟨_, rfl⟩
                rw [hr2]
                by_cases hif : i = f
                · subst hif
                  have hgr := grow_at HI.out hi2
                  rw [HR.out, hr2] at hgr
                  have qi : ((i : Int) == (i : Int)) = true := by simp
                  have d9 : decide ((r : Int) < (r2 : Int)) = true := decide_eq_true (by omega)
                  clear hr2 hi2
                  go_wp2
                  go_ret
                  exact ⟨rfl, HB.out.2⟩
                · have hgr := grow_off HI.out hif hi2
                  rw [HR.out, hr2] at hgr
                  have qi : ((i : Int) == (f : Int)) = false := beq_false_of_ne (by omega)
                  have q9 : ((r2 : Int) == (r : Int)) = true := by rw [hgr]; simp
                  clear hr2 hi2 hgr
                  go_wp2
                  go_ret
                  exact ⟨rfl, HB.out.2⟩
  · go_enter Try.func4, Try.ntmps4
    go_wp2_with fail
    refine (zz8 _ _ _ _ w).mono ?_
    rintro e w1 ⟨⟨r, rfl⟩, hw⟩
    rw [hw]
    cases r
    all_goals (go_wp2; go_ret; exact ⟨rfl, Below.refl _ _⟩)
end Go.Proofs.Qxb6626504a
