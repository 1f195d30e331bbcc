/-
  Seat b6626504a: the copy of the heights; the law FnHeightIsEarliestMissingPosition, walked.
-/
import Derived.Test.Qxb6626504aW1
namespace Go.Proofs.Qxb6626504a
open Go.RowKit

theorem run_copyK {P : Program} (w : World) (dT sT ty elem : TypeId) (k m g dLen dCap : Nat) (a : Addr) (sLen sCap : Nat) (cur : Array Value) (t : TypeId) (cs : List Value)
    (hu : P.underlying dT = some (.slice elem)) (hs : (P.info? elem).map (·.size) = some k)
    (hg : w.heap[g]? = some (.cells cur t (0, 0))) (hm : Nat.min sLen dLen = m) (hn : cs.length = m * k)
    (hsrc : ∀ j v, cs[j]? = some v → w.cell? (a.add j) = some v) (hfit : cs.length = cur.size) (h1 : ∀ v ∈ cs, v.oneCell' = true) :
    (Builtin.copy_ #[dT, sT] ty #[.slice (some ⟨g, 0, none⟩) dLen dCap, .slice (some a) sLen sCap]).run P w = .ok (goInt m) (w.setRow g cs.toArray) := by
  subst hm
  have hl := run_firstCells_some (P := P) w k (Nat.min sLen dLen) a sLen sCap cs hn hsrc
  have hst := run_storeCells_at P g 0 t cs 0 cur w hg (by omega) h1
  have e : cur.toList.take (0 + 0) ++ cs ++ cur.toList.drop (0 + 0 + cs.length) = cs := by
    rw [hfit]
    simp
  rw [e] at hst
  cases hq : P.info? elem with
  | none => simp [hq] at hs
  | some i =>
    have hi : i.size = k := by simpa [hq] using hs
    simp [Builtin.copy_, run_underlying hu, Builtin.lenOf, sizeOf, typeInfo, hq, hi, hl, hst]

theorem wpList_copyK {P : Program} {w : World} {ops : Array Oper} {rest : List Oper} {o : Oper} {a : Act} {Q : Exit → Act → World → Prop} (hgd : o.guard = none) (d s : Operand) (dT sT : TypeId)
    (ho : o.op = .call { callee := .builtin .copy, args := #[d, s], argTypes := #[dT, sT] }) (elem : TypeId) (hu : P.underlying dT = some (.slice elem)) (k m : Nat) (hsz : (P.info? elem).map (·.size) = some k)
    (g dLen dCap : Nat) (ad : Addr) (sLen sCap : Nat) (hd : a.eval d = .slice (some ⟨g, 0, none⟩) dLen dCap) (hs : a.eval s = .slice (some ad) sLen sCap) (hm : Nat.min sLen dLen = m)
    (cur : Array Value) (t : TypeId) (hg : w.heap[g]? = some (.cells cur t (0, 0))) (cs : List Value) (hn : cs.length = m * k)
    (hsrc : ∀ j v, cs[j]? = some v → w.cell? (ad.add j) = some v) (hfit : cs.length = cur.size) (h1 : ∀ v ∈ cs, v.oneCell' = true)
    (h : ∀ w', w'.heap[g]? = some (.cells cs.toArray t (0, 0)) → Below g w w' → w'.heap.size = w.heap.size → wpList P ops Q rest (a.put o.dst (goInt m)) w') : wpList P ops Q (o :: rest) a w := by
  refine wpList_plain hgd fun K hK => ?_
  have hrun := run_copyK (P := P) w dT sT o.type elem k m g dLen dCap ad sLen sCap cur t cs hu hsz hg hm hn hsrc hfit h1
  unfold Oper.wp
  simp [execOp, ho, resolve, invoke, builtin, hd, hs, hrun, Result.andThen]
  exact hK _ _ (h _ (setRow_heap w g cur _ t _ hg) ⟨rfl, rfl, rfl, by simp [World.setRow], fun j hj => setRow_other w g j _ (by omega)⟩ (by simp [World.setRow]))

theorem Try.info24 : (Try.prog.info? 24).map (fun i => (i.zero, i.size, i.bytes)) = some (some (.int .u64 0), 1, 8) := by kernel_rfl
theorem Try.size24 : (Try.prog.info? 24).map (·.size) = some 1 := by kernel_rfl

/-- The heights as cells. -/
def cellsOf (H : Nat → Nat) (n : Nat) : List Value := (List.range n).map fun j => .int .u64 (H j : Nat)
theorem cellsOf_len (H : Nat → Nat) (n : Nat) : (cellsOf H n).length = n := by simp [cellsOf]
theorem cellsOf_at (H : Nat → Nat) (n : Nat) : ∀ j v, (cellsOf H n)[j]? = some v → j < n ∧ v = .int .u64 (H j : Nat) := by
  intro j v hj
  have hlt : j < n := by have := (List.getElem?_eq_some_iff.1 hj).1; rwa [cellsOf_len] at this
  simp [cellsOf, hlt] at hj
  exact ⟨hlt, hj.symm⟩
theorem cellsOf_one (H : Nat → Nat) (n : Nat) : ∀ v ∈ cellsOf H n, v.oneCell' = true := by
  intro v hv
  obtain ⟨x, _, rfl⟩ := List.mem_map.1 hv
  rfl
theorem row_of_heap {w : World} {g n : Nat} {H : Nat → Nat} (h : w.heap[g]? = some (.cells (cellsOf H n).toArray 24 (0, 0))) : w.rowIs g 24 n (fun j => .int .u64 (H j : Nat)) :=
  ⟨_, h, by rw [List.size_toArray, cellsOf_len], fun i hi => by simp [cellsOf, hi]⟩

/-- The heights in a row of the call's own. -/
def Own (w wr : World) (N n : Nat) (H : Nat → Nat) : Prop := wr.rowIs N 24 n (fun j => .int .u64 (H j : Nat)) ∧ Below N w wr

/-- The product, in the walk's numbers: it fits. -/
theorem fits {n h : Nat} (hn : 1 ≤ n) (hN : n ≤ 131072) (hh : h ≤ lim n) : (0 : Int) ≤ (h : Int) * (n : Int) ∧ (h : Int) * (n : Int) + (n : Int) ≤ 18446744073709551616 := by
  have h1 := lim_fits hn hh (by unfold top; omega)
  unfold top at h1
  have h2 : ((h * n : Nat) : Int) = (h : Int) * (n : Int) := Int.natCast_mul h n
  exact ⟨by omega, by omega⟩

set_option maxHeartbeats 1000000 in
set_option maxRecDepth 100000 in
theorem walk3a (b off n c : Nat) (H : Nat → Nat) (w : World) (hn : 1 ≤ n) (hc : ∀ j, j < n → w.cell? ⟨b, off + j, none⟩ = some (.int .u64 (H j : Nat))) :
    Calls Try.prog 3 #[.slice (some ⟨b, off, none⟩) n c] w fun e w' => e = .returned (.bool true) ∧ Below w.heap.size w w' := by
  have q22 : ∀ (w : World) (a : Option Addr) (n c n' c' : Nat), (binOp .neq 22 (.slice a n c) (.slice none n' c')).run Try.prog w = .ok (.bool (!a.isNone)) w := fun w a n c n' c' => run_neq_slice_nil_any w _ _ a n c n' c' Try.underlying22
  by_cases hN : n ≤ 131072
  · have hmk := run_make_row' (P := Try.prog) 22 24 (.int .u64 0) 8 Try.underlying22 Try.info24 rfl .i64 .i64 n (by omega) (by omega)
    have hn0 : ((n : Int) == 0) = false := beq_false_of_ne (by omega)
    obtain ⟨N, hNw⟩ : ∃ N, w.heap.size = N := ⟨_, rfl⟩
    rw [hNw]
    have HC : Hid (∀ j, j < n → w.cell? ⟨b, off + j, none⟩ = some (.int .u64 (H j : Nat))) := hc
    clear hc
    go_enter Try.func3, Try.ntmps3
    go_wp2_with fail
    refine (zz5 _ _ _ w).mono ?_
    rintro e w1 ⟨⟨r, rfl⟩, hw⟩
    rw [hw]
    clear hw
    cases r with
    | false =>
      go_wp2
      go_ret
      exact ⟨rfl, Below.refl _ _⟩
    | true =>
      have HG : Hid ((w.alloc (.cells (madeCells #[.int .u64 0] n) 24)).heap[N]? = some (.cells (madeCells #[.int .u64 0] n) 24 (0, 0))) := by
        show (w.alloc _).heap[N]? = _
        rw [← hNw]; exact heap_alloc_new _ _
      go_wp2_with (refine wpList_copyK rfl _ _ 22 22 rfl 24 Try.underlying22 1 n Try.size24 N n n ⟨b, off, none⟩ n c rfl rfl (Nat.min_self n) (madeCells #[.int .u64 0] n) 24 HG.out (cellsOf H n) ?s0 ?s1 ?s3 (cellsOf_one H n) ?_)
      case s0 => rw [cellsOf_len]; omega
      case s1 =>
        intro j v hj
        obtain ⟨hlt, rfl⟩ := cellsOf_at H n j v hj
        rw [Addr.add_lit]
        exact Lib.cell?_alloc_some _ (HC.out j hlt)
      case s3 => rw [cellsOf_len, size_madeCells]
      intro w2 hg2 hb2 hs2
      have HO : Hid (Own w w2 N n H) := ⟨row_of_heap hg2, ((Below.refl N w).alloc (by omega) _).trans hb2⟩
      clear hg2 hb2 hs2 HG
      go_wp2_with fail
      refine (lim6 n hn hN w2).mono ?_
      rintro e w' ⟨rfl, hw⟩
      rw [hw]
      clear hw hmk q22
      obtain ⟨L, hL⟩ : ∃ L, lim n = L := ⟨_, rfl⟩
      rw [hL]
      have HL : Hid (lim n = L) := hL
      clear hL
      go_wp2
      go_loop [6] (fun t => ∃ k : Nat, k ≤ n ∧ t = .int .i64 k ∧ ∀ j, j < k → H j ≤ L) (fun t => n - (intOf t).toNat)
      case atStart => exact ⟨0, Nat.zero_le _, rfl, fun j hj => absurd hj (Nat.not_lt_zero _)⟩
      case round =>
        obtain ⟨k, hk, rfl, hle⟩ := hrel
        have HLE : Hid (∀ j, j < k → H j ≤ L) := hle
        clear hle
        by_cases hlt : k < n
        · have ck : w2.cell? ⟨N, k, none⟩ = some (.int .u64 (H k : Nat)) := HO.out.1.cell hlt
          obtain ⟨h, hh⟩ : ∃ h, H k = h := ⟨_, rfl⟩
          rw [hh] at ck
          have HH : Hid (H k = h) := hh
          clear hh
          by_cases hhl : h ≤ L
          · have HL2 : Hid (∀ j, j < k + 1 → H j ≤ L) := fun j hj => by
              by_cases e : j = k
              · subst e; rw [HH.out]; exact hhl
              · exact HLE.out j (by omega)
            go_wp2
            go_round
            case rel => exact ⟨k + 1, by omega, by go_num, HL2.out⟩
            case measure => simp [intOf]; omega
          · go_wp2
            go_ret
            exact ⟨rfl, HO.out.2⟩
        · have hkn : k = n := by omega
          subst hkn
          have HLA : Hid (∀ j, j < k → H j ≤ lim k) := fun j hj => by rw [HL.out]; exact HLE.out j hj
          go_wp2_with fail
          refine (height7 N k k H w2 hn hN (fun j hj => HO.out.1.cell hj) HLA.out).mono ?_
          rintro e w' ⟨⟨low, f, hi, rfl⟩, hw⟩
          rw [hw]
          clear hw
          have HI : Hid (HIs H k low f) := hi
          obtain ⟨r, hr⟩ : ∃ r, low * k + f = r := ⟨_, rfl⟩
          rw [hr]
          have HR : Hid (low * k + f = r) := hr
          clear hr hi
          go_wp2
          go_loop [8, 9] (fun d t => ∃ i : Nat, i ≤ k ∧ t = .int .i64 i ∧ d = .bool (decide (f < i))) (fun _ t => k - (intOf t).toNat)
          case atStart => exact ⟨0, Nat.zero_le _, rfl, rfl⟩
          case round =>
            obtain ⟨i, hi, rfl, rfl⟩ := hrel
            by_cases hil : i < k
            · have ci : w2.cell? ⟨N, i, none⟩ = some (.int .u64 (H i : Nat)) := HO.out.1.cell hil
              obtain ⟨hp0, hp1⟩ := fits hn hN (HLA.out i hil)
              obtain ⟨hge, hiff⟩ := HI.out.ge hil
              rw [HR.out] at hge hiff
              have hcast : ((H i * k + i : Nat) : Int) = (H i : Int) * (k : Int) + (i : Int) := by rw [Int.natCast_add, Int.natCast_mul]
              generalize H i = h at ci hp0 hp1 hge hiff hcast
              have hge' : (r : Int) ≤ (h : Int) * (k : Int) + (i : Int) := by rw [← hcast]; omega
              by_cases hif : i = f
              · have q : (((h : Int) * (k : Int) + (i : Int)) == (r : Int)) = true := by
                  rw [← hcast, hiff.2 hif]; simp
                have HD : Hid (decide (f < i + 1) = true) := decide_eq_true (show f < i + 1 by omega)
                clear hiff hcast hge hif
                go_wp2
                go_round
                case rel => exact ⟨i + 1, by omega, by go_num, by rw [HD.out]⟩
                case measure => simp [intOf]; omega
              · have q : (((h : Int) * (k : Int) + (i : Int)) == (r : Int)) = false := by
                  rw [← hcast]
                  exact beq_false_of_ne (fun e => hif (hiff.1 (by omega)))
                have HD : Hid (decide (f < i + 1) = decide (f < i)) := by
                  show decide (f < i + 1) = decide (f < i)
                  by_cases e : f < i
                  · rw [decide_eq_true e, decide_eq_true (by omega)]
                  · rw [decide_eq_false e, decide_eq_false (by omega)]
                clear hiff hcast hge hif
                go_wp2
                go_round
                case rel => exact ⟨i + 1, by omega, by go_num, by rw [HD.out]⟩
                case measure => simp [intOf]; omega
            · have hd : decide (f < i) = true := decide_eq_true (by have := HI.out.lt; omega)
              rw [hd]
              clear hd
              go_wp2
              go_ret
              exact ⟨rfl, HO.out.2⟩
  · go_enter Try.func3, Try.ntmps3
    go_wp2_with fail
    refine (zz5 _ _ _ w).mono ?_
    rintro e w1 ⟨⟨r, rfl⟩, hw⟩
    rw [hw]
    cases r
    all_goals (go_wp2; go_ret; exact ⟨rfl, Below.refl _ _⟩)
end Go.Proofs.Qxb6626504a
