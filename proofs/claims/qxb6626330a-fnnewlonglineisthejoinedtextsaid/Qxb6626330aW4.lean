/-
  Seat b6626330a: slices.Clone at [][]byte, (*gatherer).pieces.
-/
import Derived.Test.Qxb6626330aW3
import Derived.Deep.Slices
namespace Go.Proofs.Qxb6626330a
open Go.RowKit Go.Deep

/-- A header that leads to the bytes l. -/
def Hd (w : World) (v : Value) (l : List Int) : Prop := ∃ a c, v = .slice a l.length c ∧ Byt w a l

theorem Hd.keep {w w' : World} {v : Value} {l : List Int} (h : Hd w v l) (hb : Below w.heap.size w w') : Hd w' v l := by
  obtain ⟨a, c, rfl, h⟩ := h
  exact ⟨a, c, rfl, h.keep hb⟩

theorem blk_hdrs {w : World} {b off : Nat} {ls : List (List Int)} (h : ∀ i, i < ls.length → ∃ a' c', w.cell? ⟨b, off + i, none⟩ = some (.slice a' (ls.getD i []).length c') ∧ Byt w a' (ls.getD i [])) :
    ∃ hs : List Value, hs.length = ls.length ∧ (∀ i, i < ls.length → Hd w (hs.getD i (.bool false)) (ls.getD i [])) ∧ (∀ j u, hs[j]? = some u → w.cell? ⟨b, off + j, none⟩ = some u) ∧ ∀ u ∈ hs, u.oneCell' = true := by
  have each : ∀ i, i < ls.length → ∃ v, w.cell? ⟨b, off + i, none⟩ = some v ∧ Hd w v (ls.getD i []) ∧ v.oneCell' = true := fun i hi => by
    obtain ⟨a', c', h1, h2⟩ := h i hi
    exact ⟨_, h1, ⟨a', c', rfl, h2⟩, rfl⟩
  obtain ⟨V, hV⟩ := choose_lt each
  refine ⟨(List.range ls.length).map V, by simp, fun i hi => ?_, fun j u hj => ?_, fun u hu => ?_⟩
  · have e : ((List.range ls.length).map V).getD i (.bool false) = V i := by simp [List.getD, hi]
    rw [e]
    exact (hV i hi).2.1
  · have hlt : j < ls.length := by have := (List.getElem?_eq_some_iff.1 hj).1; simpa using this
    have e : ((List.range ls.length).map V)[j]? = some (V j) := by simp [hlt]
    rw [e] at hj
    cases hj
    exact (hV j hlt).1
  · obtain ⟨i, hi, rfl⟩ := List.mem_map.1 hu
    exact (hV i (by simpa using hi)).2.2

theorem blk_of_own {w : World} {B n : Nat} {v : Value} {hs : List Value} {ls : List (List Int)} (h : w.ownsRow B 23 1 v n hs) (hn : n = ls.length) (hh : ∀ i, i < ls.length → Hd w (hs.getD i (.bool false)) (ls.getD i [])) :
    ∃ a c, v = .slice a ls.length c ∧ Blk w a ls ∧ ∀ x, a = some x → B ≤ x.block := by
  subst hn
  have hl : hs.length = ls.length := by have := h.1; omega
  rcases h.2 with ⟨rfl, hn⟩ | ⟨g, cap, cur, rfl, hg, _⟩
  · exact ⟨none, 0, by rw [hn], .inl (List.eq_nil_of_length_eq_zero hn), fun x hx => by cases hx⟩
  · refine ⟨_, cap, rfl, .inr ⟨g, 0, rfl, fun i hi => ?_⟩, fun x hx => by cases hx; exact hg⟩
    obtain ⟨a', c', e, hb⟩ := hh i hi
    refine ⟨a', c', ?_, hb⟩
    have := h.cells (g := g) rfl i (hs.getD i (.bool false)) (by simp [List.getD, List.getElem?_eq_getElem (show i < hs.length by omega)])
    rw [Addr.add_lit, e] at this
    exact this

/-- slices.Clone: the same headers in memory of the call's own. -/
theorem clone21 (a : Option Addr) (c : Nat) (ls : List (List Int)) (w : World) (hn : ls.length ≤ 1048577) (h0 : Blk w a ls) :
    Calls Try.prog 21 #[.slice a ls.length c] w fun e w' => (∃ v hs, e = .returned v ∧ w'.ownsRow w.heap.size 23 1 v ls.length hs ∧ ∀ i, i < ls.length → Hd w (hs.getD i (.bool false)) (ls.getD i [])) ∧ Below w.heap.size w w' := by
  have q22 : ∀ (w : World) (a : Option Addr) (n c n' c' : Nat), (binOp .eql 22 (.slice a n c) (.slice none n' c')).run Try.prog w = .ok (.bool a.isNone) w := fun w a n c n' c' => Lib.run_eql_slice_nil w _ _ a n c n' c' Try.underlying22
  obtain ⟨i0, hi, hz0, hz1, hz2⟩ := info_parts Try.info23
  cases a with
  | none =>
    have hl : ls = [] := by
      rcases h0 with h | ⟨_, _, h, _⟩
      · exact h
      · cases h
    subst hl
    go_enter Try.func21, Try.ntmps21
    go_wp2
    go_ret
    exact ⟨⟨_, [], rfl, World.ownsRow_nil _ _ _ _, fun i hi => absurd hi (Nat.not_lt_zero _)⟩, Below.refl _ _⟩
  | some x =>
    obtain ⟨hs, hlen, hh, hc, h1⟩ : ∃ hs : List Value, hs.length = ls.length ∧ (∀ i, i < ls.length → Hd w (hs.getD i (.bool false)) (ls.getD i [])) ∧ (∀ j u, hs[j]? = some u → w.cell? (x.add j) = some u) ∧ ∀ u ∈ hs, u.oneCell' = true := by
      rcases h0 with h | ⟨b, off, h, hc⟩
      · subst h
        exact ⟨[], rfl, fun i hi => absurd hi (Nat.not_lt_zero _), fun j u hj => by simp at hj, fun u hu => by simp at hu⟩
      · obtain ⟨hs, h1, h2, h3, h4⟩ := blk_hdrs hc
        cases h
        exact ⟨hs, h1, h2, fun j u hj => by rw [Addr.add_lit]; exact h3 j u hj, h4⟩
    have HA : Hid (∀ j u, hs[j]? = some u → w.cell? (x.add j) = some u) := hc
    have HH : Hid (∀ i, i < ls.length → Hd w (hs.getD i (.bool false)) (ls.getD i [])) := hh
    have HL : Hid (hs.length = ls.length) := hlen
    clear hc hh h0 hlen
    go_enter Try.func21, Try.ntmps21
    go_wp2_with (at_builtin; refine wpList_append_own _ rfl _ _ 22 rfl w.heap.size 23 i0 (.slice none 0 0) 1 24 Try.underlying22 hi hz0 hz1 hz2 rfl (by decide) _ _ _ rfl (World.ownsRow_made w #[] 0 (Nat.le_refl _) (Nat.zero_le _) rfl) x ls.length c hs rfl ?qc1 ?qc2 ?qc3 ?qc4 ?qc5 ?qc6 ?_)
    case qc1 => rw [HL.out]; omega
    case qc2 => intro j u hj; exact Lib.cell?_alloc_some _ (HA.out j u hj)
    case qc3 => exact h1
    case qc4 => unfold maxLen; omega
    case qc5 => omega
    case qc6 => simp
    intro v' w1 hown hgrow _
    have hown' : w1.ownsRow w.heap.size 23 1 v' ls.length hs := by simpa using hown
    have hbel : Below w.heap.size w w1 := ((Below.refl _ w).alloc (Nat.le_refl _) _).grown hgrow (by simp) (by intro k hk; simp [Value.ownBlock] at hk; omega)
    clear hown hgrow
    go_wp2
    go_ret
    exact ⟨⟨v', hs, rfl, hown', HH.out⟩, hbel⟩

/-- The pieces of a gatherer: its full blocks, and the block being filled if it holds anything. -/
def pcs (ls : List (List Int)) (lb : List Int) : List (List Int) := if lb.length = 0 then ls else ls ++ [lb]

set_option maxHeartbeats 400000 in
/-- (*gatherer).pieces. -/
theorem pieces19 (g : Nat) (a0 a1 : Option Addr) (c0 c1 : Nat) (ls : List (List Int)) (lb : List Int) (w : World) (hn : ls.length ≤ 1048576)
    (k0 : w.cell? ⟨g, 0, none⟩ = some (.slice a0 ls.length c0)) (k2 : w.cell? ⟨g, 2, none⟩ = some (.slice a1 lb.length c1)) (h0 : Blk w a0 ls) (h1 : Byt w a1 lb) :
    Calls Try.prog 19 #[.pointer (some ⟨g, 0, none⟩)] w fun e w' => (∃ a' c', e = .returned (.slice a' (pcs ls lb).length c') ∧ Blk w' a' (pcs ls lb) ∧ ∀ x, a' = some x → w.heap.size ≤ x.block) ∧ Below w.heap.size w w' := by
  obtain ⟨i0, hi, hz0, hz1, hz2⟩ := info_parts Try.info23
  by_cases hl : lb.length = 0
  · have e : pcs ls lb = ls := by unfold pcs; rw [if_pos hl]
    rw [e]
    go_enter Try.func19, Try.ntmps19
    go_wp2_with fail
    refine (clone21 a0 c0 ls w (by omega) h0).mono ?_
    rintro e w1 ⟨⟨v, hs, rfl, hown, hh⟩, hbel⟩
    obtain ⟨a', c', rfl, hblk, hx⟩ := blk_of_own hown rfl (fun i hi => (hh i hi).keep hbel)
    have k2' := cell_keep hbel k2
    rw [hl] at k2'
    clear hown hh
    go_wp2
    go_ret
    exact ⟨⟨_, _, rfl, hblk, hx⟩, hbel⟩
  · have e : pcs ls lb = ls ++ [lb] := by unfold pcs; rw [if_neg hl]
    rw [e]
    have hpos : (0 : Int) < (lb.length : Int) := by omega
    clear e
    go_enter Try.func19, Try.ntmps19
    go_wp2_with fail
    refine (clone21 a0 c0 ls w (by omega) h0).mono ?_
    rintro e w1 ⟨⟨v, hs, rfl, hown, hh⟩, hbel⟩
    have k2' := cell_keep hbel k2
    have hsz := hbel.size
    have HH : Hid (∀ i, i < ls.length → Hd w (hs.getD i (.bool false)) (ls.getD i [])) := hh
    clear hh
    go_wp2_with (at_builtin; refine wpList_append_own _ rfl _ _ 22 rfl w.heap.size 23 i0 (.slice none 0 0) 1 24 Try.underlying22 hi hz0 hz1 hz2 rfl (by decide) _ _ _ rfl (hown.alloc _) ⟨w1.heap.size, 0, none⟩ 1 1 [.slice a1 lb.length c1] rfl rfl (cell_one_new _ _ _) ?d2 ?d3 ?d4 ?d5 ?_)
    case d2 => intro u hu; simp at hu; subst hu; rfl
    case d3 => unfold maxLen; omega
    case d4 => omega
    case d5 => simp; omega
    intro v' w2 hown2 hgrow2 _
    have hbel2 := grow_below hbel hsz hown hgrow2
    have hlen : hs.length = ls.length := by have := hown.1; omega
    obtain ⟨a', c', e', hblk, hx⟩ := blk_of_own (ls := ls ++ [lb]) hown2 (by simp) (fun i hi => by
      by_cases hlt : i < ls.length
      · have e1 : (hs ++ [Value.slice a1 lb.length c1]).getD i (.bool false) = hs.getD i (.bool false) := by simp [List.getD, List.getElem?_append_left (show i < hs.length by omega)]
        have e2 : (ls ++ [lb]).getD i [] = ls.getD i [] := by simp [List.getD, List.getElem?_append_left hlt]
        rw [e1, e2]
        exact (HH.out i hlt).keep hbel2
      · have hil : i = ls.length := by simp at hi; omega
        subst hil
        have e1 : (hs ++ [Value.slice a1 lb.length c1]).getD ls.length (.bool false) = .slice a1 lb.length c1 := by rw [← hlen]; simp [List.getD]
        have e2 : (ls ++ [lb]).getD ls.length [] = lb := by simp [List.getD]
        rw [e1, e2]
        exact ⟨_, _, rfl, h1.keep hbel2⟩)
    subst e'
    clear hown hown2 hgrow2 HH hlen k2' hbel
    go_wp2
    go_ret
    exact ⟨⟨_, _, rfl, hblk, hx⟩, hbel2⟩
end Go.Proofs.Qxb6626330a
