/-
  Seat b6626330a: the shim's functions: ZZnewGatherer, ZZnewLongLine, and a longLine's fields.
-/
import Derived.Test.Qxb6626330aW9
namespace Go.Proofs.Qxb6626330a
open Go.RowKit

/-- ZZnewGatherer: a new gatherer. -/
theorem gath9 (a0 a1 : Option Addr) (n0 c0 n1 c1 : Nat) (z : Int) (w : World) :
    Calls Try.prog 9 #[.slice a0 n0 c0, .int .i64 z, .slice a1 n1 c1] w fun e w' => e = .returned (.pointer (some ⟨w.heap.size, 0, none⟩)) ∧ w' = w.alloc (.cells #[.slice a0 n0 c0, .int .i64 z, .slice a1 n1 c1] 40) := by
  go_enter Try.func9, Try.ntmps9
  go_wp2
  go_ret
  exact ⟨rfl, rfl⟩

/-- ZZnewGatherer and ZZnewLongLine, one behind the other: what the second is told. -/
theorem gath_cells (a0 a1 : Option Addr) (n0 c0 n1 c1 : Nat) (z : Int) (w : World) :
    (w.alloc (.cells #[.slice a0 n0 c0, .int .i64 z, .slice a1 n1 c1] 40)).cell? ⟨w.heap.size, 0, none⟩ = some (.slice a0 n0 c0) ∧ (w.alloc (.cells #[.slice a0 n0 c0, .int .i64 z, .slice a1 n1 c1] 40)).cell? ⟨w.heap.size, 2, none⟩ = some (.slice a1 n1 c1) ∧
    Below w.heap.size w (w.alloc (.cells #[.slice a0 n0 c0, .int .i64 z, .slice a1 n1 c1] 40)) := by
  have hr := World.rowIs_alloc w #[.slice a0 n0 c0, .int .i64 z, .slice a1 n1 c1] 40 (fun j => (#[Value.slice a0 n0 c0, .int .i64 z, .slice a1 n1 c1] : Array Value).getD j (.bool false)) (fun j hj => by
    match j, hj with
    | 0, _ => rfl
    | 1, _ => rfl
    | 2, _ => rfl)
  exact ⟨hr.cell (i := 0) (by simp), hr.cell (i := 2) (by simp), (Below.refl _ _).alloc (Nat.le_refl _) _⟩

/-- A gatherer in memory. -/
def Gath (w : World) (g : Nat) (ls : List (List Int)) (lb : List Int) : Prop :=
  ∃ a0 c0 a1 c1, w.cell? ⟨g, 0, none⟩ = some (.slice a0 ls.length c0) ∧ w.cell? ⟨g, 2, none⟩ = some (.slice a1 lb.length c1) ∧ Blk w a0 ls ∧ Byt w a1 lb

theorem Gath.mk (ls : List (List Int)) (lb : List Int) (a0 a1 : Option Addr) (n0 c0 n1 c1 : Nat) (z : Int) (w : World) (e0 : ls.length = n0) (e1 : lb.length = n1) (h0 : Blk w a0 ls) (h1 : Byt w a1 lb) : Gath (w.alloc (.cells #[.slice a0 n0 c0, .int .i64 z, .slice a1 n1 c1] 40)) w.heap.size ls lb := by
  subst e0 e1
  obtain ⟨e0, e2, hb⟩ := gath_cells a0 a1 ls.length c0 lb.length c1 z w
  exact ⟨a0, c0, a1, c1, e0, e2, h0.keep hb, h1.keep hb⟩

/-- ZZnewLongLine. -/
theorem new10 (g : Nat) (ls : List (List Int)) (lb : List Int) (w : World) (hn : ls.length ≤ 1048576) (hT : (text ls lb).length ≤ 1048576) (hf : Full ls) (hg : Gath w g ls lb) :
    Calls Try.prog 10 #[.pointer (some ⟨g, 0, none⟩)] w fun e w' => Made w (pcs ls lb) (endOf (text ls lb)) e w' := by
  obtain ⟨a0, c0, a1, c1, k0, k2, h0, h1⟩ := hg
  go_enter Try.func10, Try.ntmps10
  go_wp2_with fail
  refine (new18 g a0 a1 c0 c1 ls lb w hn hT hf k0 k2 h0 h1).mono ?_
  rintro e w' ⟨⟨L, rd, rfl, hl⟩, hb⟩
  go_wp2
  go_ret
  exact made_mk L rd hl hb

theorem get11 (L : Nat) (v : Value) (w : World) (a : Option Addr) (n c : Nat) (hv : v = .slice a n c) (h : w.cell? ⟨L, 0, none⟩ = some v) : Calls Try.prog 11 #[.pointer (some ⟨L, 0, none⟩)] w fun e w' => e = .returned v ∧ w' = w := by
  subst hv
  go_enter Try.func11, Try.ntmps11
  go_wp2
  go_ret
  exact ⟨rfl, rfl⟩

theorem get12 (L : Nat) (w : World) (a : Option Addr) (n c : Nat) (h : w.cell? ⟨L, 1, none⟩ = some (.slice a n c)) : Calls Try.prog 12 #[.pointer (some ⟨L, 0, none⟩)] w fun e w' => e = .returned (.slice a n c) ∧ w' = w := by
  go_enter Try.func12, Try.ntmps12
  go_wp2
  go_ret
  exact ⟨rfl, rfl⟩

theorem get14 (L : Nat) (w : World) (z : Int) (h : w.cell? ⟨L, 2, none⟩ = some (.int .i64 z)) : Calls Try.prog 14 #[.pointer (some ⟨L, 0, none⟩)] w fun e w' => e = .returned (.int .i64 z) ∧ w' = w := by
  go_enter Try.func14, Try.ntmps14
  go_wp2
  go_ret
  exact ⟨rfl, rfl⟩

theorem get15 (L : Nat) (w : World) (z : Int) (h : w.cell? ⟨L, 3, none⟩ = some (.int .i64 z)) : Calls Try.prog 15 #[.pointer (some ⟨L, 0, none⟩)] w fun e w' => e = .returned (.int .i64 z) ∧ w' = w := by
  go_enter Try.func15, Try.ntmps15
  go_wp2
  go_ret
  exact ⟨rfl, rfl⟩

theorem endOf_bounds (T : List Int) : endOf T ≤ T.length ∧ T.length ≤ endOf T + 2 := by
  unfold endOf
  split
  · split <;> omega
  · omega

theorem text_pcs (ls : List (List Int)) (lb : List Int) : text (pcs ls lb) [] = text ls lb := by
  rw [show text (pcs ls lb) [] = (pcs ls lb).flatten from by unfold text; simp, flat_pcs]

theorem byt_take {w : World} {a : Option Addr} {l : List Int} (h : Byt w a l) (c : Nat) : Byt w a (l.take c) := by
  rcases h with rfl | ⟨b, off, rfl, hc⟩
  · exact .inl (by simp)
  · refine .inr ⟨b, off, rfl, fun i hi => ?_⟩
    simp at hi
    rw [hc i (by omega)]
    have hic : i < c := by omega
    simp [List.getD, hic]

theorem byt_drop {w : World} {b off : Nat} {l : List Int} (h : Byt w (some ⟨b, off, none⟩) l) (c : Nat) : Byt w (some ⟨b, off + c, none⟩) (l.drop c) := by
  rcases h with rfl | ⟨b', off', hb, hc⟩
  · exact .inl (by simp)
  · cases hb
    refine .inr ⟨b, off + c, rfl, fun i hi => ?_⟩
    simp at hi
    have := hc (c + i) (by omega)
    rw [← Nat.add_assoc] at this
    rw [this]
    simp [List.getD, List.getElem?_drop]

/-- A slice of one header, laid in a new block. -/
theorem blk_one {w : World} {a : Option Addr} {n c : Nat} {l : List Int} (h : Byt w a l) (hn : l.length = n) : Blk (w.alloc (.cells #[.slice a n c] 23)) (some ⟨w.heap.size, 0, none⟩) [l] := by
  subst hn
  refine .inr ⟨w.heap.size, 0, rfl, fun i hi => ?_⟩
  have e : i = 0 := by simp at hi; omega
  subst e
  have hr := World.rowIs_alloc w #[.slice a l.length c] 23 (fun _ => .slice a l.length c) (fun j hj => by
    match j, hj with
    | 0, _ => rfl)
  exact ⟨a, c, hr.cell (i := 0) (by simp), h.keep ((Below.refl _ _).alloc (Nat.le_refl _) _)⟩

theorem text_one (T : List Int) (c : Nat) : text [T.take c] (T.drop c) = T := by unfold text; simp
theorem text_none (T : List Int) : text [] T = T := by unfold text; simp
theorem full_one {T : List Int} {c : Nat} (h : 0 < c) (hT : c ≤ T.length) : Full [T.take c] := by
  intro k hk
  have e : k = 0 := by simp at hk; omega
  subst e
  simp
  omega
theorem full_none : Full [] := fun k hk => by simp at hk

/-- What the tail of the law needs of pieces that hold T. -/
theorem pcs_facts {ls : List (List Int)} {lb T : List Int} (h : text ls lb = T) : text (pcs ls lb) [] = T ∧ pre (pcs ls lb) (pcs ls lb).length = T.length ∧ (pcs ls lb).length ≤ ls.length + 1 := by
  subst h
  exact ⟨text_pcs ls lb, pre_pcs ls lb, pcs_le ls lb⟩
end Go.Proofs.Qxb6626330a
