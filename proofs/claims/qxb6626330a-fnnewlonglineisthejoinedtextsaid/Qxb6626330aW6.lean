/-
  Seat b6626330a: a longLine in memory; (*longLine).search, .locate, .at.
-/
import Derived.Test.Qxb6626330aW5
namespace Go.Proofs.Qxb6626330a
open Go.RowKit

theorem cell_set_i64 {w : World} {p q : Addr} {z : Int} {u v : Value} (hp : w.cell? p = some (.int .i64 z)) (hq : w.cell? q = some u) (hu : ∀ y, u ≠ .int .i64 y) : (w.setCell p v).cell? q = some u := by
  have hpq : p ≠ q := fun e => by rw [e, hq] at hp; cases hp; exact hu z rfl
  exact (World.cell?_setCell_other w p q v hpq).trans hq

theorem Byt.setI64 {w : World} {a : Option Addr} {l : List Int} (h : Byt w a l) {p : Addr} {z : Int} (hp : w.cell? p = some (.int .i64 z)) (v : Value) : Byt (w.setCell p v) a l := by
  rcases h with rfl | ⟨b, off, rfl, hc⟩
  · exact .inl rfl
  · exact .inr ⟨b, off, rfl, fun i hi => cell_set_i64 hp (hc i hi) (fun y h => by cases h)⟩

theorem Blk.setI64 {w : World} {a : Option Addr} {ls : List (List Int)} (h : Blk w a ls) {p : Addr} {z : Int} (hp : w.cell? p = some (.int .i64 z)) (v : Value) : Blk (w.setCell p v) a ls := by
  rcases h with rfl | ⟨b, off, rfl, hc⟩
  · exact .inl rfl
  · refine .inr ⟨b, off, rfl, fun i hi => ?_⟩
    obtain ⟨a', c', h1, h2⟩ := hc i hi
    exact ⟨a', c', cell_set_i64 hp h1 (fun y h => by cases h), h2.setI64 hp v⟩

/-- A longLine in block L: its pieces, its starts, its length; 'en': its end; 'rd': the block looked up last. -/
def LL (w : World) (L : Nat) (ps : List (List Int)) (en rd : Nat) : Prop :=
  ∃ (F : Nat → Value) (ab : Option Addr) (cb s cs : Nat), w.rowIs L 42 5 F ∧ F 0 = .slice ab ps.length cb ∧ F 1 = .slice (some ⟨s, 0, none⟩) (ps.length + 1) cs ∧ F 2 = .int .i64 (pre ps ps.length : Nat) ∧ F 3 = .int .i64 (en : Nat) ∧ F 4 = .int .i64 (rd : Nat) ∧
    Blk w ab ps ∧ s ≠ L ∧ ∀ j, j ≤ ps.length → w.cell? ⟨s, j, none⟩ = some (.int .i64 (pre ps j : Nat))

theorem LL.cells {w : World} {L : Nat} {ps : List (List Int)} {en rd : Nat} (h : LL w L ps en rd) :
    ∃ (ab : Option Addr) (cb s cs : Nat), w.cell? ⟨L, 0, none⟩ = some (.slice ab ps.length cb) ∧ w.cell? ⟨L, 1, none⟩ = some (.slice (some ⟨s, 0, none⟩) (ps.length + 1) cs) ∧ w.cell? ⟨L, 2, none⟩ = some (.int .i64 (pre ps ps.length : Nat)) ∧ w.cell? ⟨L, 3, none⟩ = some (.int .i64 (en : Nat)) ∧
      w.cell? ⟨L, 4, none⟩ = some (.int .i64 (rd : Nat)) ∧ Blk w ab ps ∧ s ≠ L ∧ (∀ j, j ≤ ps.length → w.cell? ⟨s, j, none⟩ = some (.int .i64 (pre ps j : Nat))) ∧ (∀ j, w.frozen? ⟨L, j, none⟩ = false) ∧ L < w.heap.size := by
  obtain ⟨F, ab, cb, s, cs, hr, h0, h1, h2, h3, h4, hb, hs, hc⟩ := h
  exact ⟨ab, cb, s, cs, by rw [hr.cell (by omega), h0], by rw [hr.cell (by omega), h1], by rw [hr.cell (by omega), h2], by rw [hr.cell (by omega), h3], by rw [hr.cell (by omega), h4], hb, hs, hc, fun j => hr.frozen j, hr.lt⟩

theorem LL.setRead {w : World} {L : Nat} {ps : List (List Int)} {en rd : Nat} (h : LL w L ps en rd) (k : Nat) : LL (w.setCell ⟨L, 4, none⟩ (.int .i64 (k : Nat))) L ps en k := by
  obtain ⟨F, ab, cb, s, cs, hr, h0, h1, h2, h3, h4, hb, hs, hc⟩ := h
  have hp : w.cell? ⟨L, 4, none⟩ = some (.int .i64 (rd : Nat)) := by rw [hr.cell (by omega), h4]
  exact ⟨_, ab, cb, s, cs, hr.set 4 _, by simpa using h0, by simpa using h1, by simpa using h2, by simpa using h3, by simp, hb.setI64 hp _, hs,
    fun j hj => (World.cell?_of_block (w := w) (Below.heap_setCell _ _ _ _ hs)).trans (hc j hj)⟩

theorem LL.setEnd {w : World} {L : Nat} {ps : List (List Int)} {en rd : Nat} (h : LL w L ps en rd) (k : Nat) : LL (w.setCell ⟨L, 3, none⟩ (.int .i64 (k : Nat))) L ps k rd := by
  obtain ⟨F, ab, cb, s, cs, hr, h0, h1, h2, h3, h4, hb, hs, hc⟩ := h
  have hp : w.cell? ⟨L, 3, none⟩ = some (.int .i64 (en : Nat)) := by rw [hr.cell (by omega), h3]
  exact ⟨_, ab, cb, s, cs, hr.set 3 _, by simpa using h0, by simpa using h1, by simpa using h2, by simp, by simpa using h4, hb.setI64 hp _, hs,
    fun j hj => (World.cell?_of_block (w := w) (Below.heap_setCell _ _ _ _ hs)).trans (hc j hj)⟩

theorem LL.keep {w w' : World} {L : Nat} {ps : List (List Int)} {en rd : Nat} (h : LL w L ps en rd) (hb : Below w.heap.size w w') : LL w' L ps en rd := by
  obtain ⟨F, ab, cb, s, cs, hr, h0, h1, h2, h3, h4, hbl, hs, hc⟩ := h
  exact ⟨F, ab, cb, s, cs, hr.of_block (hb.block _ hr.lt), h0, h1, h2, h3, h4, hbl.keep hb, hs, fun j hj => cell_keep hb (hc j hj)⟩

/-! ### The starts of blocks that hold something -/
/-- Every piece holds at least one byte. -/
def Full (ps : List (List Int)) : Prop := ∀ k, k < ps.length → 0 < (ps.getD k []).length

theorem pre_step {ps : List (List Int)} (hf : Full ps) {k : Nat} (hk : k < ps.length) : pre ps k < pre ps (k + 1) := by
  have := hf k hk
  rw [pre_succ ps k hk]
  omega

theorem pre_mono (ps : List (List Int)) : ∀ i j, i ≤ j → j ≤ ps.length → pre ps i ≤ pre ps j := by
  intro i j hij hj
  induction j with
  | zero => have : i = 0 := by omega
            subst this; exact Nat.le_refl _
  | succ j ih =>
    by_cases h : i = j + 1
    · subst h; exact Nat.le_refl _
    · have h1 := ih (by omega) (by omega)
      rw [pre_succ ps j (by omega)]
      omega

theorem pre_inj {ps : List (List Int)} {i k : Nat} {x : Nat} (hi : i ≤ ps.length) (h : pre ps i ≤ x) (h2 : x < pre ps k) : i < k := by
  by_cases hlt : i < k
  · exact hlt
  · have := pre_mono ps k i (by omega) hi
    omega

/-- Where offset x lies: in block k. -/
def In (ps : List (List Int)) (x k : Nat) : Prop := k < ps.length ∧ pre ps k ≤ x ∧ x < pre ps (k + 1)

theorem flat_at (ps : List (List Int)) (x k : Nat) (h : In ps x k) : (ps.getD k []).getD (x - pre ps k) 0 = ps.flatten.getD x 0 := by
  obtain ⟨hk, h1, h2⟩ := h
  have hx := h2
  rw [pre_succ ps k hk] at hx
  have e : ps.flatten = (ps.take k).flatten ++ (ps.drop k).flatten := by rw [← List.flatten_append, List.take_append_drop]
  have e2 : ps.drop k = ps.getD k [] :: ps.drop (k + 1) := by rw [List.drop_eq_getElem_cons hk, List.getD_eq_getElem?_getD, List.getElem?_eq_getElem hk]; rfl
  have hl : (ps.take k).flatten.length = pre ps k := rfl
  rw [e, e2, List.flatten_cons]
  simp only [List.getD_eq_getElem?_getD]
  rw [List.getElem?_append_right (by omega), hl, List.getElem?_append_left (by simp only [List.getD_eq_getElem?_getD] at hx; omega)]

theorem in_of_bs {ps : List (List Int)} (hf : Full ps) {x lo : Nat} (hx : x < pre ps ps.length) (hlo : lo ≤ ps.length) (h1 : ∀ t, t < lo → pre ps t < x) (h2 : x ≤ pre ps lo) : (pre ps lo = x → In ps x lo) ∧ (pre ps lo ≠ x → 1 ≤ lo ∧ In ps x (lo - 1)) := by
  refine ⟨fun e => ?_, fun e => ?_⟩
  · have hl : lo < ps.length := by
      by_cases h : lo < ps.length
      · exact h
      · have : lo = ps.length := by omega
        subst this; omega
    have := pre_step hf hl
    exact ⟨hl, by omega, by omega⟩
  · have hp : 1 ≤ lo := by
      by_cases h : 1 ≤ lo
      · exact h
      · have : lo = 0 := by omega
        subst this
        rw [pre_zero] at h2 e
        omega
    have := h1 (lo - 1) (by omega)
    refine ⟨hp, by omega, by omega, ?_⟩
    rw [show lo - 1 + 1 = lo by omega]
    omega

end Go.Proofs.Qxb6626330a
