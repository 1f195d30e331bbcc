/-
  Seat b6626438a: the law FnBuiltinCatalogueFreshOnEveryCall, walked.
-/
import Derived.Test.Qxb6626438aCat
namespace Go.Proofs.Qxb6626438a
open Go.RowKit

/-- The two first catalogues, as they were made. -/
def Two (w wr : World) (N : Nat) : Prop := wr.rowIs N 25 36 C ∧ wr.rowIs (N + 1) 25 36 C ∧ Below N w wr ∧ wr.heap.size = N + 2

theorem two_start (w : World) (N : Nat) (hN : w.heap.size = N) : Two w ((w.alloc (.cells catC 25)).alloc (.cells catC 25)) N := by
  subst hN
  refine ⟨(cat_row w).alloc _, ?_, ((Below.refl _ w).alloc (Nat.le_refl _) _).alloc (by simp) _, by simp⟩
  have := cat_row (w.alloc (.cells catC 25))
  have e : (w.alloc (.cells catC 25)).heap.size = w.heap.size + 1 := by simp
  rw [e] at this
  exact this

theorem Two.drewN {w wr : World} {N : Nat} (h : Two w wr N) (q : Nat) : Two w (wr.drewN q) N := by
  induction q with
  | zero => exact h
  | succ n ih => exact ⟨ih.1, ih.2.1, ih.2.2.1.drew, ih.2.2.2⟩

/-- Entry 2 alone has the code role-read, and its module is rolebook. -/
theorem code_read : ∀ k, k < 9 → ((S (k * 4)).toList == [114, 111, 108, 101, 58, 114, 101, 97, 100]) = decide (k = 2) := by
  simp only [ByteArray.toList_eq]
  decide
theorem mod_read : ((S (2 * 4 + 3)).toList == [114, 111, 108, 101, 98, 111, 111, 107]) = true := by
  simp only [ByteArray.toList_eq]
  decide

/-! ### copy between two rows of structs -/
theorem run_copyK {P : Program} (w : World) (dT sT ty elem : TypeId) (k m g dLen dCap : Nat) (a : Addr) (sLen sCap : Nat) (cur : Array Value) (t : TypeId) (cs : List Value)
    (hu : P.underlying dT = some (.slice elem)) (hs : (P.info? elem).map (·.size) = some k)
    (hg : w.heap[g]? = some (.cells cur t (0, 0))) (hm : Nat.min sLen dLen = m) (hn : cs.length = m * k)
    (hsrc : ∀ j v, cs[j]? = some v → w.cell? (a.add j) = some v) (hfit : cs.length = cur.size) (h1 : ∀ v ∈ cs, v.oneCell' = true) :
    (Builtin.copy_ #[dT, sT] ty #[.slice (some ⟨g, 0, none⟩) dLen dCap, .slice (some a) sLen sCap]).run P w = .ok (goInt m) (w.setRow g cs.toArray) := by
  subst hm
  have hl := run_firstCells_some (P := P) w k (Nat.min sLen dLen) a sLen sCap cs hn hsrc
  have hst := run_storeCells_at P g 0 t cs 0 cur w hg (by omega) h1
  have e : cur.toList.take (0 + 0) ++ cs ++ cur.toList.drop (0 + 0 + cs.length) = cs := by
    rw [hfit]
    simp
  rw [e] at hst
  cases hq : P.info? elem with
  | none => simp [hq] at hs
  | some i =>
    have hi : i.size = k := by simpa [hq] using hs
    simp [Builtin.copy_, run_underlying hu, Builtin.lenOf, sizeOf, typeInfo, hq, hi, hl, hst]

theorem wpList_copyK {P : Program} {w : World} {ops : Array Oper} {rest : List Oper} {o : Oper} {a : Act} {Q : Exit → Act → World → Prop} (hgd : o.guard = none) (d s : Operand) (dT sT : TypeId)
    (ho : o.op = .call { callee := .builtin .copy, args := #[d, s], argTypes := #[dT, sT] }) (elem : TypeId) (hu : P.underlying dT = some (.slice elem)) (k m : Nat) (hsz : (P.info? elem).map (·.size) = some k)
    (g dLen dCap : Nat) (ad : Addr) (sLen sCap : Nat) (hd : a.eval d = .slice (some ⟨g, 0, none⟩) dLen dCap) (hs : a.eval s = .slice (some ad) sLen sCap) (hm : Nat.min sLen dLen = m)
    (cur : Array Value) (t : TypeId) (hg : w.heap[g]? = some (.cells cur t (0, 0))) (cs : List Value) (hn : cs.length = m * k)
    (hsrc : ∀ j v, cs[j]? = some v → w.cell? (ad.add j) = some v) (hfit : cs.length = cur.size) (h1 : ∀ v ∈ cs, v.oneCell' = true)
    (h : ∀ w', w'.heap[g]? = some (.cells cs.toArray t (0, 0)) → Below g w w' → w'.heap.size = w.heap.size → wpList P ops Q rest (a.put o.dst (goInt m)) w') : wpList P ops Q (o :: rest) a w := by
  refine wpList_plain hgd fun K hK => ?_
  have hrun := run_copyK (P := P) w dT sT o.type elem k m g dLen dCap ad sLen sCap cur t cs hu hsz hg hm hn hsrc hfit h1
  unfold Oper.wp
  simp [execOp, ho, resolve, invoke, builtin, hd, hs, hrun, Result.andThen]
  exact hK _ _ (h _ (setRow_heap w g cur _ t _ hg) ⟨rfl, rfl, rfl, by simp [World.setRow], fun j hj => setRow_other w g j _ (by omega)⟩ (by simp [World.setRow]))

theorem str_at {w : World} {b : Nat} (h : w.rowIs b 25 36 C) {j : Nat} (hj : j < 36) : w.cell? ⟨b, j, none⟩ = some (.string (S j)) := h.cell hj

def zeros : Array Value := Array.replicate 36 (.string ⟨#[]⟩)
theorem make9 (w : World) : (Instr.makeSlice 22 (.int .i64 9) (.int .i64 9)).run Try.prog w = .ok (.slice (some ⟨w.heap.size, 0, none⟩) 9 9) (w.alloc (.cells zeros 25)) := by kernel_rfl
theorem info25 : (Try.prog.info? 25).map (·.size) = some 4 := by kernel_rfl

theorem cat_list (w : World) (b : Nat) (h : w.rowIs b 25 36 C) : ∀ j v, (catS.map Value.string)[j]? = some v → w.cell? ((⟨b, 0, none⟩ : Addr).add j) = some v := by
  intro j v hj
  have hlt : j < 36 := (List.getElem?_eq_some_iff.1 hj).1
  rw [Addr.add_lit, Nat.zero_add, str_at h hlt]
  have hi' : j < catS.length := hlt
  simp [S, List.getD, List.getElem?_eq_getElem hi'] at hj ⊢
  exact hj

theorem row_of_heap {w : World} {g : Nat} (h : w.heap[g]? = some (.cells (catS.map Value.string).toArray 25 (0, 0))) : w.rowIs g 25 36 C :=
  ⟨_, h, rfl, fun i hi => by
    have hi' : i < catS.length := hi
    simp [C, S, List.getD, List.getElem?_eq_getElem hi']⟩

/-- Three catalogues: the first being written over from its head on (k entries are), the second and its copy as they were made. -/
def Thr (w wr : World) (N k : Nat) : Prop := (∃ G : Nat → ByteArray, wr.rowIs N 25 36 (fun j => .string (G j)) ∧ ∀ j, k * 4 ≤ j → G j = S j) ∧ wr.rowIs (N + 1) 25 36 C ∧ wr.rowIs (N + 2) 25 36 C ∧ Below N w wr ∧ wr.heap.size = N + 3

theorem row_set {w : World} {N : Nat} {G : Nat → ByteArray} (h : w.rowIs N 25 36 (fun j => .string (G j))) (i : Nat) (x : ByteArray) : (w.setCell ⟨N, i, none⟩ (.string x)).rowIs N 25 36 (fun j => .string ((fun j => if j = i then x else G j) j)) :=
  (h.set i _).congr (fun j _ => by by_cases e : j = i <;> simp [e])

theorem Thr.store {w wr : World} {N k : Nat} (h : Thr w wr N k) (x0 x1 x2 x3 : ByteArray) :
    Thr w ((((wr.setCell ⟨N, k * 4, none⟩ (.string x0)).setCell ⟨N, k * 4 + 1, none⟩ (.string x1)).setCell ⟨N, k * 4 + 2, none⟩ (.string x2)).setCell ⟨N, k * 4 + 3, none⟩ (.string x3)) N (k + 1) := by
  obtain ⟨⟨G, hG, hS⟩, h1, h2, hb, hs⟩ := h
  refine ⟨⟨_, row_set (row_set (row_set (row_set hG (k * 4) x0) (k * 4 + 1) x1) (k * 4 + 2) x2) (k * 4 + 3) x3, fun j hj => ?_⟩, ?_, ?_, ?_, ?_⟩
  · have e := hS j (by omega)
    show (if j = k * 4 + 3 then x3 else if j = k * 4 + 2 then x2 else if j = k * 4 + 1 then x1 else if j = k * 4 then x0 else G j) = S j
    rw [if_neg (by omega), if_neg (by omega), if_neg (by omega), if_neg (by omega)]
    exact e
  · exact (((h1.setOther (a := ⟨N, _, none⟩) (by show N + 1 ≠ N; omega) _).setOther (a := ⟨N, _, none⟩) (by show N + 1 ≠ N; omega) _).setOther (a := ⟨N, _, none⟩) (by show N + 1 ≠ N; omega) _).setOther (a := ⟨N, _, none⟩) (by show N + 1 ≠ N; omega) _
  · exact (((h2.setOther (a := ⟨N, _, none⟩) (by show N + 2 ≠ N; omega) _).setOther (a := ⟨N, _, none⟩) (by show N + 2 ≠ N; omega) _).setOther (a := ⟨N, _, none⟩) (by show N + 2 ≠ N; omega) _).setOther (a := ⟨N, _, none⟩) (by show N + 2 ≠ N; omega) _
  · exact (((hb.setCell (Nat.le_refl _) _).setCell (Nat.le_refl _) _).setCell (Nat.le_refl _) _).setCell (Nat.le_refl _) _
  · simp [World.setCell, hs]

theorem Thr.cells {w wr : World} {N k : Nat} (h : Thr w wr N k) (hk : k < 9) :
    wr.cell? ⟨N, k * 4, none⟩ = some (.string (S (k * 4))) ∧ wr.cell? ⟨N, k * 4 + 1, none⟩ = some (.string (S (k * 4 + 1))) ∧ wr.cell? ⟨N, k * 4 + 2, none⟩ = some (.string (S (k * 4 + 2))) ∧ wr.cell? ⟨N, k * 4 + 3, none⟩ = some (.string (S (k * 4 + 3))) ∧ ∀ j, wr.frozen? ⟨N, j, none⟩ = false := by
  obtain ⟨⟨G, hG, hS⟩, h1, h2, hb, hs⟩ := h
  refine ⟨?_, ?_, ?_, ?_, hG.frozen⟩ <;> rw [hG.cell (by omega), hS _ (by omega)]

theorem Thr.drewN {w wr : World} {N k : Nat} (h : Thr w wr N k) (q : Nat) : Thr w (wr.drewN q) N k := by
  induction q with
  | zero => exact h
  | succ n ih => exact ⟨ih.1, ih.2.1, ih.2.2.1, ih.2.2.2.1.drew, ih.2.2.2.2⟩

/-- The copy, and a catalogue made last. -/
def Four (w wr : World) (N : Nat) : Prop := wr.rowIs (N + 2) 25 36 C ∧ wr.rowIs (N + 3) 25 36 C ∧ Below N w wr
theorem Four.drewN {w wr : World} {N : Nat} (h : Four w wr N) (q : Nat) : Four w (wr.drewN q) N := by
  induction q with
  | zero => exact h
  | succ n ih => exact ⟨ih.1, ih.2.1, ih.2.2.drew⟩

theorem S_size : ∀ k, k < 9 → (S (k * 4)).size ≤ 100 := by decide

set_option maxHeartbeats 1000000 in
set_option maxRecDepth 100000 in
theorem walk4 (w : World) : Calls Try.prog 4 #[] w fun e w' => e = .returned (.bool true) ∧ Below w.heap.size w w' := by
  have hS : Try.prog.underlying 25 = some (.struct (Try.prog.fieldsOf 25)) := by kernel_rfl
  have hp : Try.prog.stoodInHeld 25 = false := by kernel_rfl
  have hm : Try.prog.eqGuardType Try.prog.depth 25 = false := by kernel_rfl
  have hne : ∀ (s0 s1 s2 s3 : ByteArray) (w : World), (binOp .neq 25 (.agg #[.string s0, .string s1, .string s2, .string s3]) (.agg #[.string s0, .string s1, .string s2, .string s3])).run Try.prog w = .ok (.bool false) w := by
    intro s0 s1 s2 s3 w
    have u9 := Try.underlying9
    have a9 := Try.isAgg9
    have z9 := Try.sizeOf9
    rw [run_neq_struct, show (10000 : Nat) = 9999 + 1 from rfl, run_equalIn_agg w 9999 25 _ _ hS hp]
    simp only [Program.fieldsOf, Try.underlying25]
    go_simp
  have hmk := make9
  obtain ⟨N, hN⟩ : ∃ N, w.heap.size = N := ⟨_, rfl⟩
  rw [hN]
  go_enter Try.func4, Try.ntmps4
  go_wp2_with (go_at_call 5; refine (bp5 _).mono ?_; rintro e w' ⟨rfl, rfl⟩)
  go_loopw [3] (fun i wr => ∃ k : Nat, k ≤ 9 ∧ i = .int .i64 k ∧ Two w wr N) (fun i _ => 9 - (intOf i).toNat)
  case atStart => exact ⟨0, Nat.zero_le _, rfl, two_start w N hN⟩
  case round =>
    obtain ⟨k, hk, rfl, h2⟩ := hrel
    by_cases hlt : k < 9
    · have a0 := str_at h2.1 (j := k * 4) (by omega)
      have a1 := str_at h2.1 (j := k * 4 + 1) (by omega)
      have a2 := str_at h2.1 (j := k * 4 + 2) (by omega)
      have a3 := str_at h2.1 (j := k * 4 + 3) (by omega)
      have b0 := str_at h2.2.1 (j := k * 4) (by omega)
      have b1 := str_at h2.2.1 (j := k * 4 + 1) (by omega)
      have b2 := str_at h2.2.1 (j := k * 4 + 2) (by omega)
      have b3 := str_at h2.2.1 (j := k * 4 + 3) (by omega)
      have H2 : Hid (Two w wr N) := h2
      clear h2
      go_wp2
      go_quiet (fail)
      go_wp2
      go_roundw
      case rel => exact ⟨k + 1, by omega, by go_num, H2.out.drewN _⟩
      case measure => simp [intOf]; omega
    · have H2 : Hid (Two w wr N) := h2
      clear h2
      go_wp2
      go_loopw [4, 5] (fun f i wr => ∃ k : Nat, k ≤ 9 ∧ i = .int .i64 k ∧ f = .bool (decide (2 < k)) ∧ Two w wr N) (fun _ i _ => 9 - (intOf i).toNat)
      case atStart => exact ⟨0, Nat.zero_le _, rfl, rfl, H2.out⟩
      case round =>
        clear H2 hlt hk
        obtain ⟨k, hk, rfl, rfl, h2⟩ := hrel
        by_cases hlt : k < 9
        · have b0 := str_at h2.2.1 (j := k * 4) (by omega)
          have b3 := str_at h2.2.1 (j := k * 4 + 3) (by omega)
          have H2 : Hid (Two w wr N) := h2
          clear h2
          have q0 := code_read k hlt
          by_cases hk2 : k = 2
          · have q3 : ((S (k * 4 + 3)).toList == [114, 111, 108, 101, 98, 111, 111, 107]) = true := by rw [hk2]; exact mod_read
            rw [decide_eq_true hk2] at q0
            have HK : Hid (k = 2) := hk2
            clear hk2
            go_wp2
            go_roundw
            case rel => exact ⟨k + 1, by omega, by go_num, by rw [HK.out]; rfl, H2.out⟩
            case measure => simp [intOf]; omega
          · rw [decide_eq_false hk2] at q0
            have HK : Hid (decide (2 < k + 1) = decide (2 < k)) := by
              show decide (2 < k + 1) = decide (2 < k)
              by_cases h : 2 < k
              · rw [decide_eq_true h, decide_eq_true (by omega)]
              · rw [decide_eq_false h, decide_eq_false (by omega)]
            clear hk2
            go_wp2
            go_roundw
            case rel => exact ⟨k + 1, by omega, by go_num, by rw [HK.out], H2.out⟩
            case measure => simp [intOf]; omega
        · have hd : decide (2 < k) = true := decide_eq_true (by omega)
          rw [hd]
          clear hd hk
          obtain ⟨ra, rb, hbel, hsz⟩ := h2
          have ha0 : Below wr.heap.size wr (wr.alloc (.cells zeros 25)) := (Below.refl _ _).alloc (Nat.le_refl _) _
          have hb0 : (wr.alloc (.cells zeros 25)).rowIs (N + 1) 25 36 C := rb.alloc _
          have hg0 : (wr.alloc (.cells zeros 25)).heap[N + 2]? = some (.cells zeros 25 (0, 0)) := by rw [← hsz]; exact heap_alloc_new _ _
          have HR : Hid (wr.rowIs N 25 36 C ∧ wr.rowIs (N + 1) 25 36 C ∧ Below N w wr ∧ wr.heap.size = N + 2) := ⟨ra, rb, hbel, hsz⟩
          have HB : Hid ((wr.alloc (.cells zeros 25)).rowIs (N + 1) 25 36 C) := hb0
          have HG : Hid ((wr.alloc (.cells zeros 25)).heap[N + 2]? = some (.cells zeros 25 (0, 0))) := hg0
          clear ha0 hb0 hg0 ra rb hbel
          go_wp2_with (refine wpList_copyK rfl _ _ 22 22 rfl 25 Try.underlying22 4 9 info25 (N + 2) 9 9 ⟨N + 1, 0, none⟩ 9 9 rfl rfl rfl zeros 25 HG.out (catS.map Value.string) rfl ?s1 rfl ?s2 ?_)
          case s1 => exact cat_list _ _ HB.out
          case s2 => intro v hv; obtain ⟨x, _, rfl⟩ := List.mem_map.1 hv; rfl
          intro w5 hg5 hb5 hs5
          have HT : Hid (Thr w w5 N 0) := by
            obtain ⟨ra, rb, hbel, hsz'⟩ := HR.out
            have hss : (wr.alloc (.cells zeros 25)).heap.size = N + 3 := by simp; omega
            exact ⟨⟨S, (ra.alloc _).of_block (hb5.block _ (by omega)), fun _ _ => rfl⟩, (rb.alloc _).of_block (hb5.block _ (by omega)), row_of_heap hg5, (hbel.alloc (by omega) _).trans (hb5.mono (by omega)), by rw [hs5]⟩
          clear hg5 hb5 hs5 HG HB HR hsz
          go_wp2
          go_loopw [7] (fun i wr => ∃ k : Nat, k ≤ 9 ∧ i = .int .i64 k ∧ Thr w wr N k) (fun i _ => 9 - (intOf i).toNat)
          case atStart => exact ⟨0, Nat.zero_le _, rfl, HT.out⟩
          case round =>
            clear HT hlt
            obtain ⟨k, hk, rfl, h3⟩ := hrel
            by_cases hlt : k < 9
            · obtain ⟨c0, c1, c2, c3, fz⟩ := h3.cells hlt
              have f0 := fz (k * 4)
              have f1 := fz (k * 4 + 1)
              have f2 := fz (k * 4 + 2)
              have f3 := fz (k * 4 + 3)
              have hsz := S_size k hlt
              have H3 : Hid (Thr w wr N k) := h3
              clear fz h3
              go_wp2
              go_roundw
              case rel => exact ⟨k + 1, by omega, by go_num, H3.out.store _ _ _ _⟩
              case measure => simp [intOf]; omega
            · have H3 : Hid (Thr w wr N k) := h3
              clear h3
              go_wp2
              go_loopw [8] (fun i wr => ∃ j : Nat, j ≤ 9 ∧ i = .int .i64 j ∧ Thr w wr N k) (fun i _ => 9 - (intOf i).toNat)
              case atStart => exact ⟨0, Nat.zero_le _, rfl, H3.out⟩
              case round =>
                clear H3
                obtain ⟨j, hj, rfl, h3⟩ := hrel
                by_cases hjl : j < 9
                · have a0 := str_at h3.2.1 (j := j * 4) (by omega)
                  have a1 := str_at h3.2.1 (j := j * 4 + 1) (by omega)
                  have a2 := str_at h3.2.1 (j := j * 4 + 2) (by omega)
                  have a3 := str_at h3.2.1 (j := j * 4 + 3) (by omega)
                  have b0 := str_at h3.2.2.1 (j := j * 4) (by omega)
                  have b1 := str_at h3.2.2.1 (j := j * 4 + 1) (by omega)
                  have b2 := str_at h3.2.2.1 (j := j * 4 + 2) (by omega)
                  have b3 := str_at h3.2.2.1 (j := j * 4 + 3) (by omega)
                  have H3 : Hid (Thr w wr N k) := h3
                  clear h3
                  go_wp2
                  go_quiet (fail)
                  go_wp2
                  go_roundw
                  case rel => exact ⟨j + 1, by omega, by go_num, H3.out.drewN _⟩
                  case measure => simp [intOf]; omega
                · obtain ⟨_, _, r2, hbel, hsz⟩ := h3
                  have HF : Hid (Four w (wr.alloc (.cells catC 25)) N) := by
                    refine ⟨r2.alloc _, ?_, hbel.alloc (by omega) _⟩
                    have := cat_row wr
                    rw [hsz] at this
                    exact this
                  clear r2 hbel
                  go_wp2_with (go_at_call 5; refine (bp5 _).mono ?_; rintro e w' ⟨rfl, rfl⟩)
                  go_loopw [10] (fun i wr => ∃ j : Nat, j ≤ 9 ∧ i = .int .i64 j ∧ Four w wr N) (fun i _ => 9 - (intOf i).toNat)
                  case atStart => exact ⟨0, Nat.zero_le _, rfl, HF.out⟩
                  case round =>
                    clear HF hsz
                    obtain ⟨i, hi, rfl, h4⟩ := hrel
                    by_cases hil : i < 9
                    · have a0 := str_at h4.1 (j := i * 4) (by omega)
                      have a1 := str_at h4.1 (j := i * 4 + 1) (by omega)
                      have a2 := str_at h4.1 (j := i * 4 + 2) (by omega)
                      have a3 := str_at h4.1 (j := i * 4 + 3) (by omega)
                      have b0 := str_at h4.2.1 (j := i * 4) (by omega)
                      have b1 := str_at h4.2.1 (j := i * 4 + 1) (by omega)
                      have b2 := str_at h4.2.1 (j := i * 4 + 2) (by omega)
                      have b3 := str_at h4.2.1 (j := i * 4 + 3) (by omega)
                      have H4 : Hid (Four w wr N) := h4
                      clear h4
                      go_wp2
                      go_quiet (fail)
                      go_wp2
                      go_roundw
                      case rel => exact ⟨i + 1, by omega, by go_num, H4.out.drewN _⟩
                      case measure => simp [intOf]; omega
                    · go_wp2
                      go_ret
                      exact ⟨rfl, h4.2.2⟩
end Go.Proofs.Qxb6626438a
