/-
  Seat b6626479a: zzBytes (both), (RouteInfo).String; the two laws, walked.
-/
import Derived.Test.Qxb6626479aRows
import Derived.WalkKit
import Derived.WalkSpells
import Derived.WalkLawsBesides
import Derived.Outline
namespace Go.Proofs.Qxb6626479a
open Go.RowKit

/-- It returned a bool. -/
def IsB (e : Ending) : Prop := ∃ r, e = .returned (.bool r)
theorem isB (r : Bool) : IsB (.returned (.bool r)) := ⟨r, rfl⟩

theorem zz5 (a b : ByteArray) (w : World) (ha : a.size ≤ maxLen) (hb : b.size ≤ maxLen) : Calls Try.prog 5 #[.string a, .string b] w fun e w' => IsB e ∧ w' = w := by
  unfold maxLen at ha hb
  by_cases h1 : a.size ≤ 1048576
  · by_cases h2 : b.size ≤ 1048576
    · go_enter Try.func5, Try.ntmps5
      go_wp2
      all_goals (go_ret; exact ⟨isB _, rfl⟩)
    · go_enter Try.func5, Try.ntmps5
      go_wp2
      all_goals (go_ret; exact ⟨isB _, rfl⟩)
  · go_enter Try.func5, Try.ntmps5
    go_wp2
    all_goals (go_ret; exact ⟨isB _, rfl⟩)

theorem zz7 (a b c : ByteArray) (w : World) (ha : a.size ≤ maxLen) (hb : b.size ≤ maxLen) (hc : c.size ≤ maxLen) : Calls Try.prog 7 #[.string a, .string b, .string c] w fun e w' => IsB e ∧ w' = w := by
  unfold maxLen at ha hb hc
  by_cases h1 : a.size ≤ 1048576
  · by_cases h2 : b.size ≤ 1048576
    · by_cases h3 : c.size ≤ 1048576
      · go_enter Try.func7, Try.ntmps7
        go_wp2
        all_goals (go_ret; exact ⟨isB _, rfl⟩)
      · go_enter Try.func7, Try.ntmps7
        go_wp2
        all_goals (go_ret; exact ⟨isB _, rfl⟩)
    · go_enter Try.func7, Try.ntmps7
      go_wp2
      all_goals (go_ret; exact ⟨isB _, rfl⟩)
  · go_enter Try.func7, Try.ntmps7
    go_wp2
    all_goals (go_ret; exact ⟨isB _, rfl⟩)

/-- The route's text. -/
def txt (m p : ByteArray) : ByteArray := if m.toList.isEmpty = true then p else m ++ ⟨#[32]⟩ ++ p
theorem txt_none {m : ByteArray} (h : m.toList.isEmpty = true) (p : ByteArray) : txt m p = p := by unfold txt; rw [if_pos h]
theorem txt_some {m : ByteArray} (h : m.toList.isEmpty = false) (p : ByteArray) : txt m p = m ++ ⟨#[32]⟩ ++ p := by unfold txt; rw [if_neg (by rw [h]; decide)]

/-- String: the route's text; one new block. -/
theorem str6 (m p : ByteArray) (w : World) (hm : m.size ≤ 1048576) (hp : p.size ≤ 1048576) :
    Calls Try.prog 6 #[.agg #[.string m, .string p]] w fun e w' => e = .returned (.string (txt m p)) ∧ w' = w.alloc (.cells #[.string m, .string p] 24) := by
  cases h : m.toList.isEmpty with
  | true =>
    rw [txt_none h]
    go_enter Try.func6, Try.ntmps6
    go_wp2
    go_ret
    exact ⟨rfl, rfl⟩
  | false =>
    rw [txt_some h]
    have h32 : (⟨#[32]⟩ : ByteArray).size = 1 := rfl
    go_enter Try.func6, Try.ntmps6
    go_wp2
    go_ret
    exact ⟨rfl, rfl⟩

theorem txt_size (m p : ByteArray) : (txt m p).size ≤ m.size + 1 + p.size := by
  unfold txt
  split
  · omega
  · have h32 : (⟨#[32]⟩ : ByteArray).size = 1 := rfl
    rw [ByteArray.size_append, ByteArray.size_append, h32]
    omega

theorem txt_append (m h t : ByteArray) : txt m (h ++ t) = txt m h ++ t := by
  unfold txt
  split
  · rfl
  · rw [ByteArray.append_assoc, ByteArray.append_assoc, ByteArray.append_assoc]

theorem beq_self_list (s : ByteArray) : (s.toList == s.toList) = true := by simp

set_option maxHeartbeats 1000000 in
/-- FnStringJoinsAtAnyCut: true. -/
theorem walk4 (m h t : ByteArray) (wm : m.size ≤ maxLen) (wh : h.size ≤ maxLen) (wt : t.size ≤ maxLen) (w : World) :
    Calls Try.prog 4 #[.string m, .string h, .string t] w fun e w' => e = .returned (.bool true) ∧ Grown w w' := by
  have hz := zz7 m h t w wm wh wt
  unfold maxLen at wm wh wt
  by_cases h1 : m.size ≤ 262144
  · by_cases h2 : h.size ≤ 262144
    · by_cases h3 : t.size ≤ 262144
      · go_enter Try.func4, Try.ntmps4
        go_wp2_with fail
        refine hz.mono ?_
        rintro e w1 ⟨⟨r, rfl⟩, hw⟩
        rw [hw]
        clear hw hz
        cases r with
        | false =>
          go_wp2
          go_ret
          exact ⟨rfl, Grown.refl _⟩
        | true =>
          have hht : (h ++ t).size = h.size + t.size := ByteArray.size_append
          obtain ⟨j, hj⟩ : ∃ j, h ++ t = j := ⟨_, rfl⟩
          rw [hj] at hht
          have hjs : j.size ≤ 524288 := by omega
          have HJ : Hid (h ++ t = j) := hj
          clear hht
          go_wp2_with fail
          refine (str6 m j _ (by omega) (by omega)).mono ?_
          rintro e w2 ⟨rfl, hw⟩
          rw [hw]
          clear hw
          go_wp2_with fail
          refine (str6 m h _ (by omega) (by omega)).mono ?_
          rintro e w3 ⟨rfl, hw⟩
          rw [hw]
          clear hw
          go_wp2_with fail
          refine (str6 ⟨#[]⟩ j _ (by decide) (by omega)).mono ?_
          rintro e w4 ⟨rfl, hw⟩
          rw [hw, txt_none (m := ⟨#[]⟩) (by simp [ByteArray.toList_eq])]
          clear hw
          have hs := txt_size m h
          have he : txt m j = txt m h ++ t := by rw [← HJ.out]; exact txt_append m h t
          rw [he]
          clear he hj
          go_wp2
          go_ret
          exact ⟨rfl, by repeat (first | exact Grown.refl _ | apply Grown.drew | apply Grown.alloc)⟩
      · go_enter Try.func4, Try.ntmps4
        go_wp2_with fail
        refine hz.mono ?_
        rintro e w1 ⟨⟨r, rfl⟩, hw⟩
        rw [hw]
        cases r
        all_goals (go_wp2; go_ret; exact ⟨rfl, Grown.refl _⟩)
    · go_enter Try.func4, Try.ntmps4
      go_wp2_with fail
      refine hz.mono ?_
      rintro e w1 ⟨⟨r, rfl⟩, hw⟩
      rw [hw]
      cases r
      all_goals (go_wp2; go_ret; exact ⟨rfl, Grown.refl _⟩)
  · go_enter Try.func4, Try.ntmps4
    go_wp2_with fail
    refine hz.mono ?_
    rintro e w1 ⟨⟨r, rfl⟩, hw⟩
    rw [hw]
    cases r
    all_goals (go_wp2; go_ret; exact ⟨rfl, Grown.refl _⟩)
end Go.Proofs.Qxb6626479a
