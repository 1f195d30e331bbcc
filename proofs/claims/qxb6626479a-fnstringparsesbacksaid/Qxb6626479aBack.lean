/-
  Seat b6626479a: FnStringParsesBack, walked.
-/
import Derived.Test.Qxb6626479aWalks
namespace Go.Proofs.Qxb6626479a
open Go.RowKit

/-- No space among the first k bytes. -/
def NoSp (m : ByteArray) (k : Nat) : Prop := ∀ i (hi : i < m.size), i < k → m[i].toNat ≠ 32
theorem noSp_zero (m : ByteArray) : NoSp m 0 := fun _ _ h => absurd h (Nat.not_lt_zero _)
theorem noSp_succ {m : ByteArray} {k : Nat} (h : NoSp m k) (hk : k < m.size) (h2 : m[k].toNat ≠ 32) : NoSp m (k + 1) := by
  intro i hi hik
  by_cases e : i = k
  · subst e; exact h2
  · exact h i hi (by omega)

/-! ### The text of a route with a method -/
theorem sp_size (m p : ByteArray) : (m ++ ⟨#[32]⟩ ++ p).size = m.size + 1 + p.size := by
  have h32 : (⟨#[32]⟩ : ByteArray).size = 1 := rfl
  rw [ByteArray.size_append, ByteArray.size_append, h32]
theorem sp_left (m p : ByteArray) (k : Nat) (hk : k < m.size) (hs : k < (m ++ ⟨#[32]⟩ ++ p).size) : (m ++ ⟨#[32]⟩ ++ p)[k] = m[k] := by
  rw [ByteArray.getElem_append_left (by rw [ByteArray.size_append]; omega), ByteArray.getElem_append_left hk]
theorem sp_mid (m p : ByteArray) (hs : m.size < (m ++ ⟨#[32]⟩ ++ p).size) : (m ++ ⟨#[32]⟩ ++ p)[m.size].toNat = 32 := by
  have h32 : (⟨#[32]⟩ : ByteArray).size = 1 := rfl
  rw [ByteArray.getElem_append_left (by rw [ByteArray.size_append]; omega), ByteArray.getElem_append_right (Nat.le_refl _)]
  simp
  rfl
theorem sp_head (m p : ByteArray) : (m ++ ⟨#[32]⟩ ++ p).extract 0 m.size = m := by
  apply ByteArray.ext
  simp [ByteArray.data_extract, ByteArray.data_append]
theorem sp_tail (m p : ByteArray) : (m ++ ⟨#[32]⟩ ++ p).extract (m.size + 1) (m ++ ⟨#[32]⟩ ++ p).size = p := by
  have h32 : (⟨#[32]⟩ : ByteArray).size = 1 := rfl
  have hs : m.size = m.data.size := rfl
  have hp : p.size = p.data.size := rfl
  apply ByteArray.ext
  rw [ByteArray.data_extract, ByteArray.data_append, Array.extract_append]
  simp [ByteArray.size_append, h32]
  have e1 : (m.data.push 32).extract (m.size + 1) (m.size + 1 + p.size) = #[] := Array.extract_empty_of_size_le_start (by rw [Array.size_push, hs]; exact Nat.le_refl _)
  rw [e1, hp]
  simp

set_option maxHeartbeats 1000000 in
/-- FnStringParsesBack: true. -/
theorem walk3 (m p : ByteArray) (wm : m.size ≤ maxLen) (wp : p.size ≤ maxLen) (w : World) :
    Calls Try.prog 3 #[.string m, .string p] w fun e w' => e = .returned (.bool true) ∧ Grown w w' := by
  have hz := zz5 m p w wm wp
  unfold maxLen at wm wp
  by_cases h1 : m.size ≤ 262144
  · by_cases h2 : p.size ≤ 262144
    · go_enter Try.func3, Try.ntmps3
      go_wp2_with fail
      refine hz.mono ?_
      rintro e w1 ⟨⟨r, rfl⟩, hw⟩
      rw [hw]
      clear hw hz
      cases r with
      | false =>
        go_wp2
        go_ret
        exact ⟨rfl, Grown.refl _⟩
      | true =>
        go_wp2
        go_loop [5] (fun t => ∃ k : Nat, k ≤ m.size ∧ t = .int .i64 k ∧ NoSp m k) (fun t => m.size - (intOf t).toNat)
        case atStart => exact ⟨0, Nat.zero_le _, rfl, noSp_zero m⟩
        case round =>
          obtain ⟨k, hk, rfl, hns⟩ := hrel
          have HNS : Hid (NoSp m k) := hns
          clear hns
          by_cases hlt : k < m.size
          · by_cases hsp : m[k].toNat = 32
            · have q : ((m[k].toNat : Int) == 32) = true := by rw [hsp]; rfl
              clear hsp
              go_wp2
              go_ret
              exact ⟨rfl, Grown.refl _⟩
            · have q : ((m[k].toNat : Int) == 32) = false := beq_false_of_ne (by omega)
              have HN2 : Hid (NoSp m (k + 1)) := noSp_succ HNS.out hlt hsp
              clear hsp
              go_wp2
              go_round
              case rel => exact ⟨k + 1, by omega, by go_num, HN2.out⟩
              case measure => simp [intOf]; omega
          · have hkm : k = m.size := by omega
            subst hkm
            cases hem : m.toList.isEmpty with
            | true =>
              go_wp2_with fail
              refine (str6 m p _ (by omega) (by omega)).mono ?_
              rintro e w3 ⟨rfl, hw⟩
              rw [hw, txt_none hem]
              clear hw
              go_wp2
              go_ret
              exact ⟨rfl, by repeat (first | exact Grown.refl _ | apply Grown.drew | apply Grown.alloc)⟩
            | false =>
              go_wp2_with fail
              refine (str6 m p _ (by omega) (by omega)).mono ?_
              rintro e w3 ⟨rfl, hw⟩
              rw [hw, txt_some hem]
              clear hw
              have e1 := sp_size m p
              have e2 : ∀ k (hk : k < m.size) (hs : k < (m ++ ⟨#[32]⟩ ++ p).size), (m ++ ⟨#[32]⟩ ++ p)[k] = m[k] := sp_left m p
              have e3 := sp_mid m p
              have e4 := sp_head m p
              have e5 := sp_tail m p
              generalize m ++ ⟨#[32]⟩ ++ p = s at e1 e2 e3 e4 e5 ⊢
              have hs1 : m.size < s.size := by omega
              have hs2 : s.size ≤ 524289 := by omega
              have HE : Hid (s.size = m.size + 1 + p.size ∧ (∀ k (hk : k < m.size) (hs : k < s.size), s[k] = m[k])) := ⟨e1, e2⟩
              have HE3 : Hid (∀ hs : m.size < s.size, s[m.size].toNat = 32) := e3
              have HE5 : Hid (s.extract 0 m.size = m ∧ s.extract (m.size + 1) s.size = p) := ⟨e4, e5⟩
              clear e1 e2 e3 e4 e5
              go_wp2
              go_loop [7, 8] (fun c t => ∃ k : Nat, k ≤ m.size ∧ t = .int .i64 k ∧ c = .int .i64 (-1)) (fun _ t => m.size + 1 - (intOf t).toNat)
              case atStart => exact ⟨0, Nat.zero_le _, rfl, rfl⟩
              case round =>
                obtain ⟨k, hk, rfl, rfl⟩ := hrel
                have hks : k < s.size := by omega
                by_cases hkl : k < m.size
                · have q : ((s[k].toNat : Int) == 32) = false := by
                    rw [HE.out.2 k hkl hks]
                    have := HNS.out k hkl hkl
                    exact beq_false_of_ne (by omega)
                  go_wp2
                  go_round
                  case rel => exact ⟨k + 1, by omega, by go_num, rfl⟩
                  case measure => simp [intOf]; omega
                · have hkm : k = m.size := by omega
                  subst hkm
                  have q : ((s[m.size].toNat : Int) == 32) = true := by rw [HE3.out hks]; rfl
                  have x1 := HE5.out.1
                  have x2 := HE5.out.2
                  go_wp2
                  go_ret
                  exact ⟨rfl, by repeat (first | exact Grown.refl _ | apply Grown.drew | apply Grown.alloc)⟩
    · go_enter Try.func3, Try.ntmps3
      go_wp2_with fail
      refine hz.mono ?_
      rintro e w1 ⟨⟨r, rfl⟩, hw⟩
      rw [hw]
      cases r
      all_goals (go_wp2; go_ret; exact ⟨rfl, Grown.refl _⟩)
  · go_enter Try.func3, Try.ntmps3
    go_wp2_with fail
    refine hz.mono ?_
    rintro e w1 ⟨⟨r, rfl⟩, hw⟩
    rw [hw]
    cases r
    all_goals (go_wp2; go_ret; exact ⟨rfl, Grown.refl _⟩)
end Go.Proofs.Qxb6626479a
