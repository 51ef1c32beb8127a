/-
  THE PLAIN LAW (no Go in sight) AND THE WALKS over 'unprintableByte' (function 5) and 'zzs1375bprintable' (function 6).
-/
import Derived.Test.YbulkablkRows
import Derived.WalkKit
namespace Go.Proofs.Ybulkablk
open Go.RowKit

/-- A byte is printable ASCII. -/
def pr (c : UInt8) : Bool := decide (33 ≤ c.toNat ∧ c.toNat ≤ 126)

/-- 'r' is the place of the first byte of 'l' that is not printable; -1 if there is none. -/
def Found (l : List UInt8) (r : Int) : Prop :=
  (r = -1 ∧ ∀ c ∈ l, pr c = true) ∨ ∃ a c b, l = a ++ c :: b ∧ r = (a.length : Int) ∧ pr c = false ∧ ∀ x ∈ a, pr x = true

theorem take_snoc (s : ByteArray) (k : Nat) (h : k < s.size) : s.data.toList.take (k + 1) = s.data.toList.take k ++ [s[k]] := by
  rw [List.take_succ_eq_append_getElem (by simpa using h)]; rfl

theorem split_at (s : ByteArray) (k : Nat) (h : k < s.size) : s.data.toList = s.data.toList.take k ++ s[k] :: s.data.toList.drop (k + 1) := by
  have e : s.data.toList.drop k = s[k] :: s.data.toList.drop (k + 1) := by
    rw [List.drop_eq_getElem_cons (by simpa using h)]; rfl
  rw [← e, List.take_append_drop]

theorem take_len (s : ByteArray) (k : Nat) (h : k ≤ s.size) : (s.data.toList.take k).length = k := by
  have e : s.data.toList.length = s.size := by rw [Array.length_toList]; rfl
  rw [List.length_take, e]; omega

/-- A printable head 'p' ahead of 'l': the place is shifted. -/
theorem found_append {p l : List UInt8} {r q : Int} (hp : ∀ c ∈ p, pr c = true) (hr : Found l r) (hq : Found (p ++ l) q) : (r = -1 ∧ q = -1) ∨ (0 ≤ r ∧ q = r + p.length) := by
  have first : ∀ (a a' b b' : List UInt8) (c c' : UInt8), a ++ c :: b = a' ++ c' :: b' → (∀ x ∈ a, pr x = true) → (∀ x ∈ a', pr x = true) → pr c = false → pr c' = false → a.length = a'.length := by
    intro a
    induction a with
    | nil =>
      intro a' b b' c c' he _ ha' hc _
      cases a' with
      | nil => rfl
      | cons x t =>
        simp at he
        have := ha' x (by simp)
        rw [← he.1, hc] at this
        cases this
    | cons y t ih =>
      intro a' b b' c c' he ha ha' hc hc'
      cases a' with
      | nil =>
        simp at he
        have := ha y (by simp)
        rw [he.1, hc'] at this
        cases this
      | cons x t' =>
        simp at he
        have := ih t' b b' c c' he.2 (fun z hz => ha z (by simp [hz])) (fun z hz => ha' z (by simp [hz])) hc hc'
        simp [this]
  rcases hr with ⟨rfl, hl⟩ | ⟨a, c, b, rfl, rfl, hc, ha⟩
  · rcases hq with ⟨rfl, _⟩ | ⟨a', c', b', he, rfl, hc', _⟩
    · exact Or.inl ⟨rfl, rfl⟩
    · have hm : c' ∈ p ++ l := by rw [he]; simp
      have : pr c' = true := by
        rcases List.mem_append.1 hm with h | h
        · exact hp _ h
        · exact hl _ h
      rw [hc'] at this
      cases this
  · rcases hq with ⟨rfl, hl⟩ | ⟨a', c', b', he, rfl, hc', ha'⟩
    · have := hl c (by simp)
      rw [hc] at this
      cases this
    · have := first (p ++ a) a' b b' c c' (by rw [List.append_assoc]; exact he) (fun x hx => by
        rcases List.mem_append.1 hx with h | h
        · exact hp _ h
        · exact ha _ h) ha' hc hc'
      rw [List.length_append] at this
      exact Or.inr ⟨by omega, by omega⟩

/-! ### The walks -/
theorem printable_yes (c : UInt8) (w : World) (h : pr c = true) :
    Calls Yba.prog 6 #[.int .u8 (c.toNat : Int)] w fun e w' => e = .returned (.bool true) ∧ w' = w := by
  simp only [pr, decide_eq_true_eq] at h
  have h1 : 33 ≤ (c.toNat : Int) := by omega
  have h2 : (c.toNat : Int) ≤ 126 := by omega
  clear h
  go_enter Yba.func6, Yba.ntmps6
  go_wp2
  go_ret
  exact ⟨rfl, rfl⟩

theorem printable_no (c : UInt8) (w : World) (h : pr c = false) :
    Calls Yba.prog 6 #[.int .u8 (c.toNat : Int)] w fun e w' => e = .returned (.bool false) ∧ w' = w := by
  simp only [pr, decide_eq_false_iff_not] at h
  by_cases h1 : 33 ≤ (c.toNat : Int)
  · have h2 : ¬ (c.toNat : Int) ≤ 126 := by omega
    clear h
    go_enter Yba.func6, Yba.ntmps6
    go_wp2
    go_ret
    exact ⟨rfl, rfl⟩
  · clear h
    go_enter Yba.func6, Yba.ntmps6
    go_wp2
    go_ret
    exact ⟨rfl, rfl⟩

set_option maxHeartbeats 1000000 in
theorem unp_any (s : ByteArray) (w : World) (hs : s.size ≤ maxLen) :
    Calls Yba.prog 5 #[.string s] w fun e w' => ∃ r : Int, e = .returned (.int .i64 r) ∧ w' = w ∧ Found s.data.toList r := by
  unfold maxLen at hs
  go_enter Yba.func5, Yba.ntmps5
  go_wp2
  go_loop [3] (fun i => ∃ k : Nat, k ≤ s.size ∧ i = .int .i64 k ∧ ∀ c ∈ s.data.toList.take k, pr c = true) (fun i => s.size - (intOf i).toNat)
  case atStart => exact ⟨0, Nat.zero_le _, rfl, by simp⟩
  case round =>
    obtain ⟨k, hk, rfl, hpre⟩ := hrel
    by_cases hlt : k < s.size
    · cases hc : pr s[k] with
      | true =>
        have hnext : ∀ c ∈ s.data.toList.take (k + 1), pr c = true := by
          intro c hcm
          rw [take_snoc s k hlt, List.mem_append] at hcm
          rcases hcm with h | h
          · exact hpre c h
          · simp at h; rw [h]; exact hc
        have HN : Hid (∀ c ∈ s.data.toList.take (k + 1), pr c = true) := hnext
        clear hnext hpre
        simp only [pr, decide_eq_true_eq] at hc
        have h1 : ¬ (s[k].toNat : Int) ≤ 32 := by omega
        have h2 : ¬ (s[k].toNat : Int) > 126 := by omega
        clear hc
        go_wp2
        go_round
        case rel => exact ⟨k + 1, by omega, by go_num, HN.out⟩
        case measure => simp [intOf]; omega
      | false =>
        have hf : Found s.data.toList (k : Int) := Or.inr ⟨_, _, _, split_at s k hlt, by rw [take_len s k hk], hc, hpre⟩
        have HF : Hid (Found s.data.toList (k : Int)) := hf
        clear hf hpre
        simp only [pr, decide_eq_false_iff_not] at hc
        by_cases h1 : (s[k].toNat : Int) ≤ 32
        · clear hc
          go_wp2
          go_ret
          exact ⟨_, rfl, rfl, HF.out⟩
        · have h2 : (s[k].toNat : Int) > 126 := by omega
          clear hc
          go_wp2
          go_ret
          exact ⟨_, rfl, rfl, HF.out⟩
    · have hf : Found s.data.toList (-1) := Or.inl ⟨rfl, by rwa [List.take_of_length_le (by simp; omega)] at hpre⟩
      have HF : Hid (Found s.data.toList (-1)) := hf
      clear hf hpre
      go_wp2
      go_ret
      exact ⟨_, rfl, rfl, HF.out⟩

end Go.Proofs.Ybulkablk
