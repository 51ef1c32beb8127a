/-
  THE WALK over 'zzs1371bfill' (function 4): n requests are appended to a leg's noted controls.
-/
import Derived.Test.YbulkabjgDoorBase
namespace Go.Proofs.YbulkabjgDoor
open Go.RowKit

set_option maxHeartbeats 1000000 in
set_option maxRecDepth 100000 in
theorem fill_any (b : Nat) (mob bss : ByteArray) (cb n : Nat) (w : World) (hn : n ≤ 7) (hl : LegAt w b mob bss cb (.slice none 0 0)) :
    Calls Ybad.prog 4 #[.pointer (some ⟨b, 0, none⟩), .int .i64 n] w fun e w' => e = .returned (.tuple #[]) ∧
      ∃ v, LegAt w' b mob bss cb v ∧ w'.ownsRow w.heap.size 68 2 v n (reqs n) ∧ w.grownBy w' (some b) := by
  obtain ⟨i0, hi, hz0, hz1, hz2⟩ := info_parts info68
  have hb := hl.lt
  go_enter Ybad.func4, Ybad.ntmps4
  go_wp2_with fail
  go_loopw [4] (fun i wr => ∃ (k : Nat) (v : Value), k ≤ n ∧ i = .int .i64 k ∧ LegAt wr b mob bss cb v ∧ wr.ownsRow w.heap.size 68 2 v k (reqs k) ∧ w.grownBy wr (some b)) (fun i _ => n - (intOf i).toNat)
  case atStart => exact ⟨0, _, Nat.zero_le _, rfl, hl, World.ownsRow_nil _ _ _ _, ⟨rfl, rfl, rfl, Nat.le_refl _, fun _ _ _ => rfl⟩⟩
  case round =>
    obtain ⟨k, v, hk, rfl, hlr, hown, hg⟩ := hrel
    by_cases hlt : k < n
    · have c5 := hlr.controls
      have f5 := hlr.frozen 5
      have hbr := hlr.lt
      have hsz := hg.size
      have HL : Hid (LegAt wr b mob bss cb v) := hlr
      have HO : Hid (wr.ownsRow w.heap.size 68 2 v k (reqs k)) := hown
      have HG : Hid (w.grownBy wr (some b)) := hg
      clear hlr hown hg hl
      go_wp2_with (at_builtin; refine wpList_append_own _ rfl (.tmp 14) (.tmp 16) 35 rfl w.heap.size 68 i0 (.agg #[.string ⟨#[]⟩, .string ⟨#[]⟩]) 2 32 Ybad.underlying35 hi hz0 hz1 hz2 rfl (by decide) _ _ _ rfl (HO.out.alloc _) ⟨wr.heap.size, 0, none⟩ 1 1 [.string ⟨#[]⟩, .string ⟨#[112]⟩] rfl rfl ?c1 ?c2 ?c3 ?c4 ?c5 ?_)
      case c1 =>
        intro j u hj
        match j, hj with
        | 0, hj => simp at hj; subst hj; simp [Addr.add]
        | 1, hj => simp at hj; subst hj; simp [Addr.add]
      case c2 => intro u hu; simp at hu; rcases hu with rfl | rfl <;> rfl
      case c3 => unfold maxLen; omega
      case c4 => omega
      case c5 => simp; omega
      intro v' w1 hown' hgrow _
      obtain ⟨g, cap, rfl⟩ : ∃ g cap, v' = .slice (some ⟨g, 0, none⟩) (k + 1) cap := by
        rcases hown'.2 with ⟨_, h⟩ | ⟨g, cap, _, h, _⟩
        · omega
        · exact ⟨g, cap, h⟩
      have R := fill_step hb HL.out HO.out HG.out hgrow hown'
      have k5 := R.1.controls
      have e5 := R.1.frozen 5
      have HR : Hid _ := R
      clear R hown' hgrow c5 f5 HL HO HG
      go_wp2_with fail
      go_roundw
      case rel => exact ⟨k + 1, _, by omega, by go_num, HR.out.2.1, HR.out.2.2.1, HR.out.2.2.2⟩
      case measure => simp [intOf]; omega
    · obtain rfl : k = n := by omega
      have HR : Hid (LegAt wr b mob bss cb v ∧ wr.ownsRow w.heap.size 68 2 v k (reqs k) ∧ w.grownBy wr (some b)) := ⟨hlr, hown, hg⟩
      clear hlr hown hg hl
      go_wp2_with fail
      go_end0
      exact ⟨rfl, v, HR.out⟩

end Go.Proofs.YbulkabjgDoor
