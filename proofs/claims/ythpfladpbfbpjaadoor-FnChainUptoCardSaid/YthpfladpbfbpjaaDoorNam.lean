/- The reference's Name: what the call computes. -/
import Derived.Test.YthpfladpbfbpjaaDoorPackC
namespace Go.Proofs.YthpfladpbfbpjaaDoor
open Go.RowKit

def nameB (s : Str) : Bool := (bs s).all letterB && (!decide (s = eS) && decide (s.size ≤ 24))
theorem nameB_iff {s : Str} : nameB s = true ↔ NameS s := by
  unfold nameB NameS
  simp only [Bool.and_eq_true, List.all_eq_true, Bool.not_eq_true', decide_eq_false_iff_not, decide_eq_true_eq]
  have h0 : s = eS ↔ bs s = [] := by
    constructor
    · intro h; rw [h]; rfl
    · intro h; rw [← mkS_bs s, h]; rfl
  rw [h0]
  constructor
  · rintro ⟨h1, h2, h3⟩; exact ⟨h2, h1, h3⟩
  · rintro ⟨h2, h1, h3⟩; exact ⟨h1, h2, h3⟩
theorem name_calls (s : Str) (w : World) (hs : s.size ≤ 2147483647) : Calls Tryd.prog 30 #[.string s] w fun e w' => e = .returned (.bool (nameB s)) ∧ w = w' := by
  have hem := tl_tok s []
  have hlen := bs_len s
  obtain ⟨res, hres⟩ : ∃ res, nameB s = res := ⟨_, rfl⟩
  rw [hres]
  have HRES := Lib.hid hres; clear hres
  go_enter Tryd.func30, Tryd.ntmps30
  go_wp2
  go_loop [6] (fun i => ∃ k : Nat, k ≤ s.size ∧ i = .int .i64 k ∧ ((bs s).take k).all letterB = true) (fun i => s.size - (intOf i).toNat)
  case atStart => exact ⟨0, Nat.zero_le _, rfl, by simp⟩
  case round =>
    obtain ⟨k, hk, rfl, hall⟩ := hrel
    have HALL := Lib.hid hall
    clear hall
    by_cases hlt : k < s.size
    · have hlb : k < (bs s).length := by rw [hlen]; exact hlt
      have hg := bs_get s k hlt
      cases hl : letterB s[k] with
      | false =>
        have hc := Lib.hid (letter_no s[k] w hl)
        have hr : Hid (res = false) := Lib.hid (by
          rw [← HRES.out]
          unfold nameB
          rw [Bool.and_eq_false_iff]
          left
          rw [List.all_eq_false]
          exact ⟨(bs s)[k], List.getElem_mem hlb, fun hh => by rw [hg] at hh; exact absurd (hl.symm.trans hh) (by decide)⟩)
        clear hl hg hem hlen
        go_wp2_with (go_at_call 44; refine hc.out.mono ?_; rintro e w' ⟨rfl, rfl⟩)
        go_ret
        exact ⟨ret_bool hr.out.symm, rfl⟩
      | true =>
        have hc := Lib.hid (letter_yes s[k] w hl)
        have hn : ((bs s).take (k + 1)).all letterB = true := by
          rw [List.take_succ_eq_append_getElem hlb, List.all_append, HALL.out]
          have h1 : letterB ((bs s)[k]) = true := by rw [hg]; exact hl
          simp [h1]
        have HN := Lib.hid hn; clear hn
        clear hl hg hem
        go_wp2_with (go_at_call 44; refine hc.out.mono ?_; rintro e w' ⟨rfl, rfl⟩)
        go_round
        case rel => exact ⟨k + 1, by omega, by go_num, HN.out⟩
        case measure => simp [intOf]; omega
    · have hal : (bs s).all letterB = true := by have := HALL.out; rwa [List.take_of_length_le (by omega)] at this
      by_cases h0 : s = eS
      · rw [decide_eq_true (p := s = mkS []) h0] at hem
        have hne : (s.toList != []) = false := by rw [bne, hem]; rfl
        have hr : Hid (res = false) := Lib.hid (by rw [← HRES.out]; unfold nameB; simp [h0])
        clear h0 hal hlen
        go_wp2
        go_ret
        exact ⟨ret_bool hr.out.symm, rfl⟩
      · rw [decide_eq_false (p := s = mkS []) h0] at hem
        have hne : (s.toList != []) = true := by rw [bne, hem]; rfl
        by_cases h24 : s.size ≤ 24
        · have hr : Hid (res = true) := Lib.hid (by rw [← HRES.out]; unfold nameB; simp [h0, h24, hal])
          have h24i : (s.size : Int) ≤ 24 := by omega
          clear h0 hal hlen
          go_wp2
          go_ret
          exact ⟨ret_bool (by rw [hr.out]), rfl⟩
        · have hr : Hid (res = false) := Lib.hid (by rw [← HRES.out]; unfold nameB; simp [h24])
          have h24i : ¬ (s.size : Int) ≤ 24 := by omega
          clear h0 hal hlen
          go_wp2
          go_ret
          exact ⟨ret_bool (by rw [hr.out]), rfl⟩
end Go.Proofs.YthpfladpbfbpjaaDoor
