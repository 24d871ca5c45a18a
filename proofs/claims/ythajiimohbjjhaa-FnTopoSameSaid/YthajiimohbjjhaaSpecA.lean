/- The reference's small functions: Has, Edged: what each call computes. -/
import Derived.Test.YthajiimohbjjhaaProg
import Derived.Test.YthajiimohbjjhaaMaps
namespace Go.Proofs.Ythajiimohbjjhaa
open Go.RowKit

theorem ret_bool {a b : Bool} (h : a = b) : Ending.returned (.bool a) = .returned (.bool b) := by rw [h]
theorem mem_take_succ {α : Type} {l : List α} {k : Nat} (hk : k < l.length) {x : α} : x ∈ l.take (k + 1) ↔ x ∈ l.take k ∨ x = l[k] := by
  rw [List.take_succ_eq_append_getElem hk, List.mem_append, List.mem_singleton]

theorem has_calls {a : Option Addr} {cap n : Nat} {l : List Str} (s : Str) (w : World) (hn : n = l.length) (h : Sl encS 1 w a cap l) :
    Calls Try.prog 21 #[.slice a n cap, .string s] w fun e w' => e = .returned (.bool (decide (s ∈ l))) ∧ w = w' := by
  subst hn
  have hl := h.len
  go_enter Try.func21, Try.ntmps21
  go_wp2
  go_loop [9] (fun i => ∃ k : Nat, k ≤ l.length ∧ i = .int .i64 k ∧ s ∉ l.take k) (fun i => l.length - (intOf i).toNat)
  case atStart => exact ⟨0, Nat.zero_le _, rfl, by simp⟩
  case round =>
    obtain ⟨k, hk, rfl, hn⟩ := hrel
    by_cases hlt : k < l.length
    · obtain ⟨b, off, rfl, hcell⟩ := h.s1 hlt
      clear h
      have HN := Lib.hid hn
      clear hn
      by_cases hs : l[k] = s
      · have ht : (l[k].toList == s.toList) = true := by rw [tl_beq]; simpa using hs
        have HS := Lib.hid hs
        clear hs
        go_wp2
        go_ret
        exact ⟨ret_bool (by rw [eq_comm, decide_eq_true_eq, ← HS.out]; exact List.getElem_mem hlt), rfl⟩
      · have ht : (l[k].toList == s.toList) = false := by rw [tl_beq]; simpa using hs
        have HS := Lib.hid hs
        clear hs
        go_wp2
        go_round
        case rel => exact ⟨k + 1, by omega, by go_num, by rw [mem_take_succ hlt]; exact fun h => h.elim HN.out (fun e => HS.out e.symm)⟩
        case measure => simp [intOf]; omega
    · have HN := Lib.hid hn
      clear hn
      go_wp2
      go_ret
      exact ⟨ret_bool (by rw [eq_comm, decide_eq_false_iff_not]; have := HN.out; rwa [List.take_of_length_le (by omega)] at this), rfl⟩

theorem edged_calls {a : Option Addr} {cap n : Nat} {l : List Ed} (s t : Str) (w : World) (hn : n = l.length) (h : Sl encE 2 w a cap l) :
    Calls Try.prog 23 #[.slice a n cap, .string s, .string t] w fun e w' => e = .returned (.bool (decide ((s, t) ∈ l))) ∧ Below w.heap.size w w' := by
  subst hn
  have hl := h.len
  go_enter Try.func23, Try.ntmps23
  go_wp2
  go_loopw [11] (fun i wr => ∃ k : Nat, k ≤ l.length ∧ i = .int .i64 k ∧ (s, t) ∉ l.take k ∧ Below w.heap.size w wr) (fun i _ => l.length - (intOf i).toNat)
  case atStart => exact ⟨0, Nat.zero_le _, rfl, by simp, Below.refl _ _⟩
  case round =>
    obtain ⟨k, hk, rfl, hn, hb⟩ := hrel
    have HN := Lib.hid hn
    clear hn
    by_cases hlt : k < l.length
    · obtain ⟨b, off, rfl, hbl, h1, h2⟩ := (h.top hb).e2 hlt
      clear h
      have hsz := hb.size
      by_cases hs : l[k].1 = s
      · have ht1 : (l[k].1.toList == s.toList) = true := by rw [tl_beq]; simpa using hs
        have HS := Lib.hid hs
        clear hs
        by_cases ht : l[k].2 = t
        · have ht2 : (l[k].2.toList == t.toList) = true := by rw [tl_beq]; simpa using ht
          have HT := Lib.hid ht
          clear ht
          go_wp2
          go_ret
          exact ⟨ret_bool (by rw [eq_comm, decide_eq_true_eq, ← HS.out, ← HT.out]; exact List.getElem_mem hlt), hb.alloc hsz _⟩
        · have ht2 : (l[k].2.toList == t.toList) = false := by rw [tl_beq]; simpa using ht
          have HT := Lib.hid ht
          clear ht
          go_wp2
          go_roundw
          case rel => exact ⟨k + 1, by omega, by go_num, by rw [mem_take_succ hlt]; exact fun h => h.elim HN.out (fun e => HT.out (by rw [← e])), hb.alloc hsz _⟩
          case measure => simp [intOf]; omega
      · have ht1 : (l[k].1.toList == s.toList) = false := by rw [tl_beq]; simpa using hs
        have HS := Lib.hid hs
        clear hs
        go_wp2
        go_roundw
        case rel => exact ⟨k + 1, by omega, by go_num, by rw [mem_take_succ hlt]; exact fun h => h.elim HN.out (fun e => HS.out (by rw [← e])), hb.alloc hsz _⟩
        case measure => simp [intOf]; omega
    · go_wp2
      go_ret
      exact ⟨ret_bool (by rw [eq_comm, decide_eq_false_iff_not]; have := HN.out; rwa [List.take_of_length_le (by omega)] at this), hb⟩
end Go.Proofs.Ythajiimohbjjhaa
