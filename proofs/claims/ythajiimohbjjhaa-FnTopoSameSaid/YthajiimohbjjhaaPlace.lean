/- Place: what the call computes. -/
import Derived.Test.YthajiimohbjjhaaSpecD
namespace Go.Proofs.Ythajiimohbjjhaa
open Go.RowKit

theorem quiet_same {P : Program} {f : FuncId} {args : Array Value} {w : World} {n : Nat} {v : Value}
    (h : Calls P f args (w.drewN n) fun e w' => e = .returned v ∧ w.drewN n = w') : Calls P f args (w.drewN n) fun e w'' => e = .returned v ∧ ∃ m, w'' = w.drewN m :=
  h.mono fun _ _ ⟨he, hm⟩ => ⟨he, n, hm.symm⟩
theorem idxOf_first {s : Str} : ∀ {l : List Str} {k : Nat} (h : k < l.length), s ∉ l.take k → l[k] = s → l.idxOf s = k
  | [], _, h, _, _ => by simp at h
  | x :: r, 0, _, _, e => by
    simp only [List.getElem_cons_zero] at e
    subst e
    simp
  | x :: r, k + 1, h, hn, e => by
    have h1 : ¬ x = s := fun e => hn (by simp [e])
    have := idxOf_first (l := r) (k := k) (by simpa using h) (fun hh => hn (by rw [List.take_succ_cons]; exact List.mem_cons_of_mem _ hh)) (by simpa using e)
    rw [List.idxOf_cons]
    have hb : (x == s) = false := by rw [str_beq]; simpa using h1
    rw [hb]
    simp [this]

theorem place_calls {a : Option Addr} {cap n : Nat} {l : List Str} (s : Str) (w : World) (hn : n = l.length) (h : Sl encS 1 w a cap l) (hs : s ∈ l) :
    Calls Try.prog 44 #[.slice a n cap, .string s] w fun e w' => e = .returned (.int .i64 (l.idxOf s : Nat)) ∧ w = w' := by
  subst hn
  have hl := h.len
  have HS := Lib.hid hs; clear hs
  go_enter Try.func44, Try.ntmps44
  go_wp2
  go_loopg [9] l.length (fun gk i wr => ∃ k : Nat, k ≤ l.length ∧ gk = l.length - k ∧ i = .int .i64 k ∧ Hid (s ∉ l.take k) ∧ w = wr)
  case atStart => exact ⟨0, Nat.zero_le _, by omega, rfl, Lib.hid (by simp), rfl⟩
  case round =>
    obtain ⟨k, hk, rfl, rfl, HN, rfl⟩ := hrel
    by_cases hlt : k < l.length
    · obtain ⟨b, off, rfl, hcell⟩ := h.s1 hlt
      by_cases hs : l[k] = s
      · have ht : (l[k].toList == s.toList) = true := by rw [tl_beq]; simpa using hs
        have HI := Lib.hid (idxOf_first hlt HN.out hs)
        clear hs
        go_wp2
        go_ret
        exact ⟨by rw [HI.out]; rfl, rfl⟩
      · have ht : (l[k].toList == s.toList) = false := by rw [tl_beq]; simpa using hs
        have HK := Lib.hid hs
        clear hs
        go_wp2
        go_roundg (l.length - (k + 1))
        case measure => omega
        case rel => exact ⟨k + 1, by omega, rfl, by go_num, Lib.hid (by rw [mem_take_succ hlt]; exact fun h => h.elim HN.out (fun e => HK.out e.symm)), rfl⟩
    · exfalso
      apply HN.out
      rw [List.take_of_length_le (by omega)]
      exact HS.out

end Go.Proofs.Ythajiimohbjjhaa
