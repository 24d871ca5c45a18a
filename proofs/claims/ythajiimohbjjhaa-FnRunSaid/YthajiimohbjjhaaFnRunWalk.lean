/- laws.FnRun: the walk of the law. -/
import Derived.Test.YthajiimohbjjhaaRunLaw
namespace Go.Proofs.Ythajiimohbjjhaa
open Go.RowKit

theorem fnRun_calls {a : Option Addr} {cap n : Nat} {l : List St} (w : World) (hn : n = l.length) (h : Sl encT 3 w a cap l) :
    Calls Try.prog 3 #[.slice a n cap] w fun e w' => e = .returned (.bool true) ∧ Below w.heap.size w w' := by
  subst hn
  have hl := h.len
  go_enter Try.func3, Try.ntmps3
  go_wp2_with (go_at_call 13; refine (fits1_calls _ rfl h).mono ?_; rintro e w1 ⟨_ | _, rfl, hfit, hb1⟩)
  · go_ret
    exact ⟨rfl, hb1⟩
  have hsm := hfit (by trivial)
  clear hfit
  have hs1 := hb1.size
  go_loopw [15, 3] (fun i v wr => ∃ (k : Nat) (m : List St) (a' : Option Addr) (cap' : Nat), k ≤ l.length ∧ i = .int .i64 k ∧ v = .slice a' m.length cap' ∧ Hid (m = l.take k) ∧ Own encT 3 wr w.heap.size 27 a' cap' m ∧ Below w.heap.size w wr) (fun i _ _ => l.length - (intOf i).toNat)
  case atStart => exact ⟨0, [], _, _, Nat.zero_le _, rfl, rfl, Lib.hid (by simp), Own.made encT 3 w1 _ _ hs1, hb1.alloc hs1 _⟩
  case round =>
    obtain ⟨k, m, a', cap', hk, rfl, rfl, Hm, hown, hb⟩ := hrel
    have hsz := hb.size
    by_cases hlt : k < l.length
    · obtain ⟨b, off, rfl, hbl, h1, h2, h3⟩ := (h.top hb).t3 hlt
      clear h
      have hml : m.length ≤ k := by have := congrArg List.length Hm.out; simp at this; omega
      go_wp2_with (at_builtin; refine wpList_append_new encT 3 encT_len encT_one _ _ rfl _ _ 24 rfl 27 _ 40 Try.underlying24 infoT rfl (by omega) w.heap.size a' cap' m _ rfl rfl (hown.alloc _) l[k] _ _ (by simp) rfl (by omega) (by omega) (by simp; omega) ?_; intro a2 cap2 w2 hown2 hf2 hk2)
      go_roundw
      case rel =>
        refine ⟨k + 1, m ++ [l[k]], a2, cap2, by omega, by go_num, by simp, Lib.hid (by rw [Hm.out, List.take_succ_eq_append_getElem hlt]), hown2, ?_⟩
        exact (hb.alloc hsz _).fr hf2 (Nat.le_refl _) (fun j hj => (hown.lt j hj).1)
      case measure => simp [intOf]; omega
    · have hml : m = l := by rw [Hm.out, List.take_of_length_le (by omega)]
      clear Hm
      subst hml
      have hsl := hown.sl encT_len
      go_wp2_with (go_at_call 14; refine (steps_calls _ rfl hsl hsm).mono ?_; rintro e w2 ⟨_ | _, rfl, hok, hb2⟩)
      · go_ret
        exact ⟨rfl, hb.top hb2 (Nat.le_refl _)⟩
      have hok1 := (hok (by trivial)).1
      clear hok
      have HOK := Lib.hid hok1; clear hok1
      have hbw2 := hb.top hb2 (Nat.le_refl _)
      have hA2 := h.top hbw2
      have hL2 := hsl.top hb2
      go_wp2_with (first
        | (go_at_call 15
           refine (implRun_calls _ rfl hA2 hsm HOK.out).mono ?_
           rintro e w3 ⟨ga, gn, gc, rfl, hgn, hgo, hb3⟩
           have hL3 := hL2.top hb3)
        | (go_at_call 16
           refine (specRun_calls _ rfl hL3 hsm).mono ?_
           rintro e w4 ⟨wa, wn, wc, rfl, hwn, hwo, hb4⟩))
      have hG4 := (hgo.sl encB_len).top hb4
      have hW4 := hwo.sl encB_len
      have hsame := run_same HOK.out
      rw [hsame] at hG4
      have hlen := (runS_len m).2.2
      have hb4w : Below w.heap.size w w4 := (hbw2.top hb3 (Nat.le_refl _)).top hb4 (Nat.le_refl _)
      generalize (runS m).out = L at *
      have HL := Lib.hid hlen; clear hlen
      have HGN := Lib.hid hgn; clear hgn
      have HWN := Lib.hid hwn; clear hwn
      have HSA := Lib.hid hsame; clear hsame
      go_loopw [44] (fun i wr => ∃ (k : Nat), k ≤ m.length ∧ i = .int .i64 k ∧ Below w4.heap.size w4 wr) (fun i _ => m.length - (intOf i).toNat)
      case atStart => exact ⟨0, Nat.zero_le _, rfl, Below.refl _ _⟩
      case round =>
        obtain ⟨k', hk', rfl, hbi⟩ := hrel
        by_cases hlt' : k' < m.length
        · obtain ⟨gb, goff, rfl, g1⟩ := (hG4.top hbi).b1 (k := k') (by rw [HL.out]; exact hlt')
          obtain ⟨wb, woff, rfl, g2⟩ := (hW4.top hbi).b1 (k := k') (by rw [HL.out]; exact hlt')
          generalize L[k']'(by rw [HL.out]; exact hlt') = x at g1 g2
          go_wp2
          go_quiet (fail)
          go_wp2
          go_roundw
          case rel => exact ⟨k' + 1, by omega, by go_num, hbi.fr (Fr.drewN NoB _ _) (Nat.le_refl _) (fun _ hs => hs.elim)⟩
          case measure => simp [intOf]; omega
        · go_wp2
          go_ret
          exact ⟨rfl, hb4w.top hbi (Nat.le_refl _)⟩
end Go.Proofs.Ythajiimohbjjhaa
