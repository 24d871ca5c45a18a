/- laws.FnTranspose: the walk of the law. -/
import Derived.Test.YthajiimohbjjhaaTransposed
namespace Go.Proofs.Ythajiimohbjjhaa
open Go.RowKit

theorem fnTranspose_calls {a b : Option Addr} {cap capb n m : Nat} {ns : List Str} {es : List Ed} (w : World) (hn : n = ns.length) (hm : m = es.length) (h : Sl encS 1 w a cap ns) (h' : Sl encE 2 w b capb es) :
    Calls Try.prog 8 #[.slice a n cap, .slice b m capb] w fun e w' => e = .returned (.bool true) ∧ Below w.heap.size w w' := by
  subst hn
  subst hm
  have hfit3 := fits3_calls w rfl h
  go_enter Try.func8, Try.ntmps8
  go_wp2_with (first
    | (go_at_call 20
       refine (good_calls _ rfl rfl ((h.top hb1).top hb2) hcs).mono ?_
       rintro e w3 ⟨_ | _, rfl, hgood, hb3⟩
       rotate_left
       have hgd : Hid (Good ns es) := Lib.hid (by simpa using hgood)
       clear hgood
       have hb13 := hb12.top hb3 (Nat.le_refl _)
       have hcs3 := hcs.top hb3
       have hn3 := h.top hb13
       have he3 := h'.top hb13
       clear hcs hco hb2 hb12)
    | (go_at_call 19
       refine (conv_calls _ rfl (h'.top hb1) (hfit2 (by trivial))).mono ?_
       rintro e w2 ⟨ca, cn, cc, rfl, rfl, hco, hb2⟩
       have hcs := hco.sl encE_len
       have hb12 := hb1.top hb2 (Nat.le_refl _))
    | (go_at_call 18
       refine (fits4_calls _ rfl h').mono ?_
       rintro e w1 ⟨_ | _, rfl, hfit2, hb1⟩)
    | (go_at_call 17; refine hfit3.mono ?_; rintro e w1 ⟨_ | _, rfl, hfit, rfl⟩))
  · go_ret
    exact ⟨rfl, Below.refl _ _⟩
  · go_ret
    exact ⟨rfl, hb1⟩
  rotate_left
  · go_ret
    exact ⟨rfl, hb12.top hb3 (Nat.le_refl _)⟩
  have hs13 := hb13.size
  have hcl3 := hcs3.len
  have hes64 : es.length ≤ 64 := hgd.out.2.2.2.2
  clear hb1 hfit3 hfit hfit2
  go_loopg [26, 6] es.length (fun gk i v wr => ∃ (k : Nat) (m : List Ed) (a' : Option Addr) (cap' : Nat), k ≤ es.length ∧ gk = es.length - k ∧ i = .int .i64 k ∧ v = .slice a' m.length cap' ∧ Hid (m = (es.take k).map fun e => (e.2, e.1)) ∧
    Own encE 2 wr w3.heap.size 43 a' cap' m ∧ Below w3.heap.size w3 wr)
  case atStart => exact ⟨0, [], _, _, Nat.zero_le _, by omega, rfl, rfl, Lib.hid (by simp), Own.made encE 2 w3 _ _ (Nat.le_refl _), (Below.refl _ _).alloc (Nat.le_refl _) _⟩
  case round =>
    obtain ⟨k, m, a', cap', hk, rfl, rfl, rfl, Hm, hown, hb⟩ := hrel
    have hsz := hb.size
    have hmk : m.length ≤ k := by rw [Hm.out]; simp; omega
    by_cases hlt : k < es.length
    · obtain ⟨bb, off, rfl, hbl, h1, h2⟩ := (hcs3.top hb).e2 hlt
      have hq : (es.take (k + 1)).map (fun e => (e.2, e.1)) = m ++ [(es[k].2, es[k].1)] := by rw [List.take_succ_eq_append_getElem hlt, List.map_append, ← Hm.out]; rfl
      have HQ := Lib.hid hq; clear hq
      go_wp2_with (at_builtin; refine wpList_append_new encE 2 encE_len encE_one _ _ rfl _ _ 36 rfl 43 _ 32 Try.underlying36 infoE rfl (by omega) w3.heap.size a' cap' m _ rfl rfl (hown.alloc _) (es[k].2, es[k].1) _ _ (by simp) rfl (by omega) (by omega) (by simp; omega) ?_; intro a2 cap2 w4 hown2 hf2 hk2)
      go_roundg (es.length - (k + 1))
      case measure => omega
      case rel =>
        refine ⟨k + 1, m ++ [(es[k].2, es[k].1)], a2, cap2, by omega, rfl, by go_num, by simp, Lib.hid HQ.out.symm, hown2, ?_⟩
        exact (hb.alloc hsz _).fr hf2 (Nat.le_refl _) (fun j hj => (hown.lt j hj).1)
    · have hmm : m = es.map fun e => (e.2, e.1) := by rw [Hm.out, List.take_of_length_le (by omega)]
      clear Hm
      have HMM := Lib.hid hmm; clear hmm
      have hb3r := hb13.top hb (Nat.le_refl _)
      have hws := hown.sl encE_len
      go_wp2_with (first
        | (go_at_call 27
           refine (sameEdges_calls _ rfl rfl (hco6.sl encE_len) hws6 HL.out.1 (fun e => ?_)).mono ?_
           · rw [HL.out.2, HMM.out, List.mem_map]
             constructor
             · intro hh; exact ⟨_, hh, rfl⟩
             · rintro ⟨x, hx, rfl⟩; exact hx
           rintro e w7 ⟨rfl, hb7⟩)
        | (go_at_call 19
           refine (conv_calls _ rfl htl (by omega)).mono ?_
           rintro e w6 ⟨ca6, cn6, cc6, rfl, rfl, hco6, hb6⟩
           have hws6 := hws5.top hb6
           have hb16 := hb15.top hb6 (Nat.le_refl _))
        | (go_at_call 28
           refine (transposed_calls _ rfl rfl (hn3.top hb) (he3.top hb) (by have := hgd.out.2.2.2.1; omega) hgd.out.2.2.1).mono ?_
           rintro e w5 ⟨ta, _, tc, L, rfl, rfl, hL, hLl, htl, hb5⟩
           have HL := Lib.hid hL
           clear hL
           have hws5 := hws.top hb5
           have hb15 := hb3r.top hb5 (Nat.le_refl _)))
      go_ret
      exact ⟨rfl, hb16.top hb7 (Nat.le_refl _)⟩
end Go.Proofs.Ythajiimohbjjhaa
