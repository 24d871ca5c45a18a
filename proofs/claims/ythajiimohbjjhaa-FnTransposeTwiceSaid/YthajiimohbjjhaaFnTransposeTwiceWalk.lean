/- laws.FnTransposeTwice: the walk of the law. -/
import Derived.Test.YthajiimohbjjhaaTransposed
namespace Go.Proofs.Ythajiimohbjjhaa
open Go.RowKit

theorem fnTransposeTwice_calls {a b : Option Addr} {cap capb n m : Nat} {ns : List Str} {es : List Ed} (w : World) (hn : n = ns.length) (hm : m = es.length) (h : Sl encS 1 w a cap ns) (h' : Sl encE 2 w b capb es) :
    Calls Try.prog 9 #[.slice a n cap, .slice b m capb] w fun e w' => e = .returned (.bool true) ∧ Below w.heap.size w w' := by
  subst hn
  subst hm
  have hfit3 := fits3_calls w rfl h
  go_enter Try.func9, Try.ntmps9
  go_wp2_with (first
    | (go_at_call 27
       refine (sameEdges_calls _ rfl rfl (hco6.sl encE_len) hcs6 HL2.out.1 (fun e => by rw [HL2.out.2, HL.out.2])).mono ?_
       rintro e w7 ⟨rfl, hb7⟩)
    | (go_at_call 19
       refine (conv_calls _ rfl htl2 (by omega)).mono ?_
       rintro e w6 ⟨ca6, cn6, cc6, rfl, rfl, hco6, hb6⟩
       have hcs6 := hcs5.top hb6
       have hb16 := hb15.top hb6 (Nat.le_refl _))
    | (go_at_call 28
       refine (transposed_calls _ rfl rfl hn4 htl (by have := hgd.out.2.2.2.1; omega) hin2.out).mono ?_
       rintro e w5 ⟨ta2, _, tc2, L2, rfl, rfl, hL2, hLl2, htl2, hb5⟩
       have HL2 := Lib.hid hL2
       clear hL2
       have hcs5 := hcs4.top hb5
       have hb15 := hb14.top hb5 (Nat.le_refl _))
    | (go_at_call 28
       refine (transposed_calls _ rfl rfl hn3 he3 (by have := hgd.out.2.2.2.1; omega) hgd.out.2.2.1).mono ?_
       rintro e w4 ⟨ta, _, tc, L, rfl, rfl, hL, hLl, htl, hb4⟩
       have HL := Lib.hid hL
       clear hL he3
       have hn4 := hn3.top hb4
       have hcs4 := hcs3.top hb4
       have hin2 : Hid (∀ e ∈ L, e.1 ∈ ns ∧ e.2 ∈ ns) := Lib.hid (fun e he => (hgd.out.2.2.1 _ ((HL.out.2 e).1 he)).symm)
       have hb14 := hb13.top hb4 (Nat.le_refl _))
    | (go_at_call 20
       refine (good_calls _ rfl rfl ((h.top hb1).top hb2) hcs).mono ?_
       rintro e w3 ⟨_ | _, rfl, hgood, hb3⟩
       rotate_left
       have hgd : Hid (Good ns es) := Lib.hid (by simpa using hgood)
       clear hgood
       have hb13 := hb12.top hb3 (Nat.le_refl _)
       have hcs3 := hcs.top hb3
       have hn3 := h.top hb13
       have he3 := h'.top hb13
       clear hcs hco hb2 hb12)
    | (go_at_call 19
       refine (conv_calls _ rfl (h'.top hb1) (hfit2 (by trivial))).mono ?_
       rintro e w2 ⟨ca, cn, cc, rfl, rfl, hco, hb2⟩
       have hcs := hco.sl encE_len
       have hb12 := hb1.top hb2 (Nat.le_refl _))
    | (go_at_call 18
       refine (fits4_calls _ rfl h').mono ?_
       rintro e w1 ⟨_ | _, rfl, hfit2, hb1⟩)
    | (go_at_call 17; refine hfit3.mono ?_; rintro e w1 ⟨_ | _, rfl, hfit, rfl⟩))
  · go_ret
    exact ⟨rfl, Below.refl _ _⟩
  · go_ret
    exact ⟨rfl, hb1⟩
  rotate_left
  · go_ret
    exact ⟨rfl, hb12.top hb3 (Nat.le_refl _)⟩
  go_ret
  exact ⟨rfl, hb16.top hb7 (Nat.le_refl _)⟩
end Go.Proofs.Ythajiimohbjjhaa
