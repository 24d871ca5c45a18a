/- laws.FnReduce: the walk of the law. -/
import Derived.Test.YthajiimohbjjhaaReduced
namespace Go.Proofs.Ythajiimohbjjhaa
open Go.RowKit

theorem fnReduce_calls {a b : Option Addr} {cap capb n m : Nat} {ns : List Str} {es : List Ed} (w : World) (hn : n = ns.length) (hm : m = es.length) (h : Sl encS 1 w a cap ns) (h' : Sl encE 2 w b capb es) :
    Calls Try.prog 10 #[.slice a n cap, .slice b m capb] w fun e w' => e = .returned (.bool true) ∧ Below w.heap.size w w' := by
  subst hn
  subst hm
  have hfit3 := fits3_calls w rfl h
  have hcl100 : ns.length ≤ 10 → (closedL ns es).length ≤ 100 := fun h10 => Nat.le_trans (closedL_len ns es) (Nat.mul_le_mul h10 h10)
  have HC100 := Lib.hid hcl100; clear hcl100
  go_enter Try.func10, Try.ntmps10
  go_wp2_with (first
    | (go_at_call 27
       refine (sameEdges_calls _ rfl rfl hsl910 hsl10 HL.out.1 HL.out.2).mono ?_
       rintro e w11 ⟨rfl, hb11⟩)
    | (go_at_call 33
       refine (covers_calls _ rfl rfl hn9 hsl69 (by omega)).mono ?_
       rintro e w10 ⟨a10, n10, c10, rfl, rfl, hown10, hb10⟩
       have hb110 := hb19.top hb10 (Nat.le_refl _)
       have hsl910 := hsl9.top hb10
       have hsl10 := hown10.sl encE_len
       clear hown10)
    | (go_at_call 19
       refine (conv_calls _ rfl hsl8 (by omega)).mono ?_
       rintro e w9 ⟨a9, n9, c9, rfl, rfl, hown9, hb9⟩
       have hb19 := hb18.top hb9 (Nat.le_refl _)
       have hn9 := hn8.top hb9
       have hsl69 := hsl68.top hb9
       have hsl9 := hown9.sl encE_len
       clear hown9)
    | (go_at_call 31
       refine (reduced_calls _ rfl rfl hn7 hsl7 hgd.out.1 (by have := hgd.out.2.2.2.1; omega) closedL_in (trans_closed hgd.out.2.2.1) (way_closed hway.out)).mono ?_
       rintro e w8 ⟨a8, _, c8, L, rfl, rfl, hL, hLl, hsl8, hb8⟩
       have HL := Lib.hid hL
       clear hL
       have hb18 := hb17.top hb8 (Nat.le_refl _)
       have hn8 := hn7.top hb8
       have hsl68 := hsl67.top hb8)
    | (go_at_call 32
       refine (plain_calls _ rfl hsl6 (by omega)).mono ?_
       rintro e w7 ⟨a7, n7, c7, rfl, rfl, hown7, hb7⟩
       have hb17 := hb16.top hb7 (Nat.le_refl _)
       have hn7 := hn6.top hb7
       have hsl67 := hsl6.top hb7
       have hsl7 := hown7.sl encE_len
       clear hown7)
    | (go_at_call 30
       refine (closed_calls _ rfl rfl hn5 hcs5 hgd.out.1 (by have := hgd.out.2.2.2.1; omega) hgd.out.2.2.1).mono ?_
       rintro e w6 ⟨a6, n6, c6, rfl, rfl, hown6, hb6⟩
       have hb16 := hb15.top hb6 (Nat.le_refl _)
       have hn6 := hn5.top hb6
       have hsl6 := hown6.sl encE_len
       clear hown6)
    | (go_at_call 30
       refine (closed_calls _ rfl rfl hn4 hcs4 hgd.out.1 (by have := hgd.out.2.2.2.1; omega) hgd.out.2.2.1).mono ?_
       rintro e w5 ⟨a5, n5, c5, rfl, rfl, hown5, hb5⟩
       clear hown5
       have hb15 := hb14.top hb5 (Nat.le_refl _)
       have hn5 := hn4.top hb5
       have hcs5 := hcs4.top hb5)
    | (go_at_call 29
       refine (oneway_calls _ rfl rfl hn3 hcs3 hgd.out.2.2.1).mono ?_
       rintro e w4 ⟨_ | _, rfl, how, hb4⟩
       rotate_left
       have hway : Hid (Way ns es) := Lib.hid (how rfl)
       clear how he3
       have hcl := HC100.out hgd.out.2.2.2.1
       have hb14 := hb13.top hb4 (Nat.le_refl _)
       have hn4 := hn3.top hb4
       have hcs4 := hcs3.top hb4)
    | (go_at_call 20
       refine (good_calls _ rfl rfl ((h.top hb1).top hb2) hcs).mono ?_
       rintro e w3 ⟨_ | _, rfl, hgood, hb3⟩
       rotate_left
       have hgd : Hid (Good ns es) := Lib.hid (by simpa using hgood)
       clear hgood
       have hb13 := hb12.top hb3 (Nat.le_refl _)
       have hcs3 := hcs.top hb3
       have hn3 := h.top hb13
       have he3 := h'.top hb13
       clear hcs hco hb2 hb12)
    | (go_at_call 19
       refine (conv_calls _ rfl (h'.top hb1) (hfit2 (by trivial))).mono ?_
       rintro e w2 ⟨ca, cn, cc, rfl, rfl, hco, hb2⟩
       have hcs := hco.sl encE_len
       have hb12 := hb1.top hb2 (Nat.le_refl _))
    | (go_at_call 18
       refine (fits4_calls _ rfl h').mono ?_
       rintro e w1 ⟨_ | _, rfl, hfit2, hb1⟩)
    | (go_at_call 17; refine hfit3.mono ?_; rintro e w1 ⟨_ | _, rfl, hfit, rfl⟩))
  all_goals
    go_ret
    first
    | exact ⟨rfl, Below.refl _ _⟩
    | exact ⟨rfl, hb1⟩
    | exact ⟨rfl, hb12.top hb3 (Nat.le_refl _)⟩
    | exact ⟨rfl, hb13.top hb4 (Nat.le_refl _)⟩
    | exact ⟨rfl, hb110.top hb11 (Nat.le_refl _)⟩
    | exact ⟨rfl, hb15⟩
end Go.Proofs.Ythajiimohbjjhaa
