/- laws.FnTopo: the walk of the law. -/
import Derived.Test.YthajiimohbjjhaaTopoI
namespace Go.Proofs.Ythajiimohbjjhaa
open Go.RowKit

theorem fnTopo_calls {a b : Option Addr} {cap capb n m : Nat} {ns : List Str} {es : List Ed} (w : World) (hn : n = ns.length) (hm : m = es.length) (h : Sl encS 1 w a cap ns) (h' : Sl encE 2 w b capb es) :
    Calls Try.prog 6 #[.slice a n cap, .slice b m capb] w fun e w' => e = .returned (.bool true) ∧ Below w.heap.size w w' := by
  subst hn
  subst hm
  have hfit3 := fits3_calls w rfl h
  go_enter Try.func6, Try.ntmps6
  go_wp2_with (first
    | (go_at_call 25
       refine (sorted_calls _ rfl rfl rfl hsl5 hn5 hcs5 hok.out.len hok.out.nodup hok.out.mem (fun e he => ⟨(hok.out.mem _).2 (hgd.out.2.2.1 e he).1, (hok.out.mem _).2 (hgd.out.2.2.1 e he).2, hok.out.on e he⟩)).mono ?_
       rintro e w6 ⟨rfl, hb6⟩)
    | (go_at_call 26
       refine (topoI_calls _ rfl rfl hn4 he4 hgd.out.1 (by have := hgd.out.2.2.2.1; omega) hgd.out.2.2.1 hno.out).mono ?_
       rintro e w5 ⟨a5, n5, c5, rfl, rfl, hsl5, hb5⟩
       have hb15 := hb14.top hb5 (Nat.le_refl _)
       have hn5 := hn4.top hb5
       have he5 := he4.top hb5
       have hcs5 := hcs4.top hb5
       have hok := Lib.hid (orderL_ok hgd.out.1 hgd.out.2.2.1 hno.out))
    | (go_at_call 24
       refine (circle_calls _ rfl rfl hn3 hcs3 hgd.out.1 (by have := hgd.out.2.2.2.1; omega) hgd.out.2.2.1).mono ?_
       rintro e w4 ⟨_ | _, rfl, hci, hb4⟩
       have hno : Hid (∀ s, clo ns es s s = false) := Lib.hid (hci rfl)
       clear hci
       have hb14 := hb13.top hb4 (Nat.le_refl _)
       have hn4 := hn3.top hb4
       have he4 := he3.top hb4
       have hcs4 := hcs3.top hb4)
    | (go_at_call 20
       refine (good_calls _ rfl rfl ((h.top hb1).top hb2) hcs).mono ?_
       rintro e w3 ⟨_ | _, rfl, hgood, hb3⟩
       rotate_left
       have hgd : Hid (Good ns es) := Lib.hid (by simpa using hgood)
       clear hgood
       have hb13 := hb12.top hb3 (Nat.le_refl _)
       have hcs3 := hcs.top hb3
       have hn3 := h.top hb13
       have he3 := h'.top hb13
       clear hcs hco hb2 hb12)
    | (go_at_call 19
       refine (conv_calls _ rfl (h'.top hb1) (hfit2 (by trivial))).mono ?_
       rintro e w2 ⟨ca, cn, cc, rfl, rfl, hco, hb2⟩
       have hcs := hco.sl encE_len
       have hb12 := hb1.top hb2 (Nat.le_refl _))
    | (go_at_call 18
       refine (fits4_calls _ rfl h').mono ?_
       rintro e w1 ⟨_ | _, rfl, hfit2, hb1⟩)
    | (go_at_call 17; refine hfit3.mono ?_; rintro e w1 ⟨_ | _, rfl, hfit, rfl⟩))
  all_goals
    go_ret
    first
    | exact ⟨rfl, Below.refl _ _⟩
    | exact ⟨rfl, hb1⟩
    | exact ⟨rfl, hb12.top hb3 (Nat.le_refl _)⟩
    | exact ⟨rfl, hb13.top hb4 (Nat.le_refl _)⟩
    | exact ⟨rfl, hb15.top hb6 (Nat.le_refl _)⟩
end Go.Proofs.Ythajiimohbjjhaa
