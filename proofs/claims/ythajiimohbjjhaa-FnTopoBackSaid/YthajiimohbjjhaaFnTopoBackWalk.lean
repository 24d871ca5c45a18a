/- laws.FnTopoBack: the walk of the law. -/
import Derived.Test.YthajiimohbjjhaaTopoI
import Derived.Test.YthajiimohbjjhaaTransposed
import Derived.Test.YthajiimohbjjhaaGoodYes
namespace Go.Proofs.Ythajiimohbjjhaa
open Go.RowKit

theorem turned_len {es L : List Ed} (h : Turned es L) : L.length ≤ es.length := by
  have hsw : (L.map fun e : Ed => (e.2, e.1)).Nodup := (List.pairwise_map).2 (List.Pairwise.imp (fun h e => h (by
    have h1 := congrArg Prod.fst e
    have h2 := congrArg Prod.snd e
    exact Prod.ext h2 h1)) h.1)
  have := nodup_subset_len (l2 := es) hsw (fun x hx => by
    obtain ⟨z, hz, e⟩ := List.mem_map.1 hx
    subst e
    exact (h.2 z).1 hz)
  rwa [List.length_map] at this
theorem turned_pos {es L : List Ed} (h : Turned es L) : es.length = 0 ∨ 0 < L.length := by
  cases es with
  | nil => exact .inl rfl
  | cons e r =>
    right
    exact List.length_pos_of_mem ((h.2 (e.2, e.1)).2 (by simp))
theorem turned_no {ns : List Str} {es L : List Ed} (hin : ∀ e ∈ es, e.1 ∈ ns ∧ e.2 ∈ ns) (h : Turned es L) (hno : ∀ s, clo ns es s s = false) (s : Str) : clo ns L s s = false := by
  cases hc : clo ns L s s with
  | false => rfl
  | true =>
    have := clo_least (T := fun a b => clo ns es b a = true) (fun a b hab => clo_mono ((h.2 (a, b)).1 hab)) (fun _ _ _ h1 h2 => clo_trans hin h2 h1) hc
    rw [hno] at this
    cases this

theorem fnTopoBack_calls {a b : Option Addr} {cap capb n m : Nat} {ns : List Str} {es : List Ed} (w : World) (hn : n = ns.length) (hm : m = es.length) (h : Sl encS 1 w a cap ns) (h' : Sl encE 2 w b capb es) :
    Calls Try.prog 12 #[.slice a n cap, .slice b m capb] w fun e w' => e = .returned (.bool true) ∧ Below w.heap.size w w' := by
  subst hn
  subst hm
  have hfit3 := fits3_calls w rfl h
  go_enter Try.func12, Try.ntmps12
  go_wp2_with (first
    | (go_at_call 19
       refine (conv_calls _ rfl hsl510 (by omega)).mono ?_
       rintro e w11 ⟨a11, n11, c11, rfl, rfl, hown11, hb11⟩
       have hb111 := hb110.top hb11 (Nat.le_refl _)
       clear hown11)
    | (go_at_call 25
       refine (sorted_calls _ rfl rfl rfl hsl89 hn9 hsl9 hokL.out.len hokL.out.nodup hokL.out.mem (fun e he => ⟨(hokL.out.mem _).2 (hgL.out.2.2.1 e he).1, (hokL.out.mem _).2 (hgL.out.2.2.1 e he).2, hokL.out.on e he⟩)).mono ?_
       rintro e w10 ⟨rfl, hb10⟩
       have hb110 := hb19.top hb10 (Nat.le_refl _)
       have hsl510 := hsl59.top hb10)
    | (go_at_call 19
       refine (conv_calls _ rfl hsl58 (by omega)).mono ?_
       rintro e w9 ⟨a9, n9, c9, rfl, rfl, hown9, hb9⟩
       have hb19 := hb18.top hb9 (Nat.le_refl _)
       have hn9 := hn8.top hb9
       have hsl59 := hsl58.top hb9
       have hsl89 := hsl8.top hb9
       have hsl9 := hown9.sl encE_len
       clear hown9)
    | (go_at_call 26
       refine (topoI_calls _ rfl rfl hn7 hsl57 hgd.out.1 (by have := hgd.out.2.2.2.1; omega) hgL.out.2.2.1 hnoL.out).mono ?_
       rintro e w8 ⟨a8, n8, c8, rfl, rfl, hsl8, hb8⟩
       have hb18 := hb17.top hb8 (Nat.le_refl _)
       have hn8 := hn7.top hb8
       have hsl58 := hsl57.top hb8)
    | (go_at_call 20
       refine (good_yes _ rfl rfl hn6 hsl6 hgL.out).mono ?_
       rintro e w7 ⟨rfl, hb7⟩
       have hb17 := hb16.top hb7 (Nat.le_refl _)
       have hn7 := hn6.top hb7
       have hsl57 := hsl56.top hb7)
    | (go_at_call 19
       refine (conv_calls _ rfl hsl5 (by omega)).mono ?_
       rintro e w6 ⟨a6, n6, c6, rfl, rfl, hown6, hb6⟩
       have hb16 := hb15.top hb6 (Nat.le_refl _)
       have hn6 := hn5.top hb6
       have hsl56 := hsl5.top hb6
       have hsl6 := hown6.sl encE_len
       clear hown6)
    | (go_at_call 28
       refine (transposed_calls _ rfl rfl hn4 he4 (by have := hgd.out.2.2.2.1; omega) hgd.out.2.2.1).mono ?_
       rintro e w5 ⟨ta, _, tc, L, rfl, rfl, hL, hLl, hsl5, hb5⟩
       have HL := Lib.hid hL
       clear hL
       have hb15 := hb14.top hb5 (Nat.le_refl _)
       have hn5 := hn4.top hb5
       have hll := turned_len HL.out
       have hlp := turned_pos HL.out
       have hgL : Hid (Good ns L) := Lib.hid ⟨hgd.out.1, hgd.out.2.1, fun e he => (hgd.out.2.2.1 _ ((HL.out.2 e).1 he)).symm, hgd.out.2.2.2.1, by have := hgd.out.2.2.2.2; omega⟩
       have hnoL : Hid (∀ s, clo ns L s s = false) := Lib.hid (turned_no hgd.out.2.2.1 HL.out hno.out)
       have hokL := Lib.hid (orderL_ok hgL.out.1 hgL.out.2.2.1 hnoL.out))
    | (go_at_call 24
       refine (circle_calls _ rfl rfl hn3 hcs3 hgd.out.1 (by have := hgd.out.2.2.2.1; omega) hgd.out.2.2.1).mono ?_
       rintro e w4 ⟨_ | _, rfl, hci, hb4⟩
       have hno : Hid (∀ s, clo ns es s s = false) := Lib.hid (hci rfl)
       clear hci
       have hb14 := hb13.top hb4 (Nat.le_refl _)
       have hn4 := hn3.top hb4
       have he4 := he3.top hb4)
    | (go_at_call 20
       refine (good_calls _ rfl rfl ((h.top hb1).top hb2) hcs).mono ?_
       rintro e w3 ⟨_ | _, rfl, hgood, hb3⟩
       rotate_left
       have hgd : Hid (Good ns es) := Lib.hid (by simpa using hgood)
       clear hgood
       have hb13 := hb12.top hb3 (Nat.le_refl _)
       have hcs3 := hcs.top hb3
       have hn3 := h.top hb13
       have he3 := h'.top hb13
       clear hcs hco hb2 hb12)
    | (go_at_call 19
       refine (conv_calls _ rfl (h'.top hb1) (hfit2 (by trivial))).mono ?_
       rintro e w2 ⟨ca, cn, cc, rfl, rfl, hco, hb2⟩
       have hcs := hco.sl encE_len
       have hb12 := hb1.top hb2 (Nat.le_refl _))
    | (go_at_call 18
       refine (fits4_calls _ rfl h').mono ?_
       rintro e w1 ⟨_ | _, rfl, hfit2, hb1⟩)
    | (go_at_call 17; refine hfit3.mono ?_; rintro e w1 ⟨_ | _, rfl, hfit, rfl⟩))
  all_goals
    go_ret
    first
    | exact ⟨rfl, Below.refl _ _⟩
    | exact ⟨rfl, hb1⟩
    | exact ⟨rfl, hb12.top hb3 (Nat.le_refl _)⟩
    | exact ⟨rfl, hb13.top hb4 (Nat.le_refl _)⟩
    | exact ⟨rfl, hb111⟩
    | exact ⟨ret_bool (by rcases hlp with h0 | h0 <;> simp [h0]), hb111⟩
end Go.Proofs.Ythajiimohbjjhaa
