/- laws.FnWritten: the walk of the law. -/
import Derived.Test.YthpfladpbfbpjaaDoorRulesL
namespace Go.Proofs.YthpfladpbfbpjaaDoor
open Go.RowKit

theorem written_text {R : List Rl} (h : OkR R) {tx : Str} (htx : bs tx = R.flatMap ruleB) : ∃ ts, lex (bs tx) = some ts ∧ tx.size ≤ 400 ∧ ts.length ≤ 400 ∧ packP ts = graphP R := by
  have hlx : lex (bs tx) = some (R.flatMap ruleT) := by rw [htx]; exact (Lxa.rules R h.2.1).lx.all
  have hsz : tx.size ≤ 400 := by
    have := congrArg List.length htx
    rw [bs_len] at this
    rw [this]
    exact h.2.2
  have := lex_len hlx
  exact ⟨_, hlx, hsz, by omega, by unfold packP; rw [pRules_write R h.2.1]; rfl⟩
theorem OkR.small {R : List Rl} (h : OkR R) : Small R := ⟨by have := h.1.1; omega, fun r hr => ⟨by have := (h.1.2 r hr).1.1; omega, by have := (h.1.2 r hr).2.1; omega⟩⟩
theorem FitsL.rules {Ls : List (List Str)} (h : FitsL Ls) {R : List Rl} (hR : R.length ≤ 2147483647) (hm : ∀ r ∈ R, r.1 ∈ Ls ∧ r.2.2 ∈ Ls) : FitsR R :=
  ⟨hR, fun r hr => ⟨h.2 _ (hm r hr).1, h.2 _ (hm r hr).2⟩⟩

set_option maxRecDepth 100000 in
set_option maxHeartbeats 2000000 in
theorem fnWritten_calls {a b : Option Addr} {cap capb n m : Nat} {hs : List HV} {Ls : List (List Str)} {zs : List Int} (w : World) (htab : TabW w) (hn : n = Ls.length) (hm : m = zs.length) (h : DL w a cap hs Ls) (h' : Sl encI 1 w b capb zs) :
    Calls Tryd.prog 3 #[.slice a n cap, .slice b m capb] w fun e w' => e = .returned (.bool true) ∧ Below w.heap.size w w' := by
  subst hn
  subst hm
  have HF := Lib.hid (fits6_calls w rfl h)
  have HT : Hid (∀ w', Below w.heap.size w w' → TabW w') := Lib.hid (fun w' hb => Lib.tabBelow_of_tabIs htab w' hb)
  clear htab
  by_cases hz : zs.length ≤ 2147483647
  · go_enter Tryd.func3, Tryd.ntmps3
    go_wp2_with (first
      | (go_at_call 15; refine HF.out.mono ?_; rintro e w0 ⟨_ | _, rfl, hfit, rfl⟩; rotate_left; have HFT := Lib.hid (hfit (by first | rfl | trivial)); rotate_right)
      | (go_at_call 16; refine (lawRules_calls _ rfl rfl h h' HFT.out.1 hz).mono ?_; rintro e w1 ⟨ra, rn, rc, rfl, qs, R, rfl, hdr, hmem, hRl, hb1⟩)
      | (go_at_call 17; refine (written_calls _ rfl hdr (HFT.out.rules hRl hmem.out)).mono ?_; rintro e w2 ⟨_ | _, rfl, hok, hb2⟩; rotate_left; have HOK := Lib.hid (hok (by first | rfl | trivial)); have hdr2 := Lib.hid (hdr.top hb2); have hbw2 := hb1.top hb2 (Nat.le_refl _); rotate_right)
      | (go_at_call 18
         refine (graph_calls _ rfl hdr2.out HOK.out.small).mono ?_
         rintro e w3 ⟨a3, n3, c3, ea, en, ec, st, rfl, hb3, hm⟩
         have hdr3 := Lib.hid (hdr2.out.top hb3)
         have hbw3 := hbw2.top hb3 (Nat.le_refl _)
         rcases hgr : graphS R with _ | _ | ⟨ns, es⟩
         rw [hgr] at hm
         obtain rfl := hm
         rotate_left
         rw [hgr] at hm
         obtain rfl := hm
         rotate_left
         rw [hgr] at hm
         obtain ⟨rfl, rfl, hs1, rfl, hs2⟩ := hm
         rotate_left)
      | (go_at_call 20; refine (write_calls _ rfl hdr3.out HOK.out.1).mono ?_; rintro e w4 ⟨⟨tx, rfl, htx, htl⟩, hb4⟩; have hbw4 := hbw3.top hb4 (Nat.le_refl _))
      | (go_at_call 19
         have hgw : graphS R = some none := hgr
         obtain ⟨ts, h1, h2, h3, h4⟩ := written_text HOK.out htx.out
         refine (parseI_no tx ts _ (by omega) h1 (by omega) (HT.out _ hbw4) (by rw [h4]; exact wrong_P hgw)).mono ?_
         rintro e w5 ⟨a2, n2, c2, b2, m2, d2, rfl, hb5⟩)
      | (go_at_call 19
         have hgf : graphS R = some (some (ns, es)) := hgr
         obtain ⟨ts, h1, h2, h3, h4⟩ := written_text HOK.out htx.out
         obtain ⟨G, hG, hP⟩ := fine_P hgf
         obtain ⟨l, m, HI, HTo⟩ : ∃ l m, Hid (Calls Tryd.prog 19 #[.string tx] w4 (RetOK l m w4)) ∧ Hid (Told l ns m (closedL ns es)) :=
            ⟨_, _, Lib.hid (parseI_ok tx ts w4 (by omega) h1 (by omega) (HT.out _ hbw4) (by rw [h4]; exact hP)), Lib.hid (hG.told (by have := fine_len hgf; omega))⟩
         clear hG hP G
         refine HI.out.mono ?_
         rintro e w5 ⟨a2, c2, b2, d2, rfl, hb5, hs3, hs4⟩
         have hs1' := (hs1.top hb4).top hb5
         have hs2' := (hs2.top hb4).top hb5)
      | (go_at_call 21; refine (told_calls _ rfl rfl rfl rfl hs3 hs4 hs1' hs2' HTo.out.len HTo.out.nd HTo.out.set HTo.out.ne HTo.out.eset HTo.out.sm).mono ?_; rintro e w6 ⟨rfl, hb6⟩))
    all_goals
      go_ret
      first
      | exact ⟨rfl, (hbw4.top hb5 (Nat.le_refl _)).top hb6 (Nat.le_refl _)⟩
      | exact ⟨rfl, hbw4.top hb5 (Nat.le_refl _)⟩
      | exact ⟨rfl, hbw3⟩
      | exact ⟨rfl, hb1.top hb2 (Nat.le_refl _)⟩
      | exact ⟨rfl, Below.refl _ _⟩
  · go_enter Tryd.func3, Tryd.ntmps3
    go_wp2_with (go_at_call 15; refine HF.out.mono ?_; rintro e w0 ⟨_ | _, rfl, hfit, rfl⟩)
    all_goals
      go_ret
      exact ⟨rfl, Below.refl _ _⟩
end Go.Proofs.YthpfladpbfbpjaaDoor
