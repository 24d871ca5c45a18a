/- laws.FnSpaced: the walk of the law. -/
import Derived.Test.YthpfladpbfbpjaaDoorSpaced
namespace Go.Proofs.YthpfladpbfbpjaaDoor
open Go.RowKit

set_option maxRecDepth 100000 in
set_option maxHeartbeats 2000000 in
theorem fnSpaced_calls (s : Str) (turn : Int) (_hwf : (Lit.int .i64 turn).wf = true) (w : World) (htab : TabW w) : Calls Tryd.prog 14 #[.string s, .int .i64 turn] w fun e w' => e = .returned (.bool true) ∧ Below w.heap.size w w' := by
  by_cases hsm : s.size ≤ 2147483647
  · have htk := tokens_calls s w hsm
    have HS : Hid (∀ w', Calls Tryd.prog 22 #[.string s] w' (RetGr (parseS s) w')) := Lib.hid (fun w' => parseS_calls s w' hsm)
    have HT : Hid (∀ w', Below w.heap.size w w' → TabW w') := Lib.hid (fun w' hb => Lib.tabBelow_of_tabIs htab w' hb)
    clear htab
    rcases hlx : lex (bs s) with _ | ts
    · rw [hlx] at htk
      have HK := Lib.hid htk
      clear htk hlx HS HT
      go_enter Tryd.func14, Tryd.ntmps14
      go_wp2_with (go_at_call 34; refine HK.out.mono ?_; rintro e w1 ⟨ta, tn, tc, tb, rfl, hb1, hnone, _⟩; obtain rfl := hnone rfl; clear hnone)
      go_ret
      exact ⟨rfl, hb1⟩
    · rw [hlx] at htk
      have HK := Lib.hid htk
      clear htk
      have hany : ∀ (hbad : ¬ (0 ≤ turn ∧ turn ≤ 1000 ∧ s.size ≤ 400)), Calls Tryd.prog 14 #[.string s, .int .i64 turn] w fun e w' => e = .returned (.bool true) ∧ Below w.heap.size w w' := by
        intro hbad
        clear hlx HS HT
        by_cases h0 : 0 ≤ turn
        · by_cases h1 : turn ≤ 1000
          · have h2 : ¬ s.size ≤ 400 := fun h => hbad ⟨h0, h1, h⟩
            clear hbad
            go_enter Tryd.func14, Tryd.ntmps14
            go_wp2_with (go_at_call 34; refine HK.out.mono ?_; rintro e w1 ⟨ta, tn, tc, tb, rfl, hb1, _, hsome⟩; obtain ⟨rfl, rfl, hown⟩ := hsome _ rfl; clear hsome)
            go_ret
            exact ⟨rfl, hb1⟩
          · clear hbad
            go_enter Tryd.func14, Tryd.ntmps14
            go_wp2_with (go_at_call 34; refine HK.out.mono ?_; rintro e w1 ⟨ta, tn, tc, tb, rfl, hb1, _, hsome⟩; obtain ⟨rfl, rfl, hown⟩ := hsome _ rfl; clear hsome)
            go_ret
            exact ⟨rfl, hb1⟩
        · clear hbad
          go_enter Tryd.func14, Tryd.ntmps14
          go_wp2_with (go_at_call 34; refine HK.out.mono ?_; rintro e w1 ⟨ta, tn, tc, tb, rfl, hb1, _, hsome⟩; obtain ⟨rfl, rfl, hown⟩ := hsome _ rfl; clear hsome)
          go_ret
          exact ⟨rfl, hb1⟩
      by_cases hgood : 0 ≤ turn ∧ turn ≤ 1000 ∧ s.size ≤ 400
      · clear hany
        obtain ⟨h0, h1, h400⟩ := hgood
        obtain ⟨t, rfl⟩ : ∃ t : Nat, turn = t := ⟨turn.toNat, by omega⟩
        have ht1 : t ≤ 1000 := by omega
        have hcnt := lex_count _ _ _ (Nat.le_refl _) hlx
        rw [bs_len] at hcnt
        have htl : ts.length ≤ 400 := by omega
        have HTS : Hid (∀ x ∈ ts, x.size ≤ 400) := Lib.hid (fun x hx => by have := (hcnt.2 x hx).2; omega)
        have htok := fun x hx => lex_tok _ _ _ (Nat.le_refl _) hlx x hx
        have HSL : Hid (∀ tx : Str, bs tx = spacedB t ts ts.length ++ [10] → lex (bs tx) = some ts ∧ tx.size ≤ 1000000) := Lib.hid (fun tx h => by
          refine ⟨by rw [h]; exact spaced_lex htok t, ?_⟩
          have h2 := spaced_len HTS.out t ts.length (Nat.le_refl _)
          have h3 := congrArg List.length h
          rw [bs_len, List.length_append] at h3
          have : ts.length * (10 + 400) ≤ 400 * 410 := Nat.mul_le_mul htl (Nat.le_refl _)
          simp only [List.length_cons, List.length_nil] at h3
          omega)
        clear hcnt htok
        rcases hps : parseS s with _ | _ | ⟨ns, es⟩
        · rw [hps] at HS
          clear hps HT HSL hlx
          go_enter Tryd.func14, Tryd.ntmps14
          go_wp2_with (first
            | (go_at_call 34; refine HK.out.mono ?_; rintro e w1 ⟨ta, tn, tc, tb, rfl, hb1, _, hsome⟩; obtain ⟨rfl, rfl, hown⟩ := hsome _ rfl; clear hsome)
            | (go_at_call 22; refine (HS.out _).mono ?_; rintro e w2 ⟨a, n, c, ea, en, ec, st, rfl, hb2, rfl⟩))
          go_ret
          exact ⟨rfl, hb1.top hb2 (Nat.le_refl _)⟩
        · rw [hps] at HS
          obtain ⟨ts', h2, h3, h4, h5⟩ := parseS_wrong hps
          obtain rfl : ts' = ts := by rw [hlx] at h2; exact (Option.some.inj h2).symm
          have HI : Hid (∀ tx : Str, bs tx = spacedB t ts' ts'.length ++ [10] → ∀ w', Below w.heap.size w w' → Calls Tryd.prog 19 #[.string tx] w' (RetRf w')) := Lib.hid (fun tx h w' hb => parseI_no tx ts' w' (HSL.out tx h).2 (HSL.out tx h).1 (by omega) (HT.out w' hb) h5)
          clear hps HT HSL hlx h2 h5
          go_enter Tryd.func14, Tryd.ntmps14
          go_wp2_with (first
            | (go_at_call 34; refine HK.out.mono ?_; rintro e w1 ⟨ta, tn, tc, tb, rfl, hb1, _, hsome⟩; obtain ⟨rfl, rfl, hown⟩ := hsome _ rfl; clear hsome; have hsl1 := hown.sl encS_len)
            | (go_at_call 22; refine (HS.out _).mono ?_; rintro e w2 ⟨a, n, c, ea, en, ec, st, rfl, hb2, rfl⟩; have hsl2 := hsl1.top hb2)
            | (go_at_call 35; refine (spaced_calls t ht1 _ rfl hsl2 HTS.out htl).mono ?_; rintro e w3 ⟨⟨tx, rfl, htx⟩, rfl⟩)
            | (go_at_call 19; refine (HI.out _ htx.out _ (hb1.top hb2 (Nat.le_refl _))).mono ?_; rintro e w4 ⟨a2, n2, c2, b2, m2, d2, rfl, hb4⟩))
          go_ret
          exact ⟨rfl, (hb1.top hb2 (Nat.le_refl _)).top hb4 (Nat.le_refl _)⟩
        · rw [hps] at HS
          obtain ⟨ts', R, hf⟩ := parseS_fine hps
          obtain ⟨G, hG, hP⟩ := hf.pack
          obtain rfl : ts' = ts := by have := hf.lx; rw [hlx] at this; exact (Option.some.inj this).symm
          obtain ⟨l, m, HI, HTo⟩ : ∃ l m, Hid (∀ tx : Str, bs tx = spacedB t ts' ts'.length ++ [10] → ∀ w', Below w.heap.size w w' → Calls Tryd.prog 19 #[.string tx] w' (RetOK l m w')) ∧ Hid (Told l ns m (closedL ns es)) :=
            ⟨_, _, Lib.hid (fun tx h w' hb => parseI_ok tx ts' w' (HSL.out tx h).2 (HSL.out tx h).1 (by omega) (HT.out w' hb) hP), Lib.hid (hG.told (by have := fine_len hf.gr; omega))⟩
          clear hps hf hG hP HT HSL hlx
          go_enter Tryd.func14, Tryd.ntmps14
          go_wp2_with (first
            | (go_at_call 34; refine HK.out.mono ?_; rintro e w1 ⟨ta, tn, tc, tb, rfl, hb1, _, hsome⟩; obtain ⟨rfl, rfl, hown⟩ := hsome _ rfl; clear hsome; have hsl1 := hown.sl encS_len)
            | (go_at_call 22; refine (HS.out _).mono ?_; rintro e w2 ⟨a, n, c, ea, en, ec, st, rfl, hb2, rfl, rfl, hs1, rfl, hs2⟩; have hsl2 := hsl1.top hb2)
            | (go_at_call 35; refine (spaced_calls t ht1 _ rfl hsl2 HTS.out htl).mono ?_; rintro e w3 ⟨⟨tx, rfl, htx⟩, rfl⟩)
            | (go_at_call 19; refine (HI.out _ htx.out _ (hb1.top hb2 (Nat.le_refl _))).mono ?_; rintro e w4 ⟨a2, c2, b2, d2, rfl, hb4, hs3, hs4⟩; have hs1' := hs1.top hb4; have hs2' := hs2.top hb4)
            | (go_at_call 21; refine (told_calls _ rfl rfl rfl rfl hs3 hs4 hs1' hs2' HTo.out.len HTo.out.nd HTo.out.set HTo.out.ne HTo.out.eset HTo.out.sm).mono ?_; rintro e w5 ⟨rfl, hb5⟩))
          go_ret
          exact ⟨rfl, ((hb1.top hb2 (Nat.le_refl _)).top hb4 (Nat.le_refl _)).top hb5 (Nat.le_refl _)⟩
      · exact hany hgood
  · go_enter Tryd.func14, Tryd.ntmps14
    go_wp2
    go_ret
    exact ⟨rfl, Below.refl _ _⟩
end Go.Proofs.YthpfladpbfbpjaaDoor
