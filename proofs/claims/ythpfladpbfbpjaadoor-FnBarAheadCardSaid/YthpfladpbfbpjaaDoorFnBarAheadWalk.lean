/- laws.FnBarAhead: the walk of the law. -/
import Derived.Test.YthpfladpbfbpjaaDoorTxtB
namespace Go.Proofs.YthpfladpbfbpjaaDoor
open Go.RowKit

set_option maxRecDepth 100000 in
set_option maxHeartbeats 2000000 in
theorem fnBarAhead_calls (s l d : Str) (w : World) (htab : TabW w) : Calls Tryd.prog 7 #[.string s, .string l, .string d] w fun e w' => e = .returned (.bool true) ∧ Below w.heap.size w w' := by
  by_cases hsm : s.size ≤ 2147483647
  · by_cases hsl : l.size ≤ 2147483647
    · by_cases hsd : d.size ≤ 2147483647
      · have hsp := parseS_calls s w hsm
        have HT : Hid (∀ w', Below w.heap.size w w' → TabW w') := Lib.hid (fun w' hb => Lib.tabBelow_of_tabIs htab w' hb)
        clear htab
        rcases hps : parseS s with _ | _ | ⟨ns, es⟩
        · rw [hps] at hsp
          have HS := Lib.hid hsp; clear hsp
          clear hps HT
          go_enter Tryd.func7, Tryd.ntmps7
          go_wp2_with (go_at_call 22; refine HS.out.mono ?_; rintro e w1 ⟨a, n, c, ea, en, ec, st, rfl, hb1, rfl⟩)
          go_ret
          exact ⟨rfl, hb1⟩
        · rw [hps] at hsp
          have HS := Lib.hid hsp; clear hsp
          clear hps HT
          go_enter Tryd.func7, Tryd.ntmps7
          go_wp2_with (go_at_call 22; refine HS.out.mono ?_; rintro e w1 ⟨a, n, c, ea, en, ec, st, rfl, hb1, rfl⟩)
          go_ret
          exact ⟨rfl, hb1⟩
        · rw [hps] at hsp
          obtain ⟨ts, R, hf⟩ := parseS_fine hps
          obtain ⟨G, hG, hP⟩ := hf.pack
          have hn20 := fine_len hf.gr
          have HNl : Hid (∀ w', Calls Tryd.prog 30 #[.string l] w' fun e w'' => e = .returned (.bool (nameB l)) ∧ w' = w'') := Lib.hid (fun w' => name_calls l w' hsl)
          have HNd : Hid (∀ w', Calls Tryd.prog 30 #[.string d] w' fun e w'' => e = .returned (.bool (nameB d)) ∧ w' = w'') := Lib.hid (fun w' => name_calls d w' hsd)
          by_cases hl : l ∈ ns
          · have HL := Lib.hid hl; clear hl
            by_cases hd : d ∈ ns
            · have HD := Lib.hid hd; clear hd
              rcases hbl : nameB l with _ | _
              · have HNL : Hid (∀ w', Calls Tryd.prog 30 #[.string l] w' fun e w'' => e = .returned (.bool false) ∧ w' = w'') := Lib.hid (fun w' => by rw [← hbl]; exact HNl.out w')
                have HS := Lib.hid hsp; clear hsp
                clear hps hf hG hP HT hbl HNl HNd
                go_enter Tryd.func7, Tryd.ntmps7
                go_wp2_with (first
                  | (go_at_call 22; refine HS.out.mono ?_; rintro e w1 ⟨a, n, c, ea, en, ec, st, rfl, hb1, rfl, rfl, hs1, rfl, hs2⟩)
                  | (go_at_call_of 29 l; refine (has_yes l _ rfl hs1 HL.out).mono ?_; rintro e w' ⟨rfl, rfl⟩)
                  | (go_at_call_of 29 d; refine (has_yes d _ rfl hs1 HD.out).mono ?_; rintro e w' ⟨rfl, rfl⟩)
                  | (go_at_call_of 30 l; refine (HNL.out _).mono ?_; rintro e w' ⟨rfl, rfl⟩))
                go_ret
                exact ⟨rfl, hb1⟩
              · have hNl := nameB_iff.1 hbl
                have HNL : Hid (∀ w', Calls Tryd.prog 30 #[.string l] w' fun e w'' => e = .returned (.bool true) ∧ w' = w'') := Lib.hid (fun w' => by rw [← hbl]; exact HNl.out w')
                rcases hbd : nameB d with _ | _
                · have HND : Hid (∀ w', Calls Tryd.prog 30 #[.string d] w' fun e w'' => e = .returned (.bool false) ∧ w' = w'') := Lib.hid (fun w' => by rw [← hbd]; exact HNd.out w')
                  have HS := Lib.hid hsp; clear hsp
                  clear hps hf hG hP HT hbl hbd HNl HNd hNl
                  go_enter Tryd.func7, Tryd.ntmps7
                  go_wp2_with (first
                    | (go_at_call 22; refine HS.out.mono ?_; rintro e w1 ⟨a, n, c, ea, en, ec, st, rfl, hb1, rfl, rfl, hs1, rfl, hs2⟩)
                    | (go_at_call_of 29 l; refine (has_yes l _ rfl hs1 HL.out).mono ?_; rintro e w' ⟨rfl, rfl⟩)
                    | (go_at_call_of 29 d; refine (has_yes d _ rfl hs1 HD.out).mono ?_; rintro e w' ⟨rfl, rfl⟩)
                    | (go_at_call_of 30 l; refine (HNL.out _).mono ?_; rintro e w' ⟨rfl, rfl⟩)
                    | (go_at_call_of 30 d; refine (HND.out _).mono ?_; rintro e w' ⟨rfl, rfl⟩))
                  go_ret
                  exact ⟨rfl, hb1⟩
                · have hNd := nameB_iff.1 hbd
                  have HND : Hid (∀ w', Calls Tryd.prog 30 #[.string d] w' fun e w'' => e = .returned (.bool true) ∧ w' = w'') := Lib.hid (fun w' => by rw [← hbd]; exact HNd.out w')
                  by_cases h340 : s.size ≤ 340
                  · have hl24 := hNl.2.2
                    have hd24 := hNd.2.2
                    have z1 : (⟨#[33, 60]⟩ : Str).size = 2 := rfl
                    have z3 : (⟨#[59]⟩ : Str).size = 1 := rfl
                    obtain ⟨t1, hb1', hz1, ha1⟩ := sadd2 l ⟨#[33, 60]⟩ (by omega)
                    obtain ⟨t2, hb2', hz2, ha2⟩ := sadd2 t1 d (by omega)
                    obtain ⟨t3, hb3', hz3, ha3⟩ := sadd2 t2 ⟨#[59]⟩ (by omega)
                    obtain ⟨t4, hb4', hz4, ha4⟩ := sadd2 t3 s (by omega)
                    obtain ⟨ts', hlx, hpk⟩ := barA_text (tx := t4) hf hNl hNd (by rw [hb4', hb3', hb2', hb1']; simp [bs])
                    have hsz : t4.size ≤ 400 := by omega
                    have hlen' := lex_len hlx
                    have hbar := barA_P hf.gr l d
                    rw [← hpk] at hbar
                    have hin := hG.inn
                    by_cases hc : clo ns es d l = true
                    · rw [if_pos hc] at hbar
                      have HI : Hid (∀ w', Below w.heap.size w w' → Calls Tryd.prog 19 #[.string t4] w' (RetRf w')) := Lib.hid (fun w' hb => parseI_no t4 ts' w' (by omega) hlx (by omega) (HT.out w' hb) hbar)
                      have hed : decide ((d, l) ∈ closedL ns es) = true := by rw [decide_eq_true_eq, mem_closedL hin]; exact hc
                      have HS := Lib.hid hsp; clear hsp
                      clear hps hf hG hP HT hbl hbd HNl HNd hNl hNd hlx hpk hbar hc hin hb1' hz1 hb2' hz2 hb3' hz3 hb4' hz4
                      go_enter Tryd.func7, Tryd.ntmps7
                      go_wp2_with (first
                        | (go_at_call 22; refine HS.out.mono ?_; rintro e w1 ⟨a, n, c, ea, en, ec, st, rfl, hb1, rfl, rfl, hs1, rfl, hs2⟩)
                        | (go_at_call_of 29 l; refine (has_yes l _ rfl hs1 HL.out).mono ?_; rintro e w' ⟨rfl, rfl⟩)
                        | (go_at_call_of 29 d; refine (has_yes d _ rfl hs1 HD.out).mono ?_; rintro e w' ⟨rfl, rfl⟩)
                        | (go_at_call_of 30 l; refine (HNL.out _).mono ?_; rintro e w' ⟨rfl, rfl⟩)
                        | (go_at_call_of 30 d; refine (HND.out _).mono ?_; rintro e w' ⟨rfl, rfl⟩)
                        | (go_at_call 19; refine (HI.out _ hb1).mono ?_; rintro e w2 ⟨a2, n2, c2, b2, m2, d2, rfl, hb2⟩; have hs2' := hs2.top hb2)
                        | (go_at_call 31; refine (edged_calls _ _ _ rfl hs2').mono ?_; rintro e w3 ⟨rfl, hb3⟩))
                      go_ret
                      exact ⟨rfl, (hb1.top hb2 (Nat.le_refl _)).top hb3 (Nat.le_refl _)⟩
                    · rw [if_neg hc] at hbar
                      obtain ⟨G2, hG2, hP2⟩ := hbar
                      obtain ⟨ll, m, HI, HTo⟩ : ∃ l m, Hid (∀ w', Below w.heap.size w w' → Calls Tryd.prog 19 #[.string t4] w' (RetOK l m w')) ∧ Hid (Told l ns m (closedL ns es)) :=
                        ⟨_, _, Lib.hid (fun w' hb => parseI_ok t4 ts' w' (by omega) hlx (by omega) (HT.out w' hb) hP2), Lib.hid (hG2.told (by omega))⟩
                      have hed : decide ((d, l) ∈ closedL ns es) = false := by rw [decide_eq_false_iff_not, mem_closedL hin]; exact hc
                      have HS := Lib.hid hsp; clear hsp
                      clear hps hf hG hP HT hbl hbd HNl HNd hNl hNd hlx hpk hc hin hG2 hP2 hb1' hz1 hb2' hz2 hb3' hz3 hb4' hz4
                      go_enter Tryd.func7, Tryd.ntmps7
                      go_wp2_with (first
                        | (go_at_call 22; refine HS.out.mono ?_; rintro e w1 ⟨a, n, c, ea, en, ec, st, rfl, hb1, rfl, rfl, hs1, rfl, hs2⟩)
                        | (go_at_call_of 29 l; refine (has_yes l _ rfl hs1 HL.out).mono ?_; rintro e w' ⟨rfl, rfl⟩)
                        | (go_at_call_of 29 d; refine (has_yes d _ rfl hs1 HD.out).mono ?_; rintro e w' ⟨rfl, rfl⟩)
                        | (go_at_call_of 30 l; refine (HNL.out _).mono ?_; rintro e w' ⟨rfl, rfl⟩)
                        | (go_at_call_of 30 d; refine (HND.out _).mono ?_; rintro e w' ⟨rfl, rfl⟩)
                        | (go_at_call 19; refine (HI.out _ hb1).mono ?_; rintro e w2 ⟨a2, c2, b2, d2, rfl, hb2, hs3, hs4⟩; have hs1' := hs1.top hb2; have hs2' := hs2.top hb2)
                        | (go_at_call 31; refine (edged_calls _ _ _ rfl hs2').mono ?_; rintro e w3 ⟨rfl, hb3⟩)
                        | (go_at_call 21; refine (told_calls _ rfl rfl rfl rfl (hs3.top hb3) (hs4.top hb3) (hs1'.top hb3) (hs2'.top hb3) HTo.out.len HTo.out.nd HTo.out.set HTo.out.ne HTo.out.eset HTo.out.sm).mono ?_; rintro e w4 ⟨rfl, hb4⟩))
                      go_ret
                      exact ⟨rfl, ((hb1.top hb2 (Nat.le_refl _)).top hb3 (Nat.le_refl _)).top hb4 (Nat.le_refl _)⟩
                  · have HS := Lib.hid hsp; clear hsp
                    clear hps hf hG hP HT hbl hbd HNl HNd hNl hNd
                    go_enter Tryd.func7, Tryd.ntmps7
                    go_wp2_with (first
                      | (go_at_call 22; refine HS.out.mono ?_; rintro e w1 ⟨a, n, c, ea, en, ec, st, rfl, hb1, rfl, rfl, hs1, rfl, hs2⟩)
                      | (go_at_call_of 29 l; refine (has_yes l _ rfl hs1 HL.out).mono ?_; rintro e w' ⟨rfl, rfl⟩)
                      | (go_at_call_of 29 d; refine (has_yes d _ rfl hs1 HD.out).mono ?_; rintro e w' ⟨rfl, rfl⟩)
                      | (go_at_call_of 30 l; refine (HNL.out _).mono ?_; rintro e w' ⟨rfl, rfl⟩)
                      | (go_at_call_of 30 d; refine (HND.out _).mono ?_; rintro e w' ⟨rfl, rfl⟩))
                    go_ret
                    exact ⟨rfl, hb1⟩
            · have HD := Lib.hid hd; clear hd
              have HS := Lib.hid hsp; clear hsp
              clear hps hf hG hP HT HNl HNd
              go_enter Tryd.func7, Tryd.ntmps7
              go_wp2_with (first
                | (go_at_call 22; refine HS.out.mono ?_; rintro e w1 ⟨a, n, c, ea, en, ec, st, rfl, hb1, rfl, rfl, hs1, rfl, hs2⟩)
                | (go_at_call_of 29 l; refine (has_yes l _ rfl hs1 HL.out).mono ?_; rintro e w' ⟨rfl, rfl⟩)
                | (go_at_call_of 29 d; refine (has_no d _ rfl hs1 HD.out).mono ?_; rintro e w' ⟨rfl, rfl⟩))
              go_ret
              exact ⟨rfl, hb1⟩
          · have HL := Lib.hid hl; clear hl
            have HS := Lib.hid hsp; clear hsp
            clear hps hf hG hP HT HNl HNd
            go_enter Tryd.func7, Tryd.ntmps7
            go_wp2_with (first
              | (go_at_call 22; refine HS.out.mono ?_; rintro e w1 ⟨a, n, c, ea, en, ec, st, rfl, hb1, rfl, rfl, hs1, rfl, hs2⟩)
              | (go_at_call_of 29 l; refine (has_no l _ rfl hs1 HL.out).mono ?_; rintro e w' ⟨rfl, rfl⟩))
            go_ret
            exact ⟨rfl, hb1⟩
      · go_enter Tryd.func7, Tryd.ntmps7
        go_wp2
        go_ret
        exact ⟨rfl, Below.refl _ _⟩
    · go_enter Tryd.func7, Tryd.ntmps7
      go_wp2
      go_ret
      exact ⟨rfl, Below.refl _ _⟩
  · go_enter Tryd.func7, Tryd.ntmps7
    go_wp2
    go_ret
    exact ⟨rfl, Below.refl _ _⟩
end Go.Proofs.YthpfladpbfbpjaaDoor
