/- laws.FnRefuse: the walk of the law. -/
import Derived.Test.YthpfladpbfbpjaaDoorPackC
namespace Go.Proofs.YthpfladpbfbpjaaDoor
open Go.RowKit

set_option maxRecDepth 100000 in
theorem fnRefuse_calls (s : Str) (w : World) (htab : TabW w) : Calls Tryd.prog 13 #[.string s] w fun e w' => e = .returned (.bool true) ∧ Below w.heap.size w w' := by
  by_cases hsm : s.size ≤ 2147483647
  · have hsp := parseS_calls s w hsm
    have HT : Hid (∀ w', Below w.heap.size w w' → TabW w') := Lib.hid (fun w' hb => Lib.tabBelow_of_tabIs htab w' hb)
    clear htab
    rcases hps : parseS s with _ | _ | ⟨ns, es⟩
    · rw [hps] at hsp
      have HS := Lib.hid hsp; clear hsp
      clear hps HT
      go_enter Tryd.func13, Tryd.ntmps13
      go_wp2_with (go_at_call 22; refine HS.out.mono ?_; rintro e w1 ⟨a, n, c, ea, en, ec, st, rfl, hb1, rfl⟩)
      go_ret
      exact ⟨rfl, hb1⟩
    · rw [hps] at hsp
      obtain ⟨ts, h1, h2, h3, h4⟩ := parseS_wrong hps
      have HI : Hid (∀ w', Below w.heap.size w w' → Calls Tryd.prog 19 #[.string s] w' (RetRf w')) := Lib.hid (fun w' hb => parseI_no s ts w' (by omega) h1 (by omega) (HT.out w' hb) h4)
      have HS := Lib.hid hsp; clear hsp
      clear hps h1 h2 h3 h4 HT
      go_enter Tryd.func13, Tryd.ntmps13
      go_wp2_with (first
        | (go_at_call 22; refine HS.out.mono ?_; rintro e w1 ⟨a, n, c, ea, en, ec, st, rfl, hb1, rfl⟩)
        | (go_at_call 19; refine (HI.out _ hb1).mono ?_; rintro e w2 ⟨a2, n2, c2, b2, m2, d2, rfl, hb2⟩))
      go_ret
      exact ⟨rfl, hb1.top hb2 (Nat.le_refl _)⟩
    · rw [hps] at hsp
      obtain ⟨ts, R, hf⟩ := parseS_fine hps
      obtain ⟨G, hG, hP⟩ := hf.pack
      have hn20 := fine_len hf.gr
      obtain ⟨l, m, HI⟩ : ∃ l m, Hid (∀ w', Below w.heap.size w w' → Calls Tryd.prog 19 #[.string s] w' (RetOK l m w')) :=
        ⟨_, _, Lib.hid (fun w' hb => parseI_ok s ts w' (by have := hf.sz; omega) hf.lx (by have := hf.len; omega) (HT.out w' hb) hP)⟩
      have HS := Lib.hid hsp; clear hsp
      clear hps hf hG hP HT
      go_enter Tryd.func13, Tryd.ntmps13
      go_wp2_with (first
        | (go_at_call 22; refine HS.out.mono ?_; rintro e w1 ⟨a, n, c, ea, en, ec, st, rfl, hb1, rfl, rfl, hs1, rfl, hs2⟩)
        | (go_at_call 19; refine (HI.out _ hb1).mono ?_; rintro e w2 ⟨a2, c2, b2, d2, rfl, hb2, hs3, hs4⟩; have hs1' := hs1.top hb2; have hs2' := hs2.top hb2))
      go_ret
      exact ⟨rfl, hb1.top hb2 (Nat.le_refl _)⟩
  · go_enter Tryd.func13, Tryd.ntmps13
    go_wp2
    go_ret
    exact ⟨rfl, Below.refl _ _⟩
end Go.Proofs.YthpfladpbfbpjaaDoor
