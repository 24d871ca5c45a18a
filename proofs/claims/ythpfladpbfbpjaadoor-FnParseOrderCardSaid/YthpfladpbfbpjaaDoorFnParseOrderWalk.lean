/- laws.FnParseOrder: the walk of the law. -/
import Derived.Test.YthpfladpbfbpjaaDoorPackC
namespace Go.Proofs.YthpfladpbfbpjaaDoor
open Go.RowKit

set_option maxRecDepth 100000 in
theorem fnParseOrder_calls (s : Str) (w : World) (htab : TabW w) : Calls Tryd.prog 12 #[.string s] w fun e w' => e = .returned (.bool true) ∧ Below w.heap.size w w' := by
  by_cases hsm : s.size ≤ 2147483647
  · have hsp := parseS_calls s w hsm
    have HT : Hid (∀ w', Below w.heap.size w w' → TabW w') := Lib.hid (fun w' hb => Lib.tabBelow_of_tabIs htab w' hb)
    clear htab
    rcases hps : parseS s with _ | _ | ⟨ns, es⟩
    · rw [hps] at hsp
      have HS := Lib.hid hsp; clear hsp
      clear hps HT
      go_enter Tryd.func12, Tryd.ntmps12
      go_wp2_with (go_at_call 22; refine HS.out.mono ?_; rintro e w1 ⟨a, n, c, ea, en, ec, st, rfl, hb1, rfl⟩)
      go_ret
      exact ⟨rfl, hb1⟩
    · rw [hps] at hsp
      have HS := Lib.hid hsp; clear hsp
      clear hps HT
      go_enter Tryd.func12, Tryd.ntmps12
      go_wp2_with (go_at_call 22; refine HS.out.mono ?_; rintro e w1 ⟨a, n, c, ea, en, ec, st, rfl, hb1, rfl⟩)
      go_ret
      exact ⟨rfl, hb1⟩
    · rw [hps] at hsp
      obtain ⟨ts, R, hf⟩ := parseS_fine hps
      obtain ⟨G, hG, hP⟩ := hf.pack
      have hn20 := fine_len hf.gr
      obtain ⟨m, HI⟩ : ∃ m, Hid (∀ w', Below w.heap.size w w' → Calls Tryd.prog 19 #[.string s] w' (RetOK ns m w')) :=
        ⟨_, Lib.hid (fun w' hb => by have h := parseI_ok s ts w' (by have := hf.sz; omega) hf.lx (by have := hf.len; omega) (HT.out w' hb) hP; rw [hG.nm] at h; exact h)⟩
      have HS := Lib.hid hsp; clear hsp
      clear hps hf hG hP HT
      go_enter Tryd.func12, Tryd.ntmps12
      go_wp2_with (first
        | (go_at_call 22; refine HS.out.mono ?_; rintro e w1 ⟨a, n, c, ea, en, ec, st, rfl, hb1, rfl, rfl, hs1, rfl, hs2⟩)
        | (go_at_call 19; refine (HI.out _ hb1).mono ?_; rintro e w2 ⟨a2, c2, b2, d2, rfl, hb2, hs3, hs4⟩; have hs1' := hs1.top hb2; have hs2' := hs2.top hb2))
      have hsl := hs3.len
      have hsl1 := hs1'.len
      have hcp1 := hs3.1
      have hcp2 := hs1'.1
      go_loopg [38] ns.length (fun gk i wr => ∃ k : Nat, k ≤ ns.length ∧ gk = ns.length - k ∧ i = .int .i64 k ∧ Below w2.heap.size w2 wr)
      case atStart => exact ⟨0, Nat.zero_le _, by omega, rfl, Below.refl _ _⟩
      case round =>
        obtain ⟨j, hj, rfl, rfl, hbj⟩ := hrel
        by_cases hjl : j < ns.length
        · obtain ⟨gb, goff, rfl, g1⟩ := (hs3.top hbj).s1 hjl
          obtain ⟨wb, woff, rfl, g2⟩ := (hs1'.top hbj).s1 hjl
          generalize ns[j] = x at g1 g2
          go_wp2
          go_quiet (fail)
          go_wp2
          go_roundg (ns.length - (j + 1))
          case measure => omega
          case rel => exact ⟨j + 1, by omega, rfl, by go_num, hbj.fr (Fr.drewN NoB _ _) (Nat.le_refl _) (fun _ hs => hs.elim)⟩
        · go_wp2
          go_ret
          exact ⟨rfl, (hb1.top hb2 (Nat.le_refl _)).top hbj (Nat.le_refl _)⟩
  · go_enter Tryd.func12, Tryd.ntmps12
    go_wp2
    go_ret
    exact ⟨rfl, Below.refl _ _⟩
end Go.Proofs.YthpfladpbfbpjaaDoor
