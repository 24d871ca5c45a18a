/- laws.FnClosed: the walk of the law. -/
import Derived.Test.YthpfladpbfbpjaaDoorPackC
namespace Go.Proofs.YthpfladpbfbpjaaDoor
open Go.RowKit

set_option maxRecDepth 100000 in
set_option maxHeartbeats 1000000 in
theorem fnClosed_calls (s : Str) (w : World) (htab : TabW w) : Calls Tryd.prog 9 #[.string s] w fun e w' => e = .returned (.bool true) ∧ Below w.heap.size w w' := by
  by_cases hsm : s.size ≤ 2147483647
  · have hsp := parseS_calls s w hsm
    have HT : Hid (∀ w', Below w.heap.size w w' → TabW w') := Lib.hid (fun w' hb => Lib.tabBelow_of_tabIs htab w' hb)
    clear htab
    rcases hps : parseS s with _ | _ | ⟨ns, es⟩
    · rw [hps] at hsp
      have HS := Lib.hid hsp; clear hsp
      clear hps HT
      go_enter Tryd.func9, Tryd.ntmps9
      go_wp2_with (go_at_call 22; refine HS.out.mono ?_; rintro e w1 ⟨a, n, c, ea, en, ec, st, rfl, hb1, rfl⟩)
      go_ret
      exact ⟨rfl, hb1⟩
    · rw [hps] at hsp
      have HS := Lib.hid hsp; clear hsp
      clear hps HT
      go_enter Tryd.func9, Tryd.ntmps9
      go_wp2_with (go_at_call 22; refine HS.out.mono ?_; rintro e w1 ⟨a, n, c, ea, en, ec, st, rfl, hb1, rfl⟩)
      go_ret
      exact ⟨rfl, hb1⟩
    · rw [hps] at hsp
      obtain ⟨ts, R, hf⟩ := parseS_fine hps
      obtain ⟨G, hG, hP⟩ := hf.pack
      have hn20 := fine_len hf.gr
      obtain ⟨m, HI, HM⟩ : ∃ m, Hid (∀ w', Below w.heap.size w w' → Calls Tryd.prog 19 #[.string s] w' (RetOK ns m w')) ∧
          Hid ((∀ e ∈ m, e.1 ≠ e.2 ∧ e.1 ∈ ns ∧ e.2 ∈ ns) ∧ (∀ e ∈ m, ∀ f ∈ m, e.2 = f.1 → (e.1, f.2) ∈ m) ∧ m.length ≤ 2147483647) :=
        ⟨_, Lib.hid (fun w' hb => by have h := parseI_ok s ts w' (by have := hf.sz; omega) hf.lx (by have := hf.len; omega) (HT.out w' hb) hP; rw [hG.nm] at h; exact h), Lib.hid ⟨fun e he => by
          have h1 := ((mem_allG e).1 he).1
          have h2 := hG.ends h1
          refine ⟨fun h => ?_, h2.1, h2.2⟩
          have := hG.back' h1
          rw [h] at this
          omega, fun e he f hf h => by
          have h1 := ((mem_allG e).1 he).1
          have h2 := ((mem_allG f).1 hf).1
          rw [hG.ed] at h1 h2
          rw [← h] at h2
          refine (mem_allG _).2 ⟨by rw [hG.ed]; exact clo_trans hG.inn h1 h2, by rw [hG.nm]; exact (clo_ends hG.inn h2).2⟩, hG.small (by omega)⟩⟩
      have HS := Lib.hid hsp; clear hsp
      have hml := HM.out.2.2
      clear hps hf hG hP HT
      go_enter Tryd.func9, Tryd.ntmps9
      go_wp2_with (first
        | (go_at_call 22; refine HS.out.mono ?_; rintro e w1 ⟨a, n, c, ea, en, ec, st, rfl, hb1, rfl, rfl, hs1, rfl, hs2⟩)
        | (go_at_call 19; refine (HI.out _ hb1).mono ?_; rintro e w2 ⟨a2, c2, b2, d2, rfl, hb2, hs3, hs4⟩; have hs1' := hs1.top hb2; have hs2' := hs2.top hb2)
        | (go_at_call 27; refine (conv_calls _ rfl hs4 hml).mono ?_; rintro e w3 ⟨ca, cn, cc, rfl, rfl, hco, hb3⟩; have hs13 := hs3.top hb3; have hco3 := hco.sl encE_len))
      have hbw3 := (hb1.top hb2 (Nat.le_refl _)).top hb3 (Nat.le_refl _)
      have hcl := hco3.len
      have hcc := hco3.1
      clear hs1 hs2 hs1' hs2' hs3 hs4 hco hb3
      go_loopg [37] m.length (fun gk i wr => ∃ k : Nat, k ≤ m.length ∧ gk = m.length - k ∧ i = .int .i64 k ∧ Below w3.heap.size w3 wr)
      case atStart => exact ⟨0, Nat.zero_le _, by omega, rfl, Below.refl _ _⟩
      case round =>
        obtain ⟨k, hk, rfl, rfl, hbk⟩ := hrel
        by_cases hkl : k < m.length
        · obtain ⟨bb, off, rfl, hbl, c1, c2⟩ := (hco3.top hbk).e2 hkl
          have hxm : Hid (m[k] ∈ m) := Lib.hid (List.getElem_mem hkl)
          have hm := HM.out.1 _ hxm.out
          generalize m[k] = x at *
          obtain ⟨x1, x2⟩ := x
          simp only at c1 c2 hm
          have t12 : (x1.toList == x2.toList) = false := by rw [tl_beq]; simpa using hm.1
          have d1 : decide (x1 ∈ ns) = true := by simpa using hm.2.1
          have d2 : decide (x2 ∈ ns) = true := by simpa using hm.2.2
          clear hm
          have hbox := heap_alloc_new wr (.cells #[.string x1, .string x2] 54 (0, 0))
          obtain ⟨wo, rfl⟩ : ∃ wo : World, wo = wr := ⟨_, rfl⟩
          obtain ⟨bx, hbxe⟩ : ∃ bx : Nat, wo.heap.size = bx := ⟨_, rfl⟩
          obtain ⟨Wb, hWb⟩ : ∃ Wb, wo.alloc (.cells #[.string x1, .string x2] 54 (0, 0)) = Wb := ⟨_, rfl⟩
          rw [hWb, hbxe] at hbox
          have hbWb : Below w3.heap.size w3 Wb := by rw [← hWb]; exact hbk.alloc hbk.size _
          have b0 : Wb.cell? ⟨bx, 0, none⟩ = some (.string x1) := by rw [cell_of_row _ _ _ _ _ _ hbox]; rfl
          have b1 : Wb.cell? ⟨bx, 1, none⟩ = some (.string x2) := by rw [cell_of_row _ _ _ _ _ _ hbox]; rfl
          have HBX : Hid (∀ w', Below Wb.heap.size Wb w' → w'.cell? ⟨bx, 0, none⟩ = some (.string x1) ∧ w'.cell? ⟨bx, 1, none⟩ = some (.string x2)) := Lib.hid (fun w' h => by
            have h2 := (h.block bx (Array.getElem?_eq_some_iff.1 hbox).1).trans hbox
            exact ⟨by rw [cell_of_row _ _ _ _ _ _ h2]; rfl, by rw [cell_of_row _ _ _ _ _ _ h2]; rfl⟩)
          have hnb := hs13.top hbWb
          clear hbox
          go_wp2_with (go_at_call 29; refine (has_calls _ _ rfl hnb).mono ?_; rintro e w' ⟨rfl, rfl⟩)
          go_loopg [62] m.length (fun gk i wq => ∃ j : Nat, j ≤ m.length ∧ gk = m.length - j ∧ i = .int .i64 j ∧ Below Wb.heap.size Wb wq)
          case atStart => exact ⟨0, Nat.zero_le _, by omega, rfl, Below.refl _ _⟩
          case round =>
            clear b0 b1 hnb c1 c2
            obtain ⟨j, hj, rfl, rfl, hbj⟩ := hrel
            have hbjw := hbWb.top hbj (Nat.le_refl _)
            have b0 := (HBX.out wr hbj).1
            have b1 := (HBX.out wr hbj).2
            by_cases hjl : j < m.length
            · obtain ⟨bb', off', hbe, hbl', c1, c2⟩ := (hco3.top (hbWb.top hbj (Nat.le_refl _))).e2 hjl
              simp only [Option.some.injEq, Addr.mk.injEq] at hbe
              obtain ⟨rfl, rfl, _⟩ := hbe
              have hym : Hid (m[j] ∈ m) := Lib.hid (List.getElem_mem hjl)
              have htr := HM.out.2.1 _ hxm.out _ hym.out
              generalize m[j] = y at *
              obtain ⟨y1, y2⟩ := y
              simp only at c1 c2 htr
              have txy := tl_beq x2 y1
              have hbj2 : Below Wb.heap.size Wb (wr.alloc (.cells #[.string y1, .string y2] 54 (0, 0))) := hbj.alloc hbj.size _
              have b0' := (HBX.out _ hbj2).1
              have b1' := (HBX.out _ hbj2).2
              have hsl4 := hco3.top (hbWb.top hbj2 (Nat.le_refl _))
              by_cases hxy : x2 = y1
              · rw [decide_eq_true hxy] at txy
                have d3 : decide ((x1, y2) ∈ m) = true := by simpa using htr hxy
                clear htr hxy
                go_wp2_with (go_at_call 31; refine (edged_calls _ _ _ rfl hsl4).mono ?_; rintro e w7 ⟨rfl, hb7⟩)
                go_roundg (m.length - (j + 1))
                case measure => omega
                case rel => exact ⟨j + 1, by omega, rfl, by go_num, hbj2.top hb7 (Nat.le_refl _)⟩
              · rw [decide_eq_false hxy] at txy
                clear htr hxy
                go_wp2
                go_roundg (m.length - (j + 1))
                case measure => omega
                case rel => exact ⟨j + 1, by omega, rfl, by go_num, hbj2⟩
            · go_wp2
              go_roundg (m.length - (k + 1))
              case measure => omega
              case rel => exact ⟨k + 1, by omega, rfl, by go_num, hbWb.top hbj (Nat.le_refl _)⟩
        · go_wp2
          go_ret
          exact ⟨rfl, hbw3.top hbk (Nat.le_refl _)⟩
  · go_enter Tryd.func9, Tryd.ntmps9
    go_wp2
    go_ret
    exact ⟨rfl, Below.refl _ _⟩
end Go.Proofs.YthpfladpbfbpjaaDoor
