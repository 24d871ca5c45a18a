/- spec.Written: what the call tells. -/
import Derived.Test.YthpfladpbfbpjaaDoorWrite
namespace Go.Proofs.YthpfladpbfbpjaaDoor
open Go.RowKit
set_option linter.unusedSimpArgs false

/-- rules of lists that are not longer than the bound -/
def FitsR (R : List Rl) : Prop := R.length ≤ 2147483647 ∧ ∀ r ∈ R, (r.1.length ≤ 2147483647 ∧ ∀ x ∈ r.1, x.size ≤ 2147483647) ∧ (r.2.2.length ≤ 2147483647 ∧ ∀ x ∈ r.2.2, x.size ≤ 2147483647)
def OkR (R : List Rl) : Prop := ShortR R ∧ (∀ r ∈ R, RlOK r) ∧ (R.flatMap ruleB).length ≤ 400
/-- one rule is good -/
def GoodR (r : Rl) : Prop := (ShortL r.1 ∧ ShortL r.2.2) ∧ RlOK r

set_option maxRecDepth 100000 in
set_option maxHeartbeats 4000000 in
theorem written_calls {a : Option Addr} {cap n : Nat} {qs : List QV} {R : List Rl} (w : World) (hn : n = R.length) (h : DR w Value.bool a cap qs R) (hs : FitsR R) :
    Calls Tryd.prog 17 #[.slice a n cap] w <| RetB fun b w' => (b = true → OkR R) ∧ Below w.heap.size w w' := by
  subst hn
  have hRb := hs.1
  have HS := Lib.hid hs.2
  clear hs
  have hqR : qs.length = R.length := h.len
  have hRc := h.row.1
  have hRm := h.row.len
  rw [hqR] at hRc hRm
  have HQR := Lib.hid hqR; clear hqR
  have HDR := Lib.hid h; clear h
  go_enter Tryd.func17, Tryd.ntmps17
  go_wp2
  go_loopg [9] R.length (fun gk i wr => ∃ k : Nat, k ≤ R.length ∧ gk = R.length - k ∧ i = .int .i64 k ∧ Hid (∀ r ∈ R.take k, GoodR r) ∧ Below w.heap.size w wr)
  case atStart => exact ⟨0, Nat.zero_le _, by omega, rfl, Lib.hid (by simp), Below.refl _ _⟩
  case round =>
    obtain ⟨k, hk, rfl, rfl, HT, hbk⟩ := hrel
    by_cases hlt : k < R.length
    · have hkq : k < qs.length := by rw [HQR.out]; exact hlt
      have hdr := HDR.out.top hbk
      obtain ⟨bb, off, rfl, hbl, hcell⟩ := hdr.row.2.2 (by omega)
      have g0 := hcell k hkq 0 _ rfl
      have g1 := hcell k hkq 1 _ rfl
      have g2 := hcell k hkq 2 _ rfl
      obtain ⟨q1, q2, q3, q4, q5⟩ := hdr.inner k hkq hlt
      have hsh := HS.out R[k] (List.getElem_mem hlt)
      have HST : Hid (GoodR R[k] → ∀ r ∈ R.take (k + 1), GoodR r) := Lib.hid (fun hg r hr => by
        rcases (mem_take_succ hlt).1 hr with hr | rfl
        · exact HT.out r hr
        · exact hg)
      generalize R[k] = r at *
      generalize qs[k] = q at *
      obtain ⟨ls, br, ds⟩ := r
      obtain ⟨⟨la, lln, lc⟩, qb, ⟨da2, dl, dc⟩⟩ := q
      simp only [Nat.add_zero] at q1 q2 q3 q4 q5 g0 g1 g2
      subst q1
      subst q2
      subst q3
      clear hcell hdr hkq
      have HB1 := Lib.hid hsh.1
      have HB2 := Lib.hid hsh.2
      clear hsh
      obtain ⟨wo, rfl⟩ : ∃ wo : World, wo = wr := ⟨_, rfl⟩
      have hbox := heap_alloc_new wo (.cells #[.slice la ls.length lc, .bool qb, .slice da2 ds.length dc] 52 (0, 0))
      obtain ⟨bx, hbxe⟩ : ∃ bx : Nat, wo.heap.size = bx := ⟨_, rfl⟩
      obtain ⟨Wb, hWb⟩ : ∃ Wb, wo.alloc (.cells #[.slice la ls.length lc, .bool qb, .slice da2 ds.length dc] 52 (0, 0)) = Wb := ⟨_, rfl⟩
      rw [hWb, hbxe] at hbox
      have hbxl : bx < Wb.heap.size := (Array.getElem?_eq_some_iff.1 hbox).1
      have hbWb : Below w.heap.size w Wb := by rw [← hWb]; exact hbk.alloc hbk.size _
      have b0 : Wb.cell? ⟨bx, 0, none⟩ = some (.slice la ls.length lc) := by rw [cell_of_row _ _ _ _ _ _ hbox]; rfl
      have b2 : Wb.cell? ⟨bx, 2, none⟩ = some (.slice da2 ds.length dc) := by rw [cell_of_row _ _ _ _ _ _ hbox]; rfl
      have s4 : Sl encS 1 Wb la lc ls := by rw [← hWb]; exact q4.alloc _
      have s5 : Sl encS 1 Wb da2 dc ds := by rw [← hWb]; exact q5.alloc _
      clear hbox q4 q5
      by_cases c1 : ls.length = 0
      · have hz1 : ((ls.length : Int) == 0) = true := by rw [beq_iff_eq]; omega
        clear c1
        go_wp2
        go_ret
        exact ⟨_, rfl, by simp, hbWb⟩
      have hz1 : ((ls.length : Int) == 0) = false := by rw [beq_eq_false_iff_ne]; omega
      by_cases c2 : ds.length = 0
      · have hz2 : ((ds.length : Int) == 0) = true := by rw [beq_iff_eq]; omega
        clear c2
        go_wp2
        go_ret
        exact ⟨_, rfl, by simp, hbWb⟩
      have hz2 : ((ds.length : Int) == 0) = false := by rw [beq_eq_false_iff_ne]; omega
      by_cases c3 : 6 < ls.length
      · go_wp2
        go_ret
        exact ⟨_, rfl, by simp, hbWb⟩
      by_cases c4 : 6 < ds.length
      · go_wp2
        go_ret
        exact ⟨_, rfl, by simp, hbWb⟩
      have hlc1 := s4.1
      have hlc2 := s5.1
      have HMADE := Lib.hid ((Own.made encS 1 Wb 9 Wb.heap.size (Nat.le_refl _)).drew)
      have HTA := Lib.hid ((s4.alloc (.cells #[] 9)).drew)
      have HBL : Hid (∀ w6, Fr (fun k => blk (some (⟨Wb.heap.size, 0, none⟩ : Addr)) = some k) (Wb.alloc (.cells #[] 9)).drew w6 → Below Wb.heap.size Wb w6) := Lib.hid (fun w6 hf6 =>
        (((Below.refl _ _).alloc (Nat.le_refl _) (.cells #[] 9)).fr (Fr.drew NoB _) (Nat.le_refl _) (fun _ e => e.elim)).fr hf6 (Nat.le_refl _) (fun b e => by simp [blk] at e; omega))
      have HBC : Hid (∀ w6, Below Wb.heap.size Wb w6 → w6.cell? ⟨bx, 0, none⟩ = some (.slice la ls.length lc) ∧ w6.cell? ⟨bx, 2, none⟩ = some (.slice da2 ds.length dc) ∧ Sl encS 1 w6 da2 dc ds) := Lib.hid (fun w6 hb =>
        ⟨(hb.cell (p := ⟨bx, 0, none⟩) hbxl).trans b0, (hb.cell (p := ⟨bx, 2, none⟩) hbxl).trans b2, s5.top hb⟩)
      clear HDR hbl hbk s4 s5
      go_wp2
      clear g0 g1 g2 hWb
      go_region_held3 (fun w' => w'.cell? ⟨bx, 0, none⟩ = some (.slice la ls.length lc) ∧ w'.cell? ⟨bx, 2, none⟩ = some (.slice da2 ds.length dc))
        (first | go_keep | (exact ⟨hs5, hs6⟩) | (exact ⟨hs3, hs4⟩))
        (first
          | ((refine step_append_list encS 1 encS_len encS_one _ rfl _ _ 28 rfl 9 _ 16 Tryd.underlying28 infoS rfl (by omega) Wb.heap.size _ _ ls ls.length rfl rfl ho1 _ _ ds ds.length rfl rfl (HBC.out w6 hB6).2.2 (by omega) (by omega) (by have := hB6.size; omega) ?_
              intro a2 cap2 w7 ho2 hf7 hk7
              have hB7 : Below Wb.heap.size Wb w7 := hB6.fr hf7 (Nat.le_refl _) (fun b e => (ho1.lt b e).1)
              have hs5 : w7.cell? ⟨bx, 0, none⟩ = some (.slice la ls.length lc) := (HBC.out w7 hB7).1
              have hs6 : w7.cell? ⟨bx, 2, none⟩ = some (.slice da2 ds.length dc) := (HBC.out w7 hB7).2.1))
          | ((refine step_append_list encS 1 encS_len encS_one _ rfl _ _ 28 rfl 9 _ 16 Tryd.underlying28 infoS rfl (by omega) Wb.heap.size _ _ [] 0 rfl rfl HMADE.out _ _ ls ls.length rfl rfl HTA.out (by simp; omega) (by simp; omega) (by simp) ?_
              intro a1 cap1 w6 ho1 hf6 hk6
              rw [List.nil_append] at ho1
              rw [Nat.zero_add]
              have hB6 : Below Wb.heap.size Wb w6 := HBL.out w6 hf6
              have hs3 : w6.cell? ⟨bx, 0, none⟩ = some (.slice la ls.length lc) := (HBC.out w6 hB6).1
              have hs4 : w6.cell? ⟨bx, 2, none⟩ = some (.slice da2 ds.length dc) := (HBC.out w6 hB6).2.1)))
      have hs7 := ho2.sl encS_len
      have hbw7 := hbWb.top hB7 (Nat.le_refl _)
      have hln : ls.length + ds.length = (ls ++ ds).length := (List.length_append).symm
      have hl12 : (ls ++ ds).length ≤ 12 := by rw [← hln]; omega
      have HNS : Hid (∀ x ∈ ls ++ ds, x.size ≤ 2147483647) := Lib.hid (fun x hx => (List.mem_append.1 hx).elim (HB1.out.2 x) (HB2.out.2 x))
      have HGO : Hid ((∀ x ∈ ls ++ ds, NameS x) → ∀ r ∈ R.take (k + 1), GoodR r) := Lib.hid (fun hx => HST.out ⟨⟨⟨by simp only; omega, fun x h => (hx x (by simp [h])).2.2⟩, ⟨by simp only; omega, fun x h => (hx x (by simp [h])).2.2⟩⟩,
        ⟨fun e => c1 (by simp only at e; rw [e]; rfl), fun e => c2 (by simp only at e; rw [e]; rfl), fun x h => hx x (by simp [h]), fun x h => hx x (by simp [h])⟩⟩)
      clear HMADE HTA HBL HBC b0 b2 hB6 hs3 hs4 hs5 hs6 ho1 hf6 hk6 hf7 hk7 hB7 ho2 HB1 HB2 HST hlc1 hlc2 c1 c2 c3 c4 hz1 hz2 hbxl hbxe hbWb
      try rw [hln]
      generalize ls ++ ds = NL at *
      have hc7 := hs7.1
      go_wp2
      go_loopg [43] NL.length (fun gk i wq => ∃ j : Nat, j ≤ NL.length ∧ gk = NL.length - j ∧ i = .int .i64 j ∧ Hid (∀ x ∈ NL.take j, NameS x) ∧ wq = w7)
      case atStart => exact ⟨0, Nat.zero_le _, by omega, rfl, Lib.hid (by simp), rfl⟩
      case round =>
        obtain ⟨j, hj, rfl, rfl, HJ, rfl⟩ := hrel
        by_cases hjl : j < NL.length
        · obtain ⟨bb2, off2, rfl, c1⟩ := hs7.s1 hjl
          have HC := Lib.hid (name_calls NL[j] wr (HNS.out _ (List.getElem_mem hjl)))
          have HJ2 : Hid (NameS NL[j] → ∀ x ∈ NL.take (j + 1), NameS x) := Lib.hid (fun hh x hx => by
            rcases (mem_take_succ hjl).1 hx with hx | rfl
            · exact HJ.out x hx
            · exact hh)
          have hnm := @nameB_iff NL[j]
          generalize NL[j] = x at *
          clear hs7 HJ
          rcases hbx : nameB x with _ | _
          · rw [hbx] at HC
            clear hnm hbx
            go_wp2_with (go_at_call 30; refine HC.out.mono ?_; rintro e w1 ⟨rfl, rfl⟩)
            go_ret
            exact ⟨_, rfl, by simp, hbw7⟩
          · rw [hbx] at HC
            have hx := hnm.1 hbx
            have HX := Lib.hid hx; clear hx
            clear hnm hbx
            go_wp2_with (go_at_call 30; refine HC.out.mono ?_; rintro e w1 ⟨rfl, rfl⟩)
            go_roundg (NL.length - (j + 1))
            case measure => omega
            case rel => exact ⟨j + 1, by omega, rfl, by go_num, Lib.hid (HJ2.out HX.out), rfl⟩
        · have HG : Hid (∀ r ∈ R.take (k + 1), GoodR r) := Lib.hid (HGO.out (by have := HJ.out; rwa [List.take_of_length_le (by omega)] at this))
          go_wp2
          go_roundg (R.length - (k + 1))
          case measure => omega
          case rel => exact ⟨k + 1, by omega, rfl, by go_num, HG, hbw7⟩
    · have HG : Hid (∀ r ∈ R, GoodR r) := Lib.hid (by
        have := HT.out
        rwa [List.take_of_length_le (by omega)] at this)
      by_cases h10 : R.length ≤ 10
      · have hsr : ShortR R := ⟨h10, fun r hr => (HG.out r hr).1⟩
        have HW := Lib.hid (write_calls wr rfl (HDR.out.top hbk) hsr)
        have HSR := Lib.hid hsr; clear hsr
        go_wp2_with (go_at_call 20; refine HW.out.mono ?_; rintro e w1 ⟨⟨tx, rfl, htx, htl⟩, hb1⟩)
        go_ret
        refine ⟨_, rfl, fun hb => ⟨HSR.out, fun r hr => (HG.out r hr).2, ?_⟩, hbk.top hb1 (Nat.le_refl _)⟩
        have := congrArg List.length htx.out
        rw [bs_len] at this
        rw [← this]
        simp at hb
        omega
      · go_wp2
        go_ret
        exact ⟨_, rfl, by simp, hbk⟩
end Go.Proofs.YthpfladpbfbpjaaDoor
