/- laws.FnChain: the walk of the law, where the lists are of bulk at most 1048576. -/
import Derived.Test.YthpfladpbfbpjaaDoorChain
import Derived.IntWalk
namespace Go.Proofs.YthpfladpbfbpjaaDoor
open Go.RowKit
set_option linter.unusedSimpArgs false

set_option maxRecDepth 100000 in
set_option maxHeartbeats 4000000 in
theorem fnChain_calls {a : Option Addr} {cap n : Nat} {hs : List HV} {Ls : List (List Str)} (w : World) (htab : TabW w) (hn : n = Ls.length) (h : DL w a cap hs Ls) (htot : totL Ls ≤ 1048576) :
    Calls Tryd.prog 8 #[.slice a n cap] w fun e w' => e = .returned (.bool true) ∧ Below w.heap.size w w' := by
  subst hn
  have HF := Lib.hid (fits6_calls w rfl h)
  have HT : Hid (∀ w', Below w.heap.size w w' → TabW w') := Lib.hid (fun w' hb => Lib.tabBelow_of_tabIs htab w' hb)
  clear htab
  have hlc := h.row.1
  have hlm := h.row.len
  rw [h.len] at hlc hlm
  have hl1 := totL_len Ls
  have HA := Lib.hid (fun k hk => h.at (k := k) hk)
  clear h
  have zl : (⟨#[32, 60, 32]⟩ : Str).size = 3 := rfl
  go_enter Tryd.func8, Tryd.ntmps8
  go_wp2_with (go_at_call 15; refine HF.out.mono ?_; rintro e w0 ⟨_ | _, rfl, hfit, rfl⟩)
  · go_ret
    exact ⟨rfl, Below.refl _ _⟩
  have HFT := Lib.hid (hfit (by first | rfl | trivial))
  clear hfit HF
  go_loopg [21, 3, 4] Ls.length (fun gk i v3 v4 wr => ∃ (k : Nat) (tx : Str) (a' : Option Addr) (cap' : Nat) (qs : List QV) (T : Nat), k ≤ Ls.length ∧ gk = Ls.length - k ∧ i = .int .i64 k ∧ v3 = .string tx ∧ v4 = .slice a' qs.length cap' ∧ qs.length ≤ k ∧
    Hid (bs tx = chainB (Ls.take k)) ∧ Hid (T = totL (Ls.take k)) ∧ tx.size ≤ 3 * T ∧ Hid (InL w Ls qs (chainR (Ls.take k))) ∧ Own (encQ Value.bool) 3 wr w.heap.size 52 a' cap' qs ∧ Below w.heap.size w wr)
  case atStart =>
    exact ⟨0, ⟨#[]⟩, _, _, [], 0, Nat.zero_le _, by omega, rfl, rfl, rfl, Nat.zero_le _, Lib.hid rfl, Lib.hid rfl, by decide, Lib.hid (InL.nil _ _), Own.made (encQ Value.bool) 3 w 52 w.heap.size (Nat.le_refl _), (Below.refl _ _).alloc (Nat.le_refl _) _⟩
  case round =>
    obtain ⟨k, tx, a', cap', qs, T, hk, rfl, rfl, rfl, rfl, hqk, HTX, HTT0, htx, HIN, hown, hbk⟩ := hrel
    have hszk := hbk.size
    have hTle : T ≤ totL Ls := by rw [HTT0.out]; exact totL_take Ls k
    by_cases hkl : k < Ls.length
    · obtain ⟨lb, off, x2, c2, rfl, hlb, g2, s2⟩ := HA.out _ hkl
      have HTT : Hid (T + (lenL Ls[k] + 1) = totL (Ls.take (k + 1))) := Lib.hid (by rw [List.take_succ_eq_append_getElem hkl, totL_snoc, HTT0.out])
      have hTle2 : T + (lenL Ls[k] + 1) ≤ totL Ls := by rw [HTT.out]; exact totL_take Ls (k + 1)
      obtain ⟨wo, rfl⟩ : ∃ wo : World, wo = wr := ⟨_, rfl⟩
      have e2 : wo.cell? ⟨lb, off + k, none⟩ = some (.slice x2 Ls[k].length c2) := (hbk.cell (p := ⟨lb, off + k, none⟩) hlb).trans g2
      have hbs : chainB (Ls.take (k + 1)) = bs tx ++ ((if Ls.take k = [] then [] else [32, 60, 32]) ++ nmB Ls[k]) := by rw [List.take_succ_eq_append_getElem hkl, chainB_snoc, HTX.out]
      rcases Nat.lt_or_ge 0 k with h0 | h0
      · obtain ⟨p, hp1, hp2⟩ : ∃ p : Nat, p + 1 ≤ k ∧ k ≤ p + 1 := ⟨k - 1, by omega, by omega⟩
        have hpl : p < Ls.length := by omega
        obtain ⟨lb', off', x1, c1, hbe, hlb', g1, s1⟩ := HA.out _ hpl
        simp only [Option.some.injEq, Addr.mk.injEq] at hbe
        obtain ⟨rfl, rfl, _⟩ := hbe
        have e1 : wo.cell? ⟨lb, off + p, none⟩ = some (.slice x1 Ls[p].length c1) := (hbk.cell (p := ⟨lb, off + p, none⟩) hlb).trans g1
        have HIN1 : Hid (InL w Ls (qs ++ [((x1, Ls[p].length, c1), false, (x2, Ls[k].length, c2))]) (chainR (Ls.take (k + 1)))) := Lib.hid (by
          rw [chainR_take (p := p) hkl (by omega)]
          exact HIN.out.app ⟨rfl, rfl, rfl, s1, s2⟩ ⟨List.getElem_mem hpl, List.getElem_mem hkl⟩)
        have hne : Ls.take k ≠ [] := by
          intro e
          have := congrArg List.length e
          rw [List.length_take, List.length_nil] at this
          omega
        rw [if_neg hne] at hbs
        generalize Ls[p] = L1 at *
        generalize Ls[k] = L at *
        obtain ⟨tx1, htx1, hz1, ha1⟩ := sadd2 tx ⟨#[32, 60, 32]⟩ (by omega)
        have HBASE : Hid (∀ u, bs u = bs tx1 ++ nmB L → bs u = chainB (Ls.take (k + 1))) := Lib.hid (fun u hu => by rw [hu, hbs, htx1]; simp [bs])
        have hx1 : (0 : Int) ≤ (p : Int) := by omega
        have hx2 : (p : Int) < (Ls.length : Int) := by omega
        have hx3 : IntKind.i64.wrap ((k : Int) - 1) = (p : Int) := by rw [IntWalk.i64_in _ (by omega)]; omega
        clear hbs htx1 g1 g2 s1 hne HIN
        rw [zl] at hz1
        go_wp2_with (at_builtin
                     refine wpList_append_new (encQ Value.bool) 3 (encQ_len _) (encQ_one bool_one) wo _ rfl _ _ 25 rfl 52 _ 56 Tryd.underlying25 infoQ rfl (by omega) w.heap.size a' cap' qs _ rfl rfl hown ((x1, L1.length, c1), false, (x2, L.length, c2)) _ _ rfl rfl (by omega) (by omega) hszk ?_
                     intro a5 c5 w5 hown5 hf5 hk5
                     have hb5 : Below w.heap.size w w5 := hbk.fr hf5 (Nat.le_refl _) (fun b e => (hown.lt b e).1)
                     have sL : Sl encS 1 w5 x2 c2 L := s2.top hb5
                     have tokA := Lib.hid trivial)
        have hl6 := sL.1
        have hl7 := sL.len
        go_loopg [42, 3] L.length (fun gk i v wq => ∃ (j : Nat) (tx2 : Str), j ≤ L.length ∧ gk = L.length - j ∧ i = .int .i64 j ∧ v = .string tx2 ∧ Hid (bs tx2 = bs tx1 ++ nmB (L.take j)) ∧ tx2.size ≤ tx1.size + lenL (L.take j) ∧ wq = w5)
        case atStart => exact ⟨0, tx1, Nat.zero_le _, by omega, rfl, rfl, Lib.hid (by simp [nmB, joinB]), by simp [lenL], rfl⟩
        case round =>
          obtain ⟨j, tx2, hj, rfl, rfl, rfl, HT2, htx2, rfl⟩ := hrel
          have hlt2 := lenL_take L j
          by_cases hjl : j < L.length
          · obtain ⟨bb, off2, rfl, c1⟩ := sL.s1 hjl
            have hle : lenL (L.take (j + 1)) = lenL (L.take j) + (L[j].size + 1) := by rw [List.take_succ_eq_append_getElem hjl, lenL_snoc]
            have hlt3 := lenL_take L (j + 1)
            have hst : nmB (L.take (j + 1)) = nmB (L.take j) ++ ((if L.take j = [] then [] else [44]) ++ bs L[j]) := by rw [List.take_succ_eq_append_getElem hjl, nmB_snoc]
            generalize L[j] = t at *
            have z0 : (⟨#[44]⟩ : Str).size = 1 := rfl
            rcases Nat.lt_or_ge 0 j with h0 | h0
            · have hne : L.take j ≠ [] := by
                intro e
                have := congrArg List.length e
                rw [List.length_take, List.length_nil] at this
                omega
              rw [if_neg hne] at hst
              have HST := Lib.hid hst
              clear hst hne sL
              go_wp2
              go_roundg (L.length - (j + 1))
              case measure => omega
              case rel => exact ⟨j + 1, _, by omega, rfl, by go_num, rfl, Lib.hid (by rw [HST.out, bs_append, bs_append, HT2.out]; simp [bs]), by simp only [ByteArray.size_append, z0]; omega, rfl⟩
            · have he : L.take j = [] := by rw [show j = 0 from by omega]; rfl
              rw [if_pos he] at hst
              have HST := Lib.hid hst
              clear hst he sL
              go_wp2
              go_roundg (L.length - (j + 1))
              case measure => omega
              case rel => exact ⟨j + 1, _, by omega, rfl, by go_num, rfl, Lib.hid (by rw [HST.out, bs_append, HT2.out]; simp), by simp only [ByteArray.size_append]; omega, rfl⟩
          · have HTE : Hid (bs tx2 = chainB (Ls.take (k + 1))) := Lib.hid (HBASE.out tx2 (by
              have := HT2.out
              rwa [List.take_of_length_le (by omega)] at this))
            clear sL
            go_wp2
            go_roundg (Ls.length - (k + 1))
            case measure => omega
            case rel => exact ⟨k + 1, tx2, a5, c5, _, T + (lenL L + 1), by omega, rfl, by go_num, rfl, by simp, by simp; omega, HTE, HTT, by omega, HIN1, hown5, hb5⟩
      · have he : Ls.take k = [] := by rw [show k = 0 from by omega]; rfl
        rw [if_pos he] at hbs
        have HIN0 : Hid (InL w Ls qs (chainR (Ls.take (k + 1)))) := Lib.hid (by
          have h1 := HIN.out
          rw [he] at h1
          rw [List.take_succ_eq_append_getElem hkl, he]
          exact h1)
        have sL := s2.top hbk
        generalize Ls[k] = L at *
        obtain ⟨tx1, rfl⟩ : ∃ t : Str, t = tx := ⟨_, rfl⟩
        have HBASE : Hid (∀ u, bs u = bs tx1 ++ nmB L → bs u = chainB (Ls.take (k + 1))) := Lib.hid (fun u hu => by rw [hu, hbs]; simp)
        clear hbs he g2 s2 HIN
        have hl6 := sL.1
        have hl7 := sL.len
        go_wp2
        go_loopg [42, 3] L.length (fun gk i v wq => ∃ (j : Nat) (tx2 : Str), j ≤ L.length ∧ gk = L.length - j ∧ i = .int .i64 j ∧ v = .string tx2 ∧ Hid (bs tx2 = bs tx1 ++ nmB (L.take j)) ∧ tx2.size ≤ tx1.size + lenL (L.take j) ∧ wq = wo)
        case atStart => exact ⟨0, tx1, Nat.zero_le _, by omega, rfl, rfl, Lib.hid (by simp [nmB, joinB]), by simp [lenL], rfl⟩
        case round =>
          obtain ⟨j, tx2, hj, rfl, rfl, rfl, HT2, htx2, rfl⟩ := hrel
          have hlt2 := lenL_take L j
          by_cases hjl : j < L.length
          · obtain ⟨bb, off2, rfl, c1⟩ := sL.s1 hjl
            have hle : lenL (L.take (j + 1)) = lenL (L.take j) + (L[j].size + 1) := by rw [List.take_succ_eq_append_getElem hjl, lenL_snoc]
            have hlt3 := lenL_take L (j + 1)
            have hst : nmB (L.take (j + 1)) = nmB (L.take j) ++ ((if L.take j = [] then [] else [44]) ++ bs L[j]) := by rw [List.take_succ_eq_append_getElem hjl, nmB_snoc]
            generalize L[j] = t at *
            have z0 : (⟨#[44]⟩ : Str).size = 1 := rfl
            rcases Nat.lt_or_ge 0 j with h0 | h0
            · have hne : L.take j ≠ [] := by
                intro e
                have := congrArg List.length e
                rw [List.length_take, List.length_nil] at this
                omega
              rw [if_neg hne] at hst
              have HST := Lib.hid hst
              clear hst hne sL
              go_wp2
              go_roundg (L.length - (j + 1))
              case measure => omega
              case rel => exact ⟨j + 1, _, by omega, rfl, by go_num, rfl, Lib.hid (by rw [HST.out, bs_append, bs_append, HT2.out]; simp [bs]), by simp only [ByteArray.size_append, z0]; omega, rfl⟩
            · have he : L.take j = [] := by rw [show j = 0 from by omega]; rfl
              rw [if_pos he] at hst
              have HST := Lib.hid hst
              clear hst he sL
              go_wp2
              go_roundg (L.length - (j + 1))
              case measure => omega
              case rel => exact ⟨j + 1, _, by omega, rfl, by go_num, rfl, Lib.hid (by rw [HST.out, bs_append, HT2.out]; simp), by simp only [ByteArray.size_append]; omega, rfl⟩
          · have HTE : Hid (bs tx2 = chainB (Ls.take (k + 1))) := Lib.hid (HBASE.out tx2 (by
              have := HT2.out
              rwa [List.take_of_length_le (by omega)] at this))
            clear sL
            go_wp2
            go_roundg (Ls.length - (k + 1))
            case measure => omega
            case rel => exact ⟨k + 1, tx2, a', cap', qs, T + (lenL L + 1), by omega, rfl, by go_num, rfl, rfl, by omega, HTE, HTT, by omega, HIN0, hown, hbk⟩
    · have hk0 : k = Ls.length := by omega
      have HTE : Hid (bs tx = chainB Ls) := Lib.hid (by
        have := HTX.out
        rwa [List.take_of_length_le (by omega)] at this)
      have HIE : Hid (InL w Ls qs (chainR Ls)) := Lib.hid (by
        have := HIN.out
        rwa [List.take_of_length_le (by omega)] at this)
      clear HTX HTT0 HIN hk0 HA hlc hlm
      by_cases h2 : 2 ≤ Ls.length
      · have hqR : qs.length = (chainR Ls).length := HIE.out.len
        have hRl : (chainR Ls).length ≤ 2147483647 := by omega
        have hdr := Lib.hid (HIE.out.dr hown hbk)
        have HFR : Hid (FitsR (chainR Ls)) := Lib.hid (HFT.out.rules hRl HIE.out.mem)
        have HCT : Hid (OkR (chainR Ls) → tx.size < 400 → ∀ u, bs u = bs tx ++ [59] → ∃ ts, lex (bs u) = some ts ∧ u.size ≤ 400 ∧ ts.length ≤ 400 ∧ packP ts = graphP (chainR Ls)) := Lib.hid (fun ho hs u hu => chain_text h2 ho HTE.out hs hu)
        clear HTE HIE HFT hown
        rw [hqR]
        clear hqR
        generalize chainR Ls = R at *
        by_cases hbig : tx.size < 400
        · obtain ⟨t9, ht9, hz9, ha9⟩ := sadd2 tx ⟨#[59]⟩ (by have : (⟨#[59]⟩ : Str).size = 1 := rfl; omega)
          have HU : Hid (bs t9 = bs tx ++ [59]) := Lib.hid ht9
          clear ht9
          go_wp2_with (first
            | (go_at_call 17; refine (written_calls _ rfl hdr.out HFR.out).mono ?_; rintro e w2 ⟨_ | _, rfl, hok, hb2⟩; rotate_left; have HOK := Lib.hid (hok (by first | rfl | trivial)); have hdr2 := Lib.hid (hdr.out.top hb2); have hbw2 := hbk.top hb2 (Nat.le_refl _); rotate_right)
            | (go_at_call 18
               refine (graph_calls _ rfl hdr2.out HOK.out.small).mono ?_
               rintro e w3 ⟨a3, n3, c3, ea, en, ec, st, rfl, hb3, hm⟩
               have hbw3 := hbw2.top hb3 (Nat.le_refl _)
               rcases hgr : graphS R with _ | _ | ⟨ns, es⟩
               rw [hgr] at hm
               obtain rfl := hm
               rotate_left
               rw [hgr] at hm
               obtain rfl := hm
               rotate_left
               rw [hgr] at hm
               obtain ⟨rfl, rfl, hs1, rfl, hs2⟩ := hm
               rotate_left)
            | (go_at_call 19
               have hgw : graphS R = some none := hgr
               obtain ⟨ts, h1, h2, h3, h4⟩ := HCT.out HOK.out hbig t9 HU.out
               refine (parseI_no t9 ts _ (by omega) h1 (by omega) (HT.out _ hbw3) (by rw [h4]; exact wrong_P hgw)).mono ?_
               rintro e w5 ⟨a2, n2, c2, b2, m2, d2, rfl, hb5⟩)
            | (go_at_call 19
               have hgf : graphS R = some (some (ns, es)) := hgr
               obtain ⟨ts, h1, h2, h3, h4⟩ := HCT.out HOK.out hbig t9 HU.out
               obtain ⟨G, hG, hP⟩ := fine_P hgf
               obtain ⟨l, m, HI, HTo⟩ : ∃ l m, Hid (Calls Tryd.prog 19 #[.string t9] w3 (RetOK l m w3)) ∧ Hid (Told l ns m (closedL ns es)) :=
                  ⟨_, _, Lib.hid (parseI_ok t9 ts w3 (by omega) h1 (by omega) (HT.out _ hbw3) (by rw [h4]; exact hP)), Lib.hid (hG.told (by have := fine_len hgf; omega))⟩
               clear hG hP G
               refine HI.out.mono ?_
               rintro e w5 ⟨a2, c2, b2, d2, rfl, hb5, hs3, hs4⟩
               have hs1' := hs1.top hb5
               have hs2' := hs2.top hb5)
            | (go_at_call 21; refine (told_calls _ rfl rfl rfl rfl hs3 hs4 hs1' hs2' HTo.out.len HTo.out.nd HTo.out.set HTo.out.ne HTo.out.eset HTo.out.sm).mono ?_; rintro e w6 ⟨rfl, hb6⟩))
          all_goals
            go_ret
            first
            | exact ⟨rfl, (hbw3.top hb5 (Nat.le_refl _)).top hb6 (Nat.le_refl _)⟩
            | exact ⟨rfl, hbw3.top hb5 (Nat.le_refl _)⟩
            | exact ⟨rfl, hbw3⟩
            | exact ⟨rfl, hbk.top hb2 (Nat.le_refl _)⟩
        · go_wp2_with (go_at_call 17; refine (written_calls _ rfl hdr.out HFR.out).mono ?_; rintro e w2 ⟨_ | _, rfl, hok, hb2⟩)
          all_goals
            go_ret
            exact ⟨rfl, hbk.top hb2 (Nat.le_refl _)⟩
      · go_wp2
        go_ret
        exact ⟨rfl, hbk⟩
end Go.Proofs.YthpfladpbfbpjaaDoor
