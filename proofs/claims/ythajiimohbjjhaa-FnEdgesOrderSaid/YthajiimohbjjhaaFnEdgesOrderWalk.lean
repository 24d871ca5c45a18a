/- laws.FnEdgesOrder: the walk of the law. -/
import Derived.Test.YthajiimohbjjhaaFnEdgesWalk
namespace Go.Proofs.Ythajiimohbjjhaa
open Go.RowKit

theorem ends_filter {ns : List Str} {es : List Ed} (hg : Good ns es) (s : Str) : ends (buildG ns es) s = ns.filter fun t => decide ((s, t) ∈ es) := by
  have hin : ∀ e ∈ es, e.1 ∈ ns := fun e he => (hg.2.2.1 e he).1
  unfold ends
  rw [buildG_names, nodesG_names hg.1]
  apply List.filter_congr
  intro t _
  rw [Bool.eq_iff_iff, buildG_hasE hin]
  simp

theorem fnEdgesOrder_calls {a b : Option Addr} {cap capb n m : Nat} {ns : List Str} {es : List Ed} (s : Str) (w : World) (hn : n = ns.length) (hm : m = es.length) (h : Sl encS 1 w a cap ns) (h' : Sl encE 2 w b capb es) :
    Calls Try.prog 5 #[.slice a n cap, .slice b m capb, .string s] w fun e w' => e = .returned (.bool true) ∧ Below w.heap.size w w' := by
  subst hn
  subst hm
  have hfit3 := fits3_calls w rfl h
  by_cases hsb : 2147483647 < s.size
  · have hd : decide (2147483647 < (s.size : Int)) = true := by simp; omega
    go_enter Try.func5, Try.ntmps5
    go_wp2_with (first
      | (go_at_call 17; refine hfit3.mono ?_; rintro e w1 ⟨_ | _, rfl, hfit, rfl⟩)
      | (go_at_call 18; refine (fits4_calls _ rfl h').mono ?_; rintro e w1 ⟨_ | _, rfl, hfit2, hb1⟩))
    all_goals go_ret
    · exact ⟨rfl, Below.refl _ _⟩
    · exact ⟨rfl, hb1⟩
    · exact ⟨rfl, hb1⟩
  have hd : decide (2147483647 < (s.size : Int)) = false := by simp; omega
  by_cases hs : s ∈ ns
  rotate_left
  · have hds : decide (s ∈ ns) = false := by simpa using hs
    clear hs
    go_enter Try.func5, Try.ntmps5
    go_wp2_with (first
      | (go_at_call 17; refine hfit3.mono ?_; rintro e w1 ⟨_ | _, rfl, hfit, rfl⟩)
      | (go_at_call 18
         refine (fits4_calls _ rfl h').mono ?_
         rintro e w1 ⟨_ | _, rfl, hfit2, hb1⟩)
      | (go_at_call 19
         refine (conv_calls _ rfl (h'.top hb1) (hfit2 (by trivial))).mono ?_
         rintro e w2 ⟨ca, cn, cc, rfl, rfl, hco, hb2⟩)
      | (go_at_call 20
         refine (good_calls _ rfl rfl ((h.top hb1).top hb2) (hco.sl encE_len)).mono ?_
         rintro e w3 ⟨_ | _, rfl, hgood, hb3⟩)
      | (go_at_call 21
         refine (has_calls _ _ rfl (((h.top hb1).top hb2).top hb3)).mono ?_
         rintro e w4 ⟨rfl, rfl⟩))
    all_goals go_ret
    · exact ⟨rfl, Below.refl _ _⟩
    · exact ⟨rfl, hb1⟩
    all_goals exact ⟨rfl, (hb1.top hb2 (Nat.le_refl _)).top hb3 (Nat.le_refl _)⟩
  have hds : decide (s ∈ ns) = true := by simpa using hs
  have HS := Lib.hid hs; clear hs
  go_enter Try.func5, Try.ntmps5
  go_wp2_with (first
    | (go_at_call 17; refine hfit3.mono ?_; rintro e w1 ⟨_ | _, rfl, hfit, rfl⟩)
    | (go_at_call 18
       refine (fits4_calls _ rfl h').mono ?_
       rintro e w1 ⟨_ | _, rfl, hfit2, hb1⟩)
    | (go_at_call 19
       refine (conv_calls _ rfl (h'.top hb1) (hfit2 (by trivial))).mono ?_
       rintro e w2 ⟨ca, cn, cc, rfl, rfl, hco, hb2⟩
       have hcs := hco.sl encE_len
       have hb12 := hb1.top hb2 (Nat.le_refl _))
    | (go_at_call 20
       refine (good_calls _ rfl rfl ((h.top hb1).top hb2) hcs).mono ?_
       rintro e w3 ⟨_ | _, rfl, hgood, hb3⟩
       rotate_left
       have hgd : Hid (Good ns es) := Lib.hid (by simpa using hgood)
       clear hgood
       have hb13 := hb12.top hb3 (Nat.le_refl _))
    | (go_at_call 21
       refine (has_calls _ _ rfl (h.top hb13)).mono ?_
       rintro e w4 ⟨rfl, rfl⟩))
  · go_ret
    exact ⟨rfl, Below.refl _ _⟩
  · go_ret
    exact ⟨rfl, hb1⟩
  rotate_left
  · go_ret
    exact ⟨rfl, hb12.top hb3 (Nat.le_refl _)⟩
  have hcs4 := hcs.top hb3
  have hs13 := hb13.size
  clear hcs hb1 hb2 hb12 hfit3 hco hfit hfit2
  have hnl := h.len
  have hsm : ns.length ≤ 10 := hgd.out.2.2.2.1
  go_loopw [41, 8] (fun i v wr => ∃ (k : Nat) (m : List Str) (a' : Option Addr) (cap' : Nat), k ≤ ns.length ∧ i = .int .i64 k ∧ v = .slice a' m.length cap' ∧ Hid (m = (ns.take k).filter fun t => decide ((s, t) ∈ es)) ∧ m.length ≤ k ∧
    Own encS 1 wr w3.heap.size 9 a' cap' m ∧ Below w3.heap.size w3 wr) (fun i _ _ => ns.length - (intOf i).toNat)
  case atStart => exact ⟨0, [], _, _, Nat.zero_le _, rfl, rfl, Lib.hid (by simp), by simp, Own.made encS 1 w3 _ _ (Nat.le_refl _), (Below.refl _ _).alloc (Nat.le_refl _) _⟩
  case round =>
    obtain ⟨k, m, a', cap', hk, rfl, rfl, Hm, hmk, hown, hb⟩ := hrel
    have hsz := hb.size
    by_cases hlt : k < ns.length
    · obtain ⟨bb, off, rfl, h1⟩ := ((h.top hb13).top hb).s1 hlt
      have hq : (ns.take (k + 1)).filter (fun t => decide ((s, t) ∈ es)) = if (s, ns[k]) ∈ es then m ++ [ns[k]] else m := by
        rw [List.take_succ_eq_append_getElem hlt, List.filter_append, ← Hm.out]
        by_cases hkp : (s, ns[k]) ∈ es <;> simp [hkp]
      have HQ := Lib.hid hq; clear hq
      by_cases hin : (s, ns[k]) ∈ es
      · have hd1 : decide ((s, ns[k]) ∈ es) = true := by simpa using hin
        have HKK : Hid (m ++ [ns[k]] = (ns.take (k + 1)).filter fun t => decide ((s, t) ∈ es)) := Lib.hid (by rw [HQ.out, if_pos hin])
        clear hin
        go_wp2_with (first
          | (go_at_call 23
             refine (edged_calls _ _ _ rfl (hcs4.top hb)).mono ?_
             rintro e w5 ⟨rfl, hb5⟩
             have hs5 : w3.heap.size ≤ w5.heap.size := Nat.le_trans hsz hb5.size)
          | (at_builtin
             refine wpList_append_new encS 1 encS_len encS_one _ _ rfl _ _ 32 rfl 9 _ 16 Try.underlying32 infoS rfl (by omega) w3.heap.size a' cap' m _ rfl rfl (hown.top hb5) ns[k] _ _ rfl rfl (by omega) (by omega) hs5 ?_
             intro a2 cap2 w6 hown6 hf6 hk6))
        go_roundw
        case rel =>
          refine ⟨k + 1, m ++ [ns[k]], a2, cap2, by omega, by go_num, by simp, HKK, by simp; omega, hown6, ?_⟩
          exact (hb.top hb5 (Nat.le_refl _)).fr hf6 (Nat.le_refl _) (fun j hj => (hown.lt j hj).1)
        case measure => simp [intOf]; omega
      · have hd1 : decide ((s, ns[k]) ∈ es) = false := by simpa using hin
        have HKK : Hid (m = (ns.take (k + 1)).filter fun t => decide ((s, t) ∈ es)) := Lib.hid (by rw [HQ.out, if_neg hin])
        clear hin
        go_wp2_with (go_at_call 23; refine (edged_calls _ _ _ rfl (hcs4.top hb)).mono ?_; rintro e w5 ⟨rfl, hb5⟩)
        go_roundw
        case rel => exact ⟨k + 1, m, a', cap', by omega, by go_num, rfl, HKK, by omega, hown.top hb5, hb.top hb5 (Nat.le_refl _)⟩
        case measure => simp [intOf]; omega
    · have hmf : m = ends (buildG ns es) s := by rw [ends_filter hgd.out, Hm.out, List.take_of_length_le (by omega)]
      clear Hm
      have hb3r := hb13.top hb (Nat.le_refl _)
      have hef := edgesFrom_calls s wr rfl rfl (h.top hb3r) (h'.top hb3r) hgd.out HS.out
      rw [← hmf] at hef
      have HEF := Lib.hid hef; clear hef
      clear hmf
      have hws := hown.sl encS_len
      go_wp2_with (go_at_call 22; refine (HEF.out).mono ?_; rintro e w4 ⟨ea, en, ec, rfl, rfl, hes, hb4⟩)
      have hws4 := hws.top hb4
      have hb4w := hb3r.top hb4 (Nat.le_refl _)
      have hml := hes.len
      go_loopg [65] m.length (fun gk i wr => ∃ k : Nat, k ≤ m.length ∧ gk = m.length - k ∧ i = .int .i64 k ∧ Below w4.heap.size w4 wr)
      case atStart => exact ⟨0, Nat.zero_le _, by omega, rfl, Below.refl _ _⟩
      case round =>
        obtain ⟨j, hj, rfl, rfl, hbj⟩ := hrel
        by_cases hjl : j < m.length
        · obtain ⟨gb, goff, rfl, g1⟩ := (hes.top hbj).s1 hjl
          obtain ⟨wb, woff, rfl, g2⟩ := (hws4.top hbj).s1 hjl
          generalize m[j] = x at g1 g2
          go_wp2
          go_quiet (fail)
          go_wp2
          go_roundg (m.length - (j + 1))
          case measure => omega
          case rel => exact ⟨j + 1, by omega, rfl, by go_num, hbj.fr (Fr.drewN NoB _ _) (Nat.le_refl _) (fun _ hs => hs.elim)⟩
        · go_wp2
          go_ret
          exact ⟨rfl, hb4w.top hbj (Nat.le_refl _)⟩
end Go.Proofs.Ythajiimohbjjhaa
