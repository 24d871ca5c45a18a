/- laws.FnEdges: the walk of the law. -/
import Derived.Test.YthajiimohbjjhaaBuild
namespace Go.Proofs.Ythajiimohbjjhaa
open Go.RowKit

theorem ends_iff {ns : List Str} {es : List Ed} (hg : Good ns es) (s t : Str) : t ∈ ends (buildG ns es) s ↔ (s, t) ∈ es := by
  have hin : ∀ e ∈ es, e.1 ∈ ns := fun e he => (hg.2.2.1 e he).1
  unfold ends
  rw [List.mem_filter, buildG_names, nodesG_mem, buildG_hasE hin]
  constructor
  · exact fun h => h.2
  · exact fun h => ⟨(hg.2.2.1 _ h).2, h⟩
theorem ends_nodup (ns : List Str) (es : List Ed) (s : Str) : (ends (buildG ns es) s).Nodup := (buildG_good ns es).1.sublist List.filter_sublist

theorem fnEdges_calls {a b : Option Addr} {cap capb n m : Nat} {ns : List Str} {es : List Ed} (s : Str) (w : World) (hn : n = ns.length) (hm : m = es.length) (h : Sl encS 1 w a cap ns) (h' : Sl encE 2 w b capb es) :
    Calls Try.prog 4 #[.slice a n cap, .slice b m capb, .string s] w fun e w' => e = .returned (.bool true) ∧ Below w.heap.size w w' := by
  subst hn
  subst hm
  have hfit3 := fits3_calls w rfl h
  by_cases hsb : 2147483647 < s.size
  · have hd : decide (2147483647 < (s.size : Int)) = true := by simp; omega
    go_enter Try.func4, Try.ntmps4
    go_wp2_with (first
      | (go_at_call 17; refine hfit3.mono ?_; rintro e w1 ⟨_ | _, rfl, hfit, rfl⟩)
      | (go_at_call 18; refine (fits4_calls _ rfl h').mono ?_; rintro e w1 ⟨_ | _, rfl, hfit2, hb1⟩))
    all_goals go_ret
    · exact ⟨rfl, Below.refl _ _⟩
    · exact ⟨rfl, hb1⟩
    · exact ⟨rfl, hb1⟩
  have hd : decide (2147483647 < (s.size : Int)) = false := by simp; omega
  by_cases hs : s ∈ ns
  rotate_left
  · have hds : decide (s ∈ ns) = false := by simpa using hs
    clear hs
    go_enter Try.func4, Try.ntmps4
    go_wp2_with (first
      | (go_at_call 17; refine hfit3.mono ?_; rintro e w1 ⟨_ | _, rfl, hfit, rfl⟩)
      | (go_at_call 18
         refine (fits4_calls _ rfl h').mono ?_
         rintro e w1 ⟨_ | _, rfl, hfit2, hb1⟩)
      | (go_at_call 19
         refine (conv_calls _ rfl (h'.top hb1) (hfit2 (by trivial))).mono ?_
         rintro e w2 ⟨ca, cn, cc, rfl, rfl, hco, hb2⟩)
      | (go_at_call 20
         refine (good_calls _ rfl rfl ((h.top hb1).top hb2) (hco.sl encE_len)).mono ?_
         rintro e w3 ⟨_ | _, rfl, hgood, hb3⟩)
      | (go_at_call 21
         refine (has_calls _ _ rfl (((h.top hb1).top hb2).top hb3)).mono ?_
         rintro e w4 ⟨rfl, rfl⟩))
    all_goals go_ret
    · exact ⟨rfl, Below.refl _ _⟩
    · exact ⟨rfl, hb1⟩
    all_goals exact ⟨rfl, (hb1.top hb2 (Nat.le_refl _)).top hb3 (Nat.le_refl _)⟩
  have hds : decide (s ∈ ns) = true := by simpa using hs
  have HS := Lib.hid hs; clear hs
  go_enter Try.func4, Try.ntmps4
  go_wp2_with (first
    | (go_at_call 17; refine hfit3.mono ?_; rintro e w1 ⟨_ | _, rfl, hfit, rfl⟩)
    | (go_at_call 18
       refine (fits4_calls _ rfl h').mono ?_
       rintro e w1 ⟨_ | _, rfl, hfit2, hb1⟩)
    | (go_at_call 19
       refine (conv_calls _ rfl (h'.top hb1) (hfit2 (by trivial))).mono ?_
       rintro e w2 ⟨ca, cn, cc, rfl, rfl, hco, hb2⟩
       have hcs := hco.sl encE_len
       have hb12 := hb1.top hb2 (Nat.le_refl _))
    | (go_at_call 20
       refine (good_calls _ rfl rfl ((h.top hb1).top hb2) hcs).mono ?_
       rintro e w3 ⟨_ | _, rfl, hgood, hb3⟩
       rotate_left
       have hgd : Hid (Good ns es) := Lib.hid (by simpa using hgood)
       clear hgood
       have hb13 := hb12.top hb3 (Nat.le_refl _))
    | (go_at_call 21
       refine (has_calls _ _ rfl (h.top hb13)).mono ?_
       rintro e w4 ⟨rfl, rfl⟩)
    | (go_at_call 22
       refine (edgesFrom_calls _ _ rfl rfl (h.top hb13) (h'.top hb13) hgd.out HS.out).mono ?_
       rintro e w4 ⟨ea, en, ec, rfl, rfl, hes, hb4⟩))
  · go_ret
    exact ⟨rfl, Below.refl _ _⟩
  · go_ret
    exact ⟨rfl, hb1⟩
  rotate_left
  · go_ret
    exact ⟨rfl, hb12.top hb3 (Nat.le_refl _)⟩
  have hLm := fun t => ends_iff hgd.out s t
  have hLn := ends_nodup ns es s
  have hcs4 := (hcs.top hb3).top hb4
  have hb14 := hb13.top hb4 (Nat.le_refl _)
  generalize ends (buildG ns es) s = L at *
  have HLM := Lib.hid hLm; clear hLm
  have HLN := Lib.hid hLn; clear hLn
  have hll := hes.len
  have hlc := hes.1
  clear hcs hb1 hb2 hb3 hb4 hb12 hb13 hfit3 hco hfit hfit2 h h' HS
  have hel := hcs4.len
  go_loopg [44] L.length (fun gk i wr => ∃ k : Nat, k ≤ L.length ∧ gk = L.length - k ∧ i = .int .i64 k ∧ Below w4.heap.size w4 wr)
  case atStart => exact ⟨0, Nat.zero_le _, by omega, rfl, Below.refl _ _⟩
  case round =>
    obtain ⟨k, hk, rfl, rfl, hb⟩ := hrel
    by_cases hlt : k < L.length
    · have hesr := hes.top hb
      have hcsr := hcs4.top hb
      obtain ⟨bb, off, rfl, h1⟩ := hesr.s1 hlt
      have hd1 : decide (L[k] ∈ L.take k) = false := by
        have := (nodup_take_succ hlt).1 (nodup_take (k + 1) HLN.out)
        simpa using this.2
      have hd2 : decide ((s, L[k]) ∈ es) = true := by
        have := (HLM.out L[k]).1 (List.getElem_mem hlt)
        simpa using this
      go_wp2_with (first
        | (go_at_call 21
           refine (has_calls _ _ (by simp; omega) (hesr.take k)).mono ?_
           rintro e w5 ⟨rfl, rfl⟩)
        | (go_at_call 23
           refine (edged_calls _ _ _ rfl hcsr).mono ?_
           rintro e w6 ⟨rfl, hb6⟩))
      go_roundg (L.length - (k + 1))
      case measure => omega
      case rel => exact ⟨k + 1, by omega, rfl, by go_num, hb.top hb6 (Nat.le_refl _)⟩
    · go_wp2
      go_loopg [64] es.length (fun gk i wr => ∃ k : Nat, k ≤ es.length ∧ gk = es.length - k ∧ i = .int .i64 k ∧ Below w4.heap.size w4 wr)
      case atStart => exact ⟨0, Nat.zero_le _, by omega, rfl, hb⟩
      case round =>
        obtain ⟨j, hj, rfl, rfl, hbj⟩ := hrel
        by_cases hjl : j < es.length
        · obtain ⟨bb, off, rfl, hbl, h1, h2⟩ := (hcs4.top hbj).e2 hjl
          have hsz := hbj.size
          have hesr := (hes.top hbj).alloc (.cells #[.string es[j].1, .string es[j].2] 43)
          by_cases hf : es[j].1 = s
          · have hd1 : (es[j].1.toList == s.toList) = true := by rw [tl_beq]; simpa using hf
            have hd2 : decide (es[j].2 ∈ L) = true := by
              have : (s, es[j].2) ∈ es := by rw [← hf]; exact List.getElem_mem hjl
              simpa using (HLM.out es[j].2).2 this
            clear hf
            go_wp2_with (go_at_call 21; refine (has_calls _ _ rfl hesr).mono ?_; rintro e w5 ⟨rfl, rfl⟩)
            go_roundg (es.length - (j + 1))
            case measure => omega
            case rel => exact ⟨j + 1, by omega, rfl, by go_num, hbj.alloc hsz _⟩
          · have hd1 : (es[j].1.toList == s.toList) = false := by rw [tl_beq]; simpa using hf
            clear hf
            go_wp2
            go_roundg (es.length - (j + 1))
            case measure => omega
            case rel => exact ⟨j + 1, by omega, rfl, by go_num, hbj.alloc hsz _⟩
        · go_wp2
          go_ret
          exact ⟨rfl, hb14.top hbj (Nat.le_refl _)⟩
end Go.Proofs.Ythajiimohbjjhaa
