/- Good: what the call computes. -/
import Derived.Test.YthajiimohbjjhaaSpecB
namespace Go.Proofs.Ythajiimohbjjhaa
open Go.RowKit

def Good (ns : List Str) (es : List Ed) : Prop :=
  ns.Nodup ∧ (∀ n ∈ ns, n.size ≤ 24) ∧ (∀ e ∈ es, e.1 ∈ ns ∧ e.2 ∈ ns) ∧ ns.length ≤ 10 ∧ es.length ≤ 64

theorem nodup_take_succ {α : Type} {l : List α} {k : Nat} (hk : k < l.length) : (l.take (k + 1)).Nodup ↔ (l.take k).Nodup ∧ l[k] ∉ l.take k := by
  rw [List.take_succ_eq_append_getElem hk, List.nodup_append]
  constructor
  · rintro ⟨h1, _, h3⟩
    exact ⟨h1, fun hm => h3 _ hm _ (by simp) rfl⟩
  · rintro ⟨h1, h2⟩
    refine ⟨h1, by simp, fun a ha b hb e => ?_⟩
    simp at hb
    subst hb
    subst e
    exact h2 ha
theorem nodup_take {α : Type} {l : List α} (k : Nat) (h : l.Nodup) : (l.take k).Nodup := h.sublist (List.take_sublist k l)

theorem good_calls {a b : Option Addr} {cap capb n m : Nat} {ns : List Str} {es : List Ed} (w : World) (hn : n = ns.length) (hm : m = es.length) (h : Sl encS 1 w a cap ns) (h' : Sl encE 2 w b capb es) :
    Calls Try.prog 20 #[.slice a n cap, .slice b m capb] w <| RetB fun r w' => (r = true ↔ Good ns es) ∧ Below w.heap.size w w' := by
  subst hn
  subst hm
  have hl := h.len
  have hl' := h'.len
  have hcap := h.1
  go_enter Try.func20, Try.ntmps20
  go_wp2
  go_loop [11] (fun i => ∃ k : Nat, k ≤ ns.length ∧ i = .int .i64 k ∧ (ns.take k).Nodup ∧ ∀ x ∈ ns.take k, x.size ≤ 24) (fun i => ns.length - (intOf i).toNat)
  case atStart => exact ⟨0, Nat.zero_le _, rfl, by simp, by simp⟩
  case round =>
    obtain ⟨k, hk, rfl, hd, hz⟩ := hrel
    have HD := Lib.hid hd; clear hd
    have HZ := Lib.hid hz; clear hz
    by_cases hlt : k < ns.length
    · obtain ⟨bb, off, rfl, h1⟩ := h.s1 hlt
      have hwhole : Good ns es → (ns.take (k + 1)).Nodup ∧ ns[k].size ≤ 24 := fun hg => ⟨nodup_take _ hg.1, hg.2.1 _ (List.getElem_mem hlt)⟩
      have HW := Lib.hid hwhole; clear hwhole
      by_cases hz : 24 < ns[k].size
      · go_wp2
        go_ret
        exact ⟨_, rfl, ⟨fun h => (by cases h), fun hg => by have := (HW.out hg).2; omega⟩, Below.refl _ _⟩
      · have hdz : decide (24 < (ns[k].size : Int)) = false := by simp; omega
        by_cases hin : ns[k] ∈ ns.take k
        · have hbin : decide (ns[k] ∈ ns.take k) = true := by simpa using hin
          have HI := Lib.hid hin; clear hin
          go_wp2_with (go_at_call 21; refine (has_calls _ _ (by simp; omega) (h.take k)).mono ?_; rintro e w' ⟨rfl, rfl⟩)
          go_ret
          exact ⟨_, rfl, ⟨fun h => (by cases h), fun hg => absurd HI.out ((nodup_take_succ hlt).1 (HW.out hg).1).2⟩, Below.refl _ _⟩
        · have hbin : decide (ns[k] ∈ ns.take k) = false := by simpa using hin
          have HI := Lib.hid hin; clear hin
          go_wp2_with (go_at_call 21; refine (has_calls _ _ (by simp; omega) (h.take k)).mono ?_; rintro e w' ⟨rfl, rfl⟩)
          go_round
          case rel =>
            refine ⟨k + 1, by omega, by go_num, (nodup_take_succ hlt).2 ⟨HD.out, HI.out⟩, fun x hx => ?_⟩
            rcases (mem_take_succ hlt).1 hx with hx | rfl
            · exact HZ.out x hx
            · omega
          case measure => simp [intOf]; omega
    · have hk' : k = ns.length := by omega
      subst hk'
      simp only [List.take_length] at HD HZ
      go_wp2
      go_loopw [29] (fun i wr => ∃ k : Nat, k ≤ es.length ∧ i = .int .i64 k ∧ (∀ e ∈ es.take k, e.1 ∈ ns ∧ e.2 ∈ ns) ∧ Below w.heap.size w wr) (fun i _ => es.length - (intOf i).toNat)
      case atStart => exact ⟨0, Nat.zero_le _, rfl, by simp, Below.refl _ _⟩
      case round =>
        obtain ⟨k, hk, rfl, hd, hb⟩ := hrel
        have HE := Lib.hid hd; clear hd
        have hsz := hb.size
        by_cases hlt : k < es.length
        · obtain ⟨bb, off, rfl, hbl, h1, h2⟩ := (h'.top hb).e2 hlt
          have hwhole : Good ns es → es[k].1 ∈ ns ∧ es[k].2 ∈ ns := fun hg => hg.2.2.1 _ (List.getElem_mem hlt)
          have HW := Lib.hid hwhole; clear hwhole
          have hA := ((h.top hb).alloc (.cells #[.string es[k].1, .string es[k].2] 43))
          by_cases hin : es[k].1 ∈ ns
          · have hbin : decide (es[k].1 ∈ ns) = true := by simpa using hin
            have HI := Lib.hid hin; clear hin
            by_cases hin2 : es[k].2 ∈ ns
            · have hbin2 : decide (es[k].2 ∈ ns) = true := by simpa using hin2
              have HI2 := Lib.hid hin2; clear hin2
              go_wp2_with (go_at_call 21; refine (has_calls _ _ rfl hA).mono ?_; rintro e w' ⟨rfl, rfl⟩)
              go_roundw
              case rel =>
                refine ⟨k + 1, by omega, by go_num, fun x hx => ?_, hb.alloc hsz _⟩
                rcases (mem_take_succ hlt).1 hx with hx | rfl
                · exact HE.out x hx
                · exact ⟨HI.out, HI2.out⟩
              case measure => simp [intOf]; omega
            · have hbin2 : decide (es[k].2 ∈ ns) = false := by simpa using hin2
              have HI2 := Lib.hid hin2; clear hin2
              go_wp2_with (go_at_call 21; refine (has_calls _ _ rfl hA).mono ?_; rintro e w' ⟨rfl, rfl⟩)
              go_ret
              exact ⟨_, rfl, ⟨fun h => (by cases h), fun hg => absurd (HW.out hg).2 HI2.out⟩, hb.alloc hsz _⟩
          · have hbin : decide (es[k].1 ∈ ns) = false := by simpa using hin
            have HI := Lib.hid hin; clear hin
            go_wp2_with (go_at_call 21; refine (has_calls _ _ rfl hA).mono ?_; rintro e w' ⟨rfl, rfl⟩)
            go_ret
            exact ⟨_, rfl, ⟨fun h => (by cases h), fun hg => absurd (HW.out hg).1 HI.out⟩, hb.alloc hsz _⟩
        · have hk' : k = es.length := by omega
          subst hk'
          simp only [List.take_length] at HE
          by_cases hnl : ns.length ≤ 10
          · have hd1 : decide ((ns.length : Int) ≤ 10) = true := by simp; omega
            by_cases hel : es.length ≤ 64
            · have hd2 : decide ((es.length : Int) ≤ 64) = true := by simp; omega
              go_wp2
              go_ret
              exact ⟨_, rfl, ⟨fun _ => ⟨HD.out, HZ.out, HE.out, hnl, hel⟩, fun _ => rfl⟩, hb⟩
            · have hd2 : decide ((es.length : Int) ≤ 64) = false := by simp; omega
              go_wp2
              go_ret
              exact ⟨_, rfl, ⟨fun h => (by cases h), fun hg => absurd hg.2.2.2.2 hel⟩, hb⟩
          · have hd1 : decide ((ns.length : Int) ≤ 10) = false := by simp; omega
            go_wp2
            go_ret
            exact ⟨_, rfl, ⟨fun h => (by cases h), fun hg => absurd hg.2.2.2.1 hnl⟩, hb⟩
end Go.Proofs.Ythajiimohbjjhaa
