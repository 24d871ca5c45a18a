/- plain, Oneway: what each call computes. -/
import Derived.Test.YthajiimohbjjhaaPlace
namespace Go.Proofs.Ythajiimohbjjhaa
open Go.RowKit

theorem infoI' : (Try.prog.info? 59).map (fun i => (i.zero, i.size, i.bytes)) = some (some (.agg #[.string ByteArray.empty, .string ByteArray.empty]), 2, 32) := by kernel_rfl
theorem plain_calls {a : Option Addr} {cap n : Nat} {l : List Ed} (w : World) (hn : n = l.length) (h : Sl encE 2 w a cap l) (hsm : l.length ≤ 2147483647) :
    Calls Try.prog 32 #[.slice a n cap] w <| RetSl fun a' n cap' w' => n = l.length ∧ Own encE 2 w' w.heap.size 59 a' cap' l ∧ Below w.heap.size w w' := by
  subst hn
  go_enter Try.func32, Try.ntmps32
  go_wp2
  go_loopw [9, 3] (fun i v wr => ∃ (k : Nat) (m : List Ed) (a' : Option Addr) (cap' : Nat), k ≤ l.length ∧ i = .int .i64 k ∧ v = .slice a' m.length cap' ∧ Hid (m = l.take k) ∧ Own encE 2 wr w.heap.size 59 a' cap' m ∧ Below w.heap.size w wr) (fun i _ _ => l.length - (intOf i).toNat)
  case atStart => exact ⟨0, [], _, _, Nat.zero_le _, rfl, rfl, Lib.hid (by simp), Own.made encE 2 w _ _ (Nat.le_refl _), (Below.refl _ _).alloc (Nat.le_refl _) _⟩
  case round =>
    obtain ⟨k, m, a', cap', hk, rfl, rfl, Hm, hown, hb⟩ := hrel
    by_cases hlt : k < l.length
    · obtain ⟨b, off, rfl, hbl, h1, h2⟩ := (h.top hb).e2 hlt
      clear h
      have hsz := hb.size
      have hml : m.length ≤ k := by have := congrArg List.length Hm.out; simp at this; omega
      go_wp2_with (at_builtin; refine wpList_append_new encE 2 encE_len encE_one _ _ rfl _ _ 33 rfl 59 _ 32 Try.underlying33 infoI' rfl (by omega) w.heap.size a' cap' m _ rfl rfl (hown.alloc _) l[k] _ _ (by simp) rfl (by omega) (by omega) (by simp; omega) ?_; intro a2 cap2 w2 hown2 hf2 hk2)
      go_roundw
      case rel =>
        refine ⟨k + 1, m ++ [l[k]], a2, cap2, by omega, by go_num, by simp, Lib.hid (by rw [Hm.out, List.take_succ_eq_append_getElem hlt]), hown2, ?_⟩
        exact (hb.alloc hsz _).fr hf2 (Nat.le_refl _) (fun j hj => (hown.lt j hj).1)
      case measure => simp [intOf]; omega
    · go_wp2
      go_ret
      have hml : m = l := by rw [Hm.out, List.take_of_length_le (by omega)]
      subst hml
      exact ⟨_, _, _, rfl, rfl, hown, hb⟩

/-- all edges lead back in the list of nodes, or all ahead -/
def Way (ns : List Str) (es : List Ed) : Prop := (∀ e ∈ es, ns.idxOf e.2 < ns.idxOf e.1) ∨ (∀ e ∈ es, ns.idxOf e.1 < ns.idxOf e.2)
theorem oneway_calls {a b : Option Addr} {cap capb n m : Nat} {ns : List Str} {es : List Ed} (w : World) (hn : n = ns.length) (hm : m = es.length) (h : Sl encS 1 w a cap ns) (h' : Sl encE 2 w b capb es)
    (hin : ∀ e ∈ es, e.1 ∈ ns ∧ e.2 ∈ ns) :
    Calls Try.prog 29 #[.slice a n cap, .slice b m capb] w <| RetB fun r w' => (r = true → Way ns es) ∧ Below w.heap.size w w' := by
  subst hn
  subst hm
  have hl := h.len
  have hl' := h'.len
  have HIN := Lib.hid hin; clear hin
  go_enter Try.func29, Try.ntmps29
  go_wp2
  go_loopg [13, 5, 6] es.length (fun gk i v5 v6 wr => ∃ (k : Nat) (p q : Bool), k ≤ es.length ∧ gk = es.length - k ∧ i = .int .i64 k ∧ v5 = .bool p ∧ v6 = .bool q ∧
    Hid (p = true → ∀ e ∈ es.take k, ns.idxOf e.2 < ns.idxOf e.1) ∧ Hid (q = true → ∀ e ∈ es.take k, ns.idxOf e.1 < ns.idxOf e.2) ∧ Below w.heap.size w wr)
  case atStart => exact ⟨0, true, true, Nat.zero_le _, by omega, rfl, rfl, rfl, Lib.hid (by simp), Lib.hid (by simp), Below.refl _ _⟩
  case round =>
    obtain ⟨k, p, q, hk, rfl, rfl, rfl, rfl, HP, HQ, hb⟩ := hrel
    have hsz := hb.size
    by_cases hlt : k < es.length
    · obtain ⟨bb, off, rfl, hbl, h1, h2⟩ := (h'.top hb).e2 hlt
      have hns := (h.top hb).alloc (.cells #[.string es[k].1, .string es[k].2] 43)
      have hi := Lib.hid (HIN.out _ (List.getElem_mem hlt))
      have hp1 := fun n => place_calls (a := a) (cap := cap) es[k].1 _ rfl (hns.drewN n) hi.out.1
      have hp2 := fun n => place_calls (a := a) (cap := cap) es[k].2 _ rfl (hns.drewN n) hi.out.2
      have HP1 := Lib.hid hp1; clear hp1
      have HP2 := Lib.hid hp2; clear hp2
      have hP' : ∀ (p' : Bool), (p' = true → p = true ∧ ns.idxOf es[k].2 < ns.idxOf es[k].1) → Hid (p' = true → ∀ e ∈ es.take (k + 1), ns.idxOf e.2 < ns.idxOf e.1) := fun p' hp' => Lib.hid (fun h1 e he => by
        rcases (mem_take_succ hlt).1 he with he | rfl
        · exact HP.out (hp' h1).1 e he
        · exact (hp' h1).2)
      have hQ' : ∀ (p' : Bool), (p' = true → q = true ∧ ns.idxOf es[k].1 < ns.idxOf es[k].2) → Hid (p' = true → ∀ e ∈ es.take (k + 1), ns.idxOf e.1 < ns.idxOf e.2) := fun p' hp' => Lib.hid (fun h1 e he => by
        rcases (mem_take_succ hlt).1 he with he | rfl
        · exact HQ.out (hp' h1).1 e he
        · exact (hp' h1).2)
      have HPP := Lib.hid hP'; clear hP'
      have HQQ := Lib.hid hQ'; clear hQ'
      generalize es[k] = x at *
      cases p <;> cases q <;>
      · go_wp2
        go_quiet (first
          | (go_at_call_of 44 (Value.string x.1); exact quiet_same (HP1.out _))
          | (go_at_call_of 44 (Value.string x.2); exact quiet_same (HP2.out _)))
        go_wp2
        go_roundg (es.length - (k + 1))
        case measure => omega
        case rel =>
          refine ⟨k + 1, _, _, by omega, rfl, by go_num, rfl, rfl, HPP.out _ ?_, HQQ.out _ ?_, (hb.alloc hsz _).fr (Fr.drewN NoB _ _) (Nat.le_refl _) (fun _ hs => hs.elim)⟩
          · simp
          · simp
    · have hway : Hid (∀ r : Bool, r = (p || q) → r = true → Way ns es) := Lib.hid (by
        rintro r rfl hr
        have htk : es.take k = es := List.take_of_length_le (by omega)
        simp only [Bool.or_eq_true] at hr
        rcases hr with hr | hr
        · exact .inl (by rw [← htk]; exact HP.out hr)
        · exact .inr (by rw [← htk]; exact HQ.out hr))
      cases p <;> cases q <;>
      · go_wp2
        go_ret
        exact ⟨_, rfl, hway.out _ rfl, hb⟩
end Go.Proofs.Ythajiimohbjjhaa
