/- spec.Covers: what the call computes. -/
import Derived.Test.YthajiimohbjjhaaPlace
namespace Go.Proofs.Ythajiimohbjjhaa
open Go.RowKit

def Betw (ns : List Str) (es : List Ed) (x : Ed) : Prop := ∃ n ∈ ns, (x.1, n) ∈ es ∧ (n, x.2) ∈ es
instance (ns : List Str) (es : List Ed) (x : Ed) : Decidable (Betw ns es x) := by unfold Betw; infer_instance
def covers (ns : List Str) (es : List Ed) : List Ed := es.filter fun x => !decide (Betw ns es x)

theorem covers_calls {a b : Option Addr} {cap capb n m : Nat} {ns : List Str} {es : List Ed} (w : World) (hn : n = ns.length) (hm : m = es.length) (h : Sl encS 1 w a cap ns) (h' : Sl encE 2 w b capb es) (hsm : es.length ≤ 2147483647) :
    Calls Try.prog 33 #[.slice a n cap, .slice b m capb] w <| RetSl fun a' n' cap' w' => n' = (covers ns es).length ∧ Own encE 2 w' w.heap.size 43 a' cap' (covers ns es) ∧ Below w.heap.size w w' := by
  subst hn
  subst hm
  have hl := h.len
  have hl' := h'.len
  go_enter Try.func33, Try.ntmps33
  go_wp2
  go_loopg [14, 5] es.length (fun gk i v wr => ∃ (k : Nat) (m : List Ed) (a' : Option Addr) (cap' : Nat), k ≤ es.length ∧ gk = es.length - k ∧ i = .int .i64 k ∧ v = .slice a' m.length cap' ∧ Hid (m = (es.take k).filter fun x => !decide (Betw ns es x)) ∧ m.length ≤ k ∧
    Own encE 2 wr w.heap.size 43 a' cap' m ∧ Below w.heap.size w wr)
  case atStart => exact ⟨0, [], _, _, Nat.zero_le _, by omega, rfl, rfl, Lib.hid (by simp), by simp, Own.made encE 2 w _ _ (Nat.le_refl _), (Below.refl _ _).alloc (Nat.le_refl _) _⟩
  case round =>
    obtain ⟨k, m, a', cap', hk, rfl, rfl, rfl, Hm, hmk, hown, hb⟩ := hrel
    have hsz := hb.size
    by_cases hlt : k < es.length
    · obtain ⟨bb, off, rfl, hbl, h1, h2⟩ := (h'.top hb).e2 hlt
      have hq : (es.take (k + 1)).filter (fun x => !decide (Betw ns es x)) = if Betw ns es es[k] then m else m ++ [es[k]] := by
        rw [List.take_succ_eq_append_getElem hlt, List.filter_append, ← Hm.out]
        by_cases hkp : Betw ns es es[k] <;> simp [hkp]
      have HQ := Lib.hid hq; clear hq
      generalize es[k] = x at *
      obtain ⟨wo, rfl⟩ : ∃ wo : World, wo = wr := ⟨_, rfl⟩
      go_wp2
      generalize hW : wo.alloc (.cells #[.string x.1, .string x.2] 43) = W at *
      have hWs : W.heap.size = wo.heap.size + 1 := by rw [← hW]; simp
      have hc1 : W.cell? ⟨wo.heap.size, 0, none⟩ = some (.string x.1) := by rw [← hW, cell_of_row _ _ _ _ _ _ (heap_alloc_new wo _)]; rfl
      have hc2 : W.cell? ⟨wo.heap.size, 1, none⟩ = some (.string x.2) := by rw [← hW, cell_of_row _ _ _ _ _ _ (heap_alloc_new wo _)]; rfl
      have hbW : Below w.heap.size w W := by rw [← hW]; exact hb.alloc hsz _
      have hownW : Own encE 2 W w.heap.size 43 a' cap' m := by rw [← hW]; exact hown.alloc _
      have hsW := h.top hbW
      have heW := h'.top hbW
      clear hW hown hb h1 h2
      go_loopg [20, 8] ns.length (fun gk i v8 wq => ∃ (j : Nat) (bt : Bool), j ≤ ns.length ∧ gk = ns.length - j ∧ i = .int .i64 j ∧ v8 = .bool bt ∧ Hid (bt = true ↔ ∃ n ∈ ns.take j, (x.1, n) ∈ es ∧ (n, x.2) ∈ es) ∧ Below W.heap.size W wq)
      case atStart => exact ⟨0, false, Nat.zero_le _, by omega, rfl, rfl, Lib.hid (by simp), Below.refl _ _⟩
      case round =>
        obtain ⟨j, bt, hj, rfl, rfl, rfl, HBT, hbq⟩ := hrel
        have hszq := hbq.size
        have g1 : wr.cell? ⟨wo.heap.size, 0, none⟩ = some (.string x.1) := (hbq.cell (p := ⟨wo.heap.size, 0, none⟩) (by simp; omega)).trans hc1
        have g2 : wr.cell? ⟨wo.heap.size, 1, none⟩ = some (.string x.2) := (hbq.cell (p := ⟨wo.heap.size, 1, none⟩) (by simp; omega)).trans hc2
        have heq := heW.top hbq
        by_cases hjl : j < ns.length
        · obtain ⟨nb, noff, rfl, g3⟩ := (hsW.top hbq).s1 hjl
          have hst : ∀ b' : Bool, (b' = true ↔ bt = true ∨ ((x.1, ns[j]) ∈ es ∧ (ns[j], x.2) ∈ es)) → Hid (b' = true ↔ ∃ n ∈ ns.take (j + 1), (x.1, n) ∈ es ∧ (n, x.2) ∈ es) := fun b' hb' => Lib.hid (by
            rw [hb', HBT.out]
            constructor
            · rintro (⟨n, hn, hh⟩ | hh)
              · exact ⟨n, (mem_take_succ hjl).2 (.inl hn), hh⟩
              · exact ⟨_, (mem_take_succ hjl).2 (.inr rfl), hh⟩
            · rintro ⟨n, hn, hh⟩
              rcases (mem_take_succ hjl).1 hn with hn | rfl
              · exact .inl ⟨n, hn, hh⟩
              · exact .inr hh)
          have HST := Lib.hid hst; clear hst
          generalize ns[j] = t at *
          cases bt
          · by_cases hm1 : (x.1, t) ∈ es
            · by_cases hm2 : (t, x.2) ∈ es
              · have HK := HST.out true (by simp [hm1, hm2])
                have HM1 := Lib.hid hm1; clear hm1
                have HM2 := Lib.hid hm2; clear hm2
                go_wp2_with (first
                  | (go_at_call 23; refine (edged_yes (t, x.2) _ rfl (heq.top hb5) HM2.out).mono ?_; rintro e w6 ⟨rfl, hb6⟩)
                  | (go_at_call 23; refine (edged_yes (x.1, t) _ rfl heq HM1.out).mono ?_; rintro e w5 ⟨rfl, hb5⟩
                     have g2' := (hb5.cell (p := ⟨wo.heap.size, 1, none⟩) (by simp; omega)).trans g2))
                go_roundg (ns.length - (j + 1))
                case measure => omega
                case rel => exact ⟨j + 1, _, by omega, rfl, by go_num, rfl, Lib.hid (by first | exact HK.out | simpa using HK.out), (hbq.top hb5 (Nat.le_refl _)).top hb6 (Nat.le_refl _)⟩
              · have HK := HST.out false (by simp [hm2])
                have HM1 := Lib.hid hm1; clear hm1
                have HM2 := Lib.hid hm2; clear hm2
                go_wp2_with (first
                  | (go_at_call 23; refine (edged_no (t, x.2) _ rfl (heq.top hb5) HM2.out).mono ?_; rintro e w6 ⟨rfl, hb6⟩)
                  | (go_at_call 23; refine (edged_yes (x.1, t) _ rfl heq HM1.out).mono ?_; rintro e w5 ⟨rfl, hb5⟩
                     have g2' := (hb5.cell (p := ⟨wo.heap.size, 1, none⟩) (by simp; omega)).trans g2))
                go_roundg (ns.length - (j + 1))
                case measure => omega
                case rel => exact ⟨j + 1, _, by omega, rfl, by go_num, rfl, Lib.hid (by first | exact HK.out | simpa using HK.out), (hbq.top hb5 (Nat.le_refl _)).top hb6 (Nat.le_refl _)⟩
            · have HK := HST.out false (by simp [hm1])
              have HM1 := Lib.hid hm1; clear hm1
              go_wp2_with (go_at_call 23; refine (edged_no (x.1, t) _ rfl heq HM1.out).mono ?_; rintro e w5 ⟨rfl, hb5⟩)
              go_roundg (ns.length - (j + 1))
              case measure => omega
              case rel => exact ⟨j + 1, _, by omega, rfl, by go_num, rfl, Lib.hid (by first | exact HK.out | simpa using HK.out), hbq.top hb5 (Nat.le_refl _)⟩
          · have HK := HST.out true (by simp)
            go_wp2
            go_roundg (ns.length - (j + 1))
            case measure => omega
            case rel => exact ⟨j + 1, _, by omega, rfl, by go_num, rfl, Lib.hid (by first | exact HK.out | simpa using HK.out), hbq⟩
        · have hbw : Hid (bt = true ↔ Betw ns es x) := Lib.hid (by
            have := HBT.out
            rwa [List.take_of_length_le (by omega)] at this)
          have hownq := hownW.top hbq
          have hbq2 := hbW.top hbq (Nat.le_refl _)
          cases bt
          · have HK : Hid (m ++ [x] = (es.take (k + 1)).filter fun x => !decide (Betw ns es x)) := Lib.hid (by rw [HQ.out, if_neg (fun hh => by have := hbw.out.2 hh; cases this)])
            go_wp2_with (at_builtin; refine wpList_append_new encE 2 encE_len encE_one _ _ rfl _ _ 36 rfl 43 _ 32 Try.underlying36 infoE rfl (by omega) w.heap.size a' cap' m _ rfl rfl hownq x _ _ (by simp) rfl (by omega) (by omega) (by omega) ?_; intro a2 cap2 w4 hown2 hf2 hk2)
            go_roundg (es.length - (k + 1))
            case measure => omega
            case rel => exact ⟨k + 1, m ++ [x], a2, cap2, by omega, rfl, by go_num, by simp, HK, by simp; omega, hown2, hbq2.fr hf2 (Nat.le_refl _) (fun j hj => (hownq.lt j hj).1)⟩
          · have HK : Hid (m = (es.take (k + 1)).filter fun x => !decide (Betw ns es x)) := Lib.hid (by rw [HQ.out, if_pos (hbw.out.1 rfl)])
            go_wp2
            go_roundg (es.length - (k + 1))
            case measure => omega
            case rel => exact ⟨k + 1, m, a', cap', by omega, rfl, by go_num, rfl, HK, by omega, hownq, hbq2⟩
    · have hmf : m = covers ns es := by rw [Hm.out, List.take_of_length_le (by omega)]; rfl
      clear Hm
      go_wp2
      go_ret
      exact ⟨_, _, _, rfl, by rw [hmf], by rw [← hmf]; exact hown, hb⟩
end Go.Proofs.Ythajiimohbjjhaa
