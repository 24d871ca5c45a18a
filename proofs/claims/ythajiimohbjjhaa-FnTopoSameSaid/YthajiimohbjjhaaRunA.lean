/- zzFits1, Steps, impl.Run: what each call computes. -/
import Derived.Test.YthajiimohbjjhaaGraphB
namespace Go.Proofs.Ythajiimohbjjhaa
open Go.RowKit

theorem infoT : (Try.prog.info? 27).map (fun i => (i.zero, i.size, i.bytes)) = some (some (.agg #[.int .i64 0, .string ByteArray.empty, .string ByteArray.empty]), 3, 40) := by kernel_rfl
theorem infoB : (Try.prog.info? 4).map (fun i => (i.zero, i.size, i.bytes)) = some (some (.bool false), 1, 1) := by kernel_rfl

theorem fits2_calls (x : St) (w : World) :
    Calls Try.prog 34 #[.agg #[.int .i64 x.1, .string x.2.1, .string x.2.2]] w <| RetB fun _ w' => Below w.heap.size w w' := by
  go_enter Try.func34, Try.ntmps34
  go_wp2
  all_goals go_ret
  all_goals exact ⟨_, rfl, (Below.refl _ _).alloc (Nat.le_refl _) _⟩

theorem fits1_calls {a : Option Addr} {cap n : Nat} {l : List St} (w : World) (hn : n = l.length) (h : Sl encT 3 w a cap l) :
    Calls Try.prog 13 #[.slice a n cap] w <| RetB fun b w' => (b = true → l.length ≤ 2147483647) ∧ Below w.heap.size w w' := by
  subst hn
  have hl := h.len
  by_cases hbig : 2147483647 < l.length
  · go_enter Try.func13, Try.ntmps13
    go_wp2
    go_ret
    exact ⟨_, rfl, by simp, Below.refl _ _⟩
  go_enter Try.func13, Try.ntmps13
  go_wp2
  go_loopw [10] (fun i wr => ∃ k : Nat, k ≤ l.length ∧ i = .int .i64 k ∧ Below w.heap.size w wr) (fun i _ => l.length - (intOf i).toNat)
  case atStart => exact ⟨0, Nat.zero_le _, rfl, Below.refl _ _⟩
  case round =>
    obtain ⟨k, hk, rfl, hb⟩ := hrel
    by_cases hlt : k < l.length
    · obtain ⟨b, off, rfl, hbl, h1, h2, h3⟩ := (h.top hb).t3 hlt
      clear h
      have hsz := hb.size
      go_wp2_with (go_at_call 34; refine (fits2_calls _ _).mono ?_; rintro e w' ⟨b, rfl, hb'⟩)
      · go_ret
        exact ⟨_, rfl, by simp, (hb.alloc hsz _).top hb' (Nat.le_refl _)⟩
      · go_roundw
        case rel => exact ⟨k + 1, by omega, by go_num, (hb.alloc hsz _).top hb' (Nat.le_refl _)⟩
        case measure => simp [intOf]; omega
    · go_wp2
      go_ret
      exact ⟨_, rfl, fun _ => by omega, hb⟩

/-- the nodes that steps add -/
def added (l : List St) : List Str := (l.filter fun s => decide (s.1 = 0)).map fun s => s.2.1
def StepOK (ns : List Str) (s : St) : Prop := 0 ≤ s.1 ∧ s.1 ≤ 3 ∧ (s.1 = 1 ∨ s.1 = 2 → s.2.1 ∈ ns ∧ s.2.2 ∈ ns)
def StepsOK (l : List St) : Prop := ∀ k (h : k < l.length), StepOK (added (l.take k)) l[k]
theorem added_snoc (l : List St) (s : St) : added (l ++ [s]) = if s.1 = 0 then added l ++ [s.2.1] else added l := by
  unfold added
  by_cases h : s.1 = 0 <;> simp [h]
theorem stepsOK_succ {l : List St} {k : Nat} (hk : k < l.length) (h : ∀ j (_ : j < k) (hj : j < l.length), StepOK (added (l.take j)) l[j]) (hs : StepOK (added (l.take k)) l[k]) :
    ∀ j (_ : j < k + 1) (hj : j < l.length), StepOK (added (l.take j)) l[j] := by
  intro j hj hjl
  by_cases e : j = k
  · subst e; exact hs
  · exact h j (by omega) hjl

theorem steps_calls {a : Option Addr} {cap n : Nat} {l : List St} (w : World) (hn : n = l.length) (h : Sl encT 3 w a cap l) (hsm : l.length ≤ 2147483647) :
    Calls Try.prog 14 #[.slice a n cap] w <| RetB fun b w' => (b = true → StepsOK l ∧ l.length ≤ 80) ∧ Below w.heap.size w w' := by
  subst hn
  have hl := h.len
  go_enter Try.func14, Try.ntmps14
  go_wp2
  go_loopw [9, 3] (fun i v wr => ∃ (k : Nat) (m : List Str) (a' : Option Addr) (cap' : Nat), k ≤ l.length ∧ i = .int .i64 k ∧ v = .slice a' m.length cap' ∧ Hid (m = added (l.take k)) ∧ m.length ≤ k ∧
    Hid (∀ j (_ : j < k) (hj : j < l.length), StepOK (added (l.take j)) l[j]) ∧ Own encS 1 wr w.heap.size 9 a' cap' m ∧ Below w.heap.size w wr) (fun i _ _ => l.length - (intOf i).toNat)
  case atStart => exact ⟨0, [], _, _, Nat.zero_le _, rfl, rfl, Lib.hid (by simp [added]), by simp, Lib.hid (fun j hj => by omega), Own.made encS 1 w _ _ (Nat.le_refl _), (Below.refl _ _).alloc (Nat.le_refl _) _⟩
  case round =>
    obtain ⟨k, m, a', cap', hk, rfl, rfl, Hm, hmk, Hok, hown, hb⟩ := hrel
    by_cases hlt : k < l.length
    · obtain ⟨b, off, rfl, hbl, h1, h2, h3⟩ := (h.top hb).t3 hlt
      have hsz := hb.size
      have hsl := (hown.sl encS_len).alloc (.cells #[.int .i64 l[k].1, .string l[k].2.1, .string l[k].2.2] 27)
      have hstep : (0 ≤ l[k].1 ∧ l[k].1 ≤ 3 ∧ (l[k].1 = 1 ∨ l[k].1 = 2 → l[k].2.1 ∈ m ∧ l[k].2.2 ∈ m)) → Hid (∀ j (_ : j < k + 1) (hj : j < l.length), StepOK (added (l.take j)) l[j]) := fun hs => by
        refine Lib.hid (stepsOK_succ hlt Hok.out ?_)
        rw [← Hm.out]
        exact hs
      have hsnoc := added_snoc (l.take k) l[k]
      rw [← List.take_succ_eq_append_getElem hlt, ← Hm.out] at hsnoc
      have HS := Lib.hid hstep; clear hstep
      have HN := Lib.hid hsnoc; clear hsnoc
      go_wp2_with (first
        | (go_at_call 21; refine (has_calls _ _ rfl hsl).mono ?_; rintro e w' ⟨rfl, rfl⟩)
        | (at_builtin
           refine wpList_append_new encS 1 encS_len encS_one _ _ rfl _ _ 32 rfl 9 _ 16 Try.underlying32 infoS rfl (by omega) w.heap.size a' cap' m _ rfl rfl (hown.alloc _) l[k].2.1 _ _ (by simp) rfl (by omega) (by omega) (by simp; omega) ?_
           intro a2 cap2 w2 hown2 hf2 hk2))
      all_goals first
        | (go_ret; exact ⟨_, rfl, by simp, hb.alloc hsz _⟩)
        | (go_roundw
           case rel =>
             have h0 : l[k].1 = 0 := by simpa using (show (l[k].1 == 0) = true by assumption)
             refine ⟨k + 1, m ++ [l[k].2.1], a2, cap2, by omega, by go_num, by simp, Lib.hid (by rw [HN.out, if_pos h0]), by simp; omega, HS.out ⟨by omega, by omega, fun h => by omega⟩, hown2, ?_⟩
             exact (hb.alloc hsz _).fr hf2 (Nat.le_refl _) (fun j hj => (hown.lt j hj).1)
           case measure => simp [intOf]; omega)
        | (go_roundw
           case rel =>
             have h0 : ¬ l[k].1 = 0 := by simpa using (show (l[k].1 == 0) = false by assumption)
             refine ⟨k + 1, m, a', cap', by omega, by go_num, rfl, Lib.hid (by rw [HN.out, if_neg h0]), by omega, HS.out ⟨by omega, by omega, fun h => ?_⟩, hown.alloc _, hb.alloc hsz _⟩
             first
               | (exfalso; omega)
               | exact ⟨by assumption, by simpa using (show (!decide (l[k].2.2 ∈ m)) = false by assumption)⟩
           case measure => simp [intOf]; omega)
    · go_wp2
      go_ret
      refine ⟨_, rfl, fun hle => ⟨fun j hj => Hok.out j (by omega) hj, by simp at hle; omega⟩, hb⟩
end Go.Proofs.Ythajiimohbjjhaa
