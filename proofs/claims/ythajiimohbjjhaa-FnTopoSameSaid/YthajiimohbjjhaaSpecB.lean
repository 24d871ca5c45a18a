/- The size tests, conv and Good: what each call computes. -/
import Derived.Test.YthajiimohbjjhaaSpecA
namespace Go.Proofs.Ythajiimohbjjhaa
open Go.RowKit

theorem encS_len (x : Str) : (encS x).length = 1 := rfl
theorem encE_len (x : Ed) : (encE x).length = 2 := rfl
theorem encB_len (x : Bool) : (encB x).length = 1 := rfl
theorem encT_len (x : St) : (encT x).length = 3 := rfl
theorem encS_one (x : Str) (u : Value) (h : u ∈ encS x) : u.oneCell' = true := by simp at h; subst h; rfl
theorem encB_one (x : Bool) (u : Value) (h : u ∈ encB x) : u.oneCell' = true := by simp at h; subst h; rfl
theorem encE_one (x : Ed) (u : Value) (h : u ∈ encE x) : u.oneCell' = true := by simp at h; rcases h with h | h <;> subst h <;> rfl
theorem encT_one (x : St) (u : Value) (h : u ∈ encT x) : u.oneCell' = true := by simp at h; rcases h with h | h | h <;> subst h <;> rfl
theorem infoS : (Try.prog.info? 9).map (fun i => (i.zero, i.size, i.bytes)) = some (some (.string ByteArray.empty), 1, 16) := by kernel_rfl
theorem infoE : (Try.prog.info? 43).map (fun i => (i.zero, i.size, i.bytes)) = some (some (.agg #[.string ByteArray.empty, .string ByteArray.empty]), 2, 32) := by kernel_rfl

theorem fits5_calls (x : Ed) (w : World) :
    Calls Try.prog 40 #[.agg #[.string x.1, .string x.2]] w <| RetB fun _ w' => Below w.heap.size w w' := by
  go_enter Try.func40, Try.ntmps40
  go_wp2
  all_goals go_ret
  all_goals exact ⟨_, rfl, (Below.refl _ _).alloc (Nat.le_refl _) _⟩

theorem fits4_calls {a : Option Addr} {cap n : Nat} {l : List Ed} (w : World) (hn : n = l.length) (h : Sl encE 2 w a cap l) :
    Calls Try.prog 18 #[.slice a n cap] w <| RetB fun b w' => (b = true → l.length ≤ 2147483647) ∧ Below w.heap.size w w' := by
  subst hn
  have hl := h.len
  by_cases hbig : 2147483647 < l.length
  · go_enter Try.func18, Try.ntmps18
    go_wp2
    go_ret
    exact ⟨_, rfl, by simp, Below.refl _ _⟩
  go_enter Try.func18, Try.ntmps18
  go_wp2
  go_loopw [10] (fun i wr => ∃ k : Nat, k ≤ l.length ∧ i = .int .i64 k ∧ Below w.heap.size w wr) (fun i _ => l.length - (intOf i).toNat)
  case atStart => exact ⟨0, Nat.zero_le _, rfl, Below.refl _ _⟩
  case round =>
    obtain ⟨k, hk, rfl, hb⟩ := hrel
    by_cases hlt : k < l.length
    · obtain ⟨b, off, rfl, hbl, h1, h2⟩ := (h.top hb).e2 hlt
      clear h
      have hsz := hb.size
      go_wp2_with (go_at_call 40; refine (fits5_calls _ _).mono ?_; rintro e w' ⟨b, rfl, hb'⟩)
      · go_ret
        exact ⟨_, rfl, by simp, (hb.alloc hsz _).top hb' (Nat.le_refl _)⟩
      · go_roundw
        case rel => exact ⟨k + 1, by omega, by go_num, (hb.alloc hsz _).top hb' (Nat.le_refl _)⟩
        case measure => simp [intOf]; omega
    · go_wp2
      go_ret
      exact ⟨_, rfl, fun _ => by omega, hb⟩

theorem fits3_calls {a : Option Addr} {cap n : Nat} {l : List Str} (w : World) (hn : n = l.length) (h : Sl encS 1 w a cap l) :
    Calls Try.prog 17 #[.slice a n cap] w <| RetB fun b w' => (b = true → l.length ≤ 2147483647 ∧ ∀ s ∈ l, s.size ≤ 2147483647) ∧ w = w' := by
  subst hn
  have hl := h.len
  by_cases hbig : 2147483647 < l.length
  · go_enter Try.func17, Try.ntmps17
    go_wp2
    go_ret
    exact ⟨_, rfl, by simp, rfl⟩
  go_enter Try.func17, Try.ntmps17
  go_wp2
  go_loop [10] (fun i => ∃ k : Nat, k ≤ l.length ∧ i = .int .i64 k ∧ ∀ s ∈ l.take k, s.size ≤ 2147483647) (fun i => l.length - (intOf i).toNat)
  case atStart => exact ⟨0, Nat.zero_le _, rfl, by simp⟩
  case round =>
    obtain ⟨k, hk, rfl, hn⟩ := hrel
    have HN := Lib.hid hn; clear hn
    by_cases hlt : k < l.length
    · obtain ⟨b, off, rfl, h1⟩ := h.s1 hlt
      clear h
      by_cases hz : 2147483647 < l[k].size
      · go_wp2
        go_ret
        exact ⟨_, rfl, by simp, rfl⟩
      · go_wp2
        go_round
        case rel =>
          refine ⟨k + 1, by omega, by go_num, fun s hs => ?_⟩
          rcases (mem_take_succ hlt).1 hs with hs | rfl
          · exact HN.out s hs
          · omega
        case measure => simp [intOf]; omega
    · go_wp2
      go_ret
      exact ⟨_, rfl, fun _ => ⟨by omega, by have := HN.out; rwa [List.take_of_length_le (by omega)] at this⟩, rfl⟩

theorem conv_calls {a : Option Addr} {cap n : Nat} {l : List Ed} (w : World) (hn : n = l.length) (h : Sl encE 2 w a cap l) (hsm : l.length ≤ 2147483647) :
    Calls Try.prog 19 #[.slice a n cap] w <| RetSl fun a' n cap' w' => n = l.length ∧ Own encE 2 w' w.heap.size 43 a' cap' l ∧ Below w.heap.size w w' := by
  subst hn
  go_enter Try.func19, Try.ntmps19
  go_wp2
  go_loopw [9, 3] (fun i v wr => ∃ (k : Nat) (m : List Ed) (a' : Option Addr) (cap' : Nat), k ≤ l.length ∧ i = .int .i64 k ∧ v = .slice a' m.length cap' ∧ Hid (m = l.take k) ∧ Own encE 2 wr w.heap.size 43 a' cap' m ∧ Below w.heap.size w wr) (fun i _ _ => l.length - (intOf i).toNat)
  case atStart => exact ⟨0, [], _, _, Nat.zero_le _, rfl, rfl, Lib.hid (by simp), Own.made encE 2 w _ _ (Nat.le_refl _), (Below.refl _ _).alloc (Nat.le_refl _) _⟩
  case round =>
    obtain ⟨k, m, a', cap', hk, rfl, rfl, Hm, hown, hb⟩ := hrel
    by_cases hlt : k < l.length
    · obtain ⟨b, off, rfl, hbl, h1, h2⟩ := (h.top hb).e2 hlt
      clear h
      have hsz := hb.size
      have hml : m.length ≤ k := by have := congrArg List.length Hm.out; simp at this; omega
      go_wp2_with (at_builtin; refine wpList_append_new encE 2 encE_len encE_one _ _ rfl _ _ 36 rfl 43 _ 32 Try.underlying36 infoE rfl (by omega) w.heap.size a' cap' m _ rfl rfl (hown.alloc _) l[k] _ _ (by simp) rfl (by omega) (by omega) (by simp; omega) ?_; intro a2 cap2 w2 hown2 hf2 hk2)
      go_roundw
      case rel =>
        refine ⟨k + 1, m ++ [l[k]], a2, cap2, by omega, by go_num, by simp, Lib.hid (by rw [Hm.out, List.take_succ_eq_append_getElem hlt]), hown2, ?_⟩
        exact (hb.alloc hsz _).fr hf2 (Nat.le_refl _) (fun j hj => (hown.lt j hj).1)
      case measure => simp [intOf]; omega
    · go_wp2
      go_ret
      have hml : m = l := by rw [Hm.out, List.take_of_length_le (by omega)]
      subst hml
      exact ⟨_, _, _, rfl, rfl, hown, hb⟩
end Go.Proofs.Ythajiimohbjjhaa
