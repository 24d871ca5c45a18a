/- spec.Spaced: the tokens with other blanks between them. -/
import Derived.Test.YthpfladpbfbpjaaDoorTxtB
namespace Go.Proofs.YthpfladpbfbpjaaDoor
open Go.RowKit
set_option linter.unusedSimpArgs false

theorem spB0 {k t : Nat} (h : (((k : Int) * 7 + t) % 5 == 0) = true) : spB (k * 7 + t) = [10, 9] := by
  have h : (k * 7 + t) % 5 = 0 := by simp at h; omega
  unfold spB
  rw [if_pos h]
theorem spB1 {k t : Nat} (h : (((k : Int) * 7 + t) % 5 == 1) = true) : spB (k * 7 + t) = [32, 35, 32, 97, 32, 60, 32, 98, 59, 10] := by
  have h : (k * 7 + t) % 5 = 1 := by simp at h; omega
  unfold spB
  rw [if_neg (by omega), if_pos h]
theorem spB2 {k t : Nat} (h : (((k : Int) * 7 + t) % 5 == 2) = true) : spB (k * 7 + t) = [32, 32] := by
  have h : (k * 7 + t) % 5 = 2 := by simp at h; omega
  unfold spB
  rw [if_neg (by omega), if_neg (by omega), if_pos h]
theorem spB3 {k t : Nat} (h0 : (((k : Int) * 7 + t) % 5 == 0) = false) (h1 : (((k : Int) * 7 + t) % 5 == 1) = false) (h2 : (((k : Int) * 7 + t) % 5 == 2) = false) : spB (k * 7 + t) = [32] := by
  have h0 : (k * 7 + t) % 5 ≠ 0 := by simp at h0; omega
  have h1 : (k * 7 + t) % 5 ≠ 1 := by simp at h1; omega
  have h2 : (k * 7 + t) % 5 ≠ 2 := by simp at h2; omega
  unfold spB
  rw [if_neg h0, if_neg h1, if_neg h2]

set_option maxRecDepth 100000 in
set_option maxHeartbeats 4000000 in
theorem spaced_calls {a : Option Addr} {cap n : Nat} {ts : List Str} (turn : Nat) (hturn : turn ≤ 1000) (w : World) (hn : n = ts.length) (h : Sl encS 1 w a cap ts) (hsz : ∀ t ∈ ts, t.size ≤ 400) (hl : ts.length ≤ 400) :
    Calls Tryd.prog 35 #[.slice a n cap, .int .i64 turn] w fun e w' => (∃ tx : Str, e = .returned (.string tx) ∧ Hid (bs tx = spacedB turn ts ts.length ++ [10])) ∧ w = w' := by
  subst hn
  have hcap := h.1
  have HSZ := Lib.hid hsz
  clear hsz
  go_enter Tryd.func35, Tryd.ntmps35
  go_wp2
  go_loopg [10, 5] ts.length (fun gk i v wr => ∃ (k : Nat) (tx : Str), k ≤ ts.length ∧ gk = ts.length - k ∧ i = .int .i64 k ∧ v = .string tx ∧ Hid (bs tx = spacedB turn ts k) ∧ tx.size ≤ k * 410 ∧ wr = w)
  case atStart => exact ⟨0, ⟨#[]⟩, Nat.zero_le _, by omega, rfl, rfl, Lib.hid rfl, by decide, rfl⟩
  case round =>
    obtain ⟨k, tx, hk, rfl, rfl, rfl, HT, htx, rfl⟩ := hrel
    by_cases hkl : k < ts.length
    · obtain ⟨bb, off, rfl, c1⟩ := h.s1 hkl
      have ht := HSZ.out ts[k] (List.getElem_mem hkl)
      have hsp : Hid (∀ u : Str, bs u = bs tx ++ (spB (k * 7 + turn) ++ bs ts[k]) → bs u = spacedB turn ts (k + 1)) := Lib.hid (fun u hu => by
        have e : ts.getD k ByteArray.empty = ts[k] := by simp [List.getD, show k < ts.length from hkl]
        unfold spacedB
        rw [hu, HT.out, e])
      clear h
      generalize ts[k] = t at *
      have z0 : (⟨#[10, 9]⟩ : Str).size = 2 := rfl
      have z1 : (⟨#[32, 35, 32, 97, 32, 60, 32, 98, 59, 10]⟩ : Str).size = 10 := rfl
      have z2 : (⟨#[32, 32]⟩ : Str).size = 2 := rfl
      have z3 : (⟨#[32]⟩ : Str).size = 1 := rfl
      go_wp2
      · have HS := Lib.hid (spB0 (k := k) (t := turn) (by assumption))
        go_roundg (ts.length - (k + 1))
        case measure => omega
        case rel => exact ⟨k + 1, _, by omega, rfl, by go_num, rfl, Lib.hid (hsp.out _ (by rw [HS.out, bs_append, bs_append]; simp [bs])), by simp only [ByteArray.size_append, z0, z1, z2, z3]; omega, rfl⟩
      · have HS := Lib.hid (spB1 (k := k) (t := turn) (by assumption))
        go_roundg (ts.length - (k + 1))
        case measure => omega
        case rel => exact ⟨k + 1, _, by omega, rfl, by go_num, rfl, Lib.hid (hsp.out _ (by rw [HS.out, bs_append, bs_append]; simp [bs])), by simp only [ByteArray.size_append, z0, z1, z2, z3]; omega, rfl⟩
      · have HS := Lib.hid (spB2 (k := k) (t := turn) (by assumption))
        go_roundg (ts.length - (k + 1))
        case measure => omega
        case rel => exact ⟨k + 1, _, by omega, rfl, by go_num, rfl, Lib.hid (hsp.out _ (by rw [HS.out, bs_append, bs_append]; simp [bs])), by simp only [ByteArray.size_append, z0, z1, z2, z3]; omega, rfl⟩
      · have HS := Lib.hid (spB3 (k := k) (t := turn) (by assumption) (by assumption) (by assumption))
        go_roundg (ts.length - (k + 1))
        case measure => omega
        case rel => exact ⟨k + 1, _, by omega, rfl, by go_num, rfl, Lib.hid (hsp.out _ (by rw [HS.out, bs_append, bs_append]; simp [bs])), by simp only [ByteArray.size_append, z0, z1, z2, z3]; omega, rfl⟩
    · obtain rfl : k = ts.length := by omega
      have z3 : (⟨#[10]⟩ : Str).size = 1 := rfl
      go_wp2
      go_ret
      exact ⟨⟨_, rfl, Lib.hid (by rw [bs_append, HT.out]; simp [bs])⟩, rfl⟩
end Go.Proofs.YthpfladpbfbpjaaDoor
