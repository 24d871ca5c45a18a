/- A list of lists of texts that is an argument; a list of integers; zzFits6. -/
import Derived.Test.YthpfladpbfbpjaaDoorTxtB
namespace Go.Proofs.YthpfladpbfbpjaaDoor
open Go.RowKit

abbrev encI : Int → List Value := fun n => [.int .i64 n]
/-- a slice that reads as a list of lists of texts -/
structure DL (w : World) (a : Option Addr) (cap : Nat) (hs : List HV) (Ls : List (List Str)) : Prop where
  row : Sl encH 1 w a cap hs
  len : hs.length = Ls.length
  inner : ∀ i (h : i < hs.length) (h' : i < Ls.length), hs[i].2.1 = Ls[i].length ∧ Sl encS 1 w hs[i].1 hs[i].2.2 Ls[i]
theorem DL.top {w w' : World} {a : Option Addr} {cap : Nat} {hs : List HV} {Ls : List (List Str)} (h : DL w a cap hs Ls) (hb : Below w.heap.size w w') : DL w' a cap hs Ls :=
  ⟨h.row.top hb, h.len, fun i hi hi' => ⟨(h.inner i hi hi').1, (h.inner i hi hi').2.top hb⟩⟩
theorem Sl.h1 {w : World} {a : Option Addr} {cap : Nat} {l : List HV} {k : Nat} (h : Sl encH 1 w a cap l) (hk : k < l.length) : ∃ b off, a = some ⟨b, off, none⟩ ∧ b < w.heap.size ∧ w.cell? ⟨b, off + k, none⟩ = some (.slice l[k].1 l[k].2.1 l[k].2.2) := by
  obtain ⟨b, off, e, hb, hc⟩ := h.2.2 (by omega)
  exact ⟨b, off, e, hb, by simpa using hc k hk 0 _ rfl⟩
theorem Sl.i1 {w : World} {a : Option Addr} {cap : Nat} {l : List Int} {k : Nat} (h : Sl encI 1 w a cap l) (hk : k < l.length) : ∃ b off, a = some ⟨b, off, none⟩ ∧ w.cell? ⟨b, off + k, none⟩ = some (.int .i64 l[k]) := by
  obtain ⟨b, off, e, _, hc⟩ := h.2.2 (by omega)
  exact ⟨b, off, e, by simpa using hc k hk 0 _ rfl⟩
/-- one of the lists: its slice value, and what it reads as -/
theorem DL.at {w : World} {a : Option Addr} {cap : Nat} {hs : List HV} {Ls : List (List Str)} {k : Nat} (h : DL w a cap hs Ls) (hk : k < Ls.length) :
    ∃ b off x c, a = some ⟨b, off, none⟩ ∧ b < w.heap.size ∧ w.cell? ⟨b, off + k, none⟩ = some (.slice x Ls[k].length c) ∧ Sl encS 1 w x c Ls[k] := by
  have hk' : k < hs.length := by rw [h.len]; exact hk
  obtain ⟨b, off, e, hb, hc⟩ := h.row.h1 hk'
  obtain ⟨e2, hi⟩ := h.inner k hk' hk
  rw [e2] at hc
  exact ⟨b, off, _, _, e, hb, hc, hi⟩
/-- nothing is longer than the bound -/
def FitsL (Ls : List (List Str)) : Prop := Ls.length ≤ 2147483647 ∧ ∀ L ∈ Ls, L.length ≤ 2147483647 ∧ ∀ x ∈ L, x.size ≤ 2147483647

theorem fits6_calls {a : Option Addr} {cap n : Nat} {hs : List HV} {Ls : List (List Str)} (w : World) (hn : n = Ls.length) (h : DL w a cap hs Ls) :
    Calls Tryd.prog 15 #[.slice a n cap] w <| RetB fun b w' => (b = true → FitsL Ls) ∧ w = w' := by
  subst hn
  have hl := h.row.len
  have hl2 := h.row.1
  rw [h.len] at hl hl2
  by_cases hbig : 2147483647 < Ls.length
  · go_enter Tryd.func15, Tryd.ntmps15
    go_wp2
    go_ret
    exact ⟨_, rfl, by simp, rfl⟩
  go_enter Tryd.func15, Tryd.ntmps15
  go_wp2
  go_loopg [10] Ls.length (fun gk i wr => ∃ k : Nat, k ≤ Ls.length ∧ gk = Ls.length - k ∧ i = .int .i64 k ∧ Hid (∀ L ∈ Ls.take k, L.length ≤ 2147483647 ∧ ∀ x ∈ L, x.size ≤ 2147483647) ∧ wr = w)
  case atStart => exact ⟨0, Nat.zero_le _, by omega, rfl, Lib.hid (by simp), rfl⟩
  case round =>
    obtain ⟨k, hk, rfl, rfl, HN, rfl⟩ := hrel
    by_cases hlt : k < Ls.length
    · obtain ⟨b, off, x, c, rfl, hbl, h1, hx⟩ := h.at hlt
      have HF := Lib.hid (fits3_calls wr rfl hx)
      have HST : Hid ((Ls[k].length ≤ 2147483647 ∧ ∀ x ∈ Ls[k], x.size ≤ 2147483647) → ∀ L ∈ Ls.take (k + 1), L.length ≤ 2147483647 ∧ ∀ x ∈ L, x.size ≤ 2147483647) := Lib.hid (fun hh L hL => by
        rcases (mem_take_succ hlt).1 hL with hL | rfl
        · exact HN.out L hL
        · exact hh)
      generalize Ls[k] = L at *
      clear h hx HN
      go_wp2_with (go_at_call 36; refine HF.out.mono ?_; rintro e w1 ⟨_ | _, rfl, hfit, rfl⟩)
      · go_ret
        exact ⟨_, rfl, by simp, rfl⟩
      · go_roundg (Ls.length - (k + 1))
        case measure => omega
        case rel => exact ⟨k + 1, by omega, rfl, by go_num, Lib.hid (HST.out (hfit (by first | rfl | trivial))), rfl⟩
    · go_wp2
      go_ret
      exact ⟨_, rfl, fun _ => ⟨by omega, by have := HN.out; rwa [List.take_of_length_le (by omega)] at this⟩, rfl⟩
end Go.Proofs.YthpfladpbfbpjaaDoor
