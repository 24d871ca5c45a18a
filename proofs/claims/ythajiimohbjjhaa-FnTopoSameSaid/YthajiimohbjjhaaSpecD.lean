/- SameEdges, SameNodes, Place, plain: what each call computes. -/
import Derived.Test.YthajiimohbjjhaaSpecC
import Derived.Deep.LoopGhost
import Derived.Deep.RegionHeld3
namespace Go.Proofs.Ythajiimohbjjhaa
open Go.RowKit

theorem edged_yes {a : Option Addr} {cap n : Nat} {l : List Ed} (x : Ed) (w : World) (hn : n = l.length) (h : Sl encE 2 w a cap l) (hx : x ∈ l) :
    Calls Try.prog 23 #[.slice a n cap, .string x.1, .string x.2] w fun e w' => e = .returned (.bool true) ∧ Below w.heap.size w w' :=
  (edged_calls x.1 x.2 w hn h).mono fun e w' hh => ⟨by rw [hh.1]; simpa using hx, hh.2⟩
theorem edged_no {a : Option Addr} {cap n : Nat} {l : List Ed} (x : Ed) (w : World) (hn : n = l.length) (h : Sl encE 2 w a cap l) (hx : x ∉ l) :
    Calls Try.prog 23 #[.slice a n cap, .string x.1, .string x.2] w fun e w' => e = .returned (.bool false) ∧ Below w.heap.size w w' :=
  (edged_calls x.1 x.2 w hn h).mono fun e w' hh => ⟨by rw [hh.1]; simpa using hx, hh.2⟩

/-- both lists the same edges, the first each once: the call says yes -/
theorem sameEdges_calls {a b : Option Addr} {cap capb n m : Nat} {l r : List Ed} (w : World) (hn : n = l.length) (hm : m = r.length) (h : Sl encE 2 w a cap l) (h' : Sl encE 2 w b capb r)
    (hnd : l.Nodup) (hset : ∀ e, e ∈ l ↔ e ∈ r) :
    Calls Try.prog 27 #[.slice a n cap, .slice b m capb] w fun e w' => e = .returned (.bool true) ∧ Below w.heap.size w w' := by
  subst hn
  subst hm
  have hl := h.len
  have hl' := h'.len
  have hlc := h.1
  have HND := Lib.hid hnd; clear hnd
  have HSET := Lib.hid hset; clear hset
  go_enter Try.func27, Try.ntmps27
  go_wp2
  go_loopg [11] l.length (fun gk i wr => ∃ k : Nat, k ≤ l.length ∧ gk = l.length - k ∧ i = .int .i64 k ∧ Below w.heap.size w wr)
  case atStart => exact ⟨0, Nat.zero_le _, by omega, rfl, Below.refl _ _⟩
  case round =>
    obtain ⟨k, hk, rfl, rfl, hb⟩ := hrel
    have hsz := hb.size
    by_cases hlt : k < l.length
    · have hlr := h.top hb
      have hlr' := h'.top hb
      obtain ⟨bb, off, rfl, hbl, h1, h2⟩ := hlr.e2 hlt
      have hd1 : Hid (l[k] ∉ l.take k) := Lib.hid ((nodup_take_succ hlt).1 (nodup_take (k + 1) HND.out)).2
      have hd2 : Hid (l[k] ∈ r) := Lib.hid ((HSET.out _).1 (List.getElem_mem hlt))
      have hd3 : ((k : Int)).toNat = k := by simp
      have hd4 : (0 : Int) ≤ (k : Int) := by omega
      have hd5 : (k : Int) ≤ (cap : Int) := by omega
      have hd6 : k ≤ cap := by omega
      generalize l[k] = x at *
      go_wp2_with fail
      go_region_held3 (fun w' => w'.cell? ⟨wr.heap.size, 0, none⟩ = some (.string x.1) ∧ w'.cell? ⟨wr.heap.size, 1, none⟩ = some (.string x.2) ∧ Below (wr.heap.size + 1) (wr.alloc (.cells #[.string x.1, .string x.2] 43)) w')
        (refine ⟨?_, ?_, ?_⟩ <;> first | go_keep | (exact (Below.refl _ _).fr (Fr.drew NoB _) (by simp) (fun _ hs => hs.elim)) | (exact HB5) | (exact HB6) | (rw [HB5.cell (by simp)]; simp [go_sem]) | (rw [HB6.cell (by simp)]; simp [go_sem]))
        (first
          | (go_at_call 23
             refine (edged_no (l := l.take k) x _ ?_ ?_ hd1.out).mono ?_
             · simp; omega
             · exact (hlr.take k).alloc _
             rintro e w5 ⟨rfl, hb5⟩
             have HB5 : Below (wr.heap.size + 1) (wr.alloc (.cells #[.string x.1, .string x.2] 43)) w5 := ((Below.refl _ _).fr (Fr.drew NoB _) (by simp) (fun _ hs => hs.elim)).top hb5 (by simp)
             clear hb5)
          | (go_at_call 23
             refine (edged_yes (l := r) x _ ?_ ?_ hd2.out).mono ?_
             · rfl
             · exact (hlr'.alloc _).below HB5 (by simp)
             rintro e w6 ⟨rfl, hb6⟩
             have HB6 : Below (wr.heap.size + 1) (wr.alloc (.cells #[.string x.1, .string x.2] 43)) w6 := HB5.top hb6 (by simp)
             clear hb6))
      go_wp2
      go_roundg (l.length - (k + 1))
      case measure => omega
      case rel => exact ⟨k + 1, by omega, rfl, by go_num, (hb.alloc hsz _).trans (HB6.mono (by omega))⟩
    · go_wp2
      go_loopg [36] r.length (fun gk i wr => ∃ k : Nat, k ≤ r.length ∧ gk = r.length - k ∧ i = .int .i64 k ∧ Below w.heap.size w wr)
      case atStart => exact ⟨0, Nat.zero_le _, by omega, rfl, hb⟩
      case round =>
        obtain ⟨j, hj, rfl, rfl, hbj⟩ := hrel
        have hsz := hbj.size
        by_cases hjl : j < r.length
        · obtain ⟨bb, off, rfl, hbl, h1, h2⟩ := (h'.top hbj).e2 hjl
          have hlr := (h.top hbj).alloc (.cells #[.string r[j].1, .string r[j].2] 43)
          have hd1 : Hid (r[j] ∈ l) := Lib.hid ((HSET.out _).2 (List.getElem_mem hjl))
          go_wp2_with (go_at_call 23; refine (edged_yes _ _ rfl hlr hd1.out).mono ?_; rintro e w5 ⟨rfl, hb5⟩)
          go_roundg (r.length - (j + 1))
          case measure => omega
          case rel => exact ⟨j + 1, by omega, rfl, by go_num, (hbj.alloc hsz _).top hb5 (Nat.le_refl _)⟩
        · go_wp2
          go_ret
          exact ⟨rfl, hbj⟩
end Go.Proofs.Ythajiimohbjjhaa
