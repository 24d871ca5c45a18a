/- impl.Reduced: what the call returns, of closed edges that all lead one way. -/
import Derived.Test.YthajiimohbjjhaaReduceLaw
import Derived.Test.YthajiimohbjjhaaAll
import Derived.Test.YthajiimohbjjhaaSpecE
import Derived.Test.YthajiimohbjjhaaCovers
import Derived.Test.YthajiimohbjjhaaClosed
namespace Go.Proofs.Ythajiimohbjjhaa
open Go.RowKit

def RetRd (ns : List Str) (es : List Ed) (w : World) (e : Ending) (w' : World) : Prop :=
  ∃ a n cap L, e = .returned (.slice a n cap) ∧ n = L.length ∧ (L.Nodup ∧ ∀ x, x ∈ L ↔ x ∈ covers ns es) ∧ L.length ≤ es.length ∧ Sl encE 2 w' a cap L ∧ Below w.heap.size w w'

theorem mem_covers {ns : List Str} {es : List Ed} {x : Ed} : x ∈ covers ns es ↔ x ∈ es ∧ ¬ ∃ n ∈ ns, (x.1, n) ∈ es ∧ (n, x.2) ∈ es := by
  unfold covers
  rw [List.mem_filter, Bool.not_eq_true', decide_eq_false_iff_not]
  exact Iff.rfl

theorem reduced_calls {a b : Option Addr} {cap capb n m : Nat} {ns : List Str} {es : List Ed} (w : World) (hn : n = ns.length) (hm : m = es.length) (h : Sl encS 1 w a cap ns) (h' : Sl encE 2 w b capb es)
    (hnd : ns.Nodup) (hg : ns.length ≤ 10000) (hin : ∀ e ∈ es, e.1 ∈ ns ∧ e.2 ∈ ns) (htr : ∀ a m b, (a, m) ∈ es → (m, b) ∈ es → (a, b) ∈ es) (hway : Way ns es) :
    Calls Try.prog 31 #[.slice a n cap, .slice b m capb] w <| RetRd ns es w := by
  have hb := build_calls w hn hm h h' (by omega) (fun e he => (hin e he).1)
  have hlen : (buildG ns es).length ≤ 10000 := Nat.le_trans (buildG_len ns es) hg
  have hE : ∀ a b, hasE (buildG ns es) a b = true ↔ (a, b) ∈ es := fun a b => buildG_hasE (fun e he => (hin e he).1) a b
  have hN : names (buildG ns es) = ns := by rw [buildG_names, nodesG_names hnd]
  have hcl : ∀ a b, hasE (buildG ns es) a b = true → b ∈ ns := fun a b he => (hin _ ((hE a b).1 he)).2
  have hred := reduceG_law hN (buildG_good ns es) hcl (fun a m b h1 h2 => (hE a b).2 (htr a m b ((hE a m).1 h1) ((hE m b).1 h2)))
    (hway.imp (fun hh a b he => hh (a, b) ((hE a b).1 he)) (fun hh a b he => hh (a, b) ((hE a b).1 he)))
  have hmem : ∀ x, x ∈ allG (reduceG ns (buildG ns es)) ↔ x ∈ covers ns es := fun x => by
    rw [mem_allG, hred.2.2, hE, hred.2.1, mem_covers]
    constructor
    · rintro ⟨⟨h1, h2⟩, h3⟩
      exact ⟨h1, fun ⟨n, _, h4, h5⟩ => h2 ⟨n, (hE _ _).2 h4, (hE _ _).2 h5⟩⟩
    · rintro ⟨h1, h2⟩
      exact ⟨⟨h1, fun ⟨n, h4, h5⟩ => h2 ⟨n, (hin _ ((hE _ _).1 h4)).2, (hE _ _).1 h4, (hE _ _).1 h5⟩⟩, (hin _ h1).2⟩
  have hndl : (allG (reduceG ns (buildG ns es))).Nodup := nodup_allG hred.1.1
  have hll : (allG (reduceG ns (buildG ns es))).length ≤ es.length := nodup_subset_len hndl (fun x hx => (mem_covers.1 ((hmem x).1 hx)).1)
  have hrl : (reduceG ns (buildG ns es)).length ≤ 10000 := by
    have h1 := congrArg List.length hred.2.1
    rw [List.length_map] at h1
    omega
  have hcl2 : ∀ a b, hasE (reduceG ns (buildG ns es)) a b = true → b ∈ names (reduceG ns (buildG ns es)) := fun a b he => by
    rw [hred.2.1]
    exact hcl a b ((hred.2.2 a b).1 he).1
  have HB := Lib.hid hb; clear hb
  have HLEN := Lib.hid hlen; clear hlen
  have HN := Lib.hid hN; clear hN
  have HMEM := Lib.hid hmem; clear hmem
  have HNDL := Lib.hid hndl; clear hndl
  have HLL := Lib.hid hll; clear hll
  have HRL := Lib.hid hrl; clear hrl
  have HCL2 := Lib.hid hcl2; clear hcl2
  clear hn hm hE hcl hred hin htr hway hnd
  generalize buildG ns es = G at *
  have hfr : ∀ (W W' : World), w.heap.size ≤ W.heap.size → Below w.heap.size w W → Fr (fun k => w.heap.size ≤ k) W W' → Below w.heap.size w W' := fun W W' _ hb hf => hb.fr hf (Nat.le_refl _) (fun _ h => h)
  have HFR := Lib.hid hfr; clear hfr
  go_enter Try.func31, Try.ntmps31
  go_wp2_with (first
    | (go_at_call 41; refine (HB.out).mono ?_; rintro e w1 ⟨v, rfl, g, rfl, hgr, hb1⟩)
    | (go_at_call 48
       refine (reduce_calls hgr (by have := HLEN.out; omega)).mono ?_
       rintro e w2 ⟨rfl, hgr2, hf2⟩
       rw [HN.out] at hgr2
       have hb2 := HFR.out _ _ hb1.size hb1 hf2)
    | (go_at_call 47
       refine (all_calls hgr2 HCL2.out HRL.out).mono ?_
       rintro e w3 ⟨a3, n3, c3, rfl, rfl, hown3, hb3⟩))
  go_ret
  exact ⟨_, _, _, _, rfl, rfl, ⟨HNDL.out, HMEM.out⟩, HLL.out, hown3.sl encE_len, hb2.top hb3 (Nat.le_refl _)⟩

/-- closed edges of some that lead one way lead that way -/
theorem way_closed {ns : List Str} {es : List Ed} (h : Way ns es) : Way ns (closedL ns es) := by
  have hm : ∀ e ∈ closedL ns es, clo ns es e.1 e.2 = true := fun e he => (List.mem_filter.1 he).2
  refine h.imp (fun hh e he => ?_) (fun hh e he => ?_)
  · exact clo_least (T := fun a b => ns.idxOf b < ns.idxOf a) (fun a b h => hh (a, b) h) (fun _ _ _ h1 h2 => by omega) (hm e he)
  · exact clo_least (T := fun a b => ns.idxOf a < ns.idxOf b) (fun a b h => hh (a, b) h) (fun _ _ _ h1 h2 => by omega) (hm e he)
theorem trans_closed {ns : List Str} {es : List Ed} (hin : ∀ e ∈ es, e.1 ∈ ns ∧ e.2 ∈ ns) : ∀ a m b, (a, m) ∈ closedL ns es → (m, b) ∈ closedL ns es → (a, b) ∈ closedL ns es := fun a m b h1 h2 =>
  (mem_closedL hin (e := (a, b))).2 (clo_trans hin ((mem_closedL hin (e := (a, m))).1 h1) ((mem_closedL hin (e := (m, b))).1 h2))
theorem pairs_len (ns : List Str) : (pairs ns).length ≤ ns.length * ns.length := flat_le' _ _ (fun s => by simp) ns
theorem closedL_len (ns : List Str) (es : List Ed) : (closedL ns es).length ≤ ns.length * ns.length := Nat.le_trans (List.length_filter_le _ _) (pairs_len ns)
end Go.Proofs.Ythajiimohbjjhaa
