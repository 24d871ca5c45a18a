/- impl.build and impl.EdgesFrom: what each call computes; the plain laws of a graph that is built. -/
import Derived.Test.YthajiimohbjjhaaEdges
import Derived.Test.YthajiimohbjjhaaSpecC
namespace Go.Proofs.Ythajiimohbjjhaa
open Go.RowKit

def nodesG (ns : List Str) : Gr := ns.foldl addN []
def buildG (ns : List Str) (es : List Ed) : Gr := es.foldl (fun G e => addE G e.1 e.2) (nodesG ns)
theorem nodesG_snoc (ns : List Str) (s : Str) : nodesG (ns ++ [s]) = addN (nodesG ns) s := by simp [nodesG, List.foldl_append]
theorem buildG_snoc (ns : List Str) (es : List Ed) (e : Ed) : buildG ns (es ++ [e]) = addE (buildG ns es) e.1 e.2 := by simp [buildG, List.foldl_append]
theorem nodesG_mem (ns : List Str) (t : Str) : t ∈ names (nodesG ns) ↔ t ∈ ns := by
  refine snoc_ind (P := fun ns => t ∈ names (nodesG ns) ↔ t ∈ ns) (by simp [nodesG]) ?_ ns
  intro l x ih
  show t ∈ names (nodesG (l ++ [x])) ↔ _
  rw [nodesG_snoc, names_addN, ih]
  simp
theorem nodesG_good (ns : List Str) : GoodG (nodesG ns) := by
  refine snoc_ind (P := fun ns => GoodG (nodesG ns)) goodG_nil ?_ ns
  intro l x ih
  show GoodG (nodesG (l ++ [x]))
  rw [nodesG_snoc]
  exact goodG_addN ih
theorem nodesG_names {ns : List Str} (h : ns.Nodup) : names (nodesG ns) = ns := by
  revert h
  refine snoc_ind (P := fun ns => ns.Nodup → names (nodesG ns) = ns) (by simp [nodesG]) ?_ ns
  intro l x ih h
  have h' := List.nodup_append.1 h
  have hx : x ∉ l := fun hx => h'.2.2 x hx x (by simp) rfl
  show names (nodesG (l ++ [x])) = _
  rw [nodesG_snoc, addN, if_neg (by rw [nodesG_mem]; exact hx)]
  simp [ih h'.1]
theorem nodesG_none (ns : List Str) (a b : Str) : hasE (nodesG ns) a b = false := by
  refine snoc_ind (P := fun ns => hasE (nodesG ns) a b = false) rfl ?_ ns
  intro l x ih
  show hasE (nodesG (l ++ [x])) a b = false
  rw [nodesG_snoc, hasE_addN, ih]
theorem buildG_names (ns : List Str) (es : List Ed) : names (buildG ns es) = names (nodesG ns) := by
  refine snoc_ind (P := fun es => names (buildG ns es) = names (nodesG ns)) rfl ?_ es
  intro l x ih
  show names (buildG ns (l ++ [x])) = _
  rw [buildG_snoc, addE, names_setE]
  exact ih
theorem buildG_good (ns : List Str) (es : List Ed) : GoodG (buildG ns es) := by
  refine snoc_ind (P := fun es => GoodG (buildG ns es)) (nodesG_good ns) ?_ es
  intro l x ih
  show GoodG (buildG ns (l ++ [x]))
  rw [buildG_snoc]
  exact goodG_addE ih
theorem buildG_hasE {ns : List Str} {es : List Ed} (hin : ∀ e ∈ es, e.1 ∈ ns) (a b : Str) : hasE (buildG ns es) a b = true ↔ (a, b) ∈ es := by
  revert hin
  refine snoc_ind (P := fun es => (∀ e ∈ es, e.1 ∈ ns) → (hasE (buildG ns es) a b = true ↔ (a, b) ∈ es)) ?_ ?_ es
  · intro _
    have := nodesG_none ns a b
    simp [buildG, this]
  · intro l x ih hin
    show hasE (buildG ns (l ++ [x])) a b = true ↔ _
    rw [buildG_snoc, hasE_addE (buildG_good ns l) (by rw [buildG_names, nodesG_mem]; exact hin x (by simp)), ih (fun e he => hin e (by simp [he]))]
    simp [Prod.ext_iff]
theorem addE_len (G : Gr) (s t : Str) : (addE G s t).length = G.length := by simp [addE, setE]
theorem nodesG_len (ns : List Str) : (nodesG ns).length ≤ ns.length := by
  refine snoc_ind (P := fun ns => (nodesG ns).length ≤ ns.length) (by simp [nodesG]) ?_ ns
  intro l x ih
  show (nodesG (l ++ [x])).length ≤ _
  rw [nodesG_snoc]
  have := addN_len (nodesG l) x
  simp
  omega
theorem buildG_len (ns : List Str) (es : List Ed) : (buildG ns es).length ≤ ns.length := by
  refine snoc_ind (P := fun es => (buildG ns es).length ≤ ns.length) (nodesG_len ns) ?_ es
  intro l x ih
  show (buildG ns (l ++ [x])).length ≤ _
  rw [buildG_snoc, addE_len]
  exact ih

theorem build_calls {a b : Option Addr} {cap capb n m : Nat} {ns : List Str} {es : List Ed} (w : World) (hn : n = ns.length) (hm : m = es.length) (h : Sl encS 1 w a cap ns) (h' : Sl encE 2 w b capb es)
    (hsm : ns.length ≤ 1048576) (hin : ∀ e ∈ es, e.1 ∈ ns) :
    Calls Try.prog 41 #[.slice a n cap, .slice b m capb] w <| RetV fun v w' => ∃ g, v = .pointer (some ⟨g, 0, none⟩) ∧ GraphAt w' (fun k => w.heap.size ≤ k) g (buildG ns es) ∧ Below w.heap.size w w' := by
  subst hn
  subst hm
  have hl := h.len
  have hl' := h'.len
  have HIN := Lib.hid hin; clear hin
  go_enter Try.func41, Try.ntmps41
  go_wp2_with (go_at_call 35; refine (NewGraph_calls _).mono ?_; rintro e w1 ⟨v, rfl, g, rfl, hg0, hb0⟩)
  go_loopg [13] ns.length (fun gk i wr => ∃ k : Nat, k ≤ ns.length ∧ gk = ns.length - k ∧ i = .int .i64 k ∧ GraphAt wr (fun k => w.heap.size ≤ k) g (nodesG (ns.take k)) ∧ Below w.heap.size w wr)
  case atStart => exact ⟨0, Nat.zero_le _, by omega, rfl, by simpa [nodesG] using hg0, hb0⟩
  case round =>
    obtain ⟨k, hk, rfl, rfl, hg, hb⟩ := hrel
    have hsz := hb.size
    by_cases hlt : k < ns.length
    · obtain ⟨bb, off, rfl, h1⟩ := (h.top hb).s1 hlt
      have hlen := nodesG_len (ns.take k)
      simp only [List.length_take] at hlen
      go_wp2_with (go_at_call 36; refine (AddNode_calls _ hg (by omega)).mono ?_; rintro e w2 ⟨rfl, hg2, hf2⟩)
      go_roundg (ns.length - (k + 1))
      case measure => omega
      case rel =>
        refine ⟨k + 1, by omega, rfl, by go_num, ?_, hb.fr hf2 (Nat.le_refl _) (fun _ h => h)⟩
        rw [List.take_succ_eq_append_getElem hlt, nodesG_snoc]
        exact hg2.mono (fun k hk => by rcases hk with hk | hk <;> omega)
    · have hk' : k = ns.length := by omega
      subst hk'
      rw [List.take_length] at hg
      go_wp2
      go_loopg [23] es.length (fun gk i wr => ∃ k : Nat, k ≤ es.length ∧ gk = es.length - k ∧ i = .int .i64 k ∧ GraphAt wr (fun k => w.heap.size ≤ k) g (buildG ns (es.take k)) ∧ Below w.heap.size w wr)
      case atStart => exact ⟨0, Nat.zero_le _, by omega, rfl, by simpa [buildG] using hg, hb⟩
      case round =>
        obtain ⟨k, hk, rfl, rfl, hg, hb⟩ := hrel
        have hsz := hb.size
        by_cases hlt : k < es.length
        · obtain ⟨bb, off, rfl, hbl, h1, h2⟩ := (h'.top hb).e2 hlt
          have hg1 := hg.alloc (.cells #[.string es[k].1, .string es[k].2] 59)
          have hmem : es[k].1 ∈ names (buildG ns (es.take k)) := by rw [buildG_names, nodesG_mem]; exact HIN.out _ (List.getElem_mem hlt)
          have HMEM := Lib.hid hmem; clear hmem
          go_wp2_with (go_at_call 37; refine (addEdge_calls _ _ hg1 HMEM.out).mono ?_; rintro e w2 ⟨rfl, hg2, hf2⟩)
          go_roundg (es.length - (k + 1))
          case measure => omega
          case rel =>
            refine ⟨k + 1, by omega, rfl, by go_num, ?_, (hb.alloc hsz _).fr hf2 (Nat.le_refl _) (fun _ h => h)⟩
            rw [List.take_succ_eq_append_getElem hlt, buildG_snoc]
            exact hg2
        · have hk' : k = es.length := by omega
          subst hk'
          rw [List.take_length] at hg
          go_wp2
          go_ret
          exact ⟨_, rfl, g, rfl, hg, hb⟩

theorem edgesFrom_calls {a b : Option Addr} {cap capb n m : Nat} {ns : List Str} {es : List Ed} (s : Str) (w : World) (hn : n = ns.length) (hm : m = es.length) (h : Sl encS 1 w a cap ns) (h' : Sl encE 2 w b capb es)
    (hg : Good ns es) (hs : s ∈ ns) :
    Calls Try.prog 22 #[.slice a n cap, .slice b m capb, .string s] w <| RetSl fun a' n' cap' w' => n' = (ends (buildG ns es) s).length ∧ Sl encS 1 w' a' cap' (ends (buildG ns es) s) ∧ Below w.heap.size w w' := by
  have hb := build_calls w hn hm h h' (by have := hg.2.2.2.1; omega) (fun e he => (hg.2.2.1 e he).1)
  have hlen := buildG_len ns es
  have h1 : s ∈ names (buildG ns es) := by rw [buildG_names, nodesG_mem]; exact hs
  have h2 : ∀ a b, hasE (buildG ns es) a b = true → b ∈ names (buildG ns es) := fun a b he => by
    rw [buildG_names, nodesG_mem]
    exact (hg.2.2.1 _ ((buildG_hasE (fun e he => (hg.2.2.1 e he).1) a b).1 he)).2
  have h3 : (buildG ns es).length ≤ 1048576 := by have := hg.2.2.2.1; omega
  clear hg hlen
  have HB := Lib.hid hb; clear hb
  have H1 := Lib.hid h1; clear h1
  have H2 := Lib.hid h2; clear h2
  have H3 := Lib.hid h3; clear h3
  clear hn hm
  go_enter Try.func22, Try.ntmps22
  go_wp2_with (first
    | (go_at_call 41; refine (HB.out).mono ?_; rintro e w1 ⟨v, rfl, g, rfl, hgr, hb1⟩)
    | (go_at_call 42; refine (edges_calls _ hgr H1.out H2.out H3.out).mono ?_; rintro e w2 ⟨a', n', cap', rfl, rfl, hsl, hb2⟩))
  go_ret
  exact ⟨_, _, _, rfl, rfl, hsl, hb1.top hb2 (Nat.le_refl _)⟩
end Go.Proofs.Ythajiimohbjjhaa
