/- Edges of a graph: the ends of a node's edges, in the order of the nodes. -/
import Derived.Test.YthajiimohbjjhaaSort
import Derived.Test.YthajiimohbjjhaaRange
import Derived.Test.YthajiimohbjjhaaGraphLaw
import Derived.Deep.LoopGhost
namespace Go.Proofs.Ythajiimohbjjhaa
open Go.RowKit Go.Sort

def ix (ns : List Str) (x : Str) : Int := if x ∈ ns then (ns.idxOf x : Nat) else 0
theorem ix_at {ns : List Str} (h : ns.Nodup) {i : Nat} (hi : i < ns.length) : ix ns ns[i] = (i : Int) := by
  unfold ix
  rw [if_pos (List.getElem_mem hi), h.idxOf_getElem i hi]
theorem GRep.lookIx {w : World} {F : Nat → Prop} {g : Nat} {G : Gr} {na : Option Addr} {nc mb me : Nat} {rs : List Nat} (h : GRep w F g G na nc mb me rs) (x : Str) :
    (aget x (idxOf (names G))).getD (.int .i64 0) = .int .i64 (ix (names G) x) := by
  by_cases hx : x ∈ names G
  · obtain ⟨i, hi, rfl⟩ := names_at hx
    rw [h.lookI i hi]
    have := ix_at h.nodup (i := i) (by simpa using hi)
    simp only [List.getElem_map] at this
    rw [this]
    rfl
  · rw [h.lookI_none x hx, ix, if_neg hx]
    rfl

theorem fr_sortWorld (enc : Str → Value) (w : World) (b off m : Nat) (d : Array Str) (os : Array Obj) : Fr (fun k => k = b) w (sortWorld enc w b off m d os) := by
  refine ⟨rfl, rfl, rfl, ?_, fun k hk hn => ?_⟩
  · show w.heap.size ≤ ((w.heap.modify b (onCells (putCells enc off d))) ++ os).size
    simp
  · show ((w.heap.modify b (onCells (putCells enc off d))) ++ os)[k]? = w.heap[k]?
    rw [Array.getElem?_append_left (by simpa using hk), Array.getElem?_modify, if_neg (fun e => hn e.symm)]

theorem closure_calls {W : World} {F : Nat → Prop} {g c0 : Nat} {G : Gr} (x y : Str) (h : GraphAt W F g G) (hc : W.cell? ⟨c0, 0, none⟩ = some (.pointer (some ⟨g, 0, none⟩))) :
    Calls Try.prog 52 #[.string x, .string y, .pointer (some ⟨c0, 0, none⟩)] W fun e w' => e = .returned (.int .i64 (Lib.compareInt (ix (names G) x) (ix (names G) y))) ∧ ∃ q, w' = W.drewN q := by
  obtain ⟨na, nc, mb, me, rs, h⟩ := h
  have hc1 := h.cell1
  have hl1 : ∀ n, (Instr.lookup 68 (.map (some mb)) (.string x) false).run Try.prog (W.drewN n) = .ok (.int .i64 (ix (names G) x)) (W.drewN n) := fun n => by
    rw [(h.idx.drewN n).look Try.underlying68 Try.underlying9 (zeroI _) x, h.lookIx]
  have hl2 : ∀ n, (Instr.lookup 68 (.map (some mb)) (.string y) false).run Try.prog (W.drewN n) = .ok (.int .i64 (ix (names G) y)) (W.drewN n) := fun n => by
    rw [(h.idx.drewN n).look Try.underlying68 Try.underlying9 (zeroI _) y, h.lookIx]
  have hcmp := fun (W : World) => AnyG.cmp_Compare_int Try.cmpL (ix (names G) x) (ix (names G) y) W
  clear h
  generalize ix (names G) x = i at *
  generalize ix (names G) y = j at *
  generalize Lib.compareInt i j = r at *
  have HC := Lib.hid hcmp
  clear hcmp
  go_enter Try.func52, Try.ntmps52
  go_wp2
  go_quiet ((go_at_call 53; exact Calls.quiet_of_same (HC.out _)))
  go_wp2
  go_ret
  exact ⟨rfl, _, rfl⟩

/-- the ends of a node's edges, in the order of the nodes -/
def ends (G : Gr) (s : Str) : List Str := (names G).filter fun t => hasE G s t

theorem ix_inj {ns : List Str} (h : ns.Nodup) {x y : Str} (hx : x ∈ ns) (hy : y ∈ ns) (e : ix ns x = ix ns y) : x = y := by
  obtain ⟨i, hi, rfl⟩ := List.mem_iff_getElem.1 hx
  obtain ⟨j, hj, rfl⟩ := List.mem_iff_getElem.1 hy
  rw [ix_at h hi, ix_at h hj] at e
  have : i = j := by omega
  subst this
  rfl
theorem ix_sorted : ∀ {ns : List Str}, ns.Nodup → ns.Pairwise (fun a b => ix ns a ≤ ix ns b) := by
  intro ns h
  rw [List.pairwise_iff_getElem]
  intro i j hi hj hij
  rw [ix_at h hi, ix_at h hj]
  omega
theorem ltIx (ns : List Str) (x y : Str) : ltOf (fun x y => Lib.compareInt (ix ns x) (ix ns y)) x y = decide (ix ns x < ix ns y) := by
  unfold ltOf Lib.compareInt
  by_cases h1 : ix ns x < ix ns y
  · simp [h1]
  · by_cases h2 : ix ns y < ix ns x <;> simp [h1, h2]
theorem swoIx (ns : List Str) : SWO (ltOf (fun x y => Lib.compareInt (ix ns x) (ix ns y))) where
  irrefl x := by rw [ltIx]; simp
  trans x y z h1 h2 := by rw [ltIx] at *; simp at *; omega
  ntrans x y z h1 h2 := by rw [ltIx] at *; simp at *; omega

theorem perm_of_mem : ∀ {l1 l2 : List Str}, l1.Nodup → l2.Nodup → (∀ x, x ∈ l1 ↔ x ∈ l2) → l1.Perm l2
  | [], l2, _, _, h => by
    have : l2 = [] := by
      cases l2 with
      | nil => rfl
      | cons y r => exact absurd ((h y).2 (by simp)) (by simp)
    rw [this]
  | x :: r, l2, h1, h2, h => by
    have hx : x ∈ l2 := (h x).1 (by simp)
    have hn := List.nodup_cons.1 h1
    refine (List.Perm.cons x (perm_of_mem hn.2 (h2.erase x) fun y => ?_)).trans (List.perm_cons_erase hx).symm
    rw [h2.mem_erase_iff]
    constructor
    · intro hy
      exact ⟨fun e => hn.1 (e ▸ hy), (h y).1 (List.mem_cons_of_mem _ hy)⟩
    · rintro ⟨hne, hy⟩
      rcases List.mem_cons.1 ((h y).2 hy) with e | hy
      · exact absurd e hne
      · exact hy

theorem ends_perm {G : Gr} (hG : GoodG G) {s : Str} (hcl : ∀ a b, hasE G a b = true → b ∈ names G) {i : Nat} (hi : i < G.length) (his : G[i].1 = s) : (ends G s).Perm G[i].2 := by
  refine perm_of_mem (hG.1.sublist List.filter_sublist) (hG.2 _ (List.getElem_mem hi)) fun x => ?_
  unfold ends
  rw [List.mem_filter, ← his]
  have := hasE_at hG.1 i hi x
  rw [this]
  constructor
  · rintro ⟨_, h⟩; simpa using h
  · intro h
    refine ⟨hcl G[i].1 x (by rw [this]; simpa using h), by simpa using h⟩

/-- What the sort leaves is the ends in order. -/
theorem sorted_ends {G : Gr} (hG : GoodG G) {s : Str} (hcl : ∀ a b, hasE G a b = true → b ∈ names G) {i : Nat} (hi : i < G.length) (his : G[i].1 = s) {d : Array Str} {d' : Array Str} (hd : d.toList.Perm G[i].2)
    (hp : PermIn 0 d.size d d') (hs : SortedIn (ltOf (fun x y => Lib.compareInt (ix (names G) x) (ix (names G) y))) 0 d.size d') : d'.toList = ends G s := by
  have hperm : d'.toList.Perm d.toList := by
    have h1 := hp.2.2
    have h2 : d'.extract 0 d.size = d' := by rw [← hp.1]; simp
    have h3 : d.extract 0 d.size = d := by simp
    rwa [h2, h3] at h1
  have hends : (ends G s).Perm G[i].2 := by
    exact ends_perm hG hcl hi his
  have hall := hperm.trans (hd.trans hends.symm)
  refine List.Perm.eq_of_pairwise (le := fun a b => ix (names G) a ≤ ix (names G) b) ?_ ?_ ?_ hall
  · intro a b ha hb h1 h2
    have ha' : a ∈ names G := (List.mem_filter.1 (hall.mem_iff.1 ha)).1
    have hb' : b ∈ names G := (List.mem_filter.1 hb).1
    exact ix_inj hG.1 ha' hb' (by omega)
  · rw [List.pairwise_iff_getElem]
    intro j k hj hk hjk
    have hsz : d'.size = d.size := hp.1
    have h1 := hs j k (Nat.zero_le _) hjk (by rw [← hsz]; simpa using hk)
    rw [ltIx] at h1
    have e1 : d'[j]! = d'.toList[j] := by simp [getElem!_pos, show j < d'.size from by simpa using hj]
    have e2 : d'[k]! = d'.toList[k] := by simp [getElem!_pos, show k < d'.size from by simpa using hk]
    rw [e1, e2] at h1
    simpa using h1
  · exact (ix_sorted hG.1).sublist List.filter_sublist

theorem make16 (w : World) : (Instr.makeSlice 32 (.int .i64 0) (.int .i64 16)).run Try.prog w = .ok (.slice (some ⟨w.heap.size, 0, none⟩) 0 16) (w.alloc (.cells (Array.replicate 16 (.string ByteArray.empty)) 9)) := by kernel_rfl

theorem GraphAt.good {w : World} {F : Nat → Prop} {g : Nat} {G : Gr} (h : GraphAt w F g G) : GoodG G := by
  obtain ⟨na, nc, mb, me, rs, h⟩ := h
  refine ⟨h.nodup, fun p hp => ?_⟩
  obtain ⟨i, hi, rfl⟩ := List.mem_iff_getElem.1 hp
  have := (h.sets i (by rw [h.len]; exact hi) hi).nodup
  rwa [setOf_keys] at this

/-- the library's sort at a row of the call's own, by the closure of Edges -/
theorem sort_calls {w : World} {F : Nat → Prop} {g c0 gb cap B : Nat} {G : Gr} {m : List Str} (hG : GraphAt w F g G) (hF : ∀ k, F k → ¬ k = gb) (hc : w.cell? ⟨c0, 0, none⟩ = some (.pointer (some ⟨g, 0, none⟩))) (hcg : ¬ c0 = gb)
    (hown : Own encS 1 w B 9 (some ⟨gb, 0, none⟩) cap m) (hlen : m.length ≤ 1048576) :
    Calls Try.prog 51 #[.slice (some ⟨gb, 0, none⟩) m.length cap, .func (.func 52) #[] #[.pointer (some ⟨c0, 0, none⟩)]] w fun e w' => e = .returned (.tuple #[]) ∧
      ∃ d' : Array Str, PermIn 0 m.toArray.size m.toArray d' ∧ SortedIn (ltOf (fun x y => Lib.compareInt (ix (names G) x) (ix (names G) y))) 0 m.toArray.size d' ∧ Sl encS 1 w' (some ⟨gb, 0, none⟩) cap d'.toList ∧ Fr (fun k => k = gb) w w' := by
  have hsl := hown.sl encS_len
  have hgl : gb < w.heap.size := (hown.lt gb rfl).2
  have hH : Holds Value.string w gb 0 m.toArray := by
    intro j hj
    have hj' : j < m.length := by simpa using hj
    obtain ⟨b, off, e, hcell⟩ := hsl.s1 hj'
    simp only [Option.some.injEq, Addr.mk.injEq] at e
    obtain ⟨rfl, rfl, _⟩ := e
    refine ⟨?_, ?_⟩
    · rw [hcell]; simp [getElem!_pos, hj']
    · rw [Nat.zero_add]; exact World.ownsRow.frozenAt hown j
  have eg : ∀ args w, (callFunc 52 args).run Try.prog w = .ok (.enter 52 args) w := enters_of Try.func52 (by kernel_rfl) rfl
  have hcmp : CmpReads Try.prog 52 #[.pointer (some ⟨c0, 0, none⟩)] Value.string (fun x y => Lib.compareInt (ix (names G) x) (ix (names G) y)) gb 0 m.toArray.size w := by
    intro n os dk _ x y
    have hf := fr_sortWorld Value.string w gb 0 n dk os
    exact closure_calls x y (hG.keep hf hF) ((hf.cell (World.block_lt_of_cell? w _ hc) hcg).trans hc)
  have hcon := Any.slices_SortFunc Try.sortL Value.string (fun _ => rfl) _ (swoIx (names G)) 52 #[.pointer (some ⟨c0, 0, none⟩)] gb 0 cap m.toArray w eg hcmp.lays hH hgl (by simp; omega)
  have h2 : Calls Try.prog 51 #[.slice (some ⟨gb, 0, none⟩) m.toArray.size cap, .func (.func 52) #[] #[.pointer (some ⟨c0, 0, none⟩)]] w _ := hcon
  rw [List.size_toArray] at h2
  refine h2.mono ?_
  rintro e w' ⟨rfl, d', n, os, hp, hs, rfl⟩
  have hsz : d'.size = m.toArray.size := by have := hp.1; simpa using this
  refine ⟨rfl, d', by simpa using hp, by simpa using hs, ?_, fr_sortWorld _ _ _ _ _ _ _⟩
  have hf := fr_sortWorld Value.string w gb 0 n d' os
  have hH2 : Holds Value.string (sortWorld Value.string w gb 0 n d' os) gb 0 d' :=
    holds_grow Value.string _ os gb 0 d' (by show gb < (w.heap.modify gb _).size; simpa using hgl) (holds_putRow Value.string (Sort.ahead w n) gb 0 m.toArray d' hH hsz)
  refine ⟨?_, hsl.2.1, fun hpos => ⟨gb, 0, rfl, Nat.lt_of_lt_of_le hgl hf.size, fun k hk j u hu => ?_⟩⟩
  · have := hsl.1; simp at hsz; simp; omega
  · have hj : j = 0 := by
      have := (List.getElem?_eq_some_iff.1 hu).1
      simpa using this
    subst hj
    have hu' : u = .string d'.toList[k] := by simpa using hu.symm
    have := (hH2 k (by simpa using hk)).1
    rw [hu']
    simp only [Nat.mul_one, Nat.add_zero]
    rw [this]
    simp [getElem!_pos, show k < d'.size from by simpa using hk]

theorem edges_new_calls {w : World} {F : Nat → Prop} {g : Nat} {G : Gr} (s : Str) (h : GraphAt w F g G) (hs : s ∈ names G) (hcl : ∀ a b, hasE G a b = true → b ∈ names G) (hsm : G.length ≤ 1048576) :
    Calls Try.prog 42 #[.pointer (some ⟨g, 0, none⟩), .string s] w <| RetSl fun a n cap w' => n = (ends G s).length ∧ Sl encS 1 w' a cap (ends G s) ∧ Below w.heap.size w w' ∧ (∀ k, blk a = some k → w.heap.size ≤ k) := by
  have hgood := h.good
  have hG0 := h
  obtain ⟨na, nc, mb, me, rs, h⟩ := h
  obtain ⟨i, hi, rfl⟩ := names_at hs
  have hi' : i < rs.length := by rw [h.len]; exact hi
  have hmk := make16
  have hc2 : ((w.alloc (.cells #[.pointer (some ⟨g, 0, none⟩)] 54)).alloc (.cells (Array.replicate 16 (.string ByteArray.empty)) 9)).cell? ⟨g, 2, none⟩ = some (.map (some me)) :=
    (h.keep ((Fr.alloc NoB w _).trans (Fr.alloc NoB _ _) (fun _ _ e => e)) (fun _ _ e => e.elim)).cell2
  have hl := ((h.tbl.alloc (.cells #[.pointer (some ⟨g, 0, none⟩)] 54)).alloc (.cells (Array.replicate 16 (.string ByteArray.empty)) 9)).look Try.underlying69 Try.underlying9 (zeroM _) G[i].1
  rw [h.lookR i hi hi', Option.getD_some] at hl
  have hmap := ((h.sets i hi' hi).alloc (.cells #[.pointer (some ⟨g, 0, none⟩)] 54)).alloc (.cells (Array.replicate 16 (.string ByteArray.empty)) 9)
  go_enter Try.func42, Try.ntmps42
  go_wp2_with (at_range; refine wpList_range_s _ rfl _ 67 rfl Try.underlying67 rs[i] rfl _ hmap (w.heap.size + 1 + 1) (by simp) ?_; intro w1 hit hf1 hsz1)
  go_frame
  have hep := ends_perm hgood hcl hi rfl
  have htl : G[i].2.length ≤ 1048576 := by
    have h1 := hep.length_eq
    have h2 := List.length_filter_le (fun t => hasE G G[i].1 t) (names G)
    unfold ends at h1
    rw [List.length_map] at h2
    omega
  have hcl1 := hf1.below_top
  have hbW : Below (w.heap.size + 1) (w.alloc (.cells #[.pointer (some ⟨g, 0, none⟩)] 54)) w1 :=
    ((Below.refl _ _).alloc (by simp) _).top hcl1 (by simp)
  have hown0 : Own encS 1 w1 (w.heap.size + 1) 9 (some ⟨w.heap.size + 1, 0, none⟩) 16 [] := by
    have := World.ownsRow_made (base := w.heap.size + 1) (e := 9) (size := 1) (w.alloc (.cells #[.pointer (some ⟨g, 0, none⟩)] 54)) (Array.replicate 16 (.string ByteArray.empty)) 16 (by simp) (by simp [maxLen]) (by simp)
    simp only [World.size_alloc] at this
    exact Own.fr (enc := encS) (l := []) this hf1 (fun _ _ e => e.elim)
  generalize hT : G[i].2 = tos at *
  have HT := Lib.hid hT; clear hT
  have HEP := Lib.hid hep; clear hep
  clear hl hc2 hmap hmk
  go_loopg [5] tos.length (fun gk v wr => ∃ (m : List Str) (left : AL) (gb cap' : Nat), v = .slice (some ⟨gb, 0, none⟩) m.length cap' ∧ gk = left.length ∧ Hid ((m ++ left.map (·.1)).Perm tos) ∧ Iter wr (w.heap.size + 1 + 1) rs[i] (setOf tos) left ∧
    Own encS 1 wr (w.heap.size + 1) 9 (some ⟨gb, 0, none⟩) cap' m ∧ Below (w.heap.size + 1) (w.alloc (.cells #[.pointer (some ⟨g, 0, none⟩)] 54)) wr)
  case atStart =>
    refine ⟨[], setOf tos, _, _, rfl, by simp, Lib.hid (by rw [setOf_keys]; simp), hit, hown0, hbW⟩
  case round =>
    obtain ⟨m, left, gb, cap', rfl, rfl, HP, hit, hown, hb⟩ := hrel
    have hml : m.length + left.length ≤ 1048576 := by have := HP.out.length_eq; simp at this; omega
    have hsz := hb.size
    simp only [World.size_alloc] at hsz
    obtain ⟨cur, hcur⟩ := hown.cells (k := gb) rfl
    have hne1 : gb ≠ w.heap.size + 1 + 1 := hit.ne_cells hcur
    have hne2 : gb ≠ rs[i] := hit.map.ne_cells hcur
    have HN1 := Lib.hid hne1; clear hne1
    have HN2 := Lib.hid hne2; clear hne2
    clear hcur
    go_wp2_with (first
      | (at_next; refine wpList_next_s _ rfl _ rfl _ rs[i] rfl _ left hit ?_ ?_)
      | (at_builtin; fail))
    · intro hle
      have hmp : m.Perm tos := by have := HP.out; rw [hle] at this; simpa using this
      clear hle
      have HMP := Lib.hid hmp; clear hmp
      have hbw : Below w.heap.size w wr := ((Below.refl _ _).alloc (Nat.le_refl _) _).trans (hb.mono (by omega))
      have hGr : GraphAt wr (fun k => F k ∧ k < w.heap.size) g G := (hG0.bound).top hbw
      have hgbl := (hown.lt gb rfl).1
      have hc0 : wr.cell? ⟨w.heap.size, 0, none⟩ = some (.pointer (some ⟨g, 0, none⟩)) := by
        rw [hb.cell (p := ⟨w.heap.size, 0, none⟩) (by simp), cell_of_row _ _ _ _ _ _ (heap_alloc_new w _)]
        rfl
      have hsort := sort_calls hGr (fun k hk e => by have := hk.2; omega) hc0 (by omega) hown (by omega)
      have HSORT := Lib.hid hsort; clear hsort
      go_wp2_with (go_at_call 51; refine (HSORT.out).mono ?_; rintro e w5 ⟨rfl, d', hp, hs, hsl5, hf5⟩)
      go_ret
      have hd : d'.toList = ends G G[i].1 := sorted_ends hgood hcl hi rfl (by have := HMP.out; rw [← HT.out] at this; simpa using this) hp hs
      have hdl : d'.toList.length = m.length := by
        rw [hd]
        have h1 := HEP.out.length_eq
        have h2 := HMP.out.length_eq
        omega
      refine ⟨_, _, _, rfl, by rw [← hd]; exact hdl.symm, by rw [← hd]; exact hsl5, hbw.fr hf5 (Nat.le_refl _) (fun b e => by omega), fun k hk => by simp [blk] at hk; omega⟩
    · intro x v l1 l2 w2 HL HM hit2 hf2 hent
      have hv : v = .bool true := by
        obtain ⟨t, _, _, ht⟩ := HM.out
        exact ht.symm
      have HV := Lib.hid hv
      clear hv
      have hown2 := hown.fr hf2 (fun k hk e => HN1.out (by simp [blk] at hk; omega))
      have hsz2 := hf2.size
      have hb2 : Below (w.heap.size + 1) (w.alloc (.cells #[.pointer (some ⟨g, 0, none⟩)] 54)) w2 := hb.fr hf2 (by simp) (fun b e => by omega)
      go_wp2_with (at_builtin; refine wpList_append_new encS 1 encS_len encS_one _ _ rfl _ _ 32 rfl 9 _ 16 Try.underlying32 infoS rfl (by omega) (w.heap.size + 1) (some ⟨gb, 0, none⟩) cap' m _ rfl rfl hown2 x _ _ rfl rfl (by omega) (by omega) (by omega) ?_; intro a3 cap3 w3 hown3 hf3 hk3)
      go_roundg (l1 ++ l2).length
      case measure => rw [HL.out]; simp
      case rel =>
        have hsh : ∃ g3, a3 = some ⟨g3, 0, none⟩ := by
          rcases hown3.2 with ⟨hv, hn⟩ | ⟨g3, c3, cur, hv, _⟩
          · simp at hn
          · simp only [Value.slice.injEq] at hv
            exact ⟨g3, hv.1⟩
        obtain ⟨g3, rfl⟩ := hsh
        have hne2 : ∀ k, blk (some (⟨gb, 0, none⟩ : Addr)) = some k → k = gb := fun k hk => by simpa [blk] using hk.symm
        refine ⟨m ++ [x], l1 ++ l2, g3, cap3, by simp, rfl, Lib.hid ?_, hit2.fr hf3 (fun e => HN1.out (hne2 _ e).symm) (fun e => HN2.out (hne2 _ e).symm), hown3, hb2.fr hf3 (by simp) (fun b e => by have := hne2 b e; have := (hown.lt gb rfl).1; omega)⟩
        have := HP.out
        rw [HL.out] at this
        refine (List.Perm.trans ?_ this)
        simp only [List.map_append, List.map_cons, List.append_assoc, List.singleton_append]
        exact List.Perm.append_left m List.perm_middle.symm
theorem edges_calls {w : World} {F : Nat → Prop} {g : Nat} {G : Gr} (s : Str) (h : GraphAt w F g G) (hs : s ∈ names G) (hcl : ∀ a b, hasE G a b = true → b ∈ names G) (hsm : G.length ≤ 1048576) :
    Calls Try.prog 42 #[.pointer (some ⟨g, 0, none⟩), .string s] w <| RetSl fun a n cap w' => n = (ends G s).length ∧ Sl encS 1 w' a cap (ends G s) ∧ Below w.heap.size w w' :=
  (edges_new_calls s h hs hcl hsm).mono fun _ _ ⟨a, n, c, e, h1, h2, h3, _⟩ => ⟨a, n, c, e, h1, h2, h3⟩
end Go.Proofs.Ythajiimohbjjhaa
