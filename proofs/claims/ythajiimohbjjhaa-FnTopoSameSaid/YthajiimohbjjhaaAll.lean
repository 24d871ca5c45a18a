/- impl.all: the edges of a graph as a list. -/
import Derived.Test.YthajiimohbjjhaaBuild
import Derived.Test.YthajiimohbjjhaaSpecD
namespace Go.Proofs.Ythajiimohbjjhaa
open Go.RowKit

theorem infoI : (Try.prog.info? 59).map (fun i => (i.zero, i.size, i.bytes)) = some (some (.agg #[.string ByteArray.empty, .string ByteArray.empty]), 2, 32) := by kernel_rfl

def edgesOf (G : Gr) (s : Str) : List Ed := (ends G s).map fun t => (s, t)
def allG (G : Gr) : List Ed := (names G).flatMap (edgesOf G)
theorem mem_allG {G : Gr} (e : Ed) : e ∈ allG G ↔ hasE G e.1 e.2 = true ∧ e.2 ∈ names G := by
  unfold allG edgesOf ends
  simp only [List.mem_flatMap, List.mem_map, List.mem_filter]
  constructor
  · rintro ⟨s, ⟨p, hp, rfl⟩, t, ⟨⟨q, hq, rfl⟩, he⟩, rfl⟩
    exact ⟨he, q, hq, rfl⟩
  · rintro ⟨he, q, hq, hqe⟩
    obtain ⟨p, hp, e1⟩ := List.mem_map.1 (hasE_names he)
    exact ⟨e.1, ⟨p, hp, e1⟩, e.2, ⟨⟨q, hq, hqe⟩, he⟩, rfl⟩
theorem nodup_flat {α : Type} (f : Str → List α) (key : α → Str) (hk : ∀ s x, x ∈ f s → key x = s) (hf : ∀ s, (f s).Nodup) : ∀ (l : List Str), l.Nodup → (l.flatMap f).Nodup
  | [], _ => by simp
  | s :: r, h => by
    have hs := List.nodup_cons.1 h
    rw [List.flatMap_cons, List.nodup_append]
    refine ⟨hf s, nodup_flat f key hk hf r hs.2, fun a ha b hb e => ?_⟩
    subst e
    obtain ⟨t, ht, hat⟩ := List.mem_flatMap.1 hb
    have := (hk _ _ ha).symm.trans (hk _ _ hat)
    subst this
    exact hs.1 ht
theorem nodup_allG {G : Gr} (h : (names G).Nodup) : (allG G).Nodup := by
  refine nodup_flat _ Prod.fst ?_ ?_ _ h
  · intro s x hx
    obtain ⟨t, _, rfl⟩ := List.mem_map.1 hx
    rfl
  · intro s
    have h1 : (ends G s).Nodup := h.sublist List.filter_sublist
    exact (List.pairwise_map).2 (h1.imp fun hne e => hne (by simpa using e))
theorem flat_le {α : Type} (f : Str → List α) (B : Nat) (hf : ∀ s, (f s).length ≤ B) : ∀ (l : List Str), (l.flatMap f).length ≤ l.length * B
  | [] => by simp
  | s :: r => by
    have := flat_le f B hf r
    have := hf s
    rw [List.flatMap_cons, List.length_append, List.length_cons, Nat.add_mul]
    omega
theorem allG_len (G : Gr) : (allG G).length ≤ G.length * G.length := by
  have := flat_le (edgesOf G) G.length (fun s => by
    unfold edgesOf ends
    have := List.length_filter_le (fun t => hasE G s t) (names G)
    simpa using this) (names G)
  simpa [allG] using this
theorem flat_take {α : Type} (f : Str → List α) (l : List Str) (k : Nat) (hk : k < l.length) : (l.take (k + 1)).flatMap f = (l.take k).flatMap f ++ f l[k] := by
  rw [List.take_succ_eq_append_getElem hk, List.flatMap_append]
  simp
theorem flat_take_le {α : Type} (f : Str → List α) (l : List Str) (k : Nat) : ((l.take k).flatMap f).length ≤ (l.flatMap f).length := by
  have : l.flatMap f = (l.take k).flatMap f ++ (l.drop k).flatMap f := by rw [← List.flatMap_append, List.take_append_drop]
  rw [this, List.length_append]
  omega

theorem all_calls {w : World} {F : Nat → Prop} {g : Nat} {G : Gr} (h : GraphAt w F g G) (hcl : ∀ a b, hasE G a b = true → b ∈ names G) (hsm : G.length ≤ 10000) :
    Calls Try.prog 47 #[.pointer (some ⟨g, 0, none⟩)] w <| RetSl fun a n cap w' => n = (allG G).length ∧ Own encE 2 w' w.heap.size 59 a cap (allG G) ∧ Below w.heap.size w w' := by
  have hall : (allG G).length ≤ 100000000 := Nat.le_trans (allG_len G) (Nat.mul_le_mul hsm hsm)
  have hG := h
  obtain ⟨na, nc, mb, me, rs, h⟩ := h
  have hsl := h.nodes.sl encS_len
  have hc0 : (w.alloc (.cells #[] 59)).cell? ⟨g, 0, none⟩ = some (.slice na G.length nc) := ((Fr.alloc NoB w _).cell h.lt (fun e => e)).trans h.cell0
  have hEd := fun (W : World) (s : Str) (hb : Below w.heap.size w W) (hs : s ∈ names G) => edges_new_calls s (hG.top hb) hs hcl (by omega)
  have hdef : (names G).flatMap (edgesOf G) = allG G := rfl
  have hNl : G.length = (names G).length := by simp
  rw [hNl] at hc0
  have hel : ∀ s, (edgesOf G s).length = (ends G s).length := fun s => by simp [edgesOf]
  have hem : ∀ s j (hj : j < (ends G s).length), (edgesOf G s).take (j + 1) = (edgesOf G s).take j ++ [(s, (ends G s)[j])] := fun s j hj => by
    unfold edgesOf
    rw [← List.map_take, ← List.map_take, List.take_succ_eq_append_getElem hj, List.map_append]
    rfl
  clear h hNl hsm hG
  have HEDG := Lib.hid hEd; clear hEd
  have HDEF := Lib.hid hdef; clear hdef
  have HEL := Lib.hid hel; clear hel
  have HEM := Lib.hid hem; clear hem
  generalize hns : names G = ns at *
  generalize edgesOf G = f at *
  generalize allG G = A at *
  have hnl := hsl.len
  clear hcl hns
  go_enter Try.func47, Try.ntmps47
  go_wp2
  go_loopg [14, 3] ns.length (fun gk i v wr => ∃ (k : Nat) (m : List Ed) (a' : Option Addr) (cap' : Nat), k ≤ ns.length ∧ gk = ns.length - k ∧ i = .int .i64 k ∧ v = .slice a' m.length cap' ∧ Hid (m = (ns.take k).flatMap f) ∧
    Own encE 2 wr w.heap.size 59 a' cap' m ∧ Below w.heap.size w wr)
  case atStart => exact ⟨0, [], _, _, Nat.zero_le _, by omega, rfl, rfl, Lib.hid (by simp), Own.made encE 2 w _ _ (Nat.le_refl _), (Below.refl _ _).alloc (Nat.le_refl _) _⟩
  case round =>
    obtain ⟨k, m, a', cap', hk, rfl, rfl, rfl, Hm, hown, hb⟩ := hrel
    have hsz := hb.size
    by_cases hlt : k < ns.length
    · obtain ⟨bb, off, hna, h1⟩ := (hsl.top hb).s1 hlt
      have hs : ns[k] ∈ ns := List.getElem_mem hlt
      have hq := HEDG.out wr ns[k] hb hs
      have hft := flat_take f ns k hlt
      have hfl := flat_take_le f ns (k + 1)
      rw [HDEF.out, hft, ← Hm.out, List.length_append, HEL.out] at hfl
      rw [← Hm.out] at hft
      have HFT := Lib.hid hft; clear hft
      clear hs
      have hel := HEL.out ns[k]
      have hem := HEM.out ns[k]
      generalize f ns[k] = fk at *
      generalize ends G ns[k] = L at *
      generalize ns[k] = s at *
      have HEL2 := Lib.hid hel; clear hel
      have HEM2 := Lib.hid hem; clear hem
      subst hna
      have HQ := Lib.hid hq; clear hq
      go_wp2_with (go_at_call 42; refine (HQ.out).mono ?_; rintro e w2 ⟨ea, en, ec, rfl, rfl, hes, hb2, hnew⟩)
      have hown2 := hown.top hb2
      have hbw2 := hb.top hb2 (Nat.le_refl _)
      have hel2 := hes.len
      go_loopg [22, 3] L.length (fun gk i v wq => ∃ (j : Nat) (m2 : List Ed) (a' : Option Addr) (cap' : Nat), j ≤ L.length ∧ gk = L.length - j ∧ i = .int .i64 j ∧ v = .slice a' m2.length cap' ∧ Hid (m2 = m ++ fk.take j) ∧
        Own encE 2 wq w.heap.size 59 a' cap' m2 ∧ Below w.heap.size w wq ∧ Sl encS 1 wq ea ec L ∧ (∀ k, blk a' = some k → ¬ blk ea = some k))
      case atStart => exact ⟨0, m, _, _, Nat.zero_le _, by omega, rfl, rfl, Lib.hid (by simp), hown2, hbw2, hes, fun k h1 h2 => by have := (hown.lt k h1).2; have := hnew k h2; omega⟩
      case round =>
        obtain ⟨j, m2, a2, cap2, hj, rfl, rfl, rfl, Hm2, hownj, hbj, hesj, hsep⟩ := hrel
        have hm2l : m2.length ≤ m.length + j := by rw [Hm2.out]; simp; omega
        have hszj := hbj.size
        by_cases hjl : j < L.length
        · obtain ⟨lb, loff, hea, g1⟩ := hesj.s1 hjl
          have hlb := World.block_lt_of_cell? _ _ g1
          have HLB := Lib.hid hlb; clear hlb
          have hem := HEM2.out j hjl
          have HEM3 := Lib.hid hem; clear hem
          generalize L[j] = t at *
          subst hea
          go_wp2_with (at_builtin; refine wpList_append_new encE 2 encE_len encE_one _ _ rfl _ _ 33 rfl 59 _ 32 Try.underlying33 infoI rfl (by omega) w.heap.size a2 cap2 m2 _ rfl rfl hownj (s, t) _ _ (by simp) rfl (by omega) (by omega) (by omega) ?_; intro a3 cap3 w3 hown3 hf3 hk3)
          go_roundg (L.length - (j + 1))
          case measure => omega
          case rel =>
            refine ⟨j + 1, m2 ++ [(s, t)], a3, cap3, by omega, rfl, by go_num, by simp, Lib.hid (by rw [HEM3.out, Hm2.out, List.append_assoc]), hown3, hbj.fr hf3 (Nat.le_refl _) (fun b hb => (hownj.lt b hb).1), hesj.fr hf3 (fun b off e h1 => hsep b h1 (by rw [e]; rfl)), fun k h1 h2 => ?_⟩
            rcases hk3 k h1 with h3 | h3
            · exact hsep k h3 h2
            · have := HLB.out
              simp [blk] at h2
              try simp at this
              omega
        · have hmm : m2 = (ns.take (k + 1)).flatMap f := by rw [Hm2.out, HFT.out, List.take_of_length_le (by rw [HEL2.out]; omega)]
          clear Hm2
          go_wp2
          go_roundg (ns.length - (k + 1))
          case measure => omega
          case rel => exact ⟨k + 1, m2, a2, cap2, by omega, rfl, by go_num, rfl, Lib.hid hmm, hownj, hbj⟩
    · have hmm : m = A := by rw [Hm.out, List.take_of_length_le (by omega), HDEF.out]
      clear Hm
      go_wp2
      go_ret
      exact ⟨_, _, _, rfl, by rw [hmm], by rw [← hmm]; exact hown, hb⟩
end Go.Proofs.Ythajiimohbjjhaa
