/- SameNodes, sorted, Circle: what each call computes; the rank of a node where there is no circle. -/
import Derived.Test.YthajiimohbjjhaaClosed
namespace Go.Proofs.Ythajiimohbjjhaa
open Go.RowKit

theorem has_yes {a : Option Addr} {cap n : Nat} {l : List Str} (s : Str) (w : World) (hn : n = l.length) (h : Sl encS 1 w a cap l) (hs : s ∈ l) :
    Calls Try.prog 21 #[.slice a n cap, .string s] w fun e w' => e = .returned (.bool true) ∧ w = w' :=
  (has_calls s w hn h).mono fun e w' hh => ⟨by rw [hh.1]; simpa using hs, hh.2⟩
theorem has_no {a : Option Addr} {cap n : Nat} {l : List Str} (s : Str) (w : World) (hn : n = l.length) (h : Sl encS 1 w a cap l) (hs : s ∉ l) :
    Calls Try.prog 21 #[.slice a n cap, .string s] w fun e w' => e = .returned (.bool false) ∧ w = w' :=
  (has_calls s w hn h).mono fun e w' hh => ⟨by rw [hh.1]; simpa using hs, hh.2⟩

/-- both lists the same nodes, the first each once: the call says yes -/
theorem sameNodes_calls {a b : Option Addr} {cap capb n m : Nat} {l r : List Str} (w : World) (hn : n = l.length) (hm : m = r.length) (h : Sl encS 1 w a cap l) (h' : Sl encS 1 w b capb r)
    (hnd : l.Nodup) (hset : ∀ x, x ∈ l ↔ x ∈ r) :
    Calls Try.prog 43 #[.slice a n cap, .slice b m capb] w fun e w' => e = .returned (.bool true) ∧ w = w' := by
  subst hn
  subst hm
  have hl := h.len
  have hl' := h'.len
  have hlc := h.1
  have HND := Lib.hid hnd; clear hnd
  have HSET := Lib.hid hset; clear hset
  go_enter Try.func43, Try.ntmps43
  go_wp2
  go_loopg [11] l.length (fun gk i wr => ∃ k : Nat, k ≤ l.length ∧ gk = l.length - k ∧ i = .int .i64 k ∧ w = wr)
  case atStart => exact ⟨0, Nat.zero_le _, by omega, rfl, rfl⟩
  case round =>
    obtain ⟨k, hk, rfl, rfl, rfl⟩ := hrel
    by_cases hlt : k < l.length
    · obtain ⟨bb, off, rfl, h1⟩ := h.s1 hlt
      have hd1 : Hid (l[k] ∉ l.take k) := Lib.hid ((nodup_take_succ hlt).1 (nodup_take (k + 1) HND.out)).2
      have hd2 : Hid (l[k] ∈ r) := Lib.hid ((HSET.out _).1 (List.getElem_mem hlt))
      generalize l[k] = x at *
      go_wp2_with (first
        | (go_at_call 21; have tok2 := tok1; refine (has_yes _ _ rfl h' hd2.out).mono ?_; rintro e w' ⟨rfl, rfl⟩)
        | (go_at_call 21; refine (has_no _ _ (by simp; omega) (h.take k) hd1.out).mono ?_; rintro e w' ⟨rfl, rfl⟩; have tok1 := Lib.hid trivial))
      go_roundg (l.length - (k + 1))
      case measure => omega
      case rel => exact ⟨k + 1, by omega, rfl, by go_num, rfl⟩
    · go_wp2
      go_loopg [30] r.length (fun gk i wr => ∃ k : Nat, k ≤ r.length ∧ gk = r.length - k ∧ i = .int .i64 k ∧ w = wr)
      case atStart => exact ⟨0, Nat.zero_le _, by omega, rfl, rfl⟩
      case round =>
        obtain ⟨j, hj, rfl, rfl, rfl⟩ := hrel
        by_cases hjl : j < r.length
        · obtain ⟨bb, off, rfl, h1⟩ := h'.s1 hjl
          have hd1 : Hid (r[j] ∈ l) := Lib.hid ((HSET.out _).2 (List.getElem_mem hjl))
          generalize r[j] = x at *
          go_wp2_with (go_at_call 21; refine (has_yes _ _ rfl h hd1.out).mono ?_; rintro e w5 ⟨rfl, rfl⟩)
          go_roundg (r.length - (j + 1))
          case measure => omega
          case rel => exact ⟨j + 1, by omega, rfl, by go_num, rfl⟩
        · go_wp2
          go_ret
          exact ⟨rfl, rfl⟩

/-- The list has the nodes, each once, and each edge leads on in it: the call says yes. -/
theorem sorted_calls {a b c : Option Addr} {cap capb capc n m p : Nat} {l ns : List Str} {es : List Ed} (w : World) (hn : n = l.length) (hm : m = ns.length) (hp : p = es.length) (h : Sl encS 1 w a cap l) (h' : Sl encS 1 w b capb ns) (h2 : Sl encE 2 w c capc es)
    (hlen : l.length = ns.length) (hnd : l.Nodup) (hset : ∀ x, x ∈ l ↔ x ∈ ns) (hon : ∀ e ∈ es, e.1 ∈ l ∧ e.2 ∈ l ∧ l.idxOf e.1 < l.idxOf e.2) :
    Calls Try.prog 25 #[.slice a n cap, .slice b m capb, .slice c p capc] w fun e w' => e = .returned (.bool true) ∧ Below w.heap.size w w' := by
  subst hn
  subst hm
  subst hp
  have hl := h.len
  have hl2 := h2.len
  have hsn := sameNodes_calls w rfl rfl h h' hnd hset
  have hb1 : (l.length : Int) = (ns.length : Int) := by omega
  have HSN := Lib.hid hsn; clear hsn
  have HON := Lib.hid hon; clear hon
  clear hnd hset
  have hlen' := Lib.hid hlen
  rw [← hlen] at HSN
  clear hlen
  rw [← hlen'.out]
  clear hb1
  go_enter Try.func25, Try.ntmps25
  go_wp2_with (go_at_call 43; refine (HSN.out).mono ?_; rintro e w5 ⟨rfl, rfl⟩)
  go_loopg [22] es.length (fun gk i wr => ∃ k : Nat, k ≤ es.length ∧ gk = es.length - k ∧ i = .int .i64 k ∧ Below w.heap.size w wr)
  case atStart => exact ⟨0, Nat.zero_le _, by omega, rfl, Below.refl _ _⟩
  case round =>
    obtain ⟨k, hk, rfl, rfl, hb⟩ := hrel
    have hsz := hb.size
    by_cases hlt : k < es.length
    · obtain ⟨bb, off, rfl, hbl, g1, g2⟩ := (h2.top hb).e2 hlt
      have hns := (h.top hb).alloc (.cells #[.string es[k].1, .string es[k].2] 43)
      have hi := Lib.hid (HON.out _ (List.getElem_mem hlt))
      have hp1 := fun n => place_calls (a := a) (cap := cap) es[k].1 _ rfl (hns.drewN n) hi.out.1
      have hp2 := fun n => place_calls (a := a) (cap := cap) es[k].2 _ rfl (hns.drewN n) hi.out.2.1
      have hcmp : decide (l.idxOf es[k].2 ≤ l.idxOf es[k].1) = false := by
        have := hi.out.2.2
        simp
        omega
      have HP1 := Lib.hid hp1; clear hp1
      have HP2 := Lib.hid hp2; clear hp2
      generalize es[k] = x at *
      generalize l.idxOf x.1 = i1 at *
      generalize l.idxOf x.2 = i2 at *
      clear hi
      go_wp2
      go_quiet (first
        | (go_at_call_of 44 (Value.string x.1); exact quiet_same (HP1.out _))
        | (go_at_call_of 44 (Value.string x.2); exact quiet_same (HP2.out _)))
      go_wp2
      go_roundg (es.length - (k + 1))
      case measure => omega
      case rel => exact ⟨k + 1, by omega, rfl, by go_num, (hb.alloc hsz _).fr (Fr.drewN NoB _ _) (Nat.le_refl _) (fun _ hs => hs.elim)⟩
    · go_wp2
      go_ret
      exact ⟨rfl, hb⟩

theorem circle_calls {a b : Option Addr} {cap capb n m : Nat} {ns : List Str} {es : List Ed} (w : World) (hn : n = ns.length) (hm : m = es.length) (h : Sl encS 1 w a cap ns) (h' : Sl encE 2 w b capb es)
    (hnd : ns.Nodup) (hsm : ns.length ≤ 20) (hin : ∀ e ∈ es, e.1 ∈ ns ∧ e.2 ∈ ns) :
    Calls Try.prog 24 #[.slice a n cap, .slice b m capb] w <| RetB fun r w' => (r = false → ∀ s, clo ns es s s = false) ∧ Below w.heap.size w w' := by
  have hc := closed_calls w hn hm h h' hnd hsm hin
  have hmem := fun (e : Ed) => mem_closedL (e := e) hin
  have hll : (closedL ns es).length ≤ 400 := by
    have h1 : (closedL ns es).length ≤ (pairs ns).length := List.length_filter_le _ _
    have h2 := flat_le' (fun a => ns.map fun b => (a, b)) ns.length (fun s => by simp) ns
    have h3 : ns.length * ns.length ≤ 20 * 20 := Nat.mul_le_mul hsm hsm
    unfold pairs at h1
    omega
  have HC := Lib.hid hc; clear hc
  have HMEM := Lib.hid hmem; clear hmem
  generalize closedL ns es = L at *
  clear hn hm h h' hnd hin
  go_enter Try.func24, Try.ntmps24
  go_wp2_with (go_at_call 30; refine (HC.out).mono ?_; rintro e w1 ⟨a1, n1, c1, rfl, rfl, hown, hb1⟩)
  have hs1 := hown.sl encE_len
  clear hown
  go_loopg [11] L.length (fun gk i wr => ∃ k : Nat, k ≤ L.length ∧ gk = L.length - k ∧ i = .int .i64 k ∧ Hid (∀ e ∈ L.take k, e.1 ≠ e.2) ∧ Below w1.heap.size w1 wr)
  case atStart => exact ⟨0, Nat.zero_le _, by omega, rfl, Lib.hid (by simp), Below.refl _ _⟩
  case round =>
    obtain ⟨k, hk, rfl, rfl, HN, hb⟩ := hrel
    have hsz := hb.size
    by_cases hlt : k < L.length
    · obtain ⟨bb, off, rfl, hbl, g1, g2⟩ := (hs1.top hb).e2 hlt
      by_cases he : L[k].1 = L[k].2
      · have ht : (L[k].1.toList == L[k].2.toList) = true := by rw [tl_beq]; simpa using he
        clear he
        go_wp2
        go_ret
        exact ⟨_, rfl, by simp, hb1.top (hb.alloc hsz _) (Nat.le_refl _)⟩
      · have ht : (L[k].1.toList == L[k].2.toList) = false := by rw [tl_beq]; simpa using he
        have HK : Hid (∀ e ∈ L.take (k + 1), e.1 ≠ e.2) := Lib.hid (fun e hh => by
          rcases (mem_take_succ hlt).1 hh with hh | rfl
          · exact HN.out e hh
          · exact he)
        clear he
        go_wp2
        go_roundg (L.length - (k + 1))
        case measure => omega
        case rel => exact ⟨k + 1, by omega, rfl, by go_num, HK, hb.alloc hsz _⟩
    · have HK : Hid (∀ s, clo ns es s s = false) := Lib.hid (fun s => by
        have h1 := HN.out
        rw [List.take_of_length_le (by omega)] at h1
        cases hcc : clo ns es s s with
        | false => rfl
        | true => exact absurd rfl (h1 (s, s) ((HMEM.out (s, s)).2 hcc)))
      clear HN
      go_wp2
      go_ret
      exact ⟨_, rfl, fun _ => HK.out, hb1.top hb (Nat.le_refl _)⟩

/-! ### the rank of a node -/
theorem filter_lt {α : Type} (p q : α → Bool) : ∀ (l : List α), (∀ x ∈ l, p x = true → q x = true) → (∃ y ∈ l, q y = true ∧ p y = false) → (l.filter p).length < (l.filter q).length
  | [], _, h => by obtain ⟨y, hy, _⟩ := h; simp at hy
  | x :: r, hs, h => by
    have hle : (r.filter p).length ≤ (r.filter q).length := by
      have : ∀ (r : List α), (∀ x ∈ r, p x = true → q x = true) → (r.filter p).length ≤ (r.filter q).length := by
        intro r
        induction r with
        | nil => intro _; simp
        | cons y t ih =>
          intro hs
          have h1 := ih (fun z hz => hs z (List.mem_cons_of_mem _ hz))
          have h2 := hs y (by simp)
          by_cases hp : p y = true
          · simp [hp, h2 hp]; omega
          · by_cases hq : q y = true <;> simp [hp, hq] <;> omega
      exact this r (fun z hz => hs z (List.mem_cons_of_mem _ hz))
    obtain ⟨y, hy, hq, hp⟩ := h
    have hx := hs x (by simp)
    rcases List.mem_cons.1 hy with rfl | hy
    · simp [hp, hq]; omega
    · have ih := filter_lt p q r (fun z hz => hs z (List.mem_cons_of_mem _ hz)) ⟨y, hy, hq, hp⟩
      by_cases hpx : p x = true
      · simp [hpx, hx hpx]; omega
      · by_cases hqx : q x = true <;> simp [hpx, hqx] <;> omega
def rank (ns : List Str) (es : List Ed) (x : Str) : Nat := (ns.filter fun y => clo ns es x y).length
theorem rank_le (ns : List Str) (es : List Ed) (x : Str) : rank ns es x < ns.length + 1 := by
  have := List.length_filter_le (fun y => clo ns es x y) ns
  unfold rank
  omega
theorem rank_lt {ns : List Str} {es : List Ed} (hin : ∀ e ∈ es, e.1 ∈ ns ∧ e.2 ∈ ns) (hno : ∀ s, clo ns es s s = false) {a b : Str} (h : (a, b) ∈ es) : rank ns es b < rank ns es a := by
  refine filter_lt _ _ ns (fun x _ hx => clo_trans hin (clo_mono h) hx) ⟨b, (hin _ h).2, clo_mono h, hno b⟩
end Go.Proofs.Ythajiimohbjjhaa
