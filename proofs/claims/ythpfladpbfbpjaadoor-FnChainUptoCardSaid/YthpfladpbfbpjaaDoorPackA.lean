/- Words and plain laws of this seat: frames, slices, maps, graphs, tokens, rules; the reference's small functions. -/
import Derived.WalkKit
import Derived.WalkLawsBesides
import Derived.WalkSpells
import Derived.Maps.RangeRun
import Derived.Deep.QuietTactic
import Derived.BigQuiet
import Derived.Lib.Hide
import Derived.Maps.AppendAt
import Derived.Deep.AppendLies
import Derived.Deep.RegionWith
import Derived.StillTailTactics
import Derived.Maps.Own
import Derived.Test.YthpfladpbfbpjaaDoorProg
import Derived.Maps.RangeWalk
import Derived.Maps.OwnOps
import Derived.Deep.LoopGhost
import Derived.Deep.RegionHeld3
import Derived.IntWalk
/- Words and laws over any program, used by all walks of this seat: frames, slices that read as lists, rows of the call's own, maps with string keys. -/
namespace Go.Proofs.YthpfladpbfbpjaaDoor
open Go.RowKit

abbrev Str := ByteArray
abbrev maxI : Nat := 9223372036854775807

theorem tl_iff {a b : Str} : a.toList = b.toList ↔ a = b := by
  rw [ByteArray.toList_eq, ByteArray.toList_eq]
  constructor
  · intro h
    apply ByteArray.ext
    exact Array.toList_inj.1 h
  · intro h; rw [h]
theorem tl_beq (a b : Str) : (a.toList == b.toList) = decide (a = b) := by
  rw [Bool.eq_iff_iff]; simp [tl_iff]
theorem str_beq (a b : Str) : (a == b) = decide (a = b) := by
  rw [Bool.eq_iff_iff]
  constructor
  · intro h
    have h1 : (a.data == b.data) = true := h
    have : a.data = b.data := by simpa using h1
    simp [ByteArray.ext this]
  · intro h
    have : a = b := by simpa using h
    subst this
    show (a.data == a.data) = true
    simp

instance : LawfulBEq ByteArray where
  eq_of_beq {a b} h := by rw [str_beq] at h; simpa using h
  rfl {a} := by rw [str_beq]; simp

theorem nodup_inj {α : Type} : ∀ {l : List α}, l.Nodup → ∀ {i j : Nat} (hi : i < l.length) (hj : j < l.length), l[i] = l[j] → i = j
  | [], _, _, _, hi, _, _ => absurd hi (by simp)
  | x :: r, h, 0, 0, _, _, _ => rfl
  | x :: r, h, 0, j + 1, _, hj, e => by
    exfalso
    apply (List.nodup_cons.1 h).1
    simp only [List.getElem_cons_zero, List.getElem_cons_succ] at e
    rw [e]
    exact List.getElem_mem _
  | x :: r, h, i + 1, 0, hi, _, e => by
    exfalso
    apply (List.nodup_cons.1 h).1
    simp only [List.getElem_cons_zero, List.getElem_cons_succ] at e
    rw [← e]
    exact List.getElem_mem _
  | x :: r, h, i + 1, j + 1, hi, hj, e => by
    have := nodup_inj (List.nodup_cons.1 h).2 (by simpa using hi) (by simpa using hj) (by simpa using e)
    omega

theorem snoc_ind {α : Type} {P : List α → Prop} (h0 : P []) (h1 : ∀ l x, P l → P (l ++ [x])) (l : List α) : P l := by
  have : ∀ n (l : List α), l.length = n → P l := by
    intro n
    induction n with
    | zero => intro l hl; rw [List.eq_nil_of_length_eq_zero hl]; exact h0
    | succ n ih =>
      intro l hl
      have hne : l ≠ [] := by intro e; subst e; simp at hl
      rw [← List.dropLast_concat_getLast hne]
      exact h1 _ _ (ih _ (by simp [hl]))
  exact this _ l rfl

/-! ### frames -/
structure Fr (S : Nat → Prop) (w w' : World) : Prop where
  os : w'.os = w.os
  tape : w'.tape = w.tape
  output : w'.output = w.output
  size : w.heap.size ≤ w'.heap.size
  block : ∀ k, k < w.heap.size → ¬ S k → w'.heap[k]? = w.heap[k]?
def NoB : Nat → Prop := fun _ => False
section
variable {S T : Nat → Prop} {w w1 w2 : World} {B : Nat}
theorem Fr.refl (S : Nat → Prop) (w : World) : Fr S w w := ⟨rfl, rfl, rfl, Nat.le_refl _, fun _ _ _ => rfl⟩
theorem Fr.trans (h : Fr S w w1) (k : Fr T w1 w2) (hT : ∀ b, b < w.heap.size → T b → S b) : Fr S w w2 :=
  ⟨k.os.trans h.os, k.tape.trans h.tape, k.output.trans h.output, Nat.le_trans h.size k.size,
    fun b hb hn => (k.block b (Nat.lt_of_lt_of_le hb h.size) (fun ht => hn (hT b hb ht))).trans (h.block b hb hn)⟩
theorem Fr.mono (h : Fr S w w1) (hS : ∀ b, b < w.heap.size → S b → T b) : Fr T w w1 :=
  ⟨h.os, h.tape, h.output, h.size, fun b hb hn => h.block b hb (fun hs => hn (hS b hb hs))⟩
theorem Fr.alloc (S : Nat → Prop) (w : World) (o : Obj) : Fr S w (w.alloc o) := ⟨rfl, rfl, rfl, by simp, fun b hb _ => Below.heap_alloc w o b hb⟩
theorem Fr.drew (S : Nat → Prop) (w : World) : Fr S w w.drew := ⟨rfl, rfl, rfl, Nat.le_refl _, fun _ _ _ => rfl⟩
theorem Fr.drewN (S : Nat → Prop) (w : World) (n : Nat) : Fr S w (w.drewN n) := ⟨rfl, rfl, rfl, Nat.le_refl _, fun _ _ _ => rfl⟩
theorem Fr.setCell (w : World) (p : Addr) (u : Value) (hS : S p.block) : Fr S w (w.setCell p u) :=
  ⟨rfl, rfl, rfl, by simp [World.setCell], fun b _ hn => Below.heap_setCell w p u b (fun e => hn (e ▸ hS))⟩
theorem Fr.of_below (h : Below B w w1) : Fr (fun b => B ≤ b) w w1 := ⟨h.os, h.tape, h.output, h.size, fun b _ hn => h.block b (by omega)⟩
theorem Fr.of_below_top (h : Below w.heap.size w w1) (S : Nat → Prop) : Fr S w w1 := ⟨h.os, h.tape, h.output, h.size, fun b hb _ => h.block b hb⟩
theorem Fr.of_grown {row : Option Nat} (h : w.grownBy w1 row) : Fr (fun b => row = some b) w w1 := ⟨h.os, h.tape, h.output, h.size, fun b hb hn => h.block b hb (fun e => hn e.symm)⟩
theorem Fr.below (h : Fr S w w1) (hB : B ≤ w.heap.size) (hS : ∀ b, S b → B ≤ b) : Below B w w1 :=
  ⟨h.os, h.tape, h.output, h.size, fun b hb => h.block b (by omega) (fun hs => by have := hS b hs; omega)⟩
theorem Fr.below_top (h : Fr NoB w w1) : Below w.heap.size w w1 := h.below (Nat.le_refl _) (fun _ hs => hs.elim)
theorem Fr.cell (h : Fr S w w1) {a : Addr} (ha : a.block < w.heap.size) (hn : ¬ S a.block) : w1.cell? a = w.cell? a := World.cell?_of_block (h.block _ ha hn)
end
theorem _root_.Go.RowKit.Below.fr {B : Nat} {w0 w w' : World} {S : Nat → Prop} (h : Below B w0 w) (f : Fr S w w') (hB : B ≤ w0.heap.size) (hS : ∀ b, S b → B ≤ b) : Below B w0 w' :=
  h.trans (f.below (Nat.le_trans hB h.size) hS)
theorem _root_.Go.RowKit.Below.top {B : Nat} {w0 w w' : World} (h : Below B w0 w) (k : Below w.heap.size w w') (hB : B ≤ w0.heap.size) : Below B w0 w' :=
  h.trans (k.mono (Nat.le_trans hB h.size))

/-! ### posts, behind names (else the walk's simp takes them apart) -/
def RetB (Q : Bool → World → Prop) (e : Ending) (w' : World) : Prop := ∃ b, e = .returned (.bool b) ∧ Q b w'
def RetV (Q : Value → World → Prop) (e : Ending) (w' : World) : Prop := ∃ v, e = .returned v ∧ Q v w'
def RetSl (Q : Option Addr → Nat → Nat → World → Prop) (e : Ending) (w' : World) : Prop := ∃ a n cap, e = .returned (.slice a n cap) ∧ Q a n cap w'

/-! ### a slice that reads as a list -/
/-- The slice value '.slice a l.length cap' holds the elements of l, each as the cells 'enc x', 'size' of them. -/
def Sl {α : Type} (enc : α → List Value) (size : Nat) (w : World) (a : Option Addr) (cap : Nat) (l : List α) : Prop :=
  l.length ≤ cap ∧ cap ≤ maxI ∧ (0 < l.length → ∃ b off, a = some ⟨b, off, none⟩ ∧ b < w.heap.size ∧
    ∀ k (h : k < l.length) j u, (enc l[k])[j]? = some u → w.cell? ⟨b, off + k * size + j, none⟩ = some u)
section
variable {α : Type} {enc : α → List Value} {size : Nat} {w w' : World} {a : Option Addr} {cap : Nat} {l : List α} {B : Nat}
theorem Sl.len (h : Sl enc size w a cap l) : l.length ≤ 9223372036854775807 := Nat.le_trans h.1 h.2.1
theorem Sl.keep (h : Sl enc size w a cap l) (hs : w.heap.size ≤ w'.heap.size) (hk : ∀ b, b < w.heap.size → w'.heap[b]? = w.heap[b]?) : Sl enc size w' a cap l :=
  ⟨h.1, h.2.1, fun hp => by
    obtain ⟨b, off, e, hb, hc⟩ := h.2.2 hp
    exact ⟨b, off, e, Nat.lt_of_lt_of_le hb hs, fun k hlt j u hu => (World.cell?_of_block (hk b hb)).trans (hc k hlt j u hu)⟩⟩
theorem Sl.below (h : Sl enc size w a cap l) (hb : Below B w w') (hB : w.heap.size ≤ B) : Sl enc size w' a cap l :=
  h.keep hb.size fun b hlt => hb.block b (by omega)
theorem Sl.top (h : Sl enc size w a cap l) (hb : Below w.heap.size w w') : Sl enc size w' a cap l := h.below hb (Nat.le_refl _)
/-- Kept where the one block that it lies in is kept. -/
theorem Sl.fr {S : Nat → Prop} (h : Sl enc size w a cap l) (f : Fr S w w') (hn : ∀ b off, a = some ⟨b, off, none⟩ → ¬ S b) : Sl enc size w' a cap l :=
  ⟨h.1, h.2.1, fun hp => by
    obtain ⟨b, off, e, hb, hc⟩ := h.2.2 hp
    exact ⟨b, off, e, Nat.lt_of_lt_of_le hb f.size, fun k hlt j u hu => (World.cell?_of_block (f.block b hb (hn b off e))).trans (hc k hlt j u hu)⟩⟩
theorem Sl.drew (h : Sl enc size w a cap l) : Sl enc size w.drew a cap l := h
theorem Sl.drewN (h : Sl enc size w a cap l) (n : Nat) : Sl enc size (w.drewN n) a cap l := h
theorem Sl.alloc (h : Sl enc size w a cap l) (o : Obj) : Sl enc size (w.alloc o) a cap l := h.keep (by simp) fun b hb => Below.heap_alloc w o b hb
theorem Sl.take (h : Sl enc size w a cap l) (k : Nat) : Sl enc size w a cap (l.take k) :=
  ⟨by have := h.1; simp; omega, h.2.1, fun hp => by
    obtain ⟨b, off, e, hb, hc⟩ := h.2.2 (by simp at hp; omega)
    exact ⟨b, off, e, hb, fun i hi j u hu => hc i (by simp at hi; omega) j u (by simpa using hu)⟩⟩
theorem Sl.nil_ : Sl enc size w none 0 [] := ⟨by simp, by simp, fun h => by simp at h⟩
end
/-- 'x[lo:hi]': the address that the walk writes. -/
theorem add_some (b off n : Nat) : (⟨b, off, none⟩ : Addr).add n = ⟨b, off + n, none⟩ := by unfold Addr.add; split <;> simp_all

abbrev encS : Str → List Value := fun s => [.string s]
abbrev encB : Bool → List Value := fun b => [.bool b]
abbrev Ed := Str × Str
abbrev encE : Ed → List Value := fun e => [.string e.1, .string e.2]
abbrev St := Int × Str × Str
abbrev encT : St → List Value := fun s => [.int .i64 s.1, .string s.2.1, .string s.2.2]
section
variable {w : World} {a : Option Addr} {cap k : Nat}
theorem Sl.s1 {l : List Str} (h : Sl encS 1 w a cap l) (hk : k < l.length) : ∃ b off, a = some ⟨b, off, none⟩ ∧ w.cell? ⟨b, off + k, none⟩ = some (.string l[k]) := by
  obtain ⟨b, off, e, _, hc⟩ := h.2.2 (by omega)
  exact ⟨b, off, e, by simpa using hc k hk 0 _ rfl⟩
theorem Sl.b1 {l : List Bool} (h : Sl encB 1 w a cap l) (hk : k < l.length) : ∃ b off, a = some ⟨b, off, none⟩ ∧ w.cell? ⟨b, off + k, none⟩ = some (.bool l[k]) := by
  obtain ⟨b, off, e, _, hc⟩ := h.2.2 (by omega)
  exact ⟨b, off, e, by simpa using hc k hk 0 _ rfl⟩
theorem Sl.e2 {l : List Ed} (h : Sl encE 2 w a cap l) (hk : k < l.length) : ∃ b off, a = some ⟨b, off, none⟩ ∧ b < w.heap.size ∧
    w.cell? ⟨b, off + k * 2, none⟩ = some (.string l[k].1) ∧ w.cell? ⟨b, off + k * 2 + 1, none⟩ = some (.string l[k].2) := by
  obtain ⟨b, off, e, hb, hc⟩ := h.2.2 (by omega)
  exact ⟨b, off, e, hb, by simpa using hc k hk 0 _ rfl, by simpa using hc k hk 1 _ rfl⟩
theorem Sl.t3 {l : List St} (h : Sl encT 3 w a cap l) (hk : k < l.length) : ∃ b off, a = some ⟨b, off, none⟩ ∧ b < w.heap.size ∧
    w.cell? ⟨b, off + k * 3, none⟩ = some (.int .i64 l[k].1) ∧ w.cell? ⟨b, off + k * 3 + 1, none⟩ = some (.string l[k].2.1) ∧ w.cell? ⟨b, off + k * 3 + 2, none⟩ = some (.string l[k].2.2) := by
  obtain ⟨b, off, e, hb, hc⟩ := h.2.2 (by omega)
  exact ⟨b, off, e, hb, by simpa using hc k hk 0 _ rfl, by simpa using hc k hk 1 _ rfl, by simpa using hc k hk 2 _ rfl⟩
end

/-! ### a row of the call's own -/
def Own {α : Type} (enc : α → List Value) (size : Nat) (w : World) (B : Nat) (e : TypeId) (a : Option Addr) (cap : Nat) (l : List α) : Prop :=
  w.ownsRow B e size (.slice a l.length cap) l.length (l.flatMap enc)
def blk (a : Option Addr) : Option Nat := a.map (·.block)
theorem ownBlock_slice (a : Option Addr) (n c : Nat) : (Value.slice a n c).ownBlock = blk a := by cases a <;> rfl
theorem flat_get {α : Type} (enc : α → List Value) (size : Nat) (hlen : ∀ x, (enc x).length = size) : ∀ (l : List α) (k : Nat) (h : k < l.length) (j : Nat) (u : Value), (enc l[k])[j]? = some u → (l.flatMap enc)[k * size + j]? = some u
  | x :: r, 0, _, j, u, hu => by
    have hj : j < (enc x).length := by
      have := List.getElem?_eq_some_iff.1 hu
      exact this.1
    simp only [List.getElem_cons_zero] at hu
    rw [List.flatMap_cons, Nat.zero_mul, Nat.zero_add, List.getElem?_append_left hj]
    exact hu
  | x :: r, k + 1, h, j, u, hu => by
    have := flat_get enc size hlen r k (by simpa using h) j u (by simpa using hu)
    rw [List.flatMap_cons, List.getElem?_append_right (by rw [hlen, Nat.add_mul]; omega), hlen]
    rw [show (k + 1) * size + j - size = k * size + j from by rw [Nat.add_mul]; omega]
    exact this
theorem flat_len {α : Type} (enc : α → List Value) (size : Nat) (hlen : ∀ x, (enc x).length = size) (l : List α) : (l.flatMap enc).length = l.length * size := by
  induction l with
  | nil => simp
  | cons x r ih => rw [List.flatMap_cons, List.length_append, ih, hlen, List.length_cons, Nat.add_mul]; omega
section
variable {α : Type} {enc : α → List Value} {size : Nat} {w w' : World} {B : Nat} {e : TypeId} {a : Option Addr} {cap : Nat} {l : List α}
theorem Own.sl (h : Own enc size w B e a cap l) (hlen : ∀ x, (enc x).length = size) : Sl enc size w a cap l := by
  have hcap : l.length ≤ cap ∧ cap ≤ maxI := by
    rcases h.2 with ⟨hv, hn⟩ | ⟨g, cap', cur, hv, _, _, h1, h2, _⟩
    · simp only [Value.slice.injEq] at hv
      obtain ⟨_, _, rfl⟩ := hv
      simp [hn]
    · simp only [Value.slice.injEq] at hv
      obtain ⟨_, _, rfl⟩ := hv
      exact ⟨h1, by simpa [maxLen] using h2⟩
  refine ⟨hcap.1, hcap.2, fun hp => ?_⟩
  rcases h.2 with ⟨hv, hn⟩ | ⟨g, cap', cur, hv, _, hg, _⟩
  · omega
  · simp only [Value.slice.injEq] at hv
    obtain ⟨rfl, _, rfl⟩ := hv
    refine ⟨g, 0, rfl, (Array.getElem?_eq_some_iff.1 hg).1, fun k hk j u hu => ?_⟩
    have := World.ownsRow.cells h (g := g) rfl (k * size + j) u (flat_get enc size hlen l k hk j u hu)
    rw [add_some] at this
    simpa [Nat.add_assoc] using this
theorem Own.lt (h : Own enc size w B e a cap l) : ∀ k, blk a = some k → B ≤ k ∧ k < w.heap.size := by
  intro k hk
  exact World.ownsRow.lt h k (by rw [ownBlock_slice]; exact hk)
theorem Own.fr {S : Nat → Prop} (h : Own enc size w B e a cap l) (f : Fr S w w') (hn : ∀ k, blk a = some k → ¬ S k) : Own enc size w' B e a cap l := by
  refine ⟨h.1, ?_⟩
  rcases h.2 with hv | ⟨g, cap', cur, hv, hb, hg, rest⟩
  · exact .inl hv
  · refine .inr ⟨g, cap', cur, hv, hb, ?_, rest⟩
    have hlt := (Array.getElem?_eq_some_iff.1 hg).1
    have : blk a = some g := by simp only [Value.slice.injEq] at hv; rw [hv.1]; rfl
    rw [f.block g hlt (hn g this)]
    exact hg
theorem Own.alloc (h : Own enc size w B e a cap l) (o : Obj) : Own enc size (w.alloc o) B e a cap l := h.fr (Fr.alloc NoB w o) (fun _ _ hs => hs.elim)
theorem Own.drew (h : Own enc size w B e a cap l) : Own enc size w.drew B e a cap l := h
theorem Own.drewN (h : Own enc size w B e a cap l) (n : Nat) : Own enc size (w.drewN n) B e a cap l := h
theorem Own.top (h : Own enc size w B e a cap l) (hb : Below w.heap.size w w') : Own enc size w' B e a cap l := h.fr (Fr.of_below_top hb NoB) (fun _ _ hs => hs.elim)
theorem Own.nil_ (w : World) (B : Nat) (e : TypeId) : Own enc size w B e none 0 [] := World.ownsRow_nil w B e size
theorem Own.mono {B' : Nat} (h : Own enc size w B e a cap l) (hB : B' ≤ B) : Own enc size w B' e a cap l := by
  refine ⟨h.1, ?_⟩
  rcases h.2 with hv | ⟨g, cap', cur, hv, hb, rest⟩
  · exact .inl hv
  · exact .inr ⟨g, cap', cur, hv, Nat.le_trans hB hb, rest⟩
/-- two rows of unlike element types lie in unlike blocks -/
theorem Own.sep {β : Type} {enc' : β → List Value} {size' : Nat} {B' : Nat} {e' : TypeId} {a' : Option Addr} {cap' : Nat} {l' : List β}
    (h : Own enc size w B e a cap l) (h' : Own enc' size' w B' e' a' cap' l') (hne : e ≠ e') : ∀ k, blk a = some k → ¬ blk a' = some k := by
  intro k hk hk'
  have f : ∀ {γ : Type} {enc : γ → List Value} {size : Nat} {B : Nat} {e : TypeId} {a : Option Addr} {cap : Nat} {l : List γ}, Own enc size w B e a cap l → blk a = some k → ∃ cur, w.heap[k]? = some (.cells cur e (0, 0)) := by
    intro γ enc size B e a cap l h hk
    rcases h.2 with ⟨hv, _⟩ | ⟨g, cap', cur, hv, _, hg, _⟩
    · simp only [Value.slice.injEq] at hv; rw [hv.1] at hk; simp [blk] at hk
    · simp only [Value.slice.injEq] at hv
      rw [hv.1] at hk
      simp only [blk, Option.map_some, Option.some.injEq] at hk
      subst hk
      exact ⟨cur, hg⟩
  obtain ⟨c1, h1⟩ := f h hk
  obtain ⟨c2, h2⟩ := f h' hk'
  rw [h1] at h2
  injection h2 with h2
  injection h2 with _ h3
  exact hne h3
end
/-- A literal's new row: 'T{..}'. -/
theorem Own.lit {α : Type} (enc : α → List Value) (size : Nat) (hlen : ∀ x, (enc x).length = size) (w : World) (e : TypeId) (l : List α) (B : Nat) (hB : B ≤ w.heap.size) (hl : l.length ≤ maxI) :
    Own enc size (w.alloc (.cells (l.flatMap enc).toArray e)) B e (some ⟨w.heap.size, 0, none⟩) l.length l := by
  have := World.ownsRow_lit (base := B) (e := e) (size := size) w (l.flatMap enc).toArray l.length hB (by simpa [maxLen] using hl) (by simp only [List.size_toArray]; exact flat_len enc size hlen l)
  simpa [Own] using this
theorem Own.made {α : Type} (enc : α → List Value) (size : Nat) (w : World) (e : TypeId) (B : Nat) (hB : B ≤ w.heap.size) :
    Own enc size (w.alloc (.cells #[] e)) B e (some ⟨w.heap.size, 0, none⟩) 0 [] :=
  World.ownsRow_made w #[] 0 hB (by simp) (by simp)

theorem cells_new (w : World) (cs : List Value) (T : TypeId) : ∀ j u, cs[j]? = some u → (w.alloc (.cells cs.toArray T)).cell? ((⟨w.heap.size, 0, none⟩ : Addr).add j) = some u := by
  intro j u hu
  rw [add_some, Nat.zero_add, cell_of_row _ _ _ _ _ _ (heap_alloc_new w _)]
  simpa using hu

section
variable {P : Program}
/-- 'x = append(x, v)', x a row of the call's own, v's one-element row just laid. -/
theorem wpList_append_new {α : Type} (enc : α → List Value) (size : Nat) (hlen : ∀ x, (enc x).length = size) (hone : ∀ x u, u ∈ enc x → u.oneCell' = true)
    (w0 : World) (T0 : TypeId) {ops : Array Oper} {rest : List Oper} {o : Oper} {a : Act} {Q : Exit → Act → World → Prop} (hgd : o.guard = none) (s x : Operand) (t : TypeId)
    (ho : o.op = .call { callee := .builtin .append, args := #[s, x], argTypes := #[t, t] })
    (e : TypeId) (z : Value) (bytes : Nat) (ht : P.underlying t = some (.slice e)) (hinfo : (P.info? e).map (fun i => (i.zero, i.size, i.bytes)) = some (some z, size, bytes)) (hzs : z.cells.size = size) (hsz : 0 < size)
    (B : Nat) (sa : Option Addr) (cap : Nat) (l : List α) (n : Nat) (hn : n = l.length) (hs : a.eval s = .slice sa n cap) (hown : Own enc size w0 B e sa cap l)
    (y : α) (c nb : Nat) (hnb : w0.heap.size = nb) (hx : a.eval x = .slice (some ⟨nb, 0, none⟩) 1 c) (h63 : l.length + 1 ≤ 4611686018427387904) (hbytes : (l.length + 1) * bytes ≤ 140737488355328) (hbase : B ≤ w0.heap.size)
    (h : ∀ sa' cap' w', Own enc size w' B e sa' cap' (l ++ [y]) → Fr (fun k => blk sa = some k) w0 w' → (∀ k, blk sa' = some k → blk sa = some k ∨ w0.heap.size ≤ k) → wpList P ops Q rest (a.put o.dst (.slice sa' (n + 1) cap')) w') :
    wpList P ops Q (o :: rest) a (w0.alloc (.cells (enc y).toArray T0)) := by
  subst hn
  subst hnb
  obtain ⟨i, hi, hz0, hz1, hz2⟩ := info_parts hinfo
  refine wpList_append_own_at (w0.alloc (.cells (enc y).toArray T0)) hgd s x t ho B e i z size bytes ht hi hz0 hz1 hz2 hzs hsz (.slice sa l.length cap) l.length (l.flatMap enc) hs (hown.alloc _)
    ⟨w0.heap.size, 0, none⟩ 1 c (enc y) hx (by simpa using hlen y) (cells_new w0 (enc y) T0) (hone y) (by simp only [maxLen]; omega) hbytes (by simp; omega) ?_
  intro v' w' hown' hg _ hat
  have hsh : ∃ sa' cap', v' = .slice sa' (l.length + 1) cap' ∧ (∀ k, blk sa' = some k → blk sa = some k ∨ w0.heap.size ≤ k) := by
    rcases hown'.2 with ⟨_, hv⟩ | ⟨g, cap', cur, hv, _⟩
    · omega
    · refine ⟨_, _, hv, fun k hk => ?_⟩
      rw [hv, ownBlock_slice, ownBlock_slice] at hat
      rcases hat with hat | hat
      · left; rw [← hat]; exact hk
      · right
        rw [hat] at hk
        simp at hk
        omega
  obtain ⟨sa', cap', rfl, hk⟩ := hsh
  refine h sa' cap' w' ?_ ((Fr.alloc _ w0 _).trans (Fr.of_grown hg) ?_) hk
  · unfold Own
    rw [List.flatMap_append, List.length_append]
    simpa using hown'
  · intro b _ hb
    rw [ownBlock_slice] at hb
    exact hb
end
end Go.Proofs.YthpfladpbfbpjaaDoor

/- Maps with string keys as lists of pairs: look-up, store, delete, range; over any program. -/
namespace Go.Proofs.YthpfladpbfbpjaaDoor
open Go.RowKit Go.MapKept
open Go.ChangeMaps (setBlock)

abbrev AL := List (Str × Value)
def afind (s : Str) : AL → Nat → Option (Nat × Value)
  | [], _ => none
  | p :: r, i => if p.1 = s then some (i, p.2) else afind s r (i + 1)
def aget (s : Str) : AL → Option Value
  | [] => none
  | p :: r => if p.1 = s then some p.2 else aget s r
def aput (s : Str) (v : Value) : AL → AL
  | [] => [(s, v)]
  | p :: r => if p.1 = s then (s, v) :: r else p :: aput s v r
def adel (s : Str) : AL → AL
  | [] => []
  | p :: r => if p.1 = s then r else p :: adel s r

def Ents (es : Array MapEntry) (m : AL) : Prop := es.toList.map (fun e => (e.key, e.val)) = m.map (fun p => (Value.string p.1, p.2))
/-- Block b is a map with string keys, its entries those of m, in the order in which they were laid. -/
def SMap (w : World) (b : Nat) (m : AL) : Prop :=
  ∃ es clock, w.heap[b]? = some (.map es clock) ∧ Ents es m ∧ Stamped es clock

theorem afind_get (s : Str) : ∀ (m : AL) (i : Nat), (afind s m i).map (·.2) = aget s m
  | [], _ => rfl
  | p :: r, i => by
    unfold afind aget
    split
    · rfl
    · exact afind_get s r (i + 1)

section
variable {P : Program} {w w' : World} {b : Nat} {m : AL}

theorem SMap.lt (h : SMap w b m) : b < w.heap.size := by
  obtain ⟨es, clock, hb, _⟩ := h
  exact (Array.getElem?_eq_some_iff.1 hb).1
theorem SMap.keep (h : SMap w b m) (hk : w'.heap[b]? = w.heap[b]?) : SMap w' b m := by
  obtain ⟨es, clock, hb, r⟩ := h
  exact ⟨es, clock, hk.trans hb, r⟩
theorem SMap.fr {S : Nat → Prop} (h : SMap w b m) (f : Fr S w w') (hn : ¬ S b) : SMap w' b m := h.keep (f.block b h.lt hn)
theorem SMap.top (h : SMap w b m) (hb : Below w.heap.size w w') : SMap w' b m := h.keep (hb.block b h.lt)
theorem SMap.drew (h : SMap w b m) : SMap w.drew b m := h
theorem SMap.drewN (h : SMap w b m) (n : Nat) : SMap (w.drewN n) b m := h
theorem SMap.alloc (h : SMap w b m) (o : Obj) : SMap (w.alloc o) b m := h.keep (Below.heap_alloc w o b h.lt)
theorem SMap.made (w : World) : SMap (w.alloc (.map #[] 0)) w.heap.size [] := ⟨#[], 0, heap_alloc_new w _, rfl, stamped_empty 0⟩
theorem SMap.nodup (h : SMap w b m) : (m.map (·.1)).Nodup := by
  obtain ⟨es, clock, _, he, _, _, hk⟩ := h
  have e1 : es.toList.map (·.key) = m.map (fun p => Value.string p.1) := by
    have := congrArg (List.map Prod.fst) he
    simpa [List.map_map, Function.comp_def] using this
  rw [e1] at hk
  have : (m.map (fun p => Value.string p.1)) = (m.map (·.1)).map Value.string := by simp [List.map_map, Function.comp_def]
  rw [this] at hk
  exact List.Pairwise.imp (fun h e => h (by rw [e])) ((List.pairwise_map).1 hk)

theorem findNow_ents (s : Str) : ∀ (es : List MapEntry) (m : AL) (i : Nat), es.map (fun e => (e.key, e.val)) = m.map (fun p => (Value.string p.1, p.2)) →
    Instr.findNow .string (.string s) es i = some (afind s m i)
  | [], [], _, _ => rfl
  | [], p :: r, _, h => by simp at h
  | e :: es, [], _, h => by simp at h
  | e :: es, p :: r, i, h => by
    simp only [List.map_cons, List.cons.injEq, Prod.mk.injEq] at h
    obtain ⟨⟨hk, hv⟩, hr⟩ := h
    have ih := findNow_ents s es r (i + 1) hr
    unfold Instr.findNow afind
    rw [hk, hv]
    simp only [Instr.sameNow, str_beq]
    by_cases hps : p.1 = s
    · simp [hps]
    · have : ¬ s = p.1 := fun e => hps e.symm
      simp [hps, this, ih]

theorem run_findKey {k : TypeId} (hk : P.underlying k = some .string) {es : Array MapEntry} (he : Ents es m) (s : Str) (w : World) :
    (Instr.findKey k (.string s) es.toList).run P w = .ok (afind s m 0) w := by
  simp [Instr.findKey, run_underlying hk, findNow_ents s es.toList m 0 he]
theorem run_checkKey {k : TypeId} (hk : P.underlying k = some .string) (em : Bool) (s : Str) (w : World) : (Instr.checkKey em 10000 k (.string s)).run P w = .ok () w := by
  rw [show (10000 : Nat) = 9999 + 1 from rfl, Instr.checkKey]
  simp only [Sem.run_bind, run_underlying hk, Result.andThen_ok]
  rfl
theorem run_getMap {es : Array MapEntry} {clock : Nat} (h : w.heap[b]? = some (.map es clock)) : (getObj b).run P w = .ok (.map es clock) w := by
  simp [getObj, Sem.run, h]
theorem run_setMap {es : Array MapEntry} {clock : Nat} (h : w.heap[b]? = some (.map es clock)) (o : Obj) : (setObj b o).run P w = .ok () (setBlock w b o) := by
  simp [setObj, Sem.run, h, setBlock]

/-- 'm[s]' -/
theorem SMap.look (h : SMap w b m) {t k e : TypeId} (ht : P.underlying t = some (.map k e)) (hk : P.underlying k = some .string) {z : Value} (hz : (zeroValue e).run P w = .ok z w) (s : Str) :
    (Instr.lookup t (.map (some b)) (.string s) false).run P w = .ok ((aget s m).getD z) w := by
  obtain ⟨es, clock, hb, he, _⟩ := h
  have hg := afind_get s m 0
  unfold Instr.lookup
  simp only [Sem.run_bind, run_underlying ht, Result.andThen_ok, run_getMap hb, Sem.run_pure, run_checkKey hk, run_findKey hk he]
  cases hf : afind s m 0 with
  | none => rw [hf] at hg; simp at hg; simp [hz, ← hg]
  | some p => rw [hf] at hg; simp at hg; simp [← hg]
/-- 'v, ok := m[s]' -/
theorem SMap.look2 (h : SMap w b m) {t k e : TypeId} (ht : P.underlying t = some (.map k e)) (hk : P.underlying k = some .string) {z : Value} (hz : (zeroValue e).run P w = .ok z w) (s : Str) :
    (Instr.lookup t (.map (some b)) (.string s) true).run P w = .ok (.tuple #[(aget s m).getD z, .bool (aget s m).isSome]) w := by
  obtain ⟨es, clock, hb, he, _⟩ := h
  have hg := afind_get s m 0
  unfold Instr.lookup
  simp only [Sem.run_bind, run_underlying ht, Result.andThen_ok, run_getMap hb, Sem.run_pure, run_checkKey hk, run_findKey hk he]
  cases hf : afind s m 0 with
  | none => rw [hf] at hg; simp at hg; simp [hz, ← hg]
  | some p => rw [hf] at hg; simp at hg; simp [← hg]
/-- 'm[s]' at a nil map -/
theorem look_nil {t k e : TypeId} (ht : P.underlying t = some (.map k e)) (hk : P.underlying k = some .string) {z : Value} (w : World) (hz : (zeroValue e).run P w = .ok z w) (s : Str) :
    (Instr.lookup t (.map none) (.string s) false).run P w = .ok z w := by
  unfold Instr.lookup
  simp only [Sem.run_bind, run_underlying ht, Result.andThen_ok, Sem.run_pure, run_checkKey hk]
  simp [Instr.findKey, Instr.findNow, run_underlying hk, hz]

theorem afind_some (s : Str) : ∀ (m : AL) (i j : Nat) (v : Value), afind s m i = some (j, v) → i ≤ j ∧ (m[j - i]?).map (·.1) = some s ∧ aput s = fun v' m' => aput s v' m'
  | [], _, _, _, h => by simp [afind] at h
  | p :: r, i, j, v, h => by
    unfold afind at h
    split at h
    · rename_i hp
      simp at h
      obtain ⟨rfl, rfl⟩ := h
      simp [hp]
    · obtain ⟨h1, h2, _⟩ := afind_some s r (i + 1) j v h
      refine ⟨by omega, ?_, rfl⟩
      rw [show j - i = (j - (i + 1)) + 1 from by omega, List.getElem?_cons_succ]
      exact h2
theorem aput_none (s : Str) (v : Value) : ∀ (m : AL) (i : Nat), afind s m i = none → aput s v m = m ++ [(s, v)]
  | [], _, _ => rfl
  | p :: r, i, h => by
    unfold afind at h
    split at h
    · cases h
    · rename_i hp
      simp [aput, hp, aput_none s v r (i + 1) h]
theorem aput_some (s : Str) (v : Value) : ∀ (m : AL) (i j : Nat) (v0 : Value), afind s m i = some (j, v0) → aput s v m = m.set (j - i) (s, v)
  | [], _, _, _, h => by simp [afind] at h
  | p :: r, i, j, v0, h => by
    unfold afind at h
    split at h
    · rename_i hp
      simp at h
      obtain ⟨rfl, rfl⟩ := h
      simp [aput, hp]
    · rename_i hp
      have h1 := (afind_some s r (i + 1) j v0 h).1
      simp only [aput, hp, if_false]
      rw [aput_some s v r (i + 1) j v0 h, show j - i = (j - (i + 1)) + 1 from by omega, List.set_cons_succ]
theorem adel_some (s : Str) : ∀ (m : AL) (i j : Nat) (v0 : Value), afind s m i = some (j, v0) → adel s m = m.eraseIdx (j - i)
  | [], _, _, _, h => by simp [afind] at h
  | p :: r, i, j, v0, h => by
    unfold afind at h
    split at h
    · rename_i hp
      simp at h
      obtain ⟨rfl, rfl⟩ := h
      simp [adel, hp]
    · rename_i hp
      have h1 := (afind_some s r (i + 1) j v0 h).1
      simp only [adel, hp, if_false]
      rw [adel_some s r (i + 1) j v0 h, show j - i = (j - (i + 1)) + 1 from by omega, List.eraseIdx_cons_succ]
theorem adel_none (s : Str) : ∀ (m : AL) (i : Nat), afind s m i = none → adel s m = m
  | [], _, _ => rfl
  | p :: r, i, h => by
    unfold afind at h
    split at h
    · cases h
    · rename_i hp
      simp [adel, hp, adel_none s r (i + 1) h]

theorem map_eraseIdx {α β : Type} (f : α → β) : ∀ (l : List α) (i : Nat), (l.eraseIdx i).map f = (l.map f).eraseIdx i
  | [], _ => rfl
  | _ :: _, 0 => rfl
  | x :: l, i + 1 => by simp [map_eraseIdx f l i]
theorem Fr.setBlock {o : Obj} {es : Array MapEntry} {clock : Nat} (w : World) (hb : w.heap[b]? = some (.map es clock)) : Fr (fun k => k = b) w (setBlock w b o) :=
  ⟨rfl, rfl, rfl, by simp [Go.ChangeMaps.setBlock], fun k _ hn => ChangeMaps.heap_setBlock_other hb _ hn⟩

theorem ents_key {es : Array MapEntry} (he : Ents es m) {i : Nat} {s : Str} (h : (m[i]?).map (·.1) = some s) : ∃ x, es[i]? = some x ∧ x.key = .string s := by
  have h1 := congrArg (fun l => (l[i]?)) he
  simp only [List.getElem?_map, Array.getElem?_toList] at h1
  cases hm : m[i]? with
  | none => rw [hm] at h; simp at h
  | some p =>
    rw [hm] at h h1
    simp only [Option.map_some, Option.some.injEq] at h
    subst h
    cases hx : es[i]? with
    | none => rw [hx] at h1; simp at h1
    | some x =>
      rw [hx] at h1
      simp only [Option.map_some, Option.some.injEq, Prod.mk.injEq] at h1
      exact ⟨x, rfl, h1.1⟩
theorem ents_find_none {es : Array MapEntry} (he : Ents es m) {s : Str} {i : Nat} (h : afind s m i = none) : ∀ x ∈ es.toList, x.key ≠ .string s := by
  intro x hx hk
  have hx' : (x.key, x.val) ∈ es.toList.map (fun e => (e.key, e.val)) := List.mem_map.2 ⟨x, hx, rfl⟩
  rw [he] at hx'
  obtain ⟨p, hp, hpe⟩ := List.mem_map.1 hx'
  simp only [Prod.mk.injEq] at hpe
  have hps : p.1 = s := by
    have h := hpe.1.trans hk
    simpa using h
  have : ∀ (m : AL) (i : Nat), p ∈ m → afind s m i ≠ none := by
    intro m
    induction m with
    | nil => intro i hp; simp at hp
    | cons q r ih =>
      intro i hp
      unfold afind
      split
      · simp
      · rename_i hq
        rcases List.mem_cons.1 hp with rfl | hp
        · exact absurd hps hq
        · exact ih _ hp
  exact this m i hp h

/-- 'm[s] = v' -/
theorem SMap.store (h : SMap w b m) {t k e : TypeId} (ht : P.underlying t = some (.map k e)) (hk : P.underlying k = some .string) (s : Str) (v : Value) :
    ∃ w', (Instr.mapUpdate t (.map (some b)) (.string s) v).run P w = .ok () w' ∧ SMap w' b (aput s v m) ∧ Fr (fun k => k = b) w w' := by
  obtain ⟨es, clock, hb, he, hst⟩ := h
  unfold Instr.mapUpdate
  simp only [Sem.run_bind, run_underlying ht, Result.andThen_ok, run_getMap hb, run_checkKey hk, run_findKey hk he]
  cases hf : afind s m 0 with
  | none =>
    refine ⟨setBlock w b (.map (es.push { key := .string s, val := v, born := clock }) (clock + 1)), by simp [run_setMap hb], ⟨_, _, ChangeMaps.heap_setBlock_same hb _, ?_, stamped_push hst (ents_find_none he hf)⟩, Fr.setBlock w hb⟩
    rw [aput_none s v m 0 hf]
    unfold Ents at he ⊢
    simp [he]
  | some p =>
    obtain ⟨i, v0⟩ := p
    obtain ⟨_, hki, _⟩ := afind_some s m 0 i v0 hf
    obtain ⟨x, hx, hxk⟩ := ents_key he (i := i) (by simpa using hki)
    have hstay : (Instr.keyThatStays (((es[i]?).map (·.key)).getD (.string s)) (.string s)).run P w = .ok (.string s) w := by
      rw [hx]
      simp [Instr.keyThatStays, hxk, Instr.sameBits]
    refine ⟨setBlock w b (.map (es.modify i fun e => { e with key := .string s, val := v }) clock), by simp [hstay, run_setMap hb], ⟨_, _, ChangeMaps.heap_setBlock_same hb _, ?_, ?_⟩, Fr.setBlock w hb⟩
    · rw [aput_some s v m 0 i v0 hf, Nat.sub_zero]
      unfold Ents at he ⊢
      apply List.ext_getElem?
      intro j
      have hj := congrArg (fun l => (l[j]?)) he
      simp only [List.getElem?_map, Array.getElem?_toList, Array.getElem?_modify, List.getElem?_set] at hj ⊢
      by_cases hij : i = j
      · subst hij
        have hil : i < m.length := by
          have : (m[i]?).isSome = true := by
            cases hm : m[i]? with
            | none => rw [Nat.sub_zero, hm] at hki; simp at hki
            | some _ => rfl
          simpa using this
        simp [hx, hil]
      · simp [hij, hj]
    · exact stamped_modify hst i _ (fun _ _ => rfl) (fun e _ hei => by
        rw [hx] at hei
        injection hei with hei
        rw [← hei, hxk])
/-- 'delete(m, s)' -/
theorem SMap.drop (h : SMap w b m) {t k e : TypeId} (ht : P.underlying t = some (.map k e)) (hk : P.underlying k = some .string) (s : Str) (ty kt : TypeId) :
    ∃ w', (Builtin.delete_ #[t, kt] ty #[.map (some b), .string s]).run P w = .ok (.tuple #[]) w' ∧ SMap w' b (adel s m) ∧ Fr (fun k => k = b) w w' := by
  obtain ⟨es, clock, hb, he, hst⟩ := h
  unfold Builtin.delete_
  simp only [Sem.run_bind, Result.andThen_ok, run_underlying ht, run_getMap hb, run_checkKey hk, run_findKey hk he, List.getElem?_toArray, List.getElem?_cons_zero, List.getElem?_cons_succ]
  cases hf : afind s m 0 with
  | none =>
    refine ⟨setBlock w b (.map es clock), by simp [run_setMap hb], ⟨_, _, ChangeMaps.heap_setBlock_same hb _, ?_, hst⟩, Fr.setBlock w hb⟩
    rw [adel_none s m 0 hf]; exact he
  | some p =>
    obtain ⟨i, v0⟩ := p
    refine ⟨setBlock w b (.map (es.eraseIdxIfInBounds i) clock), by simp [run_setMap hb], ⟨_, _, ChangeMaps.heap_setBlock_same hb _, ?_, ?_⟩, Fr.setBlock w hb⟩
    · rw [adel_some s m 0 i v0 hf, Nat.sub_zero]
      unfold Ents at he ⊢
      rw [Array.toList_eraseIdxIfInBounds, map_eraseIdx, he, map_eraseIdx]
    · obtain ⟨h1, h2, h3⟩ := hst
      refine ⟨fun x hx => h1 x ?_, ?_, ?_⟩
      · rw [Array.toList_eraseIdxIfInBounds] at hx
        exact List.mem_of_mem_eraseIdx hx
      · rw [Array.toList_eraseIdxIfInBounds, map_eraseIdx]
        exact h2.sublist (List.eraseIdx_sublist _ _)
      · rw [Array.toList_eraseIdxIfInBounds, map_eraseIdx]
        exact h3.sublist (List.eraseIdx_sublist _ _)
/-- 'm[s] = v' at the operation, for the walk -/
theorem wpList_store_s {ops : Array Oper} {rest : List Oper} {o : Oper} {a : Act} {Q : Exit → Act → World → Prop} (w : World)
    (hg : o.guard = none) (mo x v : Operand) (t : TypeId) (hop : o.op = Op.mapUpdate t mo x v) {k e : TypeId} (ht : P.underlying t = some (.map k e)) (hk : P.underlying k = some .string)
    (b : Nat) (hm : a.eval mo = .map (some b)) (s : Str) (hx : a.eval x = .string s) (val : Value) (hv : a.eval v = val) (m : AL) (hs : SMap w b m)
    (h : ∀ w', SMap w' b (aput s val m) → Fr (fun k => k = b) w w' → wpList P ops Q rest (a.put o.dst undef) w') : wpList P ops Q (o :: rest) a w := by
  refine wpList_plain hg fun K' hK' => ?_
  obtain ⟨w', hrun, r1, r2⟩ := hs.store ht hk s val
  unfold Oper.wp
  simp [execOp, hop, hm, hx, hv, hrun, Result.andThen]
  exact hK' _ _ (h w' r1 r2)
/-- 'm[s]' at the operation -/
theorem wpList_look_s {ops : Array Oper} {rest : List Oper} {o : Oper} {a : Act} {Q : Exit → Act → World → Prop} (w : World)
    (hg : o.guard = none) (mo x : Operand) (t : TypeId) (hop : o.op = Op.lookup t mo x false) {k e : TypeId} (ht : P.underlying t = some (.map k e)) (hk : P.underlying k = some .string)
    {z : Value} (hz : ∀ w, (zeroValue e).run P w = .ok z w)
    (b : Nat) (hm : a.eval mo = .map (some b)) (s : Str) (hx : a.eval x = .string s) (m : AL) (hs : SMap w b m)
    (h : wpList P ops Q rest (a.put o.dst ((aget s m).getD z)) w) : wpList P ops Q (o :: rest) a w := by
  refine wpList_plain hg fun K' hK' => ?_
  have hrun := hs.look ht hk (hz w) s
  unfold Oper.wp
  simp [execOp, hop, hm, hx, hrun, Result.andThen]
  exact hK' _ _ h
end
end Go.Proofs.YthpfladpbfbpjaaDoor

/- The reference's small functions: Has, Edged: what each call computes. -/
namespace Go.Proofs.YthpfladpbfbpjaaDoor
open Go.RowKit

theorem ret_bool {a b : Bool} (h : a = b) : Ending.returned (.bool a) = .returned (.bool b) := by rw [h]
theorem mem_take_succ {α : Type} {l : List α} {k : Nat} (hk : k < l.length) {x : α} : x ∈ l.take (k + 1) ↔ x ∈ l.take k ∨ x = l[k] := by
  rw [List.take_succ_eq_append_getElem hk, List.mem_append, List.mem_singleton]

theorem has_calls {a : Option Addr} {cap n : Nat} {l : List Str} (s : Str) (w : World) (hn : n = l.length) (h : Sl encS 1 w a cap l) :
    Calls Tryd.prog 29 #[.slice a n cap, .string s] w fun e w' => e = .returned (.bool (decide (s ∈ l))) ∧ w = w' := by
  subst hn
  have hl := h.len
  go_enter Tryd.func29, Tryd.ntmps29
  go_wp2
  go_loop [9] (fun i => ∃ k : Nat, k ≤ l.length ∧ i = .int .i64 k ∧ s ∉ l.take k) (fun i => l.length - (intOf i).toNat)
  case atStart => exact ⟨0, Nat.zero_le _, rfl, by simp⟩
  case round =>
    obtain ⟨k, hk, rfl, hn⟩ := hrel
    by_cases hlt : k < l.length
    · obtain ⟨b, off, rfl, hcell⟩ := h.s1 hlt
      clear h
      have HN := Lib.hid hn
      clear hn
      by_cases hs : l[k] = s
      · have ht : (l[k].toList == s.toList) = true := by rw [tl_beq]; simpa using hs
        have HS := Lib.hid hs
        clear hs
        go_wp2
        go_ret
        exact ⟨ret_bool (by rw [eq_comm, decide_eq_true_eq, ← HS.out]; exact List.getElem_mem hlt), rfl⟩
      · have ht : (l[k].toList == s.toList) = false := by rw [tl_beq]; simpa using hs
        have HS := Lib.hid hs
        clear hs
        go_wp2
        go_round
        case rel => exact ⟨k + 1, by omega, by go_num, by rw [mem_take_succ hlt]; exact fun h => h.elim HN.out (fun e => HS.out e.symm)⟩
        case measure => simp [intOf]; omega
    · have HN := Lib.hid hn
      clear hn
      go_wp2
      go_ret
      exact ⟨ret_bool (by rw [eq_comm, decide_eq_false_iff_not]; have := HN.out; rwa [List.take_of_length_le (by omega)] at this), rfl⟩

theorem edged_calls {a : Option Addr} {cap n : Nat} {l : List Ed} (s t : Str) (w : World) (hn : n = l.length) (h : Sl encE 2 w a cap l) :
    Calls Tryd.prog 31 #[.slice a n cap, .string s, .string t] w fun e w' => e = .returned (.bool (decide ((s, t) ∈ l))) ∧ Below w.heap.size w w' := by
  subst hn
  have hl := h.len
  go_enter Tryd.func31, Tryd.ntmps31
  go_wp2
  go_loopw [11] (fun i wr => ∃ k : Nat, k ≤ l.length ∧ i = .int .i64 k ∧ (s, t) ∉ l.take k ∧ Below w.heap.size w wr) (fun i _ => l.length - (intOf i).toNat)
  case atStart => exact ⟨0, Nat.zero_le _, rfl, by simp, Below.refl _ _⟩
  case round =>
    obtain ⟨k, hk, rfl, hn, hb⟩ := hrel
    have HN := Lib.hid hn
    clear hn
    by_cases hlt : k < l.length
    · obtain ⟨b, off, rfl, hbl, h1, h2⟩ := (h.top hb).e2 hlt
      clear h
      have hsz := hb.size
      by_cases hs : l[k].1 = s
      · have ht1 : (l[k].1.toList == s.toList) = true := by rw [tl_beq]; simpa using hs
        have HS := Lib.hid hs
        clear hs
        by_cases ht : l[k].2 = t
        · have ht2 : (l[k].2.toList == t.toList) = true := by rw [tl_beq]; simpa using ht
          have HT := Lib.hid ht
          clear ht
          go_wp2
          go_ret
          exact ⟨ret_bool (by rw [eq_comm, decide_eq_true_eq, ← HS.out, ← HT.out]; exact List.getElem_mem hlt), hb.alloc hsz _⟩
        · have ht2 : (l[k].2.toList == t.toList) = false := by rw [tl_beq]; simpa using ht
          have HT := Lib.hid ht
          clear ht
          go_wp2
          go_roundw
          case rel => exact ⟨k + 1, by omega, by go_num, by rw [mem_take_succ hlt]; exact fun h => h.elim HN.out (fun e => HT.out (by rw [← e])), hb.alloc hsz _⟩
          case measure => simp [intOf]; omega
      · have ht1 : (l[k].1.toList == s.toList) = false := by rw [tl_beq]; simpa using hs
        have HS := Lib.hid hs
        clear hs
        go_wp2
        go_roundw
        case rel => exact ⟨k + 1, by omega, by go_num, by rw [mem_take_succ hlt]; exact fun h => h.elim HN.out (fun e => HS.out (by rw [← e])), hb.alloc hsz _⟩
        case measure => simp [intOf]; omega
    · go_wp2
      go_ret
      exact ⟨ret_bool (by rw [eq_comm, decide_eq_false_iff_not]; have := HN.out; rwa [List.take_of_length_le (by omega)] at this), hb⟩
end Go.Proofs.YthpfladpbfbpjaaDoor

/- The size tests, conv and Good: what each call computes. -/
namespace Go.Proofs.YthpfladpbfbpjaaDoor
open Go.RowKit

theorem encS_len (x : Str) : (encS x).length = 1 := rfl
theorem encE_len (x : Ed) : (encE x).length = 2 := rfl
theorem encB_len (x : Bool) : (encB x).length = 1 := rfl
theorem encT_len (x : St) : (encT x).length = 3 := rfl
theorem encS_one (x : Str) (u : Value) (h : u ∈ encS x) : u.oneCell' = true := by simp at h; subst h; rfl
theorem encB_one (x : Bool) (u : Value) (h : u ∈ encB x) : u.oneCell' = true := by simp at h; subst h; rfl
theorem encE_one (x : Ed) (u : Value) (h : u ∈ encE x) : u.oneCell' = true := by simp at h; rcases h with h | h <;> subst h <;> rfl
theorem encT_one (x : St) (u : Value) (h : u ∈ encT x) : u.oneCell' = true := by simp at h; rcases h with h | h | h <;> subst h <;> rfl
theorem infoS : (Tryd.prog.info? 9).map (fun i => (i.zero, i.size, i.bytes)) = some (some (.string ByteArray.empty), 1, 16) := by kernel_rfl
theorem infoE : (Tryd.prog.info? 54).map (fun i => (i.zero, i.size, i.bytes)) = some (some (.agg #[.string ByteArray.empty, .string ByteArray.empty]), 2, 32) := by kernel_rfl

theorem fits3_calls {a : Option Addr} {cap n : Nat} {l : List Str} (w : World) (hn : n = l.length) (h : Sl encS 1 w a cap l) :
    Calls Tryd.prog 36 #[.slice a n cap] w <| RetB fun b w' => (b = true → l.length ≤ 2147483647 ∧ ∀ s ∈ l, s.size ≤ 2147483647) ∧ w = w' := by
  subst hn
  have hl := h.len
  by_cases hbig : 2147483647 < l.length
  · go_enter Tryd.func36, Tryd.ntmps36
    go_wp2
    go_ret
    exact ⟨_, rfl, by simp, rfl⟩
  go_enter Tryd.func36, Tryd.ntmps36
  go_wp2
  go_loop [10] (fun i => ∃ k : Nat, k ≤ l.length ∧ i = .int .i64 k ∧ ∀ s ∈ l.take k, s.size ≤ 2147483647) (fun i => l.length - (intOf i).toNat)
  case atStart => exact ⟨0, Nat.zero_le _, rfl, by simp⟩
  case round =>
    obtain ⟨k, hk, rfl, hn⟩ := hrel
    have HN := Lib.hid hn; clear hn
    by_cases hlt : k < l.length
    · obtain ⟨b, off, rfl, h1⟩ := h.s1 hlt
      clear h
      by_cases hz : 2147483647 < l[k].size
      · go_wp2
        go_ret
        exact ⟨_, rfl, by simp, rfl⟩
      · go_wp2
        go_round
        case rel =>
          refine ⟨k + 1, by omega, by go_num, fun s hs => ?_⟩
          rcases (mem_take_succ hlt).1 hs with hs | rfl
          · exact HN.out s hs
          · omega
        case measure => simp [intOf]; omega
    · go_wp2
      go_ret
      exact ⟨_, rfl, fun _ => ⟨by omega, by have := HN.out; rwa [List.take_of_length_le (by omega)] at this⟩, rfl⟩

theorem conv_calls {a : Option Addr} {cap n : Nat} {l : List Ed} (w : World) (hn : n = l.length) (h : Sl encE 2 w a cap l) (hsm : l.length ≤ 2147483647) :
    Calls Tryd.prog 27 #[.slice a n cap] w <| RetSl fun a' n cap' w' => n = l.length ∧ Own encE 2 w' w.heap.size 54 a' cap' l ∧ Below w.heap.size w w' := by
  subst hn
  go_enter Tryd.func27, Tryd.ntmps27
  go_wp2
  go_loopw [9, 3] (fun i v wr => ∃ (k : Nat) (m : List Ed) (a' : Option Addr) (cap' : Nat), k ≤ l.length ∧ i = .int .i64 k ∧ v = .slice a' m.length cap' ∧ Hid (m = l.take k) ∧ Own encE 2 wr w.heap.size 54 a' cap' m ∧ Below w.heap.size w wr) (fun i _ _ => l.length - (intOf i).toNat)
  case atStart => exact ⟨0, [], _, _, Nat.zero_le _, rfl, rfl, Lib.hid (by simp), Own.made encE 2 w _ _ (Nat.le_refl _), (Below.refl _ _).alloc (Nat.le_refl _) _⟩
  case round =>
    obtain ⟨k, m, a', cap', hk, rfl, rfl, Hm, hown, hb⟩ := hrel
    by_cases hlt : k < l.length
    · obtain ⟨b, off, rfl, hbl, h1, h2⟩ := (h.top hb).e2 hlt
      clear h
      have hsz := hb.size
      have hml : m.length ≤ k := by have := congrArg List.length Hm.out; simp at this; omega
      go_wp2_with (at_builtin; refine wpList_append_new encE 2 encE_len encE_one _ _ rfl _ _ 29 rfl 54 _ 32 Tryd.underlying29 infoE rfl (by omega) w.heap.size a' cap' m _ rfl rfl (hown.alloc _) l[k] _ _ (by simp) rfl (by omega) (by omega) (by simp; omega) ?_; intro a2 cap2 w2 hown2 hf2 hk2)
      go_roundw
      case rel =>
        refine ⟨k + 1, m ++ [l[k]], a2, cap2, by omega, by go_num, by simp, Lib.hid (by rw [Hm.out, List.take_succ_eq_append_getElem hlt]), hown2, ?_⟩
        exact (hb.alloc hsz _).fr hf2 (Nat.le_refl _) (fun j hj => (hown.lt j hj).1)
      case measure => simp [intOf]; omega
    · go_wp2
      go_ret
      have hml : m = l := by rw [Hm.out, List.take_of_length_le (by omega)]
      subst hml
      exact ⟨_, _, _, rfl, rfl, hown, hb⟩
end Go.Proofs.YthpfladpbfbpjaaDoor

/- Good: what the call computes. -/
namespace Go.Proofs.YthpfladpbfbpjaaDoor
open Go.RowKit

def Good (ns : List Str) (es : List Ed) : Prop :=
  ns.Nodup ∧ (∀ n ∈ ns, n.size ≤ 24) ∧ (∀ e ∈ es, e.1 ∈ ns ∧ e.2 ∈ ns) ∧ ns.length ≤ 10 ∧ es.length ≤ 64

theorem nodup_take_succ {α : Type} {l : List α} {k : Nat} (hk : k < l.length) : (l.take (k + 1)).Nodup ↔ (l.take k).Nodup ∧ l[k] ∉ l.take k := by
  rw [List.take_succ_eq_append_getElem hk, List.nodup_append]
  constructor
  · rintro ⟨h1, _, h3⟩
    exact ⟨h1, fun hm => h3 _ hm _ (by simp) rfl⟩
  · rintro ⟨h1, h2⟩
    refine ⟨h1, by simp, fun a ha b hb e => ?_⟩
    simp at hb
    subst hb
    subst e
    exact h2 ha
theorem nodup_take {α : Type} {l : List α} (k : Nat) (h : l.Nodup) : (l.take k).Nodup := h.sublist (List.take_sublist k l)

end Go.Proofs.YthpfladpbfbpjaaDoor

/- The graph in memory as a list of nodes with their edges; what newGraph, addNode, AddEdge, HasEdge do to it. -/
namespace Go.Proofs.YthpfladpbfbpjaaDoor
open Go.RowKit

/-! ### look-ups in lists of pairs -/
theorem aget_none (s : Str) : ∀ (m : AL), s ∉ m.map (·.1) → aget s m = none
  | [], _ => rfl
  | p :: r, h => by
    have h1 : ¬ p.1 = s := fun e => h (by simp [e])
    have h2 : s ∉ r.map (·.1) := fun e => h (by simp at e ⊢; exact .inr e)
    rw [aget, if_neg h1]
    exact aget_none s r h2
theorem aget_mem (s : Str) (v : Value) : ∀ (m : AL), (m.map (·.1)).Nodup → (s, v) ∈ m → aget s m = some v
  | [], _, h => by simp at h
  | p :: r, hd, h => by
    rw [aget]
    rcases List.mem_cons.1 h with rfl | h
    · simp
    · have hne : ¬ p.1 = s := fun e => by
        have := (List.nodup_cons.1 hd).1
        exact this (List.mem_map.2 ⟨_, h, e.symm⟩)
      rw [if_neg hne]
      exact aget_mem s v r (List.nodup_cons.1 hd).2 h
theorem aput_new (s : Str) (v : Value) : ∀ (m : AL), s ∉ m.map (·.1) → aput s v m = m ++ [(s, v)]
  | [], _ => rfl
  | p :: r, h => by
    have h1 : ¬ p.1 = s := fun e => h (by simp [e])
    have h2 : s ∉ r.map (·.1) := fun e => h (by simp at e ⊢; exact .inr e)
    simp [aput, h1, aput_new s v r h2]

/-! ### the sets of edges from one node -/
abbrev setOf (l : List Str) : AL := l.map fun t => (t, .bool true)
theorem setOf_keys (l : List Str) : (setOf l).map (·.1) = l := by simp [List.map_map, Function.comp_def]
theorem aget_setOf (t : Str) : ∀ (l : List Str), aget t (setOf l) = if t ∈ l then some (.bool true) else none
  | [] => by simp [aget]
  | x :: r => by
    simp only [List.map_cons, aget]
    by_cases h : x = t
    · subst h; simp
    · have h' : ¬ t = x := fun e => h e.symm
      simp [h, h', aget_setOf t r]
def ins (t : Str) (l : List Str) : List Str := if t ∈ l then l else l ++ [t]
def del (t : Str) : List Str → List Str
  | [] => []
  | x :: r => if x = t then r else x :: del t r
theorem aput_setOf (t : Str) : ∀ (l : List Str), aput t (.bool true) (setOf l) = setOf (ins t l)
  | [] => rfl
  | x :: r => by
    unfold ins
    simp only [List.map_cons, aput]
    by_cases h : x = t
    · subst h; simp
    · have h' : ¬ t = x := fun e => h e.symm
      have ih := aput_setOf t r
      unfold ins at ih
      by_cases hm : t ∈ r
      · simp [h, hm] at ih ⊢; exact ih
      · simp [h, h', hm] at ih ⊢; exact ih
theorem adel_setOf (t : Str) : ∀ (l : List Str), adel t (setOf l) = setOf (del t l)
  | [] => rfl
  | x :: r => by
    simp only [List.map_cons, adel, del]
    by_cases h : x = t
    · simp [h]
    · simp [h, adel_setOf t r]

/-! ### the graph -/
abbrev Gr := List (Str × List Str)
abbrev names (G : Gr) : List Str := G.map (·.1)
def idxOf (ns : List Str) : AL := ns.zipIdx.map fun p => (p.1, .int .i64 (p.2 : Nat))
def refs (ns : List Str) (rs : List Nat) : AL := (ns.zip rs).map fun p => (p.1, .map (some p.2))

/-- At block g stands a graph that reads as G; all its blocks meet F. -/
structure GRep (w : World) (F : Nat → Prop) (g : Nat) (G : Gr) (na : Option Addr) (nc mb me : Nat) (rs : List Nat) : Prop where
  cell : w.heap[g]? = some (.cells #[.slice na G.length nc, .map (some mb), .map (some me)] 69 (0, 0))
  nodes : Own encS 1 w 0 9 na nc (names G)
  idx : SMap w mb (idxOf (names G))
  len : rs.length = G.length
  tbl : SMap w me (refs (names G) rs)
  sets : ∀ i (h : i < rs.length) (h' : i < G.length), SMap w rs[i] (setOf G[i].2)
  apart : (mb :: me :: rs).Nodup
  fg : F g
  fb : F mb
  fe : F me
  fr : ∀ r ∈ rs, F r
  fn : ∀ k, blk na = some k → F k
  ng : ¬ blk na = some g
def GraphAt (w : World) (F : Nat → Prop) (g : Nat) (G : Gr) : Prop := ∃ na nc mb me rs, GRep w F g G na nc mb me rs


theorem SMap.ne_cells {w : World} {b k : Nat} {m : AL} {c : Array Value} {e : TypeId} {f : Nat × Nat} (h : SMap w b m) (hk : w.heap[k]? = some (.cells c e f)) : k ≠ b := by
  rintro rfl
  obtain ⟨es, clock, hb, _⟩ := h
  rw [hk] at hb
  cases hb
theorem Own.cells {α : Type} {enc : α → List Value} {size : Nat} {w : World} {B : Nat} {e : TypeId} {a : Option Addr} {cap : Nat} {l : List α} (h : Own enc size w B e a cap l) {k : Nat} (hk : blk a = some k) : ∃ cur, w.heap[k]? = some (.cells cur e (0, 0)) := by
  rcases h.2 with ⟨hv, _⟩ | ⟨g, cap', cur, hv, _, hg, _⟩
  · simp only [Value.slice.injEq] at hv; rw [hv.1] at hk; simp [blk] at hk
  · simp only [Value.slice.injEq] at hv
    rw [hv.1] at hk
    simp only [blk, Option.map_some, Option.some.injEq] at hk
    subst hk
    exact ⟨cur, hg⟩

theorem idxOf_keys (ns : List Str) : (idxOf ns).map (·.1) = ns := by
  unfold idxOf
  rw [List.map_map, show ((fun x : Str × Value => x.1) ∘ fun p : Str × Nat => (p.1, Value.int .i64 (p.2 : Nat))) = Prod.fst from rfl, List.zipIdx_map_fst]
theorem refs_keys {ns : List Str} {rs : List Nat} (h : rs.length = ns.length) : (refs ns rs).map (·.1) = ns := by
  unfold refs
  rw [List.map_map, show ((fun x : Str × Value => x.1) ∘ fun p : Str × Nat => (p.1, Value.map (some p.2))) = Prod.fst from rfl, List.map_fst_zip (by omega)]
theorem refs_mem {ns : List Str} {rs : List Nat} (h : rs.length = ns.length) (i : Nat) (hi : i < ns.length) : (ns[i], Value.map (some (rs[i]'(by omega)))) ∈ refs ns rs := by
  unfold refs
  refine List.mem_map.2 ⟨(ns[i], rs[i]'(by omega)), ?_, rfl⟩
  rw [List.mem_iff_getElem]
  exact ⟨i, by simp; omega, by simp⟩
theorem idxOf_mem (ns : List Str) (i : Nat) (hi : i < ns.length) : (ns[i], Value.int .i64 (i : Nat)) ∈ idxOf ns := by
  unfold idxOf
  refine List.mem_map.2 ⟨(ns[i], i), ?_, rfl⟩
  rw [List.mem_iff_getElem]
  exact ⟨i, by simpa using hi, by simp⟩

section
variable {w w' : World} {F : Nat → Prop} {g : Nat} {G : Gr} {na : Option Addr} {nc mb me : Nat} {rs : List Nat}
theorem GRep.lt (h : GRep w F g G na nc mb me rs) : g < w.heap.size := (Array.getElem?_eq_some_iff.1 h.cell).1
theorem GRep.nodup (h : GRep w F g G na nc mb me rs) : (names G).Nodup := by have := h.idx.nodup; rwa [idxOf_keys] at this
theorem GRep.cell0 (h : GRep w F g G na nc mb me rs) : w.cell? ⟨g, 0, none⟩ = some (.slice na G.length nc) := by rw [cell_of_row _ _ _ _ _ _ h.cell]; rfl
theorem GRep.cell1 (h : GRep w F g G na nc mb me rs) : w.cell? ⟨g, 1, none⟩ = some (.map (some mb)) := by rw [cell_of_row _ _ _ _ _ _ h.cell]; rfl
theorem GRep.cell2 (h : GRep w F g G na nc mb me rs) : w.cell? ⟨g, 2, none⟩ = some (.map (some me)) := by rw [cell_of_row _ _ _ _ _ _ h.cell]; rfl
/-- The graph stays where none of its blocks is written. -/
theorem GRep.keep {S : Nat → Prop} (h : GRep w F g G na nc mb me rs) (f : Fr S w w') (hS : ∀ k, F k → ¬ S k) : GRep w' F g G na nc mb me rs where
  cell := (f.block g h.lt (hS g h.fg)).trans h.cell
  nodes := h.nodes.fr f (fun k hk => hS k (h.fn k hk))
  idx := h.idx.fr f (hS mb h.fb)
  len := h.len
  tbl := h.tbl.fr f (hS me h.fe)
  sets i hi hi' := (h.sets i hi hi').fr f (hS _ (h.fr _ (List.getElem_mem hi)))
  apart := h.apart
  fg := h.fg
  fb := h.fb
  fe := h.fe
  fr := h.fr
  fn := h.fn
  ng := h.ng
theorem GraphAt.keep {S : Nat → Prop} (h : GraphAt w F g G) (f : Fr S w w') (hS : ∀ k, F k → ¬ S k) : GraphAt w' F g G := by
  obtain ⟨na, nc, mb, me, rs, h⟩ := h
  exact ⟨na, nc, mb, me, rs, h.keep f hS⟩
theorem GraphAt.top (h : GraphAt w F g G) (hb : Below w.heap.size w w') : GraphAt w' F g G := h.keep (Fr.of_below_top hb NoB) (fun _ _ hs => hs.elim)
theorem GraphAt.mono {F' : Nat → Prop} (h : GraphAt w F g G) (hF : ∀ k, F k → F' k) : GraphAt w F' g G := by
  obtain ⟨na, nc, mb, me, rs, h⟩ := h
  exact ⟨na, nc, mb, me, rs, { h with fg := hF _ h.fg, fb := hF _ h.fb, fe := hF _ h.fe, fr := fun r hr => hF _ (h.fr r hr), fn := fun k hk => hF _ (h.fn k hk) }⟩
theorem GraphAt.nodup (h : GraphAt w F g G) : (names G).Nodup := by
  obtain ⟨na, nc, mb, me, rs, h⟩ := h
  exact h.nodup

theorem GRep.lookR (h : GRep w F g G na nc mb me rs) (i : Nat) (hi : i < G.length) (hi' : i < rs.length) : aget G[i].1 (refs (names G) rs) = some (.map (some rs[i])) := by
  have hl : rs.length = (names G).length := by simp [h.len]
  have hm := refs_mem hl i (by simpa using hi)
  have hk := refs_keys hl
  refine aget_mem _ _ _ (by rw [hk]; exact h.nodup) ?_
  simpa using hm
theorem GRep.lookR_none (h : GRep w F g G na nc mb me rs) (s : Str) (hs : s ∉ names G) : aget s (refs (names G) rs) = none :=
  aget_none _ _ (by rw [refs_keys (by simp [h.len])]; exact hs)
theorem GRep.lookI (h : GRep w F g G na nc mb me rs) (i : Nat) (hi : i < G.length) : aget G[i].1 (idxOf (names G)) = some (.int .i64 (i : Nat)) := by
  have hm := idxOf_mem (names G) i (by simpa using hi)
  refine aget_mem _ _ _ (by rw [idxOf_keys]; exact h.nodup) ?_
  simpa using hm
theorem GRep.lookI_none (_h : GRep w F g G na nc mb me rs) (s : Str) (hs : s ∉ names G) : aget s (idxOf (names G)) = none :=
  aget_none _ _ (by rw [idxOf_keys]; exact hs)

theorem names_set (G : Gr) (i : Nat) (hi : i < G.length) (l : List Str) : names (G.set i (G[i].1, l)) = names G := by
  apply List.ext_getElem?
  intro j
  simp only [List.getElem?_map, List.getElem?_set]
  by_cases hij : i = j
  · subst hij; simp [hi]
  · simp [hij]
/-- One node's set of edges written. -/
theorem GRep.upd (h : GRep w F g G na nc mb me rs) (i : Nat) (hi : i < G.length) (hi' : i < rs.length) (l : List Str) (hm : SMap w' rs[i] (setOf l)) (f : Fr (fun k => k = rs[i]) w w') :
    GRep w' F g (G.set i (G[i].1, l)) na nc mb me rs := by
  have hr := h.sets i hi' hi
  have hnot : mb ∉ me :: rs ∧ me ∉ rs ∧ rs.Nodup := by
    have := h.apart
    rw [List.nodup_cons, List.nodup_cons] at this
    exact this
  have hmem : rs[i] ∈ rs := List.getElem_mem hi'
  refine { cell := ?_, nodes := ?_, idx := ?_, len := by simpa using h.len, tbl := ?_, sets := ?_, apart := h.apart, fg := h.fg, fb := h.fb, fe := h.fe, fr := h.fr, fn := h.fn, ng := h.ng }
  · rw [f.block g h.lt (hr.ne_cells h.cell), h.cell]; simp
  · rw [names_set]
    refine h.nodes.fr f (fun k hk => ?_)
    obtain ⟨cur, hc⟩ := h.nodes.cells hk
    exact hr.ne_cells hc
  · rw [names_set]
    exact h.idx.fr f (fun e => hnot.1 (by rw [e]; exact List.mem_cons_of_mem _ hmem))
  · rw [names_set]
    exact h.tbl.fr f (fun e => hnot.2.1 (by rw [e]; exact hmem))
  · intro j hj hj'
    by_cases hij : i = j
    · subst hij
      simpa using hm
    · have hj2 : j < G.length := by simpa using hj'
      rw [List.getElem_set_ne hij]
      refine (h.sets j hj hj2).fr f (fun e => hij ?_)
      exact (nodup_inj hnot.2.2 hj hi' e).symm
end

/-! ### the calls -/
theorem zeroM (w : World) : (zeroValue 88).run Tryd.prog w = .ok (.map none) w := by kernel_rfl
theorem zeroB (w : World) : (zeroValue 4).run Tryd.prog w = .ok (.bool false) w := by kernel_rfl
theorem zeroI (w : World) : (zeroValue 3).run Tryd.prog w = .ok (.int .i64 0) w := by kernel_rfl

def hasE (G : Gr) (s t : Str) : Bool := G.any fun p => decide (p.1 = s) && decide (t ∈ p.2)
def setE (G : Gr) (s : Str) (f : List Str → List Str) : Gr := G.map fun p => if p.1 = s then (p.1, f p.2) else p
def addE (G : Gr) (s t : Str) : Gr := setE G s (ins t)
def delE (G : Gr) (s t : Str) : Gr := setE G s (del t)

theorem setE_at {G : Gr} (hnd : (names G).Nodup) (i : Nat) (hi : i < G.length) (f : List Str → List Str) : setE G G[i].1 f = G.set i (G[i].1, f G[i].2) := by
  apply List.ext_getElem?
  intro j
  unfold setE
  simp only [List.getElem?_map, List.getElem?_set]
  by_cases hij : i = j
  · subst hij; simp [hi]
  · simp only [hij, if_false]
    cases hj : G[j]? with
    | none => rfl
    | some p =>
      have hjl := (List.getElem?_eq_some_iff.1 hj).1
      have hjp := (List.getElem?_eq_some_iff.1 hj).2
      have : ¬ p.1 = G[i].1 := by
        intro e
        apply hij
        have h1 : (names G)[j]'(by simpa using hjl) = (names G)[i]'(by simpa using hi) := by simp [hjp, e]
        exact (nodup_inj hnd _ _ h1).symm
      simp [this]
theorem hasE_at {G : Gr} (hnd : (names G).Nodup) (i : Nat) (hi : i < G.length) (t : Str) : hasE G G[i].1 t = decide (t ∈ G[i].2) := by
  rw [Bool.eq_iff_iff]
  unfold hasE
  simp only [List.any_eq_true, Bool.and_eq_true, decide_eq_true_eq]
  constructor
  · rintro ⟨p, hp, e, ht⟩
    obtain ⟨j, hj, rfl⟩ := List.mem_iff_getElem.1 hp
    have h1 : (names G)[j]'(by simpa using hj) = (names G)[i]'(by simpa using hi) := by simp [e]
    have := nodup_inj hnd _ _ h1
    subst this
    exact ht
  · intro ht
    exact ⟨_, List.getElem_mem hi, rfl, ht⟩
theorem hasE_none {G : Gr} {s : Str} (hs : s ∉ names G) (t : Str) : hasE G s t = false := by
  rw [← Bool.not_eq_true]
  unfold hasE
  simp only [List.any_eq_true, Bool.and_eq_true, decide_eq_true_eq]
  rintro ⟨p, hp, e, _⟩
  exact hs (List.mem_map.2 ⟨p, hp, e⟩)

theorem newGraph_calls (w : World) : Calls Tryd.prog 46 #[] w <| RetV fun v w' => ∃ g, v = .pointer (some ⟨g, 0, none⟩) ∧ GraphAt w' (fun k => w.heap.size ≤ k) g [] ∧ Below w.heap.size w w' := by
  have hmm := @run_makeMap Tryd.prog
  go_enter Tryd.func46, Tryd.ntmps46
  go_wp2
  go_ret
  refine ⟨_, rfl, w.heap.size + 1 + 1, rfl, ⟨none, 0, w.heap.size, w.heap.size + 1, [], ?_⟩, (((Below.refl _ _).alloc (Nat.le_refl _) _).alloc (by simp) _).alloc (by simp; omega) _⟩
  have h1 := SMap.made w
  have h2 := SMap.made (w.alloc (.map #[] 0))
  rw [World.size_alloc] at h2
  refine { cell := ?_, nodes := Own.nil_ _ _ _, idx := (h1.alloc _).alloc _, len := rfl, tbl := h2.alloc _, sets := ?_, apart := by simp, fg := ?_, fb := ?_, fe := ?_, fr := ?_, fn := ?_, ng := ?_ }
  · have := heap_alloc_new ((w.alloc (.map #[] 0)).alloc (.map #[] 0)) (.cells #[.slice none 0 0, .map (some w.heap.size), .map (some (w.heap.size + 1))] 69 (0, 0))
    simpa using this
  · intro i hi; simp at hi
  · omega
  · omega
  · omega
  · simp
  · simp [blk]
  · simp [blk]

end Go.Proofs.YthpfladpbfbpjaaDoor

/- AddEdge, HasEdge, addNode and their kin: what each call does to the graph. -/
namespace Go.Proofs.YthpfladpbfbpjaaDoor
open Go.RowKit

theorem names_at {G : Gr} {s : Str} (hs : s ∈ names G) : ∃ i, ∃ h : i < G.length, G[i].1 = s := by
  obtain ⟨p, hp, rfl⟩ := List.mem_map.1 hs
  obtain ⟨i, hi, rfl⟩ := List.mem_iff_getElem.1 hp
  exact ⟨i, hi, rfl⟩

theorem addEdge_calls {w : World} {F : Nat → Prop} {g : Nat} {G : Gr} (s t : Str) (h : GraphAt w F g G) (hs : s ∈ names G) :
    Calls Tryd.prog 50 #[.pointer (some ⟨g, 0, none⟩), .string s, .string t] w fun e w' => e = .returned (.tuple #[]) ∧ GraphAt w' F g (addE G s t) ∧ Fr F w w' := by
  obtain ⟨na, nc, mb, me, rs, h⟩ := h
  obtain ⟨i, hi, rfl⟩ := names_at hs
  clear hs
  have hi' : i < rs.length := by rw [h.len]; exact hi
  have hc := h.cell2
  have hl := h.tbl.look Tryd.underlying67 Tryd.underlying9 (zeroM w) G[i].1
  rw [h.lookR i hi hi', Option.getD_some] at hl
  obtain ⟨w1, hu, hm, hf⟩ := (h.sets i hi' hi).store Tryd.underlying88 Tryd.underlying9 t (.bool true)
  rw [aput_setOf] at hm
  have hres : GraphAt w1 F g (addE G G[i].1 t) := by
    unfold addE
    rw [setE_at h.nodup i hi]
    exact ⟨na, nc, mb, me, rs, h.upd i hi hi' _ hm hf⟩
  have hfr : Fr F w w1 := hf.mono (fun b _ e => by subst e; exact h.fr _ (List.getElem_mem hi'))
  have HR := Lib.hid hres; clear hres
  have HM := Lib.hid hm; clear hm
  clear h hf
  go_enter Tryd.func50, Tryd.ntmps50
  go_wp2
  go_end0
  exact ⟨rfl, HR.out, hfr⟩

theorem delEdge_calls {w : World} {F : Nat → Prop} {g : Nat} {G : Gr} (s t : Str) (h : GraphAt w F g G) (hs : s ∈ names G) :
    Calls Tryd.prog 55 #[.pointer (some ⟨g, 0, none⟩), .string s, .string t] w fun e w' => e = .returned (.tuple #[]) ∧ GraphAt w' F g (delE G s t) ∧ Fr F w w' := by
  obtain ⟨na, nc, mb, me, rs, h⟩ := h
  obtain ⟨i, hi, rfl⟩ := names_at hs
  clear hs
  have hi' : i < rs.length := by rw [h.len]; exact hi
  have hc := h.cell2
  have hl := h.tbl.look Tryd.underlying67 Tryd.underlying9 (zeroM w) G[i].1
  rw [h.lookR i hi hi', Option.getD_some] at hl
  obtain ⟨w1, hu, hm, hf⟩ := (h.sets i hi' hi).drop Tryd.underlying88 Tryd.underlying9 t 0 9
  rw [adel_setOf] at hm
  have hres : GraphAt w1 F g (delE G G[i].1 t) := by
    unfold delE
    rw [setE_at h.nodup i hi]
    exact ⟨na, nc, mb, me, rs, h.upd i hi hi' _ hm hf⟩
  have hfr : Fr F w w1 := hf.mono (fun b _ e => by subst e; exact h.fr _ (List.getElem_mem hi'))
  have HR := Lib.hid hres; clear hres
  have HM := Lib.hid hm; clear hm
  clear h hf
  go_enter Tryd.func55, Tryd.ntmps55
  go_wp2
  go_end0
  exact ⟨rfl, HR.out, hfr⟩

theorem hasEdge_calls {w : World} {F : Nat → Prop} {g : Nat} {G : Gr} (s t : Str) (h : GraphAt w F g G) :
    Calls Tryd.prog 51 #[.pointer (some ⟨g, 0, none⟩), .string s, .string t] w fun e w' => e = .returned (.bool (hasE G s t)) ∧ w = w' := by
  obtain ⟨na, nc, mb, me, rs, h⟩ := h
  have hc := h.cell2
  have hnm := fun (r : Option Nat) (w : World) => run_neq_map_nil (P := Tryd.prog) w 88 9 4 r Tryd.underlying88
  by_cases hs : s ∈ names G
  · obtain ⟨i, hi, rfl⟩ := names_at hs
    clear hs
    have hi' : i < rs.length := by rw [h.len]; exact hi
    have hl := h.tbl.look Tryd.underlying67 Tryd.underlying9 (zeroM w) G[i].1
    rw [h.lookR i hi hi', Option.getD_some] at hl
    have hl2 := (h.sets i hi' hi).look Tryd.underlying88 Tryd.underlying9 (zeroB w) t
    rw [aget_setOf] at hl2
    have hv : (if t ∈ G[i].2 then some (Value.bool true) else none).getD (.bool false) = .bool (hasE G G[i].1 t) := by
      rw [hasE_at h.nodup i hi]
      by_cases ht : t ∈ G[i].2 <;> simp [ht]
    rw [hv] at hl2
    clear h hv
    go_enter Tryd.func51, Tryd.ntmps51
    go_wp2
    go_ret
    exact ⟨rfl, rfl⟩
  · have hl := h.tbl.look Tryd.underlying67 Tryd.underlying9 (zeroM w) s
    rw [h.lookR_none s hs, Option.getD_none] at hl
    rw [hasE_none hs]
    clear h hs
    go_enter Tryd.func51, Tryd.ntmps51
    go_wp2
    go_ret
    exact ⟨rfl, rfl⟩

theorem addNode_old {w : World} {F : Nat → Prop} {g : Nat} {G : Gr} (s : Str) (h : GraphAt w F g G) (hs : s ∈ names G) :
    Calls Tryd.prog 49 #[.pointer (some ⟨g, 0, none⟩), .string s] w fun e w' => e = .returned (.bool false) ∧ w = w' := by
  obtain ⟨na, nc, mb, me, rs, h⟩ := h
  obtain ⟨i, hi, rfl⟩ := names_at hs
  clear hs
  have hc := h.cell1
  have hl := h.idx.look2 Tryd.underlying66 Tryd.underlying9 (zeroI w) G[i].1
  rw [h.lookI i hi] at hl
  simp only [Option.getD_some, Option.isSome_some] at hl
  clear h
  go_enter Tryd.func49, Tryd.ntmps49
  go_wp2
  go_ret
  exact ⟨rfl, rfl⟩

theorem idxOf_snoc (ns : List Str) (s : Str) : idxOf (ns ++ [s]) = idxOf ns ++ [(s, .int .i64 (ns.length : Nat))] := by
  unfold idxOf
  rw [List.zipIdx_append]
  simp
theorem refs_snoc (ns : List Str) (rs : List Nat) (h : rs.length = ns.length) (s : Str) (r : Nat) : refs (ns ++ [s]) (rs ++ [r]) = refs ns rs ++ [(s, .map (some r))] := by
  unfold refs
  rw [List.zip_append h.symm]
  simp

theorem addNode_new {w : World} {F : Nat → Prop} {g : Nat} {G : Gr} (s : Str) (h : GraphAt w F g G) (hs : s ∉ names G) (hsm : G.length < 4294967296) :
    Calls Tryd.prog 49 #[.pointer (some ⟨g, 0, none⟩), .string s] w fun e w' => e = .returned (.bool true) ∧ GraphAt w' (fun k => F k ∨ w.heap.size ≤ k) g (G ++ [(s, [])]) ∧ Fr F w w' := by
  obtain ⟨na, nc, mb, me, rs, h⟩ := h
  have hc := h.cell1
  have hc0 := h.cell0
  have hl := h.idx.look2 Tryd.underlying66 Tryd.underlying9 (zeroI w) s
  rw [h.lookI_none s hs] at hl
  simp only [Option.getD_none, Option.isSome_none] at hl
  obtain ⟨w1, hu, hm1, hf1'⟩ := (h.idx.drew).store Tryd.underlying66 Tryd.underlying9 s (.int .i64 (G.length : Nat))
  have hf1 : Fr (fun k => k = mb) w w1 := (Fr.drew _ w).trans hf1' (fun _ _ e => e)
  have hgm : g ≠ mb := h.idx.ne_cells h.cell
  have hge : g ≠ me := h.tbl.ne_cells h.cell
  have hap := h.apart
  rw [List.nodup_cons, List.nodup_cons] at hap
  have hnm : ∀ k, blk na = some k → k ≠ mb := fun k hk => by obtain ⟨cur, hcur⟩ := h.nodes.cells hk; exact h.idx.ne_cells hcur
  have hown1 := h.nodes.fr hf1 hnm
  have hg1 : w1.heap[g]? = _ := (hf1.block g h.lt hgm).trans h.cell
  have hc1 : w1.cell? ⟨g, 0, none⟩ = some (.slice na G.length nc) := by rw [cell_of_row _ _ _ _ _ _ hg1]; rfl
  have hmm := @run_makeMap Tryd.prog
  have hlen : (names G).length = G.length := by simp
  have HL := Lib.hid hlen; clear hlen
  clear hf1'
  have HG1 := Lib.hid hg1; clear hg1
  go_enter Tryd.func49, Tryd.ntmps49
  go_wp2
  go_region
  go_wp2_with (first
    | (at_builtin
       refine wpList_append_new encS 1 encS_len encS_one _ _ rfl _ _ 28 rfl 9 _ 16 Tryd.underlying28 infoS rfl (by omega) 0 na nc (names G) _ HL.out.symm rfl hown1 s _ _ rfl rfl (by rw [HL.out]; omega) (by rw [HL.out]; omega) (by omega) ?_
       intro a2 cap2 w2 hown2 hf2 hk2
       have HG2 := Lib.hid ((hf2.block g (by have := h.lt; have := hf1.size; omega) h.ng).trans HG1.out)
       have hc2 : w2.cell? ⟨g, 0, none⟩ = some (.slice na G.length nc) := by rw [cell_of_row _ _ _ _ _ _ HG2.out]; rfl
       have hz2 : w2.frozen? ⟨g, 0, none⟩ = false := frozen_of_row _ _ _ _ _ HG2.out
       have hc22 : w2.cell? ⟨g, 2, none⟩ = some (.map (some me)) := by rw [cell_of_row _ _ _ _ _ _ HG2.out]; rfl)
    | (at_mapUpdate
       refine wpList_store_s _ rfl _ _ _ 67 rfl Tryd.underlying67 Tryd.underlying9 me rfl s rfl _ rfl (refs (names G) rs) ?hs ?_
       rotate_right
       intro w4 hm4 hf4))
  case hs =>
    refine SMap.alloc (SMap.fr ?_ (Fr.setCell (S := fun k => k = g) w2 ⟨g, 0, none⟩ _ rfl) (fun e => hge e.symm)) _
    refine (h.tbl.fr hf1 (fun e => hap.1 (by rw [e]; simp))).fr hf2 (fun hk => ?_)
    obtain ⟨cur, hcur⟩ := h.nodes.cells hk
    exact h.tbl.ne_cells hcur rfl
  go_ret
  have f3 : Fr (fun k => k = g) w2 (w2.setCell ⟨g, 0, none⟩ (.slice a2 (G.length + 1) cap2)) := Fr.setCell _ _ _ rfl
  have f4 : Fr NoB (w2.setCell ⟨g, 0, none⟩ (.slice a2 (G.length + 1) cap2)) ((w2.setCell ⟨g, 0, none⟩ (.slice a2 (G.length + 1) cap2)).alloc (.map #[] 0)) := Fr.alloc _ _ _
  have hnew : SMap ((w2.setCell ⟨g, 0, none⟩ (.slice a2 (G.length + 1) cap2)).alloc (.map #[] 0)) w2.heap.size [] := by
    have := SMap.made (w2.setCell ⟨g, 0, none⟩ (.slice a2 (G.length + 1) cap2))
    rwa [World.size_setCell] at this
  have hsz1 := hf1.size
  have hsz2 := hf2.size
  have hsz3 := f3.size
  have hsz4 := f4.size
  have hglt := h.lt
  have ftot : Fr (fun k => k = mb ∨ blk na = some k ∨ k = g ∨ k = me) w w4 := by
    refine ((((hf1.mono (fun _ _ e => .inl e)).trans hf2 (fun _ _ e => .inr (.inl e))).trans f3 (fun _ _ e => .inr (.inr (.inl e)))).trans f4 (fun _ _ e => e.elim)).trans hf4 (fun _ _ e => .inr (.inr (.inr e)))
  have hmelt := h.tbl.lt
  have hcell4 : w4.heap[g]? = some (.cells #[.slice a2 (G.length + 1) cap2, .map (some mb), .map (some me)] 69 (0, 0)) := by
    rw [hf4.block g (by omega) hge, f4.block g (by omega) (fun e => e)]
    rw [heap_setCell_same w2 g 0 _ _ _ HG2.out]
    rfl
  have hdisj : ∀ b, b < w.heap.size → SMap w b (idxOf (names G)) ∨ (∃ m, SMap w b m) → ¬ b = g := fun b _ hb e => by
    subst e
    rcases hb with hb | ⟨m, hb⟩
    · exact hb.ne_cells h.cell rfl
    · exact hb.ne_cells h.cell rfl
  refine ⟨rfl, ⟨a2, cap2, mb, me, rs ++ [w2.heap.size], ?_⟩, ftot.mono ?_⟩
  · refine { cell := by simpa using hcell4, nodes := ?_, idx := ?_, len := by simp [h.len], tbl := ?_, sets := ?_, apart := ?_, fg := .inl h.fg, fb := .inl h.fb, fe := .inl h.fe, fr := ?_, fn := ?_, ng := ?_ }
    · have h3 := hown2.fr f3 (fun k hk e => by
        subst e
        rcases hk2 _ hk with hk' | hk'
        · exact h.ng hk'
        · omega)
      have h4 := (h3.alloc (.map #[] 0)).fr hf4 (fun k hk e => by
        subst e
        rcases hk2 _ hk with hk' | hk'
        · obtain ⟨cur, hcur⟩ := h.nodes.cells hk'
          exact h.tbl.ne_cells hcur rfl
        · omega)
      simpa using h4
    · rw [show names (G ++ [(s, [])]) = names G ++ [s] from by simp, idxOf_snoc]
      rw [aput_new _ _ _ (by rw [idxOf_keys]; exact hs), ← HL.out] at hm1
      have hmblt := h.idx.lt
      refine (((hm1.fr hf2 (fun hk => hnm _ hk rfl)).fr f3 (fun e => hgm e.symm)).fr f4 (fun e => e)).fr hf4 (fun e => hap.1 (by rw [e]; simp))
    · rw [show names (G ++ [(s, [])]) = names G ++ [s] from by simp, refs_snoc _ _ (by simp [h.len])]
      rw [aput_new _ _ _ (by rw [refs_keys (by simp [h.len])]; exact hs)] at hm4
      exact hm4
    · intro i hi hi'
      by_cases hlt : i < rs.length
      · have hG : i < G.length := by rw [← h.len]; exact hlt
        have hr := h.sets i hlt hG
        rw [List.getElem_append_left hlt, List.getElem_append_left hG]
        refine hr.fr ftot (fun e => ?_)
        rcases e with e | e | e | e
        · exact hap.1 (by rw [← e]; exact List.mem_cons_of_mem _ (List.getElem_mem hlt))
        · obtain ⟨cur, hcur⟩ := h.nodes.cells e
          exact hr.ne_cells hcur rfl
        · exact hr.ne_cells h.cell e.symm
        · exact hap.2.1 (by rw [← e]; exact List.getElem_mem hlt)
      · have he : i = rs.length := by simp at hi; omega
        subst he
        have e1 : (rs ++ [w2.heap.size])[rs.length] = w2.heap.size := by simp
        have e2 : (G ++ [(s, [])])[rs.length] = (s, []) := by
          have := h.len
          simp [this]
        rw [e1, e2]
        exact hnew.fr hf4 (fun e => by omega)
    · have hb := h.idx.lt
      have hrl : ∀ r ∈ rs, r < w.heap.size := fun r hr => by
        obtain ⟨i, hi, rfl⟩ := List.mem_iff_getElem.1 hr
        exact (h.sets i hi (by rw [← h.len]; exact hi)).lt
      rw [← List.cons_append, ← List.cons_append, List.nodup_append]
      refine ⟨h.apart, by simp, fun a ha b hb e => ?_⟩
      simp at hb
      subst hb
      subst e
      rcases List.mem_cons.1 ha with ha | ha
      · omega
      · rcases List.mem_cons.1 ha with ha | ha
        · omega
        · have := hrl _ ha; omega
    · intro r hr
      rcases List.mem_append.1 hr with hr | hr
      · exact .inl (h.fr r hr)
      · simp at hr; right; omega
    · intro k hk
      rcases hk2 k hk with hk' | hk'
      · exact .inl (h.fn k hk')
      · right; omega
    · intro e
      rcases hk2 _ e with hk' | hk'
      · exact h.ng hk'
      · omega
  · intro b _ e
    rcases e with e | e | e | e
    · rw [e]; exact h.fb
    · exact h.fn b e
    · rw [e]; exact h.fg
    · rw [e]; exact h.fe
end Go.Proofs.YthpfladpbfbpjaaDoor

/- zzFits1, Steps, impl.Run: what each call computes. -/
namespace Go.Proofs.YthpfladpbfbpjaaDoor
open Go.RowKit

theorem infoB : (Tryd.prog.info? 4).map (fun i => (i.zero, i.size, i.bytes)) = some (some (.bool false), 1, 1) := by kernel_rfl

/-- the nodes that steps add -/
def added (l : List St) : List Str := (l.filter fun s => decide (s.1 = 0)).map fun s => s.2.1
def StepOK (ns : List Str) (s : St) : Prop := 0 ≤ s.1 ∧ s.1 ≤ 3 ∧ (s.1 = 1 ∨ s.1 = 2 → s.2.1 ∈ ns ∧ s.2.2 ∈ ns)
def StepsOK (l : List St) : Prop := ∀ k (h : k < l.length), StepOK (added (l.take k)) l[k]
theorem added_snoc (l : List St) (s : St) : added (l ++ [s]) = if s.1 = 0 then added l ++ [s.2.1] else added l := by
  unfold added
  by_cases h : s.1 = 0 <;> simp [h]
theorem stepsOK_succ {l : List St} {k : Nat} (hk : k < l.length) (h : ∀ j (_ : j < k) (hj : j < l.length), StepOK (added (l.take j)) l[j]) (hs : StepOK (added (l.take k)) l[k]) :
    ∀ j (_ : j < k + 1) (hj : j < l.length), StepOK (added (l.take j)) l[j] := by
  intro j hj hjl
  by_cases e : j = k
  · subst e; exact hs
  · exact h j (by omega) hjl

end Go.Proofs.YthpfladpbfbpjaaDoor

/- AddNode, NewGraph, impl.Run: what each call computes. -/
namespace Go.Proofs.YthpfladpbfbpjaaDoor
open Go.RowKit

def addN (G : Gr) (s : Str) : Gr := if s ∈ names G then G else G ++ [(s, [])]
/-- the blocks that a graph may use behind a call that makes blocks -/
def more (F : Nat → Prop) (w w' : World) : Nat → Prop := fun k => (F k ∨ w.heap.size ≤ k) ∧ k < w'.heap.size

theorem GraphAt.bound {w : World} {F : Nat → Prop} {g : Nat} {G : Gr} (h : GraphAt w F g G) : GraphAt w (fun k => F k ∧ k < w.heap.size) g G := by
  obtain ⟨na, nc, mb, me, rs, h⟩ := h
  exact ⟨na, nc, mb, me, rs, { h with
    fg := ⟨h.fg, h.lt⟩
    fb := ⟨h.fb, h.idx.lt⟩
    fe := ⟨h.fe, h.tbl.lt⟩
    fr := fun r hr => ⟨h.fr r hr, by
      obtain ⟨i, hi, rfl⟩ := List.mem_iff_getElem.1 hr
      exact (h.sets i hi (by rw [← h.len]; exact hi)).lt⟩
    fn := fun k hk => ⟨h.fn k hk, (h.nodes.lt k hk).2⟩ }⟩
theorem GraphAt.alloc {w : World} {F : Nat → Prop} {g : Nat} {G : Gr} (h : GraphAt w F g G) (o : Obj) : GraphAt (w.alloc o) F g G := h.keep (Fr.alloc NoB w o) (fun _ _ hs => hs.elim)

theorem addNode_calls {w : World} {F : Nat → Prop} {g : Nat} {G : Gr} (s : Str) (h : GraphAt w F g G) (hsm : G.length < 4294967296) :
    Calls Tryd.prog 49 #[.pointer (some ⟨g, 0, none⟩), .string s] w fun e w' => e = .returned (.bool (!decide (s ∈ names G))) ∧ GraphAt w' (fun k => F k ∨ w.heap.size ≤ k) g (addN G s) ∧ Fr F w w' := by
  by_cases hs : s ∈ names G
  · refine (addNode_old s h hs).mono ?_
    rintro e w' ⟨rfl, rfl⟩
    exact ⟨ret_bool (by simp [hs]), by rw [addN, if_pos hs]; exact h.mono (fun _ hk => .inl hk), Fr.refl _ _⟩
  · refine (addNode_new s h hs hsm).mono ?_
    rintro e w' ⟨rfl, hg, hf⟩
    exact ⟨ret_bool (by simp [hs]), by rw [addN, if_neg hs]; exact hg, hf⟩


theorem names_setE (G : Gr) (s : Str) (f : List Str → List Str) : names (setE G s f) = names G := by
  unfold setE names
  rw [List.map_map]
  apply List.map_congr_left
  intro p _
  simp only [Function.comp]
  split <;> rfl
theorem addN_len (G : Gr) (s : Str) : (addN G s).length ≤ G.length + 1 := by unfold addN; split <;> simp
theorem names_addN (G : Gr) (s t : Str) : t ∈ names (addN G s) ↔ t ∈ names G ∨ t = s := by
  unfold addN
  split
  · rename_i h
    constructor
    · exact .inl
    · rintro (h' | rfl)
      · exact h'
      · exact h
  · simp
end Go.Proofs.YthpfladpbfbpjaaDoor

/- Plain laws on graphs as lists: which edges are there behind addN, addE, delE. No program in sight. -/
namespace Go.Proofs.YthpfladpbfbpjaaDoor

def GoodG (G : Gr) : Prop := (names G).Nodup ∧ ∀ p ∈ G, p.2.Nodup

theorem hasE_iff {G : Gr} {s t : Str} : hasE G s t = true ↔ ∃ p ∈ G, p.1 = s ∧ t ∈ p.2 := by
  unfold hasE
  simp [List.any_eq_true]
theorem hasE_names {G : Gr} {s t : Str} (h : hasE G s t = true) : s ∈ names G := by
  obtain ⟨p, hp, e, _⟩ := hasE_iff.1 h
  exact List.mem_map.2 ⟨p, hp, e⟩
theorem mem_ins {t x : Str} {l : List Str} : x ∈ ins t l ↔ x ∈ l ∨ x = t := by
  unfold ins
  split
  · rename_i h
    constructor
    · exact .inl
    · rintro (h' | rfl)
      · exact h'
      · exact h
  · simp
theorem nodup_ins {t : Str} {l : List Str} (h : l.Nodup) : (ins t l).Nodup := by
  unfold ins
  split
  · exact h
  · rename_i hn
    rw [List.nodup_append]
    refine ⟨h, by simp, fun a ha b hb e => ?_⟩
    simp at hb
    subst hb
    subst e
    exact hn ha
theorem mem_del {t x : Str} : ∀ {l : List Str}, l.Nodup → (x ∈ del t l ↔ x ∈ l ∧ x ≠ t)
  | [], _ => by simp [del]
  | y :: r, h => by
    have hy := (List.nodup_cons.1 h).1
    have hr := (List.nodup_cons.1 h).2
    unfold del
    by_cases e : y = t
    · subst e
      rw [if_pos rfl]
      constructor
      · intro hx
        exact ⟨List.mem_cons_of_mem _ hx, fun e => hy (e ▸ hx)⟩
      · rintro ⟨hx, hne⟩
        rcases List.mem_cons.1 hx with hx | hx
        · exact absurd hx hne
        · exact hx
    · rw [if_neg e, List.mem_cons, mem_del hr, List.mem_cons]
      constructor
      · rintro (rfl | ⟨hx, hne⟩)
        · exact ⟨.inl rfl, e⟩
        · exact ⟨.inr hx, hne⟩
      · rintro ⟨rfl | hx, hne⟩
        · exact .inl rfl
        · exact .inr ⟨hx, hne⟩
theorem sub_del (t : Str) : ∀ (l : List Str), (del t l).Sublist l
  | [] => by simp [del]
  | y :: r => by
    unfold del
    split
    · exact List.sublist_cons_self y r
    · exact (sub_del t r).cons_cons y
theorem nodup_del {t : Str} {l : List Str} (h : l.Nodup) : (del t l).Nodup := h.sublist (sub_del t l)

theorem goodG_setE {G : Gr} {s : Str} {f : List Str → List Str} (h : GoodG G) (hf : ∀ l, l.Nodup → (f l).Nodup) : GoodG (setE G s f) := by
  refine ⟨by rw [names_setE]; exact h.1, fun p hp => ?_⟩
  obtain ⟨q, hq, rfl⟩ := List.mem_map.1 hp
  split
  · exact hf _ (h.2 q hq)
  · exact h.2 q hq
theorem hasE_setE {G : Gr} (s : Str) (f : List Str → List Str) (a b : Str) :
    hasE (setE G s f) a b = true ↔ (a ≠ s ∧ hasE G a b = true) ∨ (a = s ∧ ∃ p ∈ G, p.1 = s ∧ b ∈ f p.2) := by
  rw [hasE_iff, hasE_iff]
  constructor
  · rintro ⟨p, hp, e, hb⟩
    obtain ⟨q, hq, rfl⟩ := List.mem_map.1 hp
    by_cases hqs : q.1 = s
    · rw [if_pos hqs] at e hb
      exact .inr ⟨by rw [← e]; exact hqs, q, hq, hqs, hb⟩
    · rw [if_neg hqs] at e hb
      exact .inl ⟨by rw [← e]; exact hqs, q, hq, e, hb⟩
  · rintro (⟨hne, p, hp, e, hb⟩ | ⟨rfl, p, hp, e, hb⟩)
    · refine ⟨p, List.mem_map.2 ⟨p, hp, ?_⟩, e, hb⟩
      rw [if_neg (by rw [e]; exact hne)]
    · refine ⟨(p.1, f p.2), List.mem_map.2 ⟨p, hp, ?_⟩, e, hb⟩
      rw [if_pos e]
theorem goodG_nil : GoodG [] := ⟨by simp, by simp⟩
theorem hasE_nil (a b : Str) : hasE [] a b = false := rfl
theorem goodG_addN {G : Gr} {s : Str} (h : GoodG G) : GoodG (addN G s) := by
  unfold addN
  split
  · exact h
  · rename_i hn
    refine ⟨?_, ?_⟩
    · rw [show names (G ++ [(s, [])]) = names G ++ [s] from by simp, List.nodup_append]
      refine ⟨h.1, by simp, fun a ha b hb e => ?_⟩
      simp at hb
      subst hb
      subst e
      exact hn ha
    · intro p hp
      rcases List.mem_append.1 hp with hp | hp
      · exact h.2 p hp
      · simp at hp; subst hp; simp
theorem hasE_addN (G : Gr) (s a b : Str) : hasE (addN G s) a b = hasE G a b := by
  unfold addN
  split
  · rfl
  · unfold hasE
    simp
theorem goodG_addE {G : Gr} {s t : Str} (h : GoodG G) : GoodG (addE G s t) := goodG_setE h (fun _ => nodup_ins)
theorem goodG_delE {G : Gr} {s t : Str} (h : GoodG G) : GoodG (delE G s t) := goodG_setE h (fun _ => nodup_del)
theorem hasE_addE {G : Gr} {s t : Str} (_h : GoodG G) (hs : s ∈ names G) (a b : Str) : hasE (addE G s t) a b = true ↔ hasE G a b = true ∨ (a = s ∧ b = t) := by
  unfold addE
  rw [hasE_setE s _ a b]
  constructor
  · rintro (⟨_, h1⟩ | ⟨rfl, p, hp, e, hb⟩)
    · exact .inl h1
    · rcases mem_ins.1 hb with hb | hb
      · exact .inl (hasE_iff.2 ⟨p, hp, e, hb⟩)
      · exact .inr ⟨rfl, hb⟩
  · rintro (h1 | ⟨rfl, rfl⟩)
    · by_cases e : a = s
      · subst e
        obtain ⟨p, hp, e, hb⟩ := hasE_iff.1 h1
        exact .inr ⟨rfl, p, hp, e, mem_ins.2 (.inl hb)⟩
      · exact .inl ⟨e, h1⟩
    · obtain ⟨p, hp, e⟩ := List.mem_map.1 hs
      exact .inr ⟨rfl, p, hp, e, mem_ins.2 (.inr rfl)⟩
theorem hasE_delE {G : Gr} {s t : Str} (h : GoodG G) (a b : Str) : hasE (delE G s t) a b = true ↔ hasE G a b = true ∧ ¬ (a = s ∧ b = t) := by
  unfold delE
  rw [hasE_setE s _ a b]
  constructor
  · rintro (⟨hne, h1⟩ | ⟨rfl, p, hp, e, hb⟩)
    · exact ⟨h1, fun hh => hne hh.1⟩
    · have := (mem_del (h.2 p hp)).1 hb
      exact ⟨hasE_iff.2 ⟨p, hp, e, this.1⟩, fun hh => this.2 hh.2⟩
  · rintro ⟨h1, hn⟩
    by_cases e : a = s
    · subst e
      obtain ⟨p, hp, e, hb⟩ := hasE_iff.1 h1
      exact .inr ⟨rfl, p, hp, e, (mem_del (h.2 p hp)).2 ⟨hb, fun hh => hn ⟨rfl, hh⟩⟩⟩
    · exact .inl ⟨e, h1⟩
end Go.Proofs.YthpfladpbfbpjaaDoor

/- Ranging over a map with string keys: what is still to come, as a list. -/
namespace Go.Proofs.YthpfladpbfbpjaaDoor
open Go.RowKit Go.MapKept
open Go.ChangeMaps (setBlock)

/-- At block it stands an iterator over the map at block b (which reads as m); left is what it has not handed out yet. -/
def Iter (w : World) (it b : Nat) (m left : AL) : Prop :=
  ∃ es clock since seen c0, w.heap[b]? = some (.map es clock) ∧ Ents es m ∧ Stamped es clock ∧ w.heap[it]? = some (.mapIter (some b) since seen c0) ∧
    (∀ x ∈ es.toList, x.born < since) ∧ since ≤ c0 ∧ since ≤ clock ∧ (leftOf es seen).toList.map (fun e => (e.key, e.val)) = left.map (fun p => (Value.string p.1, p.2))

section
variable {P : Program} {w w' : World} {it b : Nat} {m left : AL}
theorem Iter.lt (h : Iter w it b m left) : it < w.heap.size := by
  obtain ⟨es, clock, since, seen, c0, _, _, _, hi, _⟩ := h
  exact (Array.getElem?_eq_some_iff.1 hi).1
theorem Iter.map (h : Iter w it b m left) : SMap w b m := by
  obtain ⟨es, clock, since, seen, c0, hb, he, hs, _⟩ := h
  exact ⟨es, clock, hb, he, hs⟩
theorem Iter.fr {S : Nat → Prop} (h : Iter w it b m left) (f : Fr S w w') (h1 : ¬ S it) (h2 : ¬ S b) : Iter w' it b m left := by
  have hl := h.lt
  have hm := h.map.lt
  obtain ⟨es, clock, since, seen, c0, hb, he, hs, hi, r⟩ := h
  exact ⟨es, clock, since, seen, c0, (f.block b hm h2).trans hb, he, hs, (f.block it hl h1).trans hi, r⟩
theorem Iter.top (h : Iter w it b m left) (hb : Below w.heap.size w w') : Iter w' it b m left := h.fr (Fr.of_below_top hb NoB) (fun hs => hs.elim) (fun hs => hs.elim)
theorem Iter.alloc (h : Iter w it b m left) (o : Obj) : Iter (w.alloc o) it b m left := h.fr (Fr.alloc NoB w o) (fun hs => hs.elim) (fun hs => hs.elim)

theorem Iter.ne_cells {k : Nat} {c : Array Value} {e : TypeId} {f : Nat × Nat} (h : Iter w it b m left) (hk : w.heap[k]? = some (.cells c e f)) : k ≠ it := by
  rintro rfl
  obtain ⟨es, clock, since, seen, c0, _, _, _, hi, _⟩ := h
  rw [hk] at hi
  cases hi
theorem leftOf_none (es : Array MapEntry) : leftOf es #[] = es := by
  unfold leftOf
  rw [Array.filter_eq_self]
  intro x _
  simp

theorem filter_born : ∀ (L : List MapEntry) (i : Nat) (hi : i < L.length), (L.map (·.born)).Nodup → L.filter (fun x => !(x.born == L[i].born)) = L.eraseIdx i
  | [], _, hi, _ => absurd hi (by simp)
  | y :: r, 0, _, hnd => by
    rw [List.map_cons, List.nodup_cons] at hnd
    have hall : r.filter (fun x => !(x.born == y.born)) = r := by
      rw [List.filter_eq_self]
      intro x hx
      have : x.born ≠ y.born := fun hh => hnd.1 (by rw [← hh]; exact List.mem_map.2 ⟨x, hx, rfl⟩)
      simpa using this
    simp [hall]
  | y :: r, i + 1, hi, hnd => by
    rw [List.map_cons, List.nodup_cons] at hnd
    have hlr : i < r.length := by simpa using hi
    have ih := filter_born r i hlr hnd.2
    have hne : y.born ≠ r[i].born := fun hh => hnd.1 (by rw [hh]; exact List.mem_map.2 ⟨_, List.getElem_mem _, rfl⟩)
    rw [List.getElem_cons_succ, List.filter_cons, if_pos (by simpa using hne), List.eraseIdx_cons_succ, ih]
/-- 'range m' -/
theorem wpList_range_s {ops : Array Oper} {rest : List Oper} {o : Oper} {a : Act} {Q : Exit → Act → World → Prop} (w : World)
    (hg : o.guard = none) (mo : Operand) (t : TypeId) (hop : o.op = Op.range t mo) {k e : TypeId} (ht : P.underlying t = some (.map k e)) (b : Nat) (hm : a.eval mo = .map (some b)) (m : AL) (hs : SMap w b m) (it : Nat) (hit : w.heap.size = it)
    (h : ∀ w', Iter w' it b m m → Fr NoB w w' → w'.heap.size = it + 1 → wpList P ops Q rest (a.put o.dst (.pointer (some ⟨it, 0, none⟩))) w') : wpList P ops Q (o :: rest) a w := by
  subst hit
  refine wpList_plain hg fun K' hK' => ?_
  have hlt := hs.lt
  obtain ⟨es, clock, hb, he, hst⟩ := hs
  have hrun : (Instr.range t (.map (some b))).run P w = .ok (.pointer (some ⟨w.heap.size, 0, none⟩)) (w.alloc (.mapIter (some b) clock #[] clock)) := by
    unfold Instr.range
    simp only [Sem.run_bind, run_underlying ht, Result.andThen_ok, run_getMap hb, Sem.run_pure]
    rfl
  unfold Oper.wp
  simp [execOp, hop, hm, hrun, Result.andThen]
  refine hK' _ _ (h _ ⟨es, clock, clock, #[], clock, (Below.heap_alloc w _ b hlt).trans hb, he, hst, heap_alloc_new w _, hst.1, Nat.le_refl _, Nat.le_refl _, ?_⟩ (Fr.alloc _ _ _) (by simp))
  rw [leftOf_none]
  exact he
/-- the step: nothing is left, or one of what is left comes out -/
theorem wpList_next_s {ops : Array Oper} {rest : List Oper} {o : Oper} {a : Act} {Q : Exit → Act → World → Prop} (w : World)
    (hg : o.guard = none) (x : Operand) (hop : o.op = Op.next x false) (it b : Nat) (hx : a.eval x = .pointer (some ⟨it, 0, none⟩)) (m left : AL) (hi : Iter w it b m left)
    (hend : left = [] → wpList P ops Q rest (a.put o.dst (.tuple #[.bool false])) w)
    (hgo : ∀ s v l1 l2 w', Hid (left = l1 ++ (s, v) :: l2) → Hid ((s, v) ∈ m) → Iter w' it b m (l1 ++ l2) → Fr (fun k => k = it) w w' → (Instr.entry (.pointer (some ⟨it, 0, none⟩))).run P w' = .ok (.tuple #[.string s, v]) w' →
      wpList P ops Q rest (a.put o.dst (.tuple #[.bool true, .string s, v])) w') : wpList P ops Q (o :: rest) a w := by
  refine wpList_plain hg fun K' hK' => ?_
  have hil := hi.lt
  obtain ⟨es, clock, since, seen, c0, hb, he, hst, hr, hold, hsc, hscl, hleft⟩ := hi
  unfold Oper.wp
  rcases run_next_at (P := P) w o.type it b since c0 seen es clock hr hb hold hsc with ⟨h0, hrun⟩ | ⟨e, hem, w1, hw1, hrun⟩
  · have hl : left = [] := by
      have hnil : leftOf es seen = #[] := Array.eq_empty_of_size_eq_zero h0
      rw [hnil] at hleft
      cases left with
      | nil => rfl
      | cons _ _ => simp at hleft
    simp [execOp, hop, hx, hrun, Result.andThen]
    exact hK' _ _ (hend hl)
  · simp [execOp, hop, hx, hrun, Result.andThen]
    have hees : e ∈ es.toList := by
      unfold leftOf at hem
      simp at hem
      simpa using hem.1
    -- the entry's key and value
    have hpm : (e.key, e.val) ∈ left.map (fun p => (Value.string p.1, p.2)) := by
      rw [← hleft]
      exact List.mem_map.2 ⟨e, hem, rfl⟩
    obtain ⟨i, hilen, hie⟩ := List.mem_iff_getElem.1 hem
    have hlenl : (leftOf es seen).toList.length = left.length := by
      have := congrArg List.length hleft
      simpa using this
    have hil' : i < left.length := by rw [← hlenl]; exact hilen
    have hkv : e.key = .string left[i].1 ∧ e.val = left[i].2 := by
      have h1 := congrArg (fun l => l[i]?) hleft
      simp only [List.getElem?_map, List.getElem?_eq_getElem hilen, List.getElem?_eq_getElem hil', Option.map_some, Option.some.injEq, Prod.mk.injEq] at h1
      rw [hie] at h1
      exact h1
    have hsplit : left = left.take i ++ left[i] :: left.drop (i + 1) := by
      rw [← List.drop_eq_getElem_cons hil', List.take_append_drop]
    have hmem : left[i] ∈ m := by
      have h1 : (e.key, e.val) ∈ m.map (fun p => (Value.string p.1, p.2)) := by
        unfold Ents at he
        rw [← he]
        exact List.mem_map.2 ⟨e, hees, rfl⟩
      obtain ⟨q, hq, hqe⟩ := List.mem_map.1 h1
      rw [hkv.1, hkv.2] at hqe
      simp only [Prod.mk.injEq, Value.string.injEq] at hqe
      have : q = left[i] := Prod.ext hqe.1 hqe.2
      rw [← this]
      exact hq
    have hnd := hst.2.1
    have hleft' : (leftOf es (seen.push e.born)).toList.map (fun e => (e.key, e.val)) = (left.take i ++ left.drop (i + 1)).map (fun p => (Value.string p.1, p.2)) := by
      have hL : (leftOf es (seen.push e.born)).toList = (leftOf es seen).toList.eraseIdx i := by
        have h1 : (leftOf es (seen.push e.born)).toList = (leftOf es seen).toList.filter (fun x => !(x.born == e.born)) := by
          unfold leftOf
          rw [Array.toList_filter, Array.toList_filter, List.filter_filter]
          apply List.filter_congr
          intro x _
          by_cases hxe : x.born = e.born
          · simp [hxe]
          · simp [hxe]
        rw [h1]
        have hnd2 : ((leftOf es seen).toList.map (·.born)).Nodup := by
          unfold leftOf
          rw [Array.toList_filter]
          exact hnd.sublist (List.filter_sublist.map _)
        rw [← hie]
        exact filter_born _ i hilen hnd2
      rw [hL, map_eraseIdx, hleft, ← map_eraseIdx, List.eraseIdx_eq_take_drop_succ]
    have hw1h : w1.heap = w.heap := by rcases hw1 with rfl | rfl <;> rfl
    have hr1 : w1.heap[it]? = some (.mapIter (some b) since seen c0) := by rw [hw1h]; exact hr
    have hbne : b ≠ it := by
      intro e1
      rw [e1, hr] at hb
      cases hb
    have hset : (setBlock w1 it (.mapIter (some b) since (seen.push e.born) clock)).heap[it]? = some (.mapIter (some b) since (seen.push e.born) clock) := by
      simp only [setBlock, Array.getElem?_setIfInBounds, if_true]
      rw [hw1h, if_pos hil]
    have hsetb : (setBlock w1 it (.mapIter (some b) since (seen.push e.born) clock)).heap[b]? = some (.map es clock) := by
      simp only [setBlock, Array.getElem?_setIfInBounds]
      rw [if_neg (fun e1 => hbne e1.symm), hw1h]
      exact hb
    have hfr : Fr (fun k => k = it) w (setBlock w1 it (.mapIter (some b) since (seen.push e.born) clock)) := by
      refine ⟨?_, ?_, ?_, ?_, ?_⟩
      · rcases hw1 with rfl | rfl <;> rfl
      · rcases hw1 with rfl | rfl <;> rfl
      · rcases hw1 with rfl | rfl <;> rfl
      · simp [setBlock, hw1h]
      · intro k _ hk
        simp only [setBlock, Array.getElem?_setIfInBounds]
        rw [if_neg (fun e1 => hk e1.symm), hw1h]
    have hent := run_entry_at (P := P) (setBlock w1 it (.mapIter (some b) since (seen.push e.born) clock)) it b since seen es clock e hset hsetb hees hnd
    rw [hkv.1, hkv.2] at hent ⊢
    refine hK' _ _ (hgo left[i].1 left[i].2 (left.take i) (left.drop (i + 1)) _ (Lib.hid hsplit) (Lib.hid hmem) ⟨es, clock, since, seen.push e.born, clock, hsetb, he, hst, hset, hold, hscl, hscl, hleft'⟩ hfr hent)
end
end Go.Proofs.YthpfladpbfbpjaaDoor

/- Plain laws on the closure of edges: what follows from edges, as a function. No program in sight. -/
namespace Go.Proofs.YthpfladpbfbpjaaDoor

/-- one round of the closure: over a node x -/
def cloStep (M : Str → Str → Bool) (x : Str) : Str → Str → Bool := fun a b => M a b || (M a x && M x b)
def base (es : List Ed) : Str → Str → Bool := fun a b => decide ((a, b) ∈ es)
/-- what follows from edges es over nodes ns -/
def clo (ns : List Str) (es : List Ed) : Str → Str → Bool := ns.foldl cloStep (base es)
theorem clo_snoc (ns : List Str) (x : Str) (es : List Ed) : clo (ns ++ [x]) es = cloStep (clo ns es) x := by simp [clo, List.foldl_append]
theorem clo_nil (es : List Ed) : clo [] es = base es := rfl
theorem cloStep_iff {M : Str → Str → Bool} {x a b : Str} : cloStep M x a b = true ↔ M a b = true ∨ (M a x = true ∧ M x b = true) := by
  simp [cloStep]
theorem base_iff {es : List Ed} {a b : Str} : base es a b = true ↔ (a, b) ∈ es := by simp [base]
theorem clo_mono {ns : List Str} {es : List Ed} {a b : Str} (h : (a, b) ∈ es) : clo ns es a b = true := by
  refine snoc_ind (P := fun ns => clo ns es a b = true) (base_iff.2 h) ?_ ns
  intro l x ih
  show clo (l ++ [x]) es a b = true
  rw [clo_snoc, cloStep_iff]
  exact .inl ih
theorem clo_via {ns : List Str} {es : List Ed} : ∀ {m a b : Str}, m ∈ ns → clo ns es a m = true → clo ns es m b = true → clo ns es a b = true := by
  refine snoc_ind (P := fun ns => ∀ {m a b : Str}, m ∈ ns → clo ns es a m = true → clo ns es m b = true → clo ns es a b = true) (fun hm => by simp at hm) ?_ ns
  intro l x ih m a b hm h1 h2
  rw [clo_snoc, cloStep_iff] at h1 h2 ⊢
  have hkk : ∀ {u v : Str}, (clo l es u x = true ∨ (clo l es u x = true ∧ clo l es x x = true)) → clo l es u x = true := fun h => h.elim id (·.1)
  by_cases hmx : m = x
  · subst hmx
    right
    refine ⟨?_, ?_⟩
    · rcases h1 with h1 | h1
      · exact h1
      · exact h1.1
    · rcases h2 with h2 | h2
      · exact h2
      · exact h2.2
  · have hml : m ∈ l := by
      rcases List.mem_append.1 hm with hm | hm
      · exact hm
      · simp at hm; exact absurd hm hmx
    rcases h1 with h1 | h1 <;> rcases h2 with h2 | h2
    · exact .inl (ih hml h1 h2)
    · exact .inr ⟨ih hml h1 h2.1, h2.2⟩
    · exact .inr ⟨h1.1, ih hml h1.2 h2⟩
    · exact .inr ⟨h1.1, h2.2⟩
/-- it is the least -/
theorem clo_least {ns : List Str} {es : List Ed} {T : Str → Str → Prop} (hb : ∀ a b, (a, b) ∈ es → T a b) (ht : ∀ a m b, T a m → T m b → T a b) : ∀ {a b : Str}, clo ns es a b = true → T a b := by
  refine snoc_ind (P := fun ns => ∀ {a b : Str}, clo ns es a b = true → T a b) (fun h => hb _ _ (base_iff.1 h)) ?_ ns
  intro l x ih a b h
  rw [clo_snoc, cloStep_iff] at h
  rcases h with h | h
  · exact ih h
  · exact ht _ _ _ (ih h.1) (ih h.2)
theorem clo_ends {ns : List Str} {es : List Ed} (hin : ∀ e ∈ es, e.1 ∈ ns ∧ e.2 ∈ ns) {a b : Str} (h : clo ns es a b = true) : a ∈ ns ∧ b ∈ ns :=
  clo_least (T := fun a b => a ∈ ns ∧ b ∈ ns) (fun _ _ h => hin _ h) (fun _ _ _ h1 h2 => ⟨h1.1, h2.2⟩) h
theorem clo_trans {ns : List Str} {es : List Ed} (hin : ∀ e ∈ es, e.1 ∈ ns ∧ e.2 ∈ ns) {a m b : Str} (h1 : clo ns es a m = true) (h2 : clo ns es m b = true) : clo ns es a b = true :=
  clo_via (clo_ends hin h1).2 h1 h2
/-- the closure does not hang on the order of nodes or edges -/
theorem clo_congr {ns ns' : List Str} {es es' : List Ed} (hin : ∀ e ∈ es', e.1 ∈ ns' ∧ e.2 ∈ ns') (h : ∀ e, e ∈ es → e ∈ es') {a b : Str} (hc : clo ns es a b = true) : clo ns' es' a b = true :=
  clo_least (T := fun a b => clo ns' es' a b = true) (fun _ _ he => clo_mono (h _ he)) (fun _ _ _ h1 h2 => clo_trans hin h1 h2) hc

/-- all pairs of nodes, row by row -/
def pairs (ns : List Str) : List Ed := ns.flatMap fun a => ns.map fun b => (a, b)
/-- what spec.Closed returns -/
def closedL (ns : List Str) (es : List Ed) : List Ed := (pairs ns).filter fun e => clo ns es e.1 e.2
theorem mem_pairs {ns : List Str} {e : Ed} : e ∈ pairs ns ↔ e.1 ∈ ns ∧ e.2 ∈ ns := by
  unfold pairs
  simp only [List.mem_flatMap, List.mem_map]
  constructor
  · rintro ⟨a, ha, b, hb, rfl⟩; exact ⟨ha, hb⟩
  · rintro ⟨ha, hb⟩; exact ⟨_, ha, _, hb, rfl⟩
theorem mem_closedL {ns : List Str} {es : List Ed} (hin : ∀ e ∈ es, e.1 ∈ ns ∧ e.2 ∈ ns) {e : Ed} : e ∈ closedL ns es ↔ clo ns es e.1 e.2 = true := by
  unfold closedL
  rw [List.mem_filter, mem_pairs]
  exact ⟨fun h => h.2, fun h => ⟨clo_ends hin h, h⟩⟩
theorem closedL_in {ns : List Str} {es : List Ed} : ∀ e ∈ closedL ns es, e.1 ∈ ns ∧ e.2 ∈ ns := fun _ he => mem_pairs.1 (List.mem_filter.1 he).1
theorem nodup_flat' {α : Type} (f : Str → List α) (key : α → Str) (hk : ∀ s x, x ∈ f s → key x = s) (hf : ∀ s, (f s).Nodup) : ∀ (l : List Str), l.Nodup → (l.flatMap f).Nodup
  | [], _ => by simp
  | s :: r, h => by
    have hs := List.nodup_cons.1 h
    rw [List.flatMap_cons, List.nodup_append]
    refine ⟨hf s, nodup_flat' f key hk hf r hs.2, fun a ha b hb e => ?_⟩
    subst e
    obtain ⟨t, ht, hat⟩ := List.mem_flatMap.1 hb
    have := (hk _ _ ha).symm.trans (hk _ _ hat)
    subst this
    exact hs.1 ht
theorem nodup_pairs {ns : List Str} (h : ns.Nodup) : (pairs ns).Nodup := by
  refine nodup_flat' _ Prod.fst ?_ ?_ _ h
  · intro s x hx
    obtain ⟨t, _, rfl⟩ := List.mem_map.1 hx
    rfl
  · intro s
    exact (List.pairwise_map).2 (List.Pairwise.imp (fun hne e => hne (by simpa using e)) h)
theorem nodup_closedL {ns : List Str} {es : List Ed} (h : ns.Nodup) : (closedL ns es).Nodup := (nodup_pairs h).sublist List.filter_sublist
theorem nodup_subset_len {α : Type} [DecidableEq α] : ∀ {l1 l2 : List α}, l1.Nodup → (∀ x ∈ l1, x ∈ l2) → l1.length ≤ l2.length
  | [], _, _, _ => by simp
  | x :: r, l2, h, hs => by
    have hx : x ∈ l2 := hs x (by simp)
    have hn := List.nodup_cons.1 h
    have := nodup_subset_len (l1 := r) (l2 := l2.erase x) hn.2 (fun y hy => by
      have hne : y ≠ x := fun e => hn.1 (e ▸ hy)
      exact (List.mem_erase_of_ne hne).2 (hs y (List.mem_cons_of_mem _ hy)))
    have hl := List.length_erase_of_mem hx
    have hp : 0 < l2.length := List.length_pos_of_mem hx
    rw [List.length_cons]
    omega
end Go.Proofs.YthpfladpbfbpjaaDoor

/- Square tables of bools laid as one row; a row's cell written; a row made whole. Over any program. -/
namespace Go.Proofs.YthpfladpbfbpjaaDoor
open Go.RowKit

theorem flat_single {α : Type} (f : α → Value) : ∀ (l : List α), l.flatMap (fun x => [f x]) = l.map f
  | [] => rfl
  | x :: r => by rw [List.flatMap_cons, flat_single f r]; rfl
section
variable {α : Type} {f : α → Value} {w : World} {B g cap : Nat} {e : TypeId} {l : List α}
theorem Own.at1 (h : Own (fun x => [f x]) 1 w B e (some ⟨g, 0, none⟩) cap l) (k : Nat) (hk : k < l.length) : w.cell? ⟨g, k, none⟩ = some (f l[k]) := by
  have := World.ownsRow.cellAt h k (by simpa using hk)
  rw [this, flat_single]
  simp [hk]
theorem Own.frozen1 (h : Own (fun x => [f x]) 1 w B e (some ⟨g, 0, none⟩) cap l) (k : Nat) : w.frozen? ⟨g, k, none⟩ = false := World.ownsRow.frozenAt h k
theorem Own.set1 (h : Own (fun x => [f x]) 1 w B e (some ⟨g, 0, none⟩) cap l) (k : Nat) (y : α) :
    Own (fun x => [f x]) 1 (w.setCell ⟨g, k, none⟩ (f y)) B e (some ⟨g, 0, none⟩) cap (l.set k y) := by
  have := (World.ownsRow.stored h k (f y)).1
  unfold Own
  rw [flat_single] at this ⊢
  rw [List.map_set, List.length_set]
  exact this
/-- a row's block whole -/
theorem Own.blk_lt (h : Own (fun x => [f x]) 1 w B e (some ⟨g, 0, none⟩) cap l) : B ≤ g ∧ g < w.heap.size := h.lt g rfl
end

/-- m is the table of A, n by n, row by row -/
def Mat (n : Nat) (m : List Bool) (A : Nat → Nat → Bool) : Prop := m.length = n * n ∧ ∀ i j, i < n → j < n → m[i * n + j]? = some (A i j)
theorem mat_lt {n i j : Nat} (hi : i < n) (hj : j < n) : i * n + j < n * n := by
  have : (i + 1) * n ≤ n * n := Nat.mul_le_mul_right n hi
  rw [Nat.add_mul] at this
  omega
theorem mat_inj {n i j p q : Nat} (hj : j < n) (hq : q < n) (e : i * n + j = p * n + q) : i = p ∧ j = q := by
  have h1 : (i * n + j) / n = i := by
    rw [Nat.mul_comm, Nat.mul_add_div (by omega), Nat.div_eq_of_lt hj]; rfl
  have h2 : (p * n + q) / n = p := by
    rw [Nat.mul_comm, Nat.mul_add_div (by omega), Nat.div_eq_of_lt hq]; rfl
  have h3 : i = p := by rw [← h1, ← h2, e]
  subst h3
  exact ⟨rfl, by omega⟩
theorem Mat.congr {n : Nat} {m : List Bool} {A A' : Nat → Nat → Bool} (h : Mat n m A) (hA : ∀ i j, i < n → j < n → A i j = A' i j) : Mat n m A' :=
  ⟨h.1, fun i j hi hj => by rw [← hA i j hi hj]; exact h.2 i j hi hj⟩
theorem Mat.set {n : Nat} {m : List Bool} {A A' : Nat → Nat → Bool} (h : Mat n m A) {i j : Nat} (hi : i < n) (hj : j < n) (b : Bool)
    (hA : ∀ p q, p < n → q < n → A' p q = if p = i ∧ q = j then b else A p q) : Mat n (m.set (i * n + j) b) A' := by
  refine ⟨by rw [List.length_set]; exact h.1, fun p q hp hq => ?_⟩
  rw [hA p q hp hq, List.getElem?_set]
  by_cases e : i * n + j = p * n + q
  · obtain ⟨rfl, rfl⟩ := mat_inj hj hq e
    have := mat_lt hi hj
    simp [h.1, this]
  · rw [if_neg e, if_neg (fun hh => e (by rw [hh.1, hh.2]))]
    exact h.2 p q hp hq
theorem Mat.get {n : Nat} {m : List Bool} {A : Nat → Nat → Bool} (h : Mat n m A) {i j : Nat} (hi : i < n) (hj : j < n) : ∃ hk : i * n + j < m.length, m[i * n + j] = A i j := by
  have hlt := mat_lt hi hj
  have hk : i * n + j < m.length := by rw [h.1]; exact hlt
  refine ⟨hk, ?_⟩
  have := h.2 i j hi hj
  rw [List.getElem?_eq_getElem hk] at this
  exact Option.some.inj this
/-- a round over x, part of it done: the rows ahead of i, and of row i what is ahead of j -/
def part (A : Nat → Nat → Bool) (x i j : Nat) : Nat → Nat → Bool := fun p q => if p < i ∨ (p = i ∧ q < j) then A p q || (A p x && A x q) else A p q
theorem part_start (A : Nat → Nat → Bool) (x : Nat) : part A x 0 0 = A := by
  funext p q
  unfold part
  rw [if_neg (by omega)]
theorem part_row {n : Nat} (A : Nat → Nat → Bool) (x i : Nat) : ∀ p q, p < n → q < n → part A x i n p q = part A x (i + 1) 0 p q := by
  intro p q hp hq
  unfold part
  by_cases h : p < i ∨ (p = i ∧ q < n)
  · rw [if_pos h, if_pos (by omega)]
  · rw [if_neg h, if_neg (by omega)]
theorem part_end {n : Nat} (A : Nat → Nat → Bool) (x : Nat) : ∀ p q, p < n → q < n → part A x n 0 p q = (A p q || (A p x && A x q)) := by
  intro p q hp hq
  unfold part
  rw [if_pos (by omega)]
theorem part_col (A : Nat → Nat → Bool) (x i j p : Nat) : part A x i j p x = A p x := by
  unfold part
  split
  · cases A p x <;> simp
  · rfl
theorem part_rowx (A : Nat → Nat → Bool) (x i j q : Nat) : part A x i j x q = A x q := by
  unfold part
  split
  · cases A x q <;> simp
  · rfl
theorem part_yes (A : Nat → Nat → Bool) (x i j : Nat) (h : (A i x && A x j) = true) : ∀ p q, part A x i (j + 1) p q = if p = i ∧ q = j then true else part A x i j p q := by
  intro p q
  unfold part
  by_cases e : p = i ∧ q = j
  · obtain ⟨rfl, rfl⟩ := e
    rw [if_pos (by omega), h, if_pos ⟨rfl, rfl⟩]
    simp
  · rw [if_neg e]
    by_cases h1 : p < i ∨ (p = i ∧ q < j)
    · rw [if_pos h1, if_pos (by omega)]
    · rw [if_neg h1, if_neg (by omega)]
theorem part_no (A : Nat → Nat → Bool) (x i j : Nat) (h : (A i x && A x j) = false) : ∀ p q, part A x i j p q = part A x i (j + 1) p q := by
  intro p q
  unfold part
  by_cases e : p = i ∧ q = j
  · obtain ⟨rfl, rfl⟩ := e
    rw [if_neg (by omega), if_pos (by omega), h]
    simp
  · by_cases h1 : p < i ∨ (p = i ∧ q < j)
    · rw [if_pos h1, if_pos (by omega)]
    · rw [if_neg h1, if_neg (by omega)]

section
variable {P : Program}
/-- the kit's law for a region whose head only reads, its world under its name -/
theorem region_still_tail {id : Nat} {Q : Exit → Act → World → Prop} {a : Act} {w : World} {l : List Oper} (n : Nat) (hm : P.follows .mixedOrders = true) (hB : Region.lexTailB .any l.toArray n = true)
    (h : wpStill P l.toArray w.drew (fun a' => wpList P l.toArray Q (l.drop n) a' w.drew) (l.take n) a) : (Code.region id l.toArray true).wp P Q a w := wp_region_still_tail n hm hB h
/-- 'make([]T, n)', its elements of one cell -/
theorem wpList_make1 {α : Type} (f : α → Value) (x0 : α) (w : World) {ops : Array Oper} {rest : List Oper} {o : Oper} {a : Act} {Q : Exit → Act → World → Prop} (hgd : o.guard = none) (l c : Operand) (t : TypeId) (ho : o.op = .makeSlice t l c)
    (B : Nat) (e : TypeId) (bytes : Nat) (ht : P.underlying t = some (.slice e)) (hinfo : (P.info? e).map (fun i => (i.zero, i.size, i.bytes)) = some (some (f x0), 1, bytes)) (h1 : (f x0).cells = #[f x0])
    (L C : Int) (n : Nat) (hl : a.eval l = .int .i64 L) (hc : a.eval c = .int .i64 C) (hL : L = (n : Int)) (hC : C = (n : Int)) (hb : bytes * n ≤ 281474976710656) (hn : n ≤ 9223372036854775807) (hB : B ≤ w.heap.size)
    (h : ∀ w', Own (fun x => [f x]) 1 w' B e (some ⟨w.heap.size, 0, none⟩) n (List.replicate n x0) → Fr NoB w w' → w'.heap.size = w.heap.size + 1 → wpList P ops Q rest (a.put o.dst (.slice (some ⟨w.heap.size, 0, none⟩) n n)) w') : wpList P ops Q (o :: rest) a w := by
  obtain ⟨i, hi, hz0, hz1, hz2⟩ := info_parts hinfo
  subst hz2
  subst hL
  subst hC
  refine wpList_plain hgd fun K' hK' => ?_
  have hr := run_make (P := P) w t e i (f x0) ht hi hz0 .i64 .i64 n n (by omega) (Int.le_refl _) (by
    have h2 : ((i.bytes * n : Nat) : Int) ≤ 281474976710656 := by omega
    rwa [Int.natCast_mul] at h2) (by omega)
  simp only [Int.toNat_natCast] at hr
  unfold Oper.wp
  simp only [execOp, ho, hl, hc]
  simp [hr, Result.andThen]
  refine hK' _ _ (h _ ?_ (Fr.alloc _ _ _) (by simp))
  have h3 := World.ownsRow_lit (base := B) (e := e) (size := 1) w (madeCells (f x0).cells (n * i.size)) n hB (by simpa [maxLen] using hn) (by rw [hz1]; simpa using size_madeCells (f x0).cells n)
  unfold Own
  rw [flat_single, List.map_replicate, List.length_replicate]
  rw [hz1, Nat.mul_one, h1, toList_madeCells_one] at h3
  rw [hz1, Nat.mul_one, h1]
  exact h3
/-- 'make([]T, 0, n)', its elements of one cell -/
theorem wpList_make0 {α : Type} (f : α → Value) (z : Value) (w : World) {ops : Array Oper} {rest : List Oper} {o : Oper} {a : Act} {Q : Exit → Act → World → Prop} (hgd : o.guard = none) (l c : Operand) (t : TypeId) (ho : o.op = .makeSlice t l c)
    (B : Nat) (e : TypeId) (bytes : Nat) (ht : P.underlying t = some (.slice e)) (hinfo : (P.info? e).map (fun i => (i.zero, i.size, i.bytes)) = some (some z, 1, bytes))
    (C : Int) (n : Nat) (hl : a.eval l = .int .i64 0) (hc : a.eval c = .int .i64 C) (hC : C = (n : Int)) (hb : bytes * n ≤ 281474976710656) (hn : n ≤ 9223372036854775807) (hB : B ≤ w.heap.size)
    (h : ∀ w', Own (fun x : α => [f x]) 1 w' B e (some ⟨w.heap.size, 0, none⟩) n [] → Fr NoB w w' → w'.heap.size = w.heap.size + 1 → wpList P ops Q rest (a.put o.dst (.slice (some ⟨w.heap.size, 0, none⟩) 0 n)) w') : wpList P ops Q (o :: rest) a w := by
  obtain ⟨i, hi, hz0, hz1, hz2⟩ := info_parts hinfo
  subst hz2
  subst hC
  refine wpList_plain hgd fun K' hK' => ?_
  have hr := run_make (P := P) w t e i z ht hi hz0 .i64 .i64 0 n (Int.le_refl _) (by omega) (by
    have h2 : ((i.bytes * n : Nat) : Int) ≤ 281474976710656 := by omega
    rwa [Int.natCast_mul] at h2) (by omega)
  simp only [Int.toNat_natCast] at hr
  unfold Oper.wp
  simp only [execOp, ho, hl, hc]
  simp [hr, Result.andThen]
  refine hK' _ _ (h _ ?_ (Fr.alloc _ _ _) (by simp))
  have := World.ownsRow_made (base := B) (e := e) (size := 1) w (madeCells z.cells (n * i.size)) n hB (by simpa [maxLen] using hn) (by rw [hz1]; simpa using size_madeCells z.cells n)
  exact this

/-- 'x = append(x, v)' at a step of a region that draws its order -/
theorem step_append_new {α : Type} {y : α} (enc : α → List Value) (size : Nat) (hlen : ∀ x, (enc x).length = size) (hone : ∀ x u, u ∈ enc x → u.oneCell' = true)
    (w0 W : World) (T0 : TypeId) (hW : W = w0.alloc (.cells (enc y).toArray T0)) {ops : Array Oper} {o : Oper} {a : Act} {K : Act → World → Prop} {Q : Exit → Act → World → Prop} {E : Prop} (hgd : o.guard = none) (s x : Operand) (t : TypeId)
    (ho : o.op = .call { callee := .builtin .append, args := #[s, x], argTypes := #[t, t] })
    (e : TypeId) (z : Value) (bytes : Nat) (ht : P.underlying t = some (.slice e)) (hinfo : (P.info? e).map (fun i => (i.zero, i.size, i.bytes)) = some (some z, size, bytes)) (hzs : z.cells.size = size) (hsz : 0 < size)
    (B : Nat) (sa : Option Addr) (cap : Nat) (l : List α) (hs : a.eval s = .slice sa l.length cap) (hown : Own enc size w0 B e sa cap l)
    (c nb : Nat) (hnb : w0.heap.size = nb) (hx : a.eval x = .slice (some ⟨nb, 0, none⟩) 1 c) (h63 : l.length + 1 ≤ 4611686018427387904) (hbytes : (l.length + 1) * bytes ≤ 140737488355328) (hbase : B ≤ w0.heap.size)
    (h : ∀ g cap' w', Own enc size w' B e (some ⟨g, 0, none⟩) cap' (l ++ [y]) → Fr (fun k => blk sa = some k) w0 w' → (blk sa = some g ∨ w0.heap.size ≤ g) → K (a.put o.dst (.slice (some ⟨g, 0, none⟩) (l.length + 1) cap')) w') :
    if Region.wanted o (yielded ops a.tmps) = true then Oper.wp P o a W K Q else E := by
  subst hW
  subst hnb
  obtain ⟨i, hi, hz0, hz1, hz2⟩ := info_parts hinfo
  refine step_append_lies (w0.alloc (.cells (enc y).toArray T0)) hgd s x t ho B e i z size bytes ht hi hz0 hz1 hz2 hzs hsz (.slice sa l.length cap) l.length (l.flatMap enc) hs (hown.alloc _)
    ⟨w0.heap.size, 0, none⟩ 1 c (enc y) hx (by simpa using hlen y) (cells_new w0 (enc y) T0) (hone y) (by omega) (by simp only [maxLen]; omega) hbytes (by simp; omega) (w0.heap.size + 1) (by simp) ?_
  intro g cap' w' hown' hg hat hlt
  refine h g cap' w' ?_ ((Fr.alloc _ w0 _).trans (Fr.of_grown hg) ?_) ?_
  · unfold Own
    rw [List.flatMap_append, List.length_append]
    simpa using hown'
  · intro b _ hb
    rw [ownBlock_slice] at hb
    exact hb
  · rw [ownBlock_slice] at hat
    rcases hat with hat | hat
    · exact .inl hat
    · right; omega
end
end Go.Proofs.YthpfladpbfbpjaaDoor

/- SameEdges, SameNodes, Place, plain: what each call computes. -/
namespace Go.Proofs.YthpfladpbfbpjaaDoor
open Go.RowKit

theorem edged_yes {a : Option Addr} {cap n : Nat} {l : List Ed} (x : Ed) (w : World) (hn : n = l.length) (h : Sl encE 2 w a cap l) (hx : x ∈ l) :
    Calls Tryd.prog 31 #[.slice a n cap, .string x.1, .string x.2] w fun e w' => e = .returned (.bool true) ∧ Below w.heap.size w w' :=
  (edged_calls x.1 x.2 w hn h).mono fun e w' hh => ⟨by rw [hh.1]; simpa using hx, hh.2⟩
theorem edged_no {a : Option Addr} {cap n : Nat} {l : List Ed} (x : Ed) (w : World) (hn : n = l.length) (h : Sl encE 2 w a cap l) (hx : x ∉ l) :
    Calls Tryd.prog 31 #[.slice a n cap, .string x.1, .string x.2] w fun e w' => e = .returned (.bool false) ∧ Below w.heap.size w w' :=
  (edged_calls x.1 x.2 w hn h).mono fun e w' hh => ⟨by rw [hh.1]; simpa using hx, hh.2⟩

/-- both lists the same edges, the first each once: the call says yes -/
theorem sameEdges_calls {a b : Option Addr} {cap capb n m : Nat} {l r : List Ed} (w : World) (hn : n = l.length) (hm : m = r.length) (h : Sl encE 2 w a cap l) (h' : Sl encE 2 w b capb r)
    (hnd : l.Nodup) (hset : ∀ e, e ∈ l ↔ e ∈ r) :
    Calls Tryd.prog 26 #[.slice a n cap, .slice b m capb] w fun e w' => e = .returned (.bool true) ∧ Below w.heap.size w w' := by
  subst hn
  subst hm
  have hl := h.len
  have hl' := h'.len
  have hlc := h.1
  have HND := Lib.hid hnd; clear hnd
  have HSET := Lib.hid hset; clear hset
  go_enter Tryd.func26, Tryd.ntmps26
  go_wp2
  go_loopg [11] l.length (fun gk i wr => ∃ k : Nat, k ≤ l.length ∧ gk = l.length - k ∧ i = .int .i64 k ∧ Below w.heap.size w wr)
  case atStart => exact ⟨0, Nat.zero_le _, by omega, rfl, Below.refl _ _⟩
  case round =>
    obtain ⟨k, hk, rfl, rfl, hb⟩ := hrel
    have hsz := hb.size
    by_cases hlt : k < l.length
    · have hlr := h.top hb
      have hlr' := h'.top hb
      obtain ⟨bb, off, rfl, hbl, h1, h2⟩ := hlr.e2 hlt
      have hd1 : Hid (l[k] ∉ l.take k) := Lib.hid ((nodup_take_succ hlt).1 (nodup_take (k + 1) HND.out)).2
      have hd2 : Hid (l[k] ∈ r) := Lib.hid ((HSET.out _).1 (List.getElem_mem hlt))
      have hd3 : ((k : Int)).toNat = k := by simp
      have hd4 : (0 : Int) ≤ (k : Int) := by omega
      have hd5 : (k : Int) ≤ (cap : Int) := by omega
      have hd6 : k ≤ cap := by omega
      generalize l[k] = x at *
      go_wp2_with fail
      go_region_held3 (fun w' => w'.cell? ⟨wr.heap.size, 0, none⟩ = some (.string x.1) ∧ w'.cell? ⟨wr.heap.size, 1, none⟩ = some (.string x.2) ∧ Below (wr.heap.size + 1) (wr.alloc (.cells #[.string x.1, .string x.2] 54)) w')
        (refine ⟨?_, ?_, ?_⟩ <;> first | go_keep | (exact (Below.refl _ _).fr (Fr.drew NoB _) (by simp) (fun _ hs => hs.elim)) | (exact HB5) | (exact HB6) | (rw [HB5.cell (by simp)]; simp [go_sem]) | (rw [HB6.cell (by simp)]; simp [go_sem]))
        (first
          | (go_at_call 31
             refine (edged_no (l := l.take k) x _ ?_ ?_ hd1.out).mono ?_
             · simp; omega
             · exact (hlr.take k).alloc _
             rintro e w5 ⟨rfl, hb5⟩
             have HB5 : Below (wr.heap.size + 1) (wr.alloc (.cells #[.string x.1, .string x.2] 54)) w5 := ((Below.refl _ _).fr (Fr.drew NoB _) (by simp) (fun _ hs => hs.elim)).top hb5 (by simp)
             clear hb5)
          | (go_at_call 31
             refine (edged_yes (l := r) x _ ?_ ?_ hd2.out).mono ?_
             · rfl
             · exact (hlr'.alloc _).below HB5 (by simp)
             rintro e w6 ⟨rfl, hb6⟩
             have HB6 : Below (wr.heap.size + 1) (wr.alloc (.cells #[.string x.1, .string x.2] 54)) w6 := HB5.top hb6 (by simp)
             clear hb6))
      go_wp2
      go_roundg (l.length - (k + 1))
      case measure => omega
      case rel => exact ⟨k + 1, by omega, rfl, by go_num, (hb.alloc hsz _).trans (HB6.mono (by omega))⟩
    · go_wp2
      go_loopg [36] r.length (fun gk i wr => ∃ k : Nat, k ≤ r.length ∧ gk = r.length - k ∧ i = .int .i64 k ∧ Below w.heap.size w wr)
      case atStart => exact ⟨0, Nat.zero_le _, by omega, rfl, hb⟩
      case round =>
        obtain ⟨j, hj, rfl, rfl, hbj⟩ := hrel
        have hsz := hbj.size
        by_cases hjl : j < r.length
        · obtain ⟨bb, off, rfl, hbl, h1, h2⟩ := (h'.top hbj).e2 hjl
          have hlr := (h.top hbj).alloc (.cells #[.string r[j].1, .string r[j].2] 54)
          have hd1 : Hid (r[j] ∈ l) := Lib.hid ((HSET.out _).2 (List.getElem_mem hjl))
          go_wp2_with (go_at_call 31; refine (edged_yes _ _ rfl hlr hd1.out).mono ?_; rintro e w5 ⟨rfl, hb5⟩)
          go_roundg (r.length - (j + 1))
          case measure => omega
          case rel => exact ⟨j + 1, by omega, rfl, by go_num, (hbj.alloc hsz _).top hb5 (Nat.le_refl _)⟩
        · go_wp2
          go_ret
          exact ⟨rfl, hbj⟩
end Go.Proofs.YthpfladpbfbpjaaDoor

/- Place: what the call computes. -/
namespace Go.Proofs.YthpfladpbfbpjaaDoor
open Go.RowKit

theorem quiet_same {P : Program} {f : FuncId} {args : Array Value} {w : World} {n : Nat} {v : Value}
    (h : Calls P f args (w.drewN n) fun e w' => e = .returned v ∧ w.drewN n = w') : Calls P f args (w.drewN n) fun e w'' => e = .returned v ∧ ∃ m, w'' = w.drewN m :=
  h.mono fun _ _ ⟨he, hm⟩ => ⟨he, n, hm.symm⟩
theorem idxOf_first {s : Str} : ∀ {l : List Str} {k : Nat} (h : k < l.length), s ∉ l.take k → l[k] = s → l.idxOf s = k
  | [], _, h, _, _ => by simp at h
  | x :: r, 0, _, _, e => by
    simp only [List.getElem_cons_zero] at e
    subst e
    simp
  | x :: r, k + 1, h, hn, e => by
    have h1 : ¬ x = s := fun e => hn (by simp [e])
    have := idxOf_first (l := r) (k := k) (by simpa using h) (fun hh => hn (by rw [List.take_succ_cons]; exact List.mem_cons_of_mem _ hh)) (by simpa using e)
    rw [List.idxOf_cons]
    have hb : (x == s) = false := by rw [str_beq]; simpa using h1
    rw [hb]
    simp [this]

theorem place_calls {a : Option Addr} {cap n : Nat} {l : List Str} (s : Str) (w : World) (hn : n = l.length) (h : Sl encS 1 w a cap l) (hs : s ∈ l) :
    Calls Tryd.prog 42 #[.slice a n cap, .string s] w fun e w' => e = .returned (.int .i64 (l.idxOf s : Nat)) ∧ w = w' := by
  subst hn
  have hl := h.len
  have HS := Lib.hid hs; clear hs
  go_enter Tryd.func42, Tryd.ntmps42
  go_wp2
  go_loopg [9] l.length (fun gk i wr => ∃ k : Nat, k ≤ l.length ∧ gk = l.length - k ∧ i = .int .i64 k ∧ Hid (s ∉ l.take k) ∧ w = wr)
  case atStart => exact ⟨0, Nat.zero_le _, by omega, rfl, Lib.hid (by simp), rfl⟩
  case round =>
    obtain ⟨k, hk, rfl, rfl, HN, rfl⟩ := hrel
    by_cases hlt : k < l.length
    · obtain ⟨b, off, rfl, hcell⟩ := h.s1 hlt
      by_cases hs : l[k] = s
      · have ht : (l[k].toList == s.toList) = true := by rw [tl_beq]; simpa using hs
        have HI := Lib.hid (idxOf_first hlt HN.out hs)
        clear hs
        go_wp2
        go_ret
        exact ⟨by rw [HI.out]; rfl, rfl⟩
      · have ht : (l[k].toList == s.toList) = false := by rw [tl_beq]; simpa using hs
        have HK := Lib.hid hs
        clear hs
        go_wp2
        go_roundg (l.length - (k + 1))
        case measure => omega
        case rel => exact ⟨k + 1, by omega, rfl, by go_num, Lib.hid (by rw [mem_take_succ hlt]; exact fun h => h.elim HN.out (fun e => HK.out e.symm)), rfl⟩
    · exfalso
      apply HN.out
      rw [List.take_of_length_le (by omega)]
      exact HS.out

end Go.Proofs.YthpfladpbfbpjaaDoor

/- spec.Closed: what the call computes. -/
namespace Go.Proofs.YthpfladpbfbpjaaDoor
open Go.RowKit

theorem infoB' : (Tryd.prog.info? 4).map (fun i => (i.zero, i.size, i.bytes)) = some (some (.bool false), 1, 1) := by kernel_rfl
def nm (ns : List Str) (i : Nat) : Str := ns.getD i ByteArray.empty
theorem nm_at {ns : List Str} {i : Nat} (h : i < ns.length) : nm ns i = ns[i] := by unfold nm; simp [h]
def rowC (ns : List Str) (es : List Ed) (a : Str) : List Ed := (ns.map fun b => (a, b)).filter fun e => clo ns es e.1 e.2
theorem closedL_rows (ns : List Str) (es : List Ed) : closedL ns es = ns.flatMap (rowC ns es) := by
  unfold closedL pairs rowC
  rw [List.filter_flatMap]

theorem flat_le' {α : Type} (f : Str → List α) (B : Nat) (hf : ∀ s, (f s).length ≤ B) : ∀ (l : List Str), (l.flatMap f).length ≤ l.length * B
  | [] => by simp
  | s :: r => by
    have := flat_le' f B hf r
    have := hf s
    rw [List.flatMap_cons, List.length_append, List.length_cons, Nat.add_mul]
    omega

set_option maxRecDepth 100000 in
set_option maxHeartbeats 1000000 in
theorem closed_calls {a b : Option Addr} {cap capb n m : Nat} {ns : List Str} {es : List Ed} (w : World) (hn : n = ns.length) (hm : m = es.length) (h : Sl encS 1 w a cap ns) (h' : Sl encE 2 w b capb es)
    (hnd : ns.Nodup) (hsm : ns.length ≤ 20) (hin : ∀ e ∈ es, e.1 ∈ ns ∧ e.2 ∈ ns) :
    Calls Tryd.prog 37 #[.slice a n cap, .slice b m capb] w <| RetSl fun a' n' cap' w' => n' = (closedL ns es).length ∧ Own encE 2 w' w.heap.size 54 a' cap' (closedL ns es) ∧ Below w.heap.size w w' := by
  subst hn
  subst hm
  have hl := h.len
  have hl' := h'.len
  have hnn : ns.length * ns.length ≤ 400 := Nat.mul_le_mul hsm hsm
  have HIN := Lib.hid hin; clear hin
  have HND := Lib.hid hnd; clear hnd
  obtain ⟨N, hN⟩ : ∃ N, ns.length * ns.length = N := ⟨_, rfl⟩
  have hNi : (ns.length : Int) * (ns.length : Int) = (N : Int) := by rw [← hN, Int.natCast_mul]
  have hN4 : N ≤ 400 := by omega
  have HN := Lib.hid hN; clear hN
  clear hnn
  go_enter Tryd.func37, Tryd.ntmps37
  go_wp2_with (at_make; refine wpList_make1 Value.bool false _ rfl _ _ 78 rfl w.heap.size 4 1 Tryd.underlying78 infoB' rfl _ _ N rfl rfl rfl rfl (by omega) (by omega) (Nat.le_refl _) ?_; intro w1 hown1 hf1 hs1)
  have hb1 := hf1.below_top
  have hm1 : Mat ns.length (List.replicate N false) (fun i j => base (es.take 0) (nm ns i) (nm ns j)) :=
    ⟨by simp [HN.out], fun i j hi hj => by have := mat_lt hi hj; rw [HN.out] at this; simp [base, this]⟩
  have HM1 := Lib.hid hm1; clear hm1
  go_loopg [23] es.length (fun gk i wr => ∃ (k : Nat) (m : List Bool), k ≤ es.length ∧ gk = es.length - k ∧ i = .int .i64 k ∧ Hid (Mat ns.length m (fun i j => base (es.take k) (nm ns i) (nm ns j))) ∧ Hid (m.length = N) ∧
    Own encB 1 wr w.heap.size 4 (some ⟨w.heap.size, 0, none⟩) N m ∧ Below w.heap.size w wr)
  case atStart => exact ⟨0, List.replicate N false, Nat.zero_le _, by omega, rfl, HM1, Lib.hid (by simp), hown1, hb1⟩
  case round =>
    obtain ⟨k, m, hk, rfl, rfl, HM, HL, hown, hb⟩ := hrel
    have hsz := hb.size
    by_cases hlt : k < es.length
    · obtain ⟨bb, off, rfl, hbl, h1, h2⟩ := (h'.top hb).e2 hlt
      have hns := (h.top hb).alloc (.cells #[.string es[k].1, .string es[k].2] 54)
      have hi := Lib.hid (HIN.out _ (List.getElem_mem hlt))
      have hp : ns.idxOf es[k].1 < ns.length := List.idxOf_lt_length_iff.2 hi.out.1
      have hq : ns.idxOf es[k].2 < ns.length := List.idxOf_lt_length_iff.2 hi.out.2
      have hnp : nm ns (ns.idxOf es[k].1) = es[k].1 := by rw [nm_at hp]; exact List.getElem_idxOf hp
      have hnq : nm ns (ns.idxOf es[k].2) = es[k].2 := by rw [nm_at hq]; exact List.getElem_idxOf hq
      have hp1 := place_calls (a := a) (cap := cap) es[k].1 _ rfl (hns.drewN 1) hi.out.1
      have hp2 := place_calls (a := a) (cap := cap) es[k].2 _ rfl (hns.drewN 1) hi.out.2
      have hstep : Mat ns.length (m.set (ns.idxOf es[k].1 * ns.length + ns.idxOf es[k].2) true) (fun i j => base (es.take (k + 1)) (nm ns i) (nm ns j)) := by
        refine HM.out.set hp hq true fun p q hp' hq' => ?_
        rw [Bool.eq_iff_iff, base_iff, mem_take_succ hlt]
        by_cases e : p = ns.idxOf es[k].1 ∧ q = ns.idxOf es[k].2
        · obtain ⟨rfl, rfl⟩ := e
          rw [if_pos ⟨rfl, rfl⟩, hnp, hnq]
          simp
        · rw [if_neg e, base_iff]
          constructor
          · rintro (h | h)
            · exact h
            · exfalso
              apply e
              have e1 := congrArg Prod.fst h
              have e2 := congrArg Prod.snd h
              simp only at e1 e2
              rw [← e1, ← e2, nm_at hp', nm_at hq']
              exact ⟨(HND.out.idxOf_getElem p hp').symm, (HND.out.idxOf_getElem q hq').symm⟩
          · exact .inl
      have hlt2 := mat_lt hp hq
      rw [HN.out] at hlt2
      clear hnp hnq
      obtain ⟨p, hpe⟩ : ∃ p, ns.idxOf es[k].1 = p := ⟨_, rfl⟩
      obtain ⟨q, hqe⟩ : ∃ q, ns.idxOf es[k].2 = q := ⟨_, rfl⟩
      rw [hpe] at hp1 hstep hp hlt2
      rw [hqe] at hp2 hstep hq hlt2
      obtain ⟨j, hj⟩ : ∃ j, p * ns.length + q = j := ⟨_, rfl⟩
      rw [hj] at hstep hlt2
      have HPE := Lib.hid hpe; clear hpe
      have HQE := Lib.hid hqe; clear hqe
      have HP1 := Lib.hid hp1; clear hp1
      have HP2 := Lib.hid hp2; clear hp2
      have HSTEP := Lib.hid hstep; clear hstep
      have HJ := Lib.hid hj; clear hj
      go_wp2
      have hw1 : IntKind.i64.wrap ((p : Int) * (ns.length : Int)) = (p : Int) * (ns.length : Int) := by
        rw [← Int.natCast_mul]
        exact IntWalk.i64_in _ (by have := HJ.out; omega)
      have hw2 : IntKind.i64.wrap ((p : Int) * (ns.length : Int) + (q : Int)) = (j : Int) := by
        rw [← HJ.out, ← Int.natCast_mul, ← Int.natCast_add]
        exact IntWalk.i64_in _ (by have := HJ.out; omega)
      have hjn : ((j : Int)).toNat = j := by simp
      have hj0 : (0 : Int) ≤ (j : Int) := by omega
      have hjN : (j : Int) < (N : Int) := by omega
      refine region_still_tail 13 (by kernel_rfl) (by kernel_rfl) ?_
      simp only [List.take_succ_cons, List.take_zero, List.drop_succ_cons, List.drop_zero]
      repeat still_step
      still_call (HP1.out.mono fun _ _ hh => ⟨hh.1, hh.2.symm⟩)
      repeat still_step
      still_call (HP2.out.mono fun _ _ hh => ⟨hh.1, hh.2.symm⟩)
      repeat still_step
      refine wpStill_nil ?_
      have hownW := (hown.alloc (.cells #[.string es[k].1, .string es[k].2] 54)).drew
      have hbW : Below w.heap.size w (wr.alloc (.cells #[.string es[k].1, .string es[k].2] 54)).drew := (hb.alloc hsz _).fr (Fr.drew NoB _) (Nat.le_refl _) (fun _ hs => hs.elim)
      generalize (wr.alloc (.cells #[.string es[k].1, .string es[k].2] 54)).drew = W at *
      obtain ⟨v0, hc0⟩ : ∃ v0, W.cell? ⟨w.heap.size, j, none⟩ = some v0 := ⟨_, Own.at1 (f := Value.bool) hownW j (by rw [HL.out]; exact hlt2)⟩
      have hz0 := Own.frozen1 (f := Value.bool) hownW j
      have hset := Own.set1 (f := Value.bool) hownW j true
      have hbs : Below w.heap.size w (W.setCell ⟨w.heap.size, j, none⟩ (.bool true)) := hbW.fr (Fr.setCell (S := fun b => b = w.heap.size) W _ _ rfl) (Nat.le_refl _) (fun b e => by omega)
      clear hw1 hw2 hjn hj0 hjN
      go_wp2
      go_roundg (es.length - (k + 1))
      case measure => omega
      case rel => exact ⟨k + 1, m.set j true, by omega, rfl, by go_num, Lib.hid HSTEP.out, Lib.hid (by rw [List.length_set]; exact HL.out), hset, hbs⟩
    · have hm2 : Mat ns.length m (fun i j => clo (ns.take 0) es (nm ns i) (nm ns j)) := by
        have := HM.out
        rw [List.take_of_length_le (by omega)] at this
        simpa [clo_nil] using this
      have HM2 := Lib.hid hm2; clear hm2
      clear HM
      go_wp2
      go_loopg [42] ns.length (fun gk i wr => ∃ (k : Nat) (m : List Bool), k ≤ ns.length ∧ gk = ns.length - k ∧ i = .int .i64 k ∧ Hid (Mat ns.length m (fun i j => clo (ns.take k) es (nm ns i) (nm ns j))) ∧
        Own encB 1 wr w.heap.size 4 (some ⟨w.heap.size, 0, none⟩) N m ∧ Below w.heap.size w wr)
      case atStart => exact ⟨0, m, Nat.zero_le _, by omega, rfl, HM2, hown, hb⟩
      case round =>
        clear hown hb hsz hown1 hf1 hs1 hb1 HM1 HM2 HL
        obtain ⟨k, m, hk, rfl, rfl, HM, hown, hb⟩ := hrel
        by_cases hlt : k < ns.length
        · obtain ⟨wo, rfl⟩ : ∃ wo : World, wo = wr := ⟨_, rfl⟩
          have HA : Hid (∀ p q, p < ns.length → q < ns.length → (fun i j => clo (ns.take (k + 1)) es (nm ns i) (nm ns j)) p q = ((fun i j => clo (ns.take k) es (nm ns i) (nm ns j)) p q || ((fun i j => clo (ns.take k) es (nm ns i) (nm ns j)) p k && (fun i j => clo (ns.take k) es (nm ns i) (nm ns j)) k q))) := Lib.hid (fun p q _ _ => by
            simp only
            rw [List.take_succ_eq_append_getElem hlt, clo_snoc, nm_at hlt]
            rfl)
          generalize hAA : (fun i j => clo (ns.take k) es (nm ns i) (nm ns j)) = A at *
          clear hAA
          go_wp2
          go_loopg [46] ns.length (fun gk i wr => ∃ (i0 : Nat) (m : List Bool), i0 ≤ ns.length ∧ gk = ns.length - i0 ∧ i = .int .i64 i0 ∧ Hid (Mat ns.length m (part A k i0 0)) ∧
            Own encB 1 wr w.heap.size 4 (some ⟨w.heap.size, 0, none⟩) N m ∧ Below w.heap.size w wr)
          case atStart => exact ⟨0, m, Nat.zero_le _, by omega, rfl, Lib.hid (by rw [part_start]; exact HM.out), hown, hb⟩
          case round =>
            clear hown hb HM
            obtain ⟨i0, m, hi0, rfl, rfl, HM, hown, hb⟩ := hrel
            by_cases hlti : i0 < ns.length
            · obtain ⟨wp, rfl⟩ : ∃ wp : World, wp = wr := ⟨_, rfl⟩
              go_wp2
              go_loopg [50] ns.length (fun gk i wr => ∃ (j0 : Nat) (m : List Bool), j0 ≤ ns.length ∧ gk = ns.length - j0 ∧ i = .int .i64 j0 ∧ Hid (Mat ns.length m (part A k i0 j0)) ∧
                Own encB 1 wr w.heap.size 4 (some ⟨w.heap.size, 0, none⟩) N m ∧ Below w.heap.size w wr)
              case atStart => exact ⟨0, m, Nat.zero_le _, by omega, rfl, HM, hown, hb⟩
              case round =>
                clear hown hb HM
                obtain ⟨j0, m, hj0, rfl, rfl, HM, hown, hb⟩ := hrel
                have hsz := hb.size
                by_cases hltj : j0 < ns.length
                · obtain ⟨c1, hc1⟩ : ∃ c, i0 * ns.length = c := ⟨_, rfl⟩
                  obtain ⟨c2, hc2⟩ : ∃ c, k * ns.length = c := ⟨_, rfl⟩
                  have hl1 := mat_lt hlti hlt
                  have hl2 := mat_lt hlt hltj
                  have hl3 := mat_lt hlti hltj
                  obtain ⟨hk1, hg1⟩ := HM.out.get hlti hlt
                  obtain ⟨hk2, hg2⟩ := HM.out.get hlt hltj
                  obtain ⟨hk3, hg3⟩ := HM.out.get hlti hltj
                  rw [part_col] at hg1
                  rw [part_rowx] at hg2
                  have e1 := Own.at1 (f := Value.bool) hown _ hk1
                  have e2 := Own.at1 (f := Value.bool) hown _ hk2
                  have e3 := Own.at1 (f := Value.bool) hown _ hk3
                  rw [hg1, hc1] at e1
                  rw [hg2, hc2] at e2
                  rw [hg3, hc1] at e3
                  rw [hc1, HN.out] at hl1 hl3
                  rw [hc2, HN.out] at hl2
                  have hi1 : (i0 : Int) * (ns.length : Int) = (c1 : Int) := by rw [← hc1, Int.natCast_mul]
                  have hi2 : (k : Int) * (ns.length : Int) = (c2 : Int) := by rw [← hc2, Int.natCast_mul]
                  have hz := Own.frozen1 (f := Value.bool) hown (c1 + j0)
                  have hset := Own.set1 (f := Value.bool) hown (c1 + j0) true
                  have hbs : Below w.heap.size w (wr.setCell ⟨w.heap.size, c1 + j0, none⟩ (.bool true)) := hb.fr (Fr.setCell (S := fun b => b = w.heap.size) wr _ _ rfl) (Nat.le_refl _) (fun b e => by omega)
                  have hyes : (A i0 k && A k j0) = true → Hid (Mat ns.length (m.set (c1 + j0) true) (part A k i0 (j0 + 1))) := fun hh => Lib.hid (by
                    rw [← hc1]
                    exact HM.out.set hlti hltj true (fun p q _ _ => part_yes A k i0 j0 hh p q))
                  have hno : (A i0 k && A k j0) = false → Hid (Mat ns.length m (part A k i0 (j0 + 1))) := fun hh => Lib.hid (HM.out.congr fun p q _ _ => part_no A k i0 j0 hh p q)
                  have HC1 := Lib.hid hc1; clear hc1
                  have HC2 := Lib.hid hc2; clear hc2
                  have HYES := Lib.hid hyes; clear hyes
                  have HNO := Lib.hid hno; clear hno
                  clear hk1 hk2 hk3 hg1 hg2 hg3
                  generalize A i0 k = x1 at *
                  generalize A k j0 = x2 at *
                  generalize part A k i0 j0 i0 j0 = x3 at *
                  cases x1
                  · have HK := HNO.out rfl
                    clear HYES HNO
                    go_wp2
                    go_roundg (ns.length - (j0 + 1))
                    case measure => omega
                    case rel => exact ⟨j0 + 1, m, by omega, rfl, by go_num, HK, hown, hb⟩
                  · cases x2
                    · have HK := HNO.out rfl
                      clear HYES HNO
                      go_wp2
                      go_roundg (ns.length - (j0 + 1))
                      case measure => omega
                      case rel => exact ⟨j0 + 1, m, by omega, rfl, by go_num, HK, hown, hb⟩
                    · have HK := HYES.out rfl
                      clear HYES HNO
                      go_wp2
                      go_roundg (ns.length - (j0 + 1))
                      case measure => omega
                      case rel => exact ⟨j0 + 1, _, by omega, rfl, by go_num, HK, hset, hbs⟩
                · have hm2 : Hid (Mat ns.length m (part A k (i0 + 1) 0)) := Lib.hid (by
                    obtain rfl : j0 = ns.length := by omega
                    exact HM.out.congr (part_row A k i0))
                  clear HM
                  go_wp2
                  go_roundg (ns.length - (i0 + 1))
                  case measure => omega
                  case rel => exact ⟨i0 + 1, m, by omega, rfl, by go_num, hm2, hown, hb⟩
            · have hm2 : Hid (Mat ns.length m (fun i j => clo (ns.take (k + 1)) es (nm ns i) (nm ns j))) := Lib.hid (by
                obtain rfl : i0 = ns.length := by omega
                exact HM.out.congr fun p q hp hq => by rw [part_end A k p q hp hq, HA.out p q hp hq])
              clear HM HA
              go_wp2
              go_roundg (ns.length - (k + 1))
              case measure => omega
              case rel => exact ⟨k + 1, m, by omega, rfl, by go_num, hm2, hown, hb⟩
        · have hm2 : Hid (Mat ns.length m (fun i j => clo ns es (nm ns i) (nm ns j))) := Lib.hid (by
            have := HM.out
            rwa [List.take_of_length_le (by omega)] at this)
          clear HM
          go_wp2
          obtain ⟨wo, rfl⟩ : ∃ wo : World, wo = wr := ⟨_, rfl⟩
          have hszo := hb.size
          have hrl : ∀ a, (rowC ns es a).length ≤ 20 := fun a => by
            unfold rowC
            have := List.length_filter_le (fun e : Ed => clo ns es e.1 e.2) (ns.map fun b => (a, b))
            rw [List.length_map] at this
            omega
          have hfl : ∀ k, ((ns.take k).flatMap (rowC ns es)).length ≤ k * 20 := fun k => by
            have h1 := flat_le' (rowC ns es) 20 hrl (ns.take k)
            have h2 : (ns.take k).length * 20 ≤ k * 20 := Nat.mul_le_mul_right 20 (List.length_take_le _ _)
            omega
          have HFL := Lib.hid hfl; clear hfl
          clear hrl
          go_loopg [83, 12] ns.length (fun gk i v wz => ∃ (k : Nat) (q : List Ed) (a' : Option Addr) (cap' : Nat), k ≤ ns.length ∧ gk = ns.length - k ∧ i = .int .i64 k ∧ v = .slice a' q.length cap' ∧ Hid (q = (ns.take k).flatMap (rowC ns es)) ∧
            Own encE 2 wz wo.heap.size 54 a' cap' q ∧ Below wo.heap.size wo wz)
          case atStart => exact ⟨0, [], _, _, Nat.zero_le _, by omega, rfl, rfl, Lib.hid (by simp), Own.made encE 2 wo _ _ (Nat.le_refl _), (Below.refl _ _).alloc (Nat.le_refl _) _⟩
          case round =>
            obtain ⟨i0, q, a1, cap1, hi0, rfl, rfl, rfl, Hq, ho, hbz⟩ := hrel
            by_cases hlti : i0 < ns.length
            · have hfl0 := HFL.out i0
              rw [← Hq.out] at hfl0
              have hft : Hid ((ns.take (i0 + 1)).flatMap (rowC ns es) = q ++ rowC ns es ns[i0]) := Lib.hid (by
                rw [List.take_succ_eq_append_getElem hlti, List.flatMap_append, ← Hq.out]
                simp)
              have hi2 : Hid (i0 < ns.length) := Lib.hid hlti
              obtain ⟨wp, rfl⟩ : ∃ wp : World, wp = wr := ⟨_, rfl⟩
              go_wp2
              go_loopg [87, 12] ns.length (fun gk i v wz => ∃ (j0 : Nat) (q2 : List Ed) (a' : Option Addr) (cap' : Nat), j0 ≤ ns.length ∧ gk = ns.length - j0 ∧ i = .int .i64 j0 ∧ v = .slice a' q2.length cap' ∧ Hid (q2 = q ++ ((ns.take j0).map fun b => (nm ns i0, b)).filter fun e => clo ns es e.1 e.2) ∧
                q2.length ≤ q.length + j0 ∧ Own encE 2 wz wo.heap.size 54 a' cap' q2 ∧ Below wo.heap.size wo wz)
              case atStart => exact ⟨0, q, _, _, Nat.zero_le _, by omega, rfl, rfl, Lib.hid (by simp), Nat.le_refl _, ho, hbz⟩
              case round =>
                obtain ⟨j0, q2, a2, cap2, hj0, rfl, rfl, rfl, Hq2, hq2l, ho2, hbz2⟩ := hrel
                have hszz := hbz2.size
                by_cases hltj : j0 < ns.length
                · have hownz := hown.top hbz2
                  obtain ⟨bb, off, rfl, hs1⟩ := ((h.top hb).top hbz2).s1 hlti
                  obtain ⟨bb', off', hbb, hs2⟩ := ((h.top hb).top hbz2).s1 hltj
                  simp only [Option.some.injEq, Addr.mk.injEq] at hbb
                  obtain ⟨rfl, rfl, _⟩ := hbb
                  obtain ⟨c1, hc1⟩ : ∃ c, i0 * ns.length = c := ⟨_, rfl⟩
                  have hl3 := mat_lt hlti hltj
                  obtain ⟨hk3, hg3⟩ := hm2.out.get hlti hltj
                  have e3 := Own.at1 (f := Value.bool) hownz _ hk3
                  rw [hg3, hc1] at e3
                  rw [hc1, HN.out] at hl3
                  have hi1 : (i0 : Int) * (ns.length : Int) = (c1 : Int) := by rw [← hc1, Int.natCast_mul]
                  have hn1 := nm_at hlti
                  have hn2 := nm_at hltj
                  have hq3 : Hid (((ns.take (j0 + 1)).map fun b => (nm ns i0, b)).filter (fun e => clo ns es e.1 e.2) = ((ns.take j0).map fun b => (nm ns i0, b)).filter (fun e => clo ns es e.1 e.2) ++ if clo ns es (nm ns i0) (nm ns j0) = true then [(nm ns i0, nm ns j0)] else []) := Lib.hid (by
                    rw [List.take_succ_eq_append_getElem hltj, List.map_append, List.filter_append, hn2]
                    by_cases hcc : clo ns es (nm ns i0) ns[j0] = true <;> simp [hcc])
                  rw [← hn1] at hs1
                  rw [← hn2] at hs2
                  have hq4 : clo ns es (nm ns i0) (nm ns j0) = true → Hid (q2 ++ [(nm ns i0, nm ns j0)] = q ++ ((ns.take (j0 + 1)).map fun b => (nm ns i0, b)).filter fun e => clo ns es e.1 e.2) := fun hh => Lib.hid (by rw [hq3.out, if_pos hh, ← List.append_assoc, ← Hq2.out])
                  have hq5 : clo ns es (nm ns i0) (nm ns j0) = false → Hid (q2 = q ++ ((ns.take (j0 + 1)).map fun b => (nm ns i0, b)).filter fun e => clo ns es e.1 e.2) := fun hh => Lib.hid (by rw [hq3.out, if_neg (by rw [hh]; simp), List.append_nil, ← Hq2.out])
                  have HC1 := Lib.hid hc1; clear hc1
                  have HQ4 := Lib.hid hq4; clear hq4
                  have HQ5 := Lib.hid hq5; clear hq5
                  clear hn1 hn2 hq3 hk3 hg3
                  generalize clo ns es (nm ns i0) (nm ns j0) = x1 at *
                  cases x1
                  · have HK := HQ5.out rfl
                    clear HQ4 HQ5
                    go_wp2
                    go_roundg (ns.length - (j0 + 1))
                    case measure => omega
                    case rel => exact ⟨j0 + 1, q2, a2, cap2, by omega, rfl, by go_num, rfl, HK, by omega, ho2, hbz2⟩
                  · have HK := HQ4.out rfl
                    clear HQ4 HQ5
                    have hlb := World.block_lt_of_cell? _ _ hs1
                    have hnb : ¬ blk a2 = some bb := fun e => by
                      have h1 := (ho2.lt bb e).1
                      obtain ⟨b', off', e2, h3, _⟩ := (h.top hb).2.2 (by omega)
                      simp only [Option.some.injEq, Addr.mk.injEq] at e2
                      omega
                    go_wp2
                    have hbd : Below wo.heap.size wo wr.drew := hbz2.fr (Fr.drew NoB _) (Nat.le_refl _) (fun _ hs => hs.elim)
                    have ho3 := ho2.drew
                    have hszd : wo.heap.size ≤ wr.drew.heap.size := hbd.size
                    go_region_held3 (fun w' => w'.cell? ⟨bb, off + i0, none⟩ = some (.string (nm ns i0)) ∧ w'.cell? ⟨bb, off + j0, none⟩ = some (.string (nm ns j0)))
                      (first | go_keep | (exact ⟨hs5, hs6⟩))
                      ((refine step_append_new (y := (nm ns i0, nm ns j0)) encE 2 encE_len encE_one wr.drew _ 54 rfl rfl _ _ 29 rfl 54 _ 32 Tryd.underlying29 infoE rfl (by omega) wo.heap.size a2 cap2 q2 rfl ho3 _ _ rfl rfl (by omega) (by omega) hszd ?_
                        intro g3 cap3 w4 ho4 hf4 hk4
                        have hs5 : w4.cell? ⟨bb, off + i0, none⟩ = some (.string (nm ns i0)) := (hf4.cell (a := ⟨bb, off + i0, none⟩) hlb hnb).trans hs1
                        have hs6 : w4.cell? ⟨bb, off + j0, none⟩ = some (.string (nm ns j0)) := (hf4.cell (a := ⟨bb, off + j0, none⟩) hlb hnb).trans hs2))
                    go_wp2
                    go_roundg (ns.length - (j0 + 1))
                    case measure => omega
                    case rel => exact ⟨j0 + 1, _, some ⟨g3, 0, none⟩, cap3, by omega, rfl, by go_num, by simp, HK, by simp; omega, ho4, hbd.fr hf4 (Nat.le_refl _) (fun j hj => (ho3.lt j hj).1)⟩
                · have hq6 : Hid (q2 = (ns.take (i0 + 1)).flatMap (rowC ns es)) := Lib.hid (by
                    rw [hft.out, Hq2.out, List.take_of_length_le (by omega), nm_at hi2.out]
                    rfl)
                  clear Hq2 hft
                  go_wp2
                  go_roundg (ns.length - (i0 + 1))
                  case measure => omega
                  case rel => exact ⟨i0 + 1, q2, a2, cap2, by omega, rfl, by go_num, rfl, hq6, ho2, hbz2⟩
            · have hmm : q = closedL ns es := by rw [Hq.out, List.take_of_length_le (by omega), closedL_rows]
              clear Hq
              go_wp2
              go_ret
              exact ⟨_, _, _, rfl, by rw [hmm], by rw [← hmm]; exact ho.mono hszo, hb.top hbz (Nat.le_refl _)⟩
end Go.Proofs.YthpfladpbfbpjaaDoor

/- spec.Covers: what the call computes. -/
namespace Go.Proofs.YthpfladpbfbpjaaDoor
open Go.RowKit

def Betw (ns : List Str) (es : List Ed) (x : Ed) : Prop := ∃ n ∈ ns, (x.1, n) ∈ es ∧ (n, x.2) ∈ es
instance (ns : List Str) (es : List Ed) (x : Ed) : Decidable (Betw ns es x) := by unfold Betw; infer_instance
def covers (ns : List Str) (es : List Ed) : List Ed := es.filter fun x => !decide (Betw ns es x)

theorem covers_calls {a b : Option Addr} {cap capb n m : Nat} {ns : List Str} {es : List Ed} (w : World) (hn : n = ns.length) (hm : m = es.length) (h : Sl encS 1 w a cap ns) (h' : Sl encE 2 w b capb es) (hsm : es.length ≤ 2147483647) :
    Calls Tryd.prog 28 #[.slice a n cap, .slice b m capb] w <| RetSl fun a' n' cap' w' => n' = (covers ns es).length ∧ Own encE 2 w' w.heap.size 54 a' cap' (covers ns es) ∧ Below w.heap.size w w' := by
  subst hn
  subst hm
  have hl := h.len
  have hl' := h'.len
  go_enter Tryd.func28, Tryd.ntmps28
  go_wp2
  go_loopg [14, 5] es.length (fun gk i v wr => ∃ (k : Nat) (m : List Ed) (a' : Option Addr) (cap' : Nat), k ≤ es.length ∧ gk = es.length - k ∧ i = .int .i64 k ∧ v = .slice a' m.length cap' ∧ Hid (m = (es.take k).filter fun x => !decide (Betw ns es x)) ∧ m.length ≤ k ∧
    Own encE 2 wr w.heap.size 54 a' cap' m ∧ Below w.heap.size w wr)
  case atStart => exact ⟨0, [], _, _, Nat.zero_le _, by omega, rfl, rfl, Lib.hid (by simp), by simp, Own.made encE 2 w _ _ (Nat.le_refl _), (Below.refl _ _).alloc (Nat.le_refl _) _⟩
  case round =>
    obtain ⟨k, m, a', cap', hk, rfl, rfl, rfl, Hm, hmk, hown, hb⟩ := hrel
    have hsz := hb.size
    by_cases hlt : k < es.length
    · obtain ⟨bb, off, rfl, hbl, h1, h2⟩ := (h'.top hb).e2 hlt
      have hq : (es.take (k + 1)).filter (fun x => !decide (Betw ns es x)) = if Betw ns es es[k] then m else m ++ [es[k]] := by
        rw [List.take_succ_eq_append_getElem hlt, List.filter_append, ← Hm.out]
        by_cases hkp : Betw ns es es[k] <;> simp [hkp]
      have HQ := Lib.hid hq; clear hq
      generalize es[k] = x at *
      obtain ⟨wo, rfl⟩ : ∃ wo : World, wo = wr := ⟨_, rfl⟩
      go_wp2
      generalize hW : wo.alloc (.cells #[.string x.1, .string x.2] 54) = W at *
      have hWs : W.heap.size = wo.heap.size + 1 := by rw [← hW]; simp
      have hc1 : W.cell? ⟨wo.heap.size, 0, none⟩ = some (.string x.1) := by rw [← hW, cell_of_row _ _ _ _ _ _ (heap_alloc_new wo _)]; rfl
      have hc2 : W.cell? ⟨wo.heap.size, 1, none⟩ = some (.string x.2) := by rw [← hW, cell_of_row _ _ _ _ _ _ (heap_alloc_new wo _)]; rfl
      have hbW : Below w.heap.size w W := by rw [← hW]; exact hb.alloc hsz _
      have hownW : Own encE 2 W w.heap.size 54 a' cap' m := by rw [← hW]; exact hown.alloc _
      have hsW := h.top hbW
      have heW := h'.top hbW
      clear hW hown hb h1 h2
      go_loopg [20, 8] ns.length (fun gk i v8 wq => ∃ (j : Nat) (bt : Bool), j ≤ ns.length ∧ gk = ns.length - j ∧ i = .int .i64 j ∧ v8 = .bool bt ∧ Hid (bt = true ↔ ∃ n ∈ ns.take j, (x.1, n) ∈ es ∧ (n, x.2) ∈ es) ∧ Below W.heap.size W wq)
      case atStart => exact ⟨0, false, Nat.zero_le _, by omega, rfl, rfl, Lib.hid (by simp), Below.refl _ _⟩
      case round =>
        obtain ⟨j, bt, hj, rfl, rfl, rfl, HBT, hbq⟩ := hrel
        have hszq := hbq.size
        have g1 : wr.cell? ⟨wo.heap.size, 0, none⟩ = some (.string x.1) := (hbq.cell (p := ⟨wo.heap.size, 0, none⟩) (by simp; omega)).trans hc1
        have g2 : wr.cell? ⟨wo.heap.size, 1, none⟩ = some (.string x.2) := (hbq.cell (p := ⟨wo.heap.size, 1, none⟩) (by simp; omega)).trans hc2
        have heq := heW.top hbq
        by_cases hjl : j < ns.length
        · obtain ⟨nb, noff, rfl, g3⟩ := (hsW.top hbq).s1 hjl
          have hst : ∀ b' : Bool, (b' = true ↔ bt = true ∨ ((x.1, ns[j]) ∈ es ∧ (ns[j], x.2) ∈ es)) → Hid (b' = true ↔ ∃ n ∈ ns.take (j + 1), (x.1, n) ∈ es ∧ (n, x.2) ∈ es) := fun b' hb' => Lib.hid (by
            rw [hb', HBT.out]
            constructor
            · rintro (⟨n, hn, hh⟩ | hh)
              · exact ⟨n, (mem_take_succ hjl).2 (.inl hn), hh⟩
              · exact ⟨_, (mem_take_succ hjl).2 (.inr rfl), hh⟩
            · rintro ⟨n, hn, hh⟩
              rcases (mem_take_succ hjl).1 hn with hn | rfl
              · exact .inl ⟨n, hn, hh⟩
              · exact .inr hh)
          have HST := Lib.hid hst; clear hst
          generalize ns[j] = t at *
          cases bt
          · by_cases hm1 : (x.1, t) ∈ es
            · by_cases hm2 : (t, x.2) ∈ es
              · have HK := HST.out true (by simp [hm1, hm2])
                have HM1 := Lib.hid hm1; clear hm1
                have HM2 := Lib.hid hm2; clear hm2
                go_wp2_with (first
                  | (go_at_call 31; refine (edged_yes (t, x.2) _ rfl (heq.top hb5) HM2.out).mono ?_; rintro e w6 ⟨rfl, hb6⟩)
                  | (go_at_call 31; refine (edged_yes (x.1, t) _ rfl heq HM1.out).mono ?_; rintro e w5 ⟨rfl, hb5⟩
                     have g2' := (hb5.cell (p := ⟨wo.heap.size, 1, none⟩) (by simp; omega)).trans g2))
                go_roundg (ns.length - (j + 1))
                case measure => omega
                case rel => exact ⟨j + 1, _, by omega, rfl, by go_num, rfl, Lib.hid (by first | exact HK.out | simpa using HK.out), (hbq.top hb5 (Nat.le_refl _)).top hb6 (Nat.le_refl _)⟩
              · have HK := HST.out false (by simp [hm2])
                have HM1 := Lib.hid hm1; clear hm1
                have HM2 := Lib.hid hm2; clear hm2
                go_wp2_with (first
                  | (go_at_call 31; refine (edged_no (t, x.2) _ rfl (heq.top hb5) HM2.out).mono ?_; rintro e w6 ⟨rfl, hb6⟩)
                  | (go_at_call 31; refine (edged_yes (x.1, t) _ rfl heq HM1.out).mono ?_; rintro e w5 ⟨rfl, hb5⟩
                     have g2' := (hb5.cell (p := ⟨wo.heap.size, 1, none⟩) (by simp; omega)).trans g2))
                go_roundg (ns.length - (j + 1))
                case measure => omega
                case rel => exact ⟨j + 1, _, by omega, rfl, by go_num, rfl, Lib.hid (by first | exact HK.out | simpa using HK.out), (hbq.top hb5 (Nat.le_refl _)).top hb6 (Nat.le_refl _)⟩
            · have HK := HST.out false (by simp [hm1])
              have HM1 := Lib.hid hm1; clear hm1
              go_wp2_with (go_at_call 31; refine (edged_no (x.1, t) _ rfl heq HM1.out).mono ?_; rintro e w5 ⟨rfl, hb5⟩)
              go_roundg (ns.length - (j + 1))
              case measure => omega
              case rel => exact ⟨j + 1, _, by omega, rfl, by go_num, rfl, Lib.hid (by first | exact HK.out | simpa using HK.out), hbq.top hb5 (Nat.le_refl _)⟩
          · have HK := HST.out true (by simp)
            go_wp2
            go_roundg (ns.length - (j + 1))
            case measure => omega
            case rel => exact ⟨j + 1, _, by omega, rfl, by go_num, rfl, Lib.hid (by first | exact HK.out | simpa using HK.out), hbq⟩
        · have hbw : Hid (bt = true ↔ Betw ns es x) := Lib.hid (by
            have := HBT.out
            rwa [List.take_of_length_le (by omega)] at this)
          have hownq := hownW.top hbq
          have hbq2 := hbW.top hbq (Nat.le_refl _)
          cases bt
          · have HK : Hid (m ++ [x] = (es.take (k + 1)).filter fun x => !decide (Betw ns es x)) := Lib.hid (by rw [HQ.out, if_neg (fun hh => by have := hbw.out.2 hh; cases this)])
            go_wp2_with (at_builtin; refine wpList_append_new encE 2 encE_len encE_one _ _ rfl _ _ 29 rfl 54 _ 32 Tryd.underlying29 infoE rfl (by omega) w.heap.size a' cap' m _ rfl rfl hownq x _ _ (by simp) rfl (by omega) (by omega) (by omega) ?_; intro a2 cap2 w4 hown2 hf2 hk2)
            go_roundg (es.length - (k + 1))
            case measure => omega
            case rel => exact ⟨k + 1, m ++ [x], a2, cap2, by omega, rfl, by go_num, by simp, HK, by simp; omega, hown2, hbq2.fr hf2 (Nat.le_refl _) (fun j hj => (hownq.lt j hj).1)⟩
          · have HK : Hid (m = (es.take (k + 1)).filter fun x => !decide (Betw ns es x)) := Lib.hid (by rw [HQ.out, if_pos (hbw.out.1 rfl)])
            go_wp2
            go_roundg (es.length - (k + 1))
            case measure => omega
            case rel => exact ⟨k + 1, m, a', cap', by omega, rfl, by go_num, rfl, HK, by omega, hownq, hbq2⟩
    · have hmf : m = covers ns es := by rw [Hm.out, List.take_of_length_le (by omega)]; rfl
      clear Hm
      go_wp2
      go_ret
      exact ⟨_, _, _, rfl, by rw [hmf], by rw [← hmf]; exact hown, hb⟩
end Go.Proofs.YthpfladpbfbpjaaDoor

/- SameNodes, sorted, Circle: what each call computes; the rank of a node where there is no circle. -/
namespace Go.Proofs.YthpfladpbfbpjaaDoor
open Go.RowKit

theorem has_yes {a : Option Addr} {cap n : Nat} {l : List Str} (s : Str) (w : World) (hn : n = l.length) (h : Sl encS 1 w a cap l) (hs : s ∈ l) :
    Calls Tryd.prog 29 #[.slice a n cap, .string s] w fun e w' => e = .returned (.bool true) ∧ w = w' :=
  (has_calls s w hn h).mono fun e w' hh => ⟨by rw [hh.1]; simpa using hs, hh.2⟩
theorem has_no {a : Option Addr} {cap n : Nat} {l : List Str} (s : Str) (w : World) (hn : n = l.length) (h : Sl encS 1 w a cap l) (hs : s ∉ l) :
    Calls Tryd.prog 29 #[.slice a n cap, .string s] w fun e w' => e = .returned (.bool false) ∧ w = w' :=
  (has_calls s w hn h).mono fun e w' hh => ⟨by rw [hh.1]; simpa using hs, hh.2⟩

/-- both lists the same nodes, the first each once: the call says yes -/
theorem sameNodes_calls {a b : Option Addr} {cap capb n m : Nat} {l r : List Str} (w : World) (hn : n = l.length) (hm : m = r.length) (h : Sl encS 1 w a cap l) (h' : Sl encS 1 w b capb r)
    (hnd : l.Nodup) (hset : ∀ x, x ∈ l ↔ x ∈ r) :
    Calls Tryd.prog 33 #[.slice a n cap, .slice b m capb] w fun e w' => e = .returned (.bool true) ∧ w = w' := by
  subst hn
  subst hm
  have hl := h.len
  have hl' := h'.len
  have hlc := h.1
  have HND := Lib.hid hnd; clear hnd
  have HSET := Lib.hid hset; clear hset
  go_enter Tryd.func33, Tryd.ntmps33
  go_wp2
  go_loopg [11] l.length (fun gk i wr => ∃ k : Nat, k ≤ l.length ∧ gk = l.length - k ∧ i = .int .i64 k ∧ w = wr)
  case atStart => exact ⟨0, Nat.zero_le _, by omega, rfl, rfl⟩
  case round =>
    obtain ⟨k, hk, rfl, rfl, rfl⟩ := hrel
    by_cases hlt : k < l.length
    · obtain ⟨bb, off, rfl, h1⟩ := h.s1 hlt
      have hd1 : Hid (l[k] ∉ l.take k) := Lib.hid ((nodup_take_succ hlt).1 (nodup_take (k + 1) HND.out)).2
      have hd2 : Hid (l[k] ∈ r) := Lib.hid ((HSET.out _).1 (List.getElem_mem hlt))
      generalize l[k] = x at *
      go_wp2_with (first
        | (go_at_call 29; have tok2 := tok1; refine (has_yes _ _ rfl h' hd2.out).mono ?_; rintro e w' ⟨rfl, rfl⟩)
        | (go_at_call 29; refine (has_no _ _ (by simp; omega) (h.take k) hd1.out).mono ?_; rintro e w' ⟨rfl, rfl⟩; have tok1 := Lib.hid trivial))
      go_roundg (l.length - (k + 1))
      case measure => omega
      case rel => exact ⟨k + 1, by omega, rfl, by go_num, rfl⟩
    · go_wp2
      go_loopg [30] r.length (fun gk i wr => ∃ k : Nat, k ≤ r.length ∧ gk = r.length - k ∧ i = .int .i64 k ∧ w = wr)
      case atStart => exact ⟨0, Nat.zero_le _, by omega, rfl, rfl⟩
      case round =>
        obtain ⟨j, hj, rfl, rfl, rfl⟩ := hrel
        by_cases hjl : j < r.length
        · obtain ⟨bb, off, rfl, h1⟩ := h'.s1 hjl
          have hd1 : Hid (r[j] ∈ l) := Lib.hid ((HSET.out _).2 (List.getElem_mem hjl))
          generalize r[j] = x at *
          go_wp2_with (go_at_call 29; refine (has_yes _ _ rfl h hd1.out).mono ?_; rintro e w5 ⟨rfl, rfl⟩)
          go_roundg (r.length - (j + 1))
          case measure => omega
          case rel => exact ⟨j + 1, by omega, rfl, by go_num, rfl⟩
        · go_wp2
          go_ret
          exact ⟨rfl, rfl⟩

/-- The list has the nodes, each once, and each edge leads on in it: the call says yes. -/
theorem sorted_calls {a b c : Option Addr} {cap capb capc n m p : Nat} {l ns : List Str} {es : List Ed} (w : World) (hn : n = l.length) (hm : m = ns.length) (hp : p = es.length) (h : Sl encS 1 w a cap l) (h' : Sl encS 1 w b capb ns) (h2 : Sl encE 2 w c capc es)
    (hlen : l.length = ns.length) (hnd : l.Nodup) (hset : ∀ x, x ∈ l ↔ x ∈ ns) (hon : ∀ e ∈ es, e.1 ∈ l ∧ e.2 ∈ l ∧ l.idxOf e.1 < l.idxOf e.2) :
    Calls Tryd.prog 24 #[.slice a n cap, .slice b m capb, .slice c p capc] w fun e w' => e = .returned (.bool true) ∧ Below w.heap.size w w' := by
  subst hn
  subst hm
  subst hp
  have hl := h.len
  have hl2 := h2.len
  have hsn := sameNodes_calls w rfl rfl h h' hnd hset
  have hb1 : (l.length : Int) = (ns.length : Int) := by omega
  have HSN := Lib.hid hsn; clear hsn
  have HON := Lib.hid hon; clear hon
  clear hnd hset
  have hlen' := Lib.hid hlen
  rw [← hlen] at HSN
  clear hlen
  rw [← hlen'.out]
  clear hb1
  go_enter Tryd.func24, Tryd.ntmps24
  go_wp2_with (go_at_call 33; refine (HSN.out).mono ?_; rintro e w5 ⟨rfl, rfl⟩)
  go_loopg [22] es.length (fun gk i wr => ∃ k : Nat, k ≤ es.length ∧ gk = es.length - k ∧ i = .int .i64 k ∧ Below w.heap.size w wr)
  case atStart => exact ⟨0, Nat.zero_le _, by omega, rfl, Below.refl _ _⟩
  case round =>
    obtain ⟨k, hk, rfl, rfl, hb⟩ := hrel
    have hsz := hb.size
    by_cases hlt : k < es.length
    · obtain ⟨bb, off, rfl, hbl, g1, g2⟩ := (h2.top hb).e2 hlt
      have hns := (h.top hb).alloc (.cells #[.string es[k].1, .string es[k].2] 54)
      have hi := Lib.hid (HON.out _ (List.getElem_mem hlt))
      have hp1 := fun n => place_calls (a := a) (cap := cap) es[k].1 _ rfl (hns.drewN n) hi.out.1
      have hp2 := fun n => place_calls (a := a) (cap := cap) es[k].2 _ rfl (hns.drewN n) hi.out.2.1
      have hcmp : decide (l.idxOf es[k].2 ≤ l.idxOf es[k].1) = false := by
        have := hi.out.2.2
        simp
        omega
      have HP1 := Lib.hid hp1; clear hp1
      have HP2 := Lib.hid hp2; clear hp2
      generalize es[k] = x at *
      generalize l.idxOf x.1 = i1 at *
      generalize l.idxOf x.2 = i2 at *
      clear hi
      go_wp2
      go_quiet (first
        | (go_at_call_of 42 (Value.string x.1); exact quiet_same (HP1.out _))
        | (go_at_call_of 42 (Value.string x.2); exact quiet_same (HP2.out _)))
      go_wp2
      go_roundg (es.length - (k + 1))
      case measure => omega
      case rel => exact ⟨k + 1, by omega, rfl, by go_num, (hb.alloc hsz _).fr (Fr.drewN NoB _ _) (Nat.le_refl _) (fun _ hs => hs.elim)⟩
    · go_wp2
      go_ret
      exact ⟨rfl, hb⟩


/-! ### the rank of a node -/
theorem filter_lt {α : Type} (p q : α → Bool) : ∀ (l : List α), (∀ x ∈ l, p x = true → q x = true) → (∃ y ∈ l, q y = true ∧ p y = false) → (l.filter p).length < (l.filter q).length
  | [], _, h => by obtain ⟨y, hy, _⟩ := h; simp at hy
  | x :: r, hs, h => by
    have hle : (r.filter p).length ≤ (r.filter q).length := by
      have : ∀ (r : List α), (∀ x ∈ r, p x = true → q x = true) → (r.filter p).length ≤ (r.filter q).length := by
        intro r
        induction r with
        | nil => intro _; simp
        | cons y t ih =>
          intro hs
          have h1 := ih (fun z hz => hs z (List.mem_cons_of_mem _ hz))
          have h2 := hs y (by simp)
          by_cases hp : p y = true
          · simp [hp, h2 hp]; omega
          · by_cases hq : q y = true <;> simp [hp, hq] <;> omega
      exact this r (fun z hz => hs z (List.mem_cons_of_mem _ hz))
    obtain ⟨y, hy, hq, hp⟩ := h
    have hx := hs x (by simp)
    rcases List.mem_cons.1 hy with rfl | hy
    · simp [hp, hq]; omega
    · have ih := filter_lt p q r (fun z hz => hs z (List.mem_cons_of_mem _ hz)) ⟨y, hy, hq, hp⟩
      by_cases hpx : p x = true
      · simp [hpx, hx hpx]; omega
      · by_cases hqx : q x = true <;> simp [hpx, hqx] <;> omega
def rank (ns : List Str) (es : List Ed) (x : Str) : Nat := (ns.filter fun y => clo ns es x y).length
theorem rank_le (ns : List Str) (es : List Ed) (x : Str) : rank ns es x < ns.length + 1 := by
  have := List.length_filter_le (fun y => clo ns es x y) ns
  unfold rank
  omega
theorem rank_lt {ns : List Str} {es : List Ed} (hin : ∀ e ∈ es, e.1 ∈ ns ∧ e.2 ∈ ns) (hno : ∀ s, clo ns es s s = false) {a b : Str} (h : (a, b) ∈ es) : rank ns es b < rank ns es a := by
  refine filter_lt _ _ ns (fun x _ hx => clo_trans hin (clo_mono h) hx) ⟨b, (hin _ h).2, clo_mono h, hno b⟩
end Go.Proofs.YthpfladpbfbpjaaDoor

/- Plain laws on the tokens of a text of rules: as a function on bytes. No program in sight. -/
namespace Go.Proofs.YthpfladpbfbpjaaDoor

abbrev Bs := List UInt8
def mkS (l : Bs) : Str := ⟨l.toArray⟩
def bs (s : Str) : Bs := s.data.toList
theorem bs_mkS (l : Bs) : bs (mkS l) = l := by simp [bs, mkS]
theorem mkS_bs (s : Str) : mkS (bs s) = s := by
  unfold mkS bs
  apply ByteArray.ext
  simp
theorem mkS_inj {a b : Bs} (h : mkS a = mkS b) : a = b := by rw [← bs_mkS a, ← bs_mkS b, h]
theorem mkS_size (l : Bs) : (mkS l).size = l.length := by
  show l.toArray.size = l.length
  simp
theorem bs_len (s : Str) : (bs s).length = s.size := by
  show s.data.toList.length = s.data.size
  simp

def blankB (c : UInt8) : Bool := decide (c = 32) || decide (c = 9) || decide (c = 10)
def signB (c : UInt8) : Bool := decide (c = 44) || decide (c = 59) || decide (c = 60)
def letterB (c : UInt8) : Bool := decide (32 < c.toNat) && decide (c.toNat < 127) && !decide (c = 33) && !decide (c = 59) && !decide (c = 44) && !decide (c = 60) && !decide (c = 35)
def lineB (c : UInt8) : Bool := !decide (c = 10)
def lowB (c : UInt8) : Bool := decide (c.toNat < 127)

theorem dropWhile_le (p : UInt8 → Bool) : ∀ (l : Bs), (l.dropWhile p).length ≤ l.length
  | [] => by simp
  | x :: r => by
    have := dropWhile_le p r
    rw [List.dropWhile_cons]
    split
    · simp; omega
    · simp

/-- The tokens of a text without comments, with fuel; none, if there is another sign. -/
def lexF : Nat → Bs → Option (List Str)
  | _, [] => some []
  | 0, _ :: _ => none
  | f + 1, c :: r =>
    if blankB c then lexF f r
    else if c = 35 then (if (r.takeWhile lineB).all lowB then lexF f (r.dropWhile lineB) else none)
    else if signB c then (lexF f r).map (mkS [c] :: ·)
    else if c = 33 then
      match r with
      | d :: r' => if d = 60 then (lexF f r').map (mkS [33, 60] :: ·) else none
      | [] => none
    else if letterB c then (lexF f (r.dropWhile letterB)).map (mkS (c :: r.takeWhile letterB) :: ·)
    else none
theorem lexF_same : ∀ (f g : Nat) (l : Bs), l.length ≤ f → l.length ≤ g → lexF f l = lexF g l := by
  intro f
  induction f with
  | zero =>
    intro g l h _
    obtain rfl : l = [] := List.eq_nil_of_length_eq_zero (by omega)
    cases g <;> rfl
  | succ f ih =>
    intro g l h1 h2
    match l, g, h1, h2 with
    | [], g, _, _ => cases g <;> rfl
    | c :: r, 0, _, h2 => simp at h2
    | c :: r, g + 1, h1, h2 =>
      have h1' : r.length ≤ f := by simpa using h1
      have h2' : r.length ≤ g := by simpa using h2
      have d1 := dropWhile_le lineB r
      have d2 := dropWhile_le letterB r
      unfold lexF
      rw [ih g r h1' h2', ih g (r.dropWhile lineB) (by omega) (by omega), ih g (r.dropWhile letterB) (by omega) (by omega)]
      match r, h1', h2' with
      | [], _, _ => rfl
      | d :: r', h1', h2' =>
        simp only
        rw [ih g r' (by simp at h1'; omega) (by simp at h2'; omega)]
/-- The tokens of a text without comments; none, if there is another sign. -/
def lex (l : Bs) : Option (List Str) := lexF l.length l
theorem lex_cons (c : UInt8) (r : Bs) : lex (c :: r) =
    if blankB c then lex r
    else if c = 35 then (if (r.takeWhile lineB).all lowB then lex (r.dropWhile lineB) else none)
    else if signB c then (lex r).map (mkS [c] :: ·)
    else if c = 33 then
      match r with
      | d :: r' => if d = 60 then (lex r').map (mkS [33, 60] :: ·) else none
      | [] => none
    else if letterB c then (lex (r.dropWhile letterB)).map (mkS (c :: r.takeWhile letterB) :: ·)
    else none := by
  have d1 := dropWhile_le lineB r
  have d2 := dropWhile_le letterB r
  unfold lex
  rw [List.length_cons]
  conv => lhs; unfold lexF
  rw [lexF_same r.length (r.dropWhile lineB).length (r.dropWhile lineB) d1 (Nat.le_refl _), lexF_same r.length (r.dropWhile letterB).length (r.dropWhile letterB) d2 (Nat.le_refl _)]
  match r with
  | [] => rfl
  | d :: r' =>
    simp only [List.length_cons]
    rw [lexF_same (r'.length + 1) r'.length r' (by omega) (Nat.le_refl _)]

theorem lex_nil : lex [] = some [] := rfl
theorem lex_blank {c : UInt8} {r : Bs} (h : blankB c = true) : lex (c :: r) = lex r := by rw [lex_cons, if_pos h]
theorem lex_hash {r : Bs} : lex (35 :: r) = if (r.takeWhile lineB).all lowB then lex (r.dropWhile lineB) else none := by
  rw [lex_cons, if_neg (by decide), if_pos rfl]
theorem lex_sign {c : UInt8} {r : Bs} (h : signB c = true) : lex (c :: r) = (lex r).map (mkS [c] :: ·) := by
  have h1 : ¬ blankB c = true := by
    intro hb
    simp [blankB, signB] at hb h
    rcases h with (h | h) | h <;> subst h <;> simp at hb
  have h2 : ¬ c = 35 := by
    intro hb
    subst hb
    revert h
    decide
  rw [lex_cons, if_neg h1, if_neg h2, if_pos h]
theorem lex_bar {d : UInt8} {r : Bs} : lex (33 :: d :: r) = if d = 60 then (lex r).map (mkS [33, 60] :: ·) else none := by
  rw [lex_cons, if_neg (by decide), if_neg (by decide), if_neg (by decide), if_pos rfl]
theorem lex_bar1 : lex [33] = none := by
  rw [lex_cons, if_neg (by decide), if_neg (by decide), if_neg (by decide), if_pos rfl]
theorem letter_not {c : UInt8} (h : letterB c = true) : blankB c = false ∧ ¬ c = 35 ∧ signB c = false ∧ ¬ c = 33 ∧ lowB c = true ∧ lineB c = true := by
  simp only [letterB, Bool.and_eq_true, decide_eq_true_eq, Bool.not_eq_true', decide_eq_false_iff_not] at h
  obtain ⟨⟨⟨⟨⟨⟨h1, h2⟩, h3⟩, h4⟩, h5⟩, h6⟩, h7⟩ := h
  have e : ∀ k : UInt8, k.toNat ≤ 32 → ¬ c = k := fun k hk e => by subst e; omega
  refine ⟨?_, h7, ?_, h3, by simp [lowB, h2], ?_⟩
  · simp [blankB, e 32 (by decide), e 9 (by decide), e 10 (by decide)]
  · simp [signB, h4, h5, h6]
  · simp [lineB, e 10 (by decide)]
theorem lex_letter {c : UInt8} {r : Bs} (h : letterB c = true) : lex (c :: r) = (lex (r.dropWhile letterB)).map (mkS (c :: r.takeWhile letterB) :: ·) := by
  obtain ⟨h1, h2, h3, h4, _⟩ := letter_not h
  rw [lex_cons, if_neg (by simp [h1]), if_neg h2, if_neg (by simp [h3]), if_neg h4, if_pos h]
theorem lex_other {c : UInt8} {r : Bs} (h1 : blankB c = false) (h2 : ¬ c = 35) (h3 : signB c = false) (h4 : ¬ c = 33) (h5 : letterB c = false) : lex (c :: r) = none := by
  rw [lex_cons, if_neg (by simp [h1]), if_neg h2, if_neg (by simp [h3]), if_neg h4, if_neg (by simp [h5])]

/-- How a text that has tokens begins: it is empty; or it begins with a blank, a comment, a sign, a bar, a word. -/
def Head (l : Bs) (ts : List Str) : Prop :=
  (l = [] ∧ ts = []) ∨ (∃ c r, l = c :: r ∧ blankB c = true ∧ lex r = some ts) ∨ (∃ r, l = 35 :: r ∧ (r.takeWhile lineB).all lowB = true ∧ lex (r.dropWhile lineB) = some ts) ∨
  (∃ c r ts', l = c :: r ∧ ts = mkS [c] :: ts' ∧ signB c = true ∧ lex r = some ts') ∨ (∃ r ts', l = 33 :: 60 :: r ∧ ts = mkS [33, 60] :: ts' ∧ lex r = some ts') ∨
  (∃ c r ts', l = c :: r ∧ ts = mkS (c :: r.takeWhile letterB) :: ts' ∧ letterB c = true ∧ lex (r.dropWhile letterB) = some ts')
theorem lex_head {l : Bs} {ts : List Str} (h : lex l = some ts) : Head l ts := by
  match l, h with
  | [], h => rw [lex_nil] at h; cases h; exact .inl ⟨rfl, rfl⟩
  | c :: r, h =>
    by_cases h1 : blankB c = true
    · rw [lex_blank h1] at h; exact .inr (.inl ⟨c, r, rfl, h1, h⟩)
    by_cases h2 : c = 35
    · subst h2
      rw [lex_hash] at h
      split at h
      · rename_i ha; exact .inr (.inr (.inl ⟨r, rfl, ha, h⟩))
      · cases h
    by_cases h3 : signB c = true
    · rw [lex_sign h3] at h
      obtain ⟨ts', h', rfl⟩ := Option.map_eq_some_iff.1 h
      exact .inr (.inr (.inr (.inl ⟨c, r, ts', rfl, rfl, h3, h'⟩)))
    by_cases h4 : c = 33
    · subst h4
      match r, h with
      | [], h => rw [lex_bar1] at h; cases h
      | d :: r', h =>
        rw [lex_bar] at h
        split at h
        · rename_i hd
          subst hd
          obtain ⟨ts', h', rfl⟩ := Option.map_eq_some_iff.1 h
          exact .inr (.inr (.inr (.inr (.inl ⟨r', ts', rfl, rfl, h'⟩))))
        · cases h
    by_cases h5 : letterB c = true
    · rw [lex_letter h5] at h
      obtain ⟨ts', h', rfl⟩ := Option.map_eq_some_iff.1 h
      exact .inr (.inr (.inr (.inr (.inr ⟨c, r, ts', rfl, rfl, h5, h'⟩))))
    · rw [lex_other (by simpa using h1) h2 (by simpa using h3) h4 (by simpa using h5)] at h; cases h

theorem takeWhile_dropWhile' (p : UInt8 → Bool) (l : Bs) : l.takeWhile p ++ l.dropWhile p = l := List.takeWhile_append_dropWhile
theorem low_of_sign {c : UInt8} (h : signB c = true) : lowB c = true := by
  simp [signB] at h
  rcases h with (h | h) | h <;> subst h <;> decide
theorem low_of_blank {c : UInt8} (h : blankB c = true) : lowB c = true := by
  simp [blankB] at h
  rcases h with (h | h) | h <;> subst h <;> decide
/-- All bytes of a text that has tokens are plain ones. -/
theorem lex_low : ∀ (n : Nat) (l : Bs) (ts : List Str), l.length ≤ n → lex l = some ts → ∀ c ∈ l, lowB c = true := by
  intro n
  induction n with
  | zero =>
    intro l ts hl _ c hc
    obtain rfl : l = [] := List.eq_nil_of_length_eq_zero (by omega)
    simp at hc
  | succ n ih =>
    intro l ts hl h c hc
    have hall : ∀ (p : UInt8 → Bool) (r : Bs) (q : Bs) (ts : List Str), r.length ≤ n → (∀ x ∈ r.takeWhile p, lowB x = true) → lex (r.dropWhile p) = some ts → ∀ x ∈ r, lowB x = true := by
      intro p r q ts hr ht hd x hx
      rw [← takeWhile_dropWhile' p r] at hx
      rcases List.mem_append.1 hx with hx | hx
      · exact ht x hx
      · exact ih _ ts (by have := dropWhile_le p r; omega) hd x hx
    rcases lex_head h with ⟨rfl, rfl⟩ | ⟨c', r, rfl, h1, h2⟩ | ⟨r, rfl, h1, h2⟩ | ⟨c', r, ts', rfl, rfl, h1, h2⟩ | ⟨r, ts', rfl, rfl, h1⟩ | ⟨c', r, ts', rfl, rfl, h1, h2⟩
    · simp at hc
    ·
      rcases List.mem_cons.1 hc with rfl | hc
      · exact low_of_blank h1
      · exact ih _ _ (by simp at hl; omega) h2 c hc
    ·
      rcases List.mem_cons.1 hc with rfl | hc
      · decide
      · exact hall lineB r [] ts (by simp at hl; omega) (fun x hx => List.all_eq_true.1 h1 x hx) h2 c hc
    ·
      rcases List.mem_cons.1 hc with rfl | hc
      · exact low_of_sign h1
      · exact ih _ _ (by simp at hl; omega) h2 c hc
    ·
      rcases List.mem_cons.1 hc with rfl | hc
      · decide
      · rcases List.mem_cons.1 hc with rfl | hc
        · decide
        · exact ih _ _ (by simp at hl; omega) h1 c hc
    ·
      rcases List.mem_cons.1 hc with rfl | hc
      · exact (letter_not h1).2.2.2.2.1
      · refine hall letterB r [] ts' (by simp at hl; omega) (fun x hx => ?_) h2 c hc
        have : ∀ (r : Bs), x ∈ r.takeWhile letterB → letterB x = true := by
          intro r
          induction r with
          | nil => intro hx; simp at hx
          | cons y t iht =>
            intro hx
            rw [List.takeWhile_cons] at hx
            split at hx
            · rcases List.mem_cons.1 hx with rfl | hx
              · assumption
              · exact iht hx
            · simp at hx
        exact (letter_not (this r hx)).2.2.2.2.1
/-- A text has no more tokens than bytes, and none of them is empty. -/
theorem lex_count : ∀ (n : Nat) (l : Bs) (ts : List Str), l.length ≤ n → lex l = some ts → ts.length ≤ l.length ∧ ∀ t ∈ ts, 0 < t.size ∧ t.size ≤ l.length := by
  intro n
  induction n with
  | zero =>
    intro l ts hl h
    obtain rfl : l = [] := List.eq_nil_of_length_eq_zero (by omega)
    rw [lex_nil] at h
    cases h
    simp
  | succ n ih =>
    intro l ts hl h
    rcases lex_head h with ⟨rfl, rfl⟩ | ⟨c', r, rfl, h1, h2⟩ | ⟨r, rfl, h1, h2⟩ | ⟨c', r, ts', rfl, rfl, h1, h2⟩ | ⟨r, ts', rfl, rfl, h1⟩ | ⟨c', r, ts', rfl, rfl, h1, h2⟩
    · simp
    ·
      have := ih _ _ (by simp at hl; omega) h2
      exact ⟨by simp; omega, fun t ht => by have := this.2 t ht; simp; omega⟩
    ·
      have hd := dropWhile_le lineB r
      have := ih _ _ (by simp at hl; omega) h2
      exact ⟨by simp; omega, fun t ht => by have := this.2 t ht; simp; omega⟩
    ·
      have := ih _ _ (by simp at hl; omega) h2
      refine ⟨by simp; omega, fun t ht => ?_⟩
      rcases List.mem_cons.1 ht with rfl | ht
      · rw [mkS_size]; simp
      · have := this.2 t ht; simp; omega
    ·
      have := ih _ _ (by simp at hl; omega) h1
      refine ⟨by simp; omega, fun t ht => ?_⟩
      rcases List.mem_cons.1 ht with rfl | ht
      · rw [mkS_size]; simp
      · have := this.2 t ht; simp; omega
    ·
      have hd := dropWhile_le letterB r
      have := ih _ _ (by simp at hl; omega) h2
      have hs := congrArg List.length (takeWhile_dropWhile' letterB r)
      rw [List.length_append] at hs
      refine ⟨by simp; omega, fun t ht => ?_⟩
      rcases List.mem_cons.1 ht with rfl | ht
      · rw [mkS_size]; simp; omega
      · have := this.2 t ht; simp; omega
end Go.Proofs.YthpfladpbfbpjaaDoor

/- Plain laws on the rules of a list of tokens: how the reference cuts them, how the package reads them; where the reference says fine the package reads the same rules, where it says wrong the package refuses. No program in sight. -/
namespace Go.Proofs.YthpfladpbfbpjaaDoor

def tComma : Str := mkS [44]
def tSemi : Str := mkS [59]
def tLt : Str := mkS [60]
def tBar : Str := mkS [33, 60]
theorem tok_ne : tComma ≠ tSemi ∧ tComma ≠ tLt ∧ tComma ≠ tBar ∧ tSemi ≠ tLt ∧ tSemi ≠ tBar ∧ tLt ≠ tBar := by
  refine ⟨?_, ?_, ?_, ?_, ?_, ?_⟩ <;> (intro h; have := mkS_inj h; revert this; decide)
/-- is it no name? -/
def signT (t : Str) : Bool := decide (t = tComma) || decide (t = tSemi) || decide (t = tLt) || decide (t = tBar)
/-- a rule: less, is it a bar, def -/
abbrev Rl := List Str × Bool × List Str

/-! ### the reference: the lists of one rule -/
/-- lists that are done, what stands behind each, the list at hand, does a name come next? -/
structure LSt where
  done : List (List Str)
  ops : List Str
  cur : List Str
  nm : Bool
def lStep : Option LSt → Str → Option LSt
  | none, _ => none
  | some s, t => if s.nm = signT t then none
    else if s.nm = true then some { s with cur := s.cur ++ [t], nm := false }
    else if t = tComma then some { s with nm := true }
    else some ⟨s.done ++ [s.cur], s.ops ++ [t], [], true⟩
theorem lStep_some (s : LSt) (t : Str) : lStep (some s) t = if s.nm = signT t then none
    else if s.nm = true then some { s with cur := s.cur ++ [t], nm := false }
    else if t = tComma then some { s with nm := true }
    else some ⟨s.done ++ [s.cur], s.ops ++ [t], [], true⟩ := rfl
def lStart : Option LSt := some ⟨[], [], [], true⟩
def lRun (seg : List Str) : Option LSt := seg.foldl lStep lStart
theorem lRun_snoc (seg : List Str) (t : Str) : lRun (seg ++ [t]) = lStep (lRun seg) t := by simp [lRun, List.foldl_append]
/-- the rules of lists with what stands between them -/
def rulesOf : List (List Str) → List Str → List Str → List Rl
  | [], _, _ => []
  | [l], o :: _, c => [(l, decide (o = tBar), c)]
  | l :: m :: r, o :: os, c => (l, decide (o = tBar), m) :: rulesOf (m :: r) os c
  | _ :: _, [], _ => []

/-! ### the reference: all tokens -/
/-- open (none), wrong (some none), or rules so far with the segment at hand -/
abbrev SRes := Option (Option (List Rl × List Str))
def srStep : SRes → Str → SRes
  | some (some (out, seg)), t => if t = tSemi then
      (if seg = [] then some none else
        match lRun seg with
        | none => some none
        | some s => if s.nm = true then some none else if s.ops = [] then none else some (some (out ++ rulesOf s.done s.ops s.cur, [])))
      else some (some (out, seg ++ [t]))
  | x, _ => x
def srRun (ts : List Str) : SRes := ts.foldl srStep (some (some ([], [])))
theorem srRun_snoc (ts : List Str) (t : Str) : srRun (ts ++ [t]) = srStep (srRun ts) t := by simp [srRun, List.foldl_append]
/-- open (none), wrong (some none), or fine -/
abbrev St3 (α : Type) := Option (Option α)
def srEnd : SRes → St3 (List Rl)
  | none => none
  | some none => some none
  | some (some (out, [])) => some (some out)
  | some (some (_, seg)) => match lRun seg with
    | none => none
    | some s => if s.nm = true ∨ s.ops = [] then none else some none

/-! ### the package -/
structure PSt where
  out : List Rl
  prev : Option (List Str × Bool)
  cur : List Str
  nm : Bool
def PSt.push (s : PSt) : List Rl := match s.prev with
  | none => s.out
  | some (p, b) => s.out ++ [(p, b, s.cur)]
/-- one token more; none is a refusal -/
def pStep (s : PSt) (t : Str) : Option PSt :=
  if s.nm = true then (if signT t = true then none else some { s with cur := s.cur ++ [t], nm := false })
  else if t = tComma then some { s with nm := true }
  else if t = tSemi then some ⟨s.push, none, [], true⟩
  else if t = tLt ∨ t = tBar then some ⟨s.push, some (s.cur, decide (t = tBar)), [], true⟩
  else none
def pRun : PSt → List Str → Option PSt
  | s, [] => some s
  | s, t :: r => match pStep s t with
    | none => none
    | some s' => pRun s' r
def pEnd (s : PSt) : Option (List Rl) := if (s.nm = true → s.cur = []) ∧ s.prev = none then some s.out else none
/-- What the package reads of tokens; none is a refusal. -/
def pRules (ts : List Str) : Option (List Rl) := (pRun ⟨[], none, [], true⟩ ts).bind pEnd
theorem pRun_append (s : PSt) : ∀ (a b : List Str), pRun s (a ++ b) = (pRun s a).bind (fun s' => pRun s' b)
  | [], b => rfl
  | t :: r, b => by
    simp only [List.cons_append, pRun]
    cases pStep s t with
    | none => rfl
    | some s' => exact pRun_append s' r b

/-! ### they agree -/
/-- what the package has pushed of the lists that are done -/
def pushed : List (List Str) → List Str → List Rl
  | [], _ => []
  | [_], _ => []
  | l :: m :: r, o :: os => (l, decide (o = tBar), m) :: pushed (m :: r) os
  | _ :: _ :: _, [] => []
def lastD : List (List Str) → List Str → Option (List Str × Bool)
  | [], _ => none
  | [l], o :: _ => some (l, decide (o = tBar))
  | _ :: m :: r, _ :: os => lastD (m :: r) os
  | _ :: _, [] => none
theorem lastD_snoc : ∀ (D : List (List Str)) (O : List Str) (l : List Str) (o : Str), D.length = O.length → lastD (D ++ [l]) (O ++ [o]) = some (l, decide (o = tBar))
  | [], [], l, o, _ => rfl
  | [x], [p], l, o, _ => rfl
  | x :: y :: r, p :: q :: os, l, o, h => by
    have := lastD_snoc (y :: r) (q :: os) l o (by simpa using h)
    simpa [lastD] using this
  | [], _ :: _, _, _, h => by simp at h
  | _ :: _, [], _, _, h => by simp at h
  | [_], _ :: _ :: _, _, _, h => by simp at h
  | _ :: _ :: _, [_], _, _, h => by simp at h
theorem pushed_snoc : ∀ (D : List (List Str)) (O : List Str) (l : List Str) (o : Str), D.length = O.length → pushed (D ++ [l]) (O ++ [o]) = match lastD D O with
    | none => pushed D O
    | some (p, b) => pushed D O ++ [(p, b, l)]
  | [], [], l, o, _ => rfl
  | [x], [p], l, o, _ => rfl
  | x :: y :: r, p :: q :: os, l, o, h => by
    have := pushed_snoc (y :: r) (q :: os) l o (by simpa using h)
    simp only [List.cons_append, pushed, lastD] at this ⊢
    rw [this]
    cases lastD (y :: r) (q :: os) with
    | none => rfl
    | some z => rfl
  | [], _ :: _, _, _, h => by simp at h
  | _ :: _, [], _, _, h => by simp at h
  | [_], _ :: _ :: _, _, _, h => by simp at h
  | _ :: _ :: _, [_], _, _, h => by simp at h
theorem rulesOf_eq : ∀ (D : List (List Str)) (O : List Str) (c : List Str), D.length = O.length → rulesOf D O c = match lastD D O with
    | none => pushed D O
    | some (p, b) => pushed D O ++ [(p, b, c)]
  | [], [], c, _ => rfl
  | [x], [p], c, _ => rfl
  | x :: y :: r, p :: q :: os, c, h => by
    have := rulesOf_eq (y :: r) (q :: os) c (by simpa using h)
    simp only [rulesOf, pushed, lastD] at this ⊢
    rw [this]
    cases lastD (y :: r) (q :: os) with
    | none => rfl
    | some z => rfl
  | [], _ :: _, _, h => by simp at h
  | _ :: _, [], _, h => by simp at h
  | [_], _ :: _ :: _, _, h => by simp at h
  | _ :: _ :: _, [_], _, h => by simp at h
theorem lastD_none : ∀ (D : List (List Str)) (O : List Str), D.length = O.length → (lastD D O = none ↔ O = [])
  | [], [], _ => by simp [lastD]
  | [x], [p], _ => by simp [lastD]
  | x :: y :: r, p :: q :: os, h => by
    have := lastD_none (y :: r) (q :: os) (by simpa using h)
    simp only [lastD]
    rw [this]
    simp
  | [], _ :: _, h => by simp at h
  | _ :: _, [], h => by simp at h
  | [_], _ :: _ :: _, h => by simp at h
  | _ :: _ :: _, [_], h => by simp at h

/-- the package's state behind a segment -/
def pOf (out : List Rl) (s : LSt) : PSt := ⟨out ++ pushed s.done s.ops, lastD s.done s.ops, s.cur, s.nm⟩
theorem pStart (out : List Rl) : pOf out ⟨[], [], [], true⟩ = ⟨out, none, [], true⟩ := by simp [pOf, pushed, lastD]
theorem lStep_len {s s' : LSt} {t : Str} (h : s.done.length = s.ops.length) (hs : lStep (some s) t = some s') : s'.done.length = s'.ops.length := by
  rw [lStep_some] at hs
  split at hs
  · cases hs
  split at hs
  · cases hs; exact h
  split at hs
  · cases hs; exact h
  · cases hs; simp [h]
theorem pStep_l {out : List Rl} {s : LSt} {t : Str} (h : s.done.length = s.ops.length) (ht : t ≠ tSemi) : pStep (pOf out s) t = (lStep (some s) t).map (pOf out) := by
  rw [lStep_some]
  unfold pStep
  have hsg : s.nm = true ∨ s.nm = false := by cases s.nm <;> simp
  rcases hsg with hn | hn
  · simp only [pOf, hn, if_true]
    by_cases hs : signT t = true
    · rw [if_pos hs, if_pos hs.symm]; rfl
    · rw [if_neg hs, if_neg (fun e => hs e.symm)]; rfl
  · have hn2 : (pOf out s).nm = false := hn
    rw [if_neg (by rw [hn2]; decide), hn]
    by_cases hc : t = tComma
    · subst hc
      have : signT tComma = true := by simp [signT]
      rw [if_pos rfl, this, if_neg (by decide), if_neg (by decide), if_pos rfl]
      rfl
    · rw [if_neg hc, if_neg ht]
      by_cases hl : t = tLt ∨ t = tBar
      · rw [if_pos hl]
        have hsg : signT t = true := by rcases hl with hl | hl <;> simp [signT, hl]
        rw [hsg, if_neg (by decide), if_neg (by decide), if_neg hc, Option.map_some]
        simp only [pOf, PSt.push, pushed_snoc _ _ _ _ h, lastD_snoc _ _ _ _ h]
        congr 1
        cases lastD s.done s.ops with
        | none => rfl
        | some z => simp
      · rw [if_neg hl]
        have hsg : signT t = false := by
          simp only [not_or] at hl
          simp [signT, hc, ht, hl.1, hl.2]
        rw [hsg, if_pos rfl]
        rfl
theorem lRun_len (seg : List Str) : ∀ s, lRun seg = some s → s.done.length = s.ops.length := by
  refine snoc_ind (P := fun seg => ∀ s, lRun seg = some s → s.done.length = s.ops.length) ?_ ?_ seg
  · intro s h; cases h; rfl
  · intro l t ih s h
    rw [lRun_snoc] at h
    cases hl : lRun l with
    | none => rw [hl] at h; cases h
    | some s0 => rw [hl] at h; exact lStep_len (ih s0 hl) h
theorem pRun_l (out : List Rl) (seg : List Str) : (∀ t ∈ seg, t ≠ tSemi) → pRun ⟨out, none, [], true⟩ seg = (lRun seg).map (pOf out) := by
  refine snoc_ind (P := fun seg => (∀ t ∈ seg, t ≠ tSemi) → pRun ⟨out, none, [], true⟩ seg = (lRun seg).map (pOf out)) ?_ ?_ seg
  · intro _
    show some _ = some _
    rw [pStart]
  · intro l t ih h
    rw [pRun_append, ih (fun x hx => h x (by simp [hx])), lRun_snoc]
    cases hl : lRun l with
    | none => rfl
    | some s0 =>
      rw [Option.map_some, Option.bind_some]
      show (match pStep (pOf out s0) t with | none => none | some s' => pRun s' []) = _
      rw [pStep_l (lRun_len l s0 hl) (h t (by simp))]
      cases lStep (some s0) t <;> rfl

/-- what the package has behind tokens over which the reference is still fine -/
def Ahead (ts : List Str) : Prop := match srRun ts with
  | some (some (out, seg)) => (∀ t ∈ seg, t ≠ tSemi) ∧ pRun ⟨[], none, [], true⟩ ts = (lRun seg).map (pOf out)
  | some none => pRun ⟨[], none, [], true⟩ ts = none
  | none => True
theorem ahead (ts : List Str) : Ahead ts := by
  refine snoc_ind (P := Ahead) ?_ ?_ ts
  · show (∀ t ∈ ([] : List Str), t ≠ tSemi) ∧ some _ = some _
    exact ⟨by simp, by rw [pStart]⟩
  · intro l t ih
    unfold Ahead at ih ⊢
    rw [srRun_snoc]
    rcases hs : srRun l with _ | _ | ⟨out, seg⟩
    · trivial
    · rw [hs] at ih
      show pRun _ (l ++ [t]) = none
      rw [pRun_append, ih]
      rfl
    · rw [hs] at ih
      obtain ⟨h1, h2⟩ := ih
      by_cases ht : t = tSemi
      · subst ht
        have hp : pRun ⟨[], none, [], true⟩ (l ++ [tSemi]) = (lRun seg).bind (fun s => pRun (pOf out s) [tSemi]) := by
          rw [pRun_append, h2]
          cases lRun seg <;> rfl
        have hss : signT tSemi = true := by simp [signT]
        have htrue : ∀ s : LSt, s.nm = true → pRun (pOf out s) [tSemi] = none := fun s hn => by
          have : (pOf out s).nm = true := hn
          simp only [pRun, pStep, this, if_true, hss]
        simp only [srStep, if_true]
        by_cases he : seg = []
        · rw [if_pos he]
          subst he
          show pRun _ (l ++ [tSemi]) = none
          rw [hp]
          exact htrue ⟨[], [], [], true⟩ rfl
        · rw [if_neg he]
          cases hl : lRun seg with
          | none =>
            show pRun _ (l ++ [tSemi]) = none
            rw [hp, hl]
            rfl
          | some s =>
            by_cases hn : s.nm = true
            · simp only [hn, if_true]
              rw [hp, hl]
              exact htrue s hn
            · simp only [hn]
              by_cases ho : s.ops = []
              · rw [if_pos ho]; trivial
              · rw [if_neg ho]
                refine ⟨by simp, ?_⟩
                rw [hp, hl]
                have hn2 : (pOf out s).nm = false := by simpa [pOf] using hn
                have hlen := lRun_len seg s hl
                show pRun (pOf out s) [tSemi] = some (pOf (out ++ rulesOf s.done s.ops s.cur) ⟨[], [], [], true⟩)
                rw [pStart]
                have hc : tSemi ≠ tComma := fun e => tok_ne.1 e.symm
                have hstep : pStep (pOf out s) tSemi = some ⟨(pOf out s).push, none, [], true⟩ := by
                  unfold pStep
                  rw [if_neg (by rw [hn2]; decide), if_neg hc, if_pos rfl]
                simp only [pRun, hstep]
                congr 2
                rw [rulesOf_eq _ _ _ hlen]
                unfold PSt.push pOf
                cases hla : lastD s.done s.ops with
                | none => exact absurd ((lastD_none _ _ hlen).1 hla) ho
                | some z => simp
      · simp only [srStep, if_neg ht]
        refine ⟨fun x hx => ?_, ?_⟩
        · rcases List.mem_append.1 hx with hx | hx
          · exact h1 x hx
          · simp at hx; subst hx; exact ht
        · rw [pRun_append, h2, lRun_snoc]
          cases hl : lRun seg with
          | none => rfl
          | some s0 =>
            rw [Option.map_some, Option.bind_some]
            show (match pStep (pOf out s0) t with | none => none | some s' => pRun s' []) = _
            rw [pStep_l (lRun_len seg s0 hl) ht]
            cases lStep (some s0) t <;> rfl
/-- THE PLAIN LAW of rules. -/
theorem pRules_same (ts : List Str) : match srEnd (srRun ts) with
    | some (some R) => pRules ts = some R
    | some none => pRules ts = none
    | none => True := by
  have h := ahead ts
  unfold Ahead at h
  rcases hs : srRun ts with _ | _ | ⟨out, seg⟩
  · trivial
  · rw [hs] at h
    show pRules ts = none
    unfold pRules
    rw [h]
    rfl
  · rw [hs] at h
    obtain ⟨h1, h2⟩ := h
    cases seg with
    | nil =>
      show pRules ts = some out
      unfold pRules
      rw [h2]
      show pEnd (pOf out ⟨[], [], [], true⟩) = some out
      rw [pStart]
      simp [pEnd]
    | cons x r =>
      show (match (match lRun (x :: r) with | none => (none : St3 (List Rl)) | some s => if s.nm = true ∨ s.ops = [] then none else some none) with
        | some (some R) => pRules ts = some R
        | some none => pRules ts = none
        | none => True)
      cases hl : lRun (x :: r) with
      | none => trivial
      | some s =>
        by_cases hc : s.nm = true ∨ s.ops = []
        · simp only [if_pos hc]
        · simp only [if_neg hc]
          unfold pRules
          rw [h2, hl]
          show pEnd (pOf out s) = none
          unfold pEnd
          rw [if_neg]
          rintro ⟨_, h3⟩
          exact hc (.inr ((lastD_none _ _ (lRun_len _ s hl)).1 h3))
end Go.Proofs.YthpfladpbfbpjaaDoor

/- Plain laws on graphs of rules: what the reference makes of rules, what the package makes of them, and that they agree. No program in sight. -/
namespace Go.Proofs.YthpfladpbfbpjaaDoor

def tNone : Str := mkS [78, 79, 78, 69]

/-! ### the reference -/
/-- open (none), wrong (some none), or nodes and edges so far -/
abbrev GRes := Option (Option (List Str × List Ed))
def lessStep (df : List Str) (ns : List Str) (d : Str) : GRes → Str → GRes
  | some (some (n, es)), l => if l = tNone then some (some (n, es)) else if l ∈ df then none else if l ∉ ns then some none else some (some (n, es ++ [(d, l)]))
  | x, _ => x
def defStep (r : Rl) : GRes → Str → GRes
  | some (some (ns, es)), d => if r.2.1 = true then some (some (ns, es)) else if d ∈ r.1 then none else if d = tNone ∨ d ∈ ns then some none else
      match r.1.foldl (lessStep r.2.2 ns d) (some (some (ns, es))) with
      | some (some (_, es')) => some (some (ns ++ [d], es'))
      | x => x
  | x, _ => x
def ruleStep (g : GRes) (r : Rl) : GRes := r.2.2.foldl (defStep r) g
def rawG (R : List Rl) : GRes := R.foldl ruleStep (some (some ([], [])))
/-- the pairs that the bars of rules name: what stands behind, what stands ahead -/
def barred (R : List Rl) : List Ed := R.flatMap fun r => if r.2.1 = true then r.1.flatMap fun l => r.2.2.map fun d => (d, l) else []
/-- What the reference makes of rules: nodes and raw edges. -/
def graphS (R : List Rl) : St3 (List Str × List Ed) := match rawG R with
  | none => none
  | some none => some none
  | some (some (ns, es)) => if 20 < ns.length then none
    else if (barred R).all (fun e => decide (e.1 ∈ ns) && decide (e.2 ∈ ns)) = false then none
    else if (barred R).any (fun e => clo ns es e.1 e.2) = true then some none
    else some (some (ns, es))

/-! ### the package -/
def iLess (d : Str) (p : Gr × Nat) (l : Str) : Gr × Nat := if l = tNone then p else if l ∈ names p.1 then (addE p.1 d l, p.2) else (p.1, p.2 + 1)
def iDef (ls : List Str) (p : Gr × Nat) (d : Str) : Gr × Nat := if d = tNone then (p.1, p.2 + 1) else ls.foldl (iLess d) (addN p.1 d, if d ∈ names p.1 then p.2 + 1 else p.2)
def iRule (p : Gr × Nat) (r : Rl) : Gr × Nat := if r.2.1 = true then p else r.2.2.foldl (iDef r.1) p
def iBuild (R : List Rl) : Gr × Nat := R.foldl iRule ([], 0)
def cStep (k i : Str) (p : Gr × Nat) (j : Str) : Gr × Nat := if i ≠ k ∧ k ≠ j ∧ hasE p.1 i k = true ∧ hasE p.1 k j = true then (addE p.1 i j, if i = j then p.2 + 1 else p.2) else p
def cRow (ns : List Str) (k : Str) (p : Gr × Nat) (i : Str) : Gr × Nat := ns.foldl (cStep k i) p
def cAll (ns : List Str) (p : Gr × Nat) (k : Str) : Gr × Nat := ns.foldl (cRow ns k) p
def iClose (ns : List Str) (p : Gr × Nat) : Gr × Nat := ns.foldl (cAll ns) p
def bDef (G : Gr) (l : Str) (e : Nat) (d : Str) : Nat := if hasE G d l = true then e + 1 else e
def bLess (G : Gr) (df : List Str) (e : Nat) (l : Str) : Nat := df.foldl (bDef G l) e
def bRule (G : Gr) (e : Nat) (r : Rl) : Nat := if r.2.1 = true then r.1.foldl (bLess G r.2.2) e else e
def iBars (G : Gr) (R : List Rl) (e : Nat) : Nat := R.foldl (bRule G) e
/-- What the package makes of rules; none is a refusal. -/
def graphP (R : List Rl) : Option Gr :=
  let p := iClose (names (iBuild R).1) (iBuild R)
  if iBars p.1 R p.2 = 0 then some p.1 else none

/-! ### counts only grow -/
theorem iLess_mono (d : Str) (p : Gr × Nat) (l : Str) : p.2 ≤ (iLess d p l).2 := by
  unfold iLess
  split
  · exact Nat.le_refl _
  split
  · exact Nat.le_refl _
  · exact Nat.le_succ _
theorem fold_mono {α : Type} (f : Gr × Nat → α → Gr × Nat) (hf : ∀ p x, p.2 ≤ (f p x).2) : ∀ (l : List α) (p : Gr × Nat), p.2 ≤ (l.foldl f p).2
  | [], _ => Nat.le_refl _
  | x :: r, p => Nat.le_trans (hf p x) (fold_mono f hf r (f p x))
theorem iDef_mono (ls : List Str) (p : Gr × Nat) (d : Str) : p.2 ≤ (iDef ls p d).2 := by
  unfold iDef
  split
  · exact Nat.le_succ _
  · refine Nat.le_trans ?_ (fold_mono _ (iLess_mono d) ls _)
    simp only
    split
    · exact Nat.le_succ _
    · exact Nat.le_refl _
theorem iRule_mono (p : Gr × Nat) (r : Rl) : p.2 ≤ (iRule p r).2 := by
  unfold iRule
  split
  · exact Nat.le_refl _
  · exact fold_mono _ (iDef_mono r.1) _ _
theorem cStep_mono (k i : Str) (p : Gr × Nat) (j : Str) : p.2 ≤ (cStep k i p j).2 := by
  unfold cStep
  split
  · simp only
    split
    · exact Nat.le_succ _
    · exact Nat.le_refl _
  · exact Nat.le_refl _
theorem cRow_mono (ns : List Str) (k : Str) (p : Gr × Nat) (i : Str) : p.2 ≤ (cRow ns k p i).2 := fold_mono _ (cStep_mono k i) ns p
theorem cAll_mono (ns : List Str) (p : Gr × Nat) (k : Str) : p.2 ≤ (cAll ns p k).2 := fold_mono _ (cRow_mono ns k) ns p
theorem iClose_mono (ns : List Str) (p : Gr × Nat) : p.2 ≤ (iClose ns p).2 := fold_mono _ (cAll_mono ns) ns p
theorem foldN_mono {α : Type} (f : Nat → α → Nat) (hf : ∀ p x, p ≤ f p x) : ∀ (l : List α) (p : Nat), p ≤ l.foldl f p
  | [], _ => Nat.le_refl _
  | x :: r, p => Nat.le_trans (hf p x) (foldN_mono f hf r (f p x))
theorem bDef_mono (G : Gr) (l : Str) (e : Nat) (d : Str) : e ≤ bDef G l e d := by unfold bDef; split <;> omega
theorem bLess_mono (G : Gr) (df : List Str) (e : Nat) (l : Str) : e ≤ bLess G df e l := foldN_mono _ (bDef_mono G l) df e
theorem bRule_mono (G : Gr) (e : Nat) (r : Rl) : e ≤ bRule G e r := by
  unfold bRule
  split
  · exact foldN_mono _ (bLess_mono G r.2.2) _ _
  · exact Nat.le_refl _

/-! ### the building -/
/-- Where the reference is still fine the package has the same nodes and edges, and no error. -/
structure Same (ns : List Str) (es : List Ed) (p : Gr × Nat) : Prop where
  good : GoodG p.1
  nm : names p.1 = ns
  ed : ∀ a b, hasE p.1 a b = true ↔ (a, b) ∈ es
  no : p.2 = 0
  nodup : ns.Nodup
  inn : ∀ e ∈ es, e.1 ∈ ns ∧ e.2 ∈ ns
  back : ∀ e ∈ es, ns.idxOf e.2 < ns.idxOf e.1
def SimG (g : GRes) (p : Gr × Nat) : Prop := match g with
  | none => True
  | some none => 0 < p.2
  | some (some (ns, es)) => Same ns es p

theorem defStep_some (r : Rl) (ns : List Str) (es : List Ed) (d : Str) : defStep r (some (some (ns, es))) d = if r.2.1 = true then some (some (ns, es)) else if d ∈ r.1 then none else if d = tNone ∨ d ∈ ns then some none else
      match r.1.foldl (lessStep r.2.2 ns d) (some (some (ns, es))) with
      | some (some (_, es')) => some (some (ns ++ [d], es'))
      | x => x := rfl
theorem lessFold_stuck (df ns : List Str) (d : Str) : ∀ (ls : List Str) (g : GRes), (g = none ∨ g = some none) → ls.foldl (lessStep df ns d) g = g
  | [], _, _ => rfl
  | l :: r, g, h => by
    have : lessStep df ns d g l = g := by rcases h with rfl | rfl <;> rfl
    rw [List.foldl_cons, this]
    exact lessFold_stuck df ns d r g h
/-- the less of one definition: the graph has d already, the reference not yet -/
structure SameD (ns : List Str) (d : Str) (es : List Ed) (p : Gr × Nat) : Prop where
  good : GoodG p.1
  nm : names p.1 = ns ++ [d]
  ed : ∀ a b, hasE p.1 a b = true ↔ (a, b) ∈ es
  no : p.2 = 0
  inn : ∀ e ∈ es, (e.1 ∈ ns ∨ e.1 = d) ∧ e.2 ∈ ns
  back : ∀ e ∈ es, e.1 ∈ ns → ns.idxOf e.2 < ns.idxOf e.1
theorem less_sim (df ns : List Str) (d : Str) (hd : d ∉ ns) : ∀ (ls : List Str), d ∉ ls → ∀ (es : List Ed) (p : Gr × Nat), SameD ns d es p →
    match ls.foldl (lessStep df ns d) (some (some (ns, es))) with
    | none => True
    | some none => 0 < (ls.foldl (iLess d) p).2
    | some (some (n, es')) => n = ns ∧ SameD ns d es' (ls.foldl (iLess d) p)
  | [], _, es, p, h => ⟨rfl, h⟩
  | l :: r, hl, es, p, h => by
    simp only [List.foldl_cons]
    have hdl : d ≠ l := fun e => hl (by simp [e])
    have hr : d ∉ r := fun hh => hl (List.mem_cons_of_mem _ hh)
    have hmem : l ∈ names p.1 ↔ l ∈ ns := by
      rw [h.nm, List.mem_append, List.mem_singleton]
      exact ⟨fun hh => hh.elim id (fun e => absurd e.symm hdl), .inl⟩
    by_cases h1 : l = tNone
    · have e1 : lessStep df ns d (some (some (ns, es))) l = some (some (ns, es)) := by simp [lessStep, h1]
      have e2 : iLess d p l = p := by simp [iLess, h1]
      rw [e1, e2]
      exact less_sim df ns d hd r hr es p h
    by_cases h2 : l ∈ df
    · have e1 : lessStep df ns d (some (some (ns, es))) l = none := by simp [lessStep, h1, h2]
      rw [e1, lessFold_stuck _ _ _ _ _ (.inl rfl)]
      trivial
    by_cases h3 : l ∈ ns
    · have e1 : lessStep df ns d (some (some (ns, es))) l = some (some (ns, es ++ [(d, l)])) := by simp [lessStep, h1, h2, h3]
      have e2 : iLess d p l = (addE p.1 d l, p.2) := by simp [iLess, h1, hmem.2 h3]
      rw [e1, e2]
      refine less_sim df ns d hd r hr _ _ ⟨goodG_addE h.good, ?_, fun a b => ?_, h.no, fun e he => ?_, fun e he hen => ?_⟩
      · rw [addE, names_setE]; exact h.nm
      · rw [hasE_addE h.good (by rw [h.nm]; simp), h.ed]
        simp [Prod.ext_iff]
      · rcases List.mem_append.1 he with he | he
        · exact h.inn e he
        · simp at he; subst he; exact ⟨.inr rfl, h3⟩
      · rcases List.mem_append.1 he with he | he
        · exact h.back e he hen
        · simp at he; subst he; exact absurd hen hd
    · have e1 : lessStep df ns d (some (some (ns, es))) l = some none := by simp [lessStep, h1, h2, h3]
      rw [e1, lessFold_stuck _ _ _ _ _ (.inr rfl)]
      have e2 : iLess d p l = (p.1, p.2 + 1) := by simp [iLess, h1, hmem, h3]
      show 0 < (r.foldl (iLess d) (iLess d p l)).2
      rw [e2]
      exact Nat.lt_of_lt_of_le (Nat.succ_pos p.2) (fold_mono _ (iLess_mono d) r (p.1, p.2 + 1))

theorem defFold_stuck (r : Rl) : ∀ (ds : List Str) (g : GRes), (g = none ∨ g = some none) → ds.foldl (defStep r) g = g
  | [], _, _ => rfl
  | d :: t, g, h => by
    have : defStep r g d = g := by rcases h with rfl | rfl <;> rfl
    rw [List.foldl_cons, this]
    exact defFold_stuck r t g h
theorem defFold_bar (r : Rl) (hb : r.2.1 = true) : ∀ (ds : List Str) (g : GRes), ds.foldl (defStep r) g = g
  | [], _ => rfl
  | d :: t, g => by
    have : defStep r g d = g := by
      rcases g with _ | _ | ⟨ns, es⟩
      · rfl
      · rfl
      · simp [defStep, hb]
    rw [List.foldl_cons, this]
    exact defFold_bar r hb t g
theorem def_sim (r : Rl) (hb : r.2.1 = false) {ns : List Str} {es : List Ed} {p : Gr × Nat} (d : Str) (h : Same ns es p) : SimG (defStep r (some (some (ns, es))) d) (iDef r.1 p d) := by
  rw [defStep_some, if_neg (by simp [hb])]
  by_cases h1 : d ∈ r.1
  · rw [if_pos h1]; trivial
  rw [if_neg h1]
  by_cases h2 : d = tNone
  · rw [if_pos (.inl h2)]
    show 0 < (iDef r.1 p d).2
    unfold iDef
    rw [if_pos h2]
    exact Nat.succ_pos _
  by_cases h3 : d ∈ ns
  · rw [if_pos (.inr h3)]
    show 0 < (iDef r.1 p d).2
    unfold iDef
    rw [if_neg h2]
    refine Nat.lt_of_lt_of_le ?_ (fold_mono _ (iLess_mono d) r.1 _)
    simp only
    rw [if_pos (by rw [h.nm]; exact h3)]
    exact Nat.succ_pos _
  rw [if_neg (by simp [h2, h3])]
  have hd : SameD ns d es (addN p.1 d, if d ∈ names p.1 then p.2 + 1 else p.2) := by
    have hn : d ∉ names p.1 := by rw [h.nm]; exact h3
    refine ⟨goodG_addN h.good, ?_, fun a b => by rw [hasE_addN]; exact h.ed a b, ?_, fun e he => ⟨.inl (h.inn e he).1, (h.inn e he).2⟩, fun e he _ => h.back e he⟩
    · unfold addN
      rw [if_neg hn]
      simp [h.nm]
    · simp only
      rw [if_neg hn]
      exact h.no
  have hs := less_sim r.2.2 ns d h3 r.1 h1 es _ hd
  have he : iDef r.1 p d = r.1.foldl (iLess d) (addN p.1 d, if d ∈ names p.1 then p.2 + 1 else p.2) := by unfold iDef; rw [if_neg h2]
  rw [he]
  generalize r.1.foldl (iLess d) (addN p.1 d, if d ∈ names p.1 then p.2 + 1 else p.2) = q at *
  rcases hf : r.1.foldl (lessStep r.2.2 ns d) (some (some (ns, es))) with _ | _ | ⟨n, es'⟩
  · trivial
  · rw [hf] at hs; exact hs
  · rw [hf] at hs
    obtain ⟨_, hq⟩ := hs
    have hdx : (ns ++ [d]).idxOf d = ns.length := by
      rw [List.idxOf_append, if_neg h3]
      simp
    have hix : ∀ x ∈ ns, (ns ++ [d]).idxOf x = ns.idxOf x := fun x hx => by rw [List.idxOf_append, if_pos hx]
    refine ⟨hq.good, hq.nm, hq.ed, hq.no, ?_, fun e he => ?_, fun e he => ?_⟩
    · rw [List.nodup_append]
      refine ⟨h.nodup, by simp, fun a ha b hb' e => ?_⟩
      simp at hb'
      subst hb'
      subst e
      exact h3 ha
    · have := hq.inn e he
      refine ⟨?_, by simp [this.2]⟩
      rcases this.1 with h4 | h4
      · simp [h4]
      · simp [h4]
    · have h4 := hq.inn e he
      rw [hix _ h4.2]
      rcases h4.1 with h5 | h5
      · rw [hix _ h5]
        exact hq.back e he h5
      · rw [h5, hdx]
        exact List.idxOf_lt_length_iff.2 h4.2
theorem defs_sim (r : Rl) (hb : r.2.1 = false) : ∀ (ds : List Str) (g : GRes) (p : Gr × Nat), SimG g p → SimG (ds.foldl (defStep r) g) (ds.foldl (iDef r.1) p)
  | [], _, _, h => h
  | d :: t, g, p, h => by
    rw [List.foldl_cons, List.foldl_cons]
    refine defs_sim r hb t _ _ ?_
    rcases g with _ | _ | ⟨ns, es⟩
    · trivial
    · exact Nat.lt_of_lt_of_le (show 0 < p.2 from h) (iDef_mono r.1 p d)
    · exact def_sim r hb d h
theorem build_sim (R : List Rl) : SimG (rawG R) (iBuild R) := by
  refine snoc_ind (P := fun R => SimG (rawG R) (iBuild R)) ?_ ?_ R
  · exact ⟨goodG_nil, rfl, fun a b => by simp [hasE_nil, iBuild], rfl, by simp, by simp, by simp⟩
  · intro l r ih
    show SimG (rawG (l ++ [r])) (iBuild (l ++ [r]))
    have e1 : rawG (l ++ [r]) = ruleStep (rawG l) r := by simp [rawG, List.foldl_append]
    have e2 : iBuild (l ++ [r]) = iRule (iBuild l) r := by simp [iBuild, List.foldl_append]
    rw [e1, e2]
    unfold ruleStep iRule
    by_cases hb : r.2.1 = true
    · rw [if_pos hb, defFold_bar r hb]
      exact ih
    · rw [if_neg hb]
      exact defs_sim r (by simpa using hb) _ _ _ ih

/-! ### the closure -/
/-- hasE as a function is M, the names are ns -/
structure Reads (p : Gr) (ns : List Str) (M : Str → Str → Bool) : Prop where
  good : GoodG p
  ns : names p = ns
  es : ∀ a b, hasE p a b = M a b
theorem cStep_reads {ns : List Str} {k i : Str} {p : Gr × Nat} {M : Str → Str → Bool} (h : Reads p.1 ns M) (hi : i ∈ ns) (j : Str) :
    Reads (cStep k i p j).1 ns (fun a b => M a b || (decide (a = i ∧ b = j) && (M i k && M k j))) := by
  unfold cStep
  by_cases hc : i ≠ k ∧ k ≠ j ∧ hasE p.1 i k = true ∧ hasE p.1 k j = true
  · rw [if_pos hc]
    obtain ⟨h1, h2, h3, h4⟩ := hc
    rw [h.es] at h3 h4
    refine ⟨goodG_addE h.good, by rw [addE, names_setE]; exact h.ns, fun a b => ?_⟩
    rw [Bool.eq_iff_iff, hasE_addE h.good (by rw [h.ns]; exact hi), h.es]
    simp [h3, h4]
  · rw [if_neg hc]
    refine ⟨h.good, h.ns, fun a b => ?_⟩
    rw [h.es]
    by_cases hab : a = i ∧ b = j
    · obtain ⟨rfl, rfl⟩ := hab
      simp only [h.es] at hc
      by_cases hik : a = k
      · subst hik
        cases M a a <;> cases M a b <;> simp
      · by_cases hkj : k = b
        · subst hkj
          cases M a k <;> simp
        · have h5 : ¬ (M a k = true ∧ M k b = true) := fun hh => hc ⟨hik, hkj, hh.1, hh.2⟩
          cases hm1 : M a k with
          | false => simp
          | true =>
            cases hm2 : M k b with
            | false => simp
            | true => exact absurd ⟨hm1, hm2⟩ h5
    · have : decide (a = i ∧ b = j) = false := by simpa using hab
      rw [this]
      simp
/-- a row over k: the first J of it done -/
theorem cRow_reads {ns : List Str} {k i : Str} {M : Str → Str → Bool} (hi : i ∈ ns) : ∀ (J : List Str) (p : Gr × Nat), Reads p.1 ns M →
    Reads (J.foldl (cStep k i) p).1 ns (fun a b => M a b || (decide (a = i) && (decide (b ∈ J) && (M i k && M k b)))) := by
  intro J
  refine snoc_ind (P := fun J => ∀ p : Gr × Nat, Reads p.1 ns M → Reads (J.foldl (cStep k i) p).1 ns (fun a b => M a b || (decide (a = i) && (decide (b ∈ J) && (M i k && M k b))))) ?_ ?_ J
  · intro p h
    refine ⟨h.good, h.ns, fun a b => ?_⟩
    rw [List.foldl_nil, h.es]
    simp
  · intro l x ih p h
    rw [List.foldl_append]
    have h1 := ih p h
    have h2 := cStep_reads (k := k) h1 hi x
    refine ⟨h2.good, h2.ns, fun a b => ?_⟩
    rw [show ([x].foldl (cStep k i) (l.foldl (cStep k i) p)) = cStep k i (l.foldl (cStep k i) p) x from rfl, h2.es]
    by_cases ha : a = i
    · subst ha
      by_cases hb : b = x
      · subst hb
        cases M a b <;> cases M a k <;> cases M k b <;> by_cases hm : b ∈ l <;> by_cases hk : k = a <;> simp [hm, hk] <;> (try (subst hk; simp_all))
      · have e1 : decide (b ∈ l ++ [x]) = decide (b ∈ l) := by simp [hb]
        rw [e1]
        simp [hb]
    · simp [ha]
theorem cAll_reads {ns : List Str} {k : Str} {M : Str → Str → Bool} : ∀ (I : List Str), (∀ x ∈ I, x ∈ ns) → ∀ (p : Gr × Nat), Reads p.1 ns M → (∀ a b, M a b = true → b ∈ ns) →
    Reads (I.foldl (cRow ns k) p).1 ns (fun a b => M a b || (decide (a ∈ I) && (M a k && M k b))) := by
  intro I
  refine snoc_ind (P := fun I => (∀ x ∈ I, x ∈ ns) → ∀ (p : Gr × Nat), Reads p.1 ns M → (∀ a b, M a b = true → b ∈ ns) → Reads (I.foldl (cRow ns k) p).1 ns (fun a b => M a b || (decide (a ∈ I) && (M a k && M k b)))) ?_ ?_ I
  · intro _ p h _
    refine ⟨h.good, h.ns, fun a b => ?_⟩
    rw [List.foldl_nil, h.es]
    simp
  · intro l x ih hI p h hcl
    rw [List.foldl_append]
    have h1 := ih (fun y hy => hI y (by simp [hy])) p h hcl
    have h2 := cRow_reads (k := k) (i := x) (hI x (by simp)) ns _ h1
    refine ⟨h2.good, h2.ns, fun a b => ?_⟩
    rw [show ([x].foldl (cRow ns k) (l.foldl (cRow ns k) p)) = ns.foldl (cStep k x) (l.foldl (cRow ns k) p) from rfl, h2.es]
    -- row k and column k are what they were
    have hkk : ∀ c, (M c k || (decide (c ∈ l) && (M c k && M k k))) = M c k := fun c => by cases M c k <;> simp
    have hkr : ∀ c, (M k c || (decide (k ∈ l) && (M k k && M k c))) = M k c := fun c => by cases M k c <;> simp
    simp only [hkk, hkr]
    by_cases ha : a = x
    · subst ha
      have hbm : (decide (b ∈ ns) && (M a k && M k b)) = (M a k && M k b) := by
        cases hm : M k b with
        | false => simp
        | true => have := hcl _ _ hm; simp [this]
      rw [hbm]
      cases M a b <;> cases M a k <;> cases M k b <;> simp
    · have e1 : decide (a ∈ l ++ [x]) = decide (a ∈ l) := by simp [ha]
      rw [e1]
      simp [ha]
theorem iClose_reads {ns : List Str} {es : List Ed} (hin : ∀ e ∈ es, e.1 ∈ ns ∧ e.2 ∈ ns) (K : List Str) : ∀ (p : Gr × Nat), Reads p.1 ns (base es) → Reads (K.foldl (cAll ns) p).1 ns (clo K es) := by
  refine snoc_ind (P := fun K => ∀ (p : Gr × Nat), Reads p.1 ns (base es) → Reads (K.foldl (cAll ns) p).1 ns (clo K es)) ?_ ?_ K
  · intro p h
    exact h
  · intro l x ih p h
    rw [List.foldl_append]
    have hends : ∀ a b, clo l es a b = true → a ∈ ns ∧ b ∈ ns := fun a b hh => clo_least (T := fun a b => a ∈ ns ∧ b ∈ ns) (fun a b h => hin _ h) (fun _ _ _ h1 h2 => ⟨h1.1, h2.2⟩) hh
    have h1 := cAll_reads (k := x) ns (fun _ h => h) _ (ih p h) (fun a b hh => (hends a b hh).2)
    refine ⟨h1.good, h1.ns, fun a b => ?_⟩
    rw [clo_snoc]
    rw [show ([x].foldl (cAll ns) (l.foldl (cAll ns) p)) = ns.foldl (cRow ns x) (l.foldl (cAll ns) p) from rfl, h1.es]
    unfold cloStep
    cases hm : clo l es a x with
    | false => simp
    | true => simp [(hends a x hm).1]

/-! ### no circle, no error -/
theorem cStep_zero {k i : Str} {p : Gr × Nat} (h : ∀ s, ¬ (hasE p.1 s k = true ∧ hasE p.1 k s = true)) (j : Str) : (cStep k i p j).2 = p.2 := by
  unfold cStep
  split
  · rename_i hc
    simp only
    rw [if_neg]
    rintro rfl
    exact h i ⟨hc.2.2.1, hc.2.2.2⟩
  · rfl
/-- a way of adding edges that stays within T -/
theorem cStep_within {T : Str → Str → Prop} (ht : ∀ a m b, T a m → T m b → T a b) {k i : Str} {p : Gr × Nat} (h : GoodG p.1 ∧ ∀ a b, hasE p.1 a b = true → T a b) (j : Str) : GoodG (cStep k i p j).1 ∧ ∀ a b, hasE (cStep k i p j).1 a b = true → T a b := by
  unfold cStep
  split
  · rename_i hc
    refine ⟨goodG_addE h.1, fun a b hab => ?_⟩
    have hi := hasE_names hc.2.2.1
    rcases (hasE_addE h.1 hi a b).1 hab with h1 | ⟨rfl, rfl⟩
    · exact h.2 a b h1
    · exact ht _ _ _ (h.2 _ _ hc.2.2.1) (h.2 _ _ hc.2.2.2)
  · exact h
theorem close_zero {T : Str → Str → Prop} (ht : ∀ a m b, T a m → T m b → T a b) (hirr : ∀ a, ¬ T a a) (ns : List Str) (p : Gr × Nat) (h : GoodG p.1 ∧ ∀ a b, hasE p.1 a b = true → T a b) (h0 : p.2 = 0) : (iClose ns p).2 = 0 := by
  have step : ∀ k i (p : Gr × Nat) j, ((GoodG p.1 ∧ ∀ a b, hasE p.1 a b = true → T a b) ∧ p.2 = 0) → ((GoodG (cStep k i p j).1 ∧ ∀ a b, hasE (cStep k i p j).1 a b = true → T a b) ∧ (cStep k i p j).2 = 0) := fun k i p j h =>
    ⟨cStep_within ht h.1 j, by rw [cStep_zero (fun s hh => hirr s (ht _ _ _ (h.1.2 _ _ hh.1) (h.1.2 _ _ hh.2)))]; exact h.2⟩
  have fold : ∀ {α : Type} (f : Gr × Nat → α → Gr × Nat), (∀ p x, ((GoodG p.1 ∧ ∀ a b, hasE p.1 a b = true → T a b) ∧ p.2 = 0) → ((GoodG (f p x).1 ∧ ∀ a b, hasE (f p x).1 a b = true → T a b) ∧ (f p x).2 = 0)) →
      ∀ (l : List α) (p : Gr × Nat), ((GoodG p.1 ∧ ∀ a b, hasE p.1 a b = true → T a b) ∧ p.2 = 0) → ((GoodG (l.foldl f p).1 ∧ ∀ a b, hasE (l.foldl f p).1 a b = true → T a b) ∧ (l.foldl f p).2 = 0) := by
    intro α f hf l
    induction l with
    | nil => intro p h; exact h
    | cons x r ih => intro p h; exact ih _ (hf p x h)
  exact (fold _ (fun p k h => fold _ (fun p i h => fold _ (fun p j h => step k i p j h) ns p h) ns p h) ns p ⟨h, h0⟩).2

/-! ### the bars -/
theorem bars_zero (G : Gr) (R : List Rl) : ∀ e, iBars G R e = 0 ↔ e = 0 ∧ ∀ x ∈ barred R, hasE G x.1 x.2 = false := by
  have hd : ∀ (l : Str) (ds : List Str) (e : Nat), ds.foldl (bDef G l) e = 0 ↔ e = 0 ∧ ∀ d ∈ ds, hasE G d l = false := by
    intro l ds
    induction ds with
    | nil => intro e; simp
    | cons d r ih =>
      intro e
      rw [List.foldl_cons, ih]
      unfold bDef
      by_cases h : hasE G d l = true
      · simp [h]
      · have h' : hasE G d l = false := by simpa using h
        simp [h']
  have hl : ∀ (df : List Str) (ls : List Str) (e : Nat), ls.foldl (bLess G df) e = 0 ↔ e = 0 ∧ ∀ l ∈ ls, ∀ d ∈ df, hasE G d l = false := by
    intro df ls
    induction ls with
    | nil => intro e; simp
    | cons l r ih =>
      intro e
      rw [List.foldl_cons, ih]
      unfold bLess
      rw [hd]
      simp [and_assoc]
  unfold iBars
  induction R with
  | nil => intro e; simp [barred]
  | cons r R ih =>
    intro e
    rw [List.foldl_cons, ih]
    have hb : (∀ x ∈ barred (r :: R), hasE G x.1 x.2 = false) ↔ (r.2.1 = true → ∀ l ∈ r.1, ∀ d ∈ r.2.2, hasE G d l = false) ∧ ∀ x ∈ barred R, hasE G x.1 x.2 = false := by
      unfold barred
      rw [List.flatMap_cons]
      constructor
      · intro h
        refine ⟨fun hr l hl d hd' => ?_, fun x hx => h x (List.mem_append_right _ hx)⟩
        refine h (d, l) (List.mem_append_left _ ?_)
        rw [if_pos hr]
        exact List.mem_flatMap.2 ⟨l, hl, List.mem_map.2 ⟨d, hd', rfl⟩⟩
      · rintro ⟨h1, h2⟩ x hx
        rcases List.mem_append.1 hx with hx | hx
        · split at hx
          · rename_i hr
            obtain ⟨l, hl', hx⟩ := List.mem_flatMap.1 hx
            obtain ⟨d, hd', rfl⟩ := List.mem_map.1 hx
            exact h1 hr l hl' d hd'
          · simp at hx
        · exact h2 x hx
    rw [hb]
    unfold bRule
    by_cases hr : r.2.1 = true
    · rw [if_pos hr, hl]
      constructor
      · rintro ⟨⟨h1, h2⟩, h3⟩; exact ⟨h1, fun _ => h2, h3⟩
      · rintro ⟨h1, h2, h3⟩; exact ⟨⟨h1, h2 hr⟩, h3⟩
    · rw [if_neg hr]
      constructor
      · rintro ⟨h1, h3⟩; exact ⟨h1, fun h => absurd h hr, h3⟩
      · rintro ⟨h1, _, h3⟩; exact ⟨h1, h3⟩
theorem bars_mono (G : Gr) (R : List Rl) (e : Nat) : e ≤ iBars G R e := foldN_mono _ (bRule_mono G) R e

/-- THE PLAIN LAW of graphs. -/
theorem graph_same (R : List Rl) : match graphS R with
    | none => True
    | some none => graphP R = none
    | some (some (ns, es)) => ∃ G, graphP R = some G ∧ GoodG G ∧ names G = ns ∧ (∀ a b, hasE G a b = clo ns es a b) ∧ ns.Nodup ∧ ns.length ≤ 20 ∧ (∀ e ∈ es, e.1 ∈ ns ∧ e.2 ∈ ns) ∧ (∀ e ∈ es, ns.idxOf e.2 < ns.idxOf e.1) := by
  have hs := build_sim R
  unfold graphS
  rcases hr : rawG R with _ | _ | ⟨ns, es⟩
  · trivial
  · rw [hr] at hs
    show graphP R = none
    unfold graphP
    rw [if_neg]
    have h1 : 0 < (iBuild R).2 := hs
    have h2 := iClose_mono (names (iBuild R).1) (iBuild R)
    have h3 := bars_mono (iClose (names (iBuild R).1) (iBuild R)).1 R (iClose (names (iBuild R).1) (iBuild R)).2
    omega
  · rw [hr] at hs
    have hS : Same ns es (iBuild R) := hs
    have hrd : Reads (iClose (names (iBuild R).1) (iBuild R)).1 ns (clo ns es) := by
      rw [hS.nm]
      refine iClose_reads hS.inn ns _ ⟨hS.good, hS.nm, fun a b => ?_⟩
      rw [Bool.eq_iff_iff, hS.ed, base_iff]
    have hz : (iClose (names (iBuild R).1) (iBuild R)).2 = 0 :=
      close_zero (T := fun a b => ns.idxOf b < ns.idxOf a) (fun _ _ _ h1 h2 => by omega) (fun _ h => by omega) _ _ ⟨hS.good, fun a b h => hS.back _ ((hS.ed a b).1 h)⟩ hS.no
    have hgp : graphP R = if iBars (iClose (names (iBuild R).1) (iBuild R)).1 R (iClose (names (iBuild R).1) (iBuild R)).2 = 0 then some (iClose (names (iBuild R).1) (iBuild R)).1 else none := rfl
    generalize iClose (names (iBuild R).1) (iBuild R) = p at *
    have hbz := bars_zero p.1 R p.2
    by_cases h1 : 20 < ns.length
    · simp only [if_pos h1]
    by_cases h2 : (barred R).all (fun e => decide (e.1 ∈ ns) && decide (e.2 ∈ ns)) = false
    · simp only [if_neg h1, if_pos h2]
    by_cases h3 : (barred R).any (fun e => clo ns es e.1 e.2) = true
    · simp only [if_neg h1, if_neg h2, if_pos h3]
      rw [hgp, if_neg]
      intro hh
      obtain ⟨x, hx, hc⟩ := List.any_eq_true.1 h3
      have := (hbz.1 hh).2 x hx
      rw [hrd.es, hc] at this
      cases this
    · simp only [if_neg h1, if_neg h2, if_neg h3]
      refine ⟨p.1, ?_, hrd.good, hrd.ns, hrd.es, hS.nodup, by omega, hS.inn, hS.back⟩
      rw [hgp, if_pos]
      refine hbz.2 ⟨hz, fun x hx => ?_⟩
      rw [hrd.es]
      cases hc : clo ns es x.1 x.2 with
      | false => rfl
      | true => exact absurd (List.any_eq_true.2 ⟨x, hx, hc⟩) h3
end Go.Proofs.YthpfladpbfbpjaaDoor

/- Plain laws on texts that are written of tokens: which tokens they have; and which rules the package reads of them. No program in sight. -/
namespace Go.Proofs.YthpfladpbfbpjaaDoor

/-! ### texts -/
/-- no letter comes first -/
def Stop (r : Bs) : Prop := ∀ c q, r = c :: q → letterB c = false
theorem Stop.nil : Stop [] := fun _ _ h => by cases h
theorem Stop.cons {c : UInt8} {r : Bs} (h : letterB c = false) : Stop (c :: r) := fun _ _ e => by cases e; exact h
theorem Stop.app {a b : Bs} (ha : Stop a) (hb : Stop b) : Stop (a ++ b) := by
  cases a with
  | nil => exact hb
  | cons c q => exact Stop.cons (ha c q rfl)
theorem Stop.app' {a : Bs} (ha : Stop a) (hne : a ≠ []) (b : Bs) : Stop (a ++ b) := by
  cases a with
  | nil => exact absurd rfl hne
  | cons c q => exact Stop.cons (ha c q rfl)
/-- the text has these tokens, whatever stands behind it -/
def Lxa (l : Bs) (ts : List Str) : Prop := ∀ r, lex (l ++ r) = (lex r).map (ts ++ ·)
/-- the same, where no letter stands behind it -/
def Lx (l : Bs) (ts : List Str) : Prop := ∀ r, Stop r → lex (l ++ r) = (lex r).map (ts ++ ·)
theorem map_app (o : Option (List Str)) (a b : List Str) : (o.map (b ++ ·)).map (a ++ ·) = o.map ((a ++ b) ++ ·) := by cases o <;> simp
section
variable {a b l : Bs} {ts us : List Str}
theorem Lxa.lx (h : Lxa l ts) : Lx l ts := fun r _ => h r
theorem Lx.all (h : Lx l ts) : lex l = some ts := by
  have := h [] Stop.nil
  simpa [lex_nil] using this
theorem Lxa.nil : Lxa [] [] := fun r => by cases h : lex r <;> simp [h]
theorem Lxa.app (ha : Lxa a ts) (hb : Lxa b us) : Lxa (a ++ b) (ts ++ us) := fun r => by
  rw [List.append_assoc, ha, hb, map_app]
theorem Lxa.app_lx (ha : Lxa a ts) (hb : Lx b us) : Lx (a ++ b) (ts ++ us) := fun r hr => by
  rw [List.append_assoc, ha, hb r hr, map_app]
theorem Lx.app (ha : Lx a ts) (hb : Lx b us) (hs : Stop b) : Lx (a ++ b) (ts ++ us) := fun r hr => by
  rw [List.append_assoc, ha _ (hs.app hr), hb r hr, map_app]
theorem Lx.app_a (ha : Lx a ts) (hb : Lxa b us) (hs : Stop b) (hne : b ≠ []) : Lxa (a ++ b) (ts ++ us) := fun r => by
  rw [List.append_assoc, ha _ (hs.app' hne r), hb r, map_app]
/-- a text with its tokens, whatever stands behind, and its end -/
theorem Lxa.end_ (ha : Lxa a ts) (hb : lex b = some us) : lex (a ++ b) = some (ts ++ us) := by rw [ha, hb]; rfl
end
theorem Lxa.blank {c : UInt8} (h : blankB c = true) : Lxa [c] [] := fun r => by
  rw [List.singleton_append, lex_blank h]
  cases lex r <;> simp
theorem Lxa.sign {c : UInt8} (h : signB c = true) : Lxa [c] [mkS [c]] := fun r => by
  rw [List.singleton_append, lex_sign h]
  rfl
theorem Lxa.bar : Lxa [33, 60] [tBar] := fun r => by
  show lex (33 :: 60 :: r) = _
  rw [lex_bar, if_pos rfl]
  rfl
theorem tw_all (p : UInt8 → Bool) : ∀ (q r : Bs), (∀ c ∈ q, p c = true) → (∀ c s, r = c :: s → p c = false) → (q ++ r).takeWhile p = q ∧ (q ++ r).dropWhile p = r
  | [], r, _, h => by
    cases r with
    | nil => exact ⟨rfl, rfl⟩
    | cons c s =>
      have := h c s rfl
      simp [this]
  | x :: q, r, hq, h => by
    obtain ⟨h1, h2⟩ := tw_all p q r (fun c hc => hq c (by simp [hc])) h
    have hx := hq x (by simp)
    simp only [List.cons_append, List.takeWhile_cons, List.dropWhile_cons, hx, if_true, h1, h2, and_self]
theorem Lx.word {l : Bs} (hne : l ≠ []) (h : ∀ c ∈ l, letterB c = true) : Lx l [mkS l] := fun r hr => by
  cases l with
  | nil => exact absurd rfl hne
  | cons c q =>
    obtain ⟨h1, h2⟩ := tw_all letterB q r (fun x hx => h x (by simp [hx])) hr
    rw [List.cons_append, lex_letter (h c (by simp)), h1, h2]
    rfl
theorem Lxa.note {m : Bs} (h : ∀ c ∈ m, lineB c = true ∧ lowB c = true) : Lxa (35 :: (m ++ [10])) [] := fun r => by
  obtain ⟨h1, h2⟩ := tw_all lineB m (10 :: r) (fun c hc => (h c hc).1) (fun c s e => by cases e; decide)
  have e : (35 :: (m ++ [10])) ++ r = 35 :: (m ++ 10 :: r) := by simp
  rw [e, lex_hash, h1, h2, if_pos (List.all_eq_true.2 fun c hc => (h c hc).2), lex_blank (by decide)]
  cases lex r <;> simp

/-! ### a text, and what comes behind its end -/
theorem tw_mid (p : UInt8 → Bool) {d : UInt8} (hd : p d = false) : ∀ (q r : Bs), (q ++ d :: r).takeWhile p = q.takeWhile p ∧ (q ++ d :: r).dropWhile p = q.dropWhile p ++ d :: r
  | [], r => by simp [hd]
  | x :: q, r => by
    obtain ⟨h1, h2⟩ := tw_mid p hd q r
    simp only [List.cons_append, List.takeWhile_cons, List.dropWhile_cons]
    cases hx : p x with
    | true => simp [h1, h2]
    | false => simp
/-- a new line behind a text ends whatever is open in it -/
theorem lex_nl : ∀ (n : Nat) (l : Bs) (ts : List Str), l.length ≤ n → lex l = some ts → ∀ r, lex (l ++ 10 :: r) = (lex r).map (ts ++ ·) := by
  intro n
  induction n with
  | zero =>
    intro l ts hl h r
    obtain rfl : l = [] := List.eq_nil_of_length_eq_zero (by omega)
    rw [lex_nil] at h
    cases h
    rw [List.nil_append, lex_blank (by decide)]
    cases lex r <;> simp
  | succ n ih =>
    intro l ts hl h r
    rcases lex_head h with ⟨hb, h1⟩ | ⟨c, q, hb, hc, hl'⟩ | ⟨q, hb, hc, hl'⟩ | ⟨c, q, ts', hb, h1, hc, hl'⟩ | ⟨q, ts', hb, h1, hl'⟩ | ⟨c, q, ts', hb, h1, hc, hl'⟩
    · subst hb; subst h1
      rw [List.nil_append, lex_blank (by decide)]
      cases lex r <;> simp
    · subst hb
      rw [List.cons_append, lex_blank hc]
      exact ih q ts (by simpa using hl) hl' r
    · subst hb
      have := dropWhile_le lineB q
      obtain ⟨h2, h3⟩ := tw_mid lineB (d := 10) (by decide) q r
      rw [List.cons_append, lex_hash, h2, h3, if_pos hc]
      exact ih _ ts (by simp at hl; omega) hl' r
    · subst hb; subst h1
      rw [List.cons_append, lex_sign hc, ih q ts' (by simpa using hl) hl' r]
      cases lex r <;> simp
    · subst hb; subst h1
      show lex (33 :: 60 :: (q ++ 10 :: r)) = _
      rw [lex_bar, if_pos rfl, ih q ts' (by simp at hl; omega) hl' r]
      cases lex r <;> simp
    · subst hb; subst h1
      have := dropWhile_le letterB q
      obtain ⟨h2, h3⟩ := tw_mid letterB (d := 10) (by decide) q r
      rw [List.cons_append, lex_letter hc, h2, h3, ih _ ts' (by simp at hl; omega) hl' r]
      cases lex r <;> simp
theorem Lxa.line {l : Bs} {ts : List Str} (h : lex l = some ts) : Lxa (l ++ [10]) ts := fun r => by
  rw [List.append_assoc]
  exact lex_nl _ l ts (Nat.le_refl _) h r
/-- a comment behind a text: it is one, or it is in one -/
theorem lex_note {m : Bs} (hm : ∀ c ∈ m, lineB c = true ∧ lowB c = true) : ∀ (n : Nat) (l : Bs) (ts : List Str), l.length ≤ n → lex l = some ts → lex (l ++ 32 :: 35 :: m) = some ts := by
  have h0 : lex (32 :: 35 :: m) = some [] := by
    obtain ⟨h1, h2⟩ := tw_all lineB m [] (fun c hc => (hm c hc).1) (fun c s e => by cases e)
    rw [List.append_nil] at h1 h2
    rw [lex_blank (by decide), lex_hash, h1, h2, if_pos (List.all_eq_true.2 fun c hc => (hm c hc).2), lex_nil]
  intro n
  induction n with
  | zero =>
    intro l ts hl h
    obtain rfl : l = [] := List.eq_nil_of_length_eq_zero (by omega)
    rw [lex_nil] at h
    cases h
    exact h0
  | succ n ih =>
    intro l ts hl h
    rcases lex_head h with ⟨hb, h1⟩ | ⟨c, q, hb, hc, hl'⟩ | ⟨q, hb, hc, hl'⟩ | ⟨c, q, ts', hb, h1, hc, hl'⟩ | ⟨q, ts', hb, h1, hl'⟩ | ⟨c, q, ts', hb, h1, hc, hl'⟩
    · subst hb; subst h1
      exact h0
    · subst hb
      rw [List.cons_append, lex_blank hc]
      exact ih q ts (by simpa using hl) hl'
    · subst hb
      have hle := dropWhile_le lineB q
      rw [List.cons_append, lex_hash]
      by_cases hall : ∀ c ∈ q, lineB c = true
      · -- the text ends within a comment
        obtain ⟨h1, h2⟩ := tw_all lineB q [] hall (fun c s e => by cases e)
        rw [List.append_nil] at h1 h2
        rw [h2, lex_nil] at hl'
        rw [h1] at hc
        have hall2 : ∀ c ∈ q ++ 32 :: 35 :: m, lineB c = true := fun c hc => by
          rcases List.mem_append.1 hc with hc | hc
          · exact hall c hc
          · rcases List.mem_cons.1 hc with rfl | hc
            · decide
            · rcases List.mem_cons.1 hc with rfl | hc
              · decide
              · exact (hm c hc).1
        obtain ⟨h3, h4⟩ := tw_all lineB (q ++ 32 :: 35 :: m) [] hall2 (fun c s e => by cases e)
        rw [List.append_nil] at h3 h4
        rw [h3, h4, if_pos, lex_nil]
        · exact hl'
        · rw [List.all_append, hc, List.all_cons, List.all_cons, List.all_eq_true.2 fun c hc => (hm c hc).2]
          decide
      · -- it ends behind one
        have : ∃ q1 q2, q = q1 ++ 10 :: q2 ∧ ∀ c ∈ q1, lineB c = true := by
          clear hl' hc hl hle h
          induction q with
          | nil => exact absurd (fun c hc => by cases hc) hall
          | cons x q ihq =>
            by_cases hx : lineB x = true
            · obtain ⟨q1, q2, rfl, h2⟩ := ihq (fun hh => hall fun c hc => by
                rcases List.mem_cons.1 hc with rfl | hc
                · exact hx
                · exact hh c hc)
              exact ⟨x :: q1, q2, rfl, fun c hc => by
                rcases List.mem_cons.1 hc with rfl | hc
                · exact hx
                · exact h2 c hc⟩
            · have : x = 10 := by simpa [lineB] using hx
              subst this
              exact ⟨[], q, rfl, fun c hc => by cases hc⟩
        obtain ⟨q1, q2, rfl, h1⟩ := this
        obtain ⟨h2, h3⟩ := tw_all lineB q1 (10 :: q2) h1 (fun c s e => by cases e; decide)
        obtain ⟨h4, h5⟩ := tw_all lineB q1 (10 :: (q2 ++ 32 :: 35 :: m)) h1 (fun c s e => by cases e; decide)
        rw [h2] at hc
        rw [h3] at hl'
        rw [List.append_assoc, List.cons_append, h4, h5, if_pos hc]
        have := ih (10 :: q2) ts (by rw [h3] at hle; simp at hl hle ⊢; omega) hl'
        simpa using this
    · subst hb; subst h1
      rw [List.cons_append, lex_sign hc, ih q ts' (by simpa using hl) hl']
      rfl
    · subst hb; subst h1
      show lex (33 :: 60 :: (q ++ 32 :: 35 :: m)) = _
      rw [lex_bar, if_pos rfl, ih q ts' (by simp at hl; omega) hl']
      rfl
    · subst hb; subst h1
      have := dropWhile_le letterB q
      obtain ⟨h2, h3⟩ := tw_mid letterB (d := 32) (by decide) q (35 :: m)
      rw [List.cons_append, lex_letter hc, h2, h3, ih _ ts' (by simp at hl; omega) hl']
      rfl
/-- each token of a text is read as itself -/
theorem lex_tok : ∀ (n : Nat) (l : Bs) (ts : List Str), l.length ≤ n → lex l = some ts → ∀ t ∈ ts, Lx (bs t) [t] := by
  intro n
  induction n with
  | zero =>
    intro l ts hl h
    obtain rfl : l = [] := List.eq_nil_of_length_eq_zero (by omega)
    rw [lex_nil] at h
    cases h
    simp
  | succ n ih =>
    intro l ts hl h
    rcases lex_head h with ⟨hb, h1⟩ | ⟨c, r, hb, hc, hl'⟩ | ⟨r, hb, hc, hl'⟩ | ⟨c, r, ts', hb, h1, hc, hl'⟩ | ⟨r, ts', hb, h1, hl'⟩ | ⟨c, r, ts', hb, h1, hc, hl'⟩
    · subst h1; simp
    · subst hb; exact ih r ts (by simpa using hl) hl'
    · subst hb
      have := dropWhile_le lineB r
      exact ih _ ts (by simp at hl; omega) hl'
    · subst hb; subst h1
      intro t ht
      rcases List.mem_cons.1 ht with rfl | ht
      · rw [bs_mkS]; exact (Lxa.sign hc).lx
      · exact ih r ts' (by simpa using hl) hl' t ht
    · subst hb; subst h1
      intro t ht
      rcases List.mem_cons.1 ht with rfl | ht
      · rw [bs_mkS]; exact Lxa.bar.lx
      · exact ih r ts' (by simp at hl; omega) hl' t ht
    · subst hb; subst h1
      have := dropWhile_le letterB r
      intro t ht
      rcases List.mem_cons.1 ht with rfl | ht
      · rw [bs_mkS]
        refine Lx.word (by simp) (fun x hx => ?_)
        rcases List.mem_cons.1 hx with rfl | hx
        · exact hc
        · have : ∀ (r : Bs), x ∈ r.takeWhile letterB → letterB x = true := by
            intro r
            induction r with
            | nil => intro hx; simp at hx
            | cons y t iht =>
              intro hx
              rw [List.takeWhile_cons] at hx
              split at hx
              · rcases List.mem_cons.1 hx with rfl | hx
                · assumption
                · exact iht hx
              · simp at hx
          exact this r hx
      · exact ih _ ts' (by simp at hl; omega) hl' t ht

/-! ### names and lists of names -/
def NameS (s : Str) : Prop := bs s ≠ [] ∧ (∀ c ∈ bs s, letterB c = true) ∧ s.size ≤ 24
theorem NameS.lx {s : Str} (h : NameS s) : Lx (bs s) [s] := by
  have := Lx.word h.1 h.2.1
  rwa [mkS_bs] at this
theorem NameS.sign {s : Str} (h : NameS s) : signT s = false := by
  have f : ∀ k : Bs, (∃ c ∈ k, letterB c = false) → s ≠ mkS k := fun k ⟨c, hc, hl⟩ e => by
    have := h.2.1 c (by rw [e, bs_mkS]; exact hc)
    rw [hl] at this
    cases this
  have h1 := f [44] ⟨44, by simp, by decide⟩
  have h2 := f [59] ⟨59, by simp, by decide⟩
  have h3 := f [60] ⟨60, by simp, by decide⟩
  have h4 := f [33, 60] ⟨33, by simp, by decide⟩
  simp [signT, tComma, tSemi, tLt, tBar, h1, h2, h3, h4]
def joinB (sep : Bs) : List Bs → Bs
  | [] => []
  | [x] => x
  | x :: y :: r => x ++ (sep ++ joinB sep (y :: r))
theorem joinB_snoc (sep x : Bs) : ∀ (l : List Bs), l ≠ [] → joinB sep (l ++ [x]) = joinB sep l ++ (sep ++ x)
  | [], h => absurd rfl h
  | [a], _ => rfl
  | a :: b :: r, _ => by
    have := joinB_snoc sep x (b :: r) (by simp)
    simp only [List.cons_append, joinB] at this ⊢
    rw [this]
    simp
def sepT (op : Str) : List (List Str) → List Str
  | [] => []
  | [x] => x
  | x :: y :: r => x ++ op :: sepT op (y :: r)
theorem Lx.join {sep : Bs} {op : Str} (h1 : Lxa sep [op]) (h2 : Stop sep) (h3 : sep ≠ []) : ∀ (l : List (Bs × List Str)), l ≠ [] → (∀ x ∈ l, Lx x.1 x.2) → Lx (joinB sep (l.map (·.1))) (sepT op (l.map (·.2)))
  | [], h, _ => absurd rfl h
  | [x], _, h => h x (by simp)
  | x :: y :: r, _, h => by
    have ih := Lx.join h1 h2 h3 (y :: r) (by simp) (fun z hz => h z (List.mem_cons_of_mem _ hz))
    have := (((h x (by simp)).app_a h1 h2 h3)).app_lx ih
    simp only [List.map_cons, joinB, sepT, List.append_assoc] at this ⊢
    simpa using this
/-- names with commas between them -/
def commaT (l : List Str) : List Str := sepT tComma (l.map fun s => [s])
theorem commaT_cons (x y : Str) (r : List Str) : commaT (x :: y :: r) = x :: tComma :: commaT (y :: r) := rfl
theorem Lx.names {sep : Bs} (h1 : Lxa sep [tComma]) (h2 : Stop sep) (h3 : sep ≠ []) (l : List Str) (hne : l ≠ []) (h : ∀ x ∈ l, NameS x) : Lx (joinB sep (l.map bs)) (commaT l) := by
  have := Lx.join h1 h2 h3 (l.map fun s => (bs s, [s])) (by simpa using hne) (fun x hx => by
    obtain ⟨s, hs, rfl⟩ := List.mem_map.1 hx
    exact (h s hs).lx)
  simpa [commaT, List.map_map, Function.comp_def] using this

/-! ### rules -/
theorem pRun_names (out : List Rl) (prev : Option (List Str × Bool)) : ∀ (l : List Str), l ≠ [] → (∀ x ∈ l, signT x = false) → ∀ (cur rest : List Str), pRun ⟨out, prev, cur, true⟩ (commaT l ++ rest) = pRun ⟨out, prev, cur ++ l, false⟩ rest
  | [], h, _, _, _ => absurd rfl h
  | [x], _, h, cur, rest => by
    have hx := h x (by simp)
    show pRun ⟨out, prev, cur, true⟩ (x :: rest) = _
    simp [pRun, pStep, hx]
  | x :: y :: r, _, h, cur, rest => by
    have hx := h x (by simp)
    have ih := pRun_names out prev (y :: r) (by simp) (fun z hz => h z (List.mem_cons_of_mem _ hz)) (cur ++ [x]) rest
    rw [commaT_cons]
    show pRun ⟨out, prev, cur, true⟩ (x :: tComma :: (commaT (y :: r) ++ rest)) = _
    simp only [pRun, pStep, hx, if_true]
    simp only [Bool.false_eq_true, if_false]
    rw [ih]
    simp
/-- a rule that can be written -/
def RlOK (r : Rl) : Prop := r.1 ≠ [] ∧ r.2.2 ≠ [] ∧ (∀ x ∈ r.1, NameS x) ∧ ∀ x ∈ r.2.2, NameS x
def opT (b : Bool) : Str := if b = true then tBar else tLt
theorem opT_push (s : PSt) (hn : s.nm = false) (b : Bool) (rest : List Str) : pRun s (opT b :: rest) = pRun ⟨s.push, some (s.cur, b), [], true⟩ rest := by
  have h1 : opT b ≠ tComma := by cases b <;> simp [opT, tok_ne.2.1.symm, tok_ne.2.2.1.symm]
  have h2 : opT b ≠ tSemi := by cases b <;> simp [opT, tok_ne.2.2.2.1.symm, tok_ne.2.2.2.2.1.symm]
  have h3 : opT b = tLt ∨ opT b = tBar := by cases b <;> simp [opT]
  have h4 : decide (opT b = tBar) = b := by cases b <;> simp [opT, tok_ne.2.2.2.2.2]
  simp [pRun, pStep, hn, h1, h2, h3, h4]
theorem semi_push (s : PSt) (hn : s.nm = false) (rest : List Str) : pRun s (tSemi :: rest) = pRun ⟨s.push, none, [], true⟩ rest := by
  have h1 : tSemi ≠ tComma := tok_ne.1.symm
  simp [pRun, pStep, hn, h1]
def ruleT (r : Rl) : List Str := commaT r.1 ++ (opT r.2.1 :: (commaT r.2.2 ++ [tSemi]))
theorem pRun_rule (out : List Rl) (r : Rl) (h : RlOK r) (rest : List Str) : pRun ⟨out, none, [], true⟩ (ruleT r ++ rest) = pRun ⟨out ++ [r], none, [], true⟩ rest := by
  unfold ruleT
  rw [List.append_assoc, pRun_names _ _ _ h.1 (fun x hx => (h.2.2.1 x hx).sign), List.cons_append, opT_push _ rfl, List.append_assoc, pRun_names _ _ _ h.2.1 (fun x hx => (h.2.2.2 x hx).sign), List.singleton_append, semi_push _ rfl]
  rfl
theorem pRun_rules : ∀ (R : List Rl) (out : List Rl), (∀ r ∈ R, RlOK r) → pRun ⟨out, none, [], true⟩ (R.flatMap ruleT) = some ⟨out ++ R, none, [], true⟩
  | [], out, _ => by simp [pRun]
  | r :: R, out, h => by
    rw [List.flatMap_cons, pRun_rule _ _ (h r (by simp)), pRun_rules R _ (fun x hx => h x (by simp [hx]))]
    simp
theorem pRules_write (R : List Rl) (h : ∀ r ∈ R, RlOK r) : pRules (R.flatMap ruleT) = some R := by
  unfold pRules
  rw [pRun_rules R [] h]
  simp [pEnd]
/-- the text of rules -/
def opB (b : Bool) : Bs := if b = true then [32, 33, 60, 32] else [32, 60, 32]
def listB (l : List Str) : Bs := joinB [44, 32] (l.map bs)
def ruleB (r : Rl) : Bs := listB r.1 ++ (opB r.2.1 ++ (listB r.2.2 ++ [59, 10]))
theorem Lx.list (l : List Str) (hne : l ≠ []) (h : ∀ x ∈ l, NameS x) : Lx (listB l) (commaT l) :=
  Lx.names ((Lxa.sign (c := 44) (by decide)).app (Lxa.blank (c := 32) (by decide))) (Stop.cons (by decide)) (by simp) l hne h
theorem Lxa.op (b : Bool) : Lxa (opB b) [opT b] := by
  cases b
  · exact (Lxa.blank (c := 32) (by decide)).app ((Lxa.sign (c := 60) (by decide)).app (Lxa.blank (c := 32) (by decide)))
  · exact (Lxa.blank (c := 32) (by decide)).app (Lxa.bar.app (Lxa.blank (c := 32) (by decide)))
theorem opB_stop (b : Bool) : Stop (opB b) ∧ opB b ≠ [] := by cases b <;> exact ⟨Stop.cons (by decide), by simp [opB]⟩
theorem Lxa.rule (r : Rl) (h : RlOK r) : Lxa (ruleB r) (ruleT r) := by
  have h1 := (Lx.list r.1 h.1 h.2.2.1).app_a (Lxa.op r.2.1) (opB_stop _).1 (opB_stop _).2
  have h2 := (Lx.list r.2.2 h.2.1 h.2.2.2).app_a ((Lxa.sign (c := 59) (by decide)).app (Lxa.blank (c := 10) (by decide))) (Stop.cons (by decide)) (by simp)
  have := h1.app h2
  simpa [ruleB, ruleT, tSemi] using this
theorem Lxa.rules : ∀ (R : List Rl), (∀ r ∈ R, RlOK r) → Lxa (R.flatMap ruleB) (R.flatMap ruleT)
  | [], _ => Lxa.nil
  | r :: R, h => by
    rw [List.flatMap_cons, List.flatMap_cons]
    exact (Lxa.rule r (h r (by simp))).app (Lxa.rules R fun x hx => h x (by simp [hx]))

/-! ### a chain -/
/-- the rules of a chain -/
def chainR : List (List Str) → List Rl
  | [] => []
  | [_] => []
  | x :: y :: r => (x, false, y) :: chainR (y :: r)
def chainT (L : List (List Str)) : List Str := sepT tLt (L.map commaT)
theorem pRun_chain : ∀ (L : List (List Str)) (x : List Str) (out : List Rl) (p : List Str), (∀ l ∈ x :: L, l ≠ [] ∧ ∀ n ∈ l, NameS n) → pRun ⟨out, some (p, false), [], true⟩ (chainT (x :: L) ++ [tSemi]) = some ⟨out ++ chainR (p :: x :: L), none, [], true⟩
  | [], x, out, p, h => by
    obtain ⟨h1, h2⟩ := h x (by simp)
    show pRun _ (commaT x ++ [tSemi]) = _
    rw [pRun_names _ _ _ h1 (fun n hn => (h2 n hn).sign), semi_push _ rfl]
    rfl
  | y :: L, x, out, p, h => by
    obtain ⟨h1, h2⟩ := h x (by simp)
    show pRun _ ((commaT x ++ tLt :: chainT (y :: L)) ++ [tSemi]) = _
    rw [List.append_assoc, pRun_names _ _ _ h1 (fun n hn => (h2 n hn).sign), List.cons_append, show tLt = opT false from rfl, opT_push _ rfl]
    have := pRun_chain L y (out ++ [(p, false, x)]) x (fun l hl => h l (List.mem_cons_of_mem _ hl))
    rw [show (PSt.push ⟨out, some (p, false), [] ++ x, false⟩) = out ++ [(p, false, x)] from rfl]
    rw [show ((⟨out, some (p, false), [] ++ x, false⟩ : PSt).cur) = x from rfl, this]
    simp [chainR]
theorem pRules_chain (L : List (List Str)) (hL : 2 ≤ L.length) (h : ∀ l ∈ L, l ≠ [] ∧ ∀ n ∈ l, NameS n) : pRules (chainT L ++ [tSemi]) = some (chainR L) := by
  match L, hL with
  | x :: y :: r, _ =>
    obtain ⟨h1, h2⟩ := h x (by simp)
    unfold pRules
    show (pRun _ ((commaT x ++ tLt :: chainT (y :: r)) ++ [tSemi])).bind pEnd = _
    rw [List.append_assoc, pRun_names _ _ _ h1 (fun n hn => (h2 n hn).sign), List.cons_append, show tLt = opT false from rfl, opT_push _ rfl]
    have := pRun_chain r y [] x (fun l hl => h l (List.mem_cons_of_mem _ hl))
    rw [show (PSt.push ⟨[], none, [] ++ x, false⟩) = [] from rfl, show ((⟨[], none, [] ++ x, false⟩ : PSt).cur) = x from rfl, this]
    simp [pEnd]
def chainB (L : List (List Str)) : Bs := joinB [32, 60, 32] (L.map fun l => joinB [44] (l.map bs))
theorem Lx.chain (L : List (List Str)) (hne : L ≠ []) (h : ∀ l ∈ L, l ≠ [] ∧ ∀ n ∈ l, NameS n) : Lx (chainB L) (chainT L) := by
  have := Lx.join (Lxa.op false) (opB_stop false).1 (opB_stop false).2 (L.map fun l => (joinB [44] (l.map bs), commaT l)) (by simpa using hne) (fun x hx => by
    obtain ⟨l, hl, rfl⟩ := List.mem_map.1 hx
    exact Lx.names (Lxa.sign (c := 44) (by decide)) (Stop.cons (by decide)) (by simp) l (h l hl).1 (h l hl).2)
  simpa [chainB, chainT, opB, opT, List.map_map, Function.comp_def] using this
theorem chain_lex (L : List (List Str)) (hne : L ≠ []) (h : ∀ l ∈ L, l ≠ [] ∧ ∀ n ∈ l, NameS n) : lex (chainB L ++ [59]) = some (chainT L ++ [tSemi]) :=
  ((Lx.chain L hne h).app_a (Lxa.sign (c := 59) (by decide)) (Stop.cons (by decide)) (by simp)).lx.all

/-! ### rules more, behind and ahead -/
/-- behind fine tokens the package is at a rule's start -/
theorem pRun_fine {ts : List Str} {R : List Rl} (h : srEnd (srRun ts) = some (some R)) : pRun ⟨[], none, [], true⟩ ts = some ⟨R, none, [], true⟩ := by
  have ha := ahead ts
  unfold Ahead at ha
  rcases hs : srRun ts with _ | _ | ⟨out, seg⟩
  · rw [hs] at h; cases h
  · rw [hs] at h; cases h
  · rw [hs] at ha h
    cases seg with
    | nil =>
      have e : out = R := by
        have : some (some out) = some (some R) := h
        simpa using this
      subst e
      rw [ha.2]
      show some (pOf out ⟨[], [], [], true⟩) = _
      rw [pStart]
    | cons x r =>
      exfalso
      simp only [srEnd] at h
      split at h
      · cases h
      · split at h <;> cases h
theorem pRules_more {ts : List Str} {R : List Rl} (h : srEnd (srRun ts) = some (some R)) (us : List Str) : pRules (ts ++ us) = (pRun ⟨R, none, [], true⟩ us).bind pEnd := by
  unfold pRules
  rw [pRun_append, pRun_fine h]
  rfl
theorem pRules_behind {ts : List Str} {R : List Rl} (h : srEnd (srRun ts) = some (some R)) (r : Rl) (hr : RlOK r) : pRules (ts ++ ruleT r) = some (R ++ [r]) := by
  rw [pRules_more h]
  have := pRun_rule R r hr []
  rw [List.append_nil] at this
  rw [this]
  simp [pRun, pEnd]
def PSt.onto (A : List Rl) (s : PSt) : PSt := { s with out := A ++ s.out }
theorem pStep_onto (A : List Rl) (s : PSt) (t : Str) : pStep (s.onto A) t = (pStep s t).map (PSt.onto A) := by
  have hp : (s.onto A).push = A ++ s.push := by
    unfold PSt.push PSt.onto
    cases s.prev <;> simp
  unfold pStep
  rw [hp]
  show (if s.nm = true then _ else _) = _
  split
  · split <;> rfl
  split
  · rfl
  split
  · rfl
  split
  · rfl
  · rfl
theorem pRun_onto (A : List Rl) : ∀ (ts : List Str) (s : PSt), pRun (s.onto A) ts = (pRun s ts).map (PSt.onto A)
  | [], s => rfl
  | t :: r, s => by
    simp only [pRun]
    rw [pStep_onto]
    cases pStep s t with
    | none => rfl
    | some s' => exact pRun_onto A r s'
theorem pRules_ahead {ts : List Str} {R : List Rl} (h : srEnd (srRun ts) = some (some R)) (r : Rl) (hr : RlOK r) : pRules (ruleT r ++ ts) = some (r :: R) := by
  unfold pRules
  rw [pRun_rule [] r hr ts]
  have := pRun_onto [r] ts ⟨[], none, [], true⟩
  rw [pRun_fine h] at this
  have e : PSt.onto [r] ⟨[], none, [], true⟩ = ⟨[] ++ [r], none, [], true⟩ := rfl
  rw [e] at this
  rw [this]
  simp [PSt.onto, pEnd]

/-! ### other blanks -/
def spB (k : Nat) : Bs := if k % 5 = 0 then [10, 9] else if k % 5 = 1 then [32, 35, 32, 97, 32, 60, 32, 98, 59, 10] else if k % 5 = 2 then [32, 32] else [32]
theorem Lxa.sp (k : Nat) : Lxa (spB k) [] := by
  unfold spB
  split
  · exact (Lxa.blank (c := 10) (by decide)).app (Lxa.blank (c := 9) (by decide))
  split
  · exact (Lxa.blank (c := 32) (by decide)).app (Lxa.note (m := [32, 97, 32, 60, 32, 98, 59]) (by decide))
  split
  · exact (Lxa.blank (c := 32) (by decide)).app (Lxa.blank (c := 32) (by decide))
  · exact Lxa.blank (c := 32) (by decide)
theorem spB_stop (k : Nat) : Stop (spB k) ∧ spB k ≠ [] ∧ (spB k).length ≤ 10 := by
  unfold spB
  split
  · exact ⟨Stop.cons (by decide), by simp, by simp⟩
  split
  · exact ⟨Stop.cons (by decide), by simp, by simp⟩
  split
  · exact ⟨Stop.cons (by decide), by simp, by simp⟩
  · exact ⟨Stop.cons (by decide), by simp, by simp⟩
/-- the first k tokens with their blanks -/
def spacedB (turn : Nat) (ts : List Str) : Nat → Bs
  | 0 => []
  | k + 1 => spacedB turn ts k ++ (spB (k * 7 + turn) ++ bs (ts.getD k ByteArray.empty))
theorem Lx.spaced {ts : List Str} (h : ∀ t ∈ ts, Lx (bs t) [t]) (turn : Nat) : ∀ (k : Nat), k ≤ ts.length → Lx (spacedB turn ts k) (ts.take k)
  | 0, _ => by simpa [spacedB] using Lxa.nil.lx
  | k + 1, hk => by
    have ih := Lx.spaced h turn k (by omega)
    have e : ts.getD k ByteArray.empty = ts[k] := by simp [List.getD, show k < ts.length from hk]
    have := (ih.app_a (Lxa.sp (k * 7 + turn)) (spB_stop _).1 (spB_stop _).2.1).app_lx (h ts[k] (List.getElem_mem hk))
    rw [List.take_succ_eq_append_getElem hk]
    unfold spacedB
    rw [e]
    simpa using this
theorem spaced_lex {ts : List Str} (h : ∀ t ∈ ts, Lx (bs t) [t]) (turn : Nat) : lex (spacedB turn ts ts.length ++ [10]) = some ts := by
  have := Lx.spaced h turn ts.length (Nat.le_refl _)
  rw [List.take_length] at this
  have h2 := this.app (Lxa.blank (c := 10) (by decide)).lx (Stop.cons (by decide))
  simpa using h2.all
theorem spaced_len {ts : List Str} {M : Nat} (h : ∀ t ∈ ts, t.size ≤ M) (turn : Nat) : ∀ (k : Nat), k ≤ ts.length → (spacedB turn ts k).length ≤ k * (10 + M)
  | 0, _ => by simp [spacedB]
  | k + 1, hk => by
    have ih := spaced_len h turn k (by omega)
    have e : ts.getD k ByteArray.empty = ts[k] := by simp [List.getD, show k < ts.length from hk]
    have h1 := h ts[k] (List.getElem_mem hk)
    have h2 := (spB_stop (k * 7 + turn)).2.2
    unfold spacedB
    rw [e, List.length_append, List.length_append, bs_len, Nat.add_mul]
    omega
end Go.Proofs.YthpfladpbfbpjaaDoor

/- Plain laws on graphs of rules: a bar more, a rule more; what the reference's fine graph is to the package's. No program in sight. -/
namespace Go.Proofs.YthpfladpbfbpjaaDoor

/-- a graph reads as nodes with what follows from edges -/
structure CloG (ns : List Str) (es : List Ed) (G : Gr) : Prop where
  good : GoodG G
  nm : names G = ns
  ed : ∀ a b, hasE G a b = clo ns es a b
  nodup : ns.Nodup
  inn : ∀ e ∈ es, e.1 ∈ ns ∧ e.2 ∈ ns
  back : ∀ e ∈ es, ns.idxOf e.2 < ns.idxOf e.1
theorem graph_raw {R : List Rl} {ns : List Str} {es : List Ed} (hr : rawG R = some (some (ns, es))) :
    ∃ G, CloG ns es G ∧ graphP R = if (barred R).any (fun e => clo ns es e.1 e.2) = true then none else some G := by
  have hs := build_sim R
  rw [hr] at hs
  have hS : Same ns es (iBuild R) := hs
  have hrd : Reads (iClose (names (iBuild R).1) (iBuild R)).1 ns (clo ns es) := by
    rw [hS.nm]
    refine iClose_reads hS.inn ns _ ⟨hS.good, hS.nm, fun a b => ?_⟩
    rw [Bool.eq_iff_iff, hS.ed, base_iff]
  have hz : (iClose (names (iBuild R).1) (iBuild R)).2 = 0 :=
    close_zero (T := fun a b => ns.idxOf b < ns.idxOf a) (fun _ _ _ h1 h2 => by omega) (fun _ h => by omega) _ _ ⟨hS.good, fun a b h => hS.back _ ((hS.ed a b).1 h)⟩ hS.no
  have hgp : graphP R = if iBars (iClose (names (iBuild R).1) (iBuild R)).1 R (iClose (names (iBuild R).1) (iBuild R)).2 = 0 then some (iClose (names (iBuild R).1) (iBuild R)).1 else none := rfl
  generalize iClose (names (iBuild R).1) (iBuild R) = p at *
  have hbz := bars_zero p.1 R p.2
  refine ⟨p.1, ⟨hrd.good, hrd.ns, hrd.es, hS.nodup, hS.inn, hS.back⟩, ?_⟩
  rw [hgp]
  by_cases h3 : (barred R).any (fun e => clo ns es e.1 e.2) = true
  · rw [if_pos h3, if_neg]
    intro hh
    obtain ⟨x, hx, hc⟩ := List.any_eq_true.1 h3
    have := (hbz.1 hh).2 x hx
    rw [hrd.es, hc] at this
    cases this
  · rw [if_neg h3, if_pos]
    refine hbz.2 ⟨hz, fun x hx => ?_⟩
    rw [hrd.es]
    cases hc : clo ns es x.1 x.2 with
    | false => rfl
    | true => exact absurd (List.any_eq_true.2 ⟨x, hx, hc⟩) h3
/-- the reference's fine graph -/
theorem graphS_fine {R : List Rl} {ns : List Str} {es : List Ed} (h : graphS R = some (some (ns, es))) :
    rawG R = some (some (ns, es)) ∧ ns.length ≤ 20 ∧ (∀ x ∈ barred R, x.1 ∈ ns ∧ x.2 ∈ ns ∧ clo ns es x.1 x.2 = false) := by
  unfold graphS at h
  rcases hr : rawG R with _ | _ | ⟨n, e⟩
  · rw [hr] at h; cases h
  · rw [hr] at h; cases h
  · rw [hr] at h
    simp only at h
    split at h
    · cases h
    rename_i h1
    split at h
    · cases h
    rename_i h2
    split at h
    · cases h
    rename_i h3
    cases h
    refine ⟨rfl, by omega, fun x hx => ?_⟩
    have h2' : (barred R).all (fun e => decide (e.1 ∈ ns) && decide (e.2 ∈ ns)) = true := by simpa using h2
    have hm := List.all_eq_true.1 h2' x hx
    simp only [Bool.and_eq_true, decide_eq_true_eq] at hm
    refine ⟨hm.1, hm.2, ?_⟩
    cases hc : clo ns es x.1 x.2 with
    | false => rfl
    | true => exact absurd (List.any_eq_true.2 ⟨x, hx, hc⟩) h3
theorem fine_P {R : List Rl} {ns : List Str} {es : List Ed} (h : graphS R = some (some (ns, es))) : ∃ G, CloG ns es G ∧ graphP R = some G := by
  obtain ⟨h1, _, h3⟩ := graphS_fine h
  obtain ⟨G, hG, hP⟩ := graph_raw h1
  refine ⟨G, hG, ?_⟩
  rw [hP, if_neg]
  intro hh
  obtain ⟨x, hx, hc⟩ := List.any_eq_true.1 hh
  rw [(h3 x hx).2.2] at hc
  cases hc
theorem wrong_P {R : List Rl} (h : graphS R = some none) : graphP R = none := by
  have := graph_same R
  rw [h] at this
  exact this

/-! ### bars -/
theorem rawG_snoc (R : List Rl) (r : Rl) : rawG (R ++ [r]) = ruleStep (rawG R) r := by simp [rawG, List.foldl_append]
theorem rawG_bar (R : List Rl) (l d : List Str) : rawG (R ++ [(l, true, d)]) = rawG R := by
  rw [rawG_snoc]
  exact defFold_bar (l, true, d) rfl d (rawG R)
theorem rawG_bar' (R : List Rl) (l d : List Str) : rawG ((l, true, d) :: R) = rawG R := by
  show R.foldl ruleStep (ruleStep (some (some ([], []))) (l, true, d)) = _
  rw [show ruleStep (some (some ([], []))) (l, true, d) = some (some ([], [])) from defFold_bar (l, true, d) rfl d _]
  rfl
/-- a bar behind rules -/
theorem bar_P {R : List Rl} {ns : List Str} {es : List Ed} (h : graphS R = some (some (ns, es))) (l d : Str) :
    if clo ns es d l = true then graphP (R ++ [([l], true, [d])]) = none else ∃ G, CloG ns es G ∧ graphP (R ++ [([l], true, [d])]) = some G := by
  obtain ⟨h1, _, h3⟩ := graphS_fine h
  obtain ⟨G, hG, hP⟩ := graph_raw ((rawG_bar R [l] [d]).trans h1)
  have hb : barred (R ++ [([l], true, [d])]) = barred R ++ [(d, l)] := by simp [barred]
  have h4 : (barred R).any (fun e => clo ns es e.1 e.2) = false := by
    rw [List.any_eq_false]
    intro x hx hc
    rw [(h3 x hx).2.2] at hc
    cases hc
  rw [hb, List.any_append, h4] at hP
  by_cases hc : clo ns es d l = true
  · rw [if_pos hc, hP]
    simp [hc]
  · rw [if_neg hc]
    refine ⟨G, hG, ?_⟩
    rw [hP]
    simp [hc]
/-- a bar ahead of rules -/
theorem barA_P {R : List Rl} {ns : List Str} {es : List Ed} (h : graphS R = some (some (ns, es))) (l d : Str) :
    if clo ns es d l = true then graphP (([l], true, [d]) :: R) = none else ∃ G, CloG ns es G ∧ graphP (([l], true, [d]) :: R) = some G := by
  obtain ⟨h1, _, h3⟩ := graphS_fine h
  obtain ⟨G, hG, hP⟩ := graph_raw ((rawG_bar' R [l] [d]).trans h1)
  have hb : barred (([l], true, [d]) :: R) = (d, l) :: barred R := by simp [barred]
  have h4 : (barred R).any (fun e => clo ns es e.1 e.2) = false := by
    rw [List.any_eq_false]
    intro x hx hc
    rw [(h3 x hx).2.2] at hc
    cases hc
  rw [hb, List.any_cons, h4] at hP
  by_cases hc : clo ns es d l = true
  · rw [if_pos hc, hP]
    simp [hc]
  · rw [if_neg hc]
    refine ⟨G, hG, ?_⟩
    rw [hP]
    simp [hc]

/-! ### a rule more -/
def NoNone (g : GRes) : Prop := ∀ ns es, g = some (some (ns, es)) → tNone ∉ ns
theorem less_names (df ns : List Str) (d : Str) : ∀ (ls : List Str) (es : List Ed) (n : List Str) (e' : List Ed), ls.foldl (lessStep df ns d) (some (some (ns, es))) = some (some (n, e')) → n = ns
  | [], es, n, e', h => by
    cases h; rfl
  | l :: r, es, n, e', h => by
    rw [List.foldl_cons] at h
    have hcase : lessStep df ns d (some (some (ns, es))) l = none ∨ lessStep df ns d (some (some (ns, es))) l = some none ∨ ∃ e2, lessStep df ns d (some (some (ns, es))) l = some (some (ns, e2)) := by
      simp only [lessStep]
      split
      · exact .inr (.inr ⟨_, rfl⟩)
      split
      · exact .inl rfl
      split
      · exact .inr (.inl rfl)
      · exact .inr (.inr ⟨_, rfl⟩)
    rcases hcase with hc | hc | ⟨e2, hc⟩
    · rw [hc, lessFold_stuck _ _ _ _ _ (.inl rfl)] at h; cases h
    · rw [hc, lessFold_stuck _ _ _ _ _ (.inr rfl)] at h; cases h
    · rw [hc] at h
      exact less_names df ns d r e2 n e' h
theorem noNone_def (r : Rl) (g : GRes) (d : Str) (h : NoNone g) : NoNone (defStep r g d) := by
  intro ns es he
  rcases g with _ | _ | ⟨n, e⟩
  · cases he
  · cases he
  · have hn := h n e rfl
    rw [defStep_some] at he
    split at he
    · cases he; exact hn
    split at he
    · cases he
    split at he
    · cases he
    rename_i h3
    simp only [not_or] at h3
    rcases hf : r.1.foldl (lessStep r.2.2 n d) (some (some (n, e))) with _ | _ | ⟨n2, e2⟩
    · rw [hf] at he; cases he
    · rw [hf] at he; cases he
    · rw [hf] at he
      simp only [Option.some.injEq, Prod.mk.injEq] at he
      obtain ⟨rfl, _⟩ := he
      intro hm
      rcases List.mem_append.1 hm with hm | hm
      · exact hn hm
      · exact h3.1 (List.mem_singleton.1 hm).symm
theorem noNone_raw (R : List Rl) : NoNone (rawG R) := by
  have hd : ∀ (r : Rl) (ds : List Str) (g : GRes), NoNone g → NoNone (ds.foldl (defStep r) g) := by
    intro r ds
    induction ds with
    | nil => intro g h; exact h
    | cons d t ih => intro g h; exact ih _ (noNone_def r g d h)
  refine snoc_ind (P := fun R => NoNone (rawG R)) ?_ ?_ R
  · intro ns es h
    cases h
    simp
  · intro l r ih
    rw [rawG_snoc]
    exact hd r _ _ ih
theorem clo_more {ns : List Str} {es : List Ed} (hin : ∀ e ∈ es, e.1 ∈ ns ∧ e.2 ∈ ns) {l n : Str} (hl : l ∈ ns) (hn : n ∉ ns) (a b : Str) :
    clo (ns ++ [n]) (es ++ [(n, l)]) a b = true ↔ clo ns es a b = true ∨ (a = n ∧ (b = l ∨ clo ns es l b = true)) := by
  have hin' : ∀ e ∈ es ++ [(n, l)], e.1 ∈ ns ++ [n] ∧ e.2 ∈ ns ++ [n] := fun e he => by
    rcases List.mem_append.1 he with he | he
    · exact ⟨List.mem_append_left _ (hin e he).1, List.mem_append_left _ (hin e he).2⟩
    · simp at he; subst he; simp [hl]
  have hlift : ∀ {a b : Str}, clo ns es a b = true → clo (ns ++ [n]) (es ++ [(n, l)]) a b = true := fun h => clo_congr hin' (fun e he => List.mem_append_left _ he) h
  have hend : ∀ {a b : Str}, clo ns es a b = true → a ∈ ns ∧ b ∈ ns := fun h => clo_ends hin h
  constructor
  · intro h
    refine clo_least (T := fun a b => clo ns es a b = true ∨ (a = n ∧ (b = l ∨ clo ns es l b = true))) ?_ ?_ h
    · intro a b hab
      rcases List.mem_append.1 hab with hab | hab
      · exact .inl (clo_mono hab)
      · simp at hab; exact .inr ⟨hab.1, .inl hab.2⟩
    · rintro a m b (h1 | ⟨rfl, h1⟩) (h2 | ⟨rfl, h2⟩)
      · exact .inl (clo_trans hin h1 h2)
      · exact absurd (hend h1).2 hn
      · rcases h1 with rfl | h1
        · exact .inr ⟨rfl, .inr h2⟩
        · exact .inr ⟨rfl, .inr (clo_trans hin h1 h2)⟩
      · rcases h1 with rfl | h1
        · exact absurd hl hn
        · exact absurd (hend h1).2 hn
  · rintro (h | ⟨rfl, rfl | h⟩)
    · exact hlift h
    · exact clo_mono (List.mem_append_right _ (by simp))
    · exact clo_trans hin' (clo_mono (List.mem_append_right _ (by simp))) (hlift h)
/-- a rule more that defines a name -/
theorem more_P {R : List Rl} {ns : List Str} {es : List Ed} (h : graphS R = some (some (ns, es))) {l n : Str} (hl : l ∈ ns) (hn : n ∉ ns) (hno : n ≠ tNone) :
    ∃ G, CloG (ns ++ [n]) (es ++ [(n, l)]) G ∧ graphP (R ++ [([l], false, [n])]) = some G := by
  obtain ⟨h1, _, h3⟩ := graphS_fine h
  have hnn := noNone_raw R ns es h1
  have hln : l ≠ n := fun e => hn (e ▸ hl)
  have hlN : l ≠ tNone := fun e => hnn (e ▸ hl)
  have hin := (show ns.Nodup ∧ ∀ e ∈ es, e.1 ∈ ns ∧ e.2 ∈ ns from by
    have := build_sim R
    rw [h1] at this
    have hS : Same ns es (iBuild R) := this
    exact ⟨hS.nodup, hS.inn⟩).2
  have hraw : rawG (R ++ [([l], false, [n])]) = some (some (ns ++ [n], es ++ [(n, l)])) := by
    rw [rawG_snoc, h1]
    show defStep ([l], false, [n]) (some (some (ns, es))) n = _
    rw [defStep_some]
    simp [hln.symm, hno, hn, lessStep, hlN, hln, hl]
  obtain ⟨G, hG, hP⟩ := graph_raw hraw
  have hb : barred (R ++ [([l], false, [n])]) = barred R := by simp [barred]
  refine ⟨G, hG, ?_⟩
  rw [hP, hb, if_neg]
  intro hh
  obtain ⟨x, hx, hc⟩ := List.any_eq_true.1 hh
  obtain ⟨g1, g2, g3⟩ := h3 x hx
  rcases (clo_more hin hl hn x.1 x.2).1 hc with hc | ⟨e, _⟩
  · rw [g3] at hc; cases hc
  · exact hn (e ▸ g1)

/-! ### no node is behind itself -/
theorem clo_back {ns : List Str} {es : List Ed} (hb : ∀ e ∈ es, ns.idxOf e.2 < ns.idxOf e.1) {a b : Str} (h : clo ns es a b = true) : ns.idxOf b < ns.idxOf a :=
  clo_least (T := fun a b => ns.idxOf b < ns.idxOf a) (fun a b hab => hb (a, b) hab) (fun _ _ _ h1 h2 => Nat.lt_trans h2 h1) h
end Go.Proofs.YthpfladpbfbpjaaDoor

/- Plain laws on what the package makes of rules: sizes, ends of edges, bars. No program in sight. -/
namespace Go.Proofs.YthpfladpbfbpjaaDoor

/-- bounds on counts, behind a name (omega does not bear such numbers) -/
def bE (k : Nat) : Nat := k * 2000000
theorem bE_zero : bE 0 = 0 := Nat.zero_mul _
theorem bE_succ (k : Nat) : bE (k + 1) = bE k + 2000000 := Nat.succ_mul k 2000000
theorem bE_le (k : Nat) (h : k ≤ 1000) : bE k ≤ 2000000000 := Nat.mul_le_mul_right 2000000 h
def bC (k : Nat) : Nat := k * 1000000
theorem bC_zero : bC 0 = 0 := Nat.zero_mul _
theorem bC_succ (k : Nat) : bC (k + 1) = bC k + 1000000 := Nat.succ_mul k 1000000
theorem bC_le (k : Nat) (h : k ≤ 1000) : bC k ≤ 1000000000 := Nat.mul_le_mul_right 1000000 h
theorem names_addE (G : Gr) (s t : Str) : names (addE G s t) = names G := names_setE G s _
theorem names_iLess (d : Str) (p : Gr × Nat) (l : Str) : names (iLess d p l).1 = names p.1 := by
  unfold iLess
  split
  · rfl
  split
  · exact names_addE _ _ _
  · rfl
theorem names_iLessF (d : Str) : ∀ (ls : List Str) (p : Gr × Nat), names (ls.foldl (iLess d) p).1 = names p.1
  | [], _ => rfl
  | l :: r, p => by rw [List.foldl_cons, names_iLessF d r, names_iLess]
theorem names_len (G : Gr) : (names G).length = G.length := by simp
theorem addE_len' (G : Gr) (s t : Str) : (addE G s t).length = G.length := by rw [← names_len, names_addE, names_len]
theorem iDef_len (ls : List Str) (p : Gr × Nat) (d : Str) : (iDef ls p d).1.length ≤ p.1.length + 1 := by
  unfold iDef
  split
  · simp
  · rw [← names_len, names_iLessF, names_len]
    exact addN_len _ _
theorem iDefF_len (ls : List Str) : ∀ (ds : List Str) (p : Gr × Nat), (ds.foldl (iDef ls) p).1.length ≤ p.1.length + ds.length
  | [], _ => by simp
  | d :: r, p => by
    have := iDefF_len ls r (iDef ls p d)
    have := iDef_len ls p d
    rw [List.foldl_cons, List.length_cons]
    omega
theorem iRule_len (p : Gr × Nat) (r : Rl) : (iRule p r).1.length ≤ p.1.length + r.2.2.length := by
  unfold iRule
  split
  · omega
  · exact iDefF_len _ _ _
theorem iBuild_snoc (R : List Rl) (r : Rl) : iBuild (R ++ [r]) = iRule (iBuild R) r := by simp [iBuild, List.foldl_append]
theorem iBuild_len (R : List Rl) : (iBuild R).1.length ≤ (R.map fun r => r.2.2.length).sum := by
  refine snoc_ind (P := fun R => (iBuild R).1.length ≤ (R.map fun r => r.2.2.length).sum) ?_ ?_ R
  · simp [iBuild]
  · intro l x ih
    rw [iBuild_snoc, List.map_append, List.sum_append]
    have := iRule_len (iBuild l) x
    simp
    omega
/-- no node twice, edges between nodes -/
def OkG (G : Gr) : Prop := GoodG G ∧ ∀ a b, hasE G a b = true → b ∈ names G
theorem okG_addE {G : Gr} {s t : Str} (h : OkG G) (hs : s ∈ names G) (ht : t ∈ names G) : OkG (addE G s t) :=
  ⟨goodG_addE h.1, fun a b hab => by
    rw [names_addE]
    rcases (hasE_addE h.1 hs a b).1 hab with h1 | ⟨_, rfl⟩
    · exact h.2 a b h1
    · exact ht⟩
theorem okG_addN {G : Gr} {s : Str} (h : OkG G) : OkG (addN G s) :=
  ⟨goodG_addN h.1, fun a b hab => by
    rw [hasE_addN] at hab
    rw [names_addN]
    exact .inl (h.2 a b hab)⟩
theorem okG_lessF (d : Str) : ∀ (ls : List Str) (p : Gr × Nat), OkG p.1 → d ∈ names p.1 → OkG (ls.foldl (iLess d) p).1
  | [], _, h, _ => h
  | l :: r, p, h, hd => by
    rw [List.foldl_cons]
    refine okG_lessF d r _ ?_ (by rw [names_iLess]; exact hd)
    unfold iLess
    split
    · exact h
    split
    · rename_i hl; exact okG_addE h hd hl
    · exact h
theorem okG_defF (ls : List Str) : ∀ (ds : List Str) (p : Gr × Nat), OkG p.1 → OkG (ds.foldl (iDef ls) p).1
  | [], _, h => h
  | d :: r, p, h => by
    rw [List.foldl_cons]
    refine okG_defF ls r _ ?_
    unfold iDef
    split
    · exact h
    · exact okG_lessF d ls _ (okG_addN h) ((names_addN _ _ _).2 (.inr rfl))
theorem okG_build (R : List Rl) : OkG (iBuild R).1 := by
  refine snoc_ind (P := fun R => OkG (iBuild R).1) ?_ ?_ R
  · exact ⟨goodG_nil, fun a b h => by simp [iBuild, hasE] at h⟩
  · intro l x ih
    rw [iBuild_snoc]
    unfold iRule
    split
    · exact ih
    · exact okG_defF _ _ _ ih
theorem names_cStep (k i : Str) (p : Gr × Nat) (j : Str) : names (cStep k i p j).1 = names p.1 := by
  unfold cStep
  split
  · exact names_addE _ _ _
  · rfl
theorem names_cF {α : Type} (f : Gr × Nat → α → Gr × Nat) (hf : ∀ p x, names (f p x).1 = names p.1) : ∀ (l : List α) (p : Gr × Nat), names (l.foldl f p).1 = names p.1
  | [], _ => rfl
  | x :: r, p => by rw [List.foldl_cons, names_cF f hf r, hf]
theorem names_cRow (ns : List Str) (k : Str) (p : Gr × Nat) (i : Str) : names (cRow ns k p i).1 = names p.1 := names_cF _ (fun p x => names_cStep k i p x) ns p
theorem names_cAll (ns : List Str) (p : Gr × Nat) (k : Str) : names (cAll ns p k).1 = names p.1 := names_cF _ (fun p x => names_cRow ns k p x) ns p
theorem names_iClose (ns : List Str) (p : Gr × Nat) : names (iClose ns p).1 = names p.1 := names_cF _ (fun p x => names_cAll ns p x) ns p
/-- the bars alone -/
theorem iBars_filter (G : Gr) : ∀ (R : List Rl) (e : Nat), iBars G R e = (R.filter fun r => r.2.1).foldl (fun e r => r.1.foldl (bLess G r.2.2) e) e
  | [], _ => rfl
  | r :: R, e => by
    have ih := iBars_filter G R
    show iBars G R (bRule G e r) = _
    rw [ih, List.filter_cons]
    by_cases h : r.2.1 = true
    · rw [if_pos h, List.foldl_cons]
      unfold bRule
      rw [if_pos h]
    · rw [if_neg h]
      unfold bRule
      rw [if_neg h]

/-! ### sizes of what is read -/
structure PSm (s : PSt) (n : Nat) : Prop where
  out : s.out.length ≤ n
  rl : ∀ r ∈ s.out, r.1.length ≤ n ∧ r.2.2.length ≤ n
  sum : (s.out.map fun r => r.2.2.length).sum + s.cur.length ≤ n
  prev : ∀ p b, s.prev = some (p, b) → p.length ≤ n
theorem PSm.push {s : PSt} {n : Nat} (h : PSm s n) : s.push.length ≤ n + 1 ∧ (∀ r ∈ s.push, r.1.length ≤ n + 1 ∧ r.2.2.length ≤ n + 1) ∧ (s.push.map fun r => r.2.2.length).sum ≤ n + 1 := by
  have h1 := h.out
  have h2 := h.rl
  have h3 := h.sum
  have h2' : ∀ r ∈ s.out, r.1.length ≤ n + 1 ∧ r.2.2.length ≤ n + 1 := fun r hr => by have := h2 r hr; omega
  unfold PSt.push
  cases hp : s.prev with
  | none => exact ⟨by show s.out.length ≤ n + 1; omega, h2', by show (s.out.map fun r => r.2.2.length).sum ≤ n + 1; omega⟩
  | some q =>
    obtain ⟨p, b⟩ := q
    have h4 := h.prev p b hp
    refine ⟨by simp; omega, fun r hr => ?_, by simp at h3 ⊢; omega⟩
    rcases List.mem_append.1 hr with hr | hr
    · exact h2' r hr
    · rw [List.mem_singleton.1 hr]
      simp only
      omega
theorem PSm.step {s s' : PSt} {n : Nat} {t : Str} (h : PSm s n) (hs : pStep s t = some s') : PSm s' (n + 1) := by
  have hw : ∀ r ∈ s.out, r.1.length ≤ n + 1 ∧ r.2.2.length ≤ n + 1 := fun r hr => by have := h.rl r hr; omega
  obtain ⟨p1, p2, p3⟩ := h.push
  unfold pStep at hs
  split at hs
  · split at hs
    · cases hs
    · cases hs
      exact ⟨by have := h.out; show s.out.length ≤ _; omega, hw, by have := h.sum; simp at this ⊢; omega, fun p b e => by have := h.prev p b e; omega⟩
  split at hs
  · cases hs
    exact ⟨by have := h.out; show s.out.length ≤ _; omega, hw, by have := h.sum; simp at this ⊢; omega, fun p b e => by have := h.prev p b e; omega⟩
  split at hs
  · cases hs
    exact ⟨p1, p2, by simpa using p3, fun p b e => by cases e⟩
  split at hs
  · cases hs
    refine ⟨p1, p2, by simpa using p3, fun p b e => ?_⟩
    simp only [Option.some.injEq, Prod.mk.injEq] at e
    obtain ⟨rfl, _⟩ := e
    have := h.sum
    omega
  · cases hs
theorem PSm.run : ∀ (ts : List Str) {s s' : PSt} {n : Nat}, PSm s n → pRun s ts = some s' → PSm s' (n + ts.length)
  | [], s, s', n, h, hs => by cases hs; exact h
  | t :: r, s, s', n, h, hs => by
    simp only [pRun] at hs
    cases hp : pStep s t with
    | none => rw [hp] at hs; cases hs
    | some s1 =>
      rw [hp] at hs
      have := PSm.run r (h.step hp) hs
      rw [List.length_cons, show n + (r.length + 1) = n + 1 + r.length from by omega]
      exact this
theorem pRules_small {ts : List Str} {R : List Rl} (h : pRules ts = some R) : R.length ≤ ts.length ∧ (∀ r ∈ R, r.1.length ≤ ts.length ∧ r.2.2.length ≤ ts.length) ∧ (R.map fun r => r.2.2.length).sum ≤ ts.length := by
  unfold pRules at h
  cases hr : pRun ⟨[], none, [], true⟩ ts with
  | none => rw [hr] at h; cases h
  | some s =>
    rw [hr] at h
    have hp : PSm s (0 + ts.length) := PSm.run ts ⟨by simp, by simp, by simp, by simp⟩ hr
    rw [Nat.zero_add] at hp
    simp only [Option.bind_some, pEnd] at h
    split at h
    · cases h
      exact ⟨hp.out, hp.rl, by have := hp.sum; omega⟩
    · cases h
/-- how many errors the closure may add -/
theorem cStep_le (k i : Str) (p : Gr × Nat) (j : Str) : (cStep k i p j).2 ≤ p.2 + 1 := by
  unfold cStep
  split
  · simp only
    split <;> omega
  · omega
end Go.Proofs.YthpfladpbfbpjaaDoor
