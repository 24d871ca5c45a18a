/- The package's graph and its Parse, the thin package's calls, and what the rows' condition gives. -/
import Derived.Shelf.SlSortCmp.NoneTotal
import Derived.Shelf.SlicesG.Cmp
import Derived.Test.YthpfladpbfbpjaaDoorProg
import Derived.Shelf.Strings.OnBuilder
import Derived.Shelf.LaysM
import Derived.Shelf.Strconv.Itoa3
import Derived.Test.YthpfladpbfbpjaaDoorPackB
import Derived.Lib.AppendIntMem
import Derived.Lib.ItoaLen
import Derived.RegionTactic
import Derived.Test.YthpfladpbfbpjaaDoorPackA
import Derived.Deep.LoopGhost
import Derived.BigRegion
import Derived.ChangeAlike
import Derived.Laws.EntriesVeiled
import Derived.IntWalk
import Derived.Deep.RegionHeld3
import Derived.Test.YthpfladpbfbpjaaDoorRows
import Derived.LaidSub
import Derived.MakeChecks
import Derived.Lib.LaidTab
import Derived.ProofKit
import Derived.Deep.Slices
import Derived.Deep.Fields
import Derived.ChangeSame
import Derived.SliceStrings
import Derived.OpenShut
import Derived.ShutString
import Derived.ChangeOld
/-
  The laying of the library sort and of cmp.Compare at this translation, written by the kit (lay-plain).
-/
namespace Go.Proofs
open Go.Shelf
def Tryd.sortL_ren : Go.Shelf.Ren := ⟨fun | 6 => 63 | 15 => 71 | 14 => 70 | 28 => 86 | 29 => 87 | 20 => 78 | 21 => 79 | 22 => 80 | 23 => 81 | 24 => 82 | 25 => 83 | 26 => 84 | 27 => 85 | 46 => 89 | 47 => 90 | 48 => 91 | 49 => 92 | 50 => 93 | 57 => 98 | n => n, fun | 22 => 28 | 24 => 9 | 25 => 108 | 3 => 3 | 39 => 113 | 0 => 0 | 53 => 126 | 55 => 128 | 4 => 4 | 46 => 120 | 45 => 119 | 50 => 86 | 5 => 5 | 9 => 9 | 66 => 130 | 70 => 134 | 76 => 140 | 77 => 141 | n => n, fun | n => n⟩
theorem Tryd.sortL : Go.Proofs.SlLaysF.n6 Tryd.prog Tryd.sortL_ren := {
  mixed := by kernel_rfl
  f6 := ⟨Tryd.f63.name, by decide, Tryd.func63.trans (congrArg some (by kernel_rfl))⟩
  f14 := ⟨Tryd.f70.name, by decide, Tryd.func70.trans (congrArg some (by kernel_rfl))⟩
  f15 := Tryd.func71.trans (congrArg some (by kernel_rfl))
  f20 := ⟨Tryd.f78.name, by decide, Tryd.func78.trans (congrArg some (by kernel_rfl))⟩
  f21 := ⟨Tryd.f79.name, by decide, Tryd.func79.trans (congrArg some (by kernel_rfl))⟩
  f22 := ⟨Tryd.f80.name, by decide, Tryd.func80.trans (congrArg some (by kernel_rfl))⟩
  f23 := ⟨Tryd.f81.name, by decide, Tryd.func81.trans (congrArg some (by kernel_rfl))⟩
  f24 := ⟨Tryd.f82.name, by decide, Tryd.func82.trans (congrArg some (by kernel_rfl))⟩
  f25 := ⟨Tryd.f83.name, by decide, Tryd.func83.trans (congrArg some (by kernel_rfl))⟩
  f26 := ⟨Tryd.f84.name, by decide, Tryd.func84.trans (congrArg some (by kernel_rfl))⟩
  f27 := ⟨Tryd.f85.name, by decide, Tryd.func85.trans (congrArg some (by kernel_rfl))⟩
  f28 := Tryd.func86.trans (congrArg some (by kernel_rfl))
  f29 := Tryd.func87.trans (congrArg some (by kernel_rfl))
  f46 := ⟨Tryd.f89.name, by decide, Tryd.func89.trans (congrArg some (by kernel_rfl))⟩
  f47 := Tryd.func90.trans (congrArg some (by kernel_rfl))
  f48 := Tryd.func91.trans (congrArg some (by kernel_rfl))
  f49 := ⟨Tryd.f92.name, by decide, Tryd.func92.trans (congrArg some (by kernel_rfl))⟩
  f50 := ⟨Tryd.f93.name, by decide, Tryd.func93.trans (congrArg some (by kernel_rfl))⟩
  f57 := ⟨Tryd.f98.name, by decide, Tryd.func98.trans (congrArg some (by kernel_rfl))⟩
  t0 := Tryd.underlying0
  a0 := Tryd.isAgg0
  z0 := Tryd.sizeOf0
  v0 := Tryd.zeroValue0
  t3 := Tryd.underlying3
  a3 := Tryd.isAgg3
  z3 := Tryd.sizeOf3
  v3 := Tryd.zeroValue3
  t4 := Tryd.underlying4
  a4 := Tryd.isAgg4
  z4 := Tryd.sizeOf4
  v4 := Tryd.zeroValue4
  t5 := Tryd.underlying5
  a5 := Tryd.isAgg5
  z5 := Tryd.sizeOf5
  v5 := Tryd.zeroValue5
  t9 := Tryd.underlying9
  a9 := Tryd.isAgg9
  z9 := Tryd.sizeOf9
  v9 := Tryd.zeroValue9
  t22 := Tryd.underlying28
  a22 := Tryd.isAgg28
  z22 := Tryd.sizeOf28
  v22 := Tryd.zeroValue28
  a24 := Tryd.isAgg9
  z24 := Tryd.sizeOf9
  t25 := Tryd.underlying108
  a25 := Tryd.isAgg108
  z25 := Tryd.sizeOf108
  v25 := Tryd.zeroValue108
  t39 := Tryd.underlying113
  a39 := Tryd.isAgg113
  z39 := Tryd.sizeOf113
  v39 := Tryd.zeroValue113
  t45 := Tryd.underlying119
  a45 := Tryd.isAgg119
  z45 := Tryd.sizeOf119
  v45 := Tryd.zeroValue119
  t46 := Tryd.underlying120
  a46 := Tryd.isAgg120
  z46 := Tryd.sizeOf120
  v46 := Tryd.zeroValue120
  t50 := Tryd.underlying86
  a50 := Tryd.isAgg86
  z50 := Tryd.sizeOf86
  v50 := Tryd.zeroValue86
  t53 := Tryd.underlying126
  a53 := Tryd.isAgg126
  z53 := Tryd.sizeOf126
  v53 := Tryd.zeroValue126
  t55 := Tryd.underlying128
  a55 := Tryd.isAgg128
  z55 := Tryd.sizeOf128
  v55 := Tryd.zeroValue128
  t66 := Tryd.underlying130
  a66 := Tryd.isAgg130
  z66 := Tryd.sizeOf130
  v66 := Tryd.zeroValue130
  t70 := Tryd.underlying134
  a70 := Tryd.isAgg134
  z70 := Tryd.sizeOf134
  v70 := Tryd.zeroValue134
  t76 := Tryd.underlying140
  a76 := Tryd.isAgg140
  z76 := Tryd.sizeOf140
  v76 := Tryd.zeroValue140
  t77 := Tryd.underlying141
  a77 := Tryd.isAgg141
  z77 := Tryd.sizeOf141
  v77 := Tryd.zeroValue141 }
def Tryd.cmpL_ren : Go.Shelf.Ren := ⟨fun | 5 => 65 | 7 => 72 | n => n, fun | 22 => 3 | 3 => 3 | 4 => 4 | n => n, fun | n => n⟩
theorem Tryd.cmpL : Go.Proofs.SlLaysC2.n5 Tryd.prog Tryd.cmpL_ren := {
  mixed := by kernel_rfl
  f5 := ⟨Tryd.f65.name, by decide, Tryd.func65.trans (congrArg some (by kernel_rfl))⟩
  f7 := ⟨Tryd.f72.name, by decide, Tryd.func72.trans (congrArg some (by kernel_rfl))⟩
  t3 := Tryd.underlying3
  a3 := Tryd.isAgg3
  z3 := Tryd.sizeOf3
  v3 := Tryd.zeroValue3
  t4 := Tryd.underlying4
  a4 := Tryd.isAgg4
  z4 := Tryd.sizeOf4
  v4 := Tryd.zeroValue4
  t22 := Tryd.underlying3
  a22 := Tryd.isAgg3
  z22 := Tryd.sizeOf3
  v22 := Tryd.zeroValue3 }
end Go.Proofs

/-
  The laying of strconv.Itoa and of strings.Join at this translation, written by the kit (lay-plain).
-/
namespace Go.Proofs
open Go.Shelf
def Tryd.lays156_ren : Go.Shelf.Ren := ⟨fun | 156 => 52 | 165 => 60 | 166 => 61 | 169 => 62 | 240 => 68 | 241 => 69 | 276 => 76 | 277 => 77 | n => n, fun | 31 => 28 | 9 => 9 | 3 => 3 | 4 => 4 | 0 => 0 | 20 => 20 | 72 => 101 | 76 => 103 | 70 => 98 | 37 => 99 | 75 => 63 | 127 => 110 | 164 => 115 | 5 => 5 | 80 => 105 | n => n, fun | n => n⟩
theorem Tryd.lays156 : Go.Proofs.Lays.n156 Tryd.prog Tryd.lays156_ren := {
  mixed := by kernel_rfl
  f156 := Tryd.func52.trans (congrArg some (by kernel_rfl))
  f165 := Tryd.func60.trans (congrArg some (by kernel_rfl))
  f166 := Tryd.func61.trans (congrArg some (by kernel_rfl))
  f169 := Tryd.func62.trans (congrArg some (by kernel_rfl))
  f240 := Tryd.func68.trans (congrArg some (by kernel_rfl))
  f241 := Tryd.func69.trans (congrArg some (by kernel_rfl))
  f276 := Tryd.func76.trans (congrArg some (by kernel_rfl))
  f277 := Tryd.func77.trans (congrArg some (by kernel_rfl))
  t0 := Tryd.underlying0
  a0 := Tryd.isAgg0
  z0 := Tryd.sizeOf0
  v0 := Tryd.zeroValue0
  t3 := Tryd.underlying3
  a3 := Tryd.isAgg3
  z3 := Tryd.sizeOf3
  v3 := Tryd.zeroValue3
  t4 := Tryd.underlying4
  a4 := Tryd.isAgg4
  z4 := Tryd.sizeOf4
  v4 := Tryd.zeroValue4
  t9 := Tryd.underlying9
  a9 := Tryd.isAgg9
  z9 := Tryd.sizeOf9
  v9 := Tryd.zeroValue9
  t20 := Tryd.underlying20
  a20 := Tryd.isAgg20
  z20 := Tryd.sizeOf20
  v20 := Tryd.zeroValue20
  t31 := Tryd.underlying28
  a31 := Tryd.isAgg28
  z31 := Tryd.sizeOf28
  v31 := Tryd.zeroValue28
  t37 := Tryd.underlying99
  a37 := Tryd.isAgg99
  z37 := Tryd.sizeOf99
  v37 := Tryd.zeroValue99
  t70 := Tryd.underlying98
  a70 := Tryd.isAgg98
  z70 := Tryd.sizeOf98
  v70 := Tryd.zeroValue98
  t72 := Tryd.underlying101
  a72 := Tryd.isAgg101
  z72 := Tryd.sizeOf101
  v72 := Tryd.zeroValue101
  t75 := Tryd.underlying63
  a75 := Tryd.isAgg63
  z75 := Tryd.sizeOf63
  v75 := Tryd.zeroValue63
  t76 := Tryd.underlying103
  a76 := Tryd.isAgg103
  z76 := Tryd.sizeOf103
  v76 := Tryd.zeroValue103
  t127 := Tryd.underlying110
  a127 := Tryd.isAgg110
  z127 := Tryd.sizeOf110
  v127 := Tryd.zeroValue110
  t164 := Tryd.underlying115
  a164 := Tryd.isAgg115
  z164 := Tryd.sizeOf115
  v164 := Tryd.zeroValue115 }
theorem Tryd.Builder_Extra_156 : Builder.Extra Tryd.prog Tryd.lays156_ren := {
  sizeBuilder := by kernel_rfl
  liesBuilder := by kernel_rfl
  t5 := Tryd.underlying5
  a5 := Tryd.isAgg5
  z5 := Tryd.sizeOf5
  v5 := Tryd.zeroValue5
  infoByte := by kernel_rfl
  cellsByte := by kernel_rfl
  sizeByte := by kernel_rfl
  neB5 := by decide }
open Go.RowKit in
theorem Tryd.strings_Join_none (a : Option Addr) (c : Nat) (sep : ByteArray) (w : World) :
    Calls Tryd.prog 52 #[.slice a 0 c, .string sep] w fun e w' => e = .returned (.string ⟨#[]⟩) ∧ w' = w := Any.strings_Join_none Tryd.lays156 Tryd.Builder_Extra_156 a c sep w
open Go.RowKit in
theorem Tryd.strings_Join (bk o c : Nat) (xs : List ByteArray) (sep : ByteArray) (w : World) (hcells : ∀ (j : Nat) x, xs[j]? = some x → w.cell? ⟨bk, o + j, none⟩ = some (.string x)) (hbk : bk < w.heap.size) (hN : xs.length ≤ 140737488355328) (hcap : xs.length ≤ c) (hlen : (Lib.join (xs.map (·.data.toList)) sep.data.toList).length ≤ 140737488355328) :
    Calls Tryd.prog 52 #[.slice (some ⟨bk, o, none⟩) xs.length c, .string sep] w fun e w' => e = .returned (.string ⟨(Lib.join (xs.map (·.data.toList)) sep.data.toList).toArray⟩) ∧ Below w.heap.size w w' := Any.strings_Join Tryd.lays156 Tryd.Builder_Extra_156 bk o c xs sep w hcells hbk hN hcap hlen
def Tryd.laysM171_ren : Go.Shelf.Ren := ⟨fun | 171 => 67 | 243 => 75 | 246 => 88 | 283 => 94 | 284 => 95 | 285 => 96 | 286 => 97 | 129 => 87 | 317 => 99 | 318 => 100 | 319 => 101 | 320 => 102 | 337 => 103 | 338 => 104 | n => n, fun | 3 => 3 | 9 => 9 | 2 => 2 | 4 => 4 | 171 => 136 | 0 => 0 | 53 => 128 | 37 => 99 | 5 => 5 | 173 => 138 | 212 => 145 | 51 => 126 | 20 => 20 | 213 => 146 | 46 => 113 | 232 => 147 | 233 => 148 | n => n, fun | 17 => 1 | 18 => 2 | 19 => 3 | n => n⟩
theorem Tryd.laysM171 : Go.Proofs.LaysM.n171 Tryd.prog Tryd.laysM171_ren := {
  mixed := by kernel_rfl
  f129 := Tryd.func87.trans (congrArg some (by kernel_rfl))
  f171 := Tryd.func67.trans (congrArg some (by kernel_rfl))
  f243 := Tryd.func75.trans (congrArg some (by kernel_rfl))
  f246 := Tryd.func88.trans (congrArg some (by kernel_rfl))
  f283 := Tryd.func94.trans (congrArg some (by kernel_rfl))
  f284 := Tryd.func95.trans (congrArg some (by kernel_rfl))
  f285 := Tryd.func96.trans (congrArg some (by kernel_rfl))
  f286 := Tryd.func97.trans (congrArg some (by kernel_rfl))
  f317 := Tryd.func99.trans (congrArg some (by kernel_rfl))
  f318 := Tryd.func100.trans (congrArg some (by kernel_rfl))
  f319 := Tryd.func101.trans (congrArg some (by kernel_rfl))
  f320 := Tryd.func102.trans (congrArg some (by kernel_rfl))
  f337 := Tryd.func103.trans (congrArg some (by kernel_rfl))
  f338 := Tryd.func104.trans (congrArg some (by kernel_rfl))
  t0 := Tryd.underlying0
  a0 := Tryd.isAgg0
  z0 := Tryd.sizeOf0
  v0 := Tryd.zeroValue0
  t2 := Tryd.underlying2
  a2 := Tryd.isAgg2
  z2 := Tryd.sizeOf2
  v2 := Tryd.zeroValue2
  t3 := Tryd.underlying3
  a3 := Tryd.isAgg3
  z3 := Tryd.sizeOf3
  v3 := Tryd.zeroValue3
  t4 := Tryd.underlying4
  a4 := Tryd.isAgg4
  z4 := Tryd.sizeOf4
  v4 := Tryd.zeroValue4
  t5 := Tryd.underlying5
  a5 := Tryd.isAgg5
  z5 := Tryd.sizeOf5
  v5 := Tryd.zeroValue5
  t9 := Tryd.underlying9
  a9 := Tryd.isAgg9
  z9 := Tryd.sizeOf9
  v9 := Tryd.zeroValue9
  t20 := Tryd.underlying20
  a20 := Tryd.isAgg20
  z20 := Tryd.sizeOf20
  v20 := Tryd.zeroValue20
  t37 := Tryd.underlying99
  a37 := Tryd.isAgg99
  z37 := Tryd.sizeOf99
  v37 := Tryd.zeroValue99
  t46 := Tryd.underlying113
  a46 := Tryd.isAgg113
  z46 := Tryd.sizeOf113
  v46 := Tryd.zeroValue113
  t51 := Tryd.underlying126
  a51 := Tryd.isAgg126
  z51 := Tryd.sizeOf126
  v51 := Tryd.zeroValue126
  t53 := Tryd.underlying128
  a53 := Tryd.isAgg128
  z53 := Tryd.sizeOf128
  v53 := Tryd.zeroValue128
  t171 := Tryd.underlying136
  a171 := Tryd.isAgg136
  z171 := Tryd.sizeOf136
  v171 := Tryd.zeroValue136
  t173 := Tryd.underlying138
  a173 := Tryd.isAgg138
  z173 := Tryd.sizeOf138
  v173 := Tryd.zeroValue138
  t212 := Tryd.underlying145
  a212 := Tryd.isAgg145
  z212 := Tryd.sizeOf145
  v212 := Tryd.zeroValue145
  t213 := Tryd.underlying146
  a213 := Tryd.isAgg146
  z213 := Tryd.sizeOf146
  t232 := Tryd.underlying147
  a232 := Tryd.isAgg147
  z232 := Tryd.sizeOf147
  v232 := Tryd.zeroValue147
  t233 := Tryd.underlying148
  a233 := Tryd.isAgg148
  z233 := Tryd.sizeOf148
  v233 := Tryd.zeroValue148
  g17 := by kernel_rfl
  g18 := by kernel_rfl
  g19 := by kernel_rfl
  i0 := by kernel_rfl
  i2 := by kernel_rfl
  i3 := by kernel_rfl
  i4 := by kernel_rfl
  i5 := by kernel_rfl
  i9 := by kernel_rfl
  i20 := by kernel_rfl
  i37 := by kernel_rfl
  i46 := by kernel_rfl
  i51 := by kernel_rfl
  i53 := by kernel_rfl
  i171 := by kernel_rfl
  i173 := by kernel_rfl
  i212 := by kernel_rfl
  i232 := by kernel_rfl
  i233 := by kernel_rfl
  m17 := by kernel_rfl
  m18 := by kernel_rfl
  m19 := by kernel_rfl }
open Go.RowKit Go.Sort Go.Lib in
theorem Tryd.strconv_Itoa (n : Int) (h0 : -9223372036854775808 ≤ n) (h1 : n ≤ 9223372036854775807) (w : World) (htab : Lib.TabIs Tryd.prog w "internal/strconv.uint64pow10" .u64 Lib.pow10Tab) :
    Calls Tryd.prog 67 #[.int .i64 n] w fun e w' => e = .returned (.string ⟨(Lib.itoa n).toArray⟩) ∧ ∃ k os, w' = grow (w.drewN k) os := Any.strconv_Itoa Tryd.laysM171 n h0 h1 w htab
end Go.Proofs

/- The package's syntaxError: it panics with a text of its own. -/
namespace Go.Proofs.YthpfladpbfbpjaaDoor
open Go.RowKit

theorem grow_below (w : World) (k : Nat) (os : Array Obj) : Below w.heap.size w (Sort.grow (w.drewN k) os) :=
  ⟨rfl, rfl, rfl, by show w.heap.size ≤ (w.heap ++ os).size; simp, fun b hb => by show (w.heap ++ os)[b]? = w.heap[b]?; rw [Array.getElem?_append_left hb]⟩
theorem itoa_size (n : Nat) (h : n ≤ 2000000) : (⟨(Lib.itoa (n : Int)).toArray⟩ : Str).size ≤ 24 := by
  show (Lib.itoa (n : Int)).toArray.size ≤ 24
  rw [Lib.itoa_nonneg, List.size_toArray, Lib.decDigits_length]
  have := Lib.nDigits_le20 n (by omega)
  omega
theorem sadd (a b : Str) (m n : Nat) (ha : a.size ≤ m) (hb : b.size ≤ n) (h : m + n ≤ 9000000000000000000) : ∃ s : Str, s.size ≤ m + n ∧ ∀ W, (Op.stringOp .add a b).run Tryd.prog W = .ok (.string s) W :=
  ⟨a ++ b, by rw [ByteArray.size_append]; omega, fun W => run_string_add_sum W a b (by omega)⟩
set_option maxRecDepth 100000 in
set_option maxHeartbeats 2000000 in
theorem synt_calls (tx msg : Str) (pb M : Nat) (w : World) (hM : M ≤ 2000000) (h : TokAt w pb M tx) (hmsg : msg.size ≤ 20) (htab : Lib.TabIs Tryd.prog w "internal/strconv.uint64pow10" .u64 Lib.pow10Tab) :
    Calls Tryd.prog 59 #[.pointer (some ⟨pb, 0, none⟩), .string msg] w (Err w) := by
  obtain ⟨ln, lw, hln, hlw, hcell⟩ := h
  have hT : Hid (∀ w', Below w.heap.size w w' → Lib.TabIs Tryd.prog w' "internal/strconv.uint64pow10" .u64 Lib.pow10Tab) := Lib.hid (fun w' hb => Lib.tabBelow_of_tabIs htab w' hb)
  have hpb : pb < w.heap.size := (Array.getElem?_eq_some_iff.1 hcell).1
  have hC : Hid (∀ w', Below w.heap.size w w' → w'.cell? ⟨pb, 0, none⟩ = some (.int .i64 ln) ∧ w'.cell? ⟨pb, 1, none⟩ = some (.string lw)) := Lib.hid (fun w' hb => by
    have hc : w'.heap[pb]? = some (.cells #[.int .i64 ln, .string lw, .string tx] 95 (0, 0)) := (hb.block _ hpb).trans hcell
    exact ⟨by rw [cell_of_row _ _ _ _ _ _ hc]; rfl, by rw [cell_of_row _ _ _ _ _ _ hc]; rfl⟩)
  have hIs := itoa_size ln (by omega)
  have c0 := (hC.out w (Below.refl _ _)).1
  have c1 := (hC.out w (Below.refl _ _)).2
  have hIt : Hid (∀ w', Below w.heap.size w w' → Calls Tryd.prog 67 #[.int .i64 ln] w' fun e w'' => e = .returned (.string ⟨(Lib.itoa (ln : Int)).toArray⟩) ∧ ∃ k os, w'' = Sort.grow (w'.drewN k) os) :=
    Lib.hid (fun w' hb => Tryd.strconv_Itoa (ln : Int) (by omega) (by omega) w' (hT.out w' hb))
  clear htab hcell
  generalize (⟨(Lib.itoa (ln : Int)).toArray⟩ : Str) = is at *
  obtain ⟨s1, hs1, ha1⟩ := sadd ⟨#[112, 97, 114, 115, 105, 110, 103, 32, 103, 114, 97, 112, 104, 58, 32, 108, 105, 110, 101, 32]⟩ is 20 24 (by decide) hIs (by omega)
  obtain ⟨s2, hs2, ha2⟩ := sadd s1 ⟨#[58, 32, 115, 121, 110, 116, 97, 120, 32, 101, 114, 114, 111, 114, 58, 32]⟩ _ 16 hs1 (by decide) (by omega)
  obtain ⟨s3, hs3, ha3⟩ := sadd s2 msg _ 20 hs2 hmsg (by omega)
  obtain ⟨s4, hs4, ha4⟩ := sadd s3 ⟨#[32, 110, 101, 97, 114, 32]⟩ _ 6 hs3 (by decide) (by omega)
  obtain ⟨s5, hs5, ha5⟩ := sadd s4 lw _ 2000000 hs4 (by omega) (by omega)
  go_enter Tryd.func59, Tryd.ntmps59
  go_wp2
  refine wp_region_any (by kernel_rfl) ?_
  change wpAny _ _ _ _ _ _ _ (World.drew _)
  refine wpAny_take (i := 0) (v := ?_) rfl (by kernel_rfl) (by kernel_rfl) (by kernel_rfl) (fun _ _ _ h => h) (Or.inl ⟨by rfl, ?_⟩) ?_
  rotate_left
  · (intro w; go_simp; try with_reducible rfl)
  refine wpAny_take (i := 1) (v := ?_) rfl (by kernel_rfl) (by kernel_rfl) (by kernel_rfl) (fun _ _ _ h => h) (Or.inl ⟨by rfl, ?_⟩) ?_
  rotate_left
  · (intro w; go_simp; try with_reducible rfl)
  refine wpAny_take (i := 2) (v := ?_) rfl (by kernel_rfl) (by kernel_rfl) (by kernel_rfl) (fun _ _ _ h => h) (Or.inl ⟨by rfl, ?_⟩) ?_
  rotate_left
  · (intro w; go_simp; try with_reducible rfl)
  refine wpAny_take (i := 7) (v := ?_) rfl (by kernel_rfl) (by kernel_rfl) (by kernel_rfl) (fun _ _ _ h => h) (Or.inl ⟨by rfl, ?_⟩) ?_
  rotate_left
  · (intro w; go_simp; try with_reducible rfl)
  refine wpAny_take (i := 10) (v := ?_) rfl (by kernel_rfl) (by kernel_rfl) (by kernel_rfl) (fun _ _ _ h => h) (Or.inl ⟨by rfl, ?_⟩) ?_
  rotate_left
  · (intro w; go_simp; try with_reducible rfl)
  refine wpAny_take (i := 11) (v := ?_) rfl (by kernel_rfl) (by kernel_rfl) (by kernel_rfl) (fun _ _ _ h => h) (Or.inl ⟨by rfl, ?_⟩) ?_
  rotate_left
  · (intro w; go_simp; try with_reducible rfl)
  refine wpAny_take (i := 12) (v := ?_) rfl (by kernel_rfl) (by kernel_rfl) (by kernel_rfl) (fun _ _ _ h => h) (Or.inl ⟨by rfl, ?_⟩) ?_
  rotate_left
  · (intro w; go_simp; try with_reducible rfl)
  refine wpAny_ready (rs := [3, 13]) (by kernel_rfl) (by simp) ?_
  refine AllReady.cons rfl (fun K hK => ?_) ?_
  · go_simp
    refine hK _ _ ?_
    clear hK K
    refine wpAny_ready (rs := [4, 13]) (by kernel_rfl) (by simp) ?_
    refine AllReady.cons rfl (fun K hK => ?_) ?_
    · go_simp
      go_at_call 67
      refine (hIt.out _ ((Fr.drew NoB w).below_top)).mono ?_
      rintro e w1 ⟨rfl, k, os, hw1⟩
      have hb1 : Below w.heap.size w w1 := by rw [hw1]; exact ((Fr.drew NoB w).below_top).trans (grow_below w.drew k os)
      have d0 := (hC.out _ hb1).1
      have d1 := (hC.out _ hb1).2
      clear hw1
      refine hK _ _ ?_
      clear hK K
      refine wpAny_take (i := 5) (v := ?_) rfl (by kernel_rfl) (by kernel_rfl) (by kernel_rfl) (fun _ _ _ h => h) (Or.inl ⟨by rfl, ?_⟩) ?_
      rotate_left
      · (intro w; go_simp; try with_reducible rfl)
      refine wpAny_take (i := 6) (v := ?_) rfl (by kernel_rfl) (by kernel_rfl) (by kernel_rfl) (fun _ _ _ h => h) (Or.inl ⟨by rfl, ?_⟩) ?_
      rotate_left
      · (intro w; go_simp; try with_reducible rfl)
      refine wpAny_take (i := 8) (v := ?_) rfl (by kernel_rfl) (by kernel_rfl) (by kernel_rfl) (fun _ _ _ h => h) (Or.inl ⟨by rfl, ?_⟩) ?_
      rotate_left
      · (intro w; go_simp; try with_reducible rfl)
      refine wpAny_take (i := 9) (v := ?_) rfl (by kernel_rfl) (by kernel_rfl) (by kernel_rfl) (fun _ _ _ h => h) (Or.inl ⟨by rfl, ?_⟩) ?_
      rotate_left
      · (intro w; go_simp; try with_reducible rfl)
      refine wpAny_ready (rs := [13]) (by kernel_rfl) (by simp) ?_
      refine AllReady.cons rfl (fun K hK => ?_) ?_
      · go_simp
        refine hK _ _ ?_
        clear hK K
        refine wpAny_take (i := 14) (v := ?_) rfl (by kernel_rfl) (by kernel_rfl) (by kernel_rfl) (fun _ _ _ h => h) (Or.inl ⟨by rfl, ?_⟩) ?_
        rotate_left
        · (intro w; go_simp; try with_reducible rfl)
        refine wpAny_take (i := 15) (v := ?_) rfl (by kernel_rfl) (by kernel_rfl) (by kernel_rfl) (fun _ _ _ h => h) (Or.inl ⟨by rfl, ?_⟩) ?_
        rotate_left
        · (intro w; go_simp; try with_reducible rfl)
        refine wpAny_ready (rs := [16]) (by kernel_rfl) (by simp) ?_
        refine AllReady.cons rfl (fun K hK => ?_) ?_
        · go_simp
          exact ⟨rfl, s5, rfl, hb1⟩
        exact AllReady.nil
      exact AllReady.nil
    refine AllReady.cons rfl (fun K hK => ?_) ?_
    · go_simp
      refine hK _ _ ?_
      clear hK K
      refine wpAny_ready (rs := [4]) (by kernel_rfl) (by simp) ?_
      refine AllReady.cons rfl (fun K hK => ?_) ?_
      · go_simp
        go_at_call 67
        refine (hIt.out _ ((Fr.drew NoB w).below_top)).mono ?_
        rintro e w1 ⟨rfl, k, os, hw1⟩
        have hb1 : Below w.heap.size w w1 := by rw [hw1]; exact ((Fr.drew NoB w).below_top).trans (grow_below w.drew k os)
        have d0 := (hC.out _ hb1).1
        have d1 := (hC.out _ hb1).2
        clear hw1
        refine hK _ _ ?_
        clear hK K
        refine wpAny_take (i := 5) (v := ?_) rfl (by kernel_rfl) (by kernel_rfl) (by kernel_rfl) (fun _ _ _ h => h) (Or.inl ⟨by rfl, ?_⟩) ?_
        rotate_left
        · (intro w; go_simp; try with_reducible rfl)
        refine wpAny_take (i := 6) (v := ?_) rfl (by kernel_rfl) (by kernel_rfl) (by kernel_rfl) (fun _ _ _ h => h) (Or.inl ⟨by rfl, ?_⟩) ?_
        rotate_left
        · (intro w; go_simp; try with_reducible rfl)
        refine wpAny_take (i := 8) (v := ?_) rfl (by kernel_rfl) (by kernel_rfl) (by kernel_rfl) (fun _ _ _ h => h) (Or.inl ⟨by rfl, ?_⟩) ?_
        rotate_left
        · (intro w; go_simp; try with_reducible rfl)
        refine wpAny_take (i := 9) (v := ?_) rfl (by kernel_rfl) (by kernel_rfl) (by kernel_rfl) (fun _ _ _ h => h) (Or.inl ⟨by rfl, ?_⟩) ?_
        rotate_left
        · (intro w; go_simp; try with_reducible rfl)
        refine wpAny_take (i := 14) (v := ?_) rfl (by kernel_rfl) (by kernel_rfl) (by kernel_rfl) (fun _ _ _ h => h) (Or.inl ⟨by rfl, ?_⟩) ?_
        rotate_left
        · (intro w; go_simp; try with_reducible rfl)
        refine wpAny_take (i := 15) (v := ?_) rfl (by kernel_rfl) (by kernel_rfl) (by kernel_rfl) (fun _ _ _ h => h) (Or.inl ⟨by rfl, ?_⟩) ?_
        rotate_left
        · (intro w; go_simp; try with_reducible rfl)
        refine wpAny_ready (rs := [16]) (by kernel_rfl) (by simp) ?_
        refine AllReady.cons rfl (fun K hK => ?_) ?_
        · go_simp
          exact ⟨rfl, s5, rfl, hb1⟩
        exact AllReady.nil
      exact AllReady.nil
    exact AllReady.nil
  refine AllReady.cons rfl (fun K hK => ?_) ?_
  · go_simp
    refine hK _ _ ?_
    clear hK K
    refine wpAny_ready (rs := [3]) (by kernel_rfl) (by simp) ?_
    refine AllReady.cons rfl (fun K hK => ?_) ?_
    · go_simp
      refine hK _ _ ?_
      clear hK K
      refine wpAny_ready (rs := [4]) (by kernel_rfl) (by simp) ?_
      refine AllReady.cons rfl (fun K hK => ?_) ?_
      · go_simp
        go_at_call 67
        refine (hIt.out _ ((Fr.drew NoB w).below_top)).mono ?_
        rintro e w1 ⟨rfl, k, os, hw1⟩
        have hb1 : Below w.heap.size w w1 := by rw [hw1]; exact ((Fr.drew NoB w).below_top).trans (grow_below w.drew k os)
        have d0 := (hC.out _ hb1).1
        have d1 := (hC.out _ hb1).2
        clear hw1
        refine hK _ _ ?_
        clear hK K
        refine wpAny_take (i := 5) (v := ?_) rfl (by kernel_rfl) (by kernel_rfl) (by kernel_rfl) (fun _ _ _ h => h) (Or.inl ⟨by rfl, ?_⟩) ?_
        rotate_left
        · (intro w; go_simp; try with_reducible rfl)
        refine wpAny_take (i := 6) (v := ?_) rfl (by kernel_rfl) (by kernel_rfl) (by kernel_rfl) (fun _ _ _ h => h) (Or.inl ⟨by rfl, ?_⟩) ?_
        rotate_left
        · (intro w; go_simp; try with_reducible rfl)
        refine wpAny_take (i := 8) (v := ?_) rfl (by kernel_rfl) (by kernel_rfl) (by kernel_rfl) (fun _ _ _ h => h) (Or.inl ⟨by rfl, ?_⟩) ?_
        rotate_left
        · (intro w; go_simp; try with_reducible rfl)
        refine wpAny_take (i := 9) (v := ?_) rfl (by kernel_rfl) (by kernel_rfl) (by kernel_rfl) (fun _ _ _ h => h) (Or.inl ⟨by rfl, ?_⟩) ?_
        rotate_left
        · (intro w; go_simp; try with_reducible rfl)
        refine wpAny_take (i := 14) (v := ?_) rfl (by kernel_rfl) (by kernel_rfl) (by kernel_rfl) (fun _ _ _ h => h) (Or.inl ⟨by rfl, ?_⟩) ?_
        rotate_left
        · (intro w; go_simp; try with_reducible rfl)
        refine wpAny_take (i := 15) (v := ?_) rfl (by kernel_rfl) (by kernel_rfl) (by kernel_rfl) (fun _ _ _ h => h) (Or.inl ⟨by rfl, ?_⟩) ?_
        rotate_left
        · (intro w; go_simp; try with_reducible rfl)
        refine wpAny_ready (rs := [16]) (by kernel_rfl) (by simp) ?_
        refine AllReady.cons rfl (fun K hK => ?_) ?_
        · go_simp
          exact ⟨rfl, s5, rfl, hb1⟩
        exact AllReady.nil
      exact AllReady.nil
    exact AllReady.nil
  exact AllReady.nil
end Go.Proofs.YthpfladpbfbpjaaDoor

/- TransitiveReduction: what the call does to the graph, as a function on lists. -/
namespace Go.Proofs.YthpfladpbfbpjaaDoor
open Go.RowKit

theorem delEdge_rep {w : World} {F : Nat → Prop} {g : Nat} {G : Gr} {na : Option Addr} {nc mb me : Nat} {rs : List Nat} (s t : Str) (h : GRep w F g G na nc mb me rs) (hs : s ∈ names G) :
    Calls Tryd.prog 55 #[.pointer (some ⟨g, 0, none⟩), .string s, .string t] w fun e w' => e = .returned (.tuple #[]) ∧ GRep w' F g (delE G s t) na nc mb me rs ∧ Fr F w w' := by
  obtain ⟨i, hi, rfl⟩ := names_at hs
  clear hs
  have hi' : i < rs.length := by rw [h.len]; exact hi
  have hc := h.cell2
  have hl := h.tbl.look Tryd.underlying67 Tryd.underlying9 (zeroM w) G[i].1
  rw [h.lookR i hi hi', Option.getD_some] at hl
  obtain ⟨w1, hu, hm, hf⟩ := (h.sets i hi' hi).drop Tryd.underlying88 Tryd.underlying9 t 0 9
  rw [adel_setOf] at hm
  have hres : GRep w1 F g (delE G G[i].1 t) na nc mb me rs := by
    unfold delE
    rw [setE_at h.nodup i hi]
    exact h.upd i hi hi' _ hm hf
  have hfr : Fr F w w1 := hf.mono (fun b _ e => by subst e; exact h.fr _ (List.getElem_mem hi'))
  have HR := Lib.hid hres; clear hres
  have HM := Lib.hid hm; clear hm
  clear h hf
  go_enter Tryd.func55, Tryd.ntmps55
  go_wp2
  go_end0
  exact ⟨rfl, HR.out, hfr⟩
theorem GRep.at {w : World} {F : Nat → Prop} {g : Nat} {G : Gr} {na : Option Addr} {nc mb me : Nat} {rs : List Nat} (h : GRep w F g G na nc mb me rs) : GraphAt w F g G := ⟨na, nc, mb, me, rs, h⟩

def kstep (i j : Str) (G : Gr) (k : Str) : Gr := if hasE G j k then delE G i k else G
def jstep (ns : List Str) (i : Str) (G : Gr) (j : Str) : Gr := if hasE G i j then ns.foldl (kstep i j) G else G
def istep (ns : List Str) (G : Gr) (i : Str) : Gr := ns.foldl (jstep ns i) G
def reduceG (ns : List Str) (G : Gr) : Gr := ns.foldl (istep ns) G
theorem names_delE (G : Gr) (s t : Str) : names (delE G s t) = names G := names_setE G s (del t)
theorem foldl_takeR {α β : Type} (f : β → α → β) (b : β) (l : List α) (k : Nat) (hk : k < l.length) : (l.take (k + 1)).foldl f b = f ((l.take k).foldl f b) l[k] := by
  rw [List.take_succ_eq_append_getElem hk, List.foldl_append]
  rfl

theorem reduce_calls {w : World} {F : Nat → Prop} {g : Nat} {G : Gr} (h : GraphAt w F g G) (hsm : G.length ≤ 1048576) :
    Calls Tryd.prog 43 #[.pointer (some ⟨g, 0, none⟩)] w fun e w' => e = .returned (.tuple #[]) ∧ GraphAt w' F g (reduceG (names G) G) ∧ Fr F w w' := by
  obtain ⟨na, nc, mb, me, rs, h⟩ := h
  obtain ⟨ns, hns⟩ : ∃ ns, names G = ns := ⟨_, rfl⟩
  have hlen : G.length = ns.length := by rw [← hns]; simp
  have hnl : ns.length ≤ 1048576 := by omega
  have hc0 := h.cell0
  rw [hlen] at hc0
  rw [hns]
  have HNS := Lib.hid hns
  have HG := Lib.hid h
  clear hns hlen hsm h
  -- what holds of a graph on the way
  have hfacts : Hid (∀ (G' : Gr) (wr : World), GRep wr F g G' na nc mb me rs → names G' = ns → wr.cell? ⟨g, 0, none⟩ = some (.slice na ns.length nc) ∧ Sl encS 1 wr na nc ns) := Lib.hid (fun G' wr hr hn => by
    have h1 := hr.cell0
    have h2 : G'.length = ns.length := by rw [← hn]; simp
    rw [h2] at h1
    refine ⟨h1, ?_⟩
    have := hr.nodes.sl encS_len
    rwa [hn] at this)
  go_enter Tryd.func43, Tryd.ntmps43
  go_wp2
  go_loopg [13] ns.length (fun gk i wr => ∃ (k : Nat) (G' : Gr), k ≤ ns.length ∧ gk = ns.length - k ∧ i = .int .i64 k ∧ Hid (GRep wr F g G' na nc mb me rs) ∧ Hid (names G' = ns) ∧ Hid (G' = (ns.take k).foldl (istep ns) G) ∧ Fr F w wr)
  case atStart => exact ⟨0, G, Nat.zero_le _, by omega, rfl, HG, HNS, Lib.hid (by simp), Fr.refl _ _⟩
  case round =>
    clear hc0
    obtain ⟨k1, G1, hk1, rfl, rfl, HR1, HN1, HE1, hf1⟩ := hrel
    have hft := hfacts.out G1 wr HR1.out HN1.out
    have hcg := hft.1
    by_cases hlt1 : k1 < ns.length
    · obtain ⟨bb, off, rfl, h1⟩ := hft.2.s1 hlt1
      have hnx := foldl_takeR (istep ns) G ns k1 hlt1
      rw [← HE1.out] at hnx
      have hin : Hid (ns[k1] ∈ ns) := Lib.hid (List.getElem_mem hlt1)
      generalize ns[k1] = s1 at *
      have HNX1 := Lib.hid hnx; clear hnx
      clear hft
      obtain ⟨wo, rfl⟩ : ∃ wo : World, wo = wr := ⟨_, rfl⟩
      go_wp2
      go_loopg [22] ns.length (fun gk i wr => ∃ (k : Nat) (G' : Gr), k ≤ ns.length ∧ gk = ns.length - k ∧ i = .int .i64 k ∧ Hid (GRep wr F g G' (some ⟨bb, off, none⟩) nc mb me rs) ∧ Hid (names G' = ns) ∧ Hid (G' = (ns.take k).foldl (jstep ns s1) G1) ∧ Fr F w wr)
      case atStart => exact ⟨0, G1, Nat.zero_le _, by omega, rfl, HR1, HN1, Lib.hid (by simp), hf1⟩
      case round =>
        clear hcg h1
        obtain ⟨k2, G2, hk2, rfl, rfl, HR2, HN2, HE2, hf2⟩ := hrel
        have hft := hfacts.out G2 wr HR2.out HN2.out
        have hcg := hft.1
        by_cases hlt2 : k2 < ns.length
        · obtain ⟨bb', off', hbb, h1⟩ := hft.2.s1 hlt2
          simp only [Option.some.injEq, Addr.mk.injEq] at hbb
          obtain ⟨rfl, rfl, _⟩ := hbb
          have hnx := foldl_takeR (jstep ns s1) G1 ns k2 hlt2
          rw [← HE2.out] at hnx
          generalize ns[k2] = s2 at *
          clear hft
          obtain ⟨wp, rfl⟩ : ∃ wp : World, wp = wr := ⟨_, rfl⟩
          by_cases hy : hasE G2 s1 s2 = true
          · have hq : (ns.take (k2 + 1)).foldl (jstep ns s1) G1 = ns.foldl (kstep s1 s2) G2 := by rw [hnx, jstep, if_pos hy]
            have HQ2 := Lib.hid hq; clear hq
            clear hnx
            go_wp2_with (go_at_call 51; refine (hasEdge_calls _ _ HR2.out.at).mono ?_; rintro e w' ⟨rfl, rfl⟩)
            go_loopg [35] ns.length (fun gk i wr => ∃ (k : Nat) (G' : Gr), k ≤ ns.length ∧ gk = ns.length - k ∧ i = .int .i64 k ∧ Hid (GRep wr F g G' (some ⟨bb, off, none⟩) nc mb me rs) ∧ Hid (names G' = ns) ∧ Hid (G' = (ns.take k).foldl (kstep s1 s2) G2) ∧ Fr F w wr)
            case atStart => exact ⟨0, G2, Nat.zero_le _, by omega, rfl, HR2, HN2, Lib.hid (by simp), hf2⟩
            case round =>
              clear hcg h1 hy
              obtain ⟨k3, G3, hk3, rfl, rfl, HR3, HN3, HE3, hf3⟩ := hrel
              have hft := hfacts.out G3 wr HR3.out HN3.out
              by_cases hlt3 : k3 < ns.length
              · obtain ⟨bb', off', hbb, h1⟩ := hft.2.s1 hlt3
                simp only [Option.some.injEq, Addr.mk.injEq] at hbb
                obtain ⟨rfl, rfl, _⟩ := hbb
                have hnx := foldl_takeR (kstep s1 s2) G2 ns k3 hlt3
                rw [← HE3.out] at hnx
                generalize ns[k3] = s3 at *
                clear hft
                by_cases hy3 : hasE G3 s2 s3 = true
                · have hq : (ns.take (k3 + 1)).foldl (kstep s1 s2) G2 = delE G3 s1 s3 := by rw [hnx, kstep, if_pos hy3]
                  have hin3 : s1 ∈ names G3 := by rw [HN3.out]; exact hin.out
                  have HQ3 := Lib.hid hq; clear hq
                  have HIN3 := Lib.hid hin3; clear hin3
                  clear hnx
                  go_wp2_with (first
                    | (go_at_call 51; refine (hasEdge_calls _ _ HR3.out.at).mono ?_; rintro e w' ⟨rfl, rfl⟩)
                    | (go_at_call 55; refine (delEdge_rep _ _ HR3.out HIN3.out).mono ?_; rintro e w4 ⟨rfl, hr4, hf4⟩; have HR4 := Lib.hid hr4; clear hr4))
                  go_roundg (ns.length - (k3 + 1))
                  case measure => omega
                  case rel => exact ⟨k3 + 1, _, by omega, rfl, by go_num, HR4, Lib.hid (by rw [names_delE]; exact HN3.out), Lib.hid HQ3.out.symm, hf3.trans hf4 (fun _ _ e => e)⟩
                · have hq : (ns.take (k3 + 1)).foldl (kstep s1 s2) G2 = G3 := by rw [hnx, kstep, if_neg hy3]
                  have hy3' : hasE G3 s2 s3 = false := by simpa using hy3
                  clear hy3
                  have HQ3 := Lib.hid hq; clear hq
                  clear hnx
                  go_wp2_with (go_at_call 51; refine (hasEdge_calls _ _ HR3.out.at).mono ?_; rintro e w' ⟨rfl, rfl⟩)
                  go_roundg (ns.length - (k3 + 1))
                  case measure => omega
                  case rel => exact ⟨k3 + 1, _, by omega, rfl, by go_num, HR3, HN3, Lib.hid HQ3.out.symm, hf3⟩
              · have hq : G3 = (ns.take (k2 + 1)).foldl (jstep ns s1) G1 := by rw [HE3.out, List.take_of_length_le (by omega), HQ2.out]
                have HQ3 := Lib.hid hq; clear hq
                clear hft
                go_wp2
                go_roundg (ns.length - (k2 + 1))
                case measure => omega
                case rel => exact ⟨k2 + 1, G3, by omega, rfl, by go_num, HR3, HN3, HQ3, hf3⟩
          · have hq : (ns.take (k2 + 1)).foldl (jstep ns s1) G1 = G2 := by rw [hnx, jstep, if_neg hy]
            have hy' : hasE G2 s1 s2 = false := by simpa using hy
            clear hy
            have HQ2 := Lib.hid hq; clear hq
            clear hnx
            go_wp2_with (go_at_call 51; refine (hasEdge_calls _ _ HR2.out.at).mono ?_; rintro e w' ⟨rfl, rfl⟩)
            go_roundg (ns.length - (k2 + 1))
            case measure => omega
            case rel => exact ⟨k2 + 1, G2, by omega, rfl, by go_num, HR2, HN2, Lib.hid HQ2.out.symm, hf2⟩
        · have hq : G2 = (ns.take (k1 + 1)).foldl (istep ns) G := by rw [HE2.out, List.take_of_length_le (by omega), HNX1.out]; rfl
          have HQ2 := Lib.hid hq; clear hq
          clear hft
          go_wp2
          go_roundg (ns.length - (k1 + 1))
          case measure => omega
          case rel => exact ⟨k1 + 1, G2, by omega, rfl, by go_num, HR2, HN2, HQ2, hf2⟩
    · have hq : G1 = reduceG ns G := by rw [HE1.out, List.take_of_length_le (by omega)]; rfl
      have HQ1 := Lib.hid hq; clear hq
      clear hft
      go_wp2
      go_end0
      exact ⟨rfl, by rw [← HQ1.out]; exact HR1.out.at, hf1⟩
end Go.Proofs.YthpfladpbfbpjaaDoor

/- Plain laws of the reduction: of closed edges that all lead one way just those are left between which there is no node. No program in sight. -/
namespace Go.Proofs.YthpfladpbfbpjaaDoor

theorem kfold_law {G0 : Gr} (hg : GoodG G0) {i j : Str} (hij : j ≠ i) (ks : List Str) :
    GoodG (ks.foldl (kstep i j) G0) ∧ names (ks.foldl (kstep i j) G0) = names G0 ∧ ∀ a b, hasE (ks.foldl (kstep i j) G0) a b = true ↔ hasE G0 a b = true ∧ ¬ (a = i ∧ b ∈ ks ∧ hasE G0 j b = true) := by
  refine snoc_ind (P := fun ks => GoodG (ks.foldl (kstep i j) G0) ∧ names (ks.foldl (kstep i j) G0) = names G0 ∧ ∀ a b, hasE (ks.foldl (kstep i j) G0) a b = true ↔ hasE G0 a b = true ∧ ¬ (a = i ∧ b ∈ ks ∧ hasE G0 j b = true)) ?_ ?_ ks
  · exact ⟨hg, rfl, fun a b => by simp⟩
  · rintro l x ⟨h1, h2, h3⟩
    rw [List.foldl_append]
    show GoodG (kstep i j (l.foldl (kstep i j) G0) x) ∧ names (kstep i j (l.foldl (kstep i j) G0) x) = names G0 ∧ ∀ a b, hasE (kstep i j (l.foldl (kstep i j) G0) x) a b = true ↔ hasE G0 a b = true ∧ ¬ (a = i ∧ b ∈ l ++ [x] ∧ hasE G0 j b = true)
    generalize l.foldl (kstep i j) G0 = Gk at *
    have hjx : ∀ b, hasE Gk j b = true ↔ hasE G0 j b = true := fun b => by
      rw [h3]
      exact ⟨fun h => h.1, fun h => ⟨h, fun hh => hij hh.1⟩⟩
    unfold kstep
    by_cases hy : hasE Gk j x = true
    · rw [if_pos hy]
      refine ⟨goodG_delE h1, by rw [names_delE]; exact h2, fun a b => ?_⟩
      rw [hasE_delE h1, h3]
      constructor
      · rintro ⟨⟨p1, p2⟩, p3⟩
        refine ⟨p1, fun ⟨q1, q2, q3⟩ => ?_⟩
        rcases List.mem_append.1 q2 with q2 | q2
        · exact p2 ⟨q1, q2, q3⟩
        · simp at q2; exact p3 ⟨q1, q2⟩
      · rintro ⟨p1, p2⟩
        refine ⟨⟨p1, fun ⟨q1, q2, q3⟩ => p2 ⟨q1, List.mem_append_left _ q2, q3⟩⟩, fun ⟨q1, q2⟩ => p2 ⟨q1, by simp [q2], ?_⟩⟩
        rw [q2, ← hjx]
        exact hy
    · rw [if_neg hy]
      refine ⟨h1, h2, fun a b => ?_⟩
      rw [h3]
      constructor
      · rintro ⟨p1, p2⟩
        refine ⟨p1, fun ⟨q1, q2, q3⟩ => ?_⟩
        rcases List.mem_append.1 q2 with q2 | q2
        · exact p2 ⟨q1, q2, q3⟩
        · simp at q2
          subst q2
          exact hy ((hjx _).2 q3)
      · rintro ⟨p1, p2⟩
        exact ⟨p1, fun ⟨q1, q2, q3⟩ => p2 ⟨q1, List.mem_append_left _ q2, q3⟩⟩

structure RowInv (ns : List Str) (G1 G2 : Gr) (i : Str) (E : Str → Str → Prop) (J : Str → Prop) (k : Nat) : Prop where
  good : GoodG G2
  nms : names G2 = names G1
  far : ∀ a b, a ≠ i → (hasE G2 a b = true ↔ hasE G1 a b = true)
  sound : ∀ b, hasE G2 i b = true → E i b
  keep : ∀ b, E i b → (¬ ∃ n, E i n ∧ E n b) → hasE G2 i b = true
  gone : ∀ m (hm : m < ns.length), m < k → J ns[m] → ∀ b, hasE G1 ns[m] b = true → ¬ hasE G2 i b = true
  wait : ∀ m (hm : m < ns.length), k ≤ m → J ns[m] → hasE G2 i ns[m] = true

theorem row_loop {ns : List Str} {G1 : Gr} {i : Str} {E : Str → Str → Prop} {J : Str → Prop} (hg : GoodG G1)
    (h1 : ∀ a b, hasE G1 a b = true → E a b) (hrow : ∀ b, E i b → hasE G1 i b = true) (hirr : ∀ a, ¬ E a a) (hends : ∀ a b, E a b → b ∈ ns)
    (hJE : ∀ j, J j → E i j) (hJ : ∀ k m (hk : k < ns.length) (hm : m < ns.length), k < m → J ns[m] → E i ns[k] → E ns[k] ns[m] → False) :
    ∀ k, k ≤ ns.length → RowInv ns G1 ((ns.take k).foldl (jstep ns i) G1) i E J k := by
  intro k
  induction k with
  | zero =>
    intro _
    exact ⟨hg, rfl, fun _ _ _ => Iff.rfl, fun b h => h1 _ _ h, fun b h _ => hrow b h, fun m _ hm => by omega, fun m hm _ hj => hrow _ (hJE _ hj)⟩
  | succ k ih =>
    intro hk
    have I := ih (by omega)
    have hlt : k < ns.length := by omega
    rw [foldl_takeR _ _ _ _ hlt]
    generalize (ns.take k).foldl (jstep ns i) G1 = G2 at *
    unfold jstep
    by_cases hy : hasE G2 i ns[k] = true
    · rw [if_pos hy]
      have hE := I.sound _ hy
      have hne : ns[k] ≠ i := fun e => hirr i (by rw [e] at hE; exact hE)
      obtain ⟨g1, g2, g3⟩ := kfold_law I.good hne ns
      have hrow2 : ∀ b, hasE G2 ns[k] b = true ↔ hasE G1 ns[k] b = true := fun b => I.far _ b hne
      refine ⟨g1, g2.trans I.nms, fun a b hab => ?_, fun b hb => ?_, fun b hb hc => ?_, fun m hm hmk hj b hb => ?_, fun m hm hmk hj => ?_⟩
      · rw [g3, I.far a b hab]
        exact ⟨fun h => h.1, fun h => ⟨h, fun hh => hab hh.1⟩⟩
      · exact I.sound b ((g3 _ _).1 hb).1
      · refine (g3 _ _).2 ⟨I.keep b hb hc, fun hh => hc ⟨_, hE, h1 _ _ ((hrow2 b).1 hh.2.2)⟩⟩
      · intro h
        obtain ⟨q1, q2⟩ := (g3 _ _).1 h
        by_cases e : m = k
        · subst e
          exact q2 ⟨rfl, hends _ _ (h1 _ _ hb), (hrow2 b).2 hb⟩
        · exact I.gone m hm (by omega) hj b hb q1
      · refine (g3 _ _).2 ⟨I.wait m hm (by omega) hj, fun hh => hJ k m hlt hm (by omega) hj hE (h1 _ _ ((hrow2 _).1 hh.2.2))⟩
    · rw [if_neg hy]
      refine ⟨I.good, I.nms, I.far, I.sound, I.keep, fun m hm hmk hj b hb => ?_, fun m hm hmk hj => I.wait m hm (by omega) hj⟩
      by_cases e : m = k
      · subst e
        exact absurd (I.wait m hm (Nat.le_refl _) hj) hy
      · exact I.gone m hm (by omega) hj b hb

theorem row_done {ns : List Str} {G1 : Gr} {i : Str} {E : Str → Str → Prop} {J : Str → Prop} (hg : GoodG G1)
    (h1 : ∀ a b, hasE G1 a b = true → E a b) (hrow : ∀ b, E i b → hasE G1 i b = true) (hirr : ∀ a, ¬ E a a) (hends : ∀ a b, E a b → b ∈ ns)
    (hJE : ∀ j, J j → E i j) (hJ : ∀ k m (hk : k < ns.length) (hm : m < ns.length), k < m → J ns[m] → E i ns[k] → E ns[k] ns[m] → False)
    (hfin : ∀ b, E i b → (∃ n, E i n ∧ E n b) → ∃ j, J j ∧ hasE G1 j b = true) :
    GoodG (istep ns G1 i) ∧ names (istep ns G1 i) = names G1 ∧ (∀ a b, a ≠ i → (hasE (istep ns G1 i) a b = true ↔ hasE G1 a b = true)) ∧ ∀ b, hasE (istep ns G1 i) i b = true ↔ E i b ∧ ¬ ∃ n, E i n ∧ E n b := by
  have I := row_loop hg h1 hrow hirr hends hJE hJ ns.length (Nat.le_refl _)
  rw [List.take_length] at I
  refine ⟨I.good, I.nms, I.far, fun b => ⟨fun h => ⟨I.sound b h, fun hc => ?_⟩, fun h => I.keep b h.1 h.2⟩⟩
  obtain ⟨j, hj, hjb⟩ := hfin b (I.sound b h) hc
  obtain ⟨m, hm, rfl⟩ := List.mem_iff_getElem.1 (hends _ _ (hJE j hj))
  exact I.gone m hm hm hj b hjb h

theorem pivot_ahead {E : Str → Str → Prop} {d : Str → Nat} (htr : ∀ a m b, E a m → E m b → E a b) (hd : ∀ a b, E a b → d b < d a) {i b : Str} :
    ∀ (N : Nat) (n : Str), d n ≤ N → E i n → E n b → ∃ j, E i j ∧ E j b ∧ ¬ ∃ m, E j m ∧ E m b := by
  intro N
  induction N with
  | zero =>
    intro n hn h1 h2
    have := hd _ _ h2
    omega
  | succ N ih =>
    intro n hn h1 h2
    by_cases hc : ∃ m, E n m ∧ E m b
    · obtain ⟨m, hm1, hm2⟩ := hc
      have := hd _ _ hm1
      exact ih m (by omega) (htr _ _ _ h1 hm1) hm2
    · exact ⟨n, h1, h2, hc⟩
theorem pivot_behind {E : Str → Str → Prop} {d : Str → Nat} (htr : ∀ a m b, E a m → E m b → E a b) (hd : ∀ a b, E a b → d a < d b) {i b : Str} :
    ∀ (N : Nat) (n : Str), d n ≤ N → E i n → E n b → ∃ j, (E i j ∧ ¬ ∃ m, E i m ∧ E m j) ∧ E j b := by
  intro N
  induction N with
  | zero =>
    intro n hn h1 h2
    have := hd _ _ h1
    omega
  | succ N ih =>
    intro n hn h1 h2
    by_cases hc : ∃ m, E i m ∧ E m n
    · obtain ⟨m, hm1, hm2⟩ := hc
      have := hd _ _ hm2
      exact ih m (by omega) hm1 (htr _ _ _ hm2 h2)
    · exact ⟨n, ⟨h1, hc⟩, h2⟩

theorem mem_take_idx {ns : List Str} {k : Nat} {a : Str} (ha : a ∈ ns) (hl : ns.idxOf a < k) : a ∈ ns.take k := by
  have hi : ns.idxOf a < ns.length := List.idxOf_lt_length_iff.2 ha
  rw [List.mem_iff_getElem]
  exact ⟨ns.idxOf a, by simp; omega, by simp⟩
theorem take_idx {ns : List Str} (hnd : ns.Nodup) {k : Nat} {a : Str} (ha : a ∈ ns.take k) : ns.idxOf a < k := by
  obtain ⟨j, hj, rfl⟩ := List.mem_iff_getElem.1 ha
  simp only [List.length_take] at hj
  rw [List.getElem_take, hnd.idxOf_getElem j (by omega)]
  omega

/-- THE PLAIN LAW: E the edges of G, closed, all one way in the list of nodes. -/
theorem reduceG_law {G : Gr} {ns : List Str} (hns : names G = ns) (hg : GoodG G) (hcl : ∀ a b, hasE G a b = true → b ∈ ns) (htr : ∀ a m b, hasE G a m = true → hasE G m b = true → hasE G a b = true)
    (hway : (∀ a b, hasE G a b = true → ns.idxOf b < ns.idxOf a) ∨ (∀ a b, hasE G a b = true → ns.idxOf a < ns.idxOf b)) :
    GoodG (reduceG ns G) ∧ names (reduceG ns G) = ns ∧ ∀ a b, hasE (reduceG ns G) a b = true ↔ hasE G a b = true ∧ ¬ ∃ n, hasE G a n = true ∧ hasE G n b = true := by
  have hnd : ns.Nodup := by rw [← hns]; exact hg.1
  obtain ⟨E, hE⟩ : ∃ E : Str → Str → Prop, E = fun a b => hasE G a b = true := ⟨_, rfl⟩
  have hEe : ∀ a b, hasE G a b = true ↔ E a b := fun a b => by rw [hE]
  simp only [hEe] at hcl htr hway ⊢
  have hirr : ∀ a, ¬ E a a := fun a h => by
    rcases hway with hw | hw
    · have := hw _ _ h; omega
    · have := hw _ _ h; omega
  have hstart : ∀ a b, E a b → a ∈ ns := fun a b h => by rw [← hns]; exact hasE_names ((hEe a b).2 h)
  have key : ∀ k, k ≤ ns.length → GoodG ((ns.take k).foldl (istep ns) G) ∧ names ((ns.take k).foldl (istep ns) G) = ns ∧
      (∀ a b, a ∈ ns.take k → (hasE ((ns.take k).foldl (istep ns) G) a b = true ↔ E a b ∧ ¬ ∃ n, E a n ∧ E n b)) ∧
      (∀ a b, a ∉ ns.take k → (hasE ((ns.take k).foldl (istep ns) G) a b = true ↔ E a b)) := by
    intro k
    induction k with
    | zero =>
      intro _
      exact ⟨hg, hns, fun a b h => by simp at h, fun a b _ => hEe a b⟩
    | succ k ih =>
      intro hk
      obtain ⟨g1, g2, g3, g4⟩ := ih (by omega)
      have hlt : k < ns.length := by omega
      rw [foldl_takeR _ _ _ _ hlt]
      generalize (ns.take k).foldl (istep ns) G = G1 at *
      have hni : ns[k] ∉ ns.take k := ((nodup_take_succ hlt).1 (nodup_take (k + 1) hnd)).2
      have hik : ns.idxOf ns[k] = k := hnd.idxOf_getElem k hlt
      have h1 : ∀ a b, hasE G1 a b = true → E a b := fun a b h => by
        by_cases ha : a ∈ ns.take k
        · exact ((g3 a b ha).1 h).1
        · exact (g4 a b ha).1 h
      have hrow : ∀ b, E ns[k] b → hasE G1 ns[k] b = true := fun b h => (g4 _ b hni).2 h
      have done : GoodG (istep ns G1 ns[k]) ∧ names (istep ns G1 ns[k]) = names G1 ∧ (∀ a b, a ≠ ns[k] → (hasE (istep ns G1 ns[k]) a b = true ↔ hasE G1 a b = true)) ∧ ∀ b, hasE (istep ns G1 ns[k]) ns[k] b = true ↔ E ns[k] b ∧ ¬ ∃ n, E ns[k] n ∧ E n b := by
        rcases hway with hw | hw
        · refine row_done (J := fun j => E ns[k] j) g1 h1 hrow hirr hcl (fun _ h => h) ?_ ?_
          · intro p q hp hq hpq _ _ hE2
            have := hw _ _ hE2
            rw [hnd.idxOf_getElem p hp, hnd.idxOf_getElem q hq] at this
            omega
          · rintro b hb ⟨n, hn1, hn2⟩
            obtain ⟨j, hj1, hj2, hj3⟩ := pivot_ahead htr hw _ n (Nat.le_refl _) hn1 hn2
            refine ⟨j, hj1, (g3 j b ?_).2 ⟨hj2, hj3⟩⟩
            refine mem_take_idx (hcl _ _ hj1) ?_
            have := hw _ _ hj1
            omega
        · refine row_done (J := fun j => E ns[k] j ∧ ¬ ∃ m, E ns[k] m ∧ E m j) g1 h1 hrow hirr hcl (fun _ h => h.1) ?_ ?_
          · intro p q hp hq hpq hJ hE1 hE2
            exact hJ.2 ⟨_, hE1, hE2⟩
          · rintro b hb ⟨n, hn1, hn2⟩
            obtain ⟨j, hj1, hj2⟩ := pivot_behind htr hw _ n (Nat.le_refl _) hn1 hn2
            refine ⟨j, hj1, (g4 j b ?_).2 hj2⟩
            intro hm
            have h2 := take_idx hnd hm
            have := hw _ _ hj1.1
            omega
      obtain ⟨d1, d2, d3, d4⟩ := done
      refine ⟨d1, d2.trans g2, fun a b ha => ?_, fun a b ha => ?_⟩
      · by_cases e : a = ns[k]
        · subst e; exact d4 b
        · rw [d3 a b e]
          refine g3 a b ?_
          rcases (mem_take_succ hlt).1 ha with h | h
          · exact h
          · exact absurd h e
      · have e : a ≠ ns[k] := fun e => ha ((mem_take_succ hlt).2 (.inr e))
        rw [d3 a b e]
        exact g4 a b (fun h => ha ((mem_take_succ hlt).2 (.inl h)))
  obtain ⟨g1, g2, g3, g4⟩ := key ns.length (Nat.le_refl _)
  rw [List.take_length] at g1 g2 g3 g4
  refine ⟨g1, g2, fun a b => ?_⟩
  by_cases ha : a ∈ ns
  · exact g3 a b ha
  · constructor
    · intro h; exact absurd (hstart _ _ ((g4 a b ha).1 h)) ha
    · intro h; exact absurd (hstart _ _ h.1) ha
end Go.Proofs.YthpfladpbfbpjaaDoor

/- Edges of a graph: the ends of a node's edges, in the order of the nodes. -/
namespace Go.Proofs.YthpfladpbfbpjaaDoor
open Go.RowKit Go.Sort

def ix (ns : List Str) (x : Str) : Int := if x ∈ ns then (ns.idxOf x : Nat) else 0
theorem ix_at {ns : List Str} (h : ns.Nodup) {i : Nat} (hi : i < ns.length) : ix ns ns[i] = (i : Int) := by
  unfold ix
  rw [if_pos (List.getElem_mem hi), h.idxOf_getElem i hi]
theorem GRep.lookIx {w : World} {F : Nat → Prop} {g : Nat} {G : Gr} {na : Option Addr} {nc mb me : Nat} {rs : List Nat} (h : GRep w F g G na nc mb me rs) (x : Str) :
    (aget x (idxOf (names G))).getD (.int .i64 0) = .int .i64 (ix (names G) x) := by
  by_cases hx : x ∈ names G
  · obtain ⟨i, hi, rfl⟩ := names_at hx
    rw [h.lookI i hi]
    have := ix_at h.nodup (i := i) (by simpa using hi)
    simp only [List.getElem_map] at this
    rw [this]
    rfl
  · rw [h.lookI_none x hx, ix, if_neg hx]
    rfl

theorem fr_sortWorld (enc : Str → Value) (w : World) (b off m : Nat) (d : Array Str) (os : Array Obj) : Fr (fun k => k = b) w (sortWorld enc w b off m d os) := by
  refine ⟨rfl, rfl, rfl, ?_, fun k hk hn => ?_⟩
  · show w.heap.size ≤ ((w.heap.modify b (onCells (putCells enc off d))) ++ os).size
    simp
  · show ((w.heap.modify b (onCells (putCells enc off d))) ++ os)[k]? = w.heap[k]?
    rw [Array.getElem?_append_left (by simpa using hk), Array.getElem?_modify, if_neg (fun e => hn e.symm)]

theorem closure_calls {W : World} {F : Nat → Prop} {g c0 : Nat} {G : Gr} (x y : Str) (h : GraphAt W F g G) (hc : W.cell? ⟨c0, 0, none⟩ = some (.pointer (some ⟨g, 0, none⟩))) :
    Calls Tryd.prog 64 #[.string x, .string y, .pointer (some ⟨c0, 0, none⟩)] W fun e w' => e = .returned (.int .i64 (Lib.compareInt (ix (names G) x) (ix (names G) y))) ∧ ∃ q, w' = W.drewN q := by
  obtain ⟨na, nc, mb, me, rs, h⟩ := h
  have hc1 := h.cell1
  have hl1 : ∀ n, (Instr.lookup 66 (.map (some mb)) (.string x) false).run Tryd.prog (W.drewN n) = .ok (.int .i64 (ix (names G) x)) (W.drewN n) := fun n => by
    rw [(h.idx.drewN n).look Tryd.underlying66 Tryd.underlying9 (zeroI _) x, h.lookIx]
  have hl2 : ∀ n, (Instr.lookup 66 (.map (some mb)) (.string y) false).run Tryd.prog (W.drewN n) = .ok (.int .i64 (ix (names G) y)) (W.drewN n) := fun n => by
    rw [(h.idx.drewN n).look Tryd.underlying66 Tryd.underlying9 (zeroI _) y, h.lookIx]
  have hcmp := fun (W : World) => AnyG.cmp_Compare_int Tryd.cmpL (ix (names G) x) (ix (names G) y) W
  clear h
  generalize ix (names G) x = i at *
  generalize ix (names G) y = j at *
  generalize Lib.compareInt i j = r at *
  have HC := Lib.hid hcmp
  clear hcmp
  go_enter Tryd.func64, Tryd.ntmps64
  go_wp2
  go_quiet ((go_at_call 65; exact Calls.quiet_of_same (HC.out _)))
  go_wp2
  go_ret
  exact ⟨rfl, _, rfl⟩

/-- the ends of a node's edges, in the order of the nodes -/
def ends (G : Gr) (s : Str) : List Str := (names G).filter fun t => hasE G s t

theorem ix_inj {ns : List Str} (h : ns.Nodup) {x y : Str} (hx : x ∈ ns) (hy : y ∈ ns) (e : ix ns x = ix ns y) : x = y := by
  obtain ⟨i, hi, rfl⟩ := List.mem_iff_getElem.1 hx
  obtain ⟨j, hj, rfl⟩ := List.mem_iff_getElem.1 hy
  rw [ix_at h hi, ix_at h hj] at e
  have : i = j := by omega
  subst this
  rfl
theorem ix_sorted : ∀ {ns : List Str}, ns.Nodup → ns.Pairwise (fun a b => ix ns a ≤ ix ns b) := by
  intro ns h
  rw [List.pairwise_iff_getElem]
  intro i j hi hj hij
  rw [ix_at h hi, ix_at h hj]
  omega
theorem ltIx (ns : List Str) (x y : Str) : ltOf (fun x y => Lib.compareInt (ix ns x) (ix ns y)) x y = decide (ix ns x < ix ns y) := by
  unfold ltOf Lib.compareInt
  by_cases h1 : ix ns x < ix ns y
  · simp [h1]
  · by_cases h2 : ix ns y < ix ns x <;> simp [h1, h2]
theorem swoIx (ns : List Str) : SWO (ltOf (fun x y => Lib.compareInt (ix ns x) (ix ns y))) where
  irrefl x := by rw [ltIx]; simp
  trans x y z h1 h2 := by rw [ltIx] at *; simp at *; omega
  ntrans x y z h1 h2 := by rw [ltIx] at *; simp at *; omega

theorem perm_of_mem : ∀ {l1 l2 : List Str}, l1.Nodup → l2.Nodup → (∀ x, x ∈ l1 ↔ x ∈ l2) → l1.Perm l2
  | [], l2, _, _, h => by
    have : l2 = [] := by
      cases l2 with
      | nil => rfl
      | cons y r => exact absurd ((h y).2 (by simp)) (by simp)
    rw [this]
  | x :: r, l2, h1, h2, h => by
    have hx : x ∈ l2 := (h x).1 (by simp)
    have hn := List.nodup_cons.1 h1
    refine (List.Perm.cons x (perm_of_mem hn.2 (h2.erase x) fun y => ?_)).trans (List.perm_cons_erase hx).symm
    rw [h2.mem_erase_iff]
    constructor
    · intro hy
      exact ⟨fun e => hn.1 (e ▸ hy), (h y).1 (List.mem_cons_of_mem _ hy)⟩
    · rintro ⟨hne, hy⟩
      rcases List.mem_cons.1 ((h y).2 hy) with e | hy
      · exact absurd e hne
      · exact hy

theorem ends_perm {G : Gr} (hG : GoodG G) {s : Str} (hcl : ∀ a b, hasE G a b = true → b ∈ names G) {i : Nat} (hi : i < G.length) (his : G[i].1 = s) : (ends G s).Perm G[i].2 := by
  refine perm_of_mem (hG.1.sublist List.filter_sublist) (hG.2 _ (List.getElem_mem hi)) fun x => ?_
  unfold ends
  rw [List.mem_filter, ← his]
  have := hasE_at hG.1 i hi x
  rw [this]
  constructor
  · rintro ⟨_, h⟩; simpa using h
  · intro h
    refine ⟨hcl G[i].1 x (by rw [this]; simpa using h), by simpa using h⟩

/-- What the sort leaves is the ends in order. -/
theorem sorted_ends {G : Gr} (hG : GoodG G) {s : Str} (hcl : ∀ a b, hasE G a b = true → b ∈ names G) {i : Nat} (hi : i < G.length) (his : G[i].1 = s) {d : Array Str} {d' : Array Str} (hd : d.toList.Perm G[i].2)
    (hp : PermIn 0 d.size d d') (hs : SortedIn (ltOf (fun x y => Lib.compareInt (ix (names G) x) (ix (names G) y))) 0 d.size d') : d'.toList = ends G s := by
  have hperm : d'.toList.Perm d.toList := by
    have h1 := hp.2.2
    have h2 : d'.extract 0 d.size = d' := by rw [← hp.1]; simp
    have h3 : d.extract 0 d.size = d := by simp
    rwa [h2, h3] at h1
  have hends : (ends G s).Perm G[i].2 := by
    exact ends_perm hG hcl hi his
  have hall := hperm.trans (hd.trans hends.symm)
  refine List.Perm.eq_of_pairwise (le := fun a b => ix (names G) a ≤ ix (names G) b) ?_ ?_ ?_ hall
  · intro a b ha hb h1 h2
    have ha' : a ∈ names G := (List.mem_filter.1 (hall.mem_iff.1 ha)).1
    have hb' : b ∈ names G := (List.mem_filter.1 hb).1
    exact ix_inj hG.1 ha' hb' (by omega)
  · rw [List.pairwise_iff_getElem]
    intro j k hj hk hjk
    have hsz : d'.size = d.size := hp.1
    have h1 := hs j k (Nat.zero_le _) hjk (by rw [← hsz]; simpa using hk)
    rw [ltIx] at h1
    have e1 : d'[j]! = d'.toList[j] := by simp [getElem!_pos, show j < d'.size from by simpa using hj]
    have e2 : d'[k]! = d'.toList[k] := by simp [getElem!_pos, show k < d'.size from by simpa using hk]
    rw [e1, e2] at h1
    simpa using h1
  · exact (ix_sorted hG.1).sublist List.filter_sublist

theorem make16 (w : World) : (Instr.makeSlice 28 (.int .i64 0) (.int .i64 16)).run Tryd.prog w = .ok (.slice (some ⟨w.heap.size, 0, none⟩) 0 16) (w.alloc (.cells (Array.replicate 16 (.string ByteArray.empty)) 9)) := by kernel_rfl

theorem GraphAt.good {w : World} {F : Nat → Prop} {g : Nat} {G : Gr} (h : GraphAt w F g G) : GoodG G := by
  obtain ⟨na, nc, mb, me, rs, h⟩ := h
  refine ⟨h.nodup, fun p hp => ?_⟩
  obtain ⟨i, hi, rfl⟩ := List.mem_iff_getElem.1 hp
  have := (h.sets i (by rw [h.len]; exact hi) hi).nodup
  rwa [setOf_keys] at this

/-- the library's sort at a row of the call's own, by the closure of Edges -/
theorem sort_calls {w : World} {F : Nat → Prop} {g c0 gb cap B : Nat} {G : Gr} {m : List Str} (hG : GraphAt w F g G) (hF : ∀ k, F k → ¬ k = gb) (hc : w.cell? ⟨c0, 0, none⟩ = some (.pointer (some ⟨g, 0, none⟩))) (hcg : ¬ c0 = gb)
    (hown : Own encS 1 w B 9 (some ⟨gb, 0, none⟩) cap m) (hlen : m.length ≤ 1048576) :
    Calls Tryd.prog 63 #[.slice (some ⟨gb, 0, none⟩) m.length cap, .func (.func 64) #[] #[.pointer (some ⟨c0, 0, none⟩)]] w fun e w' => e = .returned (.tuple #[]) ∧
      ∃ d' : Array Str, PermIn 0 m.toArray.size m.toArray d' ∧ SortedIn (ltOf (fun x y => Lib.compareInt (ix (names G) x) (ix (names G) y))) 0 m.toArray.size d' ∧ Sl encS 1 w' (some ⟨gb, 0, none⟩) cap d'.toList ∧ Fr (fun k => k = gb) w w' := by
  have hsl := hown.sl encS_len
  have hgl : gb < w.heap.size := (hown.lt gb rfl).2
  have hH : Holds Value.string w gb 0 m.toArray := by
    intro j hj
    have hj' : j < m.length := by simpa using hj
    obtain ⟨b, off, e, hcell⟩ := hsl.s1 hj'
    simp only [Option.some.injEq, Addr.mk.injEq] at e
    obtain ⟨rfl, rfl, _⟩ := e
    refine ⟨?_, ?_⟩
    · rw [hcell]; simp [getElem!_pos, hj']
    · rw [Nat.zero_add]; exact World.ownsRow.frozenAt hown j
  have eg : ∀ args w, (callFunc 64 args).run Tryd.prog w = .ok (.enter 64 args) w := enters_of Tryd.func64 (by kernel_rfl) rfl
  have hcmp : CmpReads Tryd.prog 64 #[.pointer (some ⟨c0, 0, none⟩)] Value.string (fun x y => Lib.compareInt (ix (names G) x) (ix (names G) y)) gb 0 m.toArray.size w := by
    intro n os dk _ x y
    have hf := fr_sortWorld Value.string w gb 0 n dk os
    exact closure_calls x y (hG.keep hf hF) ((hf.cell (World.block_lt_of_cell? w _ hc) hcg).trans hc)
  have hcon := Any.slices_SortFunc Tryd.sortL Value.string (fun _ => rfl) _ (swoIx (names G)) 64 #[.pointer (some ⟨c0, 0, none⟩)] gb 0 cap m.toArray w eg hcmp.lays hH hgl (by simp; omega)
  have h2 : Calls Tryd.prog 63 #[.slice (some ⟨gb, 0, none⟩) m.toArray.size cap, .func (.func 64) #[] #[.pointer (some ⟨c0, 0, none⟩)]] w _ := hcon
  rw [List.size_toArray] at h2
  refine h2.mono ?_
  rintro e w' ⟨rfl, d', n, os, hp, hs, rfl⟩
  have hsz : d'.size = m.toArray.size := by have := hp.1; simpa using this
  refine ⟨rfl, d', by simpa using hp, by simpa using hs, ?_, fr_sortWorld _ _ _ _ _ _ _⟩
  have hf := fr_sortWorld Value.string w gb 0 n d' os
  have hH2 : Holds Value.string (sortWorld Value.string w gb 0 n d' os) gb 0 d' :=
    holds_grow Value.string _ os gb 0 d' (by show gb < (w.heap.modify gb _).size; simpa using hgl) (holds_putRow Value.string (Sort.ahead w n) gb 0 m.toArray d' hH hsz)
  refine ⟨?_, hsl.2.1, fun hpos => ⟨gb, 0, rfl, Nat.lt_of_lt_of_le hgl hf.size, fun k hk j u hu => ?_⟩⟩
  · have := hsl.1; simp at hsz; simp; omega
  · have hj : j = 0 := by
      have := (List.getElem?_eq_some_iff.1 hu).1
      simpa using this
    subst hj
    have hu' : u = .string d'.toList[k] := by simpa using hu.symm
    have := (hH2 k (by simpa using hk)).1
    rw [hu']
    simp only [Nat.mul_one, Nat.add_zero]
    rw [this]
    simp [getElem!_pos, show k < d'.size from by simpa using hk]

theorem edges_new_calls {w : World} {F : Nat → Prop} {g : Nat} {G : Gr} (s : Str) (h : GraphAt w F g G) (hs : s ∈ names G) (hcl : ∀ a b, hasE G a b = true → b ∈ names G) (hsm : G.length ≤ 1048576) :
    Calls Tryd.prog 53 #[.pointer (some ⟨g, 0, none⟩), .string s] w <| RetSl fun a n cap w' => n = (ends G s).length ∧ Sl encS 1 w' a cap (ends G s) ∧ Below w.heap.size w w' ∧ (∀ k, blk a = some k → w.heap.size ≤ k) := by
  have hgood := h.good
  have hG0 := h
  obtain ⟨na, nc, mb, me, rs, h⟩ := h
  obtain ⟨i, hi, rfl⟩ := names_at hs
  have hi' : i < rs.length := by rw [h.len]; exact hi
  have hmk := make16
  have hc2 : ((w.alloc (.cells #[.pointer (some ⟨g, 0, none⟩)] 61)).alloc (.cells (Array.replicate 16 (.string ByteArray.empty)) 9)).cell? ⟨g, 2, none⟩ = some (.map (some me)) :=
    (h.keep ((Fr.alloc NoB w _).trans (Fr.alloc NoB _ _) (fun _ _ e => e)) (fun _ _ e => e.elim)).cell2
  have hl := ((h.tbl.alloc (.cells #[.pointer (some ⟨g, 0, none⟩)] 61)).alloc (.cells (Array.replicate 16 (.string ByteArray.empty)) 9)).look Tryd.underlying67 Tryd.underlying9 (zeroM _) G[i].1
  rw [h.lookR i hi hi', Option.getD_some] at hl
  have hmap := ((h.sets i hi' hi).alloc (.cells #[.pointer (some ⟨g, 0, none⟩)] 61)).alloc (.cells (Array.replicate 16 (.string ByteArray.empty)) 9)
  go_enter Tryd.func53, Tryd.ntmps53
  go_wp2_with (at_range; refine wpList_range_s _ rfl _ 88 rfl Tryd.underlying88 rs[i] rfl _ hmap (w.heap.size + 1 + 1) (by simp) ?_; intro w1 hit hf1 hsz1)
  go_frame
  have hep := ends_perm hgood hcl hi rfl
  have htl : G[i].2.length ≤ 1048576 := by
    have h1 := hep.length_eq
    have h2 := List.length_filter_le (fun t => hasE G G[i].1 t) (names G)
    unfold ends at h1
    rw [List.length_map] at h2
    omega
  have hcl1 := hf1.below_top
  have hbW : Below (w.heap.size + 1) (w.alloc (.cells #[.pointer (some ⟨g, 0, none⟩)] 61)) w1 :=
    ((Below.refl _ _).alloc (by simp) _).top hcl1 (by simp)
  have hown0 : Own encS 1 w1 (w.heap.size + 1) 9 (some ⟨w.heap.size + 1, 0, none⟩) 16 [] := by
    have := World.ownsRow_made (base := w.heap.size + 1) (e := 9) (size := 1) (w.alloc (.cells #[.pointer (some ⟨g, 0, none⟩)] 61)) (Array.replicate 16 (.string ByteArray.empty)) 16 (by simp) (by simp [maxLen]) (by simp)
    simp only [World.size_alloc] at this
    exact Own.fr (enc := encS) (l := []) this hf1 (fun _ _ e => e.elim)
  generalize hT : G[i].2 = tos at *
  have HT := Lib.hid hT; clear hT
  have HEP := Lib.hid hep; clear hep
  clear hl hc2 hmap hmk
  go_loopg [5] tos.length (fun gk v wr => ∃ (m : List Str) (left : AL) (gb cap' : Nat), v = .slice (some ⟨gb, 0, none⟩) m.length cap' ∧ gk = left.length ∧ Hid ((m ++ left.map (·.1)).Perm tos) ∧ Iter wr (w.heap.size + 1 + 1) rs[i] (setOf tos) left ∧
    Own encS 1 wr (w.heap.size + 1) 9 (some ⟨gb, 0, none⟩) cap' m ∧ Below (w.heap.size + 1) (w.alloc (.cells #[.pointer (some ⟨g, 0, none⟩)] 61)) wr)
  case atStart =>
    refine ⟨[], setOf tos, _, _, rfl, by simp, Lib.hid (by rw [setOf_keys]; simp), hit, hown0, hbW⟩
  case round =>
    obtain ⟨m, left, gb, cap', rfl, rfl, HP, hit, hown, hb⟩ := hrel
    have hml : m.length + left.length ≤ 1048576 := by have := HP.out.length_eq; simp at this; omega
    have hsz := hb.size
    simp only [World.size_alloc] at hsz
    obtain ⟨cur, hcur⟩ := hown.cells (k := gb) rfl
    have hne1 : gb ≠ w.heap.size + 1 + 1 := hit.ne_cells hcur
    have hne2 : gb ≠ rs[i] := hit.map.ne_cells hcur
    have HN1 := Lib.hid hne1; clear hne1
    have HN2 := Lib.hid hne2; clear hne2
    clear hcur
    go_wp2_with (first
      | (at_next; refine wpList_next_s _ rfl _ rfl _ rs[i] rfl _ left hit ?_ ?_)
      | (at_builtin; fail))
    · intro hle
      have hmp : m.Perm tos := by have := HP.out; rw [hle] at this; simpa using this
      clear hle
      have HMP := Lib.hid hmp; clear hmp
      have hbw : Below w.heap.size w wr := ((Below.refl _ _).alloc (Nat.le_refl _) _).trans (hb.mono (by omega))
      have hGr : GraphAt wr (fun k => F k ∧ k < w.heap.size) g G := (hG0.bound).top hbw
      have hgbl := (hown.lt gb rfl).1
      have hc0 : wr.cell? ⟨w.heap.size, 0, none⟩ = some (.pointer (some ⟨g, 0, none⟩)) := by
        rw [hb.cell (p := ⟨w.heap.size, 0, none⟩) (by simp), cell_of_row _ _ _ _ _ _ (heap_alloc_new w _)]
        rfl
      have hsort := sort_calls hGr (fun k hk e => by have := hk.2; omega) hc0 (by omega) hown (by omega)
      have HSORT := Lib.hid hsort; clear hsort
      go_wp2_with (go_at_call 63; refine (HSORT.out).mono ?_; rintro e w5 ⟨rfl, d', hp, hs, hsl5, hf5⟩)
      go_ret
      have hd : d'.toList = ends G G[i].1 := sorted_ends hgood hcl hi rfl (by have := HMP.out; rw [← HT.out] at this; simpa using this) hp hs
      have hdl : d'.toList.length = m.length := by
        rw [hd]
        have h1 := HEP.out.length_eq
        have h2 := HMP.out.length_eq
        omega
      refine ⟨_, _, _, rfl, by rw [← hd]; exact hdl.symm, by rw [← hd]; exact hsl5, hbw.fr hf5 (Nat.le_refl _) (fun b e => by omega), fun k hk => by simp [blk] at hk; omega⟩
    · intro x v l1 l2 w2 HL HM hit2 hf2 hent
      have hv : v = .bool true := by
        obtain ⟨t, _, _, ht⟩ := HM.out
        exact ht.symm
      have HV := Lib.hid hv
      clear hv
      have hown2 := hown.fr hf2 (fun k hk e => HN1.out (by simp [blk] at hk; omega))
      have hsz2 := hf2.size
      have hb2 : Below (w.heap.size + 1) (w.alloc (.cells #[.pointer (some ⟨g, 0, none⟩)] 61)) w2 := hb.fr hf2 (by simp) (fun b e => by omega)
      go_wp2_with (at_builtin; refine wpList_append_new encS 1 encS_len encS_one _ _ rfl _ _ 28 rfl 9 _ 16 Tryd.underlying28 infoS rfl (by omega) (w.heap.size + 1) (some ⟨gb, 0, none⟩) cap' m _ rfl rfl hown2 x _ _ rfl rfl (by omega) (by omega) (by omega) ?_; intro a3 cap3 w3 hown3 hf3 hk3)
      go_roundg (l1 ++ l2).length
      case measure => rw [HL.out]; simp
      case rel =>
        have hsh : ∃ g3, a3 = some ⟨g3, 0, none⟩ := by
          rcases hown3.2 with ⟨hv, hn⟩ | ⟨g3, c3, cur, hv, _⟩
          · simp at hn
          · simp only [Value.slice.injEq] at hv
            exact ⟨g3, hv.1⟩
        obtain ⟨g3, rfl⟩ := hsh
        have hne2 : ∀ k, blk (some (⟨gb, 0, none⟩ : Addr)) = some k → k = gb := fun k hk => by simpa [blk] using hk.symm
        refine ⟨m ++ [x], l1 ++ l2, g3, cap3, by simp, rfl, Lib.hid ?_, hit2.fr hf3 (fun e => HN1.out (hne2 _ e).symm) (fun e => HN2.out (hne2 _ e).symm), hown3, hb2.fr hf3 (by simp) (fun b e => by have := hne2 b e; have := (hown.lt gb rfl).1; omega)⟩
        have := HP.out
        rw [HL.out] at this
        refine (List.Perm.trans ?_ this)
        simp only [List.map_append, List.map_cons, List.append_assoc, List.singleton_append]
        exact List.Perm.append_left m List.perm_middle.symm
theorem edges_calls {w : World} {F : Nat → Prop} {g : Nat} {G : Gr} (s : Str) (h : GraphAt w F g G) (hs : s ∈ names G) (hcl : ∀ a b, hasE G a b = true → b ∈ names G) (hsm : G.length ≤ 1048576) :
    Calls Tryd.prog 53 #[.pointer (some ⟨g, 0, none⟩), .string s] w <| RetSl fun a n cap w' => n = (ends G s).length ∧ Sl encS 1 w' a cap (ends G s) ∧ Below w.heap.size w w' :=
  (edges_new_calls s h hs hcl hsm).mono fun _ _ ⟨a, n, c, e, h1, h2, h3, _⟩ => ⟨a, n, c, e, h1, h2, h3⟩
end Go.Proofs.YthpfladpbfbpjaaDoor

/- impl.build and impl.EdgesFrom: what each call computes; the plain laws of a graph that is built. -/
namespace Go.Proofs.YthpfladpbfbpjaaDoor
open Go.RowKit

def nodesG (ns : List Str) : Gr := ns.foldl addN []
def buildG (ns : List Str) (es : List Ed) : Gr := es.foldl (fun G e => addE G e.1 e.2) (nodesG ns)
theorem nodesG_snoc (ns : List Str) (s : Str) : nodesG (ns ++ [s]) = addN (nodesG ns) s := by simp [nodesG, List.foldl_append]
theorem buildG_snoc (ns : List Str) (es : List Ed) (e : Ed) : buildG ns (es ++ [e]) = addE (buildG ns es) e.1 e.2 := by simp [buildG, List.foldl_append]
theorem nodesG_mem (ns : List Str) (t : Str) : t ∈ names (nodesG ns) ↔ t ∈ ns := by
  refine snoc_ind (P := fun ns => t ∈ names (nodesG ns) ↔ t ∈ ns) (by simp [nodesG]) ?_ ns
  intro l x ih
  show t ∈ names (nodesG (l ++ [x])) ↔ _
  rw [nodesG_snoc, names_addN, ih]
  simp
theorem nodesG_good (ns : List Str) : GoodG (nodesG ns) := by
  refine snoc_ind (P := fun ns => GoodG (nodesG ns)) goodG_nil ?_ ns
  intro l x ih
  show GoodG (nodesG (l ++ [x]))
  rw [nodesG_snoc]
  exact goodG_addN ih
theorem nodesG_names {ns : List Str} (h : ns.Nodup) : names (nodesG ns) = ns := by
  revert h
  refine snoc_ind (P := fun ns => ns.Nodup → names (nodesG ns) = ns) (by simp [nodesG]) ?_ ns
  intro l x ih h
  have h' := List.nodup_append.1 h
  have hx : x ∉ l := fun hx => h'.2.2 x hx x (by simp) rfl
  show names (nodesG (l ++ [x])) = _
  rw [nodesG_snoc, addN, if_neg (by rw [nodesG_mem]; exact hx)]
  simp [ih h'.1]
theorem nodesG_none (ns : List Str) (a b : Str) : hasE (nodesG ns) a b = false := by
  refine snoc_ind (P := fun ns => hasE (nodesG ns) a b = false) rfl ?_ ns
  intro l x ih
  show hasE (nodesG (l ++ [x])) a b = false
  rw [nodesG_snoc, hasE_addN, ih]
theorem buildG_names (ns : List Str) (es : List Ed) : names (buildG ns es) = names (nodesG ns) := by
  refine snoc_ind (P := fun es => names (buildG ns es) = names (nodesG ns)) rfl ?_ es
  intro l x ih
  show names (buildG ns (l ++ [x])) = _
  rw [buildG_snoc, addE, names_setE]
  exact ih
theorem buildG_good (ns : List Str) (es : List Ed) : GoodG (buildG ns es) := by
  refine snoc_ind (P := fun es => GoodG (buildG ns es)) (nodesG_good ns) ?_ es
  intro l x ih
  show GoodG (buildG ns (l ++ [x]))
  rw [buildG_snoc]
  exact goodG_addE ih
theorem buildG_hasE {ns : List Str} {es : List Ed} (hin : ∀ e ∈ es, e.1 ∈ ns) (a b : Str) : hasE (buildG ns es) a b = true ↔ (a, b) ∈ es := by
  revert hin
  refine snoc_ind (P := fun es => (∀ e ∈ es, e.1 ∈ ns) → (hasE (buildG ns es) a b = true ↔ (a, b) ∈ es)) ?_ ?_ es
  · intro _
    have := nodesG_none ns a b
    simp [buildG, this]
  · intro l x ih hin
    show hasE (buildG ns (l ++ [x])) a b = true ↔ _
    rw [buildG_snoc, hasE_addE (buildG_good ns l) (by rw [buildG_names, nodesG_mem]; exact hin x (by simp)), ih (fun e he => hin e (by simp [he]))]
    simp [Prod.ext_iff]
theorem addE_len (G : Gr) (s t : Str) : (addE G s t).length = G.length := by simp [addE, setE]
theorem nodesG_len (ns : List Str) : (nodesG ns).length ≤ ns.length := by
  refine snoc_ind (P := fun ns => (nodesG ns).length ≤ ns.length) (by simp [nodesG]) ?_ ns
  intro l x ih
  show (nodesG (l ++ [x])).length ≤ _
  rw [nodesG_snoc]
  have := addN_len (nodesG l) x
  simp
  omega
theorem buildG_len (ns : List Str) (es : List Ed) : (buildG ns es).length ≤ ns.length := by
  refine snoc_ind (P := fun es => (buildG ns es).length ≤ ns.length) (nodesG_len ns) ?_ es
  intro l x ih
  show (buildG ns (l ++ [x])).length ≤ _
  rw [buildG_snoc, addE_len]
  exact ih


end Go.Proofs.YthpfladpbfbpjaaDoor

/- impl.all: the edges of a graph as a list. -/
namespace Go.Proofs.YthpfladpbfbpjaaDoor
open Go.RowKit

theorem infoI : (Tryd.prog.info? 74).map (fun i => (i.zero, i.size, i.bytes)) = some (some (.agg #[.string ByteArray.empty, .string ByteArray.empty]), 2, 32) := by kernel_rfl

def edgesOf (G : Gr) (s : Str) : List Ed := (ends G s).map fun t => (s, t)
def allG (G : Gr) : List Ed := (names G).flatMap (edgesOf G)
theorem mem_allG {G : Gr} (e : Ed) : e ∈ allG G ↔ hasE G e.1 e.2 = true ∧ e.2 ∈ names G := by
  unfold allG edgesOf ends
  simp only [List.mem_flatMap, List.mem_map, List.mem_filter]
  constructor
  · rintro ⟨s, ⟨p, hp, rfl⟩, t, ⟨⟨q, hq, rfl⟩, he⟩, rfl⟩
    exact ⟨he, q, hq, rfl⟩
  · rintro ⟨he, q, hq, hqe⟩
    obtain ⟨p, hp, e1⟩ := List.mem_map.1 (hasE_names he)
    exact ⟨e.1, ⟨p, hp, e1⟩, e.2, ⟨⟨q, hq, hqe⟩, he⟩, rfl⟩
theorem nodup_flat {α : Type} (f : Str → List α) (key : α → Str) (hk : ∀ s x, x ∈ f s → key x = s) (hf : ∀ s, (f s).Nodup) : ∀ (l : List Str), l.Nodup → (l.flatMap f).Nodup
  | [], _ => by simp
  | s :: r, h => by
    have hs := List.nodup_cons.1 h
    rw [List.flatMap_cons, List.nodup_append]
    refine ⟨hf s, nodup_flat f key hk hf r hs.2, fun a ha b hb e => ?_⟩
    subst e
    obtain ⟨t, ht, hat⟩ := List.mem_flatMap.1 hb
    have := (hk _ _ ha).symm.trans (hk _ _ hat)
    subst this
    exact hs.1 ht
theorem nodup_allG {G : Gr} (h : (names G).Nodup) : (allG G).Nodup := by
  refine nodup_flat _ Prod.fst ?_ ?_ _ h
  · intro s x hx
    obtain ⟨t, _, rfl⟩ := List.mem_map.1 hx
    rfl
  · intro s
    have h1 : (ends G s).Nodup := h.sublist List.filter_sublist
    exact (List.pairwise_map).2 (h1.imp fun hne e => hne (by simpa using e))
theorem flat_le {α : Type} (f : Str → List α) (B : Nat) (hf : ∀ s, (f s).length ≤ B) : ∀ (l : List Str), (l.flatMap f).length ≤ l.length * B
  | [] => by simp
  | s :: r => by
    have := flat_le f B hf r
    have := hf s
    rw [List.flatMap_cons, List.length_append, List.length_cons, Nat.add_mul]
    omega
theorem allG_len (G : Gr) : (allG G).length ≤ G.length * G.length := by
  have := flat_le (edgesOf G) G.length (fun s => by
    unfold edgesOf ends
    have := List.length_filter_le (fun t => hasE G s t) (names G)
    simpa using this) (names G)
  simpa [allG] using this
theorem flat_take {α : Type} (f : Str → List α) (l : List Str) (k : Nat) (hk : k < l.length) : (l.take (k + 1)).flatMap f = (l.take k).flatMap f ++ f l[k] := by
  rw [List.take_succ_eq_append_getElem hk, List.flatMap_append]
  simp
theorem flat_take_le {α : Type} (f : Str → List α) (l : List Str) (k : Nat) : ((l.take k).flatMap f).length ≤ (l.flatMap f).length := by
  have : l.flatMap f = (l.take k).flatMap f ++ (l.drop k).flatMap f := by rw [← List.flatMap_append, List.take_append_drop]
  rw [this, List.length_append]
  omega

theorem all_calls {w : World} {F : Nat → Prop} {g : Nat} {G : Gr} (h : GraphAt w F g G) (hcl : ∀ a b, hasE G a b = true → b ∈ names G) (hsm : G.length ≤ 10000) :
    Calls Tryd.prog 39 #[.pointer (some ⟨g, 0, none⟩)] w <| RetSl fun a n cap w' => n = (allG G).length ∧ Own encE 2 w' w.heap.size 74 a cap (allG G) ∧ Below w.heap.size w w' := by
  have hall : (allG G).length ≤ 100000000 := Nat.le_trans (allG_len G) (Nat.mul_le_mul hsm hsm)
  have hG := h
  obtain ⟨na, nc, mb, me, rs, h⟩ := h
  have hsl := h.nodes.sl encS_len
  have hc0 : (w.alloc (.cells #[] 74)).cell? ⟨g, 0, none⟩ = some (.slice na G.length nc) := ((Fr.alloc NoB w _).cell h.lt (fun e => e)).trans h.cell0
  have hEd := fun (W : World) (s : Str) (hb : Below w.heap.size w W) (hs : s ∈ names G) => edges_new_calls s (hG.top hb) hs hcl (by omega)
  have hdef : (names G).flatMap (edgesOf G) = allG G := rfl
  have hNl : G.length = (names G).length := by simp
  rw [hNl] at hc0
  have hel : ∀ s, (edgesOf G s).length = (ends G s).length := fun s => by simp [edgesOf]
  have hem : ∀ s j (hj : j < (ends G s).length), (edgesOf G s).take (j + 1) = (edgesOf G s).take j ++ [(s, (ends G s)[j])] := fun s j hj => by
    unfold edgesOf
    rw [← List.map_take, ← List.map_take, List.take_succ_eq_append_getElem hj, List.map_append]
    rfl
  clear h hNl hsm hG
  have HEDG := Lib.hid hEd; clear hEd
  have HDEF := Lib.hid hdef; clear hdef
  have HEL := Lib.hid hel; clear hel
  have HEM := Lib.hid hem; clear hem
  generalize hns : names G = ns at *
  generalize edgesOf G = f at *
  generalize allG G = A at *
  have hnl := hsl.len
  clear hcl hns
  go_enter Tryd.func39, Tryd.ntmps39
  go_wp2
  go_loopg [14, 3] ns.length (fun gk i v wr => ∃ (k : Nat) (m : List Ed) (a' : Option Addr) (cap' : Nat), k ≤ ns.length ∧ gk = ns.length - k ∧ i = .int .i64 k ∧ v = .slice a' m.length cap' ∧ Hid (m = (ns.take k).flatMap f) ∧
    Own encE 2 wr w.heap.size 74 a' cap' m ∧ Below w.heap.size w wr)
  case atStart => exact ⟨0, [], _, _, Nat.zero_le _, by omega, rfl, rfl, Lib.hid (by simp), Own.made encE 2 w _ _ (Nat.le_refl _), (Below.refl _ _).alloc (Nat.le_refl _) _⟩
  case round =>
    obtain ⟨k, m, a', cap', hk, rfl, rfl, rfl, Hm, hown, hb⟩ := hrel
    have hsz := hb.size
    by_cases hlt : k < ns.length
    · obtain ⟨bb, off, hna, h1⟩ := (hsl.top hb).s1 hlt
      have hs : ns[k] ∈ ns := List.getElem_mem hlt
      have hq := HEDG.out wr ns[k] hb hs
      have hft := flat_take f ns k hlt
      have hfl := flat_take_le f ns (k + 1)
      rw [HDEF.out, hft, ← Hm.out, List.length_append, HEL.out] at hfl
      rw [← Hm.out] at hft
      have HFT := Lib.hid hft; clear hft
      clear hs
      have hel := HEL.out ns[k]
      have hem := HEM.out ns[k]
      generalize f ns[k] = fk at *
      generalize ends G ns[k] = L at *
      generalize ns[k] = s at *
      have HEL2 := Lib.hid hel; clear hel
      have HEM2 := Lib.hid hem; clear hem
      subst hna
      have HQ := Lib.hid hq; clear hq
      go_wp2_with (go_at_call 53; refine (HQ.out).mono ?_; rintro e w2 ⟨ea, en, ec, rfl, rfl, hes, hb2, hnew⟩)
      have hown2 := hown.top hb2
      have hbw2 := hb.top hb2 (Nat.le_refl _)
      have hel2 := hes.len
      go_loopg [22, 3] L.length (fun gk i v wq => ∃ (j : Nat) (m2 : List Ed) (a' : Option Addr) (cap' : Nat), j ≤ L.length ∧ gk = L.length - j ∧ i = .int .i64 j ∧ v = .slice a' m2.length cap' ∧ Hid (m2 = m ++ fk.take j) ∧
        Own encE 2 wq w.heap.size 74 a' cap' m2 ∧ Below w.heap.size w wq ∧ Sl encS 1 wq ea ec L ∧ (∀ k, blk a' = some k → ¬ blk ea = some k))
      case atStart => exact ⟨0, m, _, _, Nat.zero_le _, by omega, rfl, rfl, Lib.hid (by simp), hown2, hbw2, hes, fun k h1 h2 => by have := (hown.lt k h1).2; have := hnew k h2; omega⟩
      case round =>
        obtain ⟨j, m2, a2, cap2, hj, rfl, rfl, rfl, Hm2, hownj, hbj, hesj, hsep⟩ := hrel
        have hm2l : m2.length ≤ m.length + j := by rw [Hm2.out]; simp; omega
        have hszj := hbj.size
        by_cases hjl : j < L.length
        · obtain ⟨lb, loff, hea, g1⟩ := hesj.s1 hjl
          have hlb := World.block_lt_of_cell? _ _ g1
          have HLB := Lib.hid hlb; clear hlb
          have hem := HEM2.out j hjl
          have HEM3 := Lib.hid hem; clear hem
          generalize L[j] = t at *
          subst hea
          go_wp2_with (at_builtin; refine wpList_append_new encE 2 encE_len encE_one _ _ rfl _ _ 32 rfl 74 _ 32 Tryd.underlying32 infoI rfl (by omega) w.heap.size a2 cap2 m2 _ rfl rfl hownj (s, t) _ _ (by simp) rfl (by omega) (by omega) (by omega) ?_; intro a3 cap3 w3 hown3 hf3 hk3)
          go_roundg (L.length - (j + 1))
          case measure => omega
          case rel =>
            refine ⟨j + 1, m2 ++ [(s, t)], a3, cap3, by omega, rfl, by go_num, by simp, Lib.hid (by rw [HEM3.out, Hm2.out, List.append_assoc]), hown3, hbj.fr hf3 (Nat.le_refl _) (fun b hb => (hownj.lt b hb).1), hesj.fr hf3 (fun b off e h1 => hsep b h1 (by rw [e]; rfl)), fun k h1 h2 => ?_⟩
            rcases hk3 k h1 with h3 | h3
            · exact hsep k h3 h2
            · have := HLB.out
              simp [blk] at h2
              try simp at this
              omega
        · have hmm : m2 = (ns.take (k + 1)).flatMap f := by rw [Hm2.out, HFT.out, List.take_of_length_le (by rw [HEL2.out]; omega)]
          clear Hm2
          go_wp2
          go_roundg (ns.length - (k + 1))
          case measure => omega
          case rel => exact ⟨k + 1, m2, a2, cap2, by omega, rfl, by go_num, rfl, Lib.hid hmm, hownj, hbj⟩
    · have hmm : m = A := by rw [Hm.out, List.take_of_length_le (by omega), HDEF.out]
      clear Hm
      go_wp2
      go_ret
      exact ⟨_, _, _, rfl, by rw [hmm], by rw [← hmm]; exact hown, hb⟩
end Go.Proofs.YthpfladpbfbpjaaDoor

/- Plain laws of the order that Topo makes: the visit as a function with fuel. -/
namespace Go.Proofs.YthpfladpbfbpjaaDoor

/-- what a visit of n makes of the list of those that are done; the fuel is more than the rank of n -/
def vis (G : Gr) : Nat → List Str → Str → List Str
  | 0, T, _ => T
  | f + 1, T, n => if n ∈ T then T else ins n ((ends G n).foldl (vis G f) T)
theorem foldl_take {α β : Type} (f : β → α → β) (b : β) (l : List α) (k : Nat) (hk : k < l.length) : (l.take (k + 1)).foldl f b = f ((l.take k).foldl f b) l[k] := by
  rw [List.take_succ_eq_append_getElem hk, List.foldl_append]
  rfl
theorem mem_ends {G : Gr} {n x : Str} : x ∈ ends G n ↔ x ∈ names G ∧ hasE G n x = true := by
  unfold ends
  rw [List.mem_filter]

section
variable {G : Gr} {d : Str → Nat}
theorem vis_sub (f : Nat) : ∀ (T : List Str) (n x : Str), x ∈ T → x ∈ vis G f T n := by
  induction f with
  | zero => intro T n x h; exact h
  | succ f ih =>
    intro T n x h
    unfold vis
    split
    · exact h
    · refine mem_ins.2 (.inl ?_)
      have : ∀ (l : List Str) (T : List Str), x ∈ T → x ∈ l.foldl (vis G f) T := by
        intro l
        induction l with
        | nil => intro T h; exact h
        | cons y r ihl => intro T h; exact ihl _ (ih T y x h)
      exact this _ _ h
theorem fold_sub (f : Nat) (x : Str) : ∀ (l : List Str) (T : List Str), x ∈ T → x ∈ l.foldl (vis G f) T
  | [], _, h => h
  | y :: r, T, h => fold_sub f x r _ (vis_sub f T y x h)
theorem vis_new (hd : ∀ a b, hasE G a b = true → d b < d a) (f : Nat) : ∀ (T : List Str) (n x : Str), x ∈ vis G f T n → x ∈ T ∨ x = n ∨ d x < d n := by
  induction f with
  | zero => intro T n x h; exact .inl h
  | succ f ih =>
    intro T n x h
    unfold vis at h
    split at h
    · exact .inl h
    · rcases mem_ins.1 h with h | h
      · have : ∀ (l : List Str) (T : List Str), (∀ y ∈ l, d y < d n) → x ∈ l.foldl (vis G f) T → x ∈ T ∨ d x < d n := by
          intro l
          induction l with
          | nil => intro T _ h; exact .inl h
          | cons y r ihl =>
            intro T hl h
            rcases ihl _ (fun z hz => hl z (List.mem_cons_of_mem _ hz)) h with h | h
            · have hy := hl y (by simp)
              rcases ih T y x h with h | h | h
              · exact .inl h
              · subst h; exact .inr hy
              · exact .inr (by omega)
            · exact .inr h
        rcases this _ _ (fun y hy => hd _ _ (mem_ends.1 hy).2) h with h | h
        · exact .inl h
        · exact .inr (.inr h)
      · exact .inr (.inl h)
theorem fold_new (hd : ∀ a b, hasE G a b = true → d b < d a) (f : Nat) (x : Str) (m : Nat) : ∀ (l : List Str) (T : List Str), (∀ y ∈ l, d y < m) → x ∈ l.foldl (vis G f) T → x ∈ T ∨ d x < m
  | [], _, _, h => .inl h
  | y :: r, T, hl, h => by
    rcases fold_new hd f x m r _ (fun z hz => hl z (List.mem_cons_of_mem _ hz)) h with h | h
    · have hy := hl y (by simp)
      rcases vis_new hd f T y x h with h | h | h
      · exact .inl h
      · subst h; exact .inr hy
      · exact .inr (by omega)
    · exact .inr h
/-- a node that is not done is not done behind its ends -/
theorem fold_not (hd : ∀ a b, hasE G a b = true → d b < d a) (f : Nat) {T : List Str} {n : Str} (hn : n ∉ T) (k : Nat) : n ∉ ((ends G n).take k).foldl (vis G f) T := by
  intro h
  rcases fold_new hd f n (d n) _ _ (fun y hy => hd _ _ (mem_ends.1 (List.mem_of_mem_take hy)).2) h with h | h
  · exact hn h
  · omega
theorem fold_keep (f : Nat) (P : List Str → Prop) (hP : ∀ T n, n ∈ names G → P T → P (vis G f T n)) : ∀ (l : List Str) (T : List Str), (∀ x ∈ l, x ∈ names G) → P T → P (l.foldl (vis G f) T)
  | [], _, _, h => h
  | y :: r, _, hl, h => fold_keep f P hP r _ (fun x hx => hl x (List.mem_cons_of_mem _ hx)) (hP _ _ (hl y (by simp)) h)
theorem vis_nodup (f : Nat) : ∀ (T : List Str) (n : Str), n ∈ names G → T.Nodup ∧ (∀ x ∈ T, x ∈ names G) → (vis G f T n).Nodup ∧ ∀ x ∈ vis G f T n, x ∈ names G := by
  induction f with
  | zero => intro T n _ h; exact h
  | succ f ih =>
    intro T n hn h
    unfold vis
    split
    · exact h
    · have h1 := fold_keep f (fun T => T.Nodup ∧ ∀ x ∈ T, x ∈ names G) ih (ends G n) T (fun x hx => (mem_ends.1 hx).1) h
      refine ⟨nodup_ins h1.1, fun x hx => ?_⟩
      rcases mem_ins.1 hx with hx | hx
      · exact h1.2 x hx
      · exact hx ▸ hn
theorem vis_has (f : Nat) (T : List Str) (n : Str) : n ∈ vis G (f + 1) T n := by
  unfold vis
  split
  · assumption
  · exact mem_ins.2 (.inr rfl)
/-- all that a node leads to stands ahead of it -/
def Before (G : Gr) (T : List Str) : Prop := ∀ l1 x l2, T = l1 ++ x :: l2 → ∀ y, hasE G x y = true → y ∈ l1
theorem before_snoc {T : List Str} {n : Str} (h : Before G T) (hn : ∀ y, hasE G n y = true → y ∈ T) : Before G (T ++ [n]) := by
  intro l1 x l2 e y hy
  rcases List.eq_nil_or_concat l2 with rfl | ⟨l3, z, rfl⟩
  · have := List.append_inj_left' e rfl
    have h2 := List.append_inj_right' e rfl
    simp only [List.cons.injEq, and_true] at h2
    subst this
    subst h2
    exact hn y hy
  · have e' : T ++ [n] = (l1 ++ x :: l3) ++ [z] := by rw [e]; simp
    have := List.append_inj_left' e' rfl
    exact h l1 x l3 this y hy
theorem before_nil : Before G [] := by
  intro l1 x l2 e
  simp at e
theorem vis_before (hd : ∀ a b, hasE G a b = true → d b < d a) (hcl : ∀ a b, hasE G a b = true → b ∈ names G) (f : Nat) : ∀ (T : List Str) (n : Str), d n < f → Before G T → Before G (vis G f T n) := by
  induction f with
  | zero => intro T n hf; omega
  | succ f ih =>
    intro T n hf h
    unfold vis
    split
    · exact h
    · rename_i hn
      have hlt : ∀ y ∈ ends G n, d y < f := fun y hy => by have := hd _ _ (mem_ends.1 hy).2; omega
      have h1 : Before G ((ends G n).foldl (vis G f) T) := by
        have : ∀ (l : List Str) (T : List Str), (∀ y ∈ l, d y < f) → Before G T → Before G (l.foldl (vis G f) T) := by
          intro l
          induction l with
          | nil => intro T _ h; exact h
          | cons y r ihl => intro T hl h; exact ihl _ (fun z hz => hl z (List.mem_cons_of_mem _ hz)) (ih T y (hl y (by simp)) h)
        exact this _ _ hlt h
      have h2 : ∀ y ∈ ends G n, y ∈ (ends G n).foldl (vis G f) T := by
        have : ∀ (l : List Str) (T : List Str), (∀ y ∈ l, d y < f) → ∀ y ∈ l, y ∈ l.foldl (vis G f) T := by
          intro l
          induction l with
          | nil => intro T _ y hy; simp at hy
          | cons z r ihl =>
            intro T hl y hy
            rcases List.mem_cons.1 hy with rfl | hy
            · refine fold_sub f y r _ ?_
              have hyf := hl y (by simp)
              obtain ⟨f', rfl⟩ : ∃ f', f = f' + 1 := ⟨f - 1, by omega⟩
              exact vis_has f' T y
            · exact ihl _ (fun z hz => hl z (List.mem_cons_of_mem _ hz)) y hy
        exact this _ _ hlt
      have h3 : n ∉ (ends G n).foldl (vis G f) T := by
        have := fold_not hd f hn (ends G n).length
        rwa [List.take_length] at this
      rw [ins, if_neg h3]
      exact before_snoc h1 (fun y hy => h2 y (mem_ends.2 ⟨hcl _ _ hy, hy⟩))
end

/-- the list of those that are done behind all roots -/
def postG (G : Gr) (f : Nat) : List Str := (names G).foldl (vis G f) []
theorem postG_nodup (G : Gr) (f : Nat) : (postG G f).Nodup ∧ ∀ x ∈ postG G f, x ∈ names G :=
  fold_keep f (fun T => T.Nodup ∧ ∀ x ∈ T, x ∈ names G) (fun T n hn h => vis_nodup f T n hn h) _ _ (fun _ h => h) ⟨by simp, by simp⟩
theorem postG_all {G : Gr} {f : Nat} (hf : 0 < f) {x : Str} (hx : x ∈ names G) : x ∈ postG G f := by
  have : ∀ (l : List Str) (T : List Str), x ∈ l → x ∈ l.foldl (vis G f) T := by
    intro l
    induction l with
    | nil => intro T h; simp at h
    | cons y r ih =>
      intro T h
      rcases List.mem_cons.1 h with rfl | h
      · refine fold_sub f x r _ ?_
        obtain ⟨f', rfl⟩ : ∃ f', f = f' + 1 := ⟨f - 1, by omega⟩
        exact vis_has f' T x
      · exact ih _ h
  exact this _ _ hx
theorem postG_before {G : Gr} {f : Nat} {d : Str → Nat} (hd : ∀ a b, hasE G a b = true → d b < d a) (hcl : ∀ a b, hasE G a b = true → b ∈ names G) (hf : ∀ x ∈ names G, d x < f) : Before G (postG G f) := by
  have : ∀ (l : List Str) (T : List Str), (∀ x ∈ l, x ∈ names G) → Before G T → Before G (l.foldl (vis G f) T) := by
    intro l
    induction l with
    | nil => intro T _ h; exact h
    | cons y r ih => intro T hl h; exact ih _ (fun x hx => hl x (List.mem_cons_of_mem _ hx)) (vis_before hd hcl f T y (hf y (hl y (by simp))) h)
  exact this _ _ (fun _ h => h) before_nil
/-- in the list turned round each edge leads on -/
theorem postG_on {G : Gr} {f : Nat} {d : Str → Nat} (hd : ∀ a b, hasE G a b = true → d b < d a) (hcl : ∀ a b, hasE G a b = true → b ∈ names G) (hf : ∀ x ∈ names G, d x < f) (hpos : 0 < f) {a b : Str} (h : hasE G a b = true) :
    (postG G f).reverse.idxOf a < (postG G f).reverse.idxOf b := by
  have ha : a ∈ postG G f := postG_all hpos (hasE_names h)
  obtain ⟨l1, l2, e⟩ := List.append_of_mem ha
  have hb := postG_before hd hcl hf l1 a l2 e b h
  have hnd := (postG_nodup G f).1
  rw [e] at hnd ⊢
  have h1 := List.nodup_append.1 hnd
  have h2 := List.nodup_cons.1 h1.2.1
  have hal1 : a ∉ l1 := fun hh => h1.2.2 a hh a (by simp) rfl
  have hbl2 : b ∉ l2 := fun hh => h1.2.2 b hb b (List.mem_cons_of_mem _ hh) rfl
  have hba : b ≠ a := fun hh => hal1 (hh ▸ hb)
  rw [List.reverse_append, List.reverse_cons, List.append_assoc]
  have e1 : (l2.reverse ++ ([a] ++ l1.reverse)).idxOf a = l2.length := by
    rw [List.idxOf_append, if_neg (by simpa using h2.1), List.singleton_append, List.idxOf_cons]
    simp
  have e2 : l2.length < (l2.reverse ++ ([a] ++ l1.reverse)).idxOf b := by
    rw [List.idxOf_append, if_neg (by simpa using hbl2), List.singleton_append, List.idxOf_cons]
    rw [show (a == b) = false from by rw [str_beq]; simpa using fun hh : a = b => hba hh.symm]
    simp
  rw [e1]
  exact e2
end Go.Proofs.YthpfladpbfbpjaaDoor

/- The closure that Topo calls: what a visit does to the marks and the list. -/
namespace Go.Proofs.YthpfladpbfbpjaaDoor
open Go.RowKit

/-- The memory of Topo on the way: the graph, its closure's cells, the marks, the list T of those that are done. -/
structure TS (w : World) (B : Nat) (F : Nat → Prop) (g : Nat) (G : Gr) (c1 c3 c4 c5 mk : Nat) (a : Option Addr) (cap : Nat) (T : List Str) : Prop where
  graph : GraphAt w F g G
  fb : ∀ k, F k → k < B
  h1 : w.heap[c1]? = some (.cells #[.pointer (some ⟨g, 0, none⟩)] 61 (0, 0))
  h3 : w.heap[c3]? = some (.cells #[.slice a T.length cap] 28 (0, 0))
  h4 : w.heap[c4]? = some (.cells #[.map (some mk)] 88 (0, 0))
  h5 : w.heap[c5]? = some (.cells #[.func (.func 54) #[] #[.pointer (some ⟨c4, 0, none⟩), .pointer (some ⟨c1, 0, none⟩), .pointer (some ⟨c5, 0, none⟩), .pointer (some ⟨c3, 0, none⟩)]] 83 (0, 0))
  own : Own encS 1 w B 9 a cap T
  map : SMap w mk (setOf T)
  b3 : B ≤ c3
  bm : B ≤ mk

section
variable {w w' : World} {B : Nat} {F : Nat → Prop} {g : Nat} {G : Gr} {c1 c3 c4 c5 mk : Nat} {a : Option Addr} {cap : Nat} {T : List Str}
theorem cell0_of {k : Nat} {v : Value} {t : TypeId} (h : w.heap[k]? = some (.cells #[v] t (0, 0))) : w.cell? ⟨k, 0, none⟩ = some v := by
  rw [cell_of_row _ _ _ _ _ _ h]
  rfl
theorem TS.top (h : TS w B F g G c1 c3 c4 c5 mk a cap T) (hb : Below w.heap.size w w') : TS w' B F g G c1 c3 c4 c5 mk a cap T where
  graph := h.graph.top hb
  fb := h.fb
  h1 := (hb.block c1 (Array.getElem?_eq_some_iff.1 h.h1).1).trans h.h1
  h3 := (hb.block c3 (Array.getElem?_eq_some_iff.1 h.h3).1).trans h.h3
  h4 := (hb.block c4 (Array.getElem?_eq_some_iff.1 h.h4).1).trans h.h4
  h5 := (hb.block c5 (Array.getElem?_eq_some_iff.1 h.h5).1).trans h.h5
  own := h.own.top hb
  map := h.map.top hb
  b3 := h.b3
  bm := h.bm
/-- The marks written. -/
theorem TS.mark (h : TS w B F g G c1 c3 c4 c5 mk a cap T) (f : Fr (fun k => k = mk) w w') :
    GraphAt w' F g G ∧ w'.heap[c1]? = some (.cells #[.pointer (some ⟨g, 0, none⟩)] 61 (0, 0)) ∧ w'.heap[c3]? = some (.cells #[.slice a T.length cap] 28 (0, 0)) ∧ w'.heap[c4]? = some (.cells #[.map (some mk)] 88 (0, 0)) ∧
    w'.heap[c5]? = some (.cells #[.func (.func 54) #[] #[.pointer (some ⟨c4, 0, none⟩), .pointer (some ⟨c1, 0, none⟩), .pointer (some ⟨c5, 0, none⟩), .pointer (some ⟨c3, 0, none⟩)]] 83 (0, 0)) ∧ Own encS 1 w' B 9 a cap T := by
  refine ⟨h.graph.keep f (fun k hk e => ?_), ?_, ?_, ?_, ?_, h.own.fr f (fun k hk e => ?_)⟩
  · have := h.fb k hk; have := h.bm; omega
  · exact (f.block c1 (Array.getElem?_eq_some_iff.1 h.h1).1 (fun e => h.map.ne_cells h.h1 e)).trans h.h1
  · exact (f.block c3 (Array.getElem?_eq_some_iff.1 h.h3).1 (fun e => h.map.ne_cells h.h3 e)).trans h.h3
  · exact (f.block c4 (Array.getElem?_eq_some_iff.1 h.h4).1 (fun e => h.map.ne_cells h.h4 e)).trans h.h4
  · exact (f.block c5 (Array.getElem?_eq_some_iff.1 h.h5).1 (fun e => h.map.ne_cells h.h5 e)).trans h.h5
  · obtain ⟨cur, hc⟩ := h.own.cells hk
    exact h.map.ne_cells hc e
theorem ne_type {k k' : Nat} {v v' : Array Value} {t t' : TypeId} (h : w.heap[k]? = some (.cells v t (0, 0))) (h' : w.heap[k']? = some (.cells v' t' (0, 0))) (hne : t ≠ t') : k ≠ k' := by
  rintro rfl
  rw [h] at h'
  injection h' with h'
  injection h' with _ h2
  exact hne h2
end

def RetVis (B : Nat) (F : Nat → Prop) (g : Nat) (G : Gr) (c1 c3 c4 c5 mk : Nat) (a : Option Addr) (T' : List Str) (w : World) (e : Ending) (w' : World) : Prop :=
  e = .returned (.tuple #[]) ∧ ∃ a' cap', TS w' B F g G c1 c3 c4 c5 mk a' cap' T' ∧ Fr (fun k => k = c3 ∨ k = mk ∨ blk a = some k) w w' ∧ (∀ k, blk a' = some k → blk a = some k ∨ w.heap.size ≤ k)

theorem visit_calls {B : Nat} {F : Nat → Prop} {g : Nat} {G : Gr} {c1 c3 c4 c5 mk : Nat} {d : Str → Nat} (hd : ∀ a b, hasE G a b = true → d b < d a) (hcl : ∀ a b, hasE G a b = true → b ∈ names G) (hsm : G.length ≤ 1048576) (f : Nat) :
    ∀ (n : Str) (T : List Str) (a : Option Addr) (cap : Nat) (w : World), d n < f → n ∈ names G → T.Nodup → (∀ x ∈ T, x ∈ names G) → TS w B F g G c1 c3 c4 c5 mk a cap T →
      Calls Tryd.prog 54 #[.string n, .pointer (some ⟨c4, 0, none⟩), .pointer (some ⟨c1, 0, none⟩), .pointer (some ⟨c5, 0, none⟩), .pointer (some ⟨c3, 0, none⟩)] w (RetVis B F g G c1 c3 c4 c5 mk a (vis G f T n) w) := by
  induction f with
  | zero => intro n T a cap w hf; omega
  | succ f ih =>
    intro n T a cap w hf hn hTn hTs h
    have hc1 := cell0_of h.h1
    have hc4 := cell0_of h.h4
    have hl := h.map.look Tryd.underlying88 Tryd.underlying9 (zeroB w) n
    rw [aget_setOf] at hl
    by_cases hin : n ∈ T
    · rw [if_pos hin, Option.getD_some] at hl
      have hv : vis G (f + 1) T n = T := by unfold vis; rw [if_pos hin]
      rw [hv]
      clear hin hv
      have HTS := Lib.hid h; clear h
      have HN := Lib.hid hn; clear hn
      have HTSS := Lib.hid hTs; clear hTs
      have HTN := Lib.hid hTn; clear hTn
      clear hd hcl ih
      go_enter Tryd.func54, Tryd.ntmps54
      go_wp2
      go_end0
      exact ⟨rfl, a, cap, HTS.out, Fr.refl _ _, fun k hk => .inl hk⟩
    · rw [if_neg hin, Option.getD_none] at hl
      have hv : vis G (f + 1) T n = ins n ((ends G n).foldl (vis G f) T) := by rw [vis, if_neg hin]
      rw [hv]
      clear hv
      have hed := edges_new_calls n h.graph hn hcl hsm
      have hnot := fun k => fold_not (f := f) hd hin k
      have hds : ∀ y ∈ ends G n, d y < f ∧ y ∈ names G := fun y hy => ⟨by have := hd _ _ (mem_ends.1 hy).2; omega, (mem_ends.1 hy).1⟩
      have hkeep : ∀ k, (((ends G n).take k).foldl (vis G f) T).Nodup ∧ ∀ x ∈ ((ends G n).take k).foldl (vis G f) T, x ∈ names G := fun k =>
        fold_keep f (fun T => T.Nodup ∧ ∀ x ∈ T, x ∈ names G) (fun T n hn h => vis_nodup f T n hn h) _ _ (fun x hx => (hds x (List.mem_of_mem_take hx)).2) ⟨hTn, hTs⟩
      have hlen : ∀ k, (((ends G n).take k).foldl (vis G f) T).length ≤ 1048576 := fun k => by
        have := nodup_subset_len (hkeep k).1 (hkeep k).2
        simp only [List.length_map] at this
        omega
      have hstep : ∀ k (hk : k < (ends G n).length), ((ends G n).take (k + 1)).foldl (vis G f) T = vis G f (((ends G n).take k).foldl (vis G f) T) (ends G n)[k] := fun k hk => by
        rw [List.take_succ_eq_append_getElem hk, List.foldl_append]
        rfl
      have HED := Lib.hid hed; clear hed
      have HNOT := Lib.hid hnot; clear hnot
      have HDS := Lib.hid hds; clear hds
      have HKEEP := Lib.hid hkeep; clear hkeep
      have HLEN := Lib.hid hlen; clear hlen
      have HSTEP := Lib.hid hstep; clear hstep
      have HTS := Lib.hid h; clear h
      have hc3 := Lib.hid hn
      clear hn
      clear hin hTn hTs hd hcl hf
      go_enter Tryd.func54, Tryd.ntmps54
      go_wp2_with (go_at_call 53; refine (HED.out).mono ?_; rintro e w1 ⟨ea, en, ec, rfl, rfl, hes, hb1, hnew⟩)
      generalize hL : ends G n = L at *
      have hts1 := HTS.out.top hb1
      have hLl := hes.len
      have HL := Lib.hid hL; clear hL
      have HES := Lib.hid hes
      clear hes
      have HNEW := Lib.hid hnew; clear hnew
      have hsz1 := hb1.size
      go_loopg [15] L.length (fun gk i wr => ∃ (k : Nat) (a' : Option Addr) (cap' : Nat), k ≤ L.length ∧ gk = L.length - k ∧ i = .int .i64 k ∧ Hid (TS wr B F g G c1 c3 c4 c5 mk a' cap' ((L.take k).foldl (vis G f) T)) ∧
        Hid (Fr (fun k => k = c3 ∨ k = mk ∨ blk a = some k) w1 wr) ∧ Hid (∀ k, blk a' = some k → blk a = some k ∨ w1.heap.size ≤ k))
      case atStart => exact ⟨0, a, cap, Nat.zero_le _, by omega, rfl, Lib.hid (by simpa using hts1), Lib.hid (Fr.refl _ _), Lib.hid (fun k hk => .inl hk)⟩
      case round =>
        obtain ⟨k, a', cap', hk, rfl, rfl, HT, HF, HA⟩ := hrel
        by_cases hlt : k < L.length
        · have hesr : Sl encS 1 wr ea ec L := HES.out.fr HF.out (fun b off e hh => by
            have h1 := HNEW.out b (by rw [e]; rfl)
            rcases hh with hh | hh | hh
            · have := (Array.getElem?_eq_some_iff.1 HTS.out.h3).1; omega
            · have := HTS.out.map.lt; omega
            · have := (HTS.out.own.lt b hh).2; omega)
          obtain ⟨bb, off, rfl, hs1⟩ := hesr.s1 hlt
          have hc5 := cell0_of HT.out.h5
          have hcall := ih L[k] ((L.take k).foldl (vis G f) T) a' cap' wr (HDS.out _ (List.getElem_mem hlt)).1 (HDS.out _ (List.getElem_mem hlt)).2 (HKEEP.out k).1 (HKEEP.out k).2 HT.out
          rw [← HSTEP.out k hlt] at hcall
          have HCALL := Lib.hid hcall; clear hcall
          generalize L[k] = y at *
          clear hesr hts1
          go_wp2_with (go_at_call 54; refine (HCALL.out).mono ?_; rintro e w2 ⟨rfl, a2, cap2, ht2, hf2, ha2⟩)
          have HT2 := Lib.hid ht2
          clear ht2
          go_roundg (L.length - (k + 1))
          case measure => omega
          case rel =>
            have hszr := HF.out.size
            refine ⟨k + 1, a2, cap2, by omega, rfl, by go_num, HT2, Lib.hid (HF.out.trans hf2 (fun b hb hh => ?_)), Lib.hid (fun b hb => ?_)⟩
            · rcases hh with hh | hh | hh
              · exact .inl hh
              · exact .inr (.inl hh)
              · rcases HA.out b hh with h1 | h1
                · exact .inr (.inr h1)
                · omega
            · rcases ha2 b hb with h1 | h1
              · exact HA.out b h1
              · right; omega
        · have hkk : (L.take k) = L := List.take_of_length_le (by omega)
          have hT2 := HT.out
          have hnot := HNOT.out k
          have hlen := HLEN.out k
          rw [hkk] at hT2 hnot hlen
          generalize L.foldl (vis G f) T = T2 at *
          have hins : ins n T2 = T2 ++ [n] := by unfold ins; rw [if_neg hnot]
          rw [hins]
          have hap : aput n (.bool true) (setOf T2) = setOf (ins n T2) := aput_setOf n T2
          rw [hins] at hap
          have HINS := Lib.hid hins; clear hins
          have HAP := Lib.hid hap; clear hap
          clear hnot hkk hts1
          have hc4r := cell0_of hT2.h4
          have hszr := HF.out.size
          have HT2 := Lib.hid hT2; clear hT2
          clear HT
          obtain ⟨wo, rfl⟩ : ∃ wo : World, wo = wr := ⟨_, rfl⟩
          go_wp2_with (first
            | (at_mapUpdate
               refine wpList_store_s _ rfl _ _ _ 88 rfl Tryd.underlying88 Tryd.underlying9 mk rfl n rfl (.bool true) rfl (setOf T2) HT2.out.map ?_
               intro w4 hm4 hf4
               rw [HAP.out] at hm4
               have hk4 := HT2.out.mark hf4
               have hc34 := cell0_of hk4.2.2.1
               have HK4 := Lib.hid hk4
               clear hk4)
            | (at_builtin
               refine wpList_append_new encS 1 encS_len encS_one _ _ rfl _ _ 28 rfl 9 _ 16 Tryd.underlying28 infoS rfl (by omega) B a' cap' T2 _ rfl rfl HK4.out.2.2.2.2.2 n _ _ rfl rfl (by omega) (by omega) (by have h1 := HT2.out.b3; have h2 := (Array.getElem?_eq_some_iff.1 HK4.out.2.2.1).1; omega) ?_
               intro a5 cap5 w5 hown5 hf5 hk5
               have HC35 := Lib.hid ((hf5.block c3 (Array.getElem?_eq_some_iff.1 HK4.out.2.2.1).1 (fun hh => by obtain ⟨cur, hcur⟩ := HK4.out.2.2.2.2.2.cells hh; exact ne_type HK4.out.2.2.1 hcur (by decide) rfl)).trans HK4.out.2.2.1)
               have hc35 := cell0_of HC35.out
               have hz35 : w5.frozen? ⟨c3, 0, none⟩ = false := frozen_of_row _ _ _ _ _ HC35.out))
          go_end0
          have hk4 := HK4.out
          have f6 : Fr (fun k => k = c3) w5 (w5.setCell ⟨c3, 0, none⟩ (.slice a5 (T2.length + 1) cap5)) := Fr.setCell _ _ _ rfl
          have o2 : ∀ k, blk a' = some k → k < w4.heap.size ∧ ∃ cur, w4.heap[k]? = some (.cells cur 9 (0, 0)) := fun k hk => ⟨(hk4.2.2.2.2.2.lt k hk).2, hk4.2.2.2.2.2.cells hk⟩
          have far : ∀ {k : Nat} {v : Array Value} {t : TypeId}, w4.heap[k]? = some (.cells v t (0, 0)) → t ≠ 9 → t ≠ 28 → (w5.setCell ⟨c3, 0, none⟩ (.slice a5 (T2.length + 1) cap5)).heap[k]? = some (.cells v t (0, 0)) := fun {k v t} hk hne hne2 => by
            have hlt := (Array.getElem?_eq_some_iff.1 hk).1
            rw [f6.block k (Nat.lt_of_lt_of_le hlt hf5.size) (fun e => ne_type hk hk4.2.2.1 hne2 e), hf5.block k hlt (fun e => by
              obtain ⟨_, cur, hcur⟩ := o2 k e
              exact ne_type hk hcur hne rfl)]
            exact hk
          have hown6 := hown5.fr f6 (fun k hk e => by
            obtain ⟨cur, hcur⟩ := hown5.cells hk
            exact ne_type hcur HC35.out (by decide) e)
          have hszw4 := hf4.size
          have hszw5 := hf5.size
          refine ⟨rfl, a5, cap5, ?_, ?_, ?_⟩
          · rw [HINS.out]
            refine { graph := ?_, fb := HT2.out.fb, h1 := far hk4.2.1 (by decide) (by decide), h3 := ?_, h4 := far hk4.2.2.2.1 (by decide) (by decide), h5 := far hk4.2.2.2.2.1 (by decide) (by decide), own := hown6, map := ?_, b3 := HT2.out.b3, bm := HT2.out.bm }
            · refine (hk4.1.keep hf5 (fun k hk e => ?_)).keep f6 (fun k hk e => ?_)
              · have := HT2.out.fb k hk
                have := (hk4.2.2.2.2.2.lt k e).1
                omega
              · have := HT2.out.fb k hk
                have := HT2.out.b3
                omega
            · rw [heap_setCell_same w5 c3 0 _ _ _ HC35.out, List.length_append]
              rfl
            · refine ((hm4.fr hf5 (fun hh => ?_)).fr f6 (fun hh => ?_))
              · obtain ⟨_, cur, hcur⟩ := o2 mk hh
                exact hm4.ne_cells hcur rfl
              · exact hm4.ne_cells hk4.2.2.1 hh.symm
          · have hb1' : Fr (fun k => k = c3 ∨ k = mk ∨ blk a = some k) w w1 := Fr.of_below_top hb1 _
            refine (((hb1'.trans HF.out (fun _ _ e => e)).trans hf4 (fun _ _ e => .inr (.inl e))).trans hf5 (fun b hb hh => ?_)).trans f6 (fun _ _ e => .inl e)
            rcases HA.out b hh with h1 | h1
            · exact .inr (.inr h1)
            · omega
          · intro k hk
            rcases hk5 k hk with h1 | h1
            · rcases HA.out k h1 with h2 | h2
              · exact .inl h2
              · right; omega
            · right; omega
end Go.Proofs.YthpfladpbfbpjaaDoor

/- Topo of a graph: the list behind all visits, turned round. -/
namespace Go.Proofs.YthpfladpbfbpjaaDoor
open Go.RowKit

/-- a list whose first k and last k elements have changed places -/
def revK (T : List Str) (k : Nat) : List Str := (List.range T.length).map fun i => if i < k ∨ T.length - k ≤ i then nm' T (T.length - 1 - i) else nm' T i
where nm' (T : List Str) (i : Nat) : Str := T.getD i ByteArray.empty
theorem revK_len (T : List Str) (k : Nat) : (revK T k).length = T.length := by simp [revK]
theorem revK_get (T : List Str) (k i : Nat) (hi : i < T.length) : (revK T k)[i]? = some (if i < k ∨ T.length - k ≤ i then T.getD (T.length - 1 - i) ByteArray.empty else T.getD i ByteArray.empty) := by
  unfold revK revK.nm'
  rw [List.getElem?_map, List.getElem?_range hi]
  rfl
theorem revK_zero (T : List Str) : revK T 0 = T := by
  apply List.ext_getElem?
  intro i
  by_cases hi : i < T.length
  · rw [revK_get T 0 i hi, if_neg (by omega)]
    simp [hi]
  · rw [List.getElem?_eq_none (by rw [revK_len]; omega), List.getElem?_eq_none (by omega)]
theorem revK_done (T : List Str) (k : Nat) (h : T.length ≤ 2 * k + 1) : revK T k = T.reverse := by
  apply List.ext_getElem?
  intro i
  by_cases hi : i < T.length
  · rw [revK_get T k i hi, List.getElem?_reverse hi]
    by_cases hk : i < k ∨ T.length - k ≤ i
    · rw [if_pos hk]
      simp [show T.length - 1 - i < T.length from by omega]
    · rw [if_neg hk]
      have e : T.length - 1 - i = i := by omega
      rw [e]
      simp [hi]
  · rw [List.getElem?_eq_none (by rw [revK_len]; omega), List.getElem?_eq_none (by simp; omega)]
theorem revK_step (T : List Str) (k : Nat) (h : 2 * k + 1 < T.length) :
    ((revK T k).set k (T.getD (T.length - 1 - k) ByteArray.empty)).set (T.length - 1 - k) (T.getD k ByteArray.empty) = revK T (k + 1) := by
  apply List.ext_getElem?
  intro i
  by_cases hi : i < T.length
  · rw [List.getElem?_set, List.getElem?_set, revK_get T k i hi, revK_get T (k + 1) i hi]
    simp only [List.length_set, revK_len]
    by_cases h1 : T.length - 1 - k = i
    · rw [if_pos h1, if_pos (by omega), if_pos (by omega)]
      rw [show T.length - 1 - i = k from by omega]
    · rw [if_neg h1]
      by_cases h2 : k = i
      · subst h2
        rw [if_pos rfl, if_pos (by omega), if_pos (by omega)]
      · rw [if_neg h2]
        by_cases h3 : i < k ∨ T.length - k ≤ i
        · rw [if_pos h3, if_pos (by omega)]
        · rw [if_neg h3, if_neg (by omega)]
  · rw [List.getElem?_eq_none (by simp [revK_len]; omega), List.getElem?_eq_none (by rw [revK_len]; omega)]

theorem heap_alloc_old {w : World} {k : Nat} {o : Obj} (h : w.heap[k]? = some o) (o' : Obj) : (w.alloc o').heap[k]? = some o := (Below.heap_alloc w o' k (Array.getElem?_eq_some_iff.1 h).1).trans h
/-- The order that Topo returns. -/
def topoL (G : Gr) (f : Nat) : List Str := (postG G f).reverse

set_option maxRecDepth 100000 in
theorem topo_calls {w : World} {F : Nat → Prop} {g : Nat} {G : Gr} {d : Str → Nat} {f : Nat} (h : GraphAt w F g G) (hd : ∀ a b, hasE G a b = true → d b < d a) (hcl : ∀ a b, hasE G a b = true → b ∈ names G) (hsm : G.length ≤ 1048576) (hf : ∀ x ∈ names G, d x < f) :
    Calls Tryd.prog 41 #[.pointer (some ⟨g, 0, none⟩)] w <| RetSl fun a n cap w' => n = (topoL G f).length ∧ Sl encS 1 w' a cap (topoL G f) ∧ Below w.heap.size w w' := by
  have hG := h.bound
  obtain ⟨na, nc, mb, me, rs, h⟩ := h
  obtain ⟨ns, hns⟩ : ∃ ns, names G = ns := ⟨_, rfl⟩
  have hlen : G.length = ns.length := by rw [← hns]; simp
  have hnl : ns.length ≤ 1048576 := by omega
  have hc0 := (h.keep (Fr.alloc NoB w (.cells #[.pointer (some ⟨g, 0, none⟩)] 61)) (fun _ _ e => e)).cell0
  rw [hlen] at hc0
  have hmm := @run_makeMap Tryd.prog
  have hgl := h.lt
  have hg2 : g < w.heap.size + 1 + 1 := by omega
  have hg3 : g < w.heap.size + 1 + 1 + 1 := by omega
  have hg4 : g < w.heap.size + 1 + 1 + 1 + 1 := by omega
  have hg5 : g < w.heap.size + 1 + 1 + 1 + 1 + 1 := by omega
  have HG := Lib.hid h; clear h
  have HD := Lib.hid hd; clear hd
  have HCL := Lib.hid hcl; clear hcl
  have HFF := Lib.hid hf; clear hf
  have HLEN := Lib.hid hlen; clear hlen
  have HNS := Lib.hid hns; clear hns
  go_enter Tryd.func41, Tryd.ntmps41
  go_wp2_with (at_make
               refine wpList_make0 Value.string (.string ByteArray.empty) _ rfl _ _ 28 rfl w.heap.size 9 16 Tryd.underlying28 infoS _ ns.length rfl rfl rfl (by omega) (by omega) (by simp) ?_
               intro w2 hown2 hf2 hs2
               have hcg2 : w2.cell? ⟨g, 0, none⟩ = some (.slice na ns.length nc) := (hf2.cell (a := ⟨g, 0, none⟩) (by simp; omega) (fun e => e)).trans hc0
               have hc12 : w2.cell? ⟨w.heap.size, 0, none⟩ = some (.pointer (some ⟨g, 0, none⟩)) := (hf2.cell (a := ⟨w.heap.size, 0, none⟩) (by simp) (fun e => e)).trans (cell0_of (heap_alloc_new w _)))
  have hts : TS ((((w2.alloc (.cells #[.slice (some ⟨w.heap.size + 1, 0, none⟩) 0 ns.length] 28)).alloc (.map #[] 0)).alloc (.cells #[.map (some (w.heap.size + 1 + 1 + 1))] 88)).alloc
      (.cells #[.func (.func 54) #[] #[.pointer (some ⟨w.heap.size + 1 + 1 + 1 + 1, 0, none⟩), .pointer (some ⟨w.heap.size, 0, none⟩), .pointer (some ⟨w.heap.size + 1 + 1 + 1 + 1 + 1, 0, none⟩), .pointer (some ⟨w.heap.size + 1 + 1, 0, none⟩)]] 83))
      w.heap.size (fun k => F k ∧ k < w.heap.size) g G w.heap.size (w.heap.size + 1 + 1) (w.heap.size + 1 + 1 + 1 + 1) (w.heap.size + 1 + 1 + 1 + 1 + 1) (w.heap.size + 1 + 1 + 1) (some ⟨w.heap.size + 1, 0, none⟩) ns.length [] := by
    refine { graph := ?_, fb := fun k hk => hk.2, h1 := ?_, h3 := ?_, h4 := ?_, h5 := ?_, own := ?_, map := ?_, b3 := by omega, bm := by omega }
    · exact (((((hG.alloc _).keep hf2 (fun _ _ e => e)).alloc _).alloc _).alloc _).alloc _
    · exact heap_alloc_old (heap_alloc_old (heap_alloc_old (heap_alloc_old ((hf2.block _ (by simp) (fun e => e)).trans (heap_alloc_new w _)) _) _) _) _
    · refine heap_alloc_old (heap_alloc_old (heap_alloc_old ?_ _) _) _
      have := heap_alloc_new w2 (.cells #[.slice (some ⟨w.heap.size + 1, 0, none⟩) 0 ns.length] 28)
      rw [hs2] at this
      simpa using this
    · refine heap_alloc_old ?_ _
      have := heap_alloc_new ((w2.alloc (.cells #[.slice (some ⟨w.heap.size + 1, 0, none⟩) 0 ns.length] 28)).alloc (.map #[] 0)) (.cells #[.map (some (w.heap.size + 1 + 1 + 1))] 88)
      simp only [World.size_alloc, hs2] at this
      exact this
    · have := heap_alloc_new (((w2.alloc (.cells #[.slice (some ⟨w.heap.size + 1, 0, none⟩) 0 ns.length] 28)).alloc (.map #[] 0)).alloc (.cells #[.map (some (w.heap.size + 1 + 1 + 1))] 88)) (.cells #[.func (.func 54) #[] #[.pointer (some ⟨w.heap.size + 1 + 1 + 1 + 1, 0, none⟩), .pointer (some ⟨w.heap.size, 0, none⟩), .pointer (some ⟨w.heap.size + 1 + 1 + 1 + 1 + 1, 0, none⟩), .pointer (some ⟨w.heap.size + 1 + 1, 0, none⟩)]] 83)
      simp only [World.size_alloc, hs2] at this
      exact this
    · have h2 : Own encS 1 w2 w.heap.size 9 (some ⟨w.heap.size + 1, 0, none⟩) ns.length [] := by
        have := hown2
        simp only [World.size_alloc] at this
        exact this
      exact (((h2.alloc _).alloc _).alloc _).alloc _
    · have := SMap.made (w2.alloc (.cells #[.slice (some ⟨w.heap.size + 1, 0, none⟩) 0 ns.length] 28))
      simp only [World.size_alloc, hs2] at this
      exact (this.alloc _).alloc _
  have hbw : Below w.heap.size w ((((w2.alloc (.cells #[.slice (some ⟨w.heap.size + 1, 0, none⟩) 0 ns.length] 28)).alloc (.map #[] 0)).alloc (.cells #[.map (some (w.heap.size + 1 + 1 + 1))] 88)).alloc
      (.cells #[.func (.func 54) #[] #[.pointer (some ⟨w.heap.size + 1 + 1 + 1 + 1, 0, none⟩), .pointer (some ⟨w.heap.size, 0, none⟩), .pointer (some ⟨w.heap.size + 1 + 1 + 1 + 1 + 1, 0, none⟩), .pointer (some ⟨w.heap.size + 1 + 1, 0, none⟩)]] 83)) := by
    simp only [World.size_alloc] at hs2
    have h2 : Below w.heap.size w w2 := ((Below.refl _ _).alloc (Nat.le_refl _) _).fr hf2 (Nat.le_refl _) (fun _ e => e.elim)
    exact (((h2.alloc (by omega) _).alloc (by simp; omega) _).alloc (by simp; omega) _).alloc (by simp; omega) _
  generalize ((((w2.alloc (.cells #[.slice (some ⟨w.heap.size + 1, 0, none⟩) 0 ns.length] 28)).alloc (.map #[] 0)).alloc (.cells #[.map (some (w.heap.size + 1 + 1 + 1))] 88)).alloc
      (.cells #[.func (.func 54) #[] #[.pointer (some ⟨w.heap.size + 1 + 1 + 1 + 1, 0, none⟩), .pointer (some ⟨w.heap.size, 0, none⟩), .pointer (some ⟨w.heap.size + 1 + 1 + 1 + 1 + 1, 0, none⟩), .pointer (some ⟨w.heap.size + 1 + 1, 0, none⟩)]] 83)) = W at *
  clear hown2 hf2 hs2 hcg2 hc12 hc0 hmm hG
  have hvis := visit_calls (B := w.heap.size) (F := fun k => F k ∧ k < w.heap.size) (g := g) (c1 := w.heap.size) (c3 := w.heap.size + 1 + 1) (c4 := w.heap.size + 1 + 1 + 1 + 1) (c5 := w.heap.size + 1 + 1 + 1 + 1 + 1) (mk := w.heap.size + 1 + 1 + 1) HD.out HCL.out hsm f
  have HVIS := Lib.hid hvis; clear hvis
  have hsl : Hid (∀ wr, Below w.heap.size w wr → Sl encS 1 wr na nc ns) := Lib.hid (fun wr hb => by
    have := (HG.out.nodes.top hb).sl encS_len
    rwa [HNS.out] at this)
  have HTS0 := Lib.hid hts; clear hts
  go_loopg [23] ns.length (fun gk i wr => ∃ (k : Nat) (a : Option Addr) (cap : Nat), k ≤ ns.length ∧ gk = ns.length - k ∧ i = .int .i64 k ∧
    Hid (TS wr w.heap.size (fun k => F k ∧ k < w.heap.size) g G w.heap.size (w.heap.size + 1 + 1) (w.heap.size + 1 + 1 + 1 + 1) (w.heap.size + 1 + 1 + 1 + 1 + 1) (w.heap.size + 1 + 1 + 1) a cap ((ns.take k).foldl (vis G f) [])) ∧ Below w.heap.size w wr)
  case atStart => exact ⟨0, _, _, Nat.zero_le _, by omega, rfl, Lib.hid (by simpa using HTS0.out), hbw⟩
  case round =>
    clear hbw
    obtain ⟨k, a, cap, hk, rfl, rfl, HT, hb⟩ := hrel
    by_cases hlt : k < ns.length
    · obtain ⟨bb, off, rfl, hs1⟩ := (hsl.out wr hb).s1 hlt
      have hc5 := cell0_of HT.out.h5
      have hmem : ns[k] ∈ names G := by rw [HNS.out]; exact List.getElem_mem hlt
      have hkeep := fold_keep (G := G) f (fun T => T.Nodup ∧ ∀ x ∈ T, x ∈ names G) (fun T n hn h => vis_nodup f T n hn h) (ns.take k) [] (fun x hx => by rw [HNS.out]; exact List.mem_of_mem_take hx) ⟨by simp, by simp⟩
      have hcall := HVIS.out ns[k] ((ns.take k).foldl (vis G f) []) a cap wr (HFF.out _ hmem) hmem hkeep.1 hkeep.2 HT.out
      have hft := foldl_take (vis G f) [] ns k hlt
      rw [← hft] at hcall
      have HCALL := Lib.hid hcall; clear hcall
      clear hft hmem hkeep
      generalize ns[k] = y at *
      go_wp2_with (go_at_call 54; refine (HCALL.out).mono ?_; rintro e w2 ⟨rfl, a2, cap2, ht2, hf2, ha2⟩)
      have HT2 := Lib.hid ht2
      clear ht2
      go_roundg (ns.length - (k + 1))
      case measure => omega
      case rel =>
        exact ⟨k + 1, a2, cap2, by omega, rfl, by go_num, HT2, hb.fr hf2 (Nat.le_refl _) (fun b hh => by
          rcases hh with hh | hh | hh
          · omega
          · omega
          · exact (HT.out.own.lt b hh).1)⟩
    · have hTT : (ns.take k).foldl (vis G f) [] = postG G f := by
        rw [List.take_of_length_le (by omega)]
        unfold postG
        rw [HNS.out]
      rw [hTT] at HT
      have hpl := nodup_subset_len (postG_nodup G f).1 (postG_nodup G f).2
      have hpl2 : (postG G f).length ≤ 1048576 := by simp only [List.length_map] at hpl; omega
      clear hTT hpl
      have hrev : topoL G f = (postG G f).reverse := rfl
      have HREV := Lib.hid hrev; clear hrev
      generalize postG G f = T at *
      have hc3 := cell0_of HT.out.h3
      obtain ⟨wo, rfl⟩ : ∃ wo : World, wo = wr := ⟨_, rfl⟩
      go_wp2
      have hw1 : IntKind.i64.wrap ((T.length : Int) - 1) = (T.length : Int) - 1 := IntWalk.i64_in _ (by omega)
      go_quiet (fail)
      clear hw1
      have hown := HT.out.own
      have hh3 := Lib.hid HT.out.h3
      have hb30 : w.heap.size + 1 + 1 < wo.heap.size := (Array.getElem?_eq_some_iff.1 HT.out.h3).1
      clear HT hc3 hsl HVIS HTS0
      go_wp2
      go_loopg [8, 9] T.length (fun gk v8 v9 wr => ∃ (k : Nat) (jv : Int), gk = T.length - k ∧ v8 = .int .i64 k ∧ v9 = .int .i64 jv ∧ jv = (T.length : Int) - 1 - (k : Int) ∧ Hid (Own encS 1 wr w.heap.size 9 a cap (revK T k)) ∧
        Hid (wr.heap[w.heap.size + 1 + 1]? = some (.cells #[.slice a T.length cap] 28 (0, 0))) ∧ Below w.heap.size w wr)
      case atStart => exact ⟨0, _, by omega, rfl, rfl, by simp, Lib.hid (by rw [revK_zero]; exact hown.drewN _), hh3, hb.fr (Fr.drewN NoB _ _) (Nat.le_refl _) (fun _ e => e.elim)⟩
      case round =>
        clear hown hh3 hb
        obtain ⟨k, jv, rfl, rfl, rfl, hjv, HO, H3, hb⟩ := hrel
        have hc3 := cell0_of H3.out
        by_cases hlt : (k : Int) < jv
        · obtain ⟨j, rfl⟩ : ∃ j : Nat, jv = (j : Int) := ⟨jv.toNat, by omega⟩
          have hown := HO.out
          obtain ⟨tg, rfl⟩ : ∃ tg, a = some ⟨tg, 0, none⟩ := by
            rcases hown.2 with ⟨hv, hn⟩ | ⟨tg, c3, cur, hv, _⟩
            · rw [revK_len] at hn
              omega
            · simp only [Value.slice.injEq] at hv
              exact ⟨tg, hv.1⟩
          have hk1 : k < (revK T k).length := by rw [revK_len]; omega
          have hj1 : j < (revK T k).length := by rw [revK_len]; omega
          have e1 := Own.at1 (f := Value.string) hown k hk1
          have e2 := Own.at1 (f := Value.string) hown j hj1
          have hz1 := Own.frozen1 (f := Value.string) hown k
          have hz2 := Own.frozen1 (f := Value.string) hown j
          have hx1 : (revK T k)[k] = T.getD k ByteArray.empty := by
            have := revK_get T k k (by omega)
            rw [List.getElem?_eq_getElem hk1, if_neg (by omega)] at this
            exact Option.some.inj this
          have hx2 : (revK T k)[j] = T.getD (T.length - 1 - k) ByteArray.empty := by
            have := revK_get T k j (by omega)
            rw [List.getElem?_eq_getElem hj1, if_neg (by omega)] at this
            rw [show T.length - 1 - k = j from by omega]
            exact Option.some.inj this
          rw [hx1] at e1
          rw [hx2] at e2
          have hst := revK_step T k (by omega)
          rw [show T.length - 1 - k = j from by omega] at hst e2
          clear hx1 hx2 hk1 hj1
          generalize T.getD k ByteArray.empty = x at *
          generalize T.getD j ByteArray.empty = y at *
          have hs1 := (Own.set1 (f := Value.string) (Own.set1 (f := Value.string) hown.drew k y) j x)
          rw [hst] at hs1
          have hkj : k ≠ j := by omega
          have hst2 : ((revK T k).set j x).set k y = revK T (k + 1) := by rw [List.set_comm _ _ (fun e => hkj e.symm)]; exact hst
          have hs2 := (Own.set1 (f := Value.string) (Own.set1 (f := Value.string) hown.drew j x) k y)
          rw [hst2] at hs2
          have htl := (hown.lt tg rfl)
          have hne3 : w.heap.size + 1 + 1 ≠ tg := by
            obtain ⟨cur, hcur⟩ := hown.cells (k := tg) rfl
            exact ne_type H3.out hcur (by decide)
          have hfa : ∀ (p q : Nat) (u v : Value), Fr (fun b => b = tg) wr ((wr.drew.setCell ⟨tg, p, none⟩ u).setCell ⟨tg, q, none⟩ v) := fun p q u v =>
            ((Fr.drew (fun b => b = tg) wr).trans (Fr.setCell (S := fun b => b = tg) wr.drew ⟨tg, p, none⟩ u rfl) (fun _ _ e => e)).trans (Fr.setCell (S := fun b => b = tg) _ ⟨tg, q, none⟩ v rfl) (fun _ _ e => e)
          have HFA := Lib.hid hfa; clear hfa
          have HST := Lib.hid hst; clear hst
          have HST2 := Lib.hid hst2; clear hst2
          have HS1 := Lib.hid hs1; clear hs1
          have HS2 := Lib.hid hs2; clear hs2
          have hjn : ((j : Int)).toNat = j := by simp
          have hkn : ((k : Int)).toNat = k := by simp
          have hj2 : (j : Int) < (T.length : Int) := by omega
          have hk2 : (k : Int) < (T.length : Int) := by omega
          have hj0 : (0 : Int) ≤ (j : Int) := by omega
          have hk0 : (0 : Int) ≤ (k : Int) := by omega
          have HOWN := Lib.hid hown; clear hown
          have hjv' := Lib.hid hjv
          clear hjv
          go_wp2
          go_region
          go_wp2
          go_roundg (T.length - (k + 1))
          case measure => have := hjv'.out; omega
          case rel =>
            have h3 : Fr (fun b => b = tg) wr ((wr.setCell ⟨tg, k, none⟩ (.string y)).setCell ⟨tg, j, none⟩ (.string x)).drew := HFA.out k j (.string y) (.string x)
            refine ⟨k + 1, (j : Int) - 1, rfl, by go_num, rfl, by have := hjv'.out; omega, Lib.hid HS1.out, Lib.hid ?_, hb.fr h3 (Nat.le_refl _) (fun b e => by omega)⟩
            exact (h3.block _ (Array.getElem?_eq_some_iff.1 H3.out).1 hne3).trans H3.out
        · have hown := HO.out
          rw [revK_done T k (by omega)] at hown
          have hsl2 := hown.sl encS_len
          clear HO
          go_wp2
          go_ret
          exact ⟨_, _, _, rfl, by rw [HREV.out]; simp, by rw [HREV.out]; exact hsl2, hb⟩
end Go.Proofs.YthpfladpbfbpjaaDoor

/- What the package's Parse keeps while it works: the graph, the errors, blocks that stay as they are; and what its small callees do to that. -/
namespace Go.Proofs.YthpfladpbfbpjaaDoor
open Go.RowKit

theorem addEdge_rep {w : World} {F : Nat → Prop} {g : Nat} {G : Gr} {na : Option Addr} {nc mb me : Nat} {rs : List Nat} (s t : Str) (h : GRep w F g G na nc mb me rs) (hs : s ∈ names G) :
    Calls Tryd.prog 50 #[.pointer (some ⟨g, 0, none⟩), .string s, .string t] w fun e w' => e = .returned (.tuple #[]) ∧ GRep w' F g (addE G s t) na nc mb me rs ∧ Fr F w w' := by
  obtain ⟨i, hi, rfl⟩ := names_at hs
  clear hs
  have hi' : i < rs.length := by rw [h.len]; exact hi
  have hc := h.cell2
  have hl := h.tbl.look Tryd.underlying67 Tryd.underlying9 (zeroM w) G[i].1
  rw [h.lookR i hi hi', Option.getD_some] at hl
  obtain ⟨w1, hu, hm, hf⟩ := (h.sets i hi' hi).store Tryd.underlying88 Tryd.underlying9 t (.bool true)
  rw [aput_setOf] at hm
  have hres : GRep w1 F g (addE G G[i].1 t) na nc mb me rs := by
    unfold addE
    rw [setE_at h.nodup i hi]
    exact h.upd i hi hi' _ hm hf
  have hfr : Fr F w w1 := hf.mono (fun b _ e => by subst e; exact h.fr _ (List.getElem_mem hi'))
  have HR := Lib.hid hres; clear hres
  have HM := Lib.hid hm; clear hm
  clear h hf
  go_enter Tryd.func50, Tryd.ntmps50
  go_wp2
  go_end0
  exact ⟨rfl, HR.out, hfr⟩

/-- the graph at g reads as G, the errors' variable at ec as E; the blocks of X are none of theirs -/
structure PR (X : Nat → Prop) (g ec : Nat) (wr : World) (G : Gr) (E : List Str) (F : Nat → Prop) (ea : Option Addr) (ecap : Nat) (na : Option Addr) (nc mb me : Nat) (rs : List Nat) : Prop where
  gr : GRep wr F g G na nc mb me rs
  fb : ∀ k, F k → k < wr.heap.size
  er : wr.heap[ec]? = some (.cells #[.slice ea E.length ecap] 28 (0, 0))
  own : Own encS 1 wr 0 9 ea ecap E
  ecF : ¬ F ec
  eaF : ∀ k, blk ea = some k → ¬ F k
  xF : ∀ k, X k → ¬ F k
  xec : ¬ X ec
  xea : ∀ k, blk ea = some k → ¬ X k
  xl : ∀ k, X k → k < wr.heap.size
  sz : ∀ x ∈ E, x.size ≤ 28
/-- the same, the graph's blocks of its table and list told -/
def PN (X : Nat → Prop) (g ec : Nat) (wr : World) (G : Gr) (E : List Str) (na : Option Addr) (nc mb me : Nat) (rs : List Nat) : Prop := ∃ F ea ecap, PR X g ec wr G E F ea ecap na nc mb me rs
def PE (X : Nat → Prop) (g ec : Nat) (wr : World) (G : Gr) (E : List Str) : Prop := ∃ na nc mb me rs, PN X g ec wr G E na nc mb me rs
section
variable {X S : Nat → Prop} {g ec : Nat} {w w' : World} {G : Gr} {E : List Str} {F : Nat → Prop} {ea : Option Addr} {ecap : Nat} {na : Option Addr} {nc mb me : Nat} {rs : List Nat}
theorem PR.lt (h : PR X g ec w G E F ea ecap na nc mb me rs) : ec < w.heap.size := (Array.getElem?_eq_some_iff.1 h.er).1
theorem PR.fr (h : PR X g ec w G E F ea ecap na nc mb me rs) (f : Fr S w w') (hS : ∀ k, k < w.heap.size → S k → X k) : PR X g ec w' G E F ea ecap na nc mb me rs where
  gr := h.gr.keep f (fun k hk hs => h.xF k (hS k (h.fb k hk) hs) hk)
  fb k hk := Nat.lt_of_lt_of_le (h.fb k hk) f.size
  er := (f.block ec h.lt (fun hs => h.xec (hS ec h.lt hs))).trans h.er
  own := h.own.fr f (fun k hk hs => h.xea k hk (hS k (h.own.lt k hk).2 hs))
  ecF := h.ecF
  eaF := h.eaF
  xF := h.xF
  xec := h.xec
  xea := h.xea
  xl k hk := Nat.lt_of_lt_of_le (h.xl k hk) f.size
  sz := h.sz
theorem PR.mono {Y : Nat → Prop} (h : PR X g ec w G E F ea ecap na nc mb me rs) (hY : ∀ k, Y k → X k) : PR Y g ec w G E F ea ecap na nc mb me rs :=
  { h with xF := fun k hk => h.xF k (hY k hk), xec := fun hh => h.xec (hY _ hh), xea := fun k hk hh => h.xea k hk (hY k hh), xl := fun k hk => h.xl k (hY k hk) }
/-- a block more is kept -/
theorem PR.box (h : PR X g ec w G E F ea ecap na nc mb me rs) (o : Obj) : PR (fun k => X k ∨ k = w.heap.size) g ec (w.alloc o) G E F ea ecap na nc mb me rs := by
  have h1 := h.fr (Fr.alloc NoB w o) (fun _ _ e => e.elim)
  refine { h1 with xF := ?_, xec := ?_, xea := ?_, xl := ?_ }
  · rintro k (hk | rfl) hf
    · exact h.xF k hk hf
    · have := h.fb _ hf; omega
  · rintro (hk | e)
    · exact h.xec hk
    · have := h.lt; omega
  · rintro k hk (hx | e)
    · exact h.xea k hk hx
    · have := (h.own.lt k hk).2; omega
  · rintro k (hk | rfl)
    · exact h1.xl k hk
    · simp
theorem PN.fr (h : PN X g ec w G E na nc mb me rs) (f : Fr S w w') (hS : ∀ k, k < w.heap.size → S k → X k) : PN X g ec w' G E na nc mb me rs := by
  obtain ⟨F, ea, ecap, h⟩ := h
  exact ⟨F, ea, ecap, h.fr f hS⟩
theorem PN.mono {Y : Nat → Prop} (h : PN X g ec w G E na nc mb me rs) (hY : ∀ k, Y k → X k) : PN Y g ec w G E na nc mb me rs := by
  obtain ⟨F, ea, ecap, h⟩ := h
  exact ⟨F, ea, ecap, h.mono hY⟩
theorem PN.box (h : PN X g ec w G E na nc mb me rs) (o : Obj) : PN (fun k => X k ∨ k = w.heap.size) g ec (w.alloc o) G E na nc mb me rs := by
  obtain ⟨F, ea, ecap, h⟩ := h
  exact ⟨F, ea, ecap, h.box o⟩
theorem PE.fr (h : PE X g ec w G E) (f : Fr S w w') (hS : ∀ k, k < w.heap.size → S k → X k) : PE X g ec w' G E := by
  obtain ⟨a, b, c, d, e, h⟩ := h
  exact ⟨a, b, c, d, e, h.fr f hS⟩
theorem PE.mono {Y : Nat → Prop} (h : PE X g ec w G E) (hY : ∀ k, Y k → X k) : PE Y g ec w G E := by
  obtain ⟨a, b, c, d, e, h⟩ := h
  exact ⟨a, b, c, d, e, h.mono hY⟩
theorem PE.box (h : PE X g ec w G E) (o : Obj) : PE (fun k => X k ∨ k = w.heap.size) g ec (w.alloc o) G E := by
  obtain ⟨a, b, c, d, e, h⟩ := h
  exact ⟨a, b, c, d, e, h.box o⟩
/-- other blocks are kept from here on: some of those that were, and new ones -/
theorem PR.to {Y : Nat → Prop} (h : PR X g ec w G E F ea ecap na nc mb me rs) (f : Fr S w w') (hS : ∀ k, k < w.heap.size → S k → X k) (hY : ∀ k, Y k → X k ∨ (w.heap.size ≤ k ∧ k < w'.heap.size)) : PR Y g ec w' G E F ea ecap na nc mb me rs := by
  have h1 := h.fr f hS
  refine { h1 with xF := ?_, xec := ?_, xea := ?_, xl := ?_ }
  · intro k hk hf
    rcases hY k hk with hx | hx
    · exact h.xF k hx hf
    · have := h.fb _ hf; omega
  · intro hk
    rcases hY _ hk with hx | hx
    · exact h.xec hx
    · have := h.lt; omega
  · intro k hk hy
    rcases hY _ hy with hx | hx
    · exact h.xea k hk hx
    · have := (h.own.lt k hk).2; omega
  · intro k hk
    rcases hY _ hk with hx | hx
    · exact h1.xl k hx
    · exact hx.2
theorem PE.to {Y : Nat → Prop} (h : PE X g ec w G E) (f : Fr S w w') (hS : ∀ k, k < w.heap.size → S k → X k) (hY : ∀ k, Y k → X k ∨ (w.heap.size ≤ k ∧ k < w'.heap.size)) : PE Y g ec w' G E := by
  obtain ⟨a, b, c, d, e, F, ea, ecap, h⟩ := h
  exact ⟨a, b, c, d, e, F, ea, ecap, h.to f hS hY⟩
theorem RS.frX {B : Nat} {T : TypeId} {f : Bool → Value} {a : Option Addr} {cap : Nat} {qs : List QV} {R : List Rl} (h : RS w B T f a cap qs R) (k : Fr S w w') (hS : ∀ k, B ≤ k → k < w.heap.size → ¬ S k) : RS w' B T f a cap qs R :=
  ⟨h.row.fr k (fun b e => hS b (h.row.lt b e).1 (h.row.lt b e).2), h.len, fun i hi hi' => by
    obtain ⟨h1, h2, h3, h4, h5⟩ := h.inner i hi hi'
    exact ⟨h1, h2, h3, h4.fr k (fun b e => hS b (h4.lt b e).1 (h4.lt b e).2), h5.fr k (fun b e => hS b (h5.lt b e).1 (h5.lt b e).2)⟩⟩
theorem PN.pe (h : PN X g ec w G E na nc mb me rs) : PE X g ec w G E := ⟨_, _, _, _, _, h⟩
theorem PN.at (h : PN X g ec w G E na nc mb me rs) : ∃ F, GRep w F g G na nc mb me rs := by
  obtain ⟨F, _, _, h⟩ := h
  exact ⟨F, h.gr⟩
theorem PN.top (h : PN X g ec w G E na nc mb me rs) (hb : Below w.heap.size w w') : PN X g ec w' G E na nc mb me rs := h.fr (Fr.of_below_top hb NoB) (fun _ _ e => e.elim)
theorem PE.top (h : PE X g ec w G E) (hb : Below w.heap.size w w') : PE X g ec w' G E := h.fr (Fr.of_below_top hb NoB) (fun _ _ e => e.elim)
theorem PN.xl (h : PN X g ec w G E na nc mb me rs) : ∀ k, X k → k < w.heap.size := by
  obtain ⟨F, ea, ecap, h⟩ := h
  exact h.xl
theorem PE.xl (h : PE X g ec w G E) : ∀ k, X k → k < w.heap.size := by
  obtain ⟨_, _, _, _, _, h⟩ := h
  exact h.xl

/-! ### the callees -/
theorem addEdge_PN (s t : Str) (h : PN X g ec w G E na nc mb me rs) (hs : s ∈ names G) :
    Calls Tryd.prog 50 #[.pointer (some ⟨g, 0, none⟩), .string s, .string t] w fun e w' => e = .returned (.tuple #[]) ∧ PN X g ec w' (addE G s t) E na nc mb me rs ∧ Fr (fun k => ¬ X k) w w' := by
  obtain ⟨F, ea, ecap, h⟩ := h
  refine (addEdge_rep s t h.gr hs).mono ?_
  rintro e w' ⟨rfl, hg, hf⟩
  refine ⟨rfl, ⟨F, ea, ecap, ?_⟩, hf.mono (fun k _ hk hx => h.xF k hx hk)⟩
  exact { gr := hg, fb := fun k hk => Nat.lt_of_lt_of_le (h.fb k hk) hf.size, er := (hf.block ec h.lt h.ecF).trans h.er, own := h.own.fr hf h.eaF, ecF := h.ecF, eaF := h.eaF, xF := h.xF, xec := h.xec, xea := h.xea, xl := fun k hk => Nat.lt_of_lt_of_le (h.xl k hk) hf.size, sz := h.sz }
theorem addEdge_PE (s t : Str) (h : PE X g ec w G E) (hs : s ∈ names G) :
    Calls Tryd.prog 50 #[.pointer (some ⟨g, 0, none⟩), .string s, .string t] w fun e w' => e = .returned (.tuple #[]) ∧ PE X g ec w' (addE G s t) E ∧ Fr (fun k => ¬ X k) w w' := by
  obtain ⟨a, b, c, d, e, h⟩ := h
  exact (addEdge_PN s t h hs).mono fun _ _ ⟨h1, h2, h3⟩ => ⟨h1, h2.pe, h3⟩
theorem hasEdge_PN (s t : Str) (h : PN X g ec w G E na nc mb me rs) :
    Calls Tryd.prog 51 #[.pointer (some ⟨g, 0, none⟩), .string s, .string t] w fun e w' => e = .returned (.bool (hasE G s t)) ∧ w = w' := by
  obtain ⟨F, hg⟩ := h.at
  exact hasEdge_calls s t hg.at
theorem hasEdge_PE (s t : Str) (h : PE X g ec w G E) :
    Calls Tryd.prog 51 #[.pointer (some ⟨g, 0, none⟩), .string s, .string t] w fun e w' => e = .returned (.bool (hasE G s t)) ∧ w = w' := by
  obtain ⟨a, b, c, d, e, h⟩ := h
  exact hasEdge_PN s t h
theorem addNode_PE (s : Str) (h : PE X g ec w G E) (hsm : G.length ≤ 4000000) :
    Calls Tryd.prog 49 #[.pointer (some ⟨g, 0, none⟩), .string s] w fun e w' => e = .returned (.bool (!decide (s ∈ names G))) ∧ PE X g ec w' (addN G s) E ∧ Fr (fun k => ¬ X k) w w' := by
  obtain ⟨na, nc, mb, me, rs, F, ea, ecap, h⟩ := h
  refine (addNode_calls s h.gr.at (by omega)).mono ?_
  rintro e w' ⟨rfl, hg, hf⟩
  refine ⟨rfl, ?_, hf.mono (fun k _ hk hx => h.xF k hx hk)⟩
  obtain ⟨na', nc', mb', me', rs', hg⟩ := hg.bound
  refine ⟨na', nc', mb', me', rs', (fun k => (F k ∨ w.heap.size ≤ k) ∧ k < w'.heap.size), ea, ecap, ?_⟩
  exact { gr := hg, fb := fun k hk => hk.2, er := (hf.block ec h.lt h.ecF).trans h.er, own := h.own.fr hf h.eaF, ecF := fun hk => hk.1.elim h.ecF (fun e => by have := h.lt; omega), eaF := fun k hk hh => hh.1.elim (h.eaF k hk) (fun e => by have := (h.own.lt k hk).2; omega),
          xF := fun k hk hh => hh.1.elim (h.xF k hk) (fun e => by have := h.xl k hk; omega), xec := h.xec, xea := h.xea, xl := fun k hk => Nat.lt_of_lt_of_le (h.xl k hk) hf.size, sz := h.sz }
theorem PR.look2 (h : PR X g ec w G E F ea ecap na nc mb me rs) (s : Str) : ∃ i : Int, (Instr.lookup 66 (.map (some mb)) (.string s) true).run Tryd.prog w = .ok (.tuple #[.int .i64 i, .bool (decide (s ∈ names G))]) w := by
  have hl := h.gr.idx.look2 Tryd.underlying66 Tryd.underlying9 (zeroI w) s
  by_cases hs : s ∈ names G
  · obtain ⟨i, hi, rfl⟩ := names_at hs
    rw [h.gr.lookI i hi] at hl
    simp only [Option.getD_some, Option.isSome_some] at hl
    exact ⟨i, by rw [hl]; simp [hs]⟩
  · rw [h.gr.lookI_none s hs] at hl
    simp only [Option.getD_none, Option.isSome_none] at hl
    exact ⟨0, by rw [hl]; simp [hs]⟩
set_option maxRecDepth 100000 in
theorem errorf_PN (kind : Str) (hk : kind.size ≤ 28) (h : PN X g ec w G E na nc mb me rs) (hE : E.length ≤ 1000000000000) :
    Calls Tryd.prog 48 #[.string kind, .pointer (some ⟨ec, 0, none⟩)] w fun e w' => e = .returned (.tuple #[]) ∧ PN X g ec w' G (E ++ [kind]) na nc mb me rs ∧ Fr (fun k => ¬ X k) w w' := by
  obtain ⟨F, ea, ecap, h⟩ := h
  have hown := h.own
  have hc0 : w.cell? ⟨ec, 0, none⟩ = some (.slice ea E.length ecap) := by rw [cell_of_row _ _ _ _ _ _ h.er]; rfl
  have H := Lib.hid h
  have hlt := h.lt
  clear h
  go_enter Tryd.func48, Tryd.ntmps48
  go_wp2_with (at_builtin
               refine wpList_append_new encS 1 encS_len encS_one w _ rfl _ _ 28 rfl 9 _ 16 Tryd.underlying28 infoS rfl (by omega) 0 ea ecap E _ rfl rfl hown kind _ _ rfl rfl (by omega) (by omega) (by omega) ?_
               intro a2 cap2 w2 ho2 hf2 hk2
               have er2 := keepT H.out.er hown (by decide) hf2
               have c2 : w2.cell? ⟨ec, 0, none⟩ = some (.slice ea E.length ecap) := by rw [cell_of_row _ _ _ _ _ _ er2]; rfl
               have z2 : w2.frozen? ⟨ec, 0, none⟩ = false := frozen_of_row _ _ _ _ _ er2)
  go_end0
  have h := H.out
  have hS : Fr (fun k => k = ec) w2 (w2.setCell ⟨ec, 0, none⟩ (.slice a2 (E.length + 1) cap2)) := Fr.setCell (S := fun k => k = ec) _ _ _ rfl
  have heaN : ∀ k, blk ea = some k → k ≠ ec := fun k hk e => by
    obtain ⟨cur, hcur⟩ := hown.cells hk
    rw [e, h.er] at hcur
    injection hcur with hcur
    injection hcur with _ h2
    exact absurd h2 (by decide)
  have ha2 : ∀ k, blk a2 = some k → ¬ F k ∧ k ≠ ec ∧ ¬ X k := fun k hk => by
    rcases hk2 k hk with e | e
    · exact ⟨h.eaF k e, heaN k e, h.xea k e⟩
    · exact ⟨fun hf => by have := h.fb k hf; omega, by omega, fun hx => by have := h.xl k hx; omega⟩
  have hg2 := h.gr.keep hf2 (fun k hk e => h.eaF k e hk)
  have hg3 := hg2.keep hS (fun k hk e => h.ecF (e ▸ hk))
  refine ⟨rfl, ⟨F, a2, cap2, ?_⟩, ?_⟩
  · exact { gr := hg3, fb := fun k hk => by have := h.fb k hk; have := hf2.size; simp [World.setCell]; omega
            er := by rw [heap_setCell_same _ _ _ _ _ _ er2]; simp
            own := ho2.fr hS (fun k hk e => (ha2 k hk).2.1 e)
            ecF := h.ecF, eaF := fun k hk => (ha2 k hk).1, xF := h.xF, xec := h.xec, xea := fun k hk => (ha2 k hk).2.2
            xl := fun k hk => by have := h.xl k hk; have := hf2.size; simp [World.setCell]; omega
            sz := fun x hx => by
              rcases List.mem_append.1 hx with hx | hx
              · exact h.sz x hx
              · rw [List.mem_singleton.1 hx]; exact hk }
  · exact (hf2.mono (T := fun k => ¬ X k) (fun k _ e => h.xea k e)).trans hS (fun k _ e hx => h.xec (e ▸ hx))
theorem errorf_PE (kind : Str) (hk : kind.size ≤ 28) (h : PE X g ec w G E) (hE : E.length ≤ 1000000000000) :
    Calls Tryd.prog 48 #[.string kind, .pointer (some ⟨ec, 0, none⟩)] w fun e w' => e = .returned (.tuple #[]) ∧ PE X g ec w' G (E ++ [kind]) ∧ Fr (fun k => ¬ X k) w w' := by
  obtain ⟨a, b, c, d, e, h⟩ := h
  exact (errorf_PN kind hk h hE).mono fun _ _ ⟨h1, h2, h3⟩ => ⟨h1, h2.pe, h3⟩
end
end Go.Proofs.YthpfladpbfbpjaaDoor

/- The package's Parse: what the call computes. -/
namespace Go.Proofs.YthpfladpbfbpjaaDoor
open Go.RowKit

def RetDag (o : Option Gr) (w : World) (e : Ending) (w' : World) : Prop := ∃ v er, e = .returned (.tuple #[v, er]) ∧ Below w.heap.size w w' ∧ match o with
  | none => v = .pointer none ∧ ∃ s : Str, er = .iface 90 (.string s)
  | some G => er = .nilIface ∧ ∃ g F, v = .pointer (some ⟨g, 0, none⟩) ∧ GraphAt w' F g G ∧ ∀ k, F k → w.heap.size ≤ k
theorem RetDag.no {o : Option Gr} {w w' : World} {s : Str} (h : Hid (o = none)) (hb : Below w.heap.size w w') : RetDag o w (.returned (.tuple #[.pointer none, .iface 90 (.string s)])) w' := by
  rw [h.out]; exact ⟨_, _, rfl, hb, rfl, s, rfl⟩
theorem RetDag.ok {o : Option Gr} {G : Gr} {w w' : World} {g : Nat} {F : Nat → Prop} (h : Hid (o = some G)) (hb : Below w.heap.size w w') (hg : GraphAt w' F g G) (hF : ∀ k, F k → w.heap.size ≤ k) : RetDag o w (.returned (.tuple #[.pointer (some ⟨g, 0, none⟩), .nilIface])) w' := by
  rw [h.out]; exact ⟨_, _, rfl, hb, rfl, g, F, rfl, hg, hF⟩

theorem lens_small : ∀ (E : List Str), (∀ x ∈ E, x.size ≤ 28) → Lib.lens (E.map (·.data.toList)) ≤ E.length * 28
  | [], _ => by simp [Lib.lens]
  | x :: r, h => by
    have ih := lens_small r (fun y hy => h y (by simp [hy]))
    have hx : x.data.toList.length ≤ 28 := by rw [Array.length_toList]; exact h x (by simp)
    simp only [List.map_cons, Lib.lens, List.length_cons, List.sum_cons] at ih ⊢
    omega
theorem join_small (E : List Str) (h : ∀ x ∈ E, x.size ≤ 28) : (Lib.join (E.map (·.data.toList)) (⟨#[10]⟩ : Str).data.toList).length ≤ E.length * 29 := by
  cases E with
  | nil => simp [Lib.join_nil]
  | cons x r =>
    have := lens_small (x :: r) h
    rw [List.map_cons] at this ⊢
    rw [Lib.join_length]
    simp at this ⊢
    omega
def bB (G : Gr) (e : Nat) (x : QV × Rl) : Nat := x.2.1.foldl (bLess G x.2.2.2) e
theorem iBars_zip (G : Gr) (qs : List QV) (R : List Rl) (h : qs.length = R.length) (e : Nat) : iBars G R e = ((qs.zip R).filter fun x => x.2.2.1).foldl (bB G) e := by
  rw [iBars_filter]
  have h1 : (qs.zip R).map Prod.snd = R := List.map_snd_zip (by omega)
  have h2 : R.filter (fun r => r.2.1) = ((qs.zip R).filter fun x => x.2.2.1).map Prod.snd := by
    conv => lhs; rw [← h1]
    rw [List.filter_map]
    rfl
  rw [h2, List.foldl_map]
  rfl
set_option maxRecDepth 100000 in
set_option maxHeartbeats 8000000 in
theorem dagParse_calls (tx : Str) (ts : List Str) (w : World) (hsm : tx.size ≤ 1000000) (hlx : lex (bs tx) = some ts) (hts : ts.length ≤ 1000) (htab : Lib.TabIs Tryd.prog w "internal/strconv.uint64pow10" .u64 Lib.pow10Tab) :
    Calls Tryd.prog 38 #[.string tx] w (RetDag ((pRules ts).bind graphP) w) := by
  have HPR : Hid (∀ W, Below w.heap.size w W → Calls Tryd.prog 47 #[.string tx] W (RetPR (pRules ts) W)) := Lib.hid (fun W hb => parseRules_calls tx ts W hsm hlx (fun _ w1 pb tx1 msg hT hb1 hm => synt_calls tx1 msg pb (tx.size + 1) w1 (by omega) hT hm (Lib.tabBelow_of_tabIs htab w1 (hb.top hb1 (Nat.le_refl _)))))
  clear hlx htab
  have hmf : ∀ (fn : Fn) (first cap : Array Value) (w : World), (Instr.makeFunc fn first cap).run Tryd.prog w = .ok (.func fn first cap) w := fun _ _ _ _ => rfl
  rcases hr : pRules ts with _ | R
  · have hres : Hid ((none : Option (List Rl)).bind graphP = none) := Lib.hid rfl
    rw [hr] at HPR
    clear hr
    generalize (none : Option (List Rl)).bind graphP = res at *
    go_enter Tryd.func38, Tryd.ntmps38
    go_wp2_with (first
      | (go_at_call 46; refine (newGraph_calls w).mono ?_; rintro e w1 ⟨v, rfl, g, rfl, hg, hb1⟩)
      | (go_at_call 47; refine (HPR.out _ (hb1.alloc hb1.size _)).mono ?_; rintro e w2 ⟨a, n, cap, er, rfl, hb2, s, rfl⟩))
    go_ret2
    exact RetDag.no hres ((hb1.alloc hb1.size _).top hb2 (Nat.le_refl _))
  · rw [hr] at HPR
    obtain ⟨hR, hRs, hsum⟩ := pRules_small hr
    have hR1 : R.length ≤ 1000 := by omega
    have hRL : Hid (∀ r ∈ R, r.1.length ≤ 1000 ∧ r.2.2.length ≤ 1000) := Lib.hid (fun r h => by have := hRs r h; omega)
    have hGL : Hid ((iBuild R).1.length ≤ 1000) := Lib.hid (by have := iBuild_len R; omega)
    clear hr hR hRs hsum
    obtain ⟨res, hres⟩ : ∃ res, graphP R = res := ⟨_, rfl⟩
    rw [show (some R).bind graphP = graphP R from rfl, hres]
    have HRES := Lib.hid hres; clear hres
    go_enter Tryd.func38, Tryd.ntmps38
    go_wp2_with (first
      | (go_at_call 46; refine (newGraph_calls w).mono ?_; rintro e w1 ⟨v, rfl, g, rfl, hg, hb1⟩; have hg0 := Lib.hid hg.bound)
      | (go_at_call 47; refine (HPR.out _ (hb1.alloc hb1.size _)).mono ?_; rintro e w2 ⟨a, n, cap, er, rfl, hb2, rfl, rfl, qs, hrs⟩))
    -- LOOPS
    have hsz2 := hb2.size
    rw [World.size_alloc] at hsz2
    have hlA : Below w.heap.size w (w1.alloc (.cells #[] 85)) := hb1.alloc hb1.size _
    have hs1 := hb1.size
    obtain ⟨X0, hX0⟩ : ∃ X0 : Nat → Prop, ∀ x, X0 x ↔ (x < w.heap.size ∨ (w1.heap.size + 1 ≤ x ∧ x < w2.heap.size)) := ⟨fun x => x < w.heap.size ∨ (w1.heap.size + 1 ≤ x ∧ x < w2.heap.size), fun _ => Iff.rfl⟩
    obtain ⟨W3, hW3⟩ : ∃ W3, w2.alloc (.cells #[.slice none 0 0] 28) = W3 := ⟨_, rfl⟩
    have hP0 : PE (fun x => X0 x ∨ blk (some (⟨w1.heap.size, 0, none⟩ : Addr)) = some x) g w2.heap.size W3 [] [] := by
      have h1 := hg0.out
      have h2 := (h1.alloc (.cells #[] 85)).top hb2
      have h3 := h2.alloc (.cells #[.slice none 0 0] 28)
      rw [hW3] at h3
      obtain ⟨na, nc, mb, me, rs, h3⟩ := h3
      have hsz3 : W3.heap.size = w2.heap.size + 1 := by rw [← hW3]; simp
      refine ⟨na, nc, mb, me, rs, _, none, 0, { gr := h3, fb := fun x hx => ?_, er := by rw [← hW3]; exact heap_alloc_new w2 _, own := Own.nil_ _ _ _, ecF := fun h => ?_, eaF := fun x hx => by simp [blk] at hx, xF := ?_, xec := ?_, xea := fun x hx => by simp [blk] at hx, xl := ?_, sz := by simp }⟩
      · have := hx.2; omega
      · have := h.2; omega
      · rintro x (hx | hx) hf
        · have h4 := hf.1; have h5 := hf.2
          rcases (hX0 x).1 hx with hx | hx <;> omega
        · have h5 := hf.2
          simp [blk] at hx; omega
      · rintro (hx | hx)
        · rcases (hX0 _).1 hx with hx | hx <;> omega
        · simp [blk] at hx; omega
      · rintro x (hx | hx)
        · rcases (hX0 x).1 hx with hx | hx <;> omega
        · simp [blk] at hx; omega
    have hO0 : Own (fun x : QV × Rl => encQ opV x.1) 3 W3 w.heap.size 85 (some ⟨w1.heap.size, 0, none⟩) 0 [] := by
      have h1 := Own.made (fun x : QV × Rl => encQ opV x.1) 3 w1 85 w.heap.size hs1
      have h2 := (h1.top hb2).alloc (.cells #[.slice none 0 0] 28)
      rwa [hW3] at h2
    have hDX0 : ∀ x, blk (some (⟨w1.heap.size, 0, none⟩ : Addr)) = some x → ¬ X0 x := fun x hx h => by
      simp [blk] at hx
      rcases (hX0 x).1 h with h | h <;> omega
    have HDR : Hid (∀ wr, Fr (fun x => ¬ X0 x) W3 wr → DR wr opV a cap qs R) := Lib.hid (fun wr f => by
      have f2 : Fr (fun x => ¬ X0 x) w2 wr := by
        rw [← hW3] at f
        exact (Fr.alloc (fun x => ¬ X0 x) w2 _).trans f (fun _ _ e => e)
      refine (hrs.frX f2 (fun x h1 h2 h3 => h3 ((hX0 x).2 (.inr ⟨?_, h2⟩)))).dr
      simpa using h1)
    have HBL : Hid (∀ wr, Fr (fun x => ¬ X0 x) W3 wr → Below w.heap.size w wr) := Lib.hid (fun wr f => by
      have h1 : Below w.heap.size w W3 := by rw [← hW3]; exact (hlA.top hb2 (Nat.le_refl _)).alloc (by omega) _
      exact h1.fr f (Nat.le_refl _) (fun x hx => by
        rcases Nat.lt_or_ge x w.heap.size with h | h
        · exact absurd ((hX0 x).2 (.inl h)) hx
        · exact h))
    have hqR : qs.length = R.length := hrs.len
    have hRc := (hrs.row.sl (encQ_len opV)).1
    have hRm := (hrs.row.sl (encQ_len opV)).len
    rw [hqR] at hRc hRm
    have HX0 := Lib.hid hX0
    have hF0 : Fr (fun x => ¬ X0 x) W3 W3 := Fr.refl _ _
    have HP0 := Lib.hid hP0; clear hP0
    have HO0 := Lib.hid hO0; clear hO0
    have HDX0 := Lib.hid hDX0; clear hDX0
    rw [hW3]
    have HQR := Lib.hid hqR; clear hqR
    clear hX0 hrs hlA hg hg0 hb1 hb2 HPR hs1 hsz2 hW3
    go_loopg [46, 5] R.length (fun gk i v5 wr => ∃ (k : Nat) (D : List (QV × Rl)) (E : List Str) (G : Gr) (da : Option Addr) (dcap : Nat), k ≤ R.length ∧ gk = R.length - k ∧ i = .int .i64 k ∧ v5 = .slice da D.length dcap ∧
      Hid (D = ((qs.zip R).take k).filter fun x => x.2.2.1) ∧ Hid ((R.take k).foldl iRule ([], 0) = (G, E.length)) ∧ E.length ≤ bE k ∧ G.length ≤ k * 1000 ∧ Hid (PE (fun x => X0 x ∨ blk da = some x) g w2.heap.size wr G E) ∧
      Hid (Own (fun x : QV × Rl => encQ opV x.1) 3 wr w.heap.size 85 da dcap D) ∧ Hid (∀ x, blk da = some x → ¬ X0 x) ∧ Fr (fun x => ¬ X0 x) W3 wr)
    case atStart => exact ⟨0, [], [], [], _, _, Nat.zero_le _, by omega, rfl, rfl, Lib.hid rfl, Lib.hid rfl, by simp, by simp, HP0, HO0, HDX0, hF0⟩
    case round =>
      clear HP0 HO0 HDX0 hF0
      obtain ⟨k, D, E, G, da, dcap, hk, rfl, rfl, rfl, HD, HB, hEl, hGl, HPE, HOW, HDX, hf⟩ := hrel
      have hbE := bE_le k (by omega)
      by_cases hlt : k < R.length
      · have hkq : k < qs.length := by rw [HQR.out]; exact hlt
        have hdr := HDR.out wr hf
        obtain ⟨bb, off, rfl, hbl, hcell⟩ := hdr.row.2.2 (by omega)
        have g0 := hcell k hkq 0 _ rfl
        have g1 := hcell k hkq 1 _ rfl
        have g2 := hcell k hkq 2 _ rfl
        obtain ⟨q1, q2, q3, q4, q5⟩ := hdr.inner k hkq hlt
        have hr4 := hRL.out R[k] (List.getElem_mem hlt)
        have hstep := Lib.hid (show (R.take (k + 1)).foldl iRule ([], 0) = iRule (G, E.length) R[k] from by
          rw [List.take_succ_eq_append_getElem hlt, List.foldl_append, HB.out]; rfl)
        have hD1 : Hid (((qs.zip R).take (k + 1)).filter (fun x => x.2.2.1) = D ++ if R[k].2.1 = true then [(qs[k], R[k])] else []) := Lib.hid (by
          rw [List.take_succ_eq_append_getElem (by simp; omega), List.filter_append, ← HD.out]
          congr 1
          simp [List.filter_cons])
        have hDl : D.length ≤ k := by rw [HD.out]; have := List.length_filter_le (fun x : QV × Rl => x.2.2.1) ((qs.zip R).take k); simp at this; omega
        have HDI : Hid (∀ w', Fr (fun x => ¬ X0 x) W3 w' → QAt w' qs[k] R[k]) := Lib.hid (fun w' h => (HDR.out w' h).inner k hkq hlt)
        generalize R[k] = r at *
        generalize qs[k] = q at *
        obtain ⟨ls, br, ds⟩ := r
        obtain ⟨⟨la, ll, lc⟩, qb, ⟨da2, dl, dc⟩⟩ := q
        simp only [Nat.add_zero] at q1 q2 q3 q4 q5 g0 g1 g2 hr4
        subst q1
        subst q2
        subst q3
        clear hcell hdr HB hkq
        have hdl := hr4.2
        have hll := hr4.1
        have hdlen := q5.len
        have hllen := q4.len
        clear q4 q5
        have g1' : wr.cell? ⟨bb, off + k * 3 + 1, none⟩ = some (.string (opS qb)) := g1
        clear g1
        have hop : ((opS qb).toList == [33, 60]) = qb := (tl_tok (opS qb) [33, 60]).trans (by
          cases qb
          · exact decide_eq_false (fun e => tok_ne.2.2.2.2.2 e)
          · exact decide_eq_true rfl)
        have hbox0 := heap_alloc_new wr (.cells #[.slice la ls.length lc, .string (opS qb), .slice da2 ds.length dc] 85 (0, 0))
        obtain ⟨os, hos⟩ : ∃ os, opS qb = os := ⟨_, rfl⟩
        rw [hos] at hop hbox0 g1'
        have HOS := Lib.hid hos; clear hos
        obtain ⟨wo, rfl⟩ : ∃ wo : World, wo = wr := ⟨_, rfl⟩
        obtain ⟨bx, hbxe⟩ : ∃ bx : Nat, wo.heap.size = bx := ⟨_, rfl⟩
        obtain ⟨X1, hX1⟩ : ∃ X1 : Nat → Prop, ∀ x, X1 x ↔ ((X0 x ∨ blk da = some x) ∨ x = bx) := ⟨fun x => (X0 x ∨ blk da = some x) ∨ x = bx, fun _ => Iff.rfl⟩
        have HX1 := Lib.hid hX1
        clear hX1
        obtain ⟨Wb, hWb⟩ : ∃ Wb, wo.alloc (.cells #[.slice la ls.length lc, .string os, .slice da2 ds.length dc] 85 (0, 0)) = Wb := ⟨_, rfl⟩
        rw [hWb, hbxe] at hbox0
        have HPb : Hid (PE X1 g w2.heap.size Wb G E) := Lib.hid (by
          have h1 := HPE.out.box (.cells #[.slice la ls.length lc, .string os, .slice da2 ds.length dc] 85 (0, 0))
          rw [hWb, hbxe] at h1
          exact h1.mono (fun x h => (HX1.out x).1 h))
        have hfb : Fr (fun x => ¬ X0 x) W3 Wb := by rw [← hWb]; exact hf.trans (Fr.alloc (fun x => ¬ X0 x) wo _) (fun _ _ e => e)
        have HFB : Hid (∀ w', Fr (fun x => ¬ X1 x) Wb w' → Fr (fun x => ¬ X0 x) W3 w') := Lib.hid (fun w' h => hfb.trans h (fun x _ e h0 => e ((HX1.out x).2 (.inl (.inl h0)))))
        have HSL : Hid (∀ w', Fr (fun x => ¬ X1 x) Wb w' → Sl encS 1 w' la lc ls ∧ Sl encS 1 w' da2 dc ds) := Lib.hid (fun w' h => ⟨(HDI.out w' (HFB.out w' h)).2.2.2.1, (HDI.out w' (HFB.out w' h)).2.2.2.2⟩)
        have hbxl : bx < Wb.heap.size := (Array.getElem?_eq_some_iff.1 hbox0).1
        have HBX : Hid (∀ w', Fr (fun x => ¬ X1 x) Wb w' → w'.heap[bx]? = some (.cells #[.slice la ls.length lc, .string os, .slice da2 ds.length dc] 85 (0, 0))) := Lib.hid (fun w' h => (h.block bx hbxl (fun e => e ((HX1.out bx).2 (.inr rfl)))).trans hbox0)
        have b0 : Wb.cell? ⟨bx, 0, none⟩ = some (.slice la ls.length lc) := by rw [cell_of_row _ _ _ _ _ _ hbox0]; rfl
        have b1 : Wb.cell? ⟨bx, 1, none⟩ = some (.string os) := by rw [cell_of_row _ _ _ _ _ _ hbox0]; rfl
        have b2 : Wb.cell? ⟨bx, 2, none⟩ = some (.slice da2 ds.length dc) := by rw [cell_of_row _ _ _ _ _ _ hbox0]; rfl
        clear hbox0 hfb HDI HPE
        obtain ⟨HDa, HDb⟩ := And.intro hstep hD1
        cases qb
        · have hst0 : Hid ((R.take (k + 1)).foldl iRule ([], 0) = ds.foldl (iDef ls) (G, E.length)) := Lib.hid (by rw [hstep.out]; rfl)
          have hD1 : Hid (((qs.zip R).take (k + 1)).filter (fun x => x.2.2.1) = D ++ if false = true then [(((la, ls.length, lc), false, (da2, ds.length, dc)), (ls, false, ds))] else []) := hD1
          have hstep := hst0
          clear HDa HDb hst0
          go_wp2
          go_loopg [60] ds.length (fun gk i wq => ∃ (j : Nat) (E2 : List Str) (G2 : Gr), j ≤ ds.length ∧ gk = ds.length - j ∧ i = .int .i64 j ∧ Hid ((ds.take j).foldl (iDef ls) (G, E.length) = (G2, E2.length)) ∧ E2.length ≤ bE k + j * 2000 ∧ G2.length ≤ k * 1000 + j ∧
            Hid (PE X1 g w2.heap.size wq G2 E2) ∧ Fr (fun x => ¬ X1 x) Wb wq)
          case atStart => exact ⟨0, E, G, Nat.zero_le _, by omega, rfl, Lib.hid (by simp), by rw [Nat.zero_mul, Nat.add_zero]; exact hEl, by rw [Nat.add_zero]; exact hGl, HPb, Fr.refl _ _⟩
          case round =>
            clear b0 b1 b2 HPb
            obtain ⟨j, E2, G2, hj, rfl, rfl, HF2, hE2, hG2, HPq, hfq⟩ := hrel
            obtain ⟨sls, sds⟩ := HSL.out wr hfq
            have hbx := HBX.out wr hfq
            have b0 : wr.cell? ⟨bx, 0, none⟩ = some (.slice la ls.length lc) := by rw [cell_of_row _ _ _ _ _ _ hbx]; rfl
            have b2 : wr.cell? ⟨bx, 2, none⟩ = some (.slice da2 ds.length dc) := by rw [cell_of_row _ _ _ _ _ _ hbx]; rfl
            by_cases hjl : j < ds.length
            · obtain ⟨db, doff, rfl, d1⟩ := sds.s1 hjl
              have hst : Hid ((ds.take (j + 1)).foldl (iDef ls) (G, E.length) = iDef ls (G2, E2.length) ds[j]) := Lib.hid (by
                rw [List.take_succ_eq_append_getElem hjl, List.foldl_append, HF2.out]; rfl)
              clear HF2
              generalize ds[j] = d at *
              have htn := tnone_fact d
              by_cases hdn : d = tNone
              · have hst2 : Hid ((ds.take (j + 1)).foldl (iDef ls) (G, E.length) = (G2, E2.length + 1)) := Lib.hid (by rw [hst.out]; simp [iDef, hdn])
                have htn2 : (d.toList == [78, 79, 78, 69]) = true := htn.trans (decide_eq_true hdn)
                clear htn hdn hst
                go_wp2_with (go_at_call 48; refine (errorf_PE _ (by decide) HPq.out (by omega)).mono ?_; rintro e w7 ⟨rfl, h7, f7⟩)
                have hE5 : ∀ x : Str, (E2 ++ [x]).length ≤ bE k + (j + 1) * 2000 := fun x => by rw [List.length_append, List.length_singleton]; omega
                have hG5 : G2.length ≤ k * 1000 + (j + 1) := by omega
                go_roundg (ds.length - (j + 1))
                case measure => omega
                case rel => exact ⟨j + 1, E2 ++ [_], G2, by omega, rfl, by go_num, Lib.hid (by rw [hst2.out]; simp), hE5 _, hG5, Lib.hid h7, hfq.trans f7 (fun _ _ e => e)⟩
              · have htn2 : (d.toList == [78, 79, 78, 69]) = false := htn.trans (decide_eq_false hdn)
                have HAN := Lib.hid (addNode_PE d HPq.out (by omega))
                clear htn
                by_cases hd : d ∈ names G2
                · have HST : Hid ((ds.take (j + 1)).foldl (iDef ls) (G, E.length) = ls.foldl (iLess d) (addN G2 d, E2.length + 1)) := Lib.hid (by rw [hst.out]; simp [iDef, hdn, hd])
                  have hdf : (!decide (d ∈ names G2)) = false := by simp [hd]
                  clear hst hdn hd
                  have hln := addN_len G2 d
                  have HD3 : Hid (d ∈ names (addN G2 d)) := Lib.hid ((names_addN _ _ _).2 (.inr rfl))
                  generalize addN G2 d = G3 at *
                  go_wp2_with (first
                    | (go_at_call 49; refine HAN.out.mono ?_; rintro e w6 ⟨rfl, h6, f6⟩)
                    | (go_at_call 48; refine (errorf_PE _ (by decide) h6 (by omega)).mono ?_; rintro e w7 ⟨rfl, h7, f7⟩; have hb7 := HBX.out w7 ((hfq.trans f6 (fun _ _ e => e)).trans f7 (fun _ _ e => e)); have c7 : w7.cell? ⟨bx, 0, none⟩ = some (.slice la ls.length lc) := by rw [cell_of_row _ _ _ _ _ _ hb7]; rfl))
                  clear hb7 c7
                  have HP3 := Lib.hid h7
                  have HF3 := (hfq.trans f6 (fun _ _ e => e)).trans f7 (fun _ _ e => e)
                  rw [show E2.length + 1 = (E2 ++ [(⟨#[109, 117, 108, 116, 105, 112, 108, 101, 32, 100, 101, 102, 105, 110, 105, 116, 105, 111, 110, 115]⟩ : Str)]).length from by simp] at HST
                  have hE3 : (E2 ++ [(⟨#[109, 117, 108, 116, 105, 112, 108, 101, 32, 100, 101, 102, 105, 110, 105, 116, 105, 111, 110, 115]⟩ : Str)]).length ≤ E2.length + 1 := by simp
                  generalize E2 ++ [(⟨#[109, 117, 108, 116, 105, 112, 108, 101, 32, 100, 101, 102, 105, 110, 105, 116, 105, 111, 110, 115]⟩ : Str)] = E3 at *
                  clear b0 b2 hbx sls sds d1 HAN HPq hfq

                  go_loopg [77] ls.length (fun gk i wz => ∃ (p : Nat) (E4 : List Str) (G4 : Gr), p ≤ ls.length ∧ gk = ls.length - p ∧ i = .int .i64 p ∧ Hid ((ls.take p).foldl (iLess d) (G3, E3.length) = (G4, E4.length)) ∧ E4.length ≤ E3.length + p ∧ G4.length ≤ G3.length ∧
                    Hid (d ∈ names G4) ∧ Hid (PE X1 g w2.heap.size wz G4 E4) ∧ Fr (fun x => ¬ X1 x) Wb wz)
                  case atStart => exact ⟨0, E3, G3, Nat.zero_le _, by omega, rfl, Lib.hid (by simp), Nat.le_refl _, Nat.le_refl _, HD3, HP3, HF3⟩
                  case round =>
                    clear HD3 HP3 HF3
                    obtain ⟨p, E4, G4, hp, rfl, rfl, HQ, hE4, hG4, HD4, HP4, hf4⟩ := hrel
                    obtain ⟨sls, sds⟩ := HSL.out wr hf4
                    have hbx := HBX.out wr hf4
                    have b0 : wr.cell? ⟨bx, 0, none⟩ = some (.slice la ls.length lc) := by rw [cell_of_row _ _ _ _ _ _ hbx]; rfl
                    by_cases hpl : p < ls.length
                    · obtain ⟨lb, loff, rfl, l1⟩ := sls.s1 hpl
                      have hs3 : Hid ((ls.take (p + 1)).foldl (iLess d) (G3, E3.length) = iLess d (G4, E4.length) ls[p]) := Lib.hid (by
                        rw [List.take_succ_eq_append_getElem hpl, List.foldl_append, HQ.out]; rfl)
                      clear HQ
                      generalize ls[p] = l at *
                      have htl := tnone_fact l
                      by_cases hl1 : l = tNone
                      · have hs4 : Hid ((ls.take (p + 1)).foldl (iLess d) (G3, E3.length) = (G4, E4.length)) := Lib.hid (by rw [hs3.out]; simp [iLess, hl1])
                        have htl2 : (l.toList == [78, 79, 78, 69]) = true := htl.trans (decide_eq_true hl1)
                        clear htl hl1 hs3
                        go_wp2
                        go_roundg (ls.length - (p + 1))
                        case measure => omega
                        case rel => exact ⟨p + 1, E4, G4, by omega, rfl, by go_num, hs4, by omega, hG4, HD4, HP4, hf4⟩
                      · have htl2 : (l.toList == [78, 79, 78, 69]) = false := htl.trans (decide_eq_false hl1)
                        obtain ⟨na, nc, mb, me, rs, F, ea, ecap, hpr⟩ := HP4.out
                        have gc1 := hpr.gr.cell1
                        obtain ⟨ixn, hlk⟩ := hpr.look2 l
                        clear htl hpr
                        by_cases hm : l ∈ names G4
                        · have hs4 : Hid ((ls.take (p + 1)).foldl (iLess d) (G3, E3.length) = (addE G4 d l, E4.length)) := Lib.hid (by rw [hs3.out]; simp [iLess, hl1, hm])
                          rw [decide_eq_true hm] at hlk
                          have hln := addE_len' G4 d l
                          clear hm hl1 hs3
                          go_wp2_with (go_at_call 50; refine (addEdge_PE d l HP4.out HD4.out).mono ?_; rintro e w7 ⟨rfl, h7, f7⟩)
                          go_roundg (ls.length - (p + 1))
                          case measure => omega
                          case rel => exact ⟨p + 1, E4, addE G4 d l, by omega, rfl, by go_num, hs4, by omega, by omega, Lib.hid (by rw [names_addE]; exact HD4.out), Lib.hid h7, hf4.trans f7 (fun _ _ e => e)⟩
                        · have hs4 : Hid ((ls.take (p + 1)).foldl (iLess d) (G3, E3.length) = (G4, E4.length + 1)) := Lib.hid (by rw [hs3.out]; simp [iLess, hl1, hm])
                          rw [decide_eq_false hm] at hlk
                          clear hm hl1 hs3
                          go_wp2_with (go_at_call 48; refine (errorf_PE _ (by decide) HP4.out (by omega)).mono ?_; rintro e w7 ⟨rfl, h7, f7⟩)
                          go_roundg (ls.length - (p + 1))
                          case measure => omega
                          case rel => exact ⟨p + 1, E4 ++ [_], G4, by omega, rfl, by go_num, Lib.hid (by rw [hs4.out]; simp), by simp; omega, hG4, HD4, Lib.hid h7, hf4.trans f7 (fun _ _ e => e)⟩
                    · have hfin : Hid ((ds.take (j + 1)).foldl (iDef ls) (G, E.length) = (G4, E4.length)) := Lib.hid (by
                        rw [HST.out, ← HQ.out, List.take_of_length_le (by omega)])
                      have hE5 : E4.length ≤ bE k + (j + 1) * 2000 := by omega
                      have hG5 : G4.length ≤ k * 1000 + (j + 1) := by omega
                      go_wp2
                      go_roundg (ds.length - (j + 1))
                      case measure => omega
                      case rel => exact ⟨j + 1, E4, G4, by omega, rfl, by go_num, hfin, hE5, hG5, HP4, hf4⟩
                · have HST : Hid ((ds.take (j + 1)).foldl (iDef ls) (G, E.length) = ls.foldl (iLess d) (addN G2 d, E2.length)) := Lib.hid (by rw [hst.out]; simp [iDef, hdn, hd])
                  have hdf : (!decide (d ∈ names G2)) = true := by simp [hd]
                  clear hst hdn hd
                  have hln := addN_len G2 d
                  have HD3 : Hid (d ∈ names (addN G2 d)) := Lib.hid ((names_addN _ _ _).2 (.inr rfl))
                  generalize addN G2 d = G3 at *
                  go_wp2_with (go_at_call 49; refine HAN.out.mono ?_; rintro e w6 ⟨rfl, h6, f6⟩; have hb7 := HBX.out w6 (hfq.trans f6 (fun _ _ e => e)); have c7 : w6.cell? ⟨bx, 0, none⟩ = some (.slice la ls.length lc) := by rw [cell_of_row _ _ _ _ _ _ hb7]; rfl)
                  clear hb7 c7
                  have HP3 := Lib.hid h6
                  have HF3 := hfq.trans f6 (fun _ _ e => e)
                  have hE3 : E2.length ≤ E2.length + 1 := by omega
                  generalize hEE : E2 = E3 at *
                  clear b0 b2 hbx sls sds d1 HAN HPq hfq

                  go_loopg [77] ls.length (fun gk i wz => ∃ (p : Nat) (E4 : List Str) (G4 : Gr), p ≤ ls.length ∧ gk = ls.length - p ∧ i = .int .i64 p ∧ Hid ((ls.take p).foldl (iLess d) (G3, E3.length) = (G4, E4.length)) ∧ E4.length ≤ E3.length + p ∧ G4.length ≤ G3.length ∧
                    Hid (d ∈ names G4) ∧ Hid (PE X1 g w2.heap.size wz G4 E4) ∧ Fr (fun x => ¬ X1 x) Wb wz)
                  case atStart => exact ⟨0, E3, G3, Nat.zero_le _, by omega, rfl, Lib.hid (by simp), Nat.le_refl _, Nat.le_refl _, HD3, HP3, HF3⟩
                  case round =>
                    clear HD3 HP3 HF3
                    obtain ⟨p, E4, G4, hp, rfl, rfl, HQ, hE4, hG4, HD4, HP4, hf4⟩ := hrel
                    obtain ⟨sls, sds⟩ := HSL.out wr hf4
                    have hbx := HBX.out wr hf4
                    have b0 : wr.cell? ⟨bx, 0, none⟩ = some (.slice la ls.length lc) := by rw [cell_of_row _ _ _ _ _ _ hbx]; rfl
                    by_cases hpl : p < ls.length
                    · obtain ⟨lb, loff, rfl, l1⟩ := sls.s1 hpl
                      have hs3 : Hid ((ls.take (p + 1)).foldl (iLess d) (G3, E3.length) = iLess d (G4, E4.length) ls[p]) := Lib.hid (by
                        rw [List.take_succ_eq_append_getElem hpl, List.foldl_append, HQ.out]; rfl)
                      clear HQ
                      generalize ls[p] = l at *
                      have htl := tnone_fact l
                      by_cases hl1 : l = tNone
                      · have hs4 : Hid ((ls.take (p + 1)).foldl (iLess d) (G3, E3.length) = (G4, E4.length)) := Lib.hid (by rw [hs3.out]; simp [iLess, hl1])
                        have htl2 : (l.toList == [78, 79, 78, 69]) = true := htl.trans (decide_eq_true hl1)
                        clear htl hl1 hs3
                        go_wp2
                        go_roundg (ls.length - (p + 1))
                        case measure => omega
                        case rel => exact ⟨p + 1, E4, G4, by omega, rfl, by go_num, hs4, by omega, hG4, HD4, HP4, hf4⟩
                      · have htl2 : (l.toList == [78, 79, 78, 69]) = false := htl.trans (decide_eq_false hl1)
                        obtain ⟨na, nc, mb, me, rs, F, ea, ecap, hpr⟩ := HP4.out
                        have gc1 := hpr.gr.cell1
                        obtain ⟨ixn, hlk⟩ := hpr.look2 l
                        clear htl hpr
                        by_cases hm : l ∈ names G4
                        · have hs4 : Hid ((ls.take (p + 1)).foldl (iLess d) (G3, E3.length) = (addE G4 d l, E4.length)) := Lib.hid (by rw [hs3.out]; simp [iLess, hl1, hm])
                          rw [decide_eq_true hm] at hlk
                          have hln := addE_len' G4 d l
                          clear hm hl1 hs3
                          go_wp2_with (go_at_call 50; refine (addEdge_PE d l HP4.out HD4.out).mono ?_; rintro e w7 ⟨rfl, h7, f7⟩)
                          go_roundg (ls.length - (p + 1))
                          case measure => omega
                          case rel => exact ⟨p + 1, E4, addE G4 d l, by omega, rfl, by go_num, hs4, by omega, by omega, Lib.hid (by rw [names_addE]; exact HD4.out), Lib.hid h7, hf4.trans f7 (fun _ _ e => e)⟩
                        · have hs4 : Hid ((ls.take (p + 1)).foldl (iLess d) (G3, E3.length) = (G4, E4.length + 1)) := Lib.hid (by rw [hs3.out]; simp [iLess, hl1, hm])
                          rw [decide_eq_false hm] at hlk
                          clear hm hl1 hs3
                          go_wp2_with (go_at_call 48; refine (errorf_PE _ (by decide) HP4.out (by omega)).mono ?_; rintro e w7 ⟨rfl, h7, f7⟩)
                          go_roundg (ls.length - (p + 1))
                          case measure => omega
                          case rel => exact ⟨p + 1, E4 ++ [_], G4, by omega, rfl, by go_num, Lib.hid (by rw [hs4.out]; simp), by simp; omega, hG4, HD4, Lib.hid h7, hf4.trans f7 (fun _ _ e => e)⟩
                    · have hfin : Hid ((ds.take (j + 1)).foldl (iDef ls) (G, E.length) = (G4, E4.length)) := Lib.hid (by
                        rw [HST.out, ← HQ.out, List.take_of_length_le (by omega)])
                      have hE5 : E4.length ≤ bE k + (j + 1) * 2000 := by omega
                      have hG5 : G4.length ≤ k * 1000 + (j + 1) := by omega
                      go_wp2
                      go_roundg (ds.length - (j + 1))
                      case measure => omega
                      case rel => exact ⟨j + 1, E4, G4, by omega, rfl, by go_num, hfin, hE5, hG5, HP4, hf4⟩
            · have hfin : Hid ((R.take (k + 1)).foldl iRule ([], 0) = (G2, E2.length)) := Lib.hid (by
                rw [hstep.out, ← HF2.out, List.take_of_length_le (by omega)])
              have HPE2 := Lib.hid (HPq.out.mono (Y := fun x => X0 x ∨ blk da = some x) (fun x h => (HX1.out x).2 (.inl h)))
              have hOw2 := Lib.hid (HOW.out.fr (S := fun x => ¬ X1 x) ((show Fr (fun x => ¬ X1 x) wo Wb by rw [← hWb]; exact Fr.alloc (fun x => ¬ X1 x) wo _).trans hfq (fun _ _ e => e)) (fun x e h => h ((HX1.out x).2 (.inl (.inr e)))))
              have hfr2 := HFB.out wr hfq
              have hD2 : Hid (D = ((qs.zip R).take (k + 1)).filter fun x => x.2.2.1) := Lib.hid (by rw [hD1.out]; simp)
              have hE5 : E2.length ≤ bE (k + 1) := by have := bE_succ k; omega
              have hG5 : G2.length ≤ (k + 1) * 1000 := by omega
              go_wp2
              go_roundg (R.length - (k + 1))
              case measure => omega
              case rel => exact ⟨k + 1, D, E2, G2, da, dcap, by omega, rfl, by go_num, rfl, hD2, hfin, hE5, hG5, HPE2, hOw2, HDX, hfr2⟩
        · have hst2 : Hid ((R.take (k + 1)).foldl iRule ([], 0) = (G, E.length)) := Lib.hid (by rw [hstep.out]; rfl)
          have hD2 : Hid (D ++ [(((la, ls.length, lc), true, (da2, ds.length, dc)), (ls, true, ds))] = ((qs.zip R).take (k + 1)).filter (fun x => x.2.2.1)) := Lib.hid (by rw [hD1.out]; rfl)
          have hOwb : Own (fun x : QV × Rl => encQ opV x.1) 3 Wb w.heap.size 85 da dcap D := by rw [← hWb]; exact HOW.out.alloc _
          have hwl : w.heap.size ≤ Wb.heap.size := (HBL.out _ (HFB.out Wb (Fr.refl _ _))).size
          clear hD1 hstep HDa HDb
          obtain rfl := HOS.out
          go_wp2_with (at_builtin
                       refine wpList_append_new (fun x : QV × Rl => encQ opV x.1) 3 (fun x => encQ_len opV x.1) (fun x => encQ_one opV_one x.1) Wb _ rfl _ _ 80 rfl 85 _ 64 Tryd.underlying80 infoRl rfl (by omega) w.heap.size da dcap D _ rfl rfl hOwb (((la, ls.length, lc), true, (da2, ds.length, dc)), (ls, true, ds)) _ _ rfl rfl (by omega) (by omega) (by omega) ?_
                       intro a4 cap4 w4 ho4 hf4 hk4)
          have hfr4 := (hf.trans (Fr.alloc (fun x => ¬ X0 x) wo (.cells #[.slice la ls.length lc, .string (opS true), .slice da2 ds.length dc] 85 (0, 0))) (fun _ _ e => e))
          rw [hWb] at hfr4
          have hP4 : Hid (PE (fun x => X0 x ∨ blk a4 = some x) g w2.heap.size w4 G E) := Lib.hid (HPb.out.to hf4 (fun x _ e => (HX1.out x).2 (.inl (.inr e))) (fun x h => by
            rcases h with h | h
            · exact .inl ((HX1.out x).2 (.inl (.inl h)))
            · rcases hk4 x h with e | e
              · exact .inl ((HX1.out x).2 (.inl (.inr e)))
              · exact .inr ⟨e, (ho4.lt x h).2⟩))
          have hDX4 : Hid (∀ x, blk a4 = some x → ¬ X0 x) := Lib.hid (fun x h => by
            rcases hk4 x h with e | e
            · exact HDX.out x e
            · intro h0
              have := (HPb.out.xl x ((HX1.out x).2 (.inl (.inl h0))))
              omega)
          have hE5 : E.length ≤ bE (k + 1) := by have := bE_succ k; omega
          have hG5 : G.length ≤ (k + 1) * 1000 := by omega
          go_roundg (R.length - (k + 1))
          case measure => omega
          case rel => exact ⟨k + 1, _, E, G, a4, cap4, by omega, rfl, by go_num, by simp, hD2, hst2, hE5, hG5, hP4, Lib.hid ho4, hDX4, hfr4.trans hf4 (fun x _ e => HDX.out x e)⟩
      · have hall : Hid (iBuild R = (G, E.length)) := Lib.hid (by have := HB.out; rwa [List.take_of_length_le (by omega)] at this)
        have hqr := HQR.out
        have hDall : Hid (D = (qs.zip R).filter fun x => x.2.2.1) := Lib.hid (by have := HD.out; rwa [List.take_of_length_le (by rw [List.length_zip]; omega)] at this)
        have hokG : Hid (OkG G) := Lib.hid (by have := okG_build R; rwa [hall.out] at this)
        have hGn : G.length ≤ 1000 := by have := hGL.out; rwa [hall.out] at this
        have hE1 : E.length ≤ 2000000000 := by omega
        obtain ⟨na, nc, mb, me, rs, HN0⟩ := HPE.out
        have HN := Lib.hid HN0
        obtain ⟨FN, hgr0⟩ := HN0.at
        have gc2 := hgr0.cell2
        have hmap := hgr0.tbl
        have hgr := Lib.hid hgr0
        clear HN0 hgr0 HB HD hEl hGl hqr hGL hbE HPE
        obtain ⟨wo, rfl⟩ : ∃ wo : World, wo = wr := ⟨_, rfl⟩
        go_wp2_with (at_range; refine wpList_range_s _ rfl _ 67 rfl Tryd.underlying67 me rfl _ hmap wo.heap.size rfl ?_; intro w5 hit hf5 hsz5)
        go_frame
        go_loopg [19] (refs (names G) rs).length (fun gk v19 wq => ∃ left : AL, gk = left.length ∧ Iter wq wo.heap.size me (refs (names G) rs) left ∧ Below wo.heap.size wo wq)
        case atStart => exact ⟨_, rfl, hit, hf5.below_top⟩
        case round =>
          clear hit hf5 hsz5 hmap
          obtain ⟨left, rfl, hit1, hb1⟩ := hrel
          go_wp2_with (at_next; refine wpList_next_s _ rfl _ rfl _ me rfl _ left hit1 ?_ ?_)
          · intro hle
            clear hle hit1
            have hNr := HN.out.top hb1
            have hOr := HOW.out.top hb1
            have hfr6 : Fr (fun x => ¬ X0 x) W3 wr := hf.trans (Fr.of_below_top hb1 (fun x => ¬ X0 x)) (fun _ _ e => e)
            obtain ⟨ns, hns⟩ : ∃ ns, names G = ns := ⟨_, rfl⟩
            have hnl : ns.length ≤ 1000 := by rw [← hns, names_len]; exact hGn
            have HFT : Hid (∀ (G' : Gr) (E' : List Str) (wq : World), PN (fun x => X0 x ∨ blk da = some x) g w2.heap.size wq G' E' na nc mb me rs → names G' = ns → wq.cell? ⟨g, 0, none⟩ = some (.slice na ns.length nc) ∧ Sl encS 1 wq na nc ns) := Lib.hid (fun G' E' wq h hn => by
              obtain ⟨F, hr⟩ := h.at
              have h1 := hr.cell0
              have h2 : G'.length = ns.length := by rw [← hn, names_len]
              rw [h2] at h1
              have h3 := hr.nodes.sl encS_len
              rw [hn] at h3
              exact ⟨h1, h3⟩)
            have hcg := (HFT.out G E wr hNr hns).1
            have HN6 := Lib.hid hNr
            have HNS := Lib.hid hns
            have HO6 := Lib.hid hOr
            clear hNr hOr hgr gc2 hf HN HOW hokG hb1 hns
            obtain ⟨wp, rfl⟩ : ∃ wp : World, wp = wr := ⟨_, rfl⟩
            go_wp2
            go_loopg [132] ns.length (fun gk i wq => ∃ (k1 : Nat) (G1 : Gr) (E1 : List Str), k1 ≤ ns.length ∧ gk = ns.length - k1 ∧ i = .int .i64 k1 ∧ Hid ((ns.take k1).foldl (cAll ns) (G, E.length) = (G1, E1.length)) ∧ Hid (names G1 = ns) ∧ E1.length ≤ E.length + bC k1 ∧
              Hid (PN (fun x => X0 x ∨ blk da = some x) g w2.heap.size wq G1 E1 na nc mb me rs) ∧ Fr (fun x => ¬ (X0 x ∨ blk da = some x)) wp wq)
            case atStart => exact ⟨0, G, E, Nat.zero_le _, by omega, rfl, Lib.hid (by simp), HNS, by rw [bC_zero]; exact Nat.le_refl _, HN6, Fr.refl _ _⟩
            case round =>
              clear hcg HN6
              obtain ⟨k1, G1, E1, hk1, rfl, rfl, HQ1, HN1, hE1', HP1, hf1⟩ := hrel
              have hbC := bC_le k1 (by omega)
              have hft := HFT.out G1 E1 wr HP1.out HN1.out
              have hcg := hft.1
              by_cases hl1 : k1 < ns.length
              · obtain ⟨nb, noff, rfl, c1⟩ := hft.2.s1 hl1
                have hst1 : Hid ((ns.take (k1 + 1)).foldl (cAll ns) (G, E.length) = cAll ns (G1, E1.length) ns[k1]) := Lib.hid (by
                  rw [List.take_succ_eq_append_getElem hl1, List.foldl_append, HQ1.out]; rfl)
                generalize hxx : ns[k1] = x at *
                clear hxx hft HQ1
                go_wp2
                go_loopg [141] ns.length (fun gk i wq => ∃ (k2 : Nat) (G2 : Gr) (E2 : List Str), k2 ≤ ns.length ∧ gk = ns.length - k2 ∧ i = .int .i64 k2 ∧ Hid ((ns.take k2).foldl (cRow ns x) (G1, E1.length) = (G2, E2.length)) ∧ Hid (names G2 = ns) ∧ E2.length ≤ E1.length + k2 * 1000 ∧
                  Hid (PN (fun x => X0 x ∨ blk da = some x) g w2.heap.size wq G2 E2 (some ⟨nb, noff, none⟩) nc mb me rs) ∧ Fr (fun x => ¬ (X0 x ∨ blk da = some x)) wp wq)
                case atStart => exact ⟨0, G1, E1, Nat.zero_le _, by omega, rfl, Lib.hid (by simp), HN1, by omega, HP1, hf1⟩
                case round =>
                  clear hcg c1 HP1 hf1
                  obtain ⟨k2, G2, E2, hk2, rfl, rfl, HQ2, HN2, hE2', HP2, hf2⟩ := hrel
                  have hft := HFT.out G2 E2 wr HP2.out HN2.out
                  have hcg := hft.1
                  by_cases hl2 : k2 < ns.length
                  · obtain ⟨nb', noff', hnb, c2⟩ := hft.2.s1 hl2
                    simp only [Option.some.injEq, Addr.mk.injEq] at hnb
                    obtain ⟨rfl, rfl, _⟩ := hnb
                    have hst2 : Hid ((ns.take (k2 + 1)).foldl (cRow ns x) (G1, E1.length) = cRow ns x (G2, E2.length) ns[k2]) := Lib.hid (by
                      rw [List.take_succ_eq_append_getElem hl2, List.foldl_append, HQ2.out]; rfl)
                    have hyn : Hid (ns[k2] ∈ ns) := Lib.hid (List.getElem_mem hl2)
                    generalize hyy : ns[k2] = y at *
                    clear hyy hft HQ2
                    go_wp2
                    go_loopg [150] ns.length (fun gk i wq => ∃ (k3 : Nat) (G3 : Gr) (E3 : List Str), k3 ≤ ns.length ∧ gk = ns.length - k3 ∧ i = .int .i64 k3 ∧ Hid ((ns.take k3).foldl (cStep x y) (G2, E2.length) = (G3, E3.length)) ∧ Hid (names G3 = ns) ∧ E3.length ≤ E2.length + k3 ∧
                      Hid (PN (fun x => X0 x ∨ blk da = some x) g w2.heap.size wq G3 E3 (some ⟨nb, noff, none⟩) nc mb me rs) ∧ Fr (fun x => ¬ (X0 x ∨ blk da = some x)) wp wq)
                    case atStart => exact ⟨0, G2, E2, Nat.zero_le _, by omega, rfl, Lib.hid (by simp), HN2, by omega, HP2, hf2⟩
                    case round =>
                      clear hcg c2 HP2 hf2
                      obtain ⟨k3, G3, E3, hk3, rfl, rfl, HQ3, HN3, hE3', HP3, hf3⟩ := hrel
                      have hft := HFT.out G3 E3 wr HP3.out HN3.out
                      by_cases hl3 : k3 < ns.length
                      · obtain ⟨nb', noff', hnb, c3⟩ := hft.2.s1 hl3
                        simp only [Option.some.injEq, Addr.mk.injEq] at hnb
                        obtain ⟨rfl, rfl, _⟩ := hnb
                        have hst : Hid ((ns.take (k3 + 1)).foldl (cStep x y) (G2, E2.length) = cStep x y (G3, E3.length) ns[k3]) := Lib.hid (by
                          rw [List.take_succ_eq_append_getElem hl3, List.foldl_append, HQ3.out]; rfl)
                        generalize hzz : ns[k3] = z at *
                        clear hzz hft HQ3
                        have hyx := tl_beq y x
                        have hxz := tl_beq x z
                        have hyz := tl_beq y z
                        by_cases e1 : y = x
                        · have hcs : Hid ((ns.take (k3 + 1)).foldl (cStep x y) (G2, E2.length) = (G3, E3.length)) := Lib.hid (by rw [hst.out]; unfold cStep; rw [if_neg]; exact fun h => h.1 e1)
                          rw [decide_eq_true e1] at hyx
                          have hyx2 : (y.toList != x.toList) = false := by rw [bne, hyx]; rfl
                          clear hst e1
                          go_wp2
                          go_roundg (ns.length - (k3 + 1))
                          case measure => omega
                          case rel => exact ⟨k3 + 1, G3, E3, by omega, rfl, by go_num, hcs, HN3, by omega, HP3, hf3⟩
                        · rw [decide_eq_false e1] at hyx
                          have hyx2 : (y.toList != x.toList) = true := by rw [bne, hyx]; rfl
                          by_cases e2 : x = z
                          · have hcs : Hid ((ns.take (k3 + 1)).foldl (cStep x y) (G2, E2.length) = (G3, E3.length)) := Lib.hid (by rw [hst.out]; unfold cStep; rw [if_neg]; exact fun h => h.2.1 e2)
                            rw [decide_eq_true e2] at hxz
                            have hxz2 : (x.toList != z.toList) = false := by rw [bne, hxz]; rfl
                            clear hst e1 e2
                            go_wp2
                            go_roundg (ns.length - (k3 + 1))
                            case measure => omega
                            case rel => exact ⟨k3 + 1, G3, E3, by omega, rfl, by go_num, hcs, HN3, by omega, HP3, hf3⟩
                          · rw [decide_eq_false e2] at hxz
                            have hxz2 : (x.toList != z.toList) = true := by rw [bne, hxz]; rfl
                            have hc1 := hasEdge_PN y x HP3.out
                            cases e3 : hasE G3 y x with
                            | false =>
                              have hcs : Hid ((ns.take (k3 + 1)).foldl (cStep x y) (G2, E2.length) = (G3, E3.length)) := Lib.hid (by rw [hst.out]; unfold cStep; rw [if_neg]; exact fun h => by simp [e3] at h)
                              rw [e3] at hc1
                              have HC1 := Lib.hid hc1; clear hc1
                              clear hst e1 e2 e3
                              go_wp2_with (go_at_call_of 51 y; refine HC1.out.mono ?_; rintro e w' ⟨rfl, rfl⟩)
                              go_roundg (ns.length - (k3 + 1))
                              case measure => omega
                              case rel => exact ⟨k3 + 1, G3, E3, by omega, rfl, by go_num, hcs, HN3, by omega, HP3, hf3⟩
                            | true =>
                              rw [e3] at hc1
                              have HC1 := Lib.hid hc1; clear hc1
                              have hc2 := hasEdge_PN x z HP3.out
                              cases e4 : hasE G3 x z with
                              | false =>
                                have hcs : Hid ((ns.take (k3 + 1)).foldl (cStep x y) (G2, E2.length) = (G3, E3.length)) := Lib.hid (by rw [hst.out]; unfold cStep; rw [if_neg]; exact fun h => by simp [e4] at h)
                                rw [e4] at hc2
                                have HC2 := Lib.hid hc2; clear hc2
                                clear hst e1 e2 e3 e4
                                go_wp2_with (first
                                  | (go_at_call_of 51 y; refine HC1.out.mono ?_; rintro e w' ⟨rfl, rfl⟩)
                                  | (go_at_call_of 51 z; refine HC2.out.mono ?_; rintro e w' ⟨rfl, rfl⟩))
                                go_roundg (ns.length - (k3 + 1))
                                case measure => omega
                                case rel => exact ⟨k3 + 1, G3, E3, by omega, rfl, by go_num, hcs, HN3, by omega, HP3, hf3⟩
                              | true =>
                                rw [e4] at hc2
                                have HC2 := Lib.hid hc2; clear hc2
                                have hny : Hid (y ∈ names G3) := Lib.hid (by rw [HN3.out]; exact hyn.out)
                                by_cases e5 : y = z
                                · have hcs : Hid ((ns.take (k3 + 1)).foldl (cStep x y) (G2, E2.length) = (addE G3 y z, E3.length + 1)) := Lib.hid (by rw [hst.out]; unfold cStep; rw [if_pos ⟨e1, e2, e3, e4⟩]; simp only; rw [if_pos e5])
                                  rw [decide_eq_true e5] at hyz
                                  clear hst e1 e2 e3 e4 e5
                                  go_wp2_with (first
                                    | (go_at_call_of 51 y; refine HC1.out.mono ?_; rintro e w' ⟨rfl, rfl⟩)
                                    | (go_at_call_of 51 z; refine HC2.out.mono ?_; rintro e w' ⟨rfl, rfl⟩)
                                    | (go_at_call 50; refine (addEdge_PN y z h7 hny.out).mono ?_; rintro e w8 ⟨rfl, h8, f8⟩)
                                    | (go_at_call 48; refine (errorf_PN _ (by decide) HP3.out (by omega)).mono ?_; rintro e w7 ⟨rfl, h7, f7⟩))
                                  go_roundg (ns.length - (k3 + 1))
                                  case measure => omega
                                  case rel => exact ⟨k3 + 1, addE G3 y z, E3 ++ [_], by omega, rfl, by go_num, Lib.hid (by rw [hcs.out]; simp), Lib.hid (by rw [names_addE]; exact HN3.out), by simp; omega, Lib.hid h8, (hf3.trans f7 (fun _ _ e => e)).trans f8 (fun _ _ e => e)⟩
                                · have hcs : Hid ((ns.take (k3 + 1)).foldl (cStep x y) (G2, E2.length) = (addE G3 y z, E3.length)) := Lib.hid (by rw [hst.out]; unfold cStep; rw [if_pos ⟨e1, e2, e3, e4⟩]; simp only; rw [if_neg e5])
                                  rw [decide_eq_false e5] at hyz
                                  clear hst e1 e2 e3 e4 e5
                                  go_wp2_with (first
                                    | (go_at_call_of 51 y; refine HC1.out.mono ?_; rintro e w' ⟨rfl, rfl⟩)
                                    | (go_at_call_of 51 z; refine HC2.out.mono ?_; rintro e w' ⟨rfl, rfl⟩)
                                    | (go_at_call 50; refine (addEdge_PN y z HP3.out hny.out).mono ?_; rintro e w8 ⟨rfl, h8, f8⟩))
                                  go_roundg (ns.length - (k3 + 1))
                                  case measure => omega
                                  case rel => exact ⟨k3 + 1, addE G3 y z, E3, by omega, rfl, by go_num, hcs, Lib.hid (by rw [names_addE]; exact HN3.out), by omega, Lib.hid h8, hf3.trans f8 (fun _ _ e => e)⟩
                      · have hfin : Hid ((ns.take (k2 + 1)).foldl (cRow ns x) (G1, E1.length) = (G3, E3.length)) := Lib.hid (by
                          rw [hst2.out, ← HQ3.out, List.take_of_length_le (by omega)]; rfl)
                        clear hft
                        go_wp2
                        go_roundg (ns.length - (k2 + 1))
                        case measure => omega
                        case rel => exact ⟨k2 + 1, G3, E3, by omega, rfl, by go_num, hfin, HN3, by omega, HP3, hf3⟩
                  · have hfin : Hid ((ns.take (k1 + 1)).foldl (cAll ns) (G, E.length) = (G2, E2.length)) := Lib.hid (by
                      rw [hst1.out, ← HQ2.out, List.take_of_length_le (by omega)]; rfl)
                    have hE5 : E2.length ≤ E.length + bC (k1 + 1) := by have := bC_succ k1; omega
                    clear hft
                    go_wp2
                    go_roundg (ns.length - (k1 + 1))
                    case measure => omega
                    case rel => exact ⟨k1 + 1, G2, E2, by omega, rfl, by go_num, hfin, HN2, hE5, HP2, hf2⟩
              · have hcl : Hid (iClose ns (G, E.length) = (G1, E1.length)) := Lib.hid (by
                  have := HQ1.out
                  rwa [List.take_of_length_le (by omega)] at this)
                have hgP : Hid (graphP R = if D.foldl (bB G1) E1.length = 0 then some G1 else none) := Lib.hid (by
                  have h1 : graphP R = if iBars (iClose (names (iBuild R).1) (iBuild R)).1 R (iClose (names (iBuild R).1) (iBuild R)).2 = 0 then some (iClose (names (iBuild R).1) (iBuild R)).1 else none := rfl
                  rw [hall.out] at h1
                  simp only [HNS.out] at h1
                  rw [hcl.out] at h1
                  simp only at h1
                  rw [h1, iBars_zip _ _ _ HQR.out, ← hDall.out])
                have HDI : Hid (∀ x ∈ D, x.2.2.1 = true ∧ x.2.1.length ≤ 1000 ∧ x.2.2.2.length ≤ 1000 ∧ ∀ w', Fr (fun x => ¬ X0 x) W3 w' → QAt w' x.1 x.2) := Lib.hid (fun x hx => by
                  rw [hDall.out] at hx
                  obtain ⟨hx, hb⟩ := List.mem_filter.1 hx
                  obtain ⟨i, hi, rfl⟩ := List.mem_iff_getElem.1 hx
                  rw [List.length_zip] at hi
                  have hq := HQR.out
                  have h3 := hRL.out R[i] (List.getElem_mem (by omega))
                  simp only [List.getElem_zip] at hb ⊢
                  exact ⟨hb, h3.1, h3.2, fun w' h => (HDR.out w' h).inner i (by omega) (by omega)⟩)
                have hDl : D.length ≤ 1000 := by
                  rw [hDall.out]
                  have := List.length_filter_le (fun x : QV × Rl => x.2.2.1) (qs.zip R)
                  rw [List.length_zip] at this
                  have := HQR.out
                  omega
                have hfr9 : Fr (fun x => ¬ X0 x) W3 wr := hfr6.trans (hf1.mono (fun x _ h h0 => h (.inl h0))) (fun _ _ e => e)
                have HO9 := Lib.hid (HO6.out.fr hf1 (fun x e h => h (.inr e)))
                have HP9 := Lib.hid HP1.out.pe
                have hE19 : E1.length ≤ 3000000000 := by omega
                have HFW : Hid (∀ w', Fr (fun x => ¬ (X0 x ∨ blk da = some x)) wr w' → Fr (fun x => ¬ X0 x) W3 w' ∧ Own (fun x : QV × Rl => encQ opV x.1) 3 w' w.heap.size 85 da dcap D) := Lib.hid (fun w' h => ⟨hfr9.trans (h.mono (fun x _ h h0 => h (.inl h0))) (fun _ _ e => e), HO9.out.fr h (fun x e hh => hh (.inr e))⟩)
                clear HQ1 hcl hall hDall hcg hft HN1 HP1 hfr6 hf1 HO6 hE1' hbC hfr9 HO9 HNS HFT HDR

                have hlnc := HFW.out wr (Fr.refl _ _)
                have hDm : D.length ≤ 9223372036854775807 := by omega
                clear hlnc
                obtain ⟨wn, rfl⟩ : ∃ wn : World, wn = wr := ⟨_, rfl⟩
                go_wp2
                go_loopg [188] D.length (fun gk i wq => ∃ (kd : Nat) (E2 : List Str), kd ≤ D.length ∧ gk = D.length - kd ∧ i = .int .i64 kd ∧ Hid ((D.take kd).foldl (bB G1) E1.length = E2.length) ∧ E2.length ≤ E1.length + bC kd ∧
                  Hid (PE (fun x => X0 x ∨ blk da = some x) g w2.heap.size wq G1 E2) ∧ Fr (fun x => ¬ (X0 x ∨ blk da = some x)) wn wq)
                case atStart => exact ⟨0, E1, Nat.zero_le _, by omega, rfl, Lib.hid (by simp), by rw [bC_zero]; exact Nat.le_refl _, HP9, Fr.refl _ _⟩
                case round =>
                  clear HP9
                  obtain ⟨kd, E2, hkd, rfl, rfl, HQd, hE2', HPd, hfd⟩ := hrel
                  have hbC := bC_le kd (by omega)
                  obtain ⟨hfd0, hown⟩ := HFW.out wr hfd
                  by_cases hld : kd < D.length
                  · have hsl := hown.sl (fun x : QV × Rl => encQ_len opV x.1)
                    obtain ⟨bb, off, rfl, hbl, hcell⟩ := hsl.2.2 (by omega)
                    have hcap := hsl.1
                    have g0 := hcell kd hld 0 _ rfl
                    have g1 := hcell kd hld 1 _ rfl
                    have g2 := hcell kd hld 2 _ rfl
                    obtain ⟨hb9, hl9, hd9, HAT⟩ := HDI.out D[kd] (List.getElem_mem hld)
                    have hstd : Hid ((D.take (kd + 1)).foldl (bB G1) E1.length = bB G1 E2.length D[kd]) := Lib.hid (by
                      rw [List.take_succ_eq_append_getElem hld, List.foldl_append, HQd.out]; rfl)
                    obtain ⟨q1, q2, q3, q4, q5⟩ := HAT wr hfd0
                    have HAQ := Lib.hid HAT; clear HAT
                    generalize D[kd] = xd at *
                    obtain ⟨⟨⟨la, ll, lc⟩, qb, ⟨da2, dl, dc⟩⟩, ⟨ls, br, ds⟩⟩ := xd
                    simp only [Nat.add_zero] at q1 q2 q3 q4 q5 g0 g1 g2 hb9 hl9 hd9
                    subst q1
                    subst q2
                    subst q3
                    have hdlen := q5.len
                    have hllen := q4.len
                    clear q4 q5 hcell hsl HQd hown hfd0
                    have g1' : wr.cell? ⟨bb, off + kd * 3 + 1, none⟩ = some (.string (opS qb)) := g1
                    clear g1
                    have hbox0 := heap_alloc_new wr (.cells #[.slice la ls.length lc, .string (opS qb), .slice da2 ds.length dc] 85 (0, 0))
                    generalize opS qb = os at *
                    obtain ⟨wo2, rfl⟩ : ∃ wo2 : World, wo2 = wr := ⟨_, rfl⟩
                    obtain ⟨bx, hbxe⟩ : ∃ bx : Nat, wo2.heap.size = bx := ⟨_, rfl⟩
                    obtain ⟨X1, hX1⟩ : ∃ X1 : Nat → Prop, ∀ x, X1 x ↔ ((X0 x ∨ blk (some (⟨bb, off, none⟩ : Addr)) = some x) ∨ x = bx) := ⟨fun x => (X0 x ∨ blk (some (⟨bb, off, none⟩ : Addr)) = some x) ∨ x = bx, fun _ => Iff.rfl⟩
                    have HX1 := Lib.hid hX1
                    clear hX1
                    obtain ⟨Wb, hWb⟩ : ∃ Wb, wo2.alloc (.cells #[.slice la ls.length lc, .string os, .slice da2 ds.length dc] 85 (0, 0)) = Wb := ⟨_, rfl⟩
                    rw [hWb, hbxe] at hbox0
                    have HPb : Hid (PE X1 g w2.heap.size Wb G1 E2) := Lib.hid (by
                      have h1 := HPd.out.box (.cells #[.slice la ls.length lc, .string os, .slice da2 ds.length dc] 85 (0, 0))
                      rw [hWb, hbxe] at h1
                      exact h1.mono (fun x h => (HX1.out x).1 h))
                    have hfb : Fr (fun x => ¬ (X0 x ∨ blk (some (⟨bb, off, none⟩ : Addr)) = some x)) wn Wb := by rw [← hWb]; exact hfd.trans (Fr.alloc (fun x => ¬ (X0 x ∨ blk (some (⟨bb, off, none⟩ : Addr)) = some x)) wo2 _) (fun _ _ e => e)
                    have HFB : Hid (∀ w', Fr (fun x => ¬ X1 x) Wb w' → Fr (fun x => ¬ (X0 x ∨ blk (some (⟨bb, off, none⟩ : Addr)) = some x)) wn w') := Lib.hid (fun w' h => hfb.trans h (fun x _ e h0 => e ((HX1.out x).2 (.inl h0))))
                    have HSL : Hid (∀ w', Fr (fun x => ¬ X1 x) Wb w' → Sl encS 1 w' la lc ls ∧ Sl encS 1 w' da2 dc ds) := Lib.hid (fun w' h => ⟨(HAQ.out w' (HFW.out w' (HFB.out w' h)).1).2.2.2.1, (HAQ.out w' (HFW.out w' (HFB.out w' h)).1).2.2.2.2⟩)
                    have hbxl : bx < Wb.heap.size := (Array.getElem?_eq_some_iff.1 hbox0).1
                    have HBX : Hid (∀ w', Fr (fun x => ¬ X1 x) Wb w' → w'.heap[bx]? = some (.cells #[.slice la ls.length lc, .string os, .slice da2 ds.length dc] 85 (0, 0))) := Lib.hid (fun w' h => (h.block bx hbxl (fun e => e ((HX1.out bx).2 (.inr rfl)))).trans hbox0)
                    have b0 : Wb.cell? ⟨bx, 0, none⟩ = some (.slice la ls.length lc) := by rw [cell_of_row _ _ _ _ _ _ hbox0]; rfl
                    clear hbox0 hfb
                    go_wp2
                    go_loopg [195] ls.length (fun gk i wq => ∃ (p : Nat) (E3 : List Str), p ≤ ls.length ∧ gk = ls.length - p ∧ i = .int .i64 p ∧ Hid ((ls.take p).foldl (bLess G1 ds) E2.length = E3.length) ∧ E3.length ≤ E2.length + p * 1000 ∧
                      Hid (PE X1 g w2.heap.size wq G1 E3) ∧ Fr (fun x => ¬ X1 x) Wb wq)
                    case atStart => exact ⟨0, E2, Nat.zero_le _, by omega, rfl, Lib.hid (by simp), by omega, HPb, Fr.refl _ _⟩
                    case round =>
                      clear b0 HPb
                      obtain ⟨p, E3, hp, rfl, rfl, HQl, hE3', HPl, hfl⟩ := hrel
                      obtain ⟨sls, sds⟩ := HSL.out wr hfl
                      have hbx := HBX.out wr hfl
                      have b2 : wr.cell? ⟨bx, 2, none⟩ = some (.slice da2 ds.length dc) := by rw [cell_of_row _ _ _ _ _ _ hbx]; rfl
                      by_cases hpl : p < ls.length
                      · obtain ⟨lb, loff, rfl, l1⟩ := sls.s1 hpl
                        have hst : Hid ((ls.take (p + 1)).foldl (bLess G1 ds) E2.length = bLess G1 ds E3.length ls[p]) := Lib.hid (by
                          rw [List.take_succ_eq_append_getElem hpl, List.foldl_append, HQl.out]; rfl)
                        clear HQl hbx sds
                        generalize ls[p] = l at *
                        go_wp2
                        go_loopg [202] ds.length (fun gk i wq => ∃ (j : Nat) (E4 : List Str), j ≤ ds.length ∧ gk = ds.length - j ∧ i = .int .i64 j ∧ Hid ((ds.take j).foldl (bDef G1 l) E3.length = E4.length) ∧ E4.length ≤ E3.length + j ∧
                          Hid (PE X1 g w2.heap.size wq G1 E4) ∧ Fr (fun x => ¬ X1 x) Wb wq)
                        case atStart => exact ⟨0, E3, Nat.zero_le _, by omega, rfl, Lib.hid (by simp), by omega, HPl, hfl⟩
                        case round =>
                          clear b2 l1 HPl hfl sls
                          obtain ⟨j, E4, hj, rfl, rfl, HQj, hE4', HPj, hfj⟩ := hrel
                          obtain ⟨sls, sds⟩ := HSL.out wr hfj
                          by_cases hjl : j < ds.length
                          · obtain ⟨db, doff, rfl, d1⟩ := sds.s1 hjl
                            have hstj : Hid ((ds.take (j + 1)).foldl (bDef G1 l) E3.length = bDef G1 l E4.length ds[j]) := Lib.hid (by
                              rw [List.take_succ_eq_append_getElem hjl, List.foldl_append, HQj.out]; rfl)
                            clear HQj sls
                            generalize ds[j] = d at *
                            have hc1 := hasEdge_PE d l HPj.out
                            cases e3 : hasE G1 d l with
                            | false =>
                              have hcs : Hid ((ds.take (j + 1)).foldl (bDef G1 l) E3.length = E4.length) := Lib.hid (by rw [hstj.out]; simp [bDef, e3])
                              rw [e3] at hc1
                              have HC1 := Lib.hid hc1; clear hc1
                              clear hstj e3
                              go_wp2_with (go_at_call 51; refine HC1.out.mono ?_; rintro e w' ⟨rfl, rfl⟩)
                              go_roundg (ds.length - (j + 1))
                              case measure => omega
                              case rel => exact ⟨j + 1, E4, by omega, rfl, by go_num, hcs, by omega, HPj, hfj⟩
                            | true =>
                              have hcs : Hid ((ds.take (j + 1)).foldl (bDef G1 l) E3.length = E4.length + 1) := Lib.hid (by rw [hstj.out]; simp [bDef, e3])
                              rw [e3] at hc1
                              have HC1 := Lib.hid hc1; clear hc1
                              clear hstj e3
                              go_wp2_with (first
                                | (go_at_call 51; refine HC1.out.mono ?_; rintro e w' ⟨rfl, rfl⟩)
                                | (go_at_call 48; refine (errorf_PE _ (by decide) HPj.out (by omega)).mono ?_; rintro e w7 ⟨rfl, h7, f7⟩))
                              go_roundg (ds.length - (j + 1))
                              case measure => omega
                              case rel => exact ⟨j + 1, E4 ++ [_], by omega, rfl, by go_num, Lib.hid (by rw [hcs.out]; simp), by simp; omega, Lib.hid h7, hfj.trans f7 (fun _ _ e => e)⟩
                          · have hfin : Hid ((ls.take (p + 1)).foldl (bLess G1 ds) E2.length = E4.length) := Lib.hid (by
                              rw [hst.out, ← HQj.out, List.take_of_length_le (by omega)]; rfl)
                            go_wp2
                            go_roundg (ls.length - (p + 1))
                            case measure => omega
                            case rel => exact ⟨p + 1, E4, by omega, rfl, by go_num, hfin, by omega, HPj, hfj⟩
                      · have hfin : Hid ((D.take (kd + 1)).foldl (bB G1) E1.length = E3.length) := Lib.hid (by
                          rw [hstd.out, ← HQl.out, List.take_of_length_le (by omega)]; rfl)
                        have hE5 : E3.length ≤ E1.length + bC (kd + 1) := by have := bC_succ kd; omega
                        have HPE2 := Lib.hid (HPl.out.mono (Y := fun x => X0 x ∨ blk (some (⟨bb, off, none⟩ : Addr)) = some x) (fun x h => (HX1.out x).2 (.inl h)))
                        have hfr2 := HFB.out wr hfl
                        go_wp2
                        go_roundg (D.length - (kd + 1))
                        case measure => omega
                        case rel => exact ⟨kd + 1, E3, by omega, rfl, by go_num, hfin, hE5, HPE2, hfr2⟩
                  · have hfin : Hid (res = if E2.length = 0 then some G1 else none) := Lib.hid (by
                      have h1 := HQd.out
                      rw [List.take_of_length_le (by omega)] at h1
                      rw [← HRES.out, hgP.out, h1])
                    have hb := HBL.out wr hfd0
                    have hE29 : E2.length ≤ 4000000000 := by omega
                    obtain ⟨na', nc', mb', me', rs', F, ea, ecap, hpr⟩ := HPd.out
                    have ec0 : wr.cell? ⟨w2.heap.size, 0, none⟩ = some (.slice ea E2.length ecap) := by rw [cell_of_row _ _ _ _ _ _ hpr.er]; rfl
                    have HPR2 := Lib.hid hpr
                    clear hpr HPd HQd hown hgP
                    rcases Nat.eq_zero_or_pos E2.length with h0 | h0
                    · have hres : Hid (res = some G1) := Lib.hid (by rw [hfin.out, if_pos h0])
                      clear hfin
                      go_wp2
                      go_ret2
                      exact RetDag.ok hres hb HPR2.out.gr.at (fun k hk => by
                        rcases Nat.lt_or_ge k w.heap.size with h | h
                        · exact absurd hk (HPR2.out.xF k (.inl ((HX0.out k).2 (.inl h))))
                        · exact h)
                    · have hres : Hid (res = none) := Lib.hid (by rw [hfin.out, if_neg (by omega)])
                      clear hfin
                      have hown := HPR2.out.own
                      obtain ⟨eb, rfl⟩ := hown.some_of h0
                      have hsl := hown.sl encS_len
                      have hlt := (hown.lt eb rfl).2
                      have hjoin := Tryd.strings_Join eb 0 ecap E2 ⟨#[10]⟩ wr (fun j x hx => by
                        obtain ⟨hj, rfl⟩ := List.getElem?_eq_some_iff.1 hx
                        obtain ⟨b', off', e1, e2⟩ := hsl.s1 hj
                        simp only [Option.some.injEq, Addr.mk.injEq] at e1
                        obtain ⟨rfl, rfl, _⟩ := e1
                        exact e2) hlt (by omega) hsl.1 (Nat.le_trans (join_small E2 HPR2.out.sz) (by omega))
                      have HJ := Lib.hid hjoin; clear hjoin
                      generalize (⟨(Lib.join (E2.map (·.data.toList)) (⟨#[10]⟩ : Str).data.toList).toArray⟩ : Str) = js at *
                      clear hown hsl
                      go_wp2_with (go_at_call 52; refine HJ.out.mono ?_; rintro e w9 ⟨rfl, hb9⟩)
                      go_ret2
                      exact RetDag.no hres (hb.top hb9 (Nat.le_refl _))
          · intro x v l1 l2 w6 HL HM hit6 hf6 hent
            have hv : Hid (∃ i, ∃ (h : i < rs.length) (h' : i < G.length), v = .map (some rs[i])) := Lib.hid (by
              obtain ⟨p, hp, hpe⟩ := List.mem_map.1 HM.out
              obtain ⟨i, hi, hpi⟩ := List.mem_iff_getElem.1 hp
              simp only [List.length_zip, names_len] at hi
              refine ⟨i, by omega, by omega, ?_⟩
              rw [← hpi] at hpe
              simp at hpe
              exact hpe.2.symm)
            obtain ⟨i, hi, hi', rfl⟩ := hv.out
            clear hv HM
            have hlt6 : rs[i] < wo.heap.size := (hgr.out.sets i hi hi').lt
            have hmap2 : SMap w6 rs[i] (setOf G[i].2) := ((hgr.out.sets i hi hi').fr (Fr.of_below_top hb1 NoB) (fun e => e.elim)).fr hf6 (by omega)
            have hb6 : Below wo.heap.size wo w6 := hb1.fr hf6 (Nat.le_refl _) (fun b e => by omega)
            have hsz6 := hb6.size
            have hitl := hit6.lt
            have hcl6 : Hid (∀ y, y ∈ G[i].2 → ∃ j, ∃ (h : j < rs.length) (h' : j < G.length), y = G[j].1) := Lib.hid (fun y hy => by
              have h1 : hasE G G[i].1 y = true := by rw [hasE_at hokG.out.1.1 i hi']; simpa using hy
              obtain ⟨j, hj, hje⟩ := names_at (hokG.out.2 _ _ h1)
              exact ⟨j, by rw [hgr.out.len]; exact hj, hj, hje.symm⟩)
            generalize hri : rs[i] = ri at *
            clear hri
            generalize G[i].2 = tos at *
            obtain ⟨wz, rfl⟩ : ∃ wz : World, wz = w6 := ⟨_, rfl⟩
            go_wp2_with (at_range; refine wpList_range_s _ rfl _ 88 rfl Tryd.underlying88 ri rfl _ hmap2 wz.heap.size rfl ?_; intro w7 hit7 hf7 hsz7)
            go_frame
            have hit6' := hit6.fr hf7 (fun e => e) (fun e => e)
            go_loopg [20] (setOf tos).length (fun gk v20 wq => ∃ left2 : AL, gk = left2.length ∧ Iter wq wz.heap.size ri (setOf tos) left2 ∧ Iter wq wo.heap.size me (refs (names G) rs) (l1 ++ l2) ∧ Below wo.heap.size wo wq)
            case atStart => exact ⟨_, rfl, hit7, hit6', hb6.fr hf7 (Nat.le_refl _) (fun b e => e.elim)⟩
            case round =>
              clear hit6' hit7 hf7 hsz7 hmap2 hit6 hf6 hent hb6
              obtain ⟨left2, rfl, hit8, hit8o, hb8⟩ := hrel
              go_wp2_with (at_next; refine wpList_next_s _ rfl _ rfl _ ri rfl _ left2 hit8 ?_ ?_)
              · intro hle2
                clear hle2
                go_wp2
                go_roundg (l1 ++ l2).length
                case measure => rw [HL.out]; simp
                case rel => exact ⟨l1 ++ l2, rfl, hit8o, hb8⟩
              · intro y v2 m1 m2 w9 HL2 HM2 hit9 hf9 hent9
                have hb9 : Below wo.heap.size wo w9 := hb8.fr hf9 (Nat.le_refl _) (fun b e => by omega)
                have hit9o := hit8o.fr hf9 (by omega) (by have := hit8o.map.lt; have := hgr.out.tbl.lt; omega)
                have hy : y ∈ tos := by
                  obtain ⟨p, hp, hpe, _⟩ := HM2.out
                  rw [← hpe]; exact hp
                obtain ⟨j, hj, hj', rfl⟩ := hcl6.out y hy
                have hgr9 := hgr.out.keep (Fr.of_below_top hb9 NoB) (fun _ _ e => e.elim)
                have gc9 := hgr9.cell2
                have hlk := hgr9.tbl.look Tryd.underlying67 Tryd.underlying9 (zeroM w9) G[j].1
                rw [hgr9.lookR j hj' hj, Option.getD_some] at hlk
                have hnl := fun (r : Option Nat) (w : World) => run_eql_map_nil (P := Tryd.prog) w 88 9 4 r Tryd.underlying88
                clear hgr9 hy HM2 hit8 hit8o hf9
                generalize G[j].1 = y at *
                go_wp2
                go_roundg (m1 ++ m2).length
                case measure => rw [HL2.out]; simp
                case rel => exact ⟨m1 ++ m2, rfl, hit9, hit9o, hb9⟩
end Go.Proofs.YthpfladpbfbpjaaDoor

/- impl.Parse, impl.ParseTopo, impl.ParseReduced and laws.told: what each call computes. -/
namespace Go.Proofs.YthpfladpbfbpjaaDoor
open Go.RowKit

/-! ### plain laws -/
theorem okG_cStep (k i : Str) (p : Gr × Nat) (j : Str) (h : OkG p.1) : OkG (cStep k i p j).1 := by
  unfold cStep
  split
  · rename_i hc
    exact okG_addE h (hasE_names hc.2.2.1) (h.2 _ _ hc.2.2.2)
  · exact h
theorem okG_cF {α : Type} (f : Gr × Nat → α → Gr × Nat) (hf : ∀ p x, OkG p.1 → OkG (f p x).1) : ∀ (l : List α) (p : Gr × Nat), OkG p.1 → OkG (l.foldl f p).1
  | [], _, h => h
  | x :: r, p, h => by
    rw [List.foldl_cons]
    exact okG_cF f hf r _ (hf p x h)
theorem okG_iClose (ns : List Str) (p : Gr × Nat) (h : OkG p.1) : OkG (iClose ns p).1 :=
  okG_cF _ (fun p _ h => okG_cF _ (fun p _ h => okG_cF _ (fun p j h => okG_cStep _ _ p j h) ns p h) ns p h) ns p h
/-- what the package makes of tokens; none is a refusal -/
def packP (ts : List Str) : Option Gr := (pRules ts).bind graphP
theorem packP_ok {ts : List Str} (hts : ts.length ≤ 1000) {G : Gr} (h : packP ts = some G) : OkG G ∧ G.length ≤ 1000 := by
  unfold packP at h
  cases hr : pRules ts with
  | none => rw [hr] at h; cases h
  | some R =>
    rw [hr] at h
    simp only [Option.bind_some] at h
    obtain ⟨_, _, hs⟩ := pRules_small hr
    unfold graphP at h
    simp only at h
    split at h
    · cases h
      refine ⟨okG_iClose _ _ (okG_build R), ?_⟩
      rw [← names_len, names_iClose, names_len]
      have := iBuild_len R
      omega
    · cases h
abbrev TabW (w : World) : Prop := Lib.TabIs Tryd.prog w "internal/strconv.uint64pow10" .u64 Lib.pow10Tab

def RetIP (o : Option Gr) (w : World) (e : Ending) (w' : World) : Prop := ∃ a n c b m d ok, e = .returned (.tuple #[.slice a n c, .slice b m d, .bool ok]) ∧ Below w.heap.size w w' ∧ match o with
  | none => ok = false
  | some G => ok = true ∧ n = (names G).length ∧ Sl encS 1 w' a c (names G) ∧ m = (allG G).length ∧ Sl encE 2 w' b d (allG G)
theorem RetIP.no {o : Option Gr} {w w' : World} {a b : Option Addr} {n c m d : Nat} (h : Hid (o = none)) (hb : Below w.heap.size w w') : RetIP o w (.returned (.tuple #[.slice a n c, .slice b m d, .bool false])) w' := by
  rw [h.out]; exact ⟨_, _, _, _, _, _, _, rfl, hb, rfl⟩
theorem RetIP.ok {o : Option Gr} {G : Gr} {w w' : World} {a b : Option Addr} {n c m d : Nat} (h : Hid (o = some G)) (hb : Below w.heap.size w w') (hn : n = G.length) (h1 : Sl encS 1 w' a c (names G)) (hm : m = (allG G).length) (h2 : Sl encE 2 w' b d (allG G)) :
    RetIP o w (.returned (.tuple #[.slice a n c, .slice b m d, .bool true])) w' := by
  rw [h.out]; exact ⟨_, _, _, _, _, _, _, rfl, hb, rfl, by rw [hn, names_len], h1, hm, h2⟩

set_option maxRecDepth 100000 in
set_option maxHeartbeats 1000000 in
theorem parseI_calls (tx : Str) (ts : List Str) (w : World) (hsm : tx.size ≤ 1000000) (hlx : lex (bs tx) = some ts) (hts : ts.length ≤ 1000) (htab : TabW w) :
    Calls Tryd.prog 19 #[.string tx] w (RetIP (packP ts) w) := by
  have hdp := dagParse_calls tx ts w hsm hlx hts htab
  rw [show (pRules ts).bind graphP = packP ts from rfl] at hdp
  rcases (show packP ts = none ∨ ∃ G, packP ts = some G by cases packP ts <;> simp) with ho | ⟨G, ho⟩
  · rw [ho] at hdp
    have HD := Lib.hid hdp; clear hdp
    have hres := Lib.hid ho
    clear ho htab hlx
    generalize packP ts = o at hres ⊢
    go_enter Tryd.func19, Tryd.ntmps19
    go_wp2_with (go_at_call 38; refine HD.out.mono ?_; rintro e w1 ⟨v, er, rfl, hb1, rfl, s, rfl⟩)
    go_ret3
    exact RetIP.no hres hb1
  · obtain ⟨hok, hlen⟩ := packP_ok hts ho
    rw [ho] at hdp
    have HD := Lib.hid hdp; clear hdp
    have HOK := Lib.hid hok; clear hok
    have hres := Lib.hid ho
    clear ho htab hlx
    generalize packP ts = o at hres ⊢
    have HC : Hid (∀ (w1 : World) (g : Nat) (F : Nat → Prop), GraphAt w1 F g G → ∃ na nc, w1.cell? ⟨g, 0, none⟩ = some (.slice na G.length nc) ∧ ∀ w2, Below w1.heap.size w1 w2 → w2.cell? ⟨g, 0, none⟩ = some (.slice na G.length nc) ∧ Sl encS 1 w2 na nc (names G)) := Lib.hid (fun w1 g F hg => by
      obtain ⟨na, nc, mb, me, rs, h⟩ := hg
      refine ⟨na, nc, h.cell0, fun w2 hb => ?_⟩
      have h2 := h.keep (Fr.of_below_top hb NoB) (fun _ _ e => e.elim)
      exact ⟨h2.cell0, h2.nodes.sl encS_len⟩)
    go_enter Tryd.func19, Tryd.ntmps19
    go_wp2_with (go_at_call 38; refine HD.out.mono ?_; rintro e w1 ⟨v, er, rfl, hb1, rfl, g, F, rfl, hg, hF⟩; obtain ⟨na, nc, hc0, hkeep⟩ := HC.out w1 g F hg)
    have HK := Lib.hid hkeep
    have hcd := (hkeep w1.drew (Fr.drew NoB w1).below_top).1
    have HA := Lib.hid (all_calls (GraphAt.top hg (Fr.drew NoB w1).below_top) HOK.out.2 (by omega))
    clear hkeep
    go_region_held3 (fun w' => w'.cell? ⟨g, 0, none⟩ = some (.slice na G.length nc))
      (first | go_keep | (exact hc3))
      ((go_at_call 39; refine HA.out.mono ?_; rintro e w3 ⟨a3, n3, c3, rfl, rfl, hown3, hb3⟩; have hb13 := ((Fr.drew NoB w1).below_top).top hb3 (Nat.le_refl _); have hc3 := (HK.out w3 hb13).1))
    go_wp2
    go_ret3
    exact RetIP.ok hres (hb1.top hb13 (Nat.le_refl _)) rfl (HK.out _ hb13).2 rfl (hown3.sl encE_len)

def RetTo (o : Option Gr) (f : Nat) (w : World) (e : Ending) (w' : World) : Prop := ∃ a n c ok, e = .returned (.tuple #[.slice a n c, .bool ok]) ∧ Below w.heap.size w w' ∧ match o with
  | none => ok = false
  | some G => ok = true ∧ n = (topoL G f).length ∧ Sl encS 1 w' a c (topoL G f)
theorem RetTo.no {o : Option Gr} {f : Nat} {w w' : World} {a : Option Addr} {n c : Nat} (h : Hid (o = none)) (hb : Below w.heap.size w w') : RetTo o f w (.returned (.tuple #[.slice a n c, .bool false])) w' := by
  rw [h.out]; exact ⟨_, _, _, _, rfl, hb, rfl⟩
theorem RetTo.ok {o : Option Gr} {f : Nat} {G : Gr} {w w' : World} {a : Option Addr} {n c : Nat} (h : Hid (o = some G)) (hb : Below w.heap.size w w') (hn : n = (topoL G f).length) (h1 : Sl encS 1 w' a c (topoL G f)) : RetTo o f w (.returned (.tuple #[.slice a n c, .bool true])) w' := by
  rw [h.out]; exact ⟨_, _, _, _, rfl, hb, rfl, hn, h1⟩
set_option maxRecDepth 100000 in
theorem parseTopo_calls (tx : Str) (ts : List Str) (w : World) (hsm : tx.size ≤ 1000000) (hlx : lex (bs tx) = some ts) (hts : ts.length ≤ 1000) (htab : TabW w) (d : Str → Nat) (f : Nat) (hd : ∀ G, packP ts = some G → (∀ a b, hasE G a b = true → d b < d a) ∧ ∀ x ∈ names G, d x < f) :
    Calls Tryd.prog 23 #[.string tx] w (RetTo (packP ts) f w) := by
  have hdp := dagParse_calls tx ts w hsm hlx hts htab
  rw [show (pRules ts).bind graphP = packP ts from rfl] at hdp
  rcases (show packP ts = none ∨ ∃ G, packP ts = some G by cases packP ts <;> simp) with ho | ⟨G, ho⟩
  · rw [ho] at hdp
    have HD := Lib.hid hdp; clear hdp
    have hres := Lib.hid ho
    clear ho htab hlx hd
    generalize packP ts = o at hres ⊢
    go_enter Tryd.func23, Tryd.ntmps23
    go_wp2_with (go_at_call 38; refine HD.out.mono ?_; rintro e w1 ⟨v, er, rfl, hb1, rfl, s, rfl⟩)
    go_ret2
    exact RetTo.no hres hb1
  · obtain ⟨hok, hlen⟩ := packP_ok hts ho
    rw [ho] at hdp
    have hd2 := hd G ho
    have HT : Hid (∀ (w1 : World) (g : Nat) (F : Nat → Prop), GraphAt w1 F g G → Calls Tryd.prog 41 #[.pointer (some ⟨g, 0, none⟩)] w1 (RetSl fun a n cap w' => n = (topoL G f).length ∧ Sl encS 1 w' a cap (topoL G f) ∧ Below w1.heap.size w1 w')) :=
      Lib.hid (fun w1 g F hg => topo_calls hg hd2.1 hok.2 (by omega) hd2.2)
    have HD := Lib.hid hdp; clear hdp
    have hres := Lib.hid ho
    clear ho htab hlx hd hd2 hok
    generalize packP ts = o at hres ⊢
    go_enter Tryd.func23, Tryd.ntmps23
    go_wp2_with (first
      | (go_at_call 38; refine HD.out.mono ?_; rintro e w1 ⟨v, er, rfl, hb1, rfl, g, F, rfl, hg, hF⟩)
      | (go_at_call 41; refine (HT.out _ g F hg).mono ?_; rintro e w2 ⟨a2, n2, c2, rfl, rfl, hsl2, hb2⟩))
    go_ret2
    exact RetTo.ok hres (hb1.top hb2 (Nat.le_refl _)) rfl hsl2

def RetRe (o : Option Gr) (w : World) (e : Ending) (w' : World) : Prop := ∃ a n c ok, e = .returned (.tuple #[.slice a n c, .bool ok]) ∧ Below w.heap.size w w' ∧ match o with
  | none => ok = false
  | some G => ok = true ∧ n = (allG (reduceG (names G) G)).length ∧ Sl encE 2 w' a c (allG (reduceG (names G) G))
theorem RetRe.no {o : Option Gr} {w w' : World} {a : Option Addr} {n c : Nat} (h : Hid (o = none)) (hb : Below w.heap.size w w') : RetRe o w (.returned (.tuple #[.slice a n c, .bool false])) w' := by
  rw [h.out]; exact ⟨_, _, _, _, rfl, hb, rfl⟩
theorem RetRe.ok {o : Option Gr} {G : Gr} {w w' : World} {a : Option Addr} {n c : Nat} (h : Hid (o = some G)) (hb : Below w.heap.size w w') (hn : n = (allG (reduceG (names G) G)).length) (h1 : Sl encE 2 w' a c (allG (reduceG (names G) G))) : RetRe o w (.returned (.tuple #[.slice a n c, .bool true])) w' := by
  rw [h.out]; exact ⟨_, _, _, _, rfl, hb, rfl, hn, h1⟩
set_option maxRecDepth 100000 in
theorem parseReduced_calls (tx : Str) (ts : List Str) (w : World) (hsm : tx.size ≤ 1000000) (hlx : lex (bs tx) = some ts) (hts : ts.length ≤ 1000) (htab : TabW w)
    (hd : ∀ G, packP ts = some G → (∀ a b, hasE (reduceG (names G) G) a b = true → b ∈ names (reduceG (names G) G)) ∧ (reduceG (names G) G).length ≤ 10000) :
    Calls Tryd.prog 25 #[.string tx] w (RetRe (packP ts) w) := by
  have hdp := dagParse_calls tx ts w hsm hlx hts htab
  rw [show (pRules ts).bind graphP = packP ts from rfl] at hdp
  rcases (show packP ts = none ∨ ∃ G, packP ts = some G by cases packP ts <;> simp) with ho | ⟨G, ho⟩
  · rw [ho] at hdp
    have HD := Lib.hid hdp; clear hdp
    have hres := Lib.hid ho
    clear ho htab hlx hd
    generalize packP ts = o at hres ⊢
    go_enter Tryd.func25, Tryd.ntmps25
    go_wp2_with (go_at_call 38; refine HD.out.mono ?_; rintro e w1 ⟨v, er, rfl, hb1, rfl, s, rfl⟩)
    go_ret2
    exact RetRe.no hres hb1
  · obtain ⟨hok, hlen⟩ := packP_ok hts ho
    rw [ho] at hdp
    have hd2 := hd G ho
    have HR : Hid (∀ (w1 : World) (g : Nat) (F : Nat → Prop), GraphAt w1 F g G → Calls Tryd.prog 43 #[.pointer (some ⟨g, 0, none⟩)] w1 (fun e w' => e = .returned (.tuple #[]) ∧ GraphAt w' F g (reduceG (names G) G) ∧ Fr F w1 w')) :=
      Lib.hid (fun w1 g F hg => reduce_calls hg (by omega))
    have HD := Lib.hid hdp; clear hdp
    have hres := Lib.hid ho
    have H2 := Lib.hid hd2
    clear ho htab hlx hd hd2 hok
    generalize packP ts = o at hres ⊢
    generalize hgg : reduceG (names G) G = G2 at *
    go_enter Tryd.func25, Tryd.ntmps25
    go_wp2_with (first
      | (go_at_call 38; refine HD.out.mono ?_; rintro e w1 ⟨v, er, rfl, hb1, rfl, g, F, rfl, hg, hF⟩)
      | (go_at_call 43; refine (HR.out _ g F hg).mono ?_; rintro e w2 ⟨rfl, hg2, hf2⟩; have hb2 := hb1.fr hf2 (Nat.le_refl _) hF)
      | (go_at_call 39; refine (all_calls hg2 H2.out.1 H2.out.2).mono ?_; rintro e w3 ⟨a3, n3, c3, rfl, rfl, hown3, hb3⟩))
    go_ret2
    subst hgg
    exact RetRe.ok hres (hb2.top hb3 (Nat.le_refl _)) rfl (hown3.sl encE_len)

set_option maxRecDepth 100000 in
theorem told_calls {a b c d : Option Addr} {cap capb capc capd n m p q : Nat} {l r : List Str} {es fs : List Ed} (w : World) (hn : n = l.length) (hm : m = es.length) (hp : p = r.length) (hq : q = fs.length) (h1 : Sl encS 1 w a cap l) (h2 : Sl encE 2 w b capb es) (h3 : Sl encS 1 w c capc r) (h4 : Sl encE 2 w d capd fs)
    (hlen : l.length = r.length) (hnd : l.Nodup) (hset : ∀ x, x ∈ l ↔ x ∈ r) (hne : es.Nodup) (hes : ∀ e, e ∈ es ↔ e ∈ fs) (hsm : es.length ≤ 2147483647) :
    Calls Tryd.prog 21 #[.slice a n cap, .slice b m capb, .bool true, .slice c p capc, .slice d q capd] w fun e w' => e = .returned (.bool true) ∧ Below w.heap.size w w' := by
  subst hn hm hp hq
  have HS := Lib.hid (sameNodes_calls w rfl rfl h1 h3 hnd hset)
  have HE : Hid (es.Nodup ∧ ∀ e, e ∈ es ↔ e ∈ fs) := Lib.hid ⟨hne, hes⟩
  have hle : ((l.length : Int) == (r.length : Int)) = true := by rw [hlen]; simp
  have HLEN := Lib.hid hlen; clear hlen
  clear hne hes hnd hset
  go_enter Tryd.func21, Tryd.ntmps21
  go_wp2_with (first
    | (go_at_call 33; refine HS.out.mono ?_; rintro e w' ⟨rfl, rfl⟩)
    | (go_at_call 27; refine (conv_calls _ rfl h2 hsm).mono ?_; rintro e w2 ⟨ca, cn, cc, rfl, rfl, hco, hb2⟩; have h42 := h4.top hb2)
    | (go_at_call 26; refine (sameEdges_calls _ rfl rfl (hco.sl encE_len) h42 HE.out.1 HE.out.2).mono ?_; rintro e w3 ⟨rfl, hb3⟩))
  go_ret
  exact ⟨rfl, hb2.top hb3 (Nat.le_refl _)⟩
end Go.Proofs.YthpfladpbfbpjaaDoor

/- Plain laws that join what the reference reads of a text with what the package makes of it. No program in sight. -/
namespace Go.Proofs.YthpfladpbfbpjaaDoor
open Go.RowKit

theorem rulesS_fine {s : Str} {R : List Rl} (h : rulesS s = some (some R)) : ∃ ts, lex (bs s) = some ts ∧ s.size ≤ 400 ∧ ts.length ≤ 400 ∧ srEnd (srRun ts) = some (some R) := by
  unfold rulesS at h
  cases hl : lex (bs s) with
  | none => rw [hl] at h; cases h
  | some ts =>
    rw [hl] at h
    simp only at h
    split at h
    · cases h
    · rename_i hs
      have := (lex_count _ _ _ (Nat.le_refl _) hl).1
      rw [bs_len] at this
      exact ⟨ts, rfl, by omega, by omega, h⟩
theorem rulesS_wrong {s : Str} (h : rulesS s = some none) : ∃ ts, lex (bs s) = some ts ∧ s.size ≤ 400 ∧ ts.length ≤ 400 ∧ pRules ts = none := by
  unfold rulesS at h
  cases hl : lex (bs s) with
  | none => rw [hl] at h; cases h
  | some ts =>
    rw [hl] at h
    simp only at h
    split at h
    · cases h
    · rename_i hs
      have := (lex_count _ _ _ (Nat.le_refl _) hl).1
      rw [bs_len] at this
      have hp := pRules_same ts
      rw [h] at hp
      exact ⟨ts, rfl, by omega, by omega, hp⟩
/-- a fine text -/
structure FineT (s : Str) (ns : List Str) (es : List Ed) (ts : List Str) (R : List Rl) : Prop where
  lx : lex (bs s) = some ts
  sz : s.size ≤ 400
  len : ts.length ≤ 400
  fin : srEnd (srRun ts) = some (some R)
  gr : graphS R = some (some (ns, es))
theorem parseS_fine {s : Str} {ns : List Str} {es : List Ed} (h : parseS s = some (some (ns, es))) : ∃ ts R, FineT s ns es ts R := by
  unfold parseS at h
  rcases hr : rulesS s with _ | _ | R
  · rw [hr] at h; cases h
  · rw [hr] at h; cases h
  · rw [hr] at h
    obtain ⟨ts, h1, h2, h3, h4⟩ := rulesS_fine hr
    exact ⟨ts, R, h1, h2, h3, h4, h⟩
theorem FineT.rules {s : Str} {ns : List Str} {es : List Ed} {ts : List Str} {R : List Rl} (h : FineT s ns es ts R) : pRules ts = some R := by
  have hp := pRules_same ts
  rw [h.fin] at hp
  exact hp
theorem FineT.pack {s : Str} {ns : List Str} {es : List Ed} {ts : List Str} {R : List Rl} (h : FineT s ns es ts R) : ∃ G, CloG ns es G ∧ packP ts = some G := by
  obtain ⟨G, h1, h2⟩ := fine_P h.gr
  exact ⟨G, h1, by unfold packP; rw [h.rules]; exact h2⟩
theorem parseS_wrong {s : Str} (h : parseS s = some none) : ∃ ts, lex (bs s) = some ts ∧ s.size ≤ 400 ∧ ts.length ≤ 400 ∧ packP ts = none := by
  unfold parseS at h
  rcases hr : rulesS s with _ | _ | R
  · rw [hr] at h; cases h
  · obtain ⟨ts, h1, h2, h3, h4⟩ := rulesS_wrong hr
    exact ⟨ts, h1, h2, h3, by unfold packP; rw [h4]; rfl⟩
  · rw [hr] at h
    obtain ⟨ts, h1, h2, h3, h4⟩ := rulesS_fine hr
    have hp := pRules_same ts
    rw [h4] at hp
    exact ⟨ts, h1, h2, h3, by unfold packP; rw [hp]; exact wrong_P h⟩

/-! ### a graph that reads as a closure -/
section
variable {ns : List Str} {es : List Ed} {G : Gr}
theorem CloG.ends (h : CloG ns es G) {a b : Str} (he : hasE G a b = true) : a ∈ ns ∧ b ∈ ns := by
  rw [h.ed] at he
  exact clo_ends h.inn he
theorem CloG.mem (h : CloG ns es G) (e : Ed) : e ∈ allG G ↔ e ∈ closedL ns es := by
  rw [mem_allG, mem_closedL h.inn, h.ed, h.nm]
  exact ⟨fun hh => hh.1, fun hh => ⟨hh, (clo_ends h.inn hh).2⟩⟩
theorem CloG.all (h : CloG ns es G) : (allG G).Nodup := nodup_allG h.good.1
theorem CloG.len (h : CloG ns es G) : G.length = ns.length := by rw [← names_len, h.nm]
theorem CloG.back' (h : CloG ns es G) {a b : Str} (he : hasE G a b = true) : ns.idxOf b < ns.idxOf a := by
  rw [h.ed] at he
  exact clo_back h.back he
theorem CloG.small (h : CloG ns es G) (hn : ns.length ≤ 10000) : (allG G).length ≤ 2147483647 := by
  have := allG_len G
  have h2 : G.length * G.length ≤ 10000 * 10000 := Nat.mul_le_mul (by rw [h.len]; exact hn) (by rw [h.len]; exact hn)
  omega
end
theorem fine_len {R : List Rl} {ns : List Str} {es : List Ed} (h : graphS R = some (some (ns, es))) : ns.length ≤ 20 := (graphS_fine h).2.1
/-- what 'told' asks -/
structure Told (l r : List Str) (es fs : List Ed) : Prop where
  len : l.length = r.length
  nd : l.Nodup
  set : ∀ x, x ∈ l ↔ x ∈ r
  ne : es.Nodup
  eset : ∀ e, e ∈ es ↔ e ∈ fs
  sm : es.length ≤ 2147483647
theorem CloG.told {ns : List Str} {es : List Ed} {G : Gr} (h : CloG ns es G) (hn : ns.length ≤ 10000) : Told (names G) ns (allG G) (closedL ns es) where
  len := by rw [h.nm]
  nd := h.good.1
  set x := by rw [h.nm]
  ne := h.all
  eset := h.mem
  sm := h.small hn

/-- the package reads a text: its nodes and its edges -/
def RetOK (l : List Str) (m : List Ed) (w : World) (e : Ending) (w' : World) : Prop := ∃ a c b d, e = .returned (.tuple #[.slice a l.length c, .slice b m.length d, .bool true]) ∧ Below w.heap.size w w' ∧ Sl encS 1 w' a c l ∧ Sl encE 2 w' b d m
/-- the package refuses a text -/
def RetRf (w : World) (e : Ending) (w' : World) : Prop := ∃ a n c b m d, e = .returned (.tuple #[.slice a n c, .slice b m d, .bool false]) ∧ Below w.heap.size w w'
theorem parseI_ok (tx : Str) (ts : List Str) (w : World) (hsm : tx.size ≤ 1000000) (hlx : lex (bs tx) = some ts) (hts : ts.length ≤ 1000) (htab : TabW w) {G : Gr} (h : packP ts = some G) :
    Calls Tryd.prog 19 #[.string tx] w (RetOK (names G) (allG G) w) := by
  refine (parseI_calls tx ts w hsm hlx hts htab).mono ?_
  rw [h]
  rintro e w' ⟨a, n, c, b, m, d, ok, rfl, hb, rfl, rfl, h1, rfl, h2⟩
  exact ⟨_, _, _, _, rfl, hb, h1, h2⟩
theorem parseI_no (tx : Str) (ts : List Str) (w : World) (hsm : tx.size ≤ 1000000) (hlx : lex (bs tx) = some ts) (hts : ts.length ≤ 1000) (htab : TabW w) (h : packP ts = none) :
    Calls Tryd.prog 19 #[.string tx] w (RetRf w) := by
  refine (parseI_calls tx ts w hsm hlx hts htab).mono ?_
  rw [h]
  rintro e w' ⟨a, n, c, b, m, d, ok, rfl, hb, rfl⟩
  exact ⟨_, _, _, _, _, _, rfl, hb⟩
end Go.Proofs.YthpfladpbfbpjaaDoor

/- From the rows' condition on three tables of the library to the fact that strconv.Itoa asks. -/
namespace Go.Proofs.YthpfladpbfbpjaaDoor
open Go.RowKit

abbrev laidL : List (String × DataW Unit) := [("math/bits.deBruijn32tab", Rows.laid_math_bits_deBruijn32tab), ("math/bits.deBruijn64tab", Rows.laid_math_bits_deBruijn64tab), ("internal/strconv.uint64pow10", Rows.laid_internal_strconv_uint64pow10)]
theorem tab_of_laid {W : World} (h : laidMetH Tryd.prog laidL W) : TabW W := by
  have h1 := h.filter (fun x => x.1 == "internal/strconv.uint64pow10")
  have e : (laidL.filter fun x => x.1 == "internal/strconv.uint64pow10") = [("internal/strconv.uint64pow10", Lib.tabData .u64 Lib.pow10Tab)] := by kernel_rfl
  rw [e, MakeChecks.laidMetH_plain _ _ _ (by kernel_rfl)] at h1
  exact Lib.tabIs_of_head (g := 1) (t := 145) (e := 128) (n := 20) (by kernel_rfl) (by kernel_rfl) (by kernel_rfl) (by kernel_rfl) (by kernel_rfl) (by kernel_rfl) h1
end Go.Proofs.YthpfladpbfbpjaaDoor

/- What an argument reads as, opened to the words of this seat: lists of texts, of edges, of steps. The first theorem is the guide's own (extra-structs). -/
namespace Go.Proofs.YthpfladpbfbpjaaDoor
open Go.RowKit Go.ChangeShapes Go.WideShapes Go.Deep

section
variable {H : Type} {enc : TypeId × Value → H} {P : Program} {w : World} {base : Nat} {spare : Nat → Bool} {held : Bool}
theorem open_slice_fields {t e : TypeId} {fs : Array Field} {fuel : Nat} {cs : List Value} {x : DataW H × List MemPlace} (ht : P.underlying t = some (.slice e)) (he : P.underlying e = some (.struct fs))
    (hone : oneCellFields P fs = true) (hC : P.cellsOf e = fs.size) (h : DataW.trod enc P w base spare held fuel t cs = some x) :
    (cs = [.slice none 0 0] ∧ x = (.nil, [])) ∨
    ∃ (a : Addr) (len cap m : Nat) (D : Nat → DataW H) (Pl : Nat → List MemPlace), cs = [.slice (some a) len cap] ∧ base ≤ a.block ∧ len ≤ cap ∧ cap ≤ maxLen ∧ m = (if spare a.block then cap else len) ∧
      x = (.slice ((List.range len).map D) ((List.range (m - len)).map fun j => D (len + j)), MemPlace.row a (m * fs.size) ++ (List.range m).flatMap Pl) ∧
      ∀ i, i < m → ∃ (ys : List (DataW H × List MemPlace)) (n : Nat), D i = .agg (ys.map (·.1)) ∧ Pl i = ys.flatMap (·.2) ∧ ys.length = fs.size ∧
        ∀ (j : Nat) (f : Field), fs[j]? = some f → ∃ (v : Value) (y : DataW H × List MemPlace), w.cell? (a.add (i * fs.size + j)) = some v ∧ ys[j]? = some y ∧ DataW.trod enc P w base spare held n f.type [v] = some y := by
  rcases open_slice ht h with h0 | ⟨a, len, cap, m, n, D, Pl, hcs, hb, hl, hm, hmm, hx, hi⟩
  · exact .inl h0
  · refine .inr ⟨a, len, cap, m, D, Pl, hcs, hb, hl, hm, hmm, by rw [hC] at hx; exact hx, fun i him => ?_⟩
    obtain ⟨cs', hc, ht'⟩ := hi i him
    rw [hC] at hc
    obtain ⟨ys, n', hn', hy, hlen, hyl, hf⟩ := DataW.trod_struct he ht'
    obtain ⟨_, hcl, hat⟩ := World.cells?_some hc
    simp only [Prod.mk.injEq] at hy
    refine ⟨ys, n', hy.1, hy.2, hyl, fun j f hj => ?_⟩
    obtain ⟨ho, hk⟩ := hone_of hone j f hj
    have hjl : j < fs.size := (Array.getElem?_eq_some_iff.1 hj).1
    have hcell := hat j hjl
    have hv : cs'[j]? = some (cs'[j]'(by omega)) := List.getElem?_eq_getElem (by omega)
    have h1 := hf j f hj
    rw [ho, hk] at h1
    have hone' : (cs'.drop j).take 1 = [cs'[j]'(by omega)] := by
      rw [List.drop_eq_getElem_cons (by omega)]
      rfl
    rw [hone'] at h1
    have hys : ys[j]? = some (ys[j]'(by omega)) := List.getElem?_eq_getElem (by omega)
    refine ⟨_, _, ?_, hys, h1.trans hys⟩
    rw [← Go.Deep.add_add, hcell, hv]
end

section
variable {H : Type} {enc : TypeId × Value → H} {P : Program} {w : World} {t e : TypeId} {v : Value} {d : DataW H} {ps : List MemPlace} {r : Reach} {b0 : Nat}

/-- From facts at every index to 'Sl'. -/
theorem sl_of_cells {α : Type} [Inhabited α] {encX : α → List Value} {size : Nat} (hsz : ∀ x, (encX x).length = size) (hpos : 0 < size) {a : Addr} {len cap : Nat} (hl : len ≤ cap) (hm : cap ≤ maxLen)
    (h : ∀ i, i < len → ∃ x : α, ∀ j u, (encX x)[j]? = some u → w.cell? (a.add (i * size + j)) = some u) :
    ∃ l : List α, len = l.length ∧ Sl encX size w (some a) cap l := by
  obtain ⟨f, hf⟩ := choose_lt h
  refine ⟨(List.range len).map f, by simp, ⟨by simpa using hl, by simpa [maxLen] using hm, fun hp => ?_⟩⟩
  have hlen : 0 < len := by simpa using hp
  have hx0 : 0 < (encX (f 0)).length := by rw [hsz]; exact hpos
  have h00 := hf 0 hlen 0 _ (List.getElem?_eq_getElem hx0)
  simp only [Nat.zero_mul, Nat.zero_add] at h00
  have hspot : a.spot = none := by
    have := World.cell?_spot h00
    simpa [Addr.add] using this
  obtain ⟨b, off, spot⟩ := a
  subst hspot
  refine ⟨b, off, rfl, ?_, fun k hk j u hu => ?_⟩
  · have := World.block_lt_of_cell? w _ h00
    simpa [Addr.add] using this
  · have hk' : k < len := by simpa using hk
    have hu' : (encX (f k))[j]? = some u := by simpa using hu
    have := hf k hk' j u hu'
    rw [add_some] at this
    simpa [Nat.add_assoc] using this

theorem open_S (ht : P.underlying t = some (.slice e)) (he : P.underlying e = some .string) (hc : P.cellsOf e = 1) (hv : Value.okWide P w r b0 t v) (h : DataW.Trod enc P w 0 (fun _ => true) true t v d ps) :
    ∃ a cap l, v = .slice a l.length cap ∧ Sl encS 1 w a cap l := by
  obtain ⟨a, len, cap, rfl⟩ := okWide_slice ht hv
  obtain ⟨fuel, hf⟩ := h
  rcases open_strings ht he hc hf with ⟨hcs, _⟩ | ⟨x, l, c, ss, hcs, _, hl, hm, hz, _, hcell, _⟩
  · simp [Value.cells] at hcs
    obtain ⟨rfl, rfl, rfl⟩ := hcs
    exact ⟨none, 0, [], rfl, Sl.nil_⟩
  · simp [Value.cells] at hcs
    obtain ⟨rfl, rfl, rfl⟩ := hcs
    simp only [if_true] at hz
    obtain ⟨l, hlen, hsl⟩ := sl_of_cells (w := w) (encX := encS) (size := 1) (fun _ => rfl) (by omega) (a := x) hl hm (fun i hi => ⟨ss.getD i ByteArray.empty, fun j u hu => by
      have hj : j = 0 := by
        have := (List.getElem?_eq_some_iff.1 hu).1
        simp at this
        exact this
      subst hj
      have hu' : u = .string (ss.getD i ByteArray.empty) := by simpa [List.getD] using hu.symm
      rw [hu']
      simpa using hcell i (by omega)⟩)
    exact ⟨_, _, l, by rw [hlen], hsl⟩

theorem open_E {f0 f1 : Field} (ht : P.underlying t = some (.slice e)) (he : P.underlying e = some (.struct #[f0, f1])) (h0 : P.underlying f0.type = some .string) (h1 : P.underlying f1.type = some .string)
    (hone : oneCellFields P #[f0, f1] = true) (hC : P.cellsOf e = 2) (hv : Value.okWide P w r b0 t v) (h : DataW.Trod enc P w 0 (fun _ => true) true t v d ps) :
    ∃ a cap l, v = .slice a l.length cap ∧ Sl encE 2 w a cap l := by
  obtain ⟨a, len, cap, rfl⟩ := okWide_slice ht hv
  obtain ⟨fuel, hf⟩ := h
  rcases open_slice_fields ht he hone (by simpa using hC) hf with ⟨hcs, _⟩ | ⟨x, l, c, m, D, Pl, hcs, _, hl, hm, hmm, _, hi⟩
  · simp [Value.cells] at hcs
    obtain ⟨rfl, rfl, rfl⟩ := hcs
    exact ⟨none, 0, [], rfl, Sl.nil_⟩
  · simp [Value.cells] at hcs
    obtain ⟨rfl, rfl, rfl⟩ := hcs
    simp only [if_true] at hmm
    obtain ⟨l, hlen, hsl⟩ := sl_of_cells (w := w) (encX := encE) (size := 2) (fun _ => rfl) (by omega) (a := x) hl hm (fun i hlt => by
      obtain ⟨ys, n, _, _, _, hfj⟩ := hi i (by omega)
      obtain ⟨u0, y0, c0, _, t0⟩ := hfj 0 f0 rfl
      obtain ⟨u1, y1, c1, _, t1⟩ := hfj 1 f1 rfl
      obtain ⟨s0, e0, _⟩ := DataW.trod_string h0 t0
      obtain ⟨s1, e1, _⟩ := DataW.trod_string h1 t1
      simp at e0 e1
      subst e0
      subst e1
      refine ⟨(s0, s1), fun j u hu => ?_⟩
      match j, hu with
      | 0, hu => simp at hu; subst hu; simpa using c0
      | 1, hu => simp at hu; subst hu; simpa using c1)
    exact ⟨_, _, l, by rw [hlen], hsl⟩

theorem open_T {f0 f1 f2 : Field} (ht : P.underlying t = some (.slice e)) (he : P.underlying e = some (.struct #[f0, f1, f2])) (h0 : P.underlying f0.type = some (.int .i64)) (h1 : P.underlying f1.type = some .string) (h2 : P.underlying f2.type = some .string)
    (hone : oneCellFields P #[f0, f1, f2] = true) (hC : P.cellsOf e = 3) (hv : Value.okWide P w r b0 t v) (h : DataW.Trod enc P w 0 (fun _ => true) true t v d ps) :
    ∃ a cap l, v = .slice a l.length cap ∧ Sl encT 3 w a cap l := by
  obtain ⟨a, len, cap, rfl⟩ := okWide_slice ht hv
  obtain ⟨fuel, hf⟩ := h
  rcases open_slice_fields ht he hone (by simpa using hC) hf with ⟨hcs, _⟩ | ⟨x, l, c, m, D, Pl, hcs, _, hl, hm, hmm, _, hi⟩
  · simp [Value.cells] at hcs
    obtain ⟨rfl, rfl, rfl⟩ := hcs
    exact ⟨none, 0, [], rfl, Sl.nil_⟩
  · simp [Value.cells] at hcs
    obtain ⟨rfl, rfl, rfl⟩ := hcs
    simp only [if_true] at hmm
    obtain ⟨l, hlen, hsl⟩ := sl_of_cells (w := w) (encX := encT) (size := 3) (fun _ => rfl) (by omega) (a := x) hl hm (fun i hlt => by
      obtain ⟨ys, n, _, _, _, hfj⟩ := hi i (by omega)
      obtain ⟨u0, y0, c0, _, t0⟩ := hfj 0 f0 rfl
      obtain ⟨u1, y1, c1, _, t1⟩ := hfj 1 f1 rfl
      obtain ⟨u2, y2, c2, _, t2⟩ := hfj 2 f2 rfl
      obtain ⟨s0, e0, _⟩ := DataW.trod_int h0 t0
      obtain ⟨s1, e1, _⟩ := DataW.trod_string h1 t1
      obtain ⟨s2, e2, _⟩ := DataW.trod_string h2 t2
      simp at e0 e1 e2
      subst e0
      subst e1
      subst e2
      refine ⟨(s0, s1, s2), fun j u hu => ?_⟩
      match j, hu with
      | 0, hu => simp at hu; subst hu; simpa using c0
      | 1, hu => simp at hu; subst hu; simpa using c1
      | 2, hu => simp at hu; subst hu; simpa using c2)
    exact ⟨_, _, l, by rw [hlen], hsl⟩
end
end Go.Proofs.YthpfladpbfbpjaaDoor
