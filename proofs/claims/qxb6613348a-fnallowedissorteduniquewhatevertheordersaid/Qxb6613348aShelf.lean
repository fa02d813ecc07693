/-
  THE LIBRARY's CONTRACTS AT THIS DUMP, laid by the guide's shelf (its plain mode): strings.Join, slices.Sort, slices.Compact at []string; maps.Keys with its iterator; slices.Collect.
-/
import Derived.Shelf.SlGeneric
import Derived.Shelf.Strings.OnBuilder
import Derived.Shelf.Sort.Plain
import Derived.Shelf.Slices.CompactS
import Derived.Shelf.Slices.In.SortNone
import Derived.Shelf.SlIter.Collect
import Derived.Ground.GgzProg
import Derived.Test.Qxb6613348aProg
namespace Go.Proofs
open Go.Shelf
def Try.lays156_ren : Go.Shelf.Ren := ⟨fun | 156 => 15 | 165 => 21 | 166 => 22 | 169 => 23 | 240 => 35 | 241 => 36 | 276 => 43 | 277 => 44 | n => n, fun | 31 => 22 | 9 => 9 | 3 => 3 | 4 => 4 | 0 => 0 | 20 => 20 | 72 => 47 | 76 => 51 | 70 => 45 | 37 => 27 | 75 => 50 | 127 => 66 | 164 => 73 | 5 => 5 | 80 => 32 | n => n, fun | n => n⟩
theorem Try.lays156 : Go.Proofs.Lays.n156 Try.prog Try.lays156_ren := {
  mixed := by kernel_rfl
  f156 := Try.func15.trans (congrArg some (by kernel_rfl))
  f165 := Try.func21.trans (congrArg some (by kernel_rfl))
  f166 := Try.func22.trans (congrArg some (by kernel_rfl))
  f169 := Try.func23.trans (congrArg some (by kernel_rfl))
  f240 := Try.func35.trans (congrArg some (by kernel_rfl))
  f241 := Try.func36.trans (congrArg some (by kernel_rfl))
  f276 := Try.func43.trans (congrArg some (by kernel_rfl))
  f277 := Try.func44.trans (congrArg some (by kernel_rfl))
  t0 := Try.underlying0
  a0 := Try.isAgg0
  z0 := Try.sizeOf0
  v0 := Try.zeroValue0
  t3 := Try.underlying3
  a3 := Try.isAgg3
  z3 := Try.sizeOf3
  v3 := Try.zeroValue3
  t4 := Try.underlying4
  a4 := Try.isAgg4
  z4 := Try.sizeOf4
  v4 := Try.zeroValue4
  t9 := Try.underlying9
  a9 := Try.isAgg9
  z9 := Try.sizeOf9
  v9 := Try.zeroValue9
  t20 := Try.underlying20
  a20 := Try.isAgg20
  z20 := Try.sizeOf20
  v20 := Try.zeroValue20
  t31 := Try.underlying22
  a31 := Try.isAgg22
  z31 := Try.sizeOf22
  v31 := Try.zeroValue22
  t37 := Try.underlying27
  a37 := Try.isAgg27
  z37 := Try.sizeOf27
  v37 := Try.zeroValue27
  t70 := Try.underlying45
  a70 := Try.isAgg45
  z70 := Try.sizeOf45
  v70 := Try.zeroValue45
  t72 := Try.underlying47
  a72 := Try.isAgg47
  z72 := Try.sizeOf47
  v72 := Try.zeroValue47
  t75 := Try.underlying50
  a75 := Try.isAgg50
  z75 := Try.sizeOf50
  v75 := Try.zeroValue50
  t76 := Try.underlying51
  a76 := Try.isAgg51
  z76 := Try.sizeOf51
  v76 := Try.zeroValue51
  t127 := Try.underlying66
  a127 := Try.isAgg66
  z127 := Try.sizeOf66
  v127 := Try.zeroValue66
  t164 := Try.underlying73
  a164 := Try.isAgg73
  z164 := Try.sizeOf73
  v164 := Try.zeroValue73 }
theorem Try.Builder_Extra_156 : Builder.Extra Try.prog Try.lays156_ren := {
  sizeBuilder := by kernel_rfl
  liesBuilder := by kernel_rfl
  t5 := Try.underlying5
  a5 := Try.isAgg5
  z5 := Try.sizeOf5
  v5 := Try.zeroValue5
  infoByte := by kernel_rfl
  cellsByte := by kernel_rfl
  sizeByte := by kernel_rfl
  neB5 := by decide }
open Go.RowKit in
/-- No element: the empty string; the world is as it was. (Whatever the slice's address and capacity: a nil slice too.) (LAID: no walk: one application.) -/
theorem Try.strings_Join_none (a : Option Addr) (c : Nat) (sep : ByteArray) (w : World) :
    Calls Try.prog 15 #[.slice a 0 c, .string sep] w fun e w' => e = .returned (.string ⟨#[]⟩) ∧ w' = w := Any.strings_Join_none Try.lays156 Try.Builder_Extra_156 a c sep w
open Go.RowKit in
/-- strings.Join: "Join concatenates the elements of its first argument to create a single string. The separator string sep is placed between elements in the resulting string.": HOWEVER MANY ELEMENTS. Below the heap's end the world is as it was. (LAID: no walk: one application.) -/
theorem Try.strings_Join (bk o c : Nat) (xs : List ByteArray) (sep : ByteArray) (w : World) (hcells : ∀ (j : Nat) x, xs[j]? = some x → w.cell? ⟨bk, o + j, none⟩ = some (.string x)) (hbk : bk < w.heap.size) (hN : xs.length ≤ 140737488355328) (hcap : xs.length ≤ c) (hlen : (Lib.join (xs.map (·.data.toList)) sep.data.toList).length ≤ 140737488355328) :
    Calls Try.prog 15 #[.slice (some ⟨bk, o, none⟩) xs.length c, .string sep] w fun e w' => e = .returned (.string ⟨(Lib.join (xs.map (·.data.toList)) sep.data.toList).toArray⟩) ∧ Below w.heap.size w w' := Any.strings_Join Try.lays156 Try.Builder_Extra_156 bk o c xs sep w hcells hbk hN hcap hlen
def Try.lays190_ren : Go.Shelf.Ren := ⟨fun | 190 => 14 | 125 => 20 | 258 => 19 | 128 => 33 | 129 => 34 | 302 => 24 | 303 => 25 | 304 => 26 | 305 => 27 | 306 => 28 | 307 => 29 | 308 => 30 | 309 => 31 | 310 => 32 | 333 => 37 | 329 => 38 | 330 => 39 | 334 => 40 | 335 => 41 | 336 => 42 | 344 => 45 | n => n, fun | 31 => 22 | 9 => 9 | 3 => 3 | 46 => 44 | 0 => 0 | 51 => 63 | 53 => 65 | 4 => 4 | 183 => 55 | 182 => 54 | 131 => 60 | 5 => 5 | 218 => 67 | 222 => 71 | 228 => 76 | 229 => 77 | n => n, fun | n => n⟩
theorem Try.lays190 : Go.Proofs.Lays.n190 Try.prog Try.lays190_ren := {
  mixed := by kernel_rfl
  f125 := Try.func20.trans (congrArg some (by kernel_rfl))
  f128 := Try.func33.trans (congrArg some (by kernel_rfl))
  f129 := Try.func34.trans (congrArg some (by kernel_rfl))
  f190 := Try.func14.trans (congrArg some (by kernel_rfl))
  f258 := Try.func19.trans (congrArg some (by kernel_rfl))
  f302 := Try.func24.trans (congrArg some (by kernel_rfl))
  f303 := Try.func25.trans (congrArg some (by kernel_rfl))
  f304 := Try.func26.trans (congrArg some (by kernel_rfl))
  f305 := Try.func27.trans (congrArg some (by kernel_rfl))
  f306 := Try.func28.trans (congrArg some (by kernel_rfl))
  f307 := Try.func29.trans (congrArg some (by kernel_rfl))
  f308 := Try.func30.trans (congrArg some (by kernel_rfl))
  f309 := Try.func31.trans (congrArg some (by kernel_rfl))
  f310 := Try.func32.trans (congrArg some (by kernel_rfl))
  f329 := Try.func38.trans (congrArg some (by kernel_rfl))
  f330 := Try.func39.trans (congrArg some (by kernel_rfl))
  f333 := Try.func37.trans (congrArg some (by kernel_rfl))
  f334 := Try.func40.trans (congrArg some (by kernel_rfl))
  f335 := Try.func41.trans (congrArg some (by kernel_rfl))
  f336 := Try.func42.trans (congrArg some (by kernel_rfl))
  f344 := Try.func45.trans (congrArg some (by kernel_rfl))
  t0 := Try.underlying0
  a0 := Try.isAgg0
  z0 := Try.sizeOf0
  v0 := Try.zeroValue0
  t3 := Try.underlying3
  a3 := Try.isAgg3
  z3 := Try.sizeOf3
  v3 := Try.zeroValue3
  t4 := Try.underlying4
  a4 := Try.isAgg4
  z4 := Try.sizeOf4
  v4 := Try.zeroValue4
  t5 := Try.underlying5
  a5 := Try.isAgg5
  z5 := Try.sizeOf5
  v5 := Try.zeroValue5
  t9 := Try.underlying9
  a9 := Try.isAgg9
  z9 := Try.sizeOf9
  v9 := Try.zeroValue9
  t31 := Try.underlying22
  a31 := Try.isAgg22
  z31 := Try.sizeOf22
  v31 := Try.zeroValue22
  t46 := Try.underlying44
  a46 := Try.isAgg44
  z46 := Try.sizeOf44
  v46 := Try.zeroValue44
  t51 := Try.underlying63
  a51 := Try.isAgg63
  z51 := Try.sizeOf63
  v51 := Try.zeroValue63
  t53 := Try.underlying65
  a53 := Try.isAgg65
  z53 := Try.sizeOf65
  v53 := Try.zeroValue65
  t131 := Try.underlying60
  a131 := Try.isAgg60
  z131 := Try.sizeOf60
  v131 := Try.zeroValue60
  t182 := Try.underlying54
  a182 := Try.isAgg54
  z182 := Try.sizeOf54
  v182 := Try.zeroValue54
  t183 := Try.underlying55
  a183 := Try.isAgg55
  z183 := Try.sizeOf55
  v183 := Try.zeroValue55
  t218 := Try.underlying67
  a218 := Try.isAgg67
  z218 := Try.sizeOf67
  v218 := Try.zeroValue67
  t222 := Try.underlying71
  a222 := Try.isAgg71
  z222 := Try.sizeOf71
  v222 := Try.zeroValue71
  t228 := Try.underlying76
  a228 := Try.isAgg76
  z228 := Try.sizeOf76
  v228 := Try.zeroValue76
  t229 := Try.underlying77
  a229 := Try.isAgg77
  z229 := Try.sizeOf77
  v229 := Try.zeroValue77 }
open Go.Sort Go.RowKit in
theorem Try.slices_Sort_string (blk off cap : Nat) (ss : List (List UInt8)) (w : World) (hH : Holds encStr w blk off ss.toArray) (hblk : blk < w.heap.size) (hsz : ss.length < 4611686018427387904) :
    Calls Try.prog 14 #[.slice (some ⟨blk, off, none⟩) ss.length cap] w fun e w' =>
      e = .returned (.tuple #[]) ∧ ∃ n os, w' = grow (putRow encStr (Sort.ahead w n) blk off (ss.mergeSort fun x y => decide (x ≤ y)).toArray) os := Any.slices_Sort_string Try.lays190 blk off cap ss w hH hblk hsz
def Try.lays194_ren : Go.Shelf.Ren := ⟨fun | 194 => 16 | n => n, fun | 31 => 22 | 9 => 9 | 3 => 3 | 4 => 4 | 0 => 0 | n => n, fun | n => n⟩
theorem Try.lays194 : Go.Proofs.Lays.n194 Try.prog Try.lays194_ren := {
  mixed := by kernel_rfl
  f194 := Try.func16.trans (congrArg some (by kernel_rfl))
  t0 := Try.underlying0
  a0 := Try.isAgg0
  z0 := Try.sizeOf0
  v0 := Try.zeroValue0
  t3 := Try.underlying3
  a3 := Try.isAgg3
  z3 := Try.sizeOf3
  v3 := Try.zeroValue3
  t4 := Try.underlying4
  a4 := Try.isAgg4
  z4 := Try.sizeOf4
  v4 := Try.zeroValue4
  t9 := Try.underlying9
  a9 := Try.isAgg9
  z9 := Try.sizeOf9
  v9 := Try.zeroValue9
  t31 := Try.underlying22
  a31 := Try.isAgg22
  z31 := Try.sizeOf22
  v31 := Try.zeroValue22 }
open Go.RowKit Go.Lib Go.Sort in
/-- slices.Compact at []string: "Compact replaces consecutive runs of equal elements with a single copy. This is like the uniq command found on Unix. Compact modifies the contents of the slice s and returns the modified slice, which may have a smaller length. Compact zeroes the elements between the new length and the original length. The result preserves the nilness of s.": IT RETURNS THE SLICE CUT TO 'Lib.compact zs'; ITS CELLS HOLD 'Lib.compact zs', THEN ZERO VALUES up to the old length; all else is as it was, but for the count of draws. IN THE WORDS OF slices.Sort's CONTRACT ('Holds', 'putRow'): so the everyday 'slices.Sort(xs); xs = slices.Compact(xs)' goes from the one contract to the other. It asks 'zs.length ≤ cap' (every slice's: the reslicing 's[:k]' looks at it). Length 0, nil: '.._empty'. (LAID: no walk: one application.) -/
theorem Try.slices_Compact_string (blk off cap : Nat) (zs : List (List UInt8)) (w : World) (hH : Holds encStr w blk off zs.toArray) (hsz : zs.length ≤ 9223372036854775807) (hcap : zs.length ≤ cap) :
    Calls Try.prog 16 #[.slice (some ⟨blk, off, none⟩) zs.length cap] w fun e w' => e = .returned (.slice (some ⟨blk, off, none⟩) (Lib.compact zs).length cap) ∧ ∃ q, w' = putRow encStr (Sort.ahead w q) blk off (Lib.compact zs ++ List.replicate (zs.length - (Lib.compact zs).length) []).toArray := Any.slices_Compact_string Try.lays194 blk off cap zs w hH hsz hcap
open Go.RowKit Go.Lib Go.Sort in
/-- The same at a slice of length 0, a nil one too: it comes back as it is. (LAID: no walk: one application.) -/
theorem Try.slices_Compact_string_empty (a : Option Addr) (cap : Nat) (w : World) :
    Calls Try.prog 16 #[.slice a 0 cap] w fun e w' => e = .returned (.slice a 0 cap) ∧ w' = w := Any.slices_Compact_string_empty Try.lays194 a cap w
open Go.RowKit Go.Sort in
/-- .. and plain. (LAID: no walk: one application.) -/
theorem Try.slices_Sort_string_none (p : Option Addr) (cap : Nat) (w : World) :
    Calls Try.prog 14 #[.slice p 0 cap] w fun e w' => e = .returned (.tuple #[]) ∧ w' = w := Any.slices_Sort_string_none Try.lays190 p cap w
def Try.keysA_ren : Go.Shelf.Ren := ⟨fun | 7 => 13 | 10 => 18 | n => n, fun | 23 => 29 | 26 => 9 | 3 => 31 | 28 => 35 | 0 => 0 | 27 => 34 | 33 => 41 | 4 => 4 | n => n, fun | n => n⟩
theorem Try.keysA : Go.Proofs.SlLaysZ.n7 Try.prog Try.keysA_ren := {
  mixed := by kernel_rfl
  f7 := ⟨Try.f13.name, by decide, Try.func13.trans (congrArg some (by kernel_rfl))⟩
  f10 := ⟨Try.f18.name, by decide, Try.func18.trans (congrArg some (by kernel_rfl))⟩
  t0 := Try.underlying0
  a0 := Try.isAgg0
  z0 := Try.sizeOf0
  v0 := Try.zeroValue0
  t4 := Try.underlying4
  a4 := Try.isAgg4
  z4 := Try.sizeOf4
  v4 := Try.zeroValue4
  t23 := Try.underlying29
  a23 := Try.isAgg29
  z23 := Try.sizeOf29
  v23 := Try.zeroValue29
  t26 := Try.underlying9
  a26 := Try.isAgg9
  z26 := Try.sizeOf9
  v26 := Try.zeroValue9
  t27 := Try.underlying34
  a27 := Try.isAgg34
  z27 := Try.sizeOf34
  v27 := Try.zeroValue34
  t28 := Try.underlying35
  a28 := Try.isAgg35
  z28 := Try.sizeOf35
  v28 := Try.zeroValue35
  t33 := Try.underlying41
  a33 := Try.isAgg41
  z33 := Try.sizeOf41
  v33 := Try.zeroValue41 }
def Try.collectA_ren : Go.Shelf.Ren := ⟨fun | 8 => 12 | 11 => 17 | n => n, fun | 26 => 9 | 28 => 35 | 24 => 22 | 0 => 0 | 33 => 41 | 4 => 4 | n => n, fun | n => n⟩
theorem Try.collectA : Go.Proofs.SlLaysZ.n8 Try.prog Try.collectA_ren := {
  mixed := by kernel_rfl
  f8 := ⟨Try.f12.name, by decide, Try.func12.trans (congrArg some (by kernel_rfl))⟩
  f11 := ⟨Try.f17.name, by decide, Try.func17.trans (congrArg some (by kernel_rfl))⟩
  t0 := Try.underlying0
  a0 := Try.isAgg0
  z0 := Try.sizeOf0
  v0 := Try.zeroValue0
  t24 := Try.underlying22
  a24 := Try.isAgg22
  z24 := Try.sizeOf22
  v24 := Try.zeroValue22
  t26 := Try.underlying9
  a26 := Try.isAgg9
  z26 := Try.sizeOf9
  v26 := Try.zeroValue9
  t28 := Try.underlying35
  a28 := Try.isAgg35
  z28 := Try.sizeOf35
  v28 := Try.zeroValue35
  i26 := by kernel_rfl }
end Go.Proofs
