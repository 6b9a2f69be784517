/-
  THE SHELF's CONTRACTS OF strings.Join AND slices.Reverse (at a slice of strings) LAID AT THIS PROGRAM, in plain words (by the kit's lay-shelf and lay-plain programs).
-/
import Derived.Shelf.Strings.OnBuilder
import Derived.Ground.Names2Prog
import Derived.Shelf.Slices.Cells
import Derived.Test.Qxb6613227aFmtProg
namespace Go.Proofs
open Go.Shelf
def Tryf.lays156_ren : Go.Shelf.Ren := ⟨fun | 156 => 31 | 165 => 43 | 166 => 32 | 169 => 39 | 240 => 44 | 241 => 64 | 276 => 65 | 277 => 79 | n => n, fun | 31 => 22 | 9 => 9 | 3 => 3 | 4 => 4 | 0 => 0 | 20 => 20 | 72 => 66 | 76 => 68 | 70 => 63 | 37 => 64 | 75 => 29 | 127 => 86 | 164 => 99 | 5 => 5 | 80 => 62 | n => n, fun | n => n⟩
theorem Tryf.lays156 : Go.Proofs.Lays.n156 Tryf.prog Tryf.lays156_ren := {
  mixed := by kernel_rfl
  f156 := Tryf.func31.trans (congrArg some (by kernel_rfl))
  f165 := Tryf.func43.trans (congrArg some (by kernel_rfl))
  f166 := Tryf.func32.trans (congrArg some (by kernel_rfl))
  f169 := Tryf.func39.trans (congrArg some (by kernel_rfl))
  f240 := Tryf.func44.trans (congrArg some (by kernel_rfl))
  f241 := Tryf.func64.trans (congrArg some (by kernel_rfl))
  f276 := Tryf.func65.trans (congrArg some (by kernel_rfl))
  f277 := Tryf.func79.trans (congrArg some (by kernel_rfl))
  t0 := Tryf.underlying0
  a0 := Tryf.isAgg0
  z0 := Tryf.sizeOf0
  v0 := Tryf.zeroValue0
  t3 := Tryf.underlying3
  a3 := Tryf.isAgg3
  z3 := Tryf.sizeOf3
  v3 := Tryf.zeroValue3
  t4 := Tryf.underlying4
  a4 := Tryf.isAgg4
  z4 := Tryf.sizeOf4
  v4 := Tryf.zeroValue4
  t9 := Tryf.underlying9
  a9 := Tryf.isAgg9
  z9 := Tryf.sizeOf9
  v9 := Tryf.zeroValue9
  t20 := Tryf.underlying20
  a20 := Tryf.isAgg20
  z20 := Tryf.sizeOf20
  v20 := Tryf.zeroValue20
  t31 := Tryf.underlying22
  a31 := Tryf.isAgg22
  z31 := Tryf.sizeOf22
  v31 := Tryf.zeroValue22
  t37 := Tryf.underlying64
  a37 := Tryf.isAgg64
  z37 := Tryf.sizeOf64
  v37 := Tryf.zeroValue64
  t70 := Tryf.underlying63
  a70 := Tryf.isAgg63
  z70 := Tryf.sizeOf63
  v70 := Tryf.zeroValue63
  t72 := Tryf.underlying66
  a72 := Tryf.isAgg66
  z72 := Tryf.sizeOf66
  v72 := Tryf.zeroValue66
  t75 := Tryf.underlying29
  a75 := Tryf.isAgg29
  z75 := Tryf.sizeOf29
  v75 := Tryf.zeroValue29
  t76 := Tryf.underlying68
  a76 := Tryf.isAgg68
  z76 := Tryf.sizeOf68
  v76 := Tryf.zeroValue68
  t127 := Tryf.underlying86
  a127 := Tryf.isAgg86
  z127 := Tryf.sizeOf86
  v127 := Tryf.zeroValue86
  t164 := Tryf.underlying99
  a164 := Tryf.isAgg99
  z164 := Tryf.sizeOf99
  v164 := Tryf.zeroValue99 }
theorem Tryf.Builder_Extra_156 : Builder.Extra Tryf.prog Tryf.lays156_ren := {
  sizeBuilder := by kernel_rfl
  liesBuilder := by kernel_rfl
  t5 := Tryf.underlying5
  a5 := Tryf.isAgg5
  z5 := Tryf.sizeOf5
  v5 := Tryf.zeroValue5
  infoByte := by kernel_rfl
  cellsByte := by kernel_rfl
  sizeByte := by kernel_rfl
  neB5 := by decide }
open Go.RowKit in
theorem Tryf.strings_Join_none (a : Option Addr) (c : Nat) (sep : ByteArray) (w : World) :
    Calls Tryf.prog 31 #[.slice a 0 c, .string sep] w fun e w' => e = .returned (.string ⟨#[]⟩) ∧ w' = w := Any.strings_Join_none Tryf.lays156 Tryf.Builder_Extra_156 a c sep w
open Go.RowKit in
theorem Tryf.strings_Join (bk o c : Nat) (xs : List ByteArray) (sep : ByteArray) (w : World) (hcells : ∀ (j : Nat) x, xs[j]? = some x → w.cell? ⟨bk, o + j, none⟩ = some (.string x)) (hbk : bk < w.heap.size) (hN : xs.length ≤ 140737488355328) (hcap : xs.length ≤ c) (hlen : (Lib.join (xs.map (·.data.toList)) sep.data.toList).length ≤ 140737488355328) :
    Calls Tryf.prog 31 #[.slice (some ⟨bk, o, none⟩) xs.length c, .string sep] w fun e w' => e = .returned (.string ⟨(Lib.join (xs.map (·.data.toList)) sep.data.toList).toArray⟩) ∧ Below w.heap.size w w' := Any.strings_Join Tryf.lays156 Tryf.Builder_Extra_156 bk o c xs sep w hcells hbk hN hcap hlen
def Tryf.laysNm217_ren : Go.Shelf.Ren := ⟨fun | 17 => 30 | n => n, fun | 24 => 22 | 9 => 9 | 3 => 3 | 4 => 4 | 0 => 0 | n => n, fun | n => n⟩
theorem Tryf.laysNm217 : Go.Proofs.Lays2.n17 Tryf.prog Tryf.laysNm217_ren := {
  mixed := by kernel_rfl
  f17 := Tryf.func30.trans (congrArg some (by kernel_rfl))
  t0 := Tryf.underlying0
  a0 := Tryf.isAgg0
  z0 := Tryf.sizeOf0
  v0 := Tryf.zeroValue0
  t3 := Tryf.underlying3
  a3 := Tryf.isAgg3
  z3 := Tryf.sizeOf3
  v3 := Tryf.zeroValue3
  t4 := Tryf.underlying4
  a4 := Tryf.isAgg4
  z4 := Tryf.sizeOf4
  v4 := Tryf.zeroValue4
  t9 := Tryf.underlying9
  a9 := Tryf.isAgg9
  z9 := Tryf.sizeOf9
  v9 := Tryf.zeroValue9
  t24 := Tryf.underlying22
  a24 := Tryf.isAgg22
  z24 := Tryf.sizeOf22
  v24 := Tryf.zeroValue22 }
open Go.RowKit Go.Lib Go.Sort in
theorem Tryf.slices_Reverse_string_cells (b off n c : Nat) (Sx : Nat → ByteArray) (w : World) (hbig : n ≤ 9223372036854775807) (hc : ∀ i, i < n → w.cell? ⟨b, off + i, none⟩ = some (.string (Sx i))) (hf : ∀ j, j < n → w.frozen? ⟨b, off + j, none⟩ = false) :
    Calls Tryf.prog 30 #[.slice (some ⟨b, off, none⟩) n c] w fun e w' => e = .returned (.tuple #[]) ∧ ∃ q, w' = (w.drewN q).setCells b off ((Lib.strsOf Sx n).reverse.map encStr) := Any.slices_Reverse_string_cells Tryf.laysNm217 b off n c Sx w hbig hc hf
open Go.RowKit in
theorem Tryf.slices_Reverse_string_empty (a : Option Addr) (cap : Nat) (w : World) :
    Calls Tryf.prog 30 #[.slice a 0 cap] w fun e w' => e = .returned (.tuple #[]) ∧ w' = w := Any.slices_Reverse_string_empty Tryf.laysNm217 a cap w
end Go.Proofs
