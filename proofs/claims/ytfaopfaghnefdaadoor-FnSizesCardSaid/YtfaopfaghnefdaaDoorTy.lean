/- Facts on the program's own types: how many cells, which fields where. No conditions. -/
import Derived.Test.YtfaopfaghnefdaaDoorWords
import Derived.Test.YtfaopfaghnefdaaDoorOps3
namespace Go.Proofs.YtfaopfaghnefdaaDoor
open Go
theorem arr44 : ArrAt Tryd.prog 44 8 1 := ⟨43, Tryd.underlying44, sz43⟩
theorem int45 : IntT Tryd.prog 45 .u64 := Tryd.underlying45
theorem sz57 : SizeIs Tryd.prog 57 16 := (by kernel_rfl : (Tryd.prog.info? 57).map (·.size) = some 16)
theorem agg57 : AggT Tryd.prog 57 16 := ⟨_, Tryd.underlying57, rfl, sz57⟩
theorem zero57 : (Tryd.prog.info? 57).map (·.zero) = some (some (aggF 16 fun _ => .int .u32 0)) := by kernel_rfl
theorem arr47 : ArrAt Tryd.prog 47 64 1 := ⟨43, Tryd.underlying47, sz43⟩
/-- Two ranges of cells that do not meet. -/
def Apart (b o m b' o' m' : Nat) : Prop := b ≠ b' ∨ o + m ≤ o' ∨ o' + m' ≤ o
theorem Apart.set {b o m g o' m' i : Nat} (h : Apart b o m g o' m') (h1 : o' ≤ i) (h2 : i < o' + m') : b ≠ g ∨ i < o ∨ o + m ≤ i := by
  unfold Apart at h; omega
theorem int3 : IntT Tryd.prog 3 .i64 := Tryd.underlying3
theorem int76 : IntT Tryd.prog 76 .u64 := Tryd.underlying76
theorem one3 : OneC Tryd.prog 3 := ⟨_, Tryd.underlying3, rfl, (by kernel_rfl : (Tryd.prog.info? 3).map (·.size) = some 1)⟩
theorem one45 : OneC Tryd.prog 45 := ⟨_, Tryd.underlying45, rfl, (by kernel_rfl : (Tryd.prog.info? 45).map (·.size) = some 1)⟩
theorem sz44 : SizeIs Tryd.prog 44 8 := (by kernel_rfl : (Tryd.prog.info? 44).map (·.size) = some 8)
theorem agg44 : AggT Tryd.prog 44 8 := ⟨_, Tryd.underlying44, rfl, sz44⟩
theorem sz46 : SizeIs Tryd.prog 46 8 := (by kernel_rfl : (Tryd.prog.info? 46).map (·.size) = some 8)
theorem agg46 : AggT Tryd.prog 46 8 := ⟨_, Tryd.underlying46, rfl, sz46⟩
theorem arr46 : ArrAt Tryd.prog 46 8 1 := ⟨5, Tryd.underlying46, sz5⟩
theorem sz47 : SizeIs Tryd.prog 47 64 := (by kernel_rfl : (Tryd.prog.info? 47).map (·.size) = some 64)
theorem arr48 : ArrAt Tryd.prog 48 2 64 := ⟨47, Tryd.underlying48, sz47⟩
theorem arr49 : ArrAt Tryd.prog 49 64 8 := ⟨44, Tryd.underlying49, sz44⟩
theorem arr52 : ArrAt Tryd.prog 52 8192 1 := ⟨5, Tryd.underlying52, sz5⟩
theorem slc79 : SlcAt Tryd.prog 79 1 := ⟨43, Tryd.underlying79, sz43⟩
theorem fa51_0 : FieldAt Tryd.prog 51 0 0 := ⟨_, _, 0, Tryd.underlying51, rfl, rfl, (by kernel_rfl : (Tryd.prog.info? 45).map (·.size) = some 1)⟩
theorem fa51_1 : FieldAt Tryd.prog 51 1 1 := ⟨_, _, 7, Tryd.underlying51, rfl, rfl, (by kernel_rfl : (Tryd.prog.info? 46).map (·.size) = some 8)⟩
theorem fa51_2 : FieldAt Tryd.prog 51 2 9 := ⟨_, _, 0, Tryd.underlying51, rfl, rfl, (by kernel_rfl : (Tryd.prog.info? 3).map (·.size) = some 1)⟩
theorem fa51_3 : FieldAt Tryd.prog 51 3 10 := ⟨_, _, 127, Tryd.underlying51, rfl, rfl, (by kernel_rfl : (Tryd.prog.info? 48).map (·.size) = some 128)⟩
theorem fa51_4 : FieldAt Tryd.prog 51 4 138 := ⟨_, _, 511, Tryd.underlying51, rfl, rfl, (by kernel_rfl : (Tryd.prog.info? 49).map (·.size) = some 512)⟩
theorem fa54_0 : FieldAt Tryd.prog 54 0 0 := ⟨_, _, 0, Tryd.underlying54, rfl, rfl, (by kernel_rfl : (Tryd.prog.info? 45).map (·.size) = some 1)⟩
theorem fa54_1 : FieldAt Tryd.prog 54 1 1 := ⟨_, _, 0, Tryd.underlying54, rfl, rfl, (by kernel_rfl : (Tryd.prog.info? 45).map (·.size) = some 1)⟩
theorem fa54_2 : FieldAt Tryd.prog 54 2 2 := ⟨_, _, 0, Tryd.underlying54, rfl, rfl, (by kernel_rfl : (Tryd.prog.info? 43).map (·.size) = some 1)⟩
theorem fa54_3 : FieldAt Tryd.prog 54 3 3 := ⟨_, _, 7, Tryd.underlying54, rfl, rfl, (by kernel_rfl : (Tryd.prog.info? 44).map (·.size) = some 8)⟩
theorem fa54_4 : FieldAt Tryd.prog 54 4 11 := ⟨_, _, 649, Tryd.underlying54, rfl, rfl, (by kernel_rfl : (Tryd.prog.info? 51).map (·.size) = some 650)⟩
theorem fa54_5 : FieldAt Tryd.prog 54 5 661 := ⟨_, _, 8191, Tryd.underlying54, rfl, rfl, (by kernel_rfl : (Tryd.prog.info? 52).map (·.size) = some 8192)⟩
theorem fa56_0 : FieldAt Tryd.prog 56 0 0 := ⟨_, _, 0, Tryd.underlying56, rfl, rfl, (by kernel_rfl : (Tryd.prog.info? 3).map (·.size) = some 1)⟩
theorem fa56_1 : FieldAt Tryd.prog 56 1 1 := ⟨_, _, 8852, Tryd.underlying56, rfl, rfl, (by kernel_rfl : (Tryd.prog.info? 54).map (·.size) = some 8853)⟩
theorem fa59_0 : FieldAt Tryd.prog 59 0 0 := ⟨_, _, 0, Tryd.underlying59, rfl, rfl, (by kernel_rfl : (Tryd.prog.info? 45).map (·.size) = some 1)⟩
theorem fa59_1 : FieldAt Tryd.prog 59 1 1 := ⟨_, _, 7, Tryd.underlying59, rfl, rfl, (by kernel_rfl : (Tryd.prog.info? 44).map (·.size) = some 8)⟩
theorem fa59_2 : FieldAt Tryd.prog 59 2 9 := ⟨_, _, 15, Tryd.underlying59, rfl, rfl, (by kernel_rfl : (Tryd.prog.info? 57).map (·.size) = some 16)⟩
theorem fa59_3 : FieldAt Tryd.prog 59 3 25 := ⟨_, _, 0, Tryd.underlying59, rfl, rfl, (by kernel_rfl : (Tryd.prog.info? 43).map (·.size) = some 1)⟩
theorem fa59_4 : FieldAt Tryd.prog 59 4 26 := ⟨_, _, 0, Tryd.underlying59, rfl, rfl, (by kernel_rfl : (Tryd.prog.info? 43).map (·.size) = some 1)⟩
theorem fa59_5 : FieldAt Tryd.prog 59 5 27 := ⟨_, _, 15, Tryd.underlying59, rfl, rfl, (by kernel_rfl : (Tryd.prog.info? 57).map (·.size) = some 16)⟩
theorem fa59_6 : FieldAt Tryd.prog 59 6 43 := ⟨_, _, 0, Tryd.underlying59, rfl, rfl, (by kernel_rfl : (Tryd.prog.info? 3).map (·.size) = some 1)⟩
end Go.Proofs.YtfaopfaghnefdaaDoor
