/-
  THE TABLE 'algorithms', plain: a row an algorithm: its number, its name, the shortest and the longest session key. No Go in sight.
-/
import Derived.Test.YbulkdcraFmtRows
namespace Go.Proofs.YbulkdcraFmt

/-- A row of the table. -/
abbrev Row : Type := Int × ByteArray × Int × Int

def tbl : List Row := [
  (41984, { data := #[67, 65, 76, 71, 95, 82, 83, 65, 95, 75, 69, 89, 88] }, 0, 0),
  (9216, { data := #[67, 65, 76, 71, 95, 82, 83, 65, 95, 83, 73, 71, 78] }, 0, 0),
  (8704, { data := #[67, 65, 76, 71, 95, 68, 83, 83, 95, 83, 73, 71, 78] }, 0, 0),
  (43521, { data := #[67, 65, 76, 71, 95, 68, 72, 95, 83, 70] }, 0, 0),
  (43522, { data := #[67, 65, 76, 71, 95, 68, 72, 95, 69, 80, 72, 69, 77] }, 0, 0),
  (26113, { data := #[67, 65, 76, 71, 95, 68, 69, 83] }, 8, 8),
  (26114, { data := #[67, 65, 76, 71, 95, 82, 67, 50] }, 5, 16),
  (26115, { data := #[67, 65, 76, 71, 95, 51, 68, 69, 83] }, 24, 24),
  (26121, { data := #[67, 65, 76, 71, 95, 51, 68, 69, 83, 95, 49, 49, 50] }, 16, 16),
  (26126, { data := #[67, 65, 76, 71, 95, 65, 69, 83, 95, 49, 50, 56] }, 16, 16),
  (26127, { data := #[67, 65, 76, 71, 95, 65, 69, 83, 95, 49, 57, 50] }, 24, 24),
  (26128, { data := #[67, 65, 76, 71, 95, 65, 69, 83, 95, 50, 53, 54] }, 32, 32),
  (26625, { data := #[67, 65, 76, 71, 95, 82, 67, 52] }, 5, 16)]

/-- A row's four cells. -/
def enc (r : Row) : List Value := [.int .u32 r.1, .string r.2.1, .int .i64 r.2.2.1, .int .i64 r.2.2.2]

/-- THE WORLD HOLDS THE TABLE: the variable (block 0) holds a slice of thirteen rows at ⟨b, off⟩. -/
def TabAt (W : World) (b off c : Nat) : Prop :=
  W.cell? ⟨0, 0, none⟩ = some (.slice (some ⟨b, off, none⟩) 13 c) ∧ 0 < W.heap.size ∧ b < W.heap.size ∧
  ∀ j, j < tbl.length → ∀ i v, (enc tbl[j]!)[i]? = some v → W.cell? ⟨b, off + j * 4 + i, none⟩ = some v
end Go.Proofs.YbulkdcraFmt
