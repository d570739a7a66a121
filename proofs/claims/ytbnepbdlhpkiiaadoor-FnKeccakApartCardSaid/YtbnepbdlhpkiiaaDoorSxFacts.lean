/- Closed facts on the program's types: sizes, zero values, places of fields. Written by a program (facts.py). -/
import Derived.Test.YtbnepbdlhpkiiaaDoorSxArr
import Derived.Test.YtbnepbdlhpkiiaaDoorProg
import Derived.KernelRfl
namespace Go.Proofs.YtbnepbdlhpkiiaaDoor
open Go.Sx

noncomputable def inf (t : Nat) : TypeInfo := (Tryd.prog.info? t).getD default
theorem info3 : Tryd.prog.info? 3 = some (inf 3) := by kernel_rfl
theorem size3 : (inf 3).size = 1 := by kernel_rfl
theorem bq3 : Nat.beq (inf 3).size 1 = true := by kernel_rfl
theorem nz3 : Nat.beq (inf 3).size 0 = false := by kernel_rfl
theorem bytes3 : (inf 3).bytes = 8 := by kernel_rfl
theorem info4 : Tryd.prog.info? 4 = some (inf 4) := by kernel_rfl
theorem size4 : (inf 4).size = 1 := by kernel_rfl
theorem bq4 : Nat.beq (inf 4).size 1 = true := by kernel_rfl
theorem nz4 : Nat.beq (inf 4).size 0 = false := by kernel_rfl
theorem bytes4 : (inf 4).bytes = 1 := by kernel_rfl
theorem info5 : Tryd.prog.info? 5 = some (inf 5) := by kernel_rfl
theorem size5 : (inf 5).size = 1 := by kernel_rfl
theorem bq5 : Nat.beq (inf 5).size 1 = true := by kernel_rfl
theorem nz5 : Nat.beq (inf 5).size 0 = false := by kernel_rfl
theorem bytes5 : (inf 5).bytes = 1 := by kernel_rfl
theorem info9 : Tryd.prog.info? 9 = some (inf 9) := by kernel_rfl
theorem size9 : (inf 9).size = 1 := by kernel_rfl
theorem bq9 : Nat.beq (inf 9).size 1 = true := by kernel_rfl
theorem nz9 : Nat.beq (inf 9).size 0 = false := by kernel_rfl
theorem bytes9 : (inf 9).bytes = 16 := by kernel_rfl
theorem info22 : Tryd.prog.info? 22 = some (inf 22) := by kernel_rfl
theorem size22 : (inf 22).size = 200 := by kernel_rfl
theorem bq22 : Nat.beq (inf 22).size 200 = true := by kernel_rfl
theorem nz22 : Nat.beq (inf 22).size 0 = false := by kernel_rfl
theorem bytes22 : (inf 22).bytes = 200 := by kernel_rfl
theorem info25 : Tryd.prog.info? 25 = some (inf 25) := by kernel_rfl
theorem size25 : (inf 25).size = 200 := by kernel_rfl
theorem bq25 : Nat.beq (inf 25).size 200 = true := by kernel_rfl
theorem nz25 : Nat.beq (inf 25).size 0 = false := by kernel_rfl
theorem bytes25 : (inf 25).bytes = 200 := by kernel_rfl
theorem info28 : Tryd.prog.info? 28 = some (inf 28) := by kernel_rfl
theorem size28 : (inf 28).size = 1 := by kernel_rfl
theorem bq28 : Nat.beq (inf 28).size 1 = true := by kernel_rfl
theorem nz28 : Nat.beq (inf 28).size 0 = false := by kernel_rfl
theorem bytes28 : (inf 28).bytes = 24 := by kernel_rfl
theorem info35 : Tryd.prog.info? 35 = some (inf 35) := by kernel_rfl
theorem size35 : (inf 35).size = 1 := by kernel_rfl
theorem bq35 : Nat.beq (inf 35).size 1 = true := by kernel_rfl
theorem nz35 : Nat.beq (inf 35).size 0 = false := by kernel_rfl
theorem bytes35 : (inf 35).bytes = 24 := by kernel_rfl
theorem info36 : Tryd.prog.info? 36 = some (inf 36) := by kernel_rfl
theorem size36 : (inf 36).size = 1 := by kernel_rfl
theorem bq36 : Nat.beq (inf 36).size 1 = true := by kernel_rfl
theorem nz36 : Nat.beq (inf 36).size 0 = false := by kernel_rfl
theorem bytes36 : (inf 36).bytes = 24 := by kernel_rfl
theorem info48 : Tryd.prog.info? 48 = some (inf 48) := by kernel_rfl
theorem size48 : (inf 48).size = 1 := by kernel_rfl
theorem bq48 : Nat.beq (inf 48).size 1 = true := by kernel_rfl
theorem nz48 : Nat.beq (inf 48).size 0 = false := by kernel_rfl
theorem bytes48 : (inf 48).bytes = 8 := by kernel_rfl
theorem info52 : Tryd.prog.info? 52 = some (inf 52) := by kernel_rfl
theorem size52 : (inf 52).size = 25 := by kernel_rfl
theorem bq52 : Nat.beq (inf 52).size 25 = true := by kernel_rfl
theorem nz52 : Nat.beq (inf 52).size 0 = false := by kernel_rfl
theorem bytes52 : (inf 52).bytes = 200 := by kernel_rfl
theorem info58 : Tryd.prog.info? 58 = some (inf 58) := by kernel_rfl
theorem size58 : (inf 58).size = 1 := by kernel_rfl
theorem bq58 : Nat.beq (inf 58).size 1 = true := by kernel_rfl
theorem nz58 : Nat.beq (inf 58).size 0 = false := by kernel_rfl
theorem bytes58 : (inf 58).bytes = 24 := by kernel_rfl
theorem info60 : Tryd.prog.info? 60 = some (inf 60) := by kernel_rfl
theorem size60 : (inf 60).size = 168 := by kernel_rfl
theorem bq60 : Nat.beq (inf 60).size 168 = true := by kernel_rfl
theorem nz60 : Nat.beq (inf 60).size 0 = false := by kernel_rfl
theorem bytes60 : (inf 60).bytes = 168 := by kernel_rfl
theorem info61 : Tryd.prog.info? 61 = some (inf 61) := by kernel_rfl
theorem size61 : (inf 61).size = 168 := by kernel_rfl
theorem bq61 : Nat.beq (inf 61).size 168 = true := by kernel_rfl
theorem nz61 : Nat.beq (inf 61).size 0 = false := by kernel_rfl
theorem bytes61 : (inf 61).bytes = 168 := by kernel_rfl
theorem info62 : Tryd.prog.info? 62 = some (inf 62) := by kernel_rfl
theorem size62 : (inf 62).size = 1 := by kernel_rfl
theorem bq62 : Nat.beq (inf 62).size 1 = true := by kernel_rfl
theorem nz62 : Nat.beq (inf 62).size 0 = false := by kernel_rfl
theorem bytes62 : (inf 62).bytes = 8 := by kernel_rfl
theorem info64 : Tryd.prog.info? 64 = some (inf 64) := by kernel_rfl
theorem size64 : (inf 64).size = 200 := by kernel_rfl
theorem bq64 : Nat.beq (inf 64).size 200 = true := by kernel_rfl
theorem nz64 : Nat.beq (inf 64).size 0 = false := by kernel_rfl
theorem bytes64 : (inf 64).bytes = 424 := by kernel_rfl
theorem info65 : Tryd.prog.info? 65 = some (inf 65) := by kernel_rfl
theorem size65 : (inf 65).size = 1 := by kernel_rfl
theorem bq65 : Nat.beq (inf 65).size 1 = true := by kernel_rfl
theorem nz65 : Nat.beq (inf 65).size 0 = false := by kernel_rfl
theorem bytes65 : (inf 65).bytes = 8 := by kernel_rfl
theorem info66 : Tryd.prog.info? 66 = some (inf 66) := by kernel_rfl
theorem size66 : (inf 66).size = 1 := by kernel_rfl
theorem bq66 : Nat.beq (inf 66).size 1 = true := by kernel_rfl
theorem nz66 : Nat.beq (inf 66).size 0 = false := by kernel_rfl
theorem bytes66 : (inf 66).bytes = 8 := by kernel_rfl
theorem info68 : Tryd.prog.info? 68 = some (inf 68) := by kernel_rfl
theorem size68 : (inf 68).size = 207 := by kernel_rfl
theorem bq68 : Nat.beq (inf 68).size 207 = true := by kernel_rfl
theorem nz68 : Nat.beq (inf 68).size 0 = false := by kernel_rfl
theorem bytes68 : (inf 68).bytes = 512 := by kernel_rfl
theorem info71 : Tryd.prog.info? 71 = some (inf 71) := by kernel_rfl
theorem size71 : (inf 71).size = 1 := by kernel_rfl
theorem bq71 : Nat.beq (inf 71).size 1 = true := by kernel_rfl
theorem nz71 : Nat.beq (inf 71).size 0 = false := by kernel_rfl
theorem bytes71 : (inf 71).bytes = 8 := by kernel_rfl
theorem info75 : Tryd.prog.info? 75 = some (inf 75) := by kernel_rfl
theorem size75 : (inf 75).size = 1 := by kernel_rfl
theorem bq75 : Nat.beq (inf 75).size 1 = true := by kernel_rfl
theorem nz75 : Nat.beq (inf 75).size 0 = false := by kernel_rfl
theorem bytes75 : (inf 75).bytes = 8 := by kernel_rfl
theorem info76 : Tryd.prog.info? 76 = some (inf 76) := by kernel_rfl
theorem size76 : (inf 76).size = 5 := by kernel_rfl
theorem bq76 : Nat.beq (inf 76).size 5 = true := by kernel_rfl
theorem nz76 : Nat.beq (inf 76).size 0 = false := by kernel_rfl
theorem bytes76 : (inf 76).bytes = 40 := by kernel_rfl
theorem info86 : Tryd.prog.info? 86 = some (inf 86) := by kernel_rfl
theorem size86 : (inf 86).size = 9 := by kernel_rfl
theorem bq86 : Nat.beq (inf 86).size 9 = true := by kernel_rfl
theorem nz86 : Nat.beq (inf 86).size 0 = false := by kernel_rfl
theorem bytes86 : (inf 86).bytes = 9 := by kernel_rfl
theorem info88 : Tryd.prog.info? 88 = some (inf 88) := by kernel_rfl
theorem size88 : (inf 88).size = 0 := by kernel_rfl
theorem bq88 : Nat.beq (inf 88).size 0 = true := by kernel_rfl
theorem bytes88 : (inf 88).bytes = 0 := by kernel_rfl
theorem info91 : Tryd.prog.info? 91 = some (inf 91) := by kernel_rfl
theorem size91 : (inf 91).size = 1 := by kernel_rfl
theorem bq91 : Nat.beq (inf 91).size 1 = true := by kernel_rfl
theorem nz91 : Nat.beq (inf 91).size 0 = false := by kernel_rfl
theorem bytes91 : (inf 91).bytes = 16 := by kernel_rfl
theorem info93 : Tryd.prog.info? 93 = some (inf 93) := by kernel_rfl
theorem size93 : (inf 93).size = 24 := by kernel_rfl
theorem bq93 : Nat.beq (inf 93).size 24 = true := by kernel_rfl
theorem nz93 : Nat.beq (inf 93).size 0 = false := by kernel_rfl
theorem bytes93 : (inf 93).bytes = 192 := by kernel_rfl
theorem info96 : Tryd.prog.info? 96 = some (inf 96) := by kernel_rfl
theorem size96 : (inf 96).size = 32 := by kernel_rfl
theorem bq96 : Nat.beq (inf 96).size 32 = true := by kernel_rfl
theorem nz96 : Nat.beq (inf 96).size 0 = false := by kernel_rfl
theorem bytes96 : (inf 96).bytes = 32 := by kernel_rfl
theorem info99 : Tryd.prog.info? 99 = some (inf 99) := by kernel_rfl
theorem size99 : (inf 99).size = 0 := by kernel_rfl
theorem bq99 : Nat.beq (inf 99).size 0 = true := by kernel_rfl
theorem bytes99 : (inf 99).bytes = 0 := by kernel_rfl
theorem info101 : Tryd.prog.info? 101 = some (inf 101) := by kernel_rfl
theorem size101 : (inf 101).size = 1 := by kernel_rfl
theorem bq101 : Nat.beq (inf 101).size 1 = true := by kernel_rfl
theorem nz101 : Nat.beq (inf 101).size 0 = false := by kernel_rfl
theorem bytes101 : (inf 101).bytes = 8 := by kernel_rfl
theorem info103 : Tryd.prog.info? 103 = some (inf 103) := by kernel_rfl
theorem size103 : (inf 103).size = 1 := by kernel_rfl
theorem bq103 : Nat.beq (inf 103).size 1 = true := by kernel_rfl
theorem nz103 : Nat.beq (inf 103).size 0 = false := by kernel_rfl
theorem bytes103 : (inf 103).bytes = 8 := by kernel_rfl
theorem zero3 : (inf 3).zero = some (.int .i64 0) := by kernel_rfl
theorem zero5 : (inf 5).zero = some (.int .u8 0) := by kernel_rfl
theorem zero28 : (inf 28).zero = some (.slice none 0 0) := by kernel_rfl
theorem zero35 : (inf 35).zero = some (.slice none 0 0) := by kernel_rfl
theorem zero48 : (inf 48).zero = some (.int .u64 0) := by kernel_rfl
theorem zero36 : (inf 36).zero = some (.slice none 0 0) := by kernel_rfl
theorem zero22 : (inf 22).zero = some (.agg (Array.replicate 200 (.int .u8 0))) := by kernel_rfl
theorem zero25 : (inf 25).zero = some (.agg (Array.replicate 200 (.int .u8 0))) := by kernel_rfl
theorem zero52 : (inf 52).zero = some (.agg (Array.replicate 25 (.int .u64 0))) := by kernel_rfl
theorem zero76 : (inf 76).zero = some (.agg (Array.replicate 5 (.int .u64 0))) := by kernel_rfl
theorem zero86 : (inf 86).zero = some (.agg (Array.replicate 9 (.int .u8 0))) := by kernel_rfl
theorem zero96 : (inf 96).zero = some (.agg (Array.replicate 32 (.int .u8 0))) := by kernel_rfl
theorem zero88 : (inf 88).zero = some (.agg #[]) := by kernel_rfl
theorem zero99 : (inf 99).zero = some (.agg #[]) := by kernel_rfl
section
variable {H : Array Obj} {L : Env} {ty : TypeId} {x : Operand} {b off : Nat}
theorem fa64_0 (hx : evL L x = some (ptr b off)) : Yl Tryd.prog H L (.fieldAddr 64 x 0) ty (ptr b (off + 0)) :=
  Yl.fieldAddr' 0 Tryd.underlying64 rfl info52 nz52 rfl hx
theorem fa64_1 (hx : evL L x = some (ptr b off)) : Yl Tryd.prog H L (.fieldAddr 64 x 1) ty (ptr b (off + 25)) :=
  Yl.fieldAddr' 25 Tryd.underlying64 rfl info3 nz3 rfl hx
theorem fa64_2 (hx : evL L x = some (ptr b off)) : Yl Tryd.prog H L (.fieldAddr 64 x 2) ty (ptr b (off + 26)) :=
  Yl.fieldAddr' 26 Tryd.underlying64 rfl info3 nz3 rfl hx
theorem fa64_3 (hx : evL L x = some (ptr b off)) : Yl Tryd.prog H L (.fieldAddr 64 x 3) ty (ptr b (off + 27)) :=
  Yl.fieldAddr' 27 Tryd.underlying64 rfl info3 nz3 rfl hx
theorem fa64_4 (hx : evL L x = some (ptr b off)) : Yl Tryd.prog H L (.fieldAddr 64 x 4) ty (ptr b (off + 28)) :=
  Yl.fieldAddr' 28 Tryd.underlying64 rfl info5 nz5 rfl hx
theorem fa64_5 (hx : evL L x = some (ptr b off)) : Yl Tryd.prog H L (.fieldAddr 64 x 5) ty (ptr b (off + 29)) :=
  Yl.fieldAddr' 29 Tryd.underlying64 rfl info61 nz61 rfl hx
theorem fa64_6 (hx : evL L x = some (ptr b off)) : Yl Tryd.prog H L (.fieldAddr 64 x 6) ty (ptr b (off + 197)) :=
  Yl.fieldAddr' 197 Tryd.underlying64 rfl info3 nz3 rfl hx
theorem fa64_7 (hx : evL L x = some (ptr b off)) : Yl Tryd.prog H L (.fieldAddr 64 x 7) ty (ptr b (off + 198)) :=
  Yl.fieldAddr' 198 Tryd.underlying64 rfl info62 nz62 rfl hx
theorem fa64_8 (hx : evL L x = some (ptr b off)) : Yl Tryd.prog H L (.fieldAddr 64 x 8) ty (ptr b (off + 199)) :=
  Yl.fieldAddr' 199 Tryd.underlying64 rfl info4 nz4 rfl hx
theorem fa68_0 (hx : evL L x = some (ptr b off)) : Yl Tryd.prog H L (.fieldAddr 68 x 0) ty (ptr b (off + 0)) :=
  Yl.fieldAddr' 0 Tryd.underlying68 rfl info3 nz3 rfl hx
theorem fa68_1 (hx : evL L x = some (ptr b off)) : Yl Tryd.prog H L (.fieldAddr 68 x 1) ty (ptr b (off + 1)) :=
  Yl.fieldAddr' 1 Tryd.underlying68 rfl info64 nz64 rfl hx
theorem fa68_2 (hx : evL L x = some (ptr b off)) : Yl Tryd.prog H L (.fieldAddr 68 x 2) ty (ptr b (off + 201)) :=
  Yl.fieldAddr' 201 Tryd.underlying68 rfl info28 nz28 rfl hx
theorem fa68_3 (hx : evL L x = some (ptr b off)) : Yl Tryd.prog H L (.fieldAddr 68 x 3) ty (ptr b (off + 202)) :=
  Yl.fieldAddr' 202 Tryd.underlying68 rfl info28 nz28 rfl hx
theorem fa68_4 (hx : evL L x = some (ptr b off)) : Yl Tryd.prog H L (.fieldAddr 68 x 4) ty (ptr b (off + 203)) :=
  Yl.fieldAddr' 203 Tryd.underlying68 rfl info3 nz3 rfl hx
theorem fa68_5 (hx : evL L x = some (ptr b off)) : Yl Tryd.prog H L (.fieldAddr 68 x 5) ty (ptr b (off + 204)) :=
  Yl.fieldAddr' 204 Tryd.underlying68 rfl info65 nz65 rfl hx
theorem fa68_6 (hx : evL L x = some (ptr b off)) : Yl Tryd.prog H L (.fieldAddr 68 x 6) ty (ptr b (off + 205)) :=
  Yl.fieldAddr' 205 Tryd.underlying68 rfl info66 nz66 rfl hx
theorem fa68_7 (hx : evL L x = some (ptr b off)) : Yl Tryd.prog H L (.fieldAddr 68 x 7) ty (ptr b (off + 206)) :=
  Yl.fieldAddr' 206 Tryd.underlying68 rfl info5 nz5 rfl hx
end
end Go.Proofs.YtbnepbdlhpkiiaaDoor
