import Derived.Test.Qxb6003977aFmtRows
import Derived.Shelf.Strconv.Itoa1
import Derived.Shelf.Strconv.Itoa2
import Derived.Shelf.Lay
import Derived.Ground.NamesProg
namespace Go.Proofs.Qxb6003977aFmt
open Go.Shelf Go.RowKit Go.Sort Go.Lib

shelf_lay Lays.n283 Nm 283 at Tryf as Tryf.lays283
shelf_lay LaysM.n284 Nm 284 at Tryf as Tryf.lays284
shelf_lay Lays.n285 Nm 285 at Tryf as Tryf.lays285

theorem small_any (i : Nat) (h : i < 100) (w : World) : Calls Tryf.prog 27 #[.int .i64 i] w fun e w' => e = .returned (.string ⟨(Lib.decDigits i).toArray⟩) ∧ w' = w := Any.internal_strconv_small Tryf.lays283 i h w
theorem numDigits_any (u : Nat) (h1 : 1 ≤ u) (h2 : u < 18446744073709551616) (w : World) (htab : Lib.TabIs Tryf.prog w "internal/strconv.uint64pow10" .u64 Lib.pow10Tab) :
    Calls Tryf.prog 28 #[.int .u64 u] w fun e w' => e = .returned (.int .i64 (Lib.nDigits u)) ∧ w' = w := Any.internal_strconv_numDigits Tryf.lays284 u h1 h2 w htab
theorem base10_any (blk off cap : Nat) (u : Nat) (d : Array UInt8) (w : World) (hH : Holds (fun (b : UInt8) => Value.int .u8 (b.toNat : Int)) w blk off d) (hu : u < 10 ^ d.size) (hu64 : u < 18446744073709551616) (hsz : d.size < 4611686018427387904) :
    Calls Tryf.prog 29 #[.slice (some ⟨blk, off, none⟩) d.size cap, .int .u64 u] w fun e w' =>
      e = .returned (.tuple #[]) ∧ ∃ (n v' : Nat) (dk : Array UInt8), w' = (putRow (fun (b : UInt8) => Value.int .u8 (b.toNat : Int)) w blk off dk).drewN n ∧ FmtInv d.size u 0 v' dk :=
  Any.internal_strconv_formatBase10 Tryf.lays285 blk off cap u d w hH hu hu64 hsz

end Go.Proofs.Qxb6003977aFmt
