/- Floats of 64 bits as a kind of cells: what the printed words lack. Conditions: none. -/
import Derived.Test.YtabfehcpcjcomaaDoorWWords
import Derived.Test.YtabfehcpcjcomaaDoorWFoot
namespace Go.Proofs.YtabfehcpcjcomaaDoorW.PrintLast
open Go Go.RowKit Go.Proofs.YtabfehcpcjcomaaDoorW.PrintWords
def kF64 : Kd Nat := Kd.scalar (Value.float .f64) (fun _ => rfl)
theorem at_f64 {w : World} {A : Option Addr} {n : Nat} {xs : List Nat} (h : kF64.C w A n xs) (i : Int) (h0 : 0 ≤ i) (h1 : i < n) : ∃ ad, A = some ad ∧ w.cell? (ad.add i.toNat) = some (.float .f64 (rdOf 0 xs i)) :=
  ReadsOf.at_ (Kd.reads_of_C (enc := Value.float .f64) (d := 0) (h1 := fun _ => rfl) h) i h0 h1
theorem heap_f64 : Kd.Heap kF64 := ⟨fun _ h => h⟩
@[go_sem] theorem run_store_float (P : Program) (w : World) (a : Addr) (k : FloatKind) (q : Nat) (m : Mode) : (store a (.float k q) m).run P w = stored P w a (.float k q) m := run_store P w a _ m rfl
end Go.Proofs.YtabfehcpcjcomaaDoorW.PrintLast
