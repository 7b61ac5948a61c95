/- The contracts of the reference's Pair, Sum, Difference, Product, Quotient and Remainder. -/
import Derived.Test.YtbkkblphaohgkaaSpec4
import Derived.Deep.QuietTactic
import Derived.BigQuiet
namespace Go.Proofs.Ytbkkblphaohgkaa
open Go.RowKit
set_option linter.unusedVariables false

theorem bitI_one (c : Bool) : (bitI c == 1) = c := by cases c <;> rfl
theorem quiet_same {P : Program} {f : FuncId} {args : Array Value} {w : World} {n : Nat} {v : Value} (h : Calls P f args (w.drewN n) fun e w' => e = .returned v ∧ w.drewN n = w') :
    Calls P f args (w.drewN n) fun e w'' => e = .returned v ∧ ∃ m, w'' = w.drewN m := h.mono fun _ _ ⟨he, hm⟩ => ⟨he, n, hm.symm⟩
theorem Bits.drewN {w : World} {A : Option Addr} {N L : Nat} (h : Bits w A N L) (n : Nat) : Bits (w.drewN n) A N L := h
theorem below_drewN {B : Nat} {a w : World} (h : Below B a w) (n : Nat) : Below B a (w.drewN n) := ⟨h.os, h.tape, h.output, h.size, h.block⟩
end Go.Proofs.Ytbkkblphaohgkaa
