/-
  PLAIN LAWS AND CONTRACTS of messages, part 5 of 18: how readers and writers are printed, what they do, what the reference writes, and that what is written is read as the same. Nothing of a statement stands here.
-/
import Derived.Test.YtbgklecbmhaadaaK1

namespace Go.Proofs.Ytbgklecbmhaadaa.Kx
open Go
section
variable {P:Program} {g:G} {av:PF->Bool} {fl:Bool} {D:Nat->Option (List (Nat × Value))}
theorem qc_.inner {R B p:Nat} {w w1 w2:World} (h:qc_ (fun k=>k=R \/ k=B) w w1) (k:qc_ (fun k=>k=R \/ k=p) w1 w2) (hp:w.heap.size<=p):qc_ (fun k=>k=R \/ k=B) w w2:=
 ⟨k.os.trans h.os,k.tape.trans h.tape,k.output.trans h.output,Nat.le_trans h.size k.size,fun q hq hx=>by
  rw [k.block q (Nat.lt_of_lt_of_le hq h.size) (fun hh=>by rcases hh with hh | hh;exact hx (.inl hh);omega),h.block q hq hx]⟩
end
end Go.Proofs.Ytbgklecbmhaadaa.Kx
