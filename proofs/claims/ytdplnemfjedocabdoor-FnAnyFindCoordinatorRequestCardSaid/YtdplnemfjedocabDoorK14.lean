/-
  PLAIN LAWS AND CONTRACTS of messages, part 14 of 14: how readers and writers are printed, what they do, what the reference writes, and that what is written is read as the same. Nothing of a statement stands here.
-/
import Derived.Test.YtdplnemfjedocabDoorK1
import Derived.Test.YtdplnemfjedocabDoorK2

namespace Go.Proofs.YtdplnemfjedocabDoor.Kx
def wtU:List (UInt32 × Bs)->Nat
 | []=>0
 | p :: r=>1 + p.2.length + wtU r
mutual
def Tr.wt:Tr->Nat
 | .mk _ s _ l u=>1 + s.length + wtL l + wtU u
def wtL:List Tr->Nat
 | []=>0
 | t :: r=>t.wt + wtL r
end
end Go.Proofs.YtdplnemfjedocabDoor.Kx
