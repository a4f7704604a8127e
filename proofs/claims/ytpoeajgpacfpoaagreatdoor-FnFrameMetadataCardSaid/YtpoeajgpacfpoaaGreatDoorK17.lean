/-
  PLAIN LAWS AND CONTRACTS of messages, part 17.
-/

namespace Go.Proofs.YtpoeajgpacfpoaaGreatDoor.Kx
open Go
section
open Go
set_option maxRecDepth 100000
structure KE where
 fK:Nat
 fB:Nat
 fA:Nat
 fN:Nat
 fRd:Nat
 fAp:Nat
 fDf:Nat
 tM:Nat
 tE:Nat
 most:Int
end
end Go.Proofs.YtpoeajgpacfpoaaGreatDoor.Kx