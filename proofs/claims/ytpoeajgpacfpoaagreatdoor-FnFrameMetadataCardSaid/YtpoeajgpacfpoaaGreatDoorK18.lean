/-
  PLAIN LAWS AND CONTRACTS of messages, part 18.
-/
import Derived.Test.YtpoeajgpacfpoaaGreatDoorK8

namespace Go.Proofs.YtpoeajgpacfpoaaGreatDoor.Kx
open Go
section
open Go
set_option maxRecDepth 4000
def FK (S:SN):List Oper:=[mk (some 2) (.box S.tF (tm 0)),mk (some 3) (.box S.tT (tm 1)),mk (some 4) (.assign (.const (.bool false)))]
def FJ (S:SN):List Oper:=[mk (some 9) (.fieldAddr S.tF (tm 2) 0),mk (some 10) (.load S.tInt (tm 9))]
def FI (S:SN):List Oper:=[mk (some 12) (.binOp .eql S.tInt (tm 10) (ki .i64 0) 0),mk (some 11) (.assign (tm 12))]
def FH (S:SN):List Oper:=[mk (some 13) (.fieldAddr S.tT (tm 3) 0),mk (some 14) (.load S.tI64 (tm 13)),mk (some 15) (.binOp .and S.tI64 (tm 14) (ki .i64 1) 0),mk (some 16) (.fieldAddr S.tF (tm 2) 5),mk (some 17) (.load S.tI64 (tm 16)),mk (some 18) (.binOp .eql S.tI64 (tm 15) (tm 17) 0),mk (some 4) (.assign (tm 18))]
def FG (S:SN):List Oper:=[mk (some 20) (.binOp .eql S.tInt (tm 10) (ki .i64 7) 0),mk (some 19) (.assign (tm 20))]
def FE (S:SN):List Oper:=[mk (some 21) (.fieldAddr S.tT (tm 3) 1),mk (some 22) (.load S.tSl (tm 21)),bi (some 23) .len [(tm 22)] [S.tSl] S.tInt,mk (some 24) (.move (ki .i64 0))]
def FD (S:SN):List Oper:=[mk (some 25) (.binOp .lss S.tInt (tm 24) (tm 23) 0)]
def FC (S:SN):List Oper:=[mk (some 26) (.move (tm 24)),mk (some 27) (.indexAddr S.tSl (tm 22) (tm 24)),mk (some 28) (.load S.tU8 (tm 27)),mk (some 5) (.assign (tm 26)),mk (some 6) (.assign (tm 28))]
def FB (S:SN):List Oper:=[mk (some 29) (.move (tm 5)),mk (some 30) (.binOp .lss S.tInt (tm 29) (ki .i64 16) 0),mk (some 31) (.move (tm 30)),gd 32 (.move (tm 6)) 2 true,gd 33 (.binOp .neq S.tU8 (tm 32) (ki .u8 0) 0) 2 true,mk (some 34) (.pick (tm 31) (tm 33) (.const (.bool false)))]
def FA (_S:SN):List Oper:=[mk (some 4) (.assign (.const (.bool false)))]
def Cy (S:SN):List Oper:=[mk (some 35) (.binOp .add S.tInt (tm 24) (ki .i64 1) 0),mk (some 24) (.move (tm 35))]
def Cw (_S:SN):List Oper:=[mk (some 4) (.assign (.const (.bool true)))]
def Cv (S:SN):List Oper:=[mk (some 37) (.binOp .eql S.tInt (tm 10) (ki .i64 8) 0),mk (some 36) (.assign (tm 37))]
def Cu (S:SN):List Oper:=[mk (some 38) (.binOp .eql S.tInt (tm 10) (ki .i64 9) 0),mk (some 36) (.assign (tm 38))]
def Ct (S:SN):List Oper:=[mk (some 39) (.fieldAddr S.tF (tm 2) 3),mk (some 40) (.load S.tInt (tm 39)),mk (some 41) (.binOp .geq S.tInt (tm 40) (ki .i64 0) 0)]
def Cs (S:SN):List Oper:=[mk (some 42) (.fieldAddr S.tT (tm 3) 2),mk (some 43) (.load S.tB (tm 42)),mk (some 4) (.assign (tm 43))]
def Cr (S:SN):List Oper:=[mk (some 44) (.fieldAddr S.tT (tm 3) 1),mk (some 45) (.load S.tSl (tm 44)),bi (some 46) .len [(tm 45)] [S.tSl] S.tInt,mk (some 47) (.binOp .eql S.tInt (tm 46) (ki .i64 0) 0),mk (some 4) (.assign (tm 47))]
def Cq (S:SN):List Oper:=[mk (some 49) (.binOp .eql S.tInt (tm 10) (ki .i64 11) 0),mk (some 48) (.assign (tm 49))]
def Cp (S:SN):List Oper:=[mk (some 50) (.fieldAddr S.tT (tm 3) 3),mk (some 51) (.load S.tTs (tm 50)),bi (some 52) .len [(tm 51)] [S.tTs] S.tInt,mk (some 53) (.binOp .eql S.tInt (tm 52) (ki .i64 0) 0),mk (some 4) (.assign (tm 53))]
def Co (S:SN):List Oper:=[mk (some 55) (.binOp .eql S.tInt (tm 10) (ki .i64 10) 0),mk (some 54) (.assign (tm 55))]
def Cn (S:SN):List Oper:=[mk (some 56) (.fieldAddr S.tF (tm 2) 7),mk (some 57) (.load S.tFs (tm 56)),bi (some 58) .len [(tm 57)] [S.tFs] S.tInt,mk (some 59) (.move (ki .i64 0))]
def Cm (S:SN):List Oper:=[mk (some 60) (.binOp .lss S.tInt (tm 59) (tm 58) 0)]
def Cl (S:SN):List Oper:=[mk (some 61) (.move (tm 59)),mk (some 62) (.indexAddr S.tFs (tm 57) (tm 59)),mk (some 63) (.load S.tF (tm 62)),mk (some 8) (.alloc S.tF),mk (some 7) (.assign (tm 61)),mk none (.store S.tF (tm 8) (tm 63))]
def Ck (S:SN):List Oper:=[mk (some 64) (.load S.tF (tm 8)),mk (some 65) (.load S.tT (tm 3)),mk (some 66) (.move (tm 7)),cl (some 67) S.fAt [(tm 65),(tm 66)],cl (some 68) S.fUsual [(tm 64),(tm 67)],mk (some 69) (.unOp .not S.tB (tm 68))]
def Cj (_S:SN):List Oper:=[mk (some 4) (.assign (.const (.bool false)))]
def Ci (S:SN):List Oper:=[mk (some 70) (.binOp .add S.tInt (tm 59) (ki .i64 1) 0),mk (some 59) (.move (tm 70))]
def Ch (S:SN):List Oper:=[mk (some 71) (.fieldAddr S.tF (tm 2) 7),mk (some 72) (.load S.tFs (tm 71)),mk (some 73) (.fieldAddr S.tT (tm 3) 4),mk (some 74) (.load S.tGs (tm 73)),cl (some 75) S.fUnk [(tm 72),(tm 74)],bi (some 76) .len [(tm 75)] [S.tGs] S.tInt,mk (some 77) (.binOp .eql S.tInt (tm 76) (ki .i64 0) 0),mk (some 4) (.assign (tm 77))]
def Cg (S:SN):List Oper:=[mk (some 78) (.fieldAddr S.tT (tm 3) 0),mk (some 79) (.load S.tI64 (tm 78)),mk (some 80) (.fieldAddr S.tF (tm 2) 0),mk (some 81) (.load S.tInt (tm 80)),cl (some 82) S.fWid [(tm 81)],cl (some 83) S.fFix [(tm 79),(tm 82)],mk (some 84) (.fieldAddr S.tF (tm 2) 5),mk (some 85) (.load S.tI64 (tm 84)),mk (some 86) (.fieldAddr S.tF (tm 2) 0),mk (some 87) (.load S.tInt (tm 86)),cl (some 88) S.fWid [(tm 87)],cl (some 89) S.fFix [(tm 85),(tm 88)],cl (some 90) S.fSame [(tm 83),(tm 89)],mk (some 4) (.assign (tm 90))]
def csUs (S:SN):Code:=
 (.seq (rg (FK S))
 (.seq (.seq (rg (FJ S))
  (.block 0 (.seq (rg (FI S))
  (.cond (tm 11) (.seq (rg (FH S))
   .ret)
  (.seq (rg (FG S))
  (.cond (tm 19) (.seq (.seq (rg (FE S))
    (.block 1 (.loop (.seq (rg (FD S))
    (.seq (.cond (tm 25) .skip
     (.exit 1))
    (.seq (.block 2 (.seq (rg (FC S))
     (.seq (rg (FB S))
     (.cond (tm 34) (.seq (rg (FA S))
      .ret)
     .skip))))
    (rg (Cy S))))))))
   (.seq (rg (Cw S))
   .ret))
  (.seq (.seq (rg (Cv S))
   (.cond (tm 36) .skip
   (rg (Cu S))))
  (.cond (tm 36) (.seq (.seq (rg (Ct S))
    (.cond (tm 41) (.seq (rg (Cs S))
     .ret)
    .skip))
   (.seq (rg (Cr S))
   .ret))
  (.seq (rg (Cq S))
  (.cond (tm 48) (.seq (rg (Cp S))
   .ret)
  (.seq (rg (Co S))
  (.cond (tm 54) (.seq (.seq (rg (Cn S))
    (.block 3 (.loop (.seq (rg (Cm S))
    (.seq (.cond (tm 60) .skip
     (.exit 3))
    (.seq (.block 4 (.seq (rg (Cl S))
     (.seq (.region 1 (Ck S).toArray true)
     (.cond (tm 69) (.seq (rg (Cj S))
      .ret)
     .skip))))
    (rg (Ci S))))))))
   (.seq (rg (Ch S))
   .ret))
  .skip))))))))))))
 (.seq (.region 1 (Cg S).toArray true)
 .ret)))
section
variable {P:Program} {S:SN}
end
end
end Go.Proofs.YtpoeajgpacfpoaaGreatDoor.Kx