/-
  PLAIN LAWS AND CONTRACTS of messages, part 19.
-/
import Derived.Test.YtpoeajgpacfpoaaGreatDoorK12
import Derived.Test.YtpoeajgpacfpoaaGreatDoorK13

namespace Go.Proofs.YtpoeajgpacfpoaaGreatDoor.Kx
open Go
section
open Go
set_option maxRecDepth 100000
structure FN where
 tId:Nat
 tStr:Nat
 tI32:Nat
 tI16:Nat
 tErr:Nat
 tM:Nat
 tMs:Nat
 tRq:Nat
 tFm:Nat
 tFr:Nat
 tFo:Nat
 tFn:Nat
 tOpt:Nat
 tOpts:Nat
 tPs:Nat
 fZ1:Nat
 fId:Nat
 fMax:Nat
 fVer:Nat
 fMsg:Nat
 fFM:Nat
 fFr:Nat
 fFl:Nat
 fNp:Nat
 fSv:Nat
 fRf:Nat
 fFrd:Nat
 fNew:Nat
 fCid:Nat
 fCl:Nat
 fAp:Nat
 fApp:Nat
 fA16:Nat
 fA32:Nat
 fANS:Nat
 fKey:Nat
 fGv:Nat
 fIf:Nat
 fAt:Nat
def GM (_S:SN)(N:FN):List Oper:=[mk (some 1) (.box N.tId (tm 0)),mk (some 2) (.assign (.const (.bool false)))]
def GL (S:SN)(N:FN):List Oper:=[mk (some 3) (.fieldAddr N.tId (tm 1) 1),mk (some 4) (.load N.tStr (tm 3)),bi (some 5) .len [(tm 4)] [N.tStr] S.tInt,mk (some 6) (.binOp .gtr S.tInt (tm 5) (ki .i64 2147483647) 0)]
def GK (_S:SN)(_N:FN):List Oper:=[mk (some 2) (.assign (.const (.bool false)))]
def GJ (_S:SN)(_N:FN):List Oper:=[mk (some 2) (.assign (.const (.bool true)))]
def cFZ1 (S:SN)(N:FN):Code:=
 (.seq (rg (GM S N))
 (.seq (.seq (rg (GL S N))
  (.cond (tm 6) (.seq (rg (GK S N))
   .ret)
  .skip))
 (.seq (rg (GJ S N))
 .ret)))
def GQ (_S:SN)(N:FN):List Oper:=[mk (some 1) (.box N.tId (tm 0)),mk (some 2) (.assign (.const aF)),mk (some 3) (.assign (.const (.bool false)))]
def GP (S:SN)(N:FN):List Oper:=[mk (some 4) (.fieldAddr N.tId (tm 1) 1),mk (some 5) (.load N.tStr (tm 4)),mk (some 6) (.convert N.tStr S.tSl (tm 5)),mk (some 7) (.fieldAddr N.tId (tm 1) 1),mk (some 8) (.load N.tStr (tm 7)),bi (some 9) .len [(tm 8)] [N.tStr] S.tInt,mk (some 10) (.binOp .leq S.tInt (tm 9) (ki .i64 32767) 0),mk (some 2) (.assign (tm 6)),mk (some 3) (.assign (tm 10))]
def cFId (S:SN)(N:FN):Code:=
 (.seq (rg (GQ S N))
 (.seq (.region 6 (GP S N).toArray true)
 .ret))
def Hu (_S:SN)(N:FN):List Oper:=[mk (some 4) (.box N.tId (tm 0)),mk (some 8) (.assign (.const aF)),mk (some 9) (.assign (.const (.bool false)))]
def Ht (_S:SN)(N:FN):List Oper:=[cl (some 11) N.fNp [],mk (some 10) (.assign (tm 11))]
def Hs (_S:SN)(N:FN):List Oper:=[mk (some 12) (.move (tm 10)),mk (some 13) (.move (tm 2)),cl (some 14) N.fSv [(tm 12),(tm 13)]]
def Hr (S:SN)(N:FN):List Oper:=[mk (some 15) (.move (tm 10)),mk (some 16) (.move (tm 3)),bi (some 17) .append [(.const aF),(tm 16)] [S.tSl,S.tSl] S.tSl,cl (some 18) N.fRf [(tm 15),(tm 17)],mk (some 19) (.binOp .neq N.tErr (tm 18) (.const .nilIface) 0)]
def Hq (_S:SN)(_N:FN):List Oper:=[mk (some 8) (.assign (.const aF)),mk (some 9) (.assign (.const (.bool false)))]
def Hp (_S:SN)(N:FN):List Oper:=[mk (some 20) (.load N.tId (tm 4)),mk (some 21) (.move (tm 10)),mk (some 22) (.makeInterface N.tM (tm 21)),mk (some 23) (.move (tm 1)),cl (some 24) N.fFrd [(.const aF),(tm 20),(tm 22),(tm 23)],mk (some 8) (.assign (tm 24)),mk (some 9) (.assign (.const (.bool true)))]
def cFFM (S:SN)(N:FN):Code:=
 (.seq (rg (Hu S N))
 (.seq (rg (Ht S N))
 (.seq (rg (Hs S N))
 (.seq (.seq (rg (Hr S N))
  (.cond (tm 19) (.seq (rg (Hq S N))
   .ret)
  .skip))
 (.seq (rg (Hp S N))
 .ret)))))
def He (_S:SN)(_N:FN):List Oper:=[mk (some 12) (.assign (.const aF))]
def Hc (S:SN)(N:FN):List Oper:=[mk (some 14) (.move (tm 0)),mk (some 15) (.convert N.tI16 S.tI64 (tm 14)),cl (some 16) S.fFix [(tm 15),(ki .i64 2)],mk (some 17) (.move (tm 1)),mk (some 18) (.convert N.tI16 S.tI64 (tm 17)),cl (some 19) S.fFix [(tm 18),(ki .i64 2)],bi (some 20) .append [(tm 16),(tm 19)] [S.tSl,S.tSl] S.tSl,mk (some 13) (.assign (tm 20))]
def Hb (S:SN)(N:FN):List Oper:=[mk (some 21) (.move (tm 13)),mk (some 22) (.move (tm 2)),mk (some 23) (.convert N.tI32 S.tI64 (tm 22)),cl (some 24) S.fFix [(tm 23),(ki .i64 4)],bi (some 25) .append [(tm 21),(tm 24)] [S.tSl,S.tSl] S.tSl,mk (some 13) (.assign (tm 25))]
def Ha (_S:SN)(_N:FN):List Oper:=[mk (some 26) (.move (tm 3))]
def GZ (S:SN)(_N:FN):List Oper:=[mk (some 27) (.move (tm 13)),mk (some 28) (.move (tm 4)),bi (some 29) .len [(tm 28)] [S.tSl] S.tInt,cl (some 30) S.fFix [(tm 29),(ki .i64 2)],bi (some 31) .append [(tm 27),(tm 30)] [S.tSl,S.tSl] S.tSl,mk (some 32) (.move (tm 4)),bi (some 33) .append [(tm 31),(tm 32)] [S.tSl,S.tSl] S.tSl,mk (some 13) (.assign (tm 33))]
def GY (S:SN)(_N:FN):List Oper:=[mk (some 34) (.move (tm 13)),cl (some 35) S.fFix [(ki .i64 (-1)),(ki .i64 2)],bi (some 36) .append [(tm 34),(tm 35)] [S.tSl,S.tSl] S.tSl,mk (some 13) (.assign (tm 36))]
def GX (_S:SN)(N:FN):List Oper:=[mk (some 37) (.move (tm 0)),mk (some 38) (.move (tm 1)),cl (some 39) N.fFl [(tm 37),(tm 38)]]
def GV (S:SN)(_N:FN):List Oper:=[mk (some 40) (.move (tm 13)),mk (some 41) (.buildSlice S.tSl 1 #[(0,(ki .u8 0))]),bi (some 42) .append [(tm 40),(tm 41)] [S.tSl,S.tSl] S.tSl,mk (some 13) (.assign (tm 42))]
def GU (S:SN)(_N:FN):List Oper:=[mk (some 43) (.move (tm 13)),mk (some 44) (.move (tm 5)),bi (some 45) .append [(tm 43),(tm 44)] [S.tSl,S.tSl] S.tSl,mk (some 13) (.assign (tm 45))]
def GT (S:SN)(_N:FN):List Oper:=[mk (some 46) (.move (tm 13)),bi (some 47) .len [(tm 46)] [S.tSl] S.tInt,cl (some 48) S.fFix [(tm 47),(ki .i64 4)],mk (some 49) (.move (tm 13)),bi (some 50) .append [(tm 48),(tm 49)] [S.tSl,S.tSl] S.tSl,mk (some 12) (.assign (tm 50))]
def cFFr (S:SN)(N:FN):Code:=
 (.seq (rg (He S N))
 (.seq (rg (Hc S N))
 (.seq (rg (Hb S N))
 (.seq (.seq (rg (Ha S N))
  (.cond (tm 26) (rg (GZ S N))
  (rg (GY S N))))
 (.seq (.seq (rg (GX S N))
  (.cond (tm 39) (rg (GV S N))
  .skip))
 (.seq (rg (GU S N))
 (.seq (rg (GT S N))
 .ret)))))))
def Ho (_S:SN)(_N:FN):List Oper:=[mk (some 4) (.assign (.const (.bool false)))]
def Hn (_S:SN)(_N:FN):List Oper:=[mk (some 5) (.move (tm 0))]
def Hm (_S:SN)(N:FN):List Oper:=[mk (some 7) (.binOp .eql N.tI16 (tm 5) (ki .i16 17) 0),mk (some 6) (.assign (tm 7))]
def Hl (_S:SN)(N:FN):List Oper:=[mk (some 8) (.binOp .eql N.tI16 (tm 5) (ki .i16 47) 0),mk (some 6) (.assign (tm 8))]
def Hk (_S:SN)(_N:FN):List Oper:=[mk (some 4) (.assign (.const (.bool false)))]
def Hj (_S:SN)(N:FN):List Oper:=[mk (some 10) (.binOp .eql N.tI16 (tm 5) (ki .i16 27) 0),mk (some 9) (.assign (tm 10))]
def Hi (_S:SN)(N:FN):List Oper:=[mk (some 11) (.binOp .eql N.tI16 (tm 5) (ki .i16 44) 0),mk (some 9) (.assign (tm 11))]
def Hh (_S:SN)(N:FN):List Oper:=[mk (some 12) (.binOp .eql N.tI16 (tm 5) (ki .i16 48) 0),mk (some 9) (.assign (tm 12))]
def Hg (_S:SN)(N:FN):List Oper:=[mk (some 13) (.binOp .eql N.tI16 (tm 5) (ki .i16 49) 0),mk (some 9) (.assign (tm 13))]
def Hf (_S:SN)(N:FN):List Oper:=[mk (some 14) (.binOp .eql N.tI16 (tm 5) (ki .i16 53) 0),mk (some 9) (.assign (tm 14))]
def Ej (_S:SN)(N:FN):List Oper:=[mk (some 15) (.binOp .eql N.tI16 (tm 5) (ki .i16 54) 0),mk (some 9) (.assign (tm 15))]
def Ei (_S:SN)(N:FN):List Oper:=[mk (some 16) (.move (tm 1)),mk (some 17) (.binOp .geq N.tI16 (tm 16) (ki .i16 1) 0),mk (some 4) (.assign (tm 17))]
def Eh (_S:SN)(N:FN):List Oper:=[mk (some 19) (.binOp .eql N.tI16 (tm 5) (ki .i16 5) 0),mk (some 18) (.assign (tm 19))]
def Eg (_S:SN)(N:FN):List Oper:=[mk (some 20) (.binOp .eql N.tI16 (tm 5) (ki .i16 21) 0),mk (some 18) (.assign (tm 20))]
def Ef (_S:SN)(N:FN):List Oper:=[mk (some 21) (.binOp .eql N.tI16 (tm 5) (ki .i16 22) 0),mk (some 18) (.assign (tm 21))]
def Ee (_S:SN)(N:FN):List Oper:=[mk (some 22) (.binOp .eql N.tI16 (tm 5) (ki .i16 29) 0),mk (some 18) (.assign (tm 22))]
def Ed (_S:SN)(N:FN):List Oper:=[mk (some 23) (.binOp .eql N.tI16 (tm 5) (ki .i16 30) 0),mk (some 18) (.assign (tm 23))]
def Ec (_S:SN)(N:FN):List Oper:=[mk (some 24) (.binOp .eql N.tI16 (tm 5) (ki .i16 31) 0),mk (some 18) (.assign (tm 24))]
def Eb (_S:SN)(N:FN):List Oper:=[mk (some 25) (.binOp .eql N.tI16 (tm 5) (ki .i16 33) 0),mk (some 18) (.assign (tm 25))]
def Ea (_S:SN)(N:FN):List Oper:=[mk (some 26) (.binOp .eql N.tI16 (tm 5) (ki .i16 34) 0),mk (some 18) (.assign (tm 26))]
def DZ (_S:SN)(N:FN):List Oper:=[mk (some 27) (.binOp .eql N.tI16 (tm 5) (ki .i16 35) 0),mk (some 18) (.assign (tm 27))]
def DY (_S:SN)(N:FN):List Oper:=[mk (some 28) (.binOp .eql N.tI16 (tm 5) (ki .i16 36) 0),mk (some 18) (.assign (tm 28))]
def DX (_S:SN)(N:FN):List Oper:=[mk (some 29) (.binOp .eql N.tI16 (tm 5) (ki .i16 37) 0),mk (some 18) (.assign (tm 29))]
def DW (_S:SN)(N:FN):List Oper:=[mk (some 30) (.binOp .eql N.tI16 (tm 5) (ki .i16 38) 0),mk (some 18) (.assign (tm 30))]
def DV (_S:SN)(N:FN):List Oper:=[mk (some 31) (.binOp .eql N.tI16 (tm 5) (ki .i16 39) 0),mk (some 18) (.assign (tm 31))]
def DU (_S:SN)(N:FN):List Oper:=[mk (some 32) (.binOp .eql N.tI16 (tm 5) (ki .i16 40) 0),mk (some 18) (.assign (tm 32))]
def DT (_S:SN)(N:FN):List Oper:=[mk (some 33) (.binOp .eql N.tI16 (tm 5) (ki .i16 41) 0),mk (some 18) (.assign (tm 33))]
def DS (_S:SN)(N:FN):List Oper:=[mk (some 34) (.binOp .eql N.tI16 (tm 5) (ki .i16 42) 0),mk (some 18) (.assign (tm 34))]
def DR (_S:SN)(N:FN):List Oper:=[mk (some 35) (.binOp .eql N.tI16 (tm 5) (ki .i16 43) 0),mk (some 18) (.assign (tm 35))]
def DQ (_S:SN)(N:FN):List Oper:=[mk (some 36) (.move (tm 1)),mk (some 37) (.binOp .geq N.tI16 (tm 36) (ki .i16 2) 0),mk (some 4) (.assign (tm 37))]
def DP (_S:SN)(N:FN):List Oper:=[mk (some 39) (.binOp .eql N.tI16 (tm 5) (ki .i16 7) 0),mk (some 38) (.assign (tm 39))]
def DO (_S:SN)(N:FN):List Oper:=[mk (some 40) (.binOp .eql N.tI16 (tm 5) (ki .i16 10) 0),mk (some 38) (.assign (tm 40))]
def DN (_S:SN)(N:FN):List Oper:=[mk (some 41) (.binOp .eql N.tI16 (tm 5) (ki .i16 16) 0),mk (some 38) (.assign (tm 41))]
def DM (_S:SN)(N:FN):List Oper:=[mk (some 42) (.binOp .eql N.tI16 (tm 5) (ki .i16 18) 0),mk (some 38) (.assign (tm 42))]
def DL (_S:SN)(N:FN):List Oper:=[mk (some 43) (.binOp .eql N.tI16 (tm 5) (ki .i16 24) 0),mk (some 38) (.assign (tm 43))]
def DK (_S:SN)(N:FN):List Oper:=[mk (some 44) (.binOp .eql N.tI16 (tm 5) (ki .i16 25) 0),mk (some 38) (.assign (tm 44))]
def DJ (_S:SN)(N:FN):List Oper:=[mk (some 45) (.binOp .eql N.tI16 (tm 5) (ki .i16 26) 0),mk (some 38) (.assign (tm 45))]
def DH (_S:SN)(N:FN):List Oper:=[mk (some 46) (.binOp .eql N.tI16 (tm 5) (ki .i16 28) 0),mk (some 38) (.assign (tm 46))]
def DG (_S:SN)(N:FN):List Oper:=[mk (some 47) (.move (tm 1)),mk (some 48) (.binOp .geq N.tI16 (tm 47) (ki .i16 3) 0),mk (some 4) (.assign (tm 48))]
def DF (_S:SN)(N:FN):List Oper:=[mk (some 50) (.binOp .eql N.tI16 (tm 5) (ki .i16 4) 0),mk (some 49) (.assign (tm 50))]
def DE (_S:SN)(N:FN):List Oper:=[mk (some 51) (.binOp .eql N.tI16 (tm 5) (ki .i16 12) 0),mk (some 49) (.assign (tm 51))]
def DD (_S:SN)(N:FN):List Oper:=[mk (some 52) (.binOp .eql N.tI16 (tm 5) (ki .i16 13) 0),mk (some 49) (.assign (tm 52))]
def DC (_S:SN)(N:FN):List Oper:=[mk (some 53) (.binOp .eql N.tI16 (tm 5) (ki .i16 14) 0),mk (some 49) (.assign (tm 53))]
def DB (_S:SN)(N:FN):List Oper:=[mk (some 54) (.binOp .eql N.tI16 (tm 5) (ki .i16 20) 0),mk (some 49) (.assign (tm 54))]
def DA (_S:SN)(N:FN):List Oper:=[mk (some 55) (.binOp .eql N.tI16 (tm 5) (ki .i16 23) 0),mk (some 49) (.assign (tm 55))]
def D9 (_S:SN)(N:FN):List Oper:=[mk (some 56) (.binOp .eql N.tI16 (tm 5) (ki .i16 32) 0),mk (some 49) (.assign (tm 56))]
def D8 (_S:SN)(N:FN):List Oper:=[mk (some 57) (.move (tm 1)),mk (some 58) (.binOp .geq N.tI16 (tm 57) (ki .i16 4) 0),mk (some 4) (.assign (tm 58))]
def D7 (_S:SN)(N:FN):List Oper:=[mk (some 60) (.binOp .eql N.tI16 (tm 5) (ki .i16 15) 0),mk (some 59) (.assign (tm 60))]
def D6 (_S:SN)(N:FN):List Oper:=[mk (some 61) (.binOp .eql N.tI16 (tm 5) (ki .i16 19) 0),mk (some 59) (.assign (tm 61))]
def D5 (_S:SN)(N:FN):List Oper:=[mk (some 62) (.move (tm 1)),mk (some 63) (.binOp .geq N.tI16 (tm 62) (ki .i16 5) 0),mk (some 4) (.assign (tm 63))]
def D4 (_S:SN)(N:FN):List Oper:=[mk (some 65) (.binOp .eql N.tI16 (tm 5) (ki .i16 2) 0),mk (some 64) (.assign (tm 65))]
def D3 (_S:SN)(N:FN):List Oper:=[mk (some 66) (.binOp .eql N.tI16 (tm 5) (ki .i16 6) 0),mk (some 64) (.assign (tm 66))]
def D2 (_S:SN)(N:FN):List Oper:=[mk (some 67) (.binOp .eql N.tI16 (tm 5) (ki .i16 9) 0),mk (some 64) (.assign (tm 67))]
def D1 (_S:SN)(N:FN):List Oper:=[mk (some 68) (.binOp .eql N.tI16 (tm 5) (ki .i16 11) 0),mk (some 64) (.assign (tm 68))]
def Dz (_S:SN)(N:FN):List Oper:=[mk (some 69) (.move (tm 1)),mk (some 70) (.binOp .geq N.tI16 (tm 69) (ki .i16 6) 0),mk (some 4) (.assign (tm 70))]
def Dy (_S:SN)(N:FN):List Oper:=[mk (some 72) (.binOp .eql N.tI16 (tm 5) (ki .i16 8) 0),mk (some 71) (.assign (tm 72))]
def Dx (_S:SN)(N:FN):List Oper:=[mk (some 73) (.move (tm 1)),mk (some 74) (.binOp .geq N.tI16 (tm 73) (ki .i16 8) 0),mk (some 4) (.assign (tm 74))]
def Dw (_S:SN)(N:FN):List Oper:=[mk (some 76) (.binOp .eql N.tI16 (tm 5) (ki .i16 0) 0),mk (some 75) (.assign (tm 76))]
def Dv (_S:SN)(N:FN):List Oper:=[mk (some 77) (.binOp .eql N.tI16 (tm 5) (ki .i16 3) 0),mk (some 75) (.assign (tm 77))]
def Du (_S:SN)(N:FN):List Oper:=[mk (some 78) (.move (tm 1)),mk (some 79) (.binOp .geq N.tI16 (tm 78) (ki .i16 9) 0),mk (some 4) (.assign (tm 79))]
def Dt (_S:SN)(N:FN):List Oper:=[mk (some 81) (.binOp .eql N.tI16 (tm 5) (ki .i16 1) 0),mk (some 80) (.assign (tm 81))]
def Ds (_S:SN)(N:FN):List Oper:=[mk (some 82) (.move (tm 1)),mk (some 83) (.binOp .geq N.tI16 (tm 82) (ki .i16 12) 0),mk (some 4) (.assign (tm 83))]
def Dr (_S:SN)(_N:FN):List Oper:=[mk (some 4) (.assign (.const (.bool true)))]
def cFFl (S:SN)(N:FN):Code:=
 (.seq (rg (Ho S N))
 (.seq (.seq (rg (Hn S N))
  (.block 0 (.seq (.seq (rg (Hm S N))
   (.cond (tm 6) .skip
   (rg (Hl S N))))
  (.cond (tm 6) (.seq (rg (Hk S N))
   .ret)
  (.seq (.seq (rg (Hj S N))
   (.cond (tm 9) .skip
   (.seq (rg (Hi S N))
   (.cond (tm 9) .skip
   (.seq (rg (Hh S N))
   (.cond (tm 9) .skip
   (.seq (rg (Hg S N))
   (.cond (tm 9) .skip
   (.seq (rg (Hf S N))
   (.cond (tm 9) .skip
   (rg (Ej S N))))))))))))
  (.cond (tm 9) (.seq (rg (Ei S N))
   .ret)
  (.seq (.seq (rg (Eh S N))
   (.cond (tm 18) .skip
   (.seq (rg (Eg S N))
   (.cond (tm 18) .skip
   (.seq (rg (Ef S N))
   (.cond (tm 18) .skip
   (.seq (rg (Ee S N))
   (.cond (tm 18) .skip
   (.seq (rg (Ed S N))
   (.cond (tm 18) .skip
   (.seq (rg (Ec S N))
   (.cond (tm 18) .skip
   (.seq (rg (Eb S N))
   (.cond (tm 18) .skip
   (.seq (rg (Ea S N))
   (.cond (tm 18) .skip
   (.seq (rg (DZ S N))
   (.cond (tm 18) .skip
   (.seq (rg (DY S N))
   (.cond (tm 18) .skip
   (.seq (rg (DX S N))
   (.cond (tm 18) .skip
   (.seq (rg (DW S N))
   (.cond (tm 18) .skip
   (.seq (rg (DV S N))
   (.cond (tm 18) .skip
   (.seq (rg (DU S N))
   (.cond (tm 18) .skip
   (.seq (rg (DT S N))
   (.cond (tm 18) .skip
   (.seq (rg (DS S N))
   (.cond (tm 18) .skip
   (rg (DR S N))))))))))))))))))))))))))))))))))
  (.cond (tm 18) (.seq (rg (DQ S N))
   .ret)
  (.seq (.seq (rg (DP S N))
   (.cond (tm 38) .skip
   (.seq (rg (DO S N))
   (.cond (tm 38) .skip
   (.seq (rg (DN S N))
   (.cond (tm 38) .skip
   (.seq (rg (DM S N))
   (.cond (tm 38) .skip
   (.seq (rg (DL S N))
   (.cond (tm 38) .skip
   (.seq (rg (DK S N))
   (.cond (tm 38) .skip
   (.seq (rg (DJ S N))
   (.cond (tm 38) .skip
   (rg (DH S N))))))))))))))))
  (.cond (tm 38) (.seq (rg (DG S N))
   .ret)
  (.seq (.seq (rg (DF S N))
   (.cond (tm 49) .skip
   (.seq (rg (DE S N))
   (.cond (tm 49) .skip
   (.seq (rg (DD S N))
   (.cond (tm 49) .skip
   (.seq (rg (DC S N))
   (.cond (tm 49) .skip
   (.seq (rg (DB S N))
   (.cond (tm 49) .skip
   (.seq (rg (DA S N))
   (.cond (tm 49) .skip
   (rg (D9 S N))))))))))))))
  (.cond (tm 49) (.seq (rg (D8 S N))
   .ret)
  (.seq (.seq (rg (D7 S N))
   (.cond (tm 59) .skip
   (rg (D6 S N))))
  (.cond (tm 59) (.seq (rg (D5 S N))
   .ret)
  (.seq (.seq (rg (D4 S N))
   (.cond (tm 64) .skip
   (.seq (rg (D3 S N))
   (.cond (tm 64) .skip
   (.seq (rg (D2 S N))
   (.cond (tm 64) .skip
   (rg (D1 S N))))))))
  (.cond (tm 64) (.seq (rg (Dz S N))
   .ret)
  (.seq (rg (Dy S N))
  (.cond (tm 71) (.seq (rg (Dx S N))
   .ret)
  (.seq (.seq (rg (Dw S N))
   (.cond (tm 75) .skip
   (rg (Dv S N))))
  (.cond (tm 75) (.seq (rg (Du S N))
   .ret)
  (.seq (rg (Dt S N))
  (.cond (tm 80) (.seq (rg (Ds S N))
   .ret)
  .skip))))))))))))))))))))))
 (.seq (rg (Dr S N))
 .ret)))
def Dq (_S:SN)(N:FN):List Oper:=[mk (some 5) (.box N.tId (tm 1)),mk (some 8) (.assign (.const aF))]
def Dp (_S:SN)(N:FN):List Oper:=[cl (some 10) N.fNew [(.const aF)],mk (some 9) (.assign (tm 10))]
def Do (S:SN)(N:FN):List Oper:=[mk (some 11) (.fieldAddr N.tId (tm 5) 0),mk (some 12) (.load S.tB (tm 11))]
def Dn (_S:SN)(N:FN):List Oper:=[mk (some 13) (.fieldAddr N.tId (tm 5) 1),mk (some 14) (.load N.tStr (tm 13)),cl (some 15) N.fCid [(tm 14)],mk (some 16) (.buildSlice N.tOpts 1 #[(0,(tm 15))]),cl (some 17) N.fNew [(tm 16)],mk (some 9) (.assign (tm 17))]
def Dm (S:SN)(N:FN):List Oper:=[mk (some 18) (.move (tm 9)),mk (some 19) (.move (tm 0)),bi (some 20) .append [(.const aF),(tm 19)] [S.tSl,S.tSl] S.tSl,mk (some 21) (.move (tm 2)),mk (some 22) (.move (tm 3)),cl (some 23) N.fApp [(tm 18),(tm 20),(tm 21),(tm 22)],mk (some 8) (.assign (tm 23))]
def cFFrd (S:SN)(N:FN):Code:=
 (.seq (rg (Dq S N))
 (.seq (rg (Dp S N))
 (.seq (.seq (rg (Do S N))
  (.cond (tm 12) (rg (Dn S N))
  .skip))
 (.seq (rg (Dm S N))
 .ret))))
def CZ (_S:SN)(_N:FN):List Oper:=[mk (some 2) (.assign (.const (.pointer none)))]
def CY (_S:SN)(N:FN):List Oper:=[mk (some 6) (.alloc N.tFr),mk (some 3) (.assign (tm 6))]
def CX (S:SN)(N:FN):List Oper:=[mk (some 7) (.move (tm 0)),bi (some 8) .len [(tm 7)] [N.tOpts] S.tInt,mk (some 9) (.move (ki .i64 0))]
def CW (S:SN)(_N:FN):List Oper:=[mk (some 10) (.binOp .lss S.tInt (tm 9) (tm 8) 0)]
def CV (_S:SN)(N:FN):List Oper:=[mk (some 11) (.indexAddr N.tOpts (tm 7) (tm 9)),mk (some 12) (.load N.tOpt (tm 11)),mk (some 5) (.assign (tm 12))]
def CU (_S : SN) (_N : FN) : List Oper := [mk (some 13) (.move (tm 5)), mk (some 14) (.move (tm 3)), mk (some 15) (.call ⟨.invoke (tm 13) "pub-kmsg/pub/kmsg.apply", #[(tm 14)], #[]⟩)]
def CT (S:SN)(_N:FN):List Oper:=[mk (some 16) (.binOp .add S.tInt (tm 9) (ki .i64 1) 0),mk (some 9) (.move (tm 16))]
def CS (_S:SN)(_N:FN):List Oper:=[mk (some 17) (.move (tm 3)),mk (some 2) (.assign (tm 17))]
def cFNew (S:SN)(N:FN):Code:=
 (.seq (rg (CZ S N))
 (.seq (rg (CY S N))
 (.seq (.seq (rg (CX S N))
  (.block 0 (.loop (.seq (rg (CW S N))
  (.seq (.cond (tm 10) .skip
   (.exit 0))
  (.seq (.block 1 (.seq (rg (CV S N))
   (rg (CU S N))))
  (rg (CT S N))))))))
 (.seq (rg (CS S N))
 .ret))))
def Em (_S:SN)(N:FN):List Oper:=[mk (some 1) (.box N.tStr (tm 0)),mk (some 2) (.assign (.const .nilIface))]
def Ek (_S:SN)(N:FN):List Oper:=[mk (some 3) (.makeFunc (.func N.fCl) #[] #[(tm 1)]),mk (some 4) (.build N.tFo #[(0,(tm 3))]),mk (some 5) (.makeInterface N.tFo (tm 4)),mk (some 2) (.assign (tm 5))]
def cFCid (S:SN)(N:FN):Code:=
 (.seq (rg (Em S N))
 (.seq (rg (Ek S N))
 .ret))
def Hv (_S:SN)(N:FN):List Oper:=[mk (some 3) (.move (tm 0)),mk (some 4) (.nilCheck (tm 3)),mk (some 5) (.fieldAddr N.tFr (tm 4) 0),mk none (.store N.tPs (tm 5) (tm 1))]
def cFCl (S:SN)(N:FN):Code:=
 (rg (Hv S N))
def Hx (_S:SN)(N:FN):List Oper:=[mk (some 2) (.box N.tFo (tm 0))]
def Hw (_S:SN)(N:FN):List Oper:=[mk (some 4) (.fieldAddr N.tFo (tm 2) 0),mk (some 5) (.load N.tFn (tm 4)),mk (some 6) (.move (tm 1)),mk (some 7) (.call ⟨.value (tm 5),#[(tm 6)],#[]⟩)]
def cFAp (S:SN)(N:FN):Code:=
 (.seq (rg (Hx S N))
 (rg (Hw S N)))
def Ez (_S:SN)(_N:FN):List Oper:=[mk (some 8) (.assign (.const aF))]
def Ey (S:SN)(_N:FN):List Oper:=[mk (some 12) (.move (tm 1)),mk (some 13) (.buildSlice S.tSl 4 #[(0,(ki .u8 0)),(1,(ki .u8 0)),(2,(ki .u8 0)),(3,(ki .u8 0))]),bi (some 14) .append [(tm 12),(tm 13)] [S.tSl,S.tSl] S.tSl,mk (some 1) (.assign (tm 14))]
def Ex (_S : SN) (_N : FN) : List Oper := [mk (some 15) (.move (tm 2)), mk (some 16) (.call ⟨.invoke (tm 15) "Key", #[], #[]⟩), mk (some 9) (.assign (tm 16))]
def Ew (_S : SN) (_N : FN) : List Oper := [mk (some 17) (.move (tm 2)), mk (some 18) (.call ⟨.invoke (tm 17) "GetVersion", #[], #[]⟩), mk (some 10) (.assign (tm 18))]
def Eu (_S:SN)(N:FN):List Oper:=[mk (some 19) (.move (tm 1)),mk (some 20) (.move (tm 9)),cl (some 21) N.fA16 [(tm 19),(tm 20)],mk (some 1) (.assign (tm 21))]
def Et (_S:SN)(N:FN):List Oper:=[mk (some 22) (.move (tm 1)),mk (some 23) (.move (tm 10)),cl (some 24) N.fA16 [(tm 22),(tm 23)],mk (some 1) (.assign (tm 24))]
def Es (_S:SN)(N:FN):List Oper:=[mk (some 25) (.move (tm 1)),mk (some 26) (.move (tm 3)),cl (some 27) N.fA32 [(tm 25),(tm 26)],mk (some 1) (.assign (tm 27))]
def Er (_S:SN)(N:FN):List Oper:=[mk (some 28) (.move (tm 9)),mk (some 29) (.binOp .eql N.tI16 (tm 28) (ki .i16 7) 0),mk (some 30) (.move (tm 29)),gd 31 (.move (tm 10)) 2 true,gd 32 (.binOp .eql N.tI16 (tm 31) (ki .i16 0) 0) 2 true,mk (some 33) (.pick (tm 30) (tm 32) (.const (.bool false)))]
def Ep (_S:SN)(_N:FN):List Oper:=[mk (some 34) (.move (tm 1)),mk (some 8) (.assign (tm 34))]
def Eo (_S:SN)(N:FN):List Oper:=[mk (some 35) (.move (tm 1)),mk (some 36) (.move (tm 0)),mk (some 37) (.nilCheck (tm 36)),mk (some 38) (.fieldAddr N.tFr (tm 37) 0),mk (some 39) (.load N.tPs (tm 38)),cl (some 40) N.fANS [(tm 35),(tm 39)],mk (some 1) (.assign (tm 40))]
def A5 (_S : SN) (_N : FN) : List Oper := [mk (some 41) (.move (tm 2)), mk (some 42) (.call ⟨.invoke (tm 41) "IsFlexible", #[], #[]⟩)]
def A4 (_S:SN)(_N:FN):List Oper:=[mk (some 11) (.assign (ki .u8 0))]
def A3 (S:SN)(_N:FN):List Oper:=[mk (some 43) (.move (tm 1)),mk (some 44) (.move (tm 11)),mk (some 45) (.buildSlice S.tSl 1 #[(0,(tm 44))]),bi (some 46) .append [(tm 43),(tm 45)] [S.tSl,S.tSl] S.tSl,mk (some 1) (.assign (tm 46))]
def A2 (S:SN)(_N:FN):List Oper:=[mk (some 47) (.move (tm 11)),mk (some 48) (.binOp .neq S.tU8 (tm 47) (ki .u8 0) 0)]
def A1 (_S : SN) (_N : FN) : List Oper := [mk (some 49) (.move (tm 2)), mk (some 50) (.move (tm 1)), mk (some 51) (.call ⟨.invoke (tm 49) "AppendTo", #[(tm 50)], #[]⟩), mk (some 1) (.assign (tm 51))]
def A0 (S:SN)(N:FN):List Oper:=[mk (some 52) (.move (tm 1)),mk (some 53) (.slice S.tSl (tm 52) none (some (ki .i64 0)) none),mk (some 54) (.move (tm 1)),mk (some 55) (.slice S.tSl (tm 54) (some (ki .i64 4)) none none),bi (some 56) .len [(tm 55)] [S.tSl] S.tInt,mk (some 57) (.convert S.tInt N.tI32 (tm 56)),cl (some 58) N.fA32 [(tm 53),(tm 57)]]
def Az (_S:SN)(_N:FN):List Oper:=[mk (some 59) (.move (tm 1)),mk (some 8) (.assign (tm 59))]
def cFApp (S:SN)(N:FN):Code:=
 (.seq (rg (Ez S N))
 (.seq (rg (Ey S N))
 (.seq (rg (Ex S N))
 (.seq (rg (Ew S N))
 (.seq (rg (Eu S N))
 (.seq (rg (Et S N))
 (.seq (rg (Es S N))
 (.seq (.seq (rg (Er S N))
  (.cond (tm 33) (.seq (rg (Ep S N))
   .ret)
  .skip))
 (.seq (rg (Eo S N))
 (.seq (.seq (rg (A5 S N))
  (.cond (tm 42) (.seq (rg (A4 S N))
   (.seq (rg (A3 S N))
   (.seq (rg (A2 S N))
   (.cond (tm 48) .skip
   .skip))))
  .skip))
 (.seq (rg (A1 S N))
 (.seq (.region 1 (A0 S N).toArray true)
 (.seq (rg (Az S N))
 .ret)))))))))))))
def Dl (_S:SN)(_N:FN):List Oper:=[mk (some 2) (.assign (ki .i16 0))]
def Dk (_S:SN)(_N:FN):List Oper:=[mk (some 2) (.assign (ki .i16 3))]
def cFKey (S:SN)(N:FN):Code:=
 (.seq (rg (Dl S N))
 (.seq (rg (Dk S N))
 .ret))
def GS (_S:SN)(_N:FN):List Oper:=[mk (some 2) (.assign (ki .i16 0))]
def GR (_S:SN)(N:FN):List Oper:=[mk (some 3) (.move (tm 0)),mk (some 4) (.nilCheck (tm 3)),mk (some 5) (.fieldAddr N.tMs (tm 4) 0),mk (some 6) (.load N.tI16 (tm 5)),mk (some 2) (.assign (tm 6))]
def cFGv (S:SN)(N:FN):Code:=
 (.seq (rg (GS S N))
 (.seq (rg (GR S N))
 .ret))
def GO (_S:SN)(_N:FN):List Oper:=[mk (some 2) (.assign (.const (.bool false)))]
def GN (_S:SN)(N:FN):List Oper:=[mk (some 3) (.move (tm 0)),mk (some 4) (.nilCheck (tm 3)),mk (some 5) (.fieldAddr N.tMs (tm 4) 0),mk (some 6) (.load N.tI16 (tm 5)),mk (some 7) (.binOp .geq N.tI16 (tm 6) (ki .i16 9) 0),mk (some 2) (.assign (tm 7))]
def cFIf (S:SN)(N:FN):Code:=
 (.seq (rg (GO S N))
 (.seq (rg (GN S N))
 .ret))
def Dj (S:SN)(N:FN):List Oper:=[mk (some 5) (.box N.tId (tm 1)),mk (some 7) (.box S.tT (tm 3)),mk (some 8) (.assign (.const (.bool false)))]
def Di (S:SN)(N:FN):List Oper:=[mk (some 16) (.load N.tId (tm 5)),cl (some 17) N.fZ1 [(tm 16)],mk (some 18) (.unOp .not S.tB (tm 17)),mk (some 19) (.move (tm 18)),gd 20 (.load S.tT (tm 7)) 3 false,gd 21 (.call ⟨.value (.func S.fZ2),#[(tm 20)],#[]⟩) 3 false,gd 22 (.unOp .not S.tB (tm 21)) 3 false,mk (some 23) (.pick (tm 19) (.const (.bool true)) (tm 22))]
def Dh (_S:SN)(_N:FN):List Oper:=[mk (some 8) (.assign (.const (.bool true)))]
def Dg (_S:SN)(N:FN):List Oper:=[mk (some 25) (.load N.tId (tm 5)),cl (some 26) N.fId [(tm 25)],mk (some 24) (.move (tm 26)),mk (some 27) (.extract (tm 24) 0),mk (some 28) (.extract (tm 24) 1),mk (some 9) (.assign (tm 27)),mk (some 10) (.assign (tm 28))]
def Df (_S:SN)(N:FN):List Oper:=[cl (some 29) N.fMax [],mk (some 11) (.assign (tm 29))]
def De (S:SN)(_N:FN):List Oper:=[mk (some 30) (.move (tm 11)),mk (some 31) (.binOp .lss S.tInt (tm 30) (ki .i64 0) 0)]
def Dd (_S:SN)(_N:FN):List Oper:=[mk (some 8) (.assign (.const (.bool false)))]
def Dc (_S:SN)(N:FN):List Oper:=[mk (some 32) (.move (tm 0)),mk (some 33) (.move (tm 11)),cl (some 34) N.fVer [(tm 32),(tm 33)],mk (some 12) (.assign (tm 34))]
def Db (S:SN)(N:FN):List Oper:=[cl (some 35) N.fMsg [],mk (some 36) (.move (tm 12)),mk (some 37) (.load S.tT (tm 7)),cl (some 38) S.fWrite [(tm 35),(tm 36),(tm 37)],mk (some 13) (.assign (tm 38))]
def Da (S:SN)(N:FN):List Oper:=[mk (some 40) (.load N.tId (tm 5)),mk (some 41) (.move (tm 2)),mk (some 42) (.move (tm 12)),mk (some 43) (.convert S.tInt N.tI16 (tm 42)),mk (some 44) (.move (tm 13)),cl (some 45) N.fFM [(tm 40),(tm 41),(tm 43),(tm 44)],mk (some 39) (.move (tm 45)),mk (some 46) (.extract (tm 39) 0),mk (some 47) (.extract (tm 39) 1),mk (some 14) (.assign (tm 46)),mk (some 15) (.assign (tm 47))]
def u7 (S:SN)(N:FN):List Oper:=[mk (some 48) (.move (tm 10)),mk (some 49) (.unOp .not S.tB (tm 48)),mk (some 50) (.move (tm 49)),gd 51 (.move (tm 15)) 2 false,gd 52 (.move (tm 51)) 2 false,gd 53 (.move (tm 14)) 4 true,gd 54 (.move (tm 12)) 4 true,gd 55 (.convert S.tInt N.tI16 (tm 54)) 4 true,gd 56 (.move (tm 2)) 4 true,gd 57 (.fieldAddr N.tId (tm 5) 0) 4 true,gd 58 (.load S.tB (tm 57)) 4 true,gd 59 (.move (tm 9)) 4 true,gd 60 (.move (tm 13)) 4 true,gd 61 (.call ⟨.value (.func N.fFr),#[(ki .i16 3),(tm 55),(tm 56),(tm 58),(tm 59),(tm 60)],#[]⟩) 4 true,gd 62 (.call ⟨.value (.func S.fSame),#[(tm 53),(tm 61)],#[]⟩) 4 true,gd 63 (.pick (tm 52) (tm 62) (.const (.bool false))) 2 false,mk (some 64) (.pick (tm 50) (.const (.bool true)) (tm 63)),mk (some 8) (.assign (tm 64))]
def cFLaw (S:SN)(N:FN):Code:=
 (.seq (rg (Dj S N))
 (.seq (.seq (rg (Di S N))
  (.cond (tm 23) (.seq (rg (Dh S N))
   .ret)
  .skip))
 (.seq (rg (Dg S N))
 (.seq (rg (Df S N))
 (.seq (.seq (rg (De S N))
  (.cond (tm 31) (.seq (rg (Dd S N))
   .ret)
  .skip))
 (.seq (rg (Dc S N))
 (.seq (.region 1 (Db S N).toArray true)
 (.seq (rg (Da S N))
 (.seq (rg (u7 S N))
 .ret)))))))))
end
section
variable {P:Program} {K:Kn}
theorem o8 {tSl te:Nat}(ot:OctT P tSl te){tx ty:TypeId}{x:Value}{w:World}{l:Bs}{g c:Nat}{cur:Array Value}(hg:w.heap[g]?=some (.cells cur te (0,0)))(hc:cur.size=c)(hs:Src P 1 tx x l.length (l.map aJ) w)(hl:l.length<=c) :
  (Builtin.append_ #[tSl,tx] ty #[.slice (some ⟨g,0,none⟩) 0 c,x]).run P w=.ok (.slice (some ⟨g,0,none⟩) l.length c) (w.setRow g (aD cur 0 (l.map aJ))):=by
 obtain⟨i,z,hi,hz,Ii,MD,K7⟩:=ot.info
 have ht:=ot.und
 have IN:=run_storeCells_at P g 0 te (l.map aJ) 0 cur w hg (by rw[List.length_map];omega) hs.one
 simp only[Nat.add_zero]at IN
 rcases hs.kind with⟨e',hk⟩|hk<;>simp[Builtin.append_,run_underlying ht,run_underlying hk,sizeOf,typeInfo,hi,Ii,hs.len,hl,hs.cells,Addr.add_lit,IN,aD]
theorem H4 (wt:WT P K){f ntmps tX:Nat}{k:IntKind}{es:List OE}(hX:P.underlying tX=some (.int k))(hfn:FnIs P f ntmps [4] (wx 5 [gj K tX k es]))(Iv:8+d8 es<=ntmps)(KP:es≠[])(Qo:es.length<=10){x:Int}
  (Io:∀ e∈es,e=(none,false) \/ (uk k/\0<=x/\x<2^k.bits/\∀ s,e.1=some s->s<=k.bits)) (w:World) {g c:Nat} {cur:Array Value} (hg:w.heap[g]?=some (.cells cur K.tU8 (0,0))) (hc:cur.size=c) (hl:es.length<=c) :
  Calls P f #[.slice (some ⟨g,0,none⟩) 0 c,.int k x] w fun e w'=>(∃ d',e=.returned d')/\ac (fun k=>k=g) w w'/\w'.heap[g]?=some (.cells (aD cur 0 ((bz es x).map aJ)) K.tU8 (0,0)):=by
 have Ib:(bz es x).length=es.length:=by simp[bz]
 refine ft wt.mixed hfn (by omega) fun a h0 h1 hs I4=>?_
 refine ad ?_
 rw[aO]
 have MA:g<w.heap.size:=(Array.getElem?_eq_some_iff.1 hg).1
 refine aY (ad (aq (ah ?_)))
 rw[aa,h0]
 refine rN hX wt.dU8 es (5+1) _ (by omega) (by rw[al (by omega)];exact h1) Io (by simp only[ab];omega) fun a1 HX Ig Jh=>?_
 have If:=HX.size
 simp only[ab]at If
 rw[<- Ib]
 refine dK wt.oct (by rw[lu,Ig]) (fun hh=>KP (by rw[hh]at Ib;exact List.eq_nil_of_length_eq_zero Ib.symm)) (by omega) ?_
 rw[Ib]
 have hk:ac (fun _=>False) w (w.alloc (.cells ((bz es x).map aJ).toArray K.tU8 (0,0))):=ac.alloc _ _ _
 have Jw:ez (w.alloc (.cells ((bz es x).map aJ).toArray K.tU8 (0,0))) w.heap.size 0 (bz es x):=by
  intro j b hj
  have:=aE w (.cells ((bz es x).map aJ).toArray K.tU8 (0,0))
  simp only[World.cell?,this,Nat.zero_add,List.getElem?_toArray,List.getElem?_map,hj]
  rfl
 have I0:(w.alloc (.cells ((bz es x).map aJ).toArray K.tU8 (0,0))).heap[g]?=some (.cells cur K.tU8 (0,0)):=by rw[hk.block g MA id];exact hg
 have Im:=o8 (P:=P) (tx:=K.tSl) (ty:=K.tSl) wt.oct I0 hc (ic (c:=es.length) wt.oct Jw) (by omega)
 refine AJ (v:=.slice (some ⟨g,0,none⟩) (bz es x).length c) (w':=(w.alloc (.cells ((bz es x).map aJ).toArray K.tU8 (0,0))).setRow g (aD cur 0 ((bz es x).map aJ))) ?_ ?_
 ·have e1:(((a.put (some 5) (.slice (some ⟨g,0,none⟩) 0 c)))).get 5=.slice (some ⟨g,0,none⟩) 0 c:=ao (by omega)
  have e2:(a1.put (some (5+1+d8 es)) (.slice (some ⟨w.heap.size,0,none⟩) es.length es.length)).get 5=.slice (some ⟨g,0,none⟩) 0 c:=by rw[al (by omega),HX.get 5 (by omega) (by omega),e1]
  have e3:(a1.put (some (5+1+d8 es)) (.slice (some ⟨w.heap.size,0,none⟩) es.length es.length)).get (5+1+d8 es)=.slice (some ⟨w.heap.size,0,none⟩) (bz es x).length es.length:=by rw[ao (by omega),Ib]
  simp[execOp,bi,resolve,invoke,aa,e2,e3,builtin,Im]
 refine ak (wpList_nil ?_)
 show LW P [aS .ret] _ _ _ _
 refine ad (.ret ⟨?_,⟨_,rfl⟩,?_,setRow_heap _ _ _ _ _ _ I0⟩)
 ·simp only[aj];rw[HX.defers,aj];exact I4
 ·exact(hk.mono fun _ _ h=>h.elim).trans (ac.setRow _ _ _ _ rfl)
theorem Hy (wt:WT P K){f f2 ntmps A B:Nat}{kA kB:IntKind}{x:Int}{d:Value}{w:World}{RR:Ending->World->Prop}(hA:P.underlying A=some (.int kA))(hB:P.underlying B=some (.int kB))(hfn:FnIs P f ntmps [4] (cACv A B f2))(Iv:9<=ntmps)(hE:Ent P f2)
  (hc:Calls P f2 #[d,.int kB (kB.wrap x)] w fun e w'=>(∃ d',e=.returned d')/\RR e w'):Calls P f #[d,.int kA x] w fun e w'=>(∃ d',e=.returned d')/\RR e w':=by
 refine ft wt.mixed hfn (by omega) fun a h0 h1 hs I4=>?_
 refine ad (aq (ah (ah ?_)))
 refine aL (k:=kA) (k':=kB) (m:=x) (by rw[aa,ao (by rw[ab];omega),aa,al (by omega)];exact h1) hA hB ?_
 refine aN (vs:=#[d,.int kB (kB.wrap x)]) hE ?_ hc fun e w' hR=>?_
 ·simp only[List.map_cons,List.map_nil,aa]
  rw[al (by omega),al (by omega),ao (by omega),ao (by simp only[ab];omega),h0]
 obtain⟨⟨d',rfl⟩,hR⟩:=hR
 refine⟨d',rfl,ak (wpList_nil (ad (.ret ⟨?_,⟨_,rfl⟩,?_⟩)))⟩
 ·simp only[aj];exact I4
 ·rw[ao (by simp only[ab];omega),aa,ao (by simp only[ab];omega)]
  exact hR
def t7 (P:Program)(t:Nat)(name:String)(f:Nat):Prop:=∀ v w,(method (P.types.size+Made.depth) t v name).run P w=.ok (f,v) w
theorem uL {ops:Array Oper}{Q:Exit->Act->World->Prop}{r:List Oper}{a:Act}{w:World}{d:Option Nat}{f t:Nat}{rv:Operand}{nm:String}{args:List Operand}{v:Value}{vs:Array Value}{R:Ending->World->Prop}(hf:Ent P f)(hm:t7 P t nm f)(hv:a.eval rv=.iface t v)
  (IH:(args.map a.eval).toArray=vs) (hc:Calls P f (#[v]++vs) w R) (h:∀ e w',R e w'->∃ v,e=.returned v/\wpList P ops Q r (a.put d v) w'):wpList P ops Q (mk d (.call ⟨.invoke rv nm,args.toArray,#[]⟩)::r) a w:=by
 refine jr ?_
 unfold Oper.wp
 have:(execOp a.eval (mk d (.call ⟨.invoke rv nm,args.toArray,#[]⟩))).run P w=.ok (.enter f (#[v]++vs)) w:=by
  have e1:(#[Value.iface t v]++vs)[0]?=some (.iface t v):=by rw[Array.getElem?_append_left (by simp)];rfl
  have e2:(#[Value.iface t v]++vs).extract 1 (#[Value.iface t v]++vs).size=vs:=by
   apply Array.ext'
   simp
  simp only[execOp,mk,resolve,hv,invoke,Sem.run_bind,Sem.run_pure,Result.andThen_ok,List.map_toArray,IH,e1,e2,callMethod,run_program,hm v w]
  exact hf _ _
 rw[this]
 exact hc.mono fun e w' hR=>by
  obtain⟨v,rfl,hh⟩:=h e w' hR
  exact hh
end
section
variable {P:Program} {g:GW} {av:PF->Bool} {fl nl:Bool} {te:Nat}
theorem write_fnD (K0:KW P g av fl nl te){f ntmps:Nat}{cx:Cx}{fs:Fds}{T kt flex v6 n0:Nat}{toff:Option Nat}{nm:Nm}(Ih:cx.hf=true->fl=true)(hfn:FnIs P f ntmps [4] (gWrite g false cx fs T kt flex v6 n0 nm))
  (Ku:nk ⟨P,g,av,nl⟩ false cx fs T kt toff v6 n0 ntmps nm (jy g false cx fs T kt flex v6 n0 nm)=true) {w:World} {L B:Nat} {ver:Int} {vs:List V} {t:List (Nat × Bs)} {d0:Value} {bs0:Bs} (_hver:-32768<=ver/\ver<32768) (hB:B<L) (hLw:L<=w.heap.size) (Ia:w.cell? ⟨B,0,none⟩=some (.int .i16 ver))
  (hr:RpF w (fun k=>L<=k) fs B 0 vs) (ht:dJ w (fun k=>L<=k) B 0 toff t) (Jz:aA w L te d0 bs0) (hlim:(bs0++dD false cx.hf flex fs ver (.st vs t)).length<=di) :
  Calls P f #[pt B 0,d0] w fun e w'=>∃ d',e=.returned d'/\Gr L te d0 w d' (bs0++dD false cx.hf flex fs ver (.st vs t)) w':=by
 simp only[nk,Bool.and_eq_true,Bool.or_eq_true,Bool.not_eq_true',decide_eq_true_eq]at Ku
 obtain⟨⟨⟨⟨⟨⟨KF,Mm,MT,Ql,Lv,hM⟩,IL⟩,Jl⟩,NH⟩,IN⟩,KZ⟩:=Ku
 have RH:cx.ver<gD cx v6/\cx.fx<gD cx v6/\v6<gD cx v6/\4<gD cx v6:=by simp only[gD];omega
 refine eB K0.mixed hfn (by simp) [pt B 0,d0] ?_ fun a harg hs hd=>?_
 ·simp only[List.length_cons,List.length_nil]
  have:n0<=jy g false cx fs T kt flex v6 n0 nm:=by
   refine ax ?_ (ax (ax (upL_wfds g fs cx nm.s) (dL g cx fs T kt nm)) (ag (am _ _) (ag (bq _) ar))) n0
   exact ax (ax (ag (am _ _) (ag (am _ _) (ag (am _ _) ar))) (cQ (ag (am _ _) (ag (am _ _) ar)) ar)) (cQ (ag (ei (ag (am _ _) (ag (am _ _) ar))) ar) ar)
  omega
 have h0:=harg 0 _ rfl
 have h1:=harg 1 _ rfl
 have hF:=fldB_ok Jl
 have fields:∀ (n:Nat) (a1:Act),n0<=n->a1.tmps.size=ntmps->a1.defers=[]->a1.get 0=pt B 0->a1.get cx.ver=.int .i16 ver->(cx.hf=true->a1.get cx.fx=.bool (decide ((flex:Int)<=ver)))->a1.get 1=d0 ->
   (gL (gwFds g cx fs nm.s++bd g cx fs T kt nm++eK) n).2<=ntmps ->
   LW P (gwFds g cx fs nm.s++bd g cx fs T kt nm++eK) n (Rt (fun a' w'=>a'.defers=[]/\∃ d',.returned (bj [4] a')=Ending.returned d'/\Gr L te d0 w d' (bs0++dD false cx.hf flex fs ver (.st vs t)) w') (fun a' w'=>a'.defers=[]/\∃ d',.returned (bj [4] a')=Ending.returned d'/\Gr L te d0 w d' (bs0++dD false cx.hf flex fs ver (.st vs t)) w')) a1 w:=by
  intro n a1 hn Ii I4 Jp Mb Mu Ig IL
  rw[aX]at IL
  have L0:(gL (gwFds g cx fs nm.s++bd g cx fs T kt nm) n).2+1<=ntmps:=IL
  have Uq:WC cx (cx.hf&&decide ((flex:Int)<=ver)) ver te L B 0 d0 bs0 a1 w:=
   ⟨Jz,Ig,by rw[KF];exact Jp,Mb,fun hf=>by rw[Mu hf,hf];rfl,fun hf=>by rw[hf];rfl,hB,hLw⟩
  have SE:mc cx (gD cx v6) n0:=⟨⟨by omega,by omega⟩,⟨RH.1,by omega⟩,⟨RH.2.1,by
   cases hh:cx.hf with
   | true=>have:=MT hh;omega
   | false=>rw[Ql hh];omega⟩,by omega,hM⟩
  have N9:dD false cx.hf flex fs ver (.st vs t)=wrFds (cx.hf&&decide ((flex:Int)<=ver)) ver fs vs++fy (cx.hf&&decide ((flex:Int)<=ver)) (wrTgd (cx.hf&&decide ((flex:Int)<=ver)) ver fs vs) t:=by
   simp only[dD,V.fields,V.tags]
   rfl
  have JE:=ax (upL_wfds g fs cx nm.s) (dL g cx fs T kt nm) n
  refine ep ?_
  rw[aO]
  refine wV (wr_fds K0 fs) (tC K0 fs) IN KZ Uq SE Ih hn (by omega) (by omega) hr ht (by rw[<- List.length_append,<- N9];exact hlim) fun a2 w2 d2 HZ Ij hgr2=>?_
  have Iw:=HZ.size
  refine ad (aq (ah (ak (wpList_nil (ad (.ret ⟨?_,d2,?_,?_⟩))))))
  ·simp only[aj];rw[HZ.defers];exact I4
  ·show Ending.returned (Act.get _ 4)=_
   rw[ao (by simp only[ab];omega),aa,ao (by omega),aa,Ij]
  ·rw[N9];exact hgr2
 have hused':(gL (jI g false cx T flex v6++(gwFds g cx fs nm.s++bd g cx fs T kt nm++eK)) n0).2<=ntmps:=IL
 unfold gWrite
 refine aY ?_
 have e1:jI g false cx T flex v6++(gwFds g cx fs nm.s++bd g cx fs T kt nm++eK)=aR 4 (.slice none 0 0)::cg 0 cx.ver T 0 g.tVer::ay 1 (fun n=>[mk (some n) (.move (tm cx.ver))]) ::
   ((if cx.hf then[ay 2 fun n=>[mk (some n) (.move (tm cx.ver)),mk (some (n+1)) (.binOp .geq g.tVer (tm n) (ki .i16 flex) 0),mk (some cx.fx) (.assign (tm (n+1)))],ay 1 fun n=>[mk (some n) (.move (tm cx.fx))]] else[]) ++
    (gwFds g cx fs nm.s++bd g cx fs T kt nm++eK)):=by
  simp only[jI,List.cons_append,List.nil_append,List.append_assoc,Bool.false_eq_true,if_false]
 rw[e1]at hused' ⊢
 have Nw:(gL ((if cx.hf then[ay 2 fun n=>[mk (some n) (.move (tm cx.ver)),mk (some (n+1)) (.binOp .geq g.tVer (tm n) (ki .i16 flex) 0),mk (some cx.fx) (.assign (tm (n+1)))],ay 1 fun n=>[mk (some n) (.move (tm cx.fx))]] else[]) ++
    (gwFds g cx fs nm.s++bd g cx fs T kt nm++eK)) (n0+4+1)).2<=ntmps:=hused'
 have KX:i6 (gwFds g cx fs nm.s++bd g cx fs T kt nm++eK):=
  ax (ax (upL_wfds g fs cx nm.s) (dL g cx fs T kt nm)) (ag (am _ _) (ag (bq _) ar))
 have Vi:n0+4+1<=ntmps:=Nat.le_trans (ax (cQ (ag (am _ _) (ag (am _ _) ar)) ar) KX _) Nw
 refine ad (cV (x:=4) (m:=0) (k0:=0) (.inl rfl) (by omega) fun a1 HX _=>?_)
 have If:=HX.size
 refine ad (fZ (x:=cx.ver) (m:=n0) (k0:=n0) (off:=0) (by rw[HX.get 0 (by omega) (.inr (by omega))];exact h0) hF (by rw[Nat.zero_add];exact Ia) (.inl rfl) (Nat.le_refl _) (by show n0<=n0+0;omega) (by show n0+0+4<=_;omega) (by omega) fun a2 HZ Ij=>?_)
 have Iw:=HZ.size
 refine ad (aq (ah (wpList_nil ?_)))
 have hb:∀ s,s<n0->s≠4->s≠cx.ver->(a2.put (some (n0+0+4)) (a2.eval (tm cx.ver))).get s=a.get s:=fun s hs Kb Lh=>by
  rw[al (by omega),HZ.get s Lh (.inl hs),HX.get s Kb (.inr ⟨by omega,by omega⟩)]
 have OI:(a2.put (some (n0+0+4)) (a2.eval (tm cx.ver))).get cx.ver=.int .i16 ver:=by rw[al (by omega)];exact Ij
 have Nr:(a2.put (some (n0+0+4)) (a2.eval (tm cx.ver))).tmps.size=ntmps:=by rw[ab,Iw,If];exact hs
 have Q1:(a2.put (some (n0+0+4)) (a2.eval (tm cx.ver))).defers=[]:=by rw[aj,HZ.defers,HX.defers];exact hd
 show LW P _ (n0+0+4+1) _ (a2.put (some (n0+0+4)) (a2.eval (tm cx.ver))) w
 generalize a2.put (some (n0+0+4)) (a2.eval (tm cx.ver))=a3 at hb OI Nr Q1 ⊢
 by_cases hf:cx.hf=true
 ·obtain⟨LJ,MU⟩:=MT hf
  rw[if_pos hf]at Nw ⊢
  have L0:(gL (gwFds g cx fs nm.s++bd g cx fs T kt nm++eK) (n0+4+1+2+1)).2<=ntmps:=Nw
  have hn8:=Nat.le_trans (KX _) L0
  refine ad (aq (ah ?_))
  rw[aa,OI]
  refine bk (b:=decide ((flex:Int)<=ver)) (p:=ver) (q:=flex) (k:=.i16) (by rw[aa,ao (by omega)]) rfl (.inl ⟨rfl,rfl⟩) (ak (wpList_nil ?_))
  rw[aa,ao (by simp only[ab];omega)]
  refine ad (aq (ah (wpList_nil ?_)))
  refine fields (n0+4+1+2+1) _ (by omega) (by simp only[ab];exact Nr) (by simp only[aj];exact Q1) ?_ ?_ (fun _=>?_) ?_ L0
  ·rw[al (by show(0:Nat)≠n0+0+4+1+2;omega),al (by omega),al (by omega),al (by omega),hb 0 (by omega) (by omega) (by omega)];exact h0
  ·rw[al (by show cx.ver≠n0+0+4+1+2;omega),al (by omega),al (by omega),al (by omega)];exact OI
  ·rw[al (by show cx.fx≠n0+0+4+1+2;omega),ao (by simp only[ab];omega)]
  ·rw[al (by show(1:Nat)≠n0+0+4+1+2;omega),al (by omega),al (by omega),al (by omega),hb 1 (by omega) (by omega) (by omega)];exact h1
 ·rw[if_neg hf]at Nw ⊢
  exact fields (n0+4+1) a3 (by omega) Nr Q1 ((hb 0 (by omega) (by omega) (by omega)).trans h0) OI (fun h=>absurd h hf) ((hb 1 (by omega) (by omega) (by omega)).trans h1) Nw
end
section
open Go
set_option maxRecDepth 4000
structure FnT (P:Program)(S:SN)(N:FN):Prop where
 tab:RefT P S
 dStr:P.underlying N.tStr=some .string
 dI16:P.underlying N.tI16=some (.int .i16)
 dI32:P.underlying N.tI32=some (.int .i32)
 dOpts:P.underlying N.tOpts=some (.slice N.tOpt)
 vOpt:bc P N.tOpt false 1
 vId:bc P N.tId true 2
 m0:bw P N.tMs 0 N.tI16 0 false 1
 r0:bw P N.tFr 0 N.tPs 0 false 1
 o0:bw P N.tFo 0 N.tFn 0 false 1
 i0:bw P N.tId 0 S.tB 0 false 1
 i1:bw P N.tId 1 N.tStr 1 false 1
 zFr:∀ w,(zeroValue N.tFr).run P w=.ok (.agg #[.pointer none]) w
 bFo:∀ (f:Fn) (a b:Array Value) w,(Instr.build N.tFo #[(0,.func f a b)]).run P w=.ok (.agg #[.func f a b]) w
 miFo:∀ v w,(Instr.makeInterface N.tFo (.agg #[v])).run P w=.ok (.iface N.tFo (.agg #[v])) w
 miM:∀ v w,(Instr.makeInterface N.tM v).run P w=.ok (.iface N.tM v) w
 bOp:∀ v w,(Instr.buildSlice N.tOpts 1 #[(0,.iface N.tFo (.agg #[v]))]).run P w=.ok (.slice (some ⟨w.heap.size,0,none⟩) 1 1) (w.alloc (.cells #[.iface N.tFo (.agg #[v])] N.tOpt (0,0)))
 mAp : t7 P N.tFo "pub-kmsg/pub/kmsg.apply" N.fAp
 mKey : t7 P N.tM "Key" N.fKey
 mGv : t7 P N.tM "GetVersion" N.fGv
 mIf : t7 P N.tM "IsFlexible" N.fIf
 mAt : t7 P N.tM "AppendTo" N.fAt
section
variable {P:Program} {S:SN} {N:FN}
section
variable {ops:Array Oper} {Q:Exit->Act->World->Prop} {r:List Oper} {n:Nat} {a:Act} {w:World} {l:List (Nat × Value)}
theorem nx (h:St n a l){d:Nat}{op:Op}{v:Value}{w':World}(Im:(execOp a.eval (mk (some d) op)).run P w=.ok (.value v) w')(hd:d<n)(c:∀ a',St n a' ((d,v)::l)->wpList P ops Q r a' w'):wpList P ops Q (mk (some d) op::r) a w:=
 aB Im (c _ (h.put v hd))
theorem pC (h:St n a l){d B O:Nat}{x:Operand}(hx:Hd l x (pt B O))(hd:d<n)(c:∀ a',St n a' ((d,pt B O)::l)->wpList P ops Q r a' w):wpList P ops Q (mk (some d) (.nilCheck x)::r) a w:=
 aG (hx n a h) (c _ (h.put _ hd))
theorem ny (h:St n a l){d f t:Nat}{rv:Operand}{nm:String}{args:List Operand}{v:Value}{vs:List Value}{R:Ending->World->Prop}(hf:Ent P f)(hm:t7 P t nm f)(hv:Hd l rv (.iface t v))(IH:∀ (n:Nat) (a:Act),St n a l->args.map a.eval=vs)(hc:Calls P f (v::vs).toArray w R)(hd:d<n)
  (c:∀ e w',R e w'->∃ v,e=.returned v/\∀ a',St n a' ((d,v)::l)->wpList P ops Q r a' w'):wpList P ops Q (mk (some d) (.call ⟨.invoke rv nm,args.toArray,#[]⟩)::r) a w:=
 uL (vs:=vs.toArray) hf hm (hv n a h) (by rw[IH n a h]) (by simpa using hc) fun e w' hR=>by
  obtain⟨v,he,hk⟩:=c e w' hR
  exact⟨v,he,hk _ (h.put _ hd)⟩
end
theorem vQ (T:FnT P S N)(hfn:FnIs P N.fKey 3 [2] (cFKey S N))(v:Value)(w:World):Calls P N.fKey [v].toArray w fun e w'=>e=.returned (.int .i16 3)/\w'=w:=by
 refine bJ T.tab.mixed hfn (by simp) _ (by simp) fun a h=>?_
 unfold cFKey
 refine aw (aP (ae h .i (by omega) fun a h=>wpList_nil ?_))
 refine aw (aP (ae h .i (by omega) fun a h=>wpList_nil (.ret ?_)))
 exact dN (RR:=fun e w'=>e=.returned (.int .i16 3)/\w'=w) h rfl ⟨rfl,rfl⟩
theorem yL (T:FnT P S N)(hfn:FnIs P N.fGv 7 [2] (cFGv S N)){B:Nat}{ver:Int}{w:World}(hc:w.cell? ⟨B,0,none⟩=some (.int .i16 ver)):Calls P N.fGv [pt B 0].toArray w fun e w'=>e=.returned (.int .i16 ver)/\w'=w:=by
 refine bJ T.tab.mixed hfn (by simp) _ (by simp) fun a h=>?_
 unfold cFGv
 refine aw (aP (ae h .i (by omega) fun a h=>wpList_nil ?_))
 refine aw (aP (ai h (.t rfl) (by omega) fun a h=>pC h (.t rfl) (by omega) fun a h=>bO h (.t rfl) T.m0 (by omega) fun a h=>aU h (.t rfl) T.m0.var hc (by omega) fun a h=>ae h (.t rfl) (by omega) fun a h=>wpList_nil (.ret ?_)))
 exact dN (RR:=fun e w'=>e=.returned (.int .i16 ver)/\w'=w) h rfl ⟨rfl,rfl⟩
theorem yH (T:FnT P S N)(hfn:FnIs P N.fIf 8 [2] (cFIf S N)){B:Nat}{ver:Int}{w:World}(hc:w.cell? ⟨B,0,none⟩=some (.int .i16 ver)):Calls P N.fIf [pt B 0].toArray w fun e w'=>e=.returned (.bool (decide (9<=ver)))/\w'=w:=by
 refine bJ T.tab.mixed hfn (by simp) _ (by simp) fun a h=>?_
 unfold cFIf
 refine aw (aP (ae h .c (by omega) fun a h=>wpList_nil ?_))
 refine aw (aP (ai h (.t rfl) (by omega) fun a h=>pC h (.t rfl) (by omega) fun a h=>bO h (.t rfl) T.m0 (by omega) fun a h=>aU h (.t rfl) T.m0.var hc (by omega) fun a h=>br h rfl (.t rfl) .i (by omega) fun a h=>ae h (.t rfl) (by omega) fun a h=>wpList_nil (.ret ?_)))
 exact dN (RR:=fun e w'=>e=.returned (.bool (decide (9<=ver)))/\w'=w) h rfl ⟨by simp[aW],rfl⟩
def kE (N:FN)(w:World)(F:Nat)(v:Value):Prop:=w.heap[F]?=some (.cells #[v] N.tFr (0,0))
def lA (N:FN)(c:Nat):Value:=.agg #[.func (.func N.fCl) #[] #[pt c 0]]
theorem yZ (T:FnT P S N)(hfn:FnIs P N.fCl 6 [] (cFCl S N)){F c:Nat}{v:Value}{w:World}(hF:kE N w F v):Calls P N.fCl [pt F 0,pt c 0].toArray w fun e w'=>e=.returned (.tuple #[])/\ac (fun k=>k=F) w w'/\kE N w' F (pt c 0):=by
 refine bJ T.tab.mixed hfn (by simp) _ (by simp) fun a h=>?_
 unfold cFCl
 refine aP (ai h (.t rfl) (by omega) fun a h=>pC h (.t rfl) (by omega) fun a h=>bO h (.t rfl) T.r0 (by omega) fun a h=>?_)
 refine iD h (cs:=[pt c 0]) (.t rfl) (.t rfl) rfl T.r0.var.size hF rfl (by simp[Value.oneCell',pt]) (wpList_nil ⟨h.defers,rfl,ac.setRow _ _ _ _ rfl,setRow_heap _ _ _ _ _ _ hF⟩)
theorem wn (T:FnT P S N)(hfn:FnIs P N.fAp 8 [] (cFAp S N))(KQ:FnIs P N.fCl 6 [] (cFCl S N)){F c:Nat}{v:Value}{w:World}(hF:kE N w F v):Calls P N.fAp [lA N c,pt F 0].toArray w fun e w'=>e=.returned (.tuple #[])/\ac (fun k=>k=F) w w'/\kE N w' F (pt c 0):=by
 have W3:F<w.heap.size:=(Array.getElem?_eq_some_iff.1 hF).1
 refine bJ T.tab.mixed hfn (by simp) _ (by simp) fun a h=>?_
 unfold cFAp
 refine aw (aP (dx h (cs:=[.func (.func N.fCl) #[] #[pt c 0]]) (.t rfl) (by omega) fun a h=>wpList_nil ?_))
 have hk:ac (fun _=>False) w (w.alloc (.cells [Value.func (.func N.fCl) #[] #[pt c 0]].toArray N.tFo (0,0))):=ac.alloc _ _ _
 have hc:=bB w [Value.func (.func N.fCl) #[] #[pt c 0]] N.tFo
 generalize w.alloc (.cells [Value.func (.func N.fCl) #[] #[pt c 0]].toArray N.tFo (0,0))=w1 at hk hc ⊢
 have QX:kE N w1 F v:=by
  unfold kE
  rw[hk.block F W3 id];exact hF
 refine aP (bO h (.t rfl) T.o0 (by omega) fun a h=>aU h (.t rfl) T.o0.var (hc.at (j:=0) rfl) (by omega) fun a h=>ai h (.t rfl) (by omega) fun a h=>?_)
 refine oE (f:=N.fCl) (y:=tm 5) (args:=[tm 6]) (vs:=#[pt F 0]) (cap:=#[pt c 0]) KQ.ent (Hd.t (i:=5) rfl _ _ h) (by simp[Hd.t (l:=_) (i:=6) rfl _ _ h]) (yZ T KQ QX) fun e w2 hR=>?_
 obtain⟨rfl,Ic,MG⟩:=hR
 exact⟨_,rfl,wpList_nil ⟨by simp only[aj];exact h.defers,rfl,(hk.mono fun _ _ h=>h.elim).trans Ic,MG⟩⟩
theorem wh (T:FnT P S N)(hfn:FnIs P N.fCid 6 [2] (cFCid S N))(s:Bs)(w:World):Calls P N.fCid [strV s].toArray w fun e w'=>e=.returned (.iface N.tFo (lA N w.heap.size))/\w'=w.alloc (.cells #[strV s] N.tStr (0,0)):=by
 refine bJ T.tab.mixed hfn (by simp) _ (by simp) fun a h=>?_
 unfold cFCid
 refine aw (aP (nx h (v:=pt w.heap.size 0) (w':=w.alloc (.cells #[strV s] N.tStr (0,0))) ?_ (by omega) fun a h=>ae h .c (by omega) fun a h=>wpList_nil ?_))
 ·have:=Hd.t (l:=_) (i:=0) rfl _ _ h
  simp[execOp,mk,this,Instr.box,newVar,newRow,newObj,Sem.run,pt,Value.cells,strV]
 refine aw (aP (nx h (v:=.func (.func N.fCl) #[] #[pt w.heap.size 0]) (w':=w.alloc (.cells #[strV s] N.tStr (0,0))) ?_ (by omega) fun a h=>?_))
 ·have:=Hd.t (l:=_) (i:=1) rfl _ _ h
  simp[execOp,mk,this,Instr.makeFunc]
 refine iE h (qs:=#[(0,.func (.func N.fCl) #[] #[pt w.heap.size 0])]) (fun n a h=>by simp[Hd.t (l:=_) (i:=3) rfl _ _ h]) (T.bFo _ _ _ _) (by omega) fun a h=>?_
 refine nx h (v:=.iface N.tFo (lA N w.heap.size)) (w':=w.alloc (.cells #[strV s] N.tStr (0,0))) ?_ (by omega) fun a h=>ae h (.t rfl) (by omega) fun a h=>wpList_nil (.ret ?_)
 ·have:=Hd.t (l:=_) (i:=4) rfl _ _ h
  simp[execOp,mk,this,T.miFo,lA]
 exact dN (RR:=fun e w'=>e=.returned (.iface N.tFo (lA N w.heap.size))/\w'=w.alloc (.cells #[strV s] N.tStr (0,0))) h rfl ⟨rfl,rfl⟩
end
end
end Go.Proofs.YtpoeajgpacfpoaaGreatDoor.Kx