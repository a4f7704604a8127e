/-
  PLAIN LAWS AND CONTRACTS of messages, part 10 of 12: how readers and writers are printed, what they do, what the reference writes, and that what is written is read as the same. Nothing of a statement stands here.
-/
import Derived.Test.YtlnmiphokmhajaaK1
import Derived.Test.YtlnmiphokmhajaaK2
import Derived.Test.YtlnmiphokmhajaaK3
import Derived.Test.YtlnmiphokmhajaaK4
import Derived.Test.YtlnmiphokmhajaaK5
import Derived.Test.YtlnmiphokmhajaaK7
import Derived.Test.YtlnmiphokmhajaaK8
import Derived.Test.YtlnmiphokmhajaaK9
import Derived.KernelRfl
import Derived.MapFrom
import Derived.Laws.MakeOwn
import Derived.Maps.RangeRun
import Derived.ChangeKeysEq
import Derived.Laws.BitsAllLaws
import Derived.Laws.Bits64

namespace Go.Proofs.Ytlnmiphokmhajaa.Kx
open Go
set_option maxRecDepth 4000
def fVals:SFs->(Nat->Value)->Nat->List Value
 | .nil,_,_=>[]
 | .cons kind lo hi nul tag df of _ r,sv,i=>.agg (fCells kind lo hi nul tag df of (sv i)).toArray :: fVals r sv (i + 1)
def FieldsOk (w:World):SFs->(Nat->Value)->Nat->Prop
 | .nil,_,_=>True
 | .cons _ _ _ _ _ _ _ sub r,sv,i=>FsRp w sub (sv i)/\FieldsOk w r sv (i + 1)
theorem FsRp.kn {w w':World} (h:qd_ (fun _=>False) w w') {sf:SFs} {v:Value} (hs:FsRp w sf v):FsRp w' sf v:=hs.far (Fa0.of h)
theorem FieldsOk.kn {w w':World} (h:qd_ (fun _=>False) w w'):∀ (sf:SFs) (sv:Nat->Value) (i:Nat),FieldsOk w sf sv i->FieldsOk w' sf sv i
 | .nil,_,_,_=>trivial
 | .cons ..,sv,i,hh=>⟨hh.1.kn h,FieldsOk.kn h _ sv (i + 1) hh.2⟩
section
variable {P:Program} {S:SN}
end
end Go.Proofs.Ytlnmiphokmhajaa.Kx

namespace Go.Proofs.Ytlnmiphokmhajaa.Kx
open Go
set_option maxRecDepth 100000
structure RN where
 tStr:Nat
 tI32:Nat
 tI8:Nat
 tOc:Nat
 tHs:Nat
 tH:Nat
 tR:Nat
 tKR:Nat
 tKP:Nat
 tKHs:Nat
 tKH:Nat
 fZ7:Nat
 fZ8:Nat
 fZ9:Nat
 fZ10:Nat
 fLit:Nat
 fBeh:Nat
 fMk:Nat
 fNull:Nat
 fOwn:Nat
 fApp:Nat
 fRB:Nat
 fRR:Nat
 fVi:Nat
 fTu:Nat
 fOB:Nat
 fHB:Nat
 fAVi:Nat
 fAI8:Nat
 fAVl:Nat
 fAVb:Nat
 fAVs:Nat
 fAUv:Nat
 fAUl:Nat
 fUlL:Nat
 fL64:Nat
def rZ8_0 (_S:SN) (N:RN):List Oper:=[mk (some 1) (.box N.tOc (tm 0)),mk (some 2) (.assign (.const (.bool false)))]
def rZ8_1 (S:SN) (N:RN):List Oper:=[mk (some 3) (.fieldAddr N.tOc (tm 1) 1),mk (some 4) (.load S.tSl (tm 3)),bi (some 5) .len [(tm 4)] [S.tSl] S.tInt,mk (some 6) (.binOp .gtr S.tInt (tm 5) (ki .i64 2147483647) 0)]
def rZ8_2 (_S:SN) (_N:RN):List Oper:=[mk (some 2) (.assign (.const (.bool false)))]
def rZ8_3 (_S:SN) (_N:RN):List Oper:=[mk (some 2) (.assign (.const (.bool true)))]
def cRZ8 (S:SN) (N:RN):Code:=
 (.seq (rg (rZ8_0 S N))
 (.seq (.seq (rg (rZ8_1 S N))
  (.cond (tm 6) (.seq (rg (rZ8_2 S N))
   .ret)
  .skip))
 (.seq (rg (rZ8_3 S N))
 .ret)))
def rZ7_0 (_S:SN) (N:RN):List Oper:=[mk (some 1) (.box N.tH (tm 0)),mk (some 2) (.assign (.const (.bool false)))]
def rZ7_1 (S:SN) (N:RN):List Oper:=[mk (some 3) (.fieldAddr N.tH (tm 1) 0),mk (some 4) (.load N.tStr (tm 3)),bi (some 5) .len [(tm 4)] [N.tStr] S.tInt,mk (some 6) (.binOp .gtr S.tInt (tm 5) (ki .i64 2147483647) 0)]
def rZ7_2 (_S:SN) (_N:RN):List Oper:=[mk (some 2) (.assign (.const (.bool false)))]
def rZ7_3 (S:SN) (N:RN):List Oper:=[mk (some 7) (.fieldAddr N.tH (tm 1) 1),mk (some 8) (.load N.tOc (tm 7)),cl (some 9) N.fZ8 [(tm 8)],mk (some 10) (.unOp .not S.tB (tm 9))]
def rZ7_4 (_S:SN) (_N:RN):List Oper:=[mk (some 2) (.assign (.const (.bool false)))]
def rZ7_5 (_S:SN) (_N:RN):List Oper:=[mk (some 2) (.assign (.const (.bool true)))]
def cRZ7 (S:SN) (N:RN):Code:=
 (.seq (rg (rZ7_0 S N))
 (.seq (.seq (rg (rZ7_1 S N))
  (.cond (tm 6) (.seq (rg (rZ7_2 S N))
   .ret)
  .skip))
 (.seq (.seq (rg (rZ7_3 S N))
  (.cond (tm 10) (.seq (rg (rZ7_4 S N))
   .ret)
  .skip))
 (.seq (rg (rZ7_5 S N))
 .ret))))
def rZ10_0 (_S:SN) (_N:RN):List Oper:=[mk (some 2) (.assign (.const (.bool false)))]
def rZ10_1 (S:SN) (N:RN):List Oper:=[mk (some 5) (.move (tm 0)),bi (some 6) .len [(tm 5)] [N.tHs] S.tInt,mk (some 7) (.binOp .gtr S.tInt (tm 6) (ki .i64 2147483647) 0)]
def rZ10_2 (_S:SN) (_N:RN):List Oper:=[mk (some 2) (.assign (.const (.bool false)))]
def rZ10_3 (S:SN) (N:RN):List Oper:=[mk (some 8) (.move (tm 0)),bi (some 9) .len [(tm 8)] [N.tHs] S.tInt,mk (some 10) (.move (ki .i64 0))]
def rZ10_4 (S:SN) (_N:RN):List Oper:=[mk (some 11) (.binOp .lss S.tInt (tm 10) (tm 9) 0)]
def rZ10_5 (_S:SN) (N:RN):List Oper:=[mk (some 12) (.indexAddr N.tHs (tm 8) (tm 10)),mk (some 13) (.load N.tH (tm 12)),mk (some 4) (.alloc N.tH),mk none (.store N.tH (tm 4) (tm 13))]
def rZ10_6 (S:SN) (N:RN):List Oper:=[mk (some 14) (.load N.tH (tm 4)),cl (some 15) N.fZ7 [(tm 14)],mk (some 16) (.unOp .not S.tB (tm 15))]
def rZ10_7 (_S:SN) (_N:RN):List Oper:=[mk (some 2) (.assign (.const (.bool false)))]
def rZ10_8 (S:SN) (_N:RN):List Oper:=[mk (some 17) (.binOp .add S.tInt (tm 10) (ki .i64 1) 0),mk (some 10) (.move (tm 17))]
def rZ10_9 (_S:SN) (_N:RN):List Oper:=[mk (some 2) (.assign (.const (.bool true)))]
def cRZ10 (S:SN) (N:RN):Code:=
 (.seq (rg (rZ10_0 S N))
 (.seq (.seq (rg (rZ10_1 S N))
  (.cond (tm 7) (.seq (rg (rZ10_2 S N))
   .ret)
  .skip))
 (.seq (.seq (rg (rZ10_3 S N))
  (.block 0 (.loop (.seq (rg (rZ10_4 S N))
  (.seq (.cond (tm 11) .skip
   (.exit 0))
  (.seq (.block 1 (.seq (rg (rZ10_5 S N))
   (.seq (rg (rZ10_6 S N))
   (.cond (tm 16) (.seq (rg (rZ10_7 S N))
    .ret)
   .skip))))
  (rg (rZ10_8 S N))))))))
 (.seq (rg (rZ10_9 S N))
 .ret))))
def rZ9_0 (_S:SN) (N:RN):List Oper:=[mk (some 1) (.box N.tR (tm 0)),mk (some 2) (.assign (.const (.bool false)))]
def rZ9_1 (S:SN) (N:RN):List Oper:=[mk (some 3) (.fieldAddr N.tR (tm 1) 4),mk (some 4) (.load N.tOc (tm 3)),cl (some 5) N.fZ8 [(tm 4)],mk (some 6) (.unOp .not S.tB (tm 5))]
def rZ9_2 (_S:SN) (_N:RN):List Oper:=[mk (some 2) (.assign (.const (.bool false)))]
def rZ9_3 (S:SN) (N:RN):List Oper:=[mk (some 7) (.fieldAddr N.tR (tm 1) 5),mk (some 8) (.load N.tOc (tm 7)),cl (some 9) N.fZ8 [(tm 8)],mk (some 10) (.unOp .not S.tB (tm 9))]
def rZ9_4 (_S:SN) (_N:RN):List Oper:=[mk (some 2) (.assign (.const (.bool false)))]
def rZ9_5 (S:SN) (N:RN):List Oper:=[mk (some 11) (.fieldAddr N.tR (tm 1) 6),mk (some 12) (.load N.tHs (tm 11)),cl (some 13) N.fZ10 [(tm 12)],mk (some 14) (.unOp .not S.tB (tm 13))]
def rZ9_6 (_S:SN) (_N:RN):List Oper:=[mk (some 2) (.assign (.const (.bool false)))]
def rZ9_7 (_S:SN) (_N:RN):List Oper:=[mk (some 2) (.assign (.const (.bool true)))]
def cRZ9 (S:SN) (N:RN):Code:=
 (.seq (rg (rZ9_0 S N))
 (.seq (.seq (rg (rZ9_1 S N))
  (.cond (tm 6) (.seq (rg (rZ9_2 S N))
   .ret)
  .skip))
 (.seq (.seq (rg (rZ9_3 S N))
  (.cond (tm 10) (.seq (rg (rZ9_4 S N))
   .ret)
  .skip))
 (.seq (.seq (rg (rZ9_5 S N))
  (.cond (tm 14) (.seq (rg (rZ9_6 S N))
   .ret)
  .skip))
 (.seq (rg (rZ9_7 S N))
 .ret)))))
def rTu_0 (_S:SN) (_N:RN):List Oper:=[mk (some 2) (.assign (ki .u64 0))]
def rTu_1 (S:SN) (_N:RN):List Oper:=[mk (some 3) (.move (tm 0)),mk (some 4) (.convert S.tI64 S.tU64 (tm 3)),mk (some 5) (.binOp .shl S.tU64 (tm 4) (ki .u64 1) 0),mk (some 6) (.move (tm 0)),mk (some 7) (.binOp .shr S.tI64 (tm 6) (ki .u64 63) 0),mk (some 8) (.convert S.tI64 S.tU64 (tm 7)),mk (some 9) (.binOp .xor S.tU64 (tm 5) (tm 8) 0),mk (some 2) (.assign (tm 9))]
def cRTu (S:SN) (N:RN):Code:=
 (.seq (rg (rTu_0 S N))
 (.seq (rg (rTu_1 S N))
 .ret))
def rVi_0 (_S:SN) (_N:RN):List Oper:=[mk (some 2) (.assign (.const nilS))]
def rVi_1 (S:SN) (N:RN):List Oper:=[mk (some 3) (.move (tm 0)),cl (some 4) N.fTu [(tm 3)],cl (some 5) S.fUv [(tm 4)],mk (some 2) (.assign (tm 5))]
def cRVi (S:SN) (N:RN):Code:=
 (.seq (rg (rVi_0 S N))
 (.seq (rg (rVi_1 S N))
 .ret))
def rOB_0 (_S:SN) (N:RN):List Oper:=[mk (some 1) (.box N.tOc (tm 0)),mk (some 2) (.assign (.const nilS))]
def rOB_1 (S:SN) (N:RN):List Oper:=[mk (some 3) (.fieldAddr N.tOc (tm 1) 0),mk (some 4) (.load S.tB (tm 3))]
def rOB_2 (_S:SN) (N:RN):List Oper:=[cl (some 5) N.fVi [(ki .i64 (-1))],mk (some 2) (.assign (tm 5))]
def rOB_3 (S:SN) (N:RN):List Oper:=[mk (some 6) (.fieldAddr N.tOc (tm 1) 1),mk (some 7) (.load S.tSl (tm 6)),bi (some 8) .len [(tm 7)] [S.tSl] S.tInt,cl (some 9) N.fVi [(tm 8)],mk (some 10) (.fieldAddr N.tOc (tm 1) 1),mk (some 11) (.load S.tSl (tm 10)),bi (some 12) .append [(tm 9),(tm 11)] [S.tSl,S.tSl] S.tSl,mk (some 2) (.assign (tm 12))]
def cROB (S:SN) (N:RN):Code:=
 (.seq (rg (rOB_0 S N))
 (.seq (.seq (rg (rOB_1 S N))
  (.cond (tm 4) (.seq (rg (rOB_2 S N))
   .ret)
  .skip))
 (.seq (.region 1 (rOB_3 S N).toArray true)
 .ret)))
def rHB_0 (_S:SN) (N:RN):List Oper:=[mk (some 1) (.box N.tH (tm 0)),mk (some 2) (.assign (.const nilS))]
def rHB_1 (S:SN) (N:RN):List Oper:=[mk (some 4) (.fieldAddr N.tH (tm 1) 0),mk (some 5) (.load N.tStr (tm 4)),bi (some 6) .len [(tm 5)] [N.tStr] S.tInt,cl (some 7) N.fVi [(tm 6)],mk (some 8) (.fieldAddr N.tH (tm 1) 0),mk (some 9) (.load N.tStr (tm 8)),bi (some 10) .append [(tm 7),(tm 9)] [S.tSl,N.tStr] S.tSl,mk (some 3) (.assign (tm 10))]
def rHB_2 (S:SN) (N:RN):List Oper:=[mk (some 11) (.move (tm 3)),mk (some 12) (.fieldAddr N.tH (tm 1) 1),mk (some 13) (.load N.tOc (tm 12)),cl (some 14) N.fOB [(tm 13)],bi (some 15) .append [(tm 11),(tm 14)] [S.tSl,S.tSl] S.tSl,mk (some 2) (.assign (tm 15))]
def cRHB (S:SN) (N:RN):Code:=
 (.seq (rg (rHB_0 S N))
 (.seq (.region 1 (rHB_1 S N).toArray true)
 (.seq (rg (rHB_2 S N))
 .ret)))
def rRR_0 (_S:SN) (N:RN):List Oper:=[mk (some 1) (.box N.tR (tm 0)),mk (some 2) (.assign (.const nilS))]
def rRR_1 (S:SN) (N:RN):List Oper:=[mk (some 6) (.fieldAddr N.tR (tm 1) 1),mk (some 7) (.load N.tI8 (tm 6)),mk (some 8) (.convert N.tI8 S.tU8 (tm 7)),mk (some 9) (.buildSlice S.tSl 1 #[(0,(tm 8))]),mk (some 10) (.fieldAddr N.tR (tm 1) 2),mk (some 11) (.load S.tI64 (tm 10)),cl (some 12) N.fVi [(tm 11)],bi (some 13) .append [(tm 9),(tm 12)] [S.tSl,S.tSl] S.tSl,mk (some 3) (.assign (tm 13))]
def rRR_2 (S:SN) (N:RN):List Oper:=[mk (some 14) (.move (tm 3)),mk (some 15) (.fieldAddr N.tR (tm 1) 3),mk (some 16) (.load N.tI32 (tm 15)),mk (some 17) (.convert N.tI32 S.tI64 (tm 16)),cl (some 18) N.fVi [(tm 17)],bi (some 19) .append [(tm 14),(tm 18)] [S.tSl,S.tSl] S.tSl,mk (some 3) (.assign (tm 19))]
def rRR_3 (S:SN) (N:RN):List Oper:=[mk (some 20) (.move (tm 3)),mk (some 21) (.fieldAddr N.tR (tm 1) 4),mk (some 22) (.load N.tOc (tm 21)),cl (some 23) N.fOB [(tm 22)],bi (some 24) .append [(tm 20),(tm 23)] [S.tSl,S.tSl] S.tSl,mk (some 3) (.assign (tm 24))]
def rRR_4 (S:SN) (N:RN):List Oper:=[mk (some 25) (.move (tm 3)),mk (some 26) (.fieldAddr N.tR (tm 1) 5),mk (some 27) (.load N.tOc (tm 26)),cl (some 28) N.fOB [(tm 27)],bi (some 29) .append [(tm 25),(tm 28)] [S.tSl,S.tSl] S.tSl,mk (some 3) (.assign (tm 29))]
def rRR_5 (S:SN) (N:RN):List Oper:=[mk (some 30) (.move (tm 3)),mk (some 31) (.fieldAddr N.tR (tm 1) 6),mk (some 32) (.load N.tHs (tm 31)),bi (some 33) .len [(tm 32)] [N.tHs] S.tInt,cl (some 34) N.fVi [(tm 33)],bi (some 35) .append [(tm 30),(tm 34)] [S.tSl,S.tSl] S.tSl,mk (some 3) (.assign (tm 35))]
def rRR_6 (S:SN) (N:RN):List Oper:=[mk (some 36) (.fieldAddr N.tR (tm 1) 6),mk (some 37) (.load N.tHs (tm 36)),bi (some 38) .len [(tm 37)] [N.tHs] S.tInt,mk (some 39) (.move (ki .i64 0))]
def rRR_7 (S:SN) (_N:RN):List Oper:=[mk (some 40) (.binOp .lss S.tInt (tm 39) (tm 38) 0)]
def rRR_8 (_S:SN) (N:RN):List Oper:=[mk (some 41) (.indexAddr N.tHs (tm 37) (tm 39)),mk (some 42) (.load N.tH (tm 41)),mk (some 5) (.alloc N.tH),mk none (.store N.tH (tm 5) (tm 42))]
def rRR_9 (S:SN) (N:RN):List Oper:=[mk (some 43) (.move (tm 3)),mk (some 44) (.load N.tH (tm 5)),cl (some 45) N.fHB [(tm 44)],bi (some 46) .append [(tm 43),(tm 45)] [S.tSl,S.tSl] S.tSl,mk (some 3) (.assign (tm 46))]
def rRR_10 (S:SN) (_N:RN):List Oper:=[mk (some 47) (.binOp .add S.tInt (tm 39) (ki .i64 1) 0),mk (some 39) (.move (tm 47))]
def rRR_11 (_S:SN) (_N:RN):List Oper:=[mk (some 48) (.move (tm 3)),mk (some 2) (.assign (tm 48))]
def cRRR (S:SN) (N:RN):Code:=
 (.seq (rg (rRR_0 S N))
 (.seq (.region 5 (rRR_1 S N).toArray true)
 (.seq (rg (rRR_2 S N))
 (.seq (rg (rRR_3 S N))
 (.seq (rg (rRR_4 S N))
 (.seq (rg (rRR_5 S N))
 (.seq (.seq (rg (rRR_6 S N))
  (.block 0 (.loop (.seq (rg (rRR_7 S N))
  (.seq (.cond (tm 40) .skip
   (.exit 0))
  (.seq (.block 1 (.seq (rg (rRR_8 S N))
   (rg (rRR_9 S N))))
  (rg (rRR_10 S N))))))))
 (.seq (rg (rRR_11 S N))
 .ret))))))))
def rRB_0 (_S:SN) (N:RN):List Oper:=[mk (some 1) (.box N.tR (tm 0)),mk (some 2) (.assign (.const nilS))]
def rRB_1 (S:SN) (N:RN):List Oper:=[mk (some 3) (.fieldAddr N.tR (tm 1) 0),mk (some 4) (.load N.tI32 (tm 3)),mk (some 5) (.convert N.tI32 S.tI64 (tm 4)),cl (some 6) N.fVi [(tm 5)],mk (some 7) (.load N.tR (tm 1)),cl (some 8) N.fRR [(tm 7)],bi (some 9) .append [(tm 6),(tm 8)] [S.tSl,S.tSl] S.tSl,mk (some 2) (.assign (tm 9))]
def cRRB (S:SN) (N:RN):Code:=
 (.seq (rg (rRB_0 S N))
 (.seq (.region 1 (rRB_1 S N).toArray true)
 .ret))
def rLit_0 (_S:SN) (N:RN):List Oper:=[mk (some 1) (.box N.tR (tm 0)),mk (some 2) (.assign (.const (.bool false)))]
def rLit_1 (S : SN) (N : RN) : List Oper := [mk (some 3) (.fieldAddr N.tR (tm 1) 6), mk (some 4) (.load N.tHs (tm 3)), bi (some 5) .len [(tm 4)] [N.tHs] S.tInt, mk (some 6) (.binOp .leq S.tInt (tm 5) (ki .i64 1000) 0), mk (some 7) (.move (tm 6)), gd 8 (.load N.tR (tm 1)) 4 true, gd 9 (.call ⟨.value (.func N.fRR), #[(tm 8)], #[]⟩) 4 true, ⟨(some 10), .call ⟨.builtin .len, #[(tm 9)], #[S.tSl]⟩, S.tInt, "", #[], some (4, true)⟩, gd 11 (.binOp .leq S.tInt (tm 10) (ki .i64 131072) 0) 4 true, mk (some 12) (.pick (tm 7) (tm 11) (.const (.bool false))), mk (some 2) (.assign (tm 12))]
def cRLit (S:SN) (N:RN):Code:=
 (.seq (rg (rLit_0 S N))
 (.seq (rg (rLit_1 S N))
 .ret))
def rBeh_0 (_S:SN) (_N:RN):List Oper:=[mk (some 6) (.assign (.const (.bool false)))]
def rBeh_1 (S:SN) (_N:RN):List Oper:=[mk (some 7) (.move (tm 0)),mk (some 8) (.buildSlice S.tSl 0 #[]),mk (some 9) (.move (tm 1)),bi (some 10) .append [(tm 8),(tm 9)] [S.tSl,S.tSl] S.tSl,mk (some 11) (.move (tm 2)),bi (some 12) .append [(tm 10),(tm 11)] [S.tSl,S.tSl] S.tSl,cl (some 13) S.fSame [(tm 7),(tm 12)],mk (some 6) (.assign (tm 13))]
def cRBeh (S:SN) (N:RN):Code:=
 (.seq (rg (rBeh_0 S N))
 (.seq (rg (rBeh_1 S N))
 .ret))
def rNull_0 (_S:SN) (N:RN):List Oper:=[mk (some 1) (.box N.tOc (tm 0)),mk (some 2) (.assign (.const nilS))]
def rNull_1 (S:SN) (N:RN):List Oper:=[mk (some 3) (.fieldAddr N.tOc (tm 1) 0),mk (some 4) (.load S.tB (tm 3))]
def rNull_2 (_S:SN) (_N:RN):List Oper:=[mk (some 2) (.assign (.const nilS))]
def rNull_3 (S:SN) (N:RN):List Oper:=[mk (some 5) (.buildSlice S.tSl 0 #[]),mk (some 6) (.fieldAddr N.tOc (tm 1) 1),mk (some 7) (.load S.tSl (tm 6)),bi (some 8) .append [(tm 5),(tm 7)] [S.tSl,S.tSl] S.tSl,mk (some 2) (.assign (tm 8))]
def cRNull (S:SN) (N:RN):Code:=
 (.seq (rg (rNull_0 S N))
 (.seq (.seq (rg (rNull_1 S N))
  (.cond (tm 4) (.seq (rg (rNull_2 S N))
   .ret)
  .skip))
 (.seq (rg (rNull_3 S N))
 .ret)))
def rOwn_0 (_S:SN) (_N:RN):List Oper:=[mk (some 2) (.assign (.const nilS))]
def rOwn_1 (S:SN) (_N:RN):List Oper:=[mk (some 3) (.move (tm 0)),bi (some 4) .append [(.const nilS),(tm 3)] [S.tSl,S.tSl] S.tSl,mk (some 2) (.assign (tm 4))]
def cROwn (S:SN) (N:RN):Code:=
 (.seq (rg (rOwn_0 S N))
 (.seq (rg (rOwn_1 S N))
 .ret))
def rAVi_0 (_S:SN) (_N:RN):List Oper:=[mk (some 4) (.assign (.const nilS))]
def rAVi_1 (S:SN) (N:RN):List Oper:=[mk (some 5) (.move (tm 0)),mk (some 6) (.move (tm 1)),mk (some 7) (.convert N.tI32 S.tU32 (tm 6)),mk (some 8) (.binOp .shl S.tU32 (tm 7) (ki .u64 1) 0),mk (some 9) (.move (tm 1)),mk (some 10) (.binOp .shr N.tI32 (tm 9) (ki .u64 31) 0),mk (some 11) (.convert N.tI32 S.tU32 (tm 10)),mk (some 12) (.binOp .xor S.tU32 (tm 8) (tm 11) 0),cl (some 13) N.fAUv [(tm 5),(tm 12)],mk (some 4) (.assign (tm 13))]
def cRAVi (S:SN) (N:RN):Code:=
 (.seq (rg (rAVi_0 S N))
 (.seq (rg (rAVi_1 S N))
 .ret))
def rAI8_0 (_S:SN) (_N:RN):List Oper:=[mk (some 4) (.assign (.const nilS))]
def rAI8_1 (S:SN) (N:RN):List Oper:=[mk (some 5) (.move (tm 0)),mk (some 6) (.move (tm 1)),mk (some 7) (.convert N.tI8 S.tU8 (tm 6)),mk (some 8) (.buildSlice S.tSl 1 #[(0,(tm 7))]),bi (some 9) .append [(tm 5),(tm 8)] [S.tSl,S.tSl] S.tSl,mk (some 4) (.assign (tm 9))]
def cRAI8 (S:SN) (N:RN):Code:=
 (.seq (rg (rAI8_0 S N))
 (.seq (rg (rAI8_1 S N))
 .ret))
def rAVl_0 (_S:SN) (_N:RN):List Oper:=[mk (some 4) (.assign (.const nilS))]
def rAVl_1 (S:SN) (N:RN):List Oper:=[mk (some 5) (.move (tm 0)),mk (some 6) (.move (tm 1)),mk (some 7) (.convert S.tI64 S.tU64 (tm 6)),mk (some 8) (.binOp .shl S.tU64 (tm 7) (ki .u64 1) 0),mk (some 9) (.move (tm 1)),mk (some 10) (.binOp .shr S.tI64 (tm 9) (ki .u64 63) 0),mk (some 11) (.convert S.tI64 S.tU64 (tm 10)),mk (some 12) (.binOp .xor S.tU64 (tm 8) (tm 11) 0),cl (some 13) N.fAUl [(tm 5),(tm 12)],mk (some 4) (.assign (tm 13))]
def cRAVl (S:SN) (N:RN):Code:=
 (.seq (rg (rAVl_0 S N))
 (.seq (rg (rAVl_1 S N))
 .ret))
def rAVb_0 (_S:SN) (_N:RN):List Oper:=[mk (some 4) (.assign (.const nilS))]
def rAVb_1 (S:SN) (_N:RN):List Oper:=[mk (some 5) (.move (tm 1)),mk (some 6) (.binOp .eql S.tSl (tm 5) (.const nilS) 0)]
def rAVb_2 (_S:SN) (N:RN):List Oper:=[mk (some 7) (.move (tm 0)),cl (some 8) N.fAVi [(tm 7),(ki .i32 (-1))],mk (some 4) (.assign (tm 8))]
def rAVb_3 (S:SN) (N:RN):List Oper:=[mk (some 9) (.move (tm 0)),mk (some 10) (.move (tm 1)),bi (some 11) .len [(tm 10)] [S.tSl] S.tInt,mk (some 12) (.convert S.tInt N.tI32 (tm 11)),cl (some 13) N.fAVi [(tm 9),(tm 12)],mk (some 0) (.assign (tm 13))]
def rAVb_4 (S:SN) (_N:RN):List Oper:=[mk (some 14) (.move (tm 0)),mk (some 15) (.move (tm 1)),bi (some 16) .append [(tm 14),(tm 15)] [S.tSl,S.tSl] S.tSl,mk (some 4) (.assign (tm 16))]
def cRAVb (S:SN) (N:RN):Code:=
 (.seq (rg (rAVb_0 S N))
 (.seq (.seq (rg (rAVb_1 S N))
  (.cond (tm 6) (.seq (rg (rAVb_2 S N))
   .ret)
  .skip))
 (.seq (rg (rAVb_3 S N))
 (.seq (rg (rAVb_4 S N))
 .ret))))
def rAVs_0 (_S:SN) (_N:RN):List Oper:=[mk (some 4) (.assign (.const nilS))]
def rAVs_1 (S:SN) (N:RN):List Oper:=[mk (some 5) (.move (tm 0)),mk (some 6) (.move (tm 1)),bi (some 7) .len [(tm 6)] [N.tStr] S.tInt,mk (some 8) (.convert S.tInt N.tI32 (tm 7)),cl (some 9) N.fAVi [(tm 5),(tm 8)],mk (some 0) (.assign (tm 9))]
def rAVs_2 (S:SN) (N:RN):List Oper:=[mk (some 10) (.move (tm 0)),mk (some 11) (.move (tm 1)),bi (some 12) .append [(tm 10),(tm 11)] [S.tSl,N.tStr] S.tSl,mk (some 4) (.assign (tm 12))]
def cRAVs (S:SN) (N:RN):Code:=
 (.seq (rg (rAVs_0 S N))
 (.seq (rg (rAVs_1 S N))
 (.seq (rg (rAVs_2 S N))
 .ret)))
def rApp_0 (_S:SN) (_N:RN):List Oper:=[mk (some 4) (.assign (.const nilS))]
def rApp_1 (_S:SN) (N:RN):List Oper:=[mk (some 16) (.move (tm 0)),mk (some 17) (.nilCheck (tm 16)),mk (some 18) (.fieldAddr N.tKR (tm 17) 0),mk (some 19) (.load N.tI32 (tm 18)),mk (some 5) (.assign (tm 19))]
def rApp_2 (_S:SN) (N:RN):List Oper:=[mk (some 20) (.move (tm 1)),mk (some 21) (.move (tm 5)),cl (some 22) N.fAVi [(tm 20),(tm 21)],mk (some 1) (.assign (tm 22))]
def rApp_3 (_S:SN) (N:RN):List Oper:=[mk (some 23) (.move (tm 0)),mk (some 24) (.nilCheck (tm 23)),mk (some 25) (.fieldAddr N.tKR (tm 24) 1),mk (some 26) (.load N.tI8 (tm 25)),mk (some 6) (.assign (tm 26))]
def rApp_4 (_S:SN) (N:RN):List Oper:=[mk (some 27) (.move (tm 1)),mk (some 28) (.move (tm 6)),cl (some 29) N.fAI8 [(tm 27),(tm 28)],mk (some 1) (.assign (tm 29))]
def rApp_5 (S:SN) (N:RN):List Oper:=[mk (some 30) (.move (tm 0)),mk (some 31) (.nilCheck (tm 30)),mk (some 32) (.fieldAddr N.tKR (tm 31) 3),mk (some 33) (.load S.tI64 (tm 32)),mk (some 7) (.assign (tm 33))]
def rApp_6 (S:SN) (_N:RN):List Oper:=[mk (some 34) (.move (tm 7)),mk (some 35) (.binOp .eql S.tI64 (tm 34) (ki .i64 0) 0)]
def rApp_7 (S:SN) (N:RN):List Oper:=[mk (some 36) (.move (tm 0)),mk (some 37) (.nilCheck (tm 36)),mk (some 38) (.fieldAddr N.tKR (tm 37) 2),mk (some 39) (.load N.tI32 (tm 38)),mk (some 40) (.convert N.tI32 S.tI64 (tm 39)),mk (some 7) (.assign (tm 40))]
def rApp_8 (_S:SN) (N:RN):List Oper:=[mk (some 41) (.move (tm 1)),mk (some 42) (.move (tm 7)),cl (some 43) N.fAVl [(tm 41),(tm 42)],mk (some 1) (.assign (tm 43))]
def rApp_9 (_S:SN) (N:RN):List Oper:=[mk (some 44) (.move (tm 0)),mk (some 45) (.nilCheck (tm 44)),mk (some 46) (.fieldAddr N.tKR (tm 45) 4),mk (some 47) (.load N.tI32 (tm 46)),mk (some 8) (.assign (tm 47))]
def rApp_10 (_S:SN) (N:RN):List Oper:=[mk (some 48) (.move (tm 1)),mk (some 49) (.move (tm 8)),cl (some 50) N.fAVi [(tm 48),(tm 49)],mk (some 1) (.assign (tm 50))]
def rApp_11 (S:SN) (N:RN):List Oper:=[mk (some 51) (.move (tm 0)),mk (some 52) (.nilCheck (tm 51)),mk (some 53) (.fieldAddr N.tKR (tm 52) 5),mk (some 54) (.load S.tSl (tm 53)),mk (some 9) (.assign (tm 54))]
def rApp_12 (_S:SN) (N:RN):List Oper:=[mk (some 55) (.move (tm 1)),mk (some 56) (.move (tm 9)),cl (some 57) N.fAVb [(tm 55),(tm 56)],mk (some 1) (.assign (tm 57))]
def rApp_13 (S:SN) (N:RN):List Oper:=[mk (some 58) (.move (tm 0)),mk (some 59) (.nilCheck (tm 58)),mk (some 60) (.fieldAddr N.tKR (tm 59) 6),mk (some 61) (.load S.tSl (tm 60)),mk (some 10) (.assign (tm 61))]
def rApp_14 (_S:SN) (N:RN):List Oper:=[mk (some 62) (.move (tm 1)),mk (some 63) (.move (tm 10)),cl (some 64) N.fAVb [(tm 62),(tm 63)],mk (some 1) (.assign (tm 64))]
def rApp_15 (_S:SN) (N:RN):List Oper:=[mk (some 65) (.move (tm 0)),mk (some 66) (.nilCheck (tm 65)),mk (some 67) (.fieldAddr N.tKR (tm 66) 7),mk (some 68) (.load N.tKHs (tm 67)),mk (some 11) (.assign (tm 68))]
def rApp_16 (S:SN) (N:RN):List Oper:=[mk (some 69) (.move (tm 1)),mk (some 70) (.move (tm 11)),bi (some 71) .len [(tm 70)] [N.tKHs] S.tInt,mk (some 72) (.convert S.tInt N.tI32 (tm 71)),cl (some 73) N.fAVi [(tm 69),(tm 72)],mk (some 1) (.assign (tm 73))]
def rApp_17 (S:SN) (N:RN):List Oper:=[mk (some 74) (.move (tm 11)),bi (some 75) .len [(tm 74)] [N.tKHs] S.tInt,mk (some 76) (.move (ki .i64 0))]
def rApp_18 (S:SN) (_N:RN):List Oper:=[mk (some 77) (.binOp .lss S.tInt (tm 76) (tm 75) 0)]
def rApp_19 (_S:SN) (_N:RN):List Oper:=[mk (some 78) (.move (tm 76)),mk (some 12) (.assign (tm 78))]
def rApp_20 (_S:SN) (N:RN):List Oper:=[mk (some 79) (.move (tm 11)),mk (some 80) (.move (tm 12)),mk (some 81) (.indexAddr N.tKHs (tm 79) (tm 80)),mk (some 13) (.assign (tm 81))]
def rApp_21 (_S:SN) (N:RN):List Oper:=[mk (some 82) (.move (tm 13)),mk (some 83) (.nilCheck (tm 82)),mk (some 84) (.fieldAddr N.tKH (tm 83) 0),mk (some 85) (.load N.tStr (tm 84)),mk (some 14) (.assign (tm 85))]
def rApp_22 (_S:SN) (N:RN):List Oper:=[mk (some 86) (.move (tm 1)),mk (some 87) (.move (tm 14)),cl (some 88) N.fAVs [(tm 86),(tm 87)],mk (some 1) (.assign (tm 88))]
def rApp_23 (S:SN) (N:RN):List Oper:=[mk (some 89) (.move (tm 13)),mk (some 90) (.nilCheck (tm 89)),mk (some 91) (.fieldAddr N.tKH (tm 90) 1),mk (some 92) (.load S.tSl (tm 91)),mk (some 15) (.assign (tm 92))]
def rApp_24 (_S:SN) (N:RN):List Oper:=[mk (some 93) (.move (tm 1)),mk (some 94) (.move (tm 15)),cl (some 95) N.fAVb [(tm 93),(tm 94)],mk (some 1) (.assign (tm 95))]
def rApp_25 (S:SN) (_N:RN):List Oper:=[mk (some 96) (.binOp .add S.tInt (tm 76) (ki .i64 1) 0),mk (some 76) (.move (tm 96))]
def rApp_26 (_S:SN) (_N:RN):List Oper:=[mk (some 97) (.move (tm 1)),mk (some 4) (.assign (tm 97))]
def cRApp (S:SN) (N:RN):Code:=
 (.seq (rg (rApp_0 S N))
 (.seq (.seq (rg (rApp_1 S N))
  (rg (rApp_2 S N)))
 (.seq (.seq (rg (rApp_3 S N))
  (rg (rApp_4 S N)))
 (.seq (.seq (rg (rApp_5 S N))
  (.seq (.seq (rg (rApp_6 S N))
   (.cond (tm 35) (rg (rApp_7 S N))
   .skip))
  (rg (rApp_8 S N))))
 (.seq (.seq (rg (rApp_9 S N))
  (rg (rApp_10 S N)))
 (.seq (.seq (rg (rApp_11 S N))
  (rg (rApp_12 S N)))
 (.seq (.seq (rg (rApp_13 S N))
  (rg (rApp_14 S N)))
 (.seq (.seq (rg (rApp_15 S N))
  (.seq (rg (rApp_16 S N))
  (.seq (rg (rApp_17 S N))
  (.block 0 (.loop (.seq (rg (rApp_18 S N))
  (.seq (.cond (tm 77) .skip
   (.exit 0))
  (.seq (.block 1 (.seq (rg (rApp_19 S N))
   (.seq (rg (rApp_20 S N))
   (.seq (.seq (rg (rApp_21 S N))
    (rg (rApp_22 S N)))
   (.seq (rg (rApp_23 S N))
   (rg (rApp_24 S N)))))))
  (rg (rApp_25 S N))))))))))
 (.seq (rg (rApp_26 S N))
 .ret)))))))))
def rMk_0 (_S:SN) (N:RN):List Oper:=[mk (some 3) (.box N.tR (tm 1)),mk (some 4) (.assign (.const nilS))]
def rMk_1 (S:SN) (N:RN):List Oper:=[mk (some 8) (.fieldAddr N.tR (tm 3) 0),mk (some 9) (.load N.tI32 (tm 8)),mk (some 10) (.fieldAddr N.tR (tm 3) 1),mk (some 11) (.load N.tI8 (tm 10)),mk (some 12) (.fieldAddr N.tR (tm 3) 2),mk (some 13) (.load S.tI64 (tm 12)),mk (some 14) (.fieldAddr N.tR (tm 3) 3),mk (some 15) (.load N.tI32 (tm 14)),mk (some 16) (.fieldAddr N.tR (tm 3) 4),mk (some 17) (.load N.tOc (tm 16)),cl (some 18) N.fNull [(tm 17)],mk (some 19) (.fieldAddr N.tR (tm 3) 5),mk (some 20) (.load N.tOc (tm 19)),cl (some 21) N.fNull [(tm 20)],mk (some 22) (.build N.tKR #[(0,(tm 9)),(1,(tm 11)),(3,(tm 13)),(4,(tm 15)),(5,(tm 18)),(6,(tm 21))]),mk (some 23) (.box N.tKR (tm 22)),mk (some 5) (.assign (tm 23))]
def rMk_2 (S:SN) (N:RN):List Oper:=[mk (some 24) (.fieldAddr N.tR (tm 3) 6),mk (some 25) (.load N.tHs (tm 24)),bi (some 26) .len [(tm 25)] [N.tHs] S.tInt,mk (some 27) (.move (ki .i64 0))]
def rMk_3 (S:SN) (_N:RN):List Oper:=[mk (some 28) (.binOp .lss S.tInt (tm 27) (tm 26) 0)]
def rMk_4 (_S:SN) (N:RN):List Oper:=[mk (some 29) (.indexAddr N.tHs (tm 25) (tm 27)),mk (some 30) (.load N.tH (tm 29)),mk (some 7) (.alloc N.tH),mk none (.store N.tH (tm 7) (tm 30))]
def rMk_5 (_S:SN) (N:RN):List Oper:=[mk (some 31) (.move (tm 5)),mk (some 32) (.move (tm 5)),mk (some 33) (.nilCheck (tm 32)),mk (some 34) (.fieldAddr N.tKR (tm 33) 7),mk (some 35) (.load N.tKHs (tm 34)),mk (some 36) (.fieldAddr N.tH (tm 7) 0),mk (some 37) (.load N.tStr (tm 36)),mk (some 38) (.fieldAddr N.tH (tm 7) 1),mk (some 39) (.load N.tOc (tm 38)),cl (some 40) N.fNull [(tm 39)],mk (some 41) (.build N.tKH #[(0,(tm 37)),(1,(tm 40))]),mk (some 42) (.buildSlice N.tKHs 1 #[(0,(tm 41))]),bi (some 43) .append [(tm 35),(tm 42)] [N.tKHs,N.tKHs] N.tKHs,mk (some 44) (.nilCheck (tm 31)),mk (some 45) (.fieldAddr N.tKR (tm 44) 7),mk none (.store N.tKHs (tm 45) (tm 43))]
def rMk_6 (S:SN) (_N:RN):List Oper:=[mk (some 46) (.binOp .add S.tInt (tm 27) (ki .i64 1) 0),mk (some 27) (.move (tm 46))]
def rMk_7 (_S:SN) (N:RN):List Oper:=[mk (some 47) (.move (tm 5)),mk (some 48) (.move (tm 0)),cl (some 49) N.fOwn [(tm 48)],cl (some 50) N.fApp [(tm 47),(tm 49)],mk (some 4) (.assign (tm 50))]
def cRMk (S:SN) (N:RN):Code:=
 (.seq (rg (rMk_0 S N))
 (.seq (.region 1 (rMk_1 S N).toArray true)
 (.seq (.seq (rg (rMk_2 S N))
  (.block 0 (.loop (.seq (rg (rMk_3 S N))
  (.seq (.cond (tm 28) .skip
   (.exit 0))
  (.seq (.block 1 (.seq (rg (rMk_4 S N))
   (.region 3 (rMk_5 S N).toArray true)))
  (rg (rMk_6 S N))))))))
 (.seq (rg (rMk_7 S N))
 .ret))))
def rLaw_0 (_S:SN) (N:RN):List Oper:=[mk (some 3) (.box N.tR (tm 1)),mk (some 4) (.assign (.const (.bool false)))]
def rLaw_1 (S:SN) (N:RN):List Oper:=[mk (some 5) (.move (tm 0)),bi (some 6) .len [(tm 5)] [S.tSl] S.tInt,mk (some 7) (.binOp .gtr S.tInt (tm 6) (ki .i64 2147483647) 0),mk (some 8) (.move (tm 7)),gd 9 (.load N.tR (tm 3)) 3 false,gd 10 (.call ⟨.value (.func N.fZ9),#[(tm 9)],#[]⟩) 3 false,gd 11 (.unOp .not S.tB (tm 10)) 3 false,mk (some 12) (.pick (tm 8) (.const (.bool true)) (tm 11))]
def rLaw_2 (_S:SN) (_N:RN):List Oper:=[mk (some 4) (.assign (.const (.bool true)))]
def rLaw_3 (S : SN) (N : RN) : List Oper := [mk (some 13) (.load N.tR (tm 3)), cl (some 14) N.fLit [(tm 13)], mk (some 15) (.unOp .not S.tB (tm 14)), mk (some 16) (.move (tm 15)), gd 17 (.move (tm 0)) 3 false, ⟨(some 18), .call ⟨.builtin .len, #[(tm 17)], #[S.tSl]⟩, S.tInt, "", #[], some (3, false)⟩, gd 19 (.binOp .gtr S.tInt (tm 18) (ki .i64 131072) 0) 3 false, mk (some 20) (.pick (tm 16) (.const (.bool true)) (tm 19)), mk (some 21) (.move (tm 20)), gd 22 (.move (tm 0)) 8 false, gd 23 (.load N.tR (tm 3)) 8 false, gd 24 (.call ⟨.value (.func N.fMk), #[(tm 22), (tm 23)], #[]⟩) 8 false, gd 25 (.move (tm 0)) 8 false, gd 26 (.load N.tR (tm 3)) 8 false, gd 27 (.call ⟨.value (.func N.fRB), #[(tm 26)], #[]⟩) 8 false, gd 28 (.call ⟨.value (.func N.fBeh), #[(tm 24), (tm 25), (tm 27)], #[]⟩) 8 false, mk (some 29) (.pick (tm 21) (.const (.bool true)) (tm 28)), mk (some 4) (.assign (tm 29))]
def cRLaw (S:SN) (N:RN):Code:=
 (.seq (rg (rLaw_0 S N))
 (.seq (.seq (rg (rLaw_1 S N))
  (.cond (tm 12) (.seq (rg (rLaw_2 S N))
   .ret)
  .skip))
 (.seq (.region 4 (rLaw_3 S N).toArray true)
 .ret)))
end Go.Proofs.Ytlnmiphokmhajaa.Kx

namespace Go.Proofs.Ytlnmiphokmhajaa.Kx
open Go
set_option maxRecDepth 4000
def zig (x:Int):Nat:=if x < 0 then (-2 * x - 1).toNat else (2 * x).toNat
def vint (x:Int):Bs:=uvar (zig x)
theorem wrap_u32' (n:Int):IntKind.u32.wrap n=n % 4294967296:=by simp [IntKind.wrap,IntKind.bits,IntKind.signed]
theorem xor_ones64 (p:Nat) (h:p < 18446744073709551616):p ^^^ 18446744073709551615=18446744073709551615 - p:=by
 have e:=congrArg BitVec.toNat (BitVec.xor_allOnes (x:=BitVec.ofNat 64 p))
 rw [BitVec.toNat_xor,BitVec.toNat_not,BitVec.toNat_ofNat,BitVec.toNat_allOnes,Nat.mod_eq_of_lt h] at e
 exact e
theorem xor_ones32 (p:Nat) (h:p < 4294967296):p ^^^ 4294967295=4294967295 - p:=by
 have e:=congrArg BitVec.toNat (BitVec.xor_allOnes (x:=BitVec.ofNat 32 p))
 rw [BitVec.toNat_xor,BitVec.toNat_not,BitVec.toNat_ofNat,BitVec.toNat_allOnes,Nat.mod_eq_of_lt h] at e
 exact e
structure Ref0 (P:Program) (S:SN) (N:RN):Prop where
 mixed:P.follows .mixedOrders=true
 dInt:P.underlying S.tInt=some (.int .i64)
 dI64:P.underlying S.tI64=some (.int .i64)
 dU8:P.underlying S.tU8=some (.int .u8)
 dU32:P.underlying S.tU32=some (.int .u32)
 dU64:P.underlying S.tU64=some (.int .u64)
 dI32:P.underlying N.tI32=some (.int .i32)
 dI8:P.underlying N.tI8=some (.int .i8)
 dStr:P.underlying N.tStr=some .string
 oct:OctT P S.tSl S.tU8
 dHs:P.underlying N.tHs=some (.slice N.tH)
 dKHs:P.underlying N.tKHs=some (.slice N.tKH)
 vB:VarIs P S.tB false 1
 vSl:VarIs P S.tSl false 1
 vI64:VarIs P S.tI64 false 1
 vI32:VarIs P N.tI32 false 1
 vI8:VarIs P N.tI8 false 1
 vStr:VarIs P N.tStr false 1
 vHs:VarIs P N.tHs false 1
 vKHs:VarIs P N.tKHs false 1
 vOc:VarIs P N.tOc true 2
 vH:VarIs P N.tH true 3
 vR:VarIs P N.tR true 9
 o0:FldIs P N.tOc 0 S.tB 0 false 1
 o1:FldIs P N.tOc 1 S.tSl 1 false 1
 h0:FldIs P N.tH 0 N.tStr 0 false 1
 h1:FldIs P N.tH 1 N.tOc 1 true 2
 r0:FldIs P N.tR 0 N.tI32 0 false 1
 r1:FldIs P N.tR 1 N.tI8 1 false 1
 r2:FldIs P N.tR 2 S.tI64 2 false 1
 r3:FldIs P N.tR 3 N.tI32 3 false 1
 r4:FldIs P N.tR 4 N.tOc 4 true 2
 r5:FldIs P N.tR 5 N.tOc 6 true 2
 r6:FldIs P N.tR 6 N.tHs 8 false 1
 k0:FldIs P N.tKR 0 N.tI32 0 false 1
 k1:FldIs P N.tKR 1 N.tI8 1 false 1
 k2:FldIs P N.tKR 2 N.tI32 2 false 1
 k3:FldIs P N.tKR 3 S.tI64 3 false 1
 k4:FldIs P N.tKR 4 N.tI32 4 false 1
 k5:FldIs P N.tKR 5 S.tSl 5 false 1
 k6:FldIs P N.tKR 6 S.tSl 6 false 1
 k7:FldIs P N.tKR 7 N.tKHs 7 false 1
 q0:FldIs P N.tKH 0 N.tStr 0 false 1
 q1:FldIs P N.tKH 1 S.tSl 1 false 1
 sKH:∀ w,(sizeOf N.tKH).run P w=.ok 2 w
 iKH:∃ i,P.info? N.tKH=some i/\i.zero=some (.agg #[.string ⟨#[]⟩,nilS])/\i.size=2/\i.bytes=40
 bKR:∀ (p q r s:Int) (m1 m2:Option Addr) (n1 c1 n2 c2:Nat) (w:World),(Instr.build N.tKR #[(0,.int .i32 p),(1,.int .i8 q),(3,.int .i64 r),(4,.int .i32 s),(5,.slice m1 n1 c1),(6,.slice m2 n2 c2)]).run P w=.ok (.agg #[.int .i32 p,.int .i8 q,.int .i32 0,.int .i64 r,.int .i32 s,.slice m1 n1 c1,.slice m2 n2 c2,.slice none 0 0]) w
 bKH:∀ (s:ByteArray) (m:Option Addr) (n c:Nat) (w:World),(Instr.build N.tKH #[(0,.string s),(1,.slice m n c)]).run P w=.ok (.agg #[.string s,.slice m n c]) w
 bSH:∀ (s:ByteArray) (m:Option Addr) (n c:Nat) (w:World),(Instr.buildSlice N.tKHs 1 #[(0,.agg #[.string s,.slice m n c])]).run P w=.ok (.slice (some ⟨w.heap.size,0,none⟩) 1 1) (w.alloc (.cells #[.string s,.slice m n c] N.tKH (0,0)))
 zH:∀ w,(zeroValue N.tH).run P w=.ok (.agg #[.string ⟨#[]⟩,.bool false,nilS]) w
abbrev Oc:=Bool × Bs
def OcAt (w:World) (cs:List Value) (o:Oc):Prop:=∃ v,cs=[.bool o.1,v]/\OcRp w v o.2
def HdAt (w:World) (cs:List Value) (h:Bs × Oc):Prop:=∃ v,cs=[.string ⟨h.1.toArray⟩,.bool h.2.1,v]/\OcRp w v h.2.2/\h.1.length<=maxLen
structure Rec where
 len:Int
 att:Int
 delta:Int
 off:Int
 key:Oc
 val:Oc
 hs:List (Bs × Oc)
def RecAt (w:World) (cs:List Value) (x:Rec):Prop:=
 ∃ kv vv hv,cs=[.int .i32 x.len,.int .i8 x.att,.int .i64 x.delta,.int .i32 x.off,.bool x.key.1,kv,.bool x.val.1,vv,hv]/\OcRp w kv x.key.2/\OcRp w vv x.val.2/\RowRp w 3 (HdAt w) hv x.hs /\
  (-2147483648<=x.len/\x.len < 2147483648)/\(-128<=x.att/\x.att < 128)/\(-9223372036854775808<=x.delta/\x.delta < 9223372036854775808)/\(-2147483648<=x.off/\x.off < 2147483648)
def ocB (o:Oc):Bs:=if o.1 then vint (-1) else vint o.2.length++o.2
def hdB (h:Bs × Oc):Bs:=vint h.1.length++h.1++ocB h.2
def restB (x:Rec):Bs:=[UInt8.ofNat (x.att % 256).toNat]++vint x.delta++vint x.off++ocB x.key++ocB x.val++vint x.hs.length++(x.hs.map hdB).flatten
def recB (x:Rec):Bs:=vint x.len++restB x
section
variable {P:Program} {S:SN} {N:RN}
section
variable {ops:Array Oper} {Q:Exit->Act->World->Prop} {r:List Oper} {n:Nat} {a:Act} {w:World} {l:List (Nat × Value)}
theorem run_shl2 {k k2:IntKind} {A:Nat} {x:Int} {s:Nat} (hs:s<=k.bits) (w:World):(binOp .shl A (.int k x) (.int k2 (s:Int))).run P w=.ok (.int k (k.wrap (x * 2 ^ s))) w:=by
 have h1:¬ ((s:Int) < 0):=by omega
 have h2:min s k.bits=s:=by omega
 simp only [binOp,Op.shift,h1,if_false,Int.toNat_natCast,h2,Sem.run_pure]
theorem st_shl (h:St n a l) {d:Nat} {x y:Operand} {T:Nat} {k k2:IntKind} {p:Int} {s:Nat} (hx:Hd l x (.int k p)) (hy:Hd l y (.int k2 (s:Int))) (hs:s<=k.bits) (hd:d < n) (c:∀ a',St n a' ((d,.int k (k.wrap (p * 2 ^ s))) :: l)->wpList P ops Q r a' w) :
  wpList P ops Q (mk (some d) (.binOp .shl T x y 0) :: r) a w:=by
 refine ql_ ?_ (c _ (h.put _ hd))
 have he:(eqGuard .shl T x y (.int k p) (.int k2 (s:Int))).run P w=.ok () w:=by
  unfold eqGuard
  simp
 simp only [execOp,mk,hx n a h,hy n a h,Sem.run_bind,he,Result.andThen_ok,run_shl2 hs,Sem.run_pure]
end
theorem zig64 {x:Int} (h1:-9223372036854775808<=x) (h2:x < 9223372036854775808):bits .xor .u64 (IntKind.u64.wrap (IntKind.u64.wrap x * 2 ^ 1)) (IntKind.u64.wrap (x / 2 ^ 63))=((zig x:Nat):Int):=by
 simp only [IntKind.wrap_u64]
 by_cases hx:x < 0
 ·have e1:x % 18446744073709551616 * 2 ^ 1 % 18446744073709551616=(((18446744073709551616 + 2 * x).toNat:Nat):Int):=by omega
  have e2:x / 2 ^ 63 % 18446744073709551616=((18446744073709551615:Nat):Int):=by omega
  rw [e1,e2,u64_xor_nat _ _ (by omega) (by omega),xor_ones64 _ (by omega)]
  simp only [zig,if_pos hx]
  omega
 ·have e1:x % 18446744073709551616 * 2 ^ 1 % 18446744073709551616=(((2 * x).toNat:Nat):Int):=by omega
  have e2:x / 2 ^ 63 % 18446744073709551616=((0:Nat):Int):=by omega
  rw [e1,e2,u64_xor_nat _ _ (by omega) (by omega),Nat.xor_zero]
  simp only [zig,if_neg hx]
theorem zig32 {x:Int} (h1:-2147483648<=x) (h2:x < 2147483648):bits .xor .u32 (IntKind.u32.wrap (IntKind.u32.wrap x * 2 ^ 1)) (IntKind.u32.wrap (x / 2 ^ 31))=((zig x:Nat):Int):=by
 simp only [wrap_u32']
 by_cases hx:x < 0
 ·have e1:x % 4294967296 * 2 ^ 1 % 4294967296=(((4294967296 + 2 * x).toNat:Nat):Int):=by omega
  have e2:x / 2 ^ 31 % 4294967296=((4294967295:Nat):Int):=by omega
  rw [e1,e2,u32_xor_nat _ _ (by omega) (by omega),xor_ones32 _ (by omega)]
  simp only [zig,if_pos hx]
  omega
 ·have e1:x % 4294967296 * 2 ^ 1 % 4294967296=(((2 * x).toNat:Nat):Int):=by omega
  have e2:x / 2 ^ 31 % 4294967296=((0:Nat):Int):=by omega
  rw [e1,e2,u32_xor_nat _ _ (by omega) (by omega),Nat.xor_zero]
  simp only [zig,if_neg hx]
theorem zig_lt {x:Int} (h1:-9223372036854775808<=x) (h2:x < 9223372036854775808):zig x < 18446744073709551616:=by
 simp only [zig];split <;> omega
theorem zig_lt32 {x:Int} (h1:-2147483648<=x) (h2:x < 2147483648):zig x < 4294967296:=by
 simp only [zig];split <;> omega
theorem run_zig64 {A:Nat} {x:Int} (h1:-9223372036854775808<=x) (h2:x < 9223372036854775808) (w:World):(binOp .xor A (.int .u64 (IntKind.u64.wrap (IntKind.u64.wrap x * 2 ^ 1))) (.int .u64 (IntKind.u64.wrap (x / 2 ^ 63)))).run P w=.ok (.int .u64 ((zig x:Nat):Int)) w:=by
 rw [binOp_xor,intBits_xor,zig64 h1 h2];rfl
theorem run_zig32 {A:Nat} {x:Int} (h1:-2147483648<=x) (h2:x < 2147483648) (w:World):(binOp .xor A (.int .u32 (IntKind.u32.wrap (IntKind.u32.wrap x * 2 ^ 1))) (.int .u32 (IntKind.u32.wrap (x / 2 ^ 31)))).run P w=.ok (.int .u32 ((zig x:Nat):Int)) w:=by
 rw [binOp_xor,intBits_xor,zig32 h1 h2];rfl
theorem tu_calls (R:Ref0 P S N) (hfn:FnIs P N.fTu 10 [2] (cRTu S N)) {x:Int} (h1:-9223372036854775808<=x) (h2:x < 9223372036854775808) (w:World):Calls P N.fTu [.int .i64 x].toArray w fun e w'=>e=.returned (.int .u64 ((zig x:Nat):Int))/\w'=w:=by
 refine q3_ R.mixed hfn (by simp) _ (by simp) fun a h=>?_
 unfold cRTu
 refine qi_ (nrg (qa_ h .i (by omega) fun a h=>wpList_nil ?_))
 refine qi_ (nrg (qc_ h (.t rfl) (by omega) fun a h=>jb_ h (.t rfl) R.dI64 R.dU64 (by omega) fun a h=>st_shl h (s:=1) (.t rfl) .i (by simp [IntKind.bits]) (by omega) fun a h=>qc_ h (.t rfl) (by omega) fun a h=>st_shr h (s:=63) (.t rfl) .i (by simp [IntKind.bits]) (by omega) fun a h=>
  jb_ h (.t rfl) R.dI64 R.dU64 (by omega) fun a h=>st_bin h (.t rfl) (.t rfl) (by simp) (run_zig64 h1 h2 w) (by omega) fun a h=>qa_ h (.t rfl) (by omega) fun a h=>wpList_nil (.ret ?_)))
 exact ret1 (RR:=fun e w'=>e=.returned (.int .u64 ((zig x:Nat):Int))/\w'=w) h rfl ⟨rfl,rfl⟩
theorem uv_calls0 (R:Ref0 P S N) (hfn:FnIs P S.fUv 20 [2] (csUvr S)) {x:Nat} (hx:x < 18446744073709551616) (w:World):Calls P S.fUv [.int .u64 (x:Int)].toArray w (jd_ S.tU8 (uvar x) w):=by
 refine q3_ R.mixed hfn (by simp) _ (by simp) fun a h=>?_
 unfold csUvr
 refine qi_ (nrg (qa_ h .c (by omega) fun a h=>wpList_nil ?_))
 refine qi_ (nrg (qa_ h .c (by omega) fun a h=>wpList_nil ?_))
 refine qi_ ?_
 refine st_loop (fun m a' w'=>∃ f v bs,f<=9/\m < 128 ^ (f + 1)/\bs++uvarAux f m=uvar x/\qu_ w' w.heap.size S.tU8 v bs/\Fa0 w w'/\St 20 a' [(0,.int .u64 (m:Int)),(3,v)]) x ⟨x,Nat.le_refl _,9,nilS,[],Nat.le_refl _,by omega,rfl,qu_.nil _ _ _,Fa0.refl w,h.pick ⟨rfl,rfl,trivial⟩⟩ ?_
 rintro m a w' hm ⟨f,v,bs,hf,hm2,he,hd,hk,h⟩
 refine qi_ (qi_ (nrg (qc_ h (.t rfl) (by omega) fun a h=>st_cmp h rfl (.t rfl) .i (by omega) fun a h=>wpList_nil ?_)))
 have hbl:bs.length<=10:=by
  have h1:=congrArg List.length he
  have h2:=uvarAux_len 9 x
  simp only [List.length_append] at h1
  have:(uvar x).length<=10:=h2
  omega
 refine st_if h rfl (fun hb=>?_) (fun hb=>?_)
 ·have hgt:127 < m:=by simp [cmpB] at hb;omega
  obtain ⟨f,rfl⟩:∃ g,f=g + 1:=⟨f - 1,by
   rcases Nat.eq_zero_or_pos f with h0 | h0
   ·subst h0;simp at hm2;omega
   ·omega⟩
  rw [uvarAux_step hgt] at he
  refine .skip (.block (qi_ (nrg ?_)))
  refine qc_ h (.t rfl) (by omega) fun a h=>qc_ h (.t rfl) (by omega) fun a h=>?_
  refine st_bin h (.t rfl) .i (by simp) (run_and127 (.inr (.inr rfl)) (by simp only [IntKind.bits];omega) w') (by omega) fun a h=>jb_ h (.t rfl) R.dU64 R.dU8 (by omega) fun a h=>?_
  have hw:IntKind.u8.wrap ((m % 128:Nat):Int)=((m % 128:Nat):Int):=by simp [IntKind.wrap,IntKind.bits,IntKind.signed];omega
  rw [hw] at h
  refine st_bin h (.t rfl) .i (by simp) (run_or8 (by omega) w') (by omega) fun a h=>?_
  rw [octv_wrap (by omega)] at h
  refine st_push h R.oct (.t rfl) (fun _=>.t rfl) hd hk.size (by simp only [LIM];omega) (by omega) (by omega) fun v2 u w2 a hd2 hk2 h=>qa_ h (.t rfl) (by omega) fun a h=>wpList_nil ?_
  refine nrg (qc_ h (.t rfl) (by omega) fun a h=>st_shr h (s:=7) (.t rfl) .i (by simp [IntKind.bits]) (by omega) fun a h=>qa_ h (.t rfl) (by omega) fun a h=>wpList_nil ?_)
  have hdiv:(m:Int) / 2 ^ 7=((m / 128:Nat):Int):=by simp
  rw [hdiv] at h
  refine ⟨m / 128,by omega,by omega,f,v2,bs++[UInt8.ofNat (m % 128 + 128)],by omega,?_,?_,hd2,hk.trans hk2,h.pick ⟨rfl,rfl,trivial⟩⟩
  ·have:m < 128 ^ (f + 1) * 128:=by rw [<- Nat.pow_succ];exact hm2
   exact Nat.div_lt_of_lt_mul (by omega)
  ·rw [<- he];simp
 ·have hle:m<=127:=by simp [cmpB] at hb;omega
  rw [uvarAux_last hle] at he
  refine .exit ?_
  show NWP P _ _ a w'
  refine qi_ (nrg ?_)
  refine qc_ h (.t rfl) (by omega) fun a h=>qc_ h (.t rfl) (by omega) fun a h=>jb_ h (.t rfl) R.dU64 R.dU8 (by omega) fun a h=>?_
  have hw:IntKind.u8.wrap (m:Int)=(m:Int):=by simp [IntKind.wrap,IntKind.bits,IntKind.signed];omega
  rw [hw,octv_wrap (by omega)] at h
  refine st_push h R.oct (.t rfl) (fun _=>.t rfl) hd hk.size (by simp only [LIM];omega) (by omega) (by omega) fun v2 u w2 a hd2 hk2 h=>qa_ h (.t rfl) (by omega) fun a h=>wpList_nil (.ret ?_)
  rw [he] at hd2
  exact ret1 (RR:=jd_ S.tU8 (uvar x) w) h rfl (mk_of hd2 (hk.trans hk2))
def ViC (P:Program) (S:SN) (N:RN):Prop:=Ent P N.fVi/\∀ (x:Int) (w:World),-9223372036854775808<=x->x < 9223372036854775808->Calls P N.fVi [.int .i64 x].toArray w (jd_ S.tU8 (vint x) w)
theorem vi_calls (R:Ref0 P S N) (hTu:FnIs P N.fTu 10 [2] (cRTu S N)) (hUv:FnIs P S.fUv 20 [2] (csUvr S)) (hfn:FnIs P N.fVi 6 [2] (cRVi S N)):ViC P S N:=by
 refine ⟨hfn.ent,fun x w h1 h2=>?_⟩
 refine q3_ R.mixed hfn (by simp) _ (by simp) fun a h=>?_
 unfold cRVi
 refine qi_ (nrg (qa_ h .c (by omega) fun a h=>wpList_nil ?_))
 refine qi_ (nrg (qc_ h (.t rfl) (by omega) fun a h=>?_))
 refine qj_ h hTu.ent (vs:=[.int .i64 x]) (fun n a h=>by simp only [List.map_cons,List.map_nil];rw [Hd.t (l:=_) rfl n a h]) (tu_calls R hTu h1 h2 w) (by omega) fun e w' hR=>⟨_,hR.1,fun a h=>?_⟩
 obtain rfl:=hR.2
 refine qj_ h hUv.ent (vs:=[.int .u64 ((zig x:Nat):Int)]) (fun n a h=>by simp only [List.map_cons,List.map_nil];rw [Hd.t (l:=_) rfl n a h]) (uv_calls0 R hUv (zig_lt h1 h2) w') (by omega) fun e w2 hR=>?_
 obtain ⟨v,rfl,hd,hk⟩:=hR
 exact ⟨v,rfl,fun a h=>qa_ h (.t rfl) (by omega) fun a h=>wpList_nil (.ret (ret1 (RR:=jd_ S.tU8 (vint x) w') h rfl ⟨v,rfl,hd,hk⟩))⟩
end
end Go.Proofs.Ytlnmiphokmhajaa.Kx

namespace Go.Proofs.Ytlnmiphokmhajaa.Kx
open Go
set_option maxRecDepth 4000
section
variable {P:Program} {S:SN} {N:RN}
section
variable {ops:Array Oper} {Q:Exit->Act->World->Prop} {r:List Oper} {n:Nat} {a:Act} {w:World} {l:List (Nat × Value)} {I:World->Prop} {K:Act->Prop}
theorem se_len (h:St n a l) {d:Nat} {x:Operand} {F E ty m c:Nat} {base:Option Addr} (hx:Hd l x (.slice base m c)) (hF:P.underlying F=some (.slice E)) (hd:d < n) (k:∀ a',St n a' ((d,.int .i64 (m:Int)) :: l)->evF P I r a' K):evF P I (bi (some d) .len [x] [F] ty :: r) a K:=by
 refine ⟨.int .i64 (m:Int),fun w _=>?_,k _ (h.put _ hd)⟩
 simp [execOp,bi,resolve,invoke,builtin,hx n a h,Builtin.len_,run_underlying hF,goInt]
theorem se_lenS (h:St n a l) {d:Nat} {x:Operand} {T ty:Nat} {bs:Bs} (hx:Hd l x (.string ⟨bs.toArray⟩)) (hT:P.underlying T=some .string) (hd:d < n) (k:∀ a',St n a' ((d,.int .i64 (bs.length:Int)) :: l)->evF P I r a' K):evF P I (bi (some d) .len [x] [T] ty :: r) a K:=by
 refine ⟨.int .i64 (bs.length:Int),fun w _=>?_,k _ (h.put _ hd)⟩
 have hsz:ByteArray.size ⟨bs.toArray⟩=bs.length:=List.size_toArray
 simp [execOp,bi,resolve,invoke,builtin,hx n a h,Builtin.len_,run_underlying hT,goInt,hsz]
theorem st_lenS (h:St n a l) {d:Nat} {x:Operand} {T ty:Nat} {bs:Bs} (hx:Hd l x (.string ⟨bs.toArray⟩)) (hT:P.underlying T=some .string) (hd:d < n) (k:∀ a',St n a' ((d,.int .i64 (bs.length:Int)) :: l)->wpList P ops Q r a' w):wpList P ops Q (bi (some d) .len [x] [T] ty :: r) a w:=wl_lenStr (hx n a h) hT (k _ (h.put _ hd))
theorem se_conv (h:St n a l) {d:Nat} {x:Operand} {A B:Nat} {k k':IntKind} {m:Int} (hx:Hd l x (.int k m)) (hA:P.underlying A=some (.int k)) (hB:P.underlying B=some (.int k')) (hd:d < n) (c:∀ a',St n a' ((d,.int k' (k'.wrap m)) :: l)->evF P I r a' K) :
  evF P I (mk (some d) (.convert A B x) :: r) a K:=ev_conv (hx n a h) hA hB (c _ (h.put _ hd))
theorem st_appS (h:St n a l) (ot:OctT P S.tSl S.tU8) {d L tx:Nat} {x y:Operand} {dv sv:Value} {bs ss:Bs} (hx:Hd l x dv) (hy:Hd l y sv) (hd:qu_ w L S.tU8 dv bs) (hs:Src P 1 tx sv ss.length (ss.map octv) w) (hL:L<=w.heap.size) (hlim:bs.length + ss.length<=LIM) (hdn:d < n)
  (c:∀ v w' a',Gr L S.tU8 dv w v (bs++ss) w'->St n a' ((d,v) :: l)->wpList P ops Q r a' w'):wpList P ops Q (bi (some d) .append [x,y] [S.tSl,tx] S.tSl :: r) a w:=by
 obtain ⟨v,w',hrun,hg⟩:=q7_ (tx:=tx) (ty:=S.tSl) ot hd hs hL hlim
 have hw:Region.wanted (bi (some d) .append [x,y] [S.tSl,tx] S.tSl) (yielded ops a.tmps)=true:=by simp [Region.wanted,bi]
 unfold wpList
 rw [if_pos hw]
 refine .inl ?_
 unfold Oper.wp
 have:(execOp a.eval (bi (some d) .append [x,y] [S.tSl,tx] S.tSl)).run P w=.ok (.value v) w':=by
  simp [execOp,bi,resolve,invoke,builtin,hx n a h,hy n a h,hrun]
 rw [this]
 exact c v w' _ hg (h.put v hdn)
theorem sl_appS (h:St n a l) (hI:I w) (ot:OctT P S.tSl S.tU8) {d L tx:Nat} {x y:Operand} {dv sv:Value} {bs ss:Bs} (hx:Hd l x dv) (hy:Hd l y sv) (hd:qu_ w L S.tU8 dv bs) (hs:Src P 1 tx sv ss.length (ss.map octv) w) (hL:L<=w.heap.size) (hlim:bs.length + ss.length<=LIM) (hdn:d < n)
  (c:∀ v w' a',Gr L S.tU8 dv w v (bs++ss) w'->St n a' ((d,v) :: l)->wpLd P I Q r a' w'):wpLd P I Q (bi (some d) .append [x,y] [S.tSl,tx] S.tSl :: r) a w:=by
 obtain ⟨v,w',hrun,hg⟩:=q7_ (tx:=tx) (ty:=S.tSl) ot hd hs hL hlim
 refine ⟨hI,?_⟩
 unfold Oper.wp
 have:(execOp a.eval (bi (some d) .append [x,y] [S.tSl,tx] S.tSl)).run P w=.ok (.value v) w':=by
  simp [execOp,bi,resolve,invoke,builtin,hx n a h,hy n a h,hrun]
 rw [this]
 exact c v w' _ hg (h.put v hdn)
end
theorem HdAt.far {w0 w:World} (h:Fa0 w0 w) {cs:List Value} {o:Bs × Oc} (hs:HdAt w0 cs o):HdAt w cs o:=by
 obtain ⟨v,rfl,hv,hl⟩:=hs
 exact ⟨v,rfl,OcX.far hv h,hl⟩
theorem OcX.len {w:World} {X:Nat->Prop} {v:Value} {l:Bs} (h:OcX w X v l):l.length<=maxLen:=by
 rcases h with ⟨_,_,rfl⟩ | ⟨_,rfl⟩ | ⟨_,_,_,_,_,_,h1,h2,_⟩
 ·simp
 ·simp
 ·omega
def ObC (P:Program) (S:SN) (N:RN):Prop:=Ent P N.fOB/\∀ (o:Oc) (cs:List Value) (w:World),OcAt w cs o->(ocB o).length<=LIM->Calls P N.fOB [.agg cs.toArray].toArray w (jd_ S.tU8 (ocB o) w)
theorem ob_calls (R:Ref0 P S N) (V:ViC P S N) (hfn:FnIs P N.fOB 13 [2] (cROB S N)):ObC P S N:=by
 refine ⟨hfn.ent,fun o cs W ho hlim=>?_⟩
 obtain ⟨sv,rfl,hsv⟩:=ho
 obtain ⟨nl,bs⟩:=o
 dsimp only at hsv ⊢
 refine q3_ R.mixed hfn (by simp) _ (by simp) fun a h=>?_
 unfold cROB
 refine qi_ (nrg (st_box h (.t rfl) (by omega) fun a h=>?_))
 have hk:qd_ (fun _=>False) W (W.alloc (.cells [.bool nl,sv].toArray N.tOc (0,0))):=qd_.alloc _ _ _
 have hB:=q4_ W [.bool nl,sv] N.tOc
 generalize W.alloc (.cells [.bool nl,sv].toArray N.tOc (0,0))=w at hk hB ⊢
 have hf:Fa0 W w:=Fa0.of hk
 refine qa_ h .c (by omega) fun a h=>wpList_nil ?_
 refine qi_ (qi_ (nrg (qz_ h (.t rfl) R.o0 (by omega) fun a h=>qm_ h (.t rfl) R.o0.var (hB.at (j:=0) rfl) (by omega) fun a h=>wpList_nil ?_)))
 refine st_if h rfl (fun hb=>?_) (fun hb=>.skip ?_)
 ·subst hb
  refine qi_ (nrg (qj_ h V.1 (vs:=[.int .i64 (-1)]) (fun n a h=>rfl) (V.2 (-1) w (by omega) (by omega)) (by omega) fun e w' hR=>?_))
  obtain ⟨v,rfl,hd,hk2⟩:=hR
  refine ⟨v,rfl,fun a h=>qa_ h (.t rfl) (by omega) fun a h=>wpList_nil (.ret ?_)⟩
  exact ret1 (RR:=jd_ S.tU8 (ocB (true,bs)) W) h rfl (mk_of ((Gr.lower (L':=W.heap.size) hk.size (Gr.refl hd)).dst) (hf.kn hk2))
 ·subst hb
  have hlen:=hsv.len
  obtain ⟨base,c,hv,_⟩:=OcX.form hsv
  refine qi_ (ndrw [false,false,false,true,false,false,true,true] (fun w'=>Fa0 w w') (by kernel_rfl) ?_)
  show evF P _ [mk (some 6) (.fieldAddr N.tOc (tm 1) 1),mk (some 7) (.load S.tSl (tm 6)),bi (some 8) .len [(tm 7)] [S.tSl] S.tInt,mk (some 10) (.fieldAddr N.tOc (tm 1) 1),mk (some 11) (.load S.tSl (tm 10))] a
   fun af=>wpLd P _ _ [cl (some 9) N.fVi [(tm 8)],bi (some 12) .append [(tm 9),(tm 11)] [S.tSl,S.tSl] S.tSl,mk (some 2) (.assign (tm 12))] af w.drew
  refine se_fld h (.t rfl) R.o1 (by omega) fun a h=>q5_ h (.t rfl) R.o1.var (fun w' hI=>Fa0.cell hI (hB.at (j:=1) rfl)) (by omega) fun a h=>?_
  refine se_len h (m:=bs.length) (c:=c) (base:=base) (by rw [<- hv];exact .t rfl) R.oct.und (by omega) fun a h=>se_fld h (.t rfl) R.o1 (by omega) fun a h=>q5_ h (.t rfl) R.o1.var (fun w' hI=>Fa0.cell hI (hB.at (j:=1) rfl)) (by omega) fun a h=>se_nil ?_
  have hI0:Fa0 w w.drew:=Fa0.of (qd_.drew _ _)
  have hmx:bs.length < 9223372036854775808:=by simp only [maxLen] at hlen;omega
  refine sl_call h hI0 V.1 (vs:=[.int .i64 (bs.length:Int)]) (fun n a h=>by simp only [List.map_cons,List.map_nil];rw [Hd.t (l:=_) (i:=8) rfl n a h]) (V.2 bs.length w.drew (by omega) (by omega)) (by omega) fun e w2 hR=>?_
  obtain ⟨u,rfl,hu,hk2⟩:=hR
  have hI2:=hI0.kn hk2
  have hlim2:(vint bs.length).length + bs.length<=LIM:=by
   have:(ocB (false,bs)).length=(vint bs.length).length + bs.length:=by simp [ocB]
   omega
  have hdr:w.drew.heap.size=w.heap.size:=rfl
  have hW2:Fa0 W w2:=Fa0.of (hk.trans hI2.keeps)
  refine ⟨u,rfl,fun a h=>sl_app h hI2 R.oct (.t rfl) (.t rfl) hu (src_oc R.oct (OcX.far hsv hW2)) hk2.size hlim2 (by omega) fun v3 w3 a hg h=>?_⟩
  have hI3:Fa0 w w3:=hI2.up hg.keeps fun j hj=>(hu.own hj).1
  refine sl_assign h hI3 (.t rfl) (by omega) fun a h=>sl_nil hI3 (.ret ?_)
  exact ret1 (RR:=jd_ S.tU8 (ocB (false,bs)) W) h rfl (mk_of ((Gr.lower (L':=W.heap.size) hk.size (Gr.refl hg.dst)).dst) (Fa0.of (hk.trans hI3.keeps)))
def HbC (P:Program) (S:SN) (N:RN):Prop:=Ent P N.fHB/\∀ (x:Bs × Oc) (cs:List Value) (w:World),HdAt w cs x->(hdB x).length<=LIM->Calls P N.fHB [.agg cs.toArray].toArray w (jd_ S.tU8 (hdB x) w)
set_option maxHeartbeats 800000 in
theorem hb_calls (R:Ref0 P S N) (V:ViC P S N) (O:ObC P S N) (hfn:FnIs P N.fHB 16 [2] (cRHB S N)):HbC P S N:=by
 refine ⟨hfn.ent,fun x cs W hx hlim=>?_⟩
 obtain ⟨sv,rfl,hsv,hkl⟩:=hx
 obtain ⟨kb,nl,bs⟩:=x
 dsimp only at hsv hkl ⊢
 have he:hdB (kb,nl,bs)=vint kb.length++kb++ocB (nl,bs):=rfl
 rw [he] at hlim ⊢
 simp only [List.length_append] at hlim
 refine q3_ R.mixed hfn (by simp) _ (by simp) fun a h=>?_
 unfold cRHB
 refine qi_ (nrg (st_box h (.t rfl) (by omega) fun a h=>?_))
 have hk:qd_ (fun _=>False) W (W.alloc (.cells [.string ⟨kb.toArray⟩,.bool nl,sv].toArray N.tH (0,0))):=qd_.alloc _ _ _
 have hB:=q4_ W [.string ⟨kb.toArray⟩,.bool nl,sv] N.tH
 generalize W.alloc (.cells [.string ⟨kb.toArray⟩,.bool nl,sv].toArray N.tH (0,0))=w at hk hB ⊢
 have hf:Fa0 W w:=Fa0.of hk
 refine qa_ h .c (by omega) fun a h=>wpList_nil ?_
 refine qi_ (ndrw [false,false,false,true,false,false,true,true] (fun w'=>Fa0 w w') (by kernel_rfl) ?_)
 show evF P _ [mk (some 4) (.fieldAddr N.tH (tm 1) 0),mk (some 5) (.load N.tStr (tm 4)),bi (some 6) .len [(tm 5)] [N.tStr] S.tInt,mk (some 8) (.fieldAddr N.tH (tm 1) 0),mk (some 9) (.load N.tStr (tm 8))] a
  fun af=>wpLd P _ _ [cl (some 7) N.fVi [(tm 6)],bi (some 10) .append [(tm 7),(tm 9)] [S.tSl,N.tStr] S.tSl,mk (some 3) (.assign (tm 10))] af w.drew
 refine se_fld h (.t rfl) R.h0 (by omega) fun a h=>q5_ h (.t rfl) R.h0.var (fun w' hI=>Fa0.cell hI (hB.at (j:=0) rfl)) (by omega) fun a h=>?_
 refine se_lenS h (bs:=kb) (.t rfl) R.dStr (by omega) fun a h=>se_fld h (.t rfl) R.h0 (by omega) fun a h=>q5_ h (.t rfl) R.h0.var (fun w' hI=>Fa0.cell hI (hB.at (j:=0) rfl)) (by omega) fun a h=>se_nil ?_
 have hI0:Fa0 w w.drew:=Fa0.of (qd_.drew _ _)
 have hmx:kb.length < 9223372036854775808:=by simp only [maxLen] at hkl;omega
 refine sl_call h hI0 V.1 (vs:=[.int .i64 (kb.length:Int)]) (fun n a h=>by simp only [List.map_cons,List.map_nil];rw [Hd.t (l:=_) (i:=6) rfl n a h]) (V.2 kb.length w.drew (by omega) (by omega)) (by omega) fun e w2 hR=>?_
 obtain ⟨u,rfl,hu,hk2⟩:=hR
 have hI2:=hI0.kn hk2
 refine ⟨u,rfl,fun a h=>sl_appS h hI2 R.oct (.t rfl) (.t rfl) hu (src_str R.dStr w2 kb) hk2.size (by omega) (by omega) fun v3 w3 a hg h=>?_⟩
 have hI3:Fa0 w w3:=hI2.up hg.keeps fun j hj=>(hu.own hj).1
 refine sl_assign h hI3 (.t rfl) (by omega) fun a h=>sl_nil hI3 ?_
 have hW3:Fa0 W w3:=Fa0.of (hk.trans hI3.keeps)
 have hd3:=hg.dst
 refine qi_ (nrg (qc_ h (.t rfl) (by omega) fun a h=>qz_ h (.t rfl) R.h1 (by omega) fun a h=>ja_ h (cs:=[.bool nl,sv]) (.t rfl) R.h1.var (hI3.cells fun j c hj=>?_) (by omega) fun a h=>?_))
 ·have:=hB (1 + j) c (by rw [Nat.add_comm];simpa using hj)
  simpa [Nat.add_assoc] using this
 refine qj_ h O.1 (vs:=[.agg [.bool nl,sv].toArray]) (fun n a h=>by simp only [List.map_cons,List.map_nil];rw [Hd.t (l:=_) (i:=13) rfl n a h]) (O.2 (nl,bs) [.bool nl,sv] w3 ⟨sv,rfl,OcX.far hsv hW3⟩ (by omega)) (by omega) fun e w4 hR=>?_
 obtain ⟨u4,rfl,hu4,hk4⟩:=hR
 refine ⟨u4,rfl,fun a h=>st_app h R.oct (.t rfl) (.t rfl) (hd3.keep hk4 fun _ _ h=>h) (src_dst R.oct hu4) (Nat.le_trans hI3.size hk4.size) (by simp only [List.length_append];omega) (by omega) fun v5 w5 a hg5 h=>qa_ h (.t rfl) (by omega) fun a h=>wpList_nil (.ret ?_)⟩
 have hW5:Fa0 w w5:=(hI3.kn hk4).up hg5.keeps fun j hj=>(hd3.own hj).1
 exact ret1 (RR:=jd_ S.tU8 (vint kb.length++kb++ocB (nl,bs)) W) h rfl (mk_of ((Gr.lower (L':=W.heap.size) hk.size (Gr.refl hg5.dst)).dst) (Fa0.of (hk.trans hW5.keeps)))
end
end Go.Proofs.Ytlnmiphokmhajaa.Kx

namespace Go.Proofs.Ytlnmiphokmhajaa.Kx
open Go
set_option maxRecDepth 4000
section
variable {P:Program} {S:SN} {N:RN}
section
variable {Q:Exit->Act->World->Prop} {r:List Oper} {n:Nat} {a:Act} {w:World} {l:List (Nat × Value)} {I:World->Prop}
theorem ndrx {l':List Oper} {R:Exit->Act->World->Prop} (loud:List Bool) (I:World->Prop) (K:Act->World->Prop) (hl:q2_ l'=loud) {A B:Oper} {r':List Oper} (hlo:qh_ l' loud=A :: B :: r')
  (h:evF P I (qt_ l' loud) a (fun af=>wpLd P I (fun e a w=>e=.normal/\K a w) (A :: B :: r') af w.drew/\wpLd P I (fun e a w=>e=.normal/\K a w) (B :: A :: r') af w.drew)) (hK:∀ a w,K a w->R .normal a w):NWP P (.region 5 l'.toArray true) R a w:=
 .mono (.drx (A:=A) (B:=B) (r:=r') I (by rw [hl];exact hlo) (by rw [hl];exact h)) fun e a w hh=>by
  obtain ⟨rfl,hk⟩:=hh
  exact hK a w hk
theorem run_buildSlice {tSl te:Nat} (ot:OctT P tSl te) {a:Act} {w:World} {d:Nat} {ps:List (Nat × Operand)} {l:Bs} (hp:ps.map (fun p=>(p.1,a.eval p.2))=prs 0 (l.map octv)) (h0:l ≠ []) (hb:l.length<=16777216) :
  (execOp a.eval (mk (some d) (.buildSlice tSl l.length ps.toArray))).run P w=.ok (.value (.slice (some ⟨w.heap.size,0,none⟩) l.length l.length)) (w.alloc (.cells (l.map octv).toArray te (0,0))):=by
 obtain ⟨i,z,hi,hz,hsz,hby,hzs⟩:=ot.info
 have hl:l.length ≠ 0:=fun h=>h0 (List.eq_nil_of_length_eq_zero h)
 have hfill:=fill_one (l.map octv) 0 ((Array.range l.length).map fun k=>z.cells[k % z.cells.size]!) (fun v hv=>by
  obtain ⟨b,_,rfl⟩:=List.mem_map.1 hv
  rfl) (by simp)
 rw [splice_whole (by simp)] at hfill
 have hm:(ps.toArray.map fun (p:Nat × Operand)=>(p.1,a.eval p.2)).toList=prs 0 (l.map octv):=by simpa using hp
 have hnb:¬ (l.length > 16777216):=by omega
 simp [execOp,mk,Instr.buildSlice,run_underlying ot.und,sizeOf,typeInfo,zeroValue,hi,hz,hsz,hnb,hl,hp,hfill,newRow,newObj,Sem.run]
theorem sl_row1 (h:St n a l) (hI:I w) (ot:OctT P S.tSl S.tU8) {d:Nat} {x:Operand} {b:UInt8} (hx:Hd l x (octv b)) (hdn:d < n)
  (c:∀ v a',qu_ (w.alloc (.cells #[octv b] S.tU8 (0,0))) w.heap.size S.tU8 v [b]->St n a' ((d,v) :: l)->wpLd P I Q r a' (w.alloc (.cells #[octv b] S.tU8 (0,0)))):wpLd P I Q (mk (some d) (.buildSlice S.tSl 1 #[(0,x)]) :: r) a w:=by
 refine ⟨hI,?_⟩
 unfold Oper.wp
 have hrun:(execOp a.eval (mk (some d) (.buildSlice S.tSl 1 #[(0,x)]))).run P w=.ok (.value (.slice (some ⟨w.heap.size,0,none⟩) 1 1)) (w.alloc (.cells #[octv b] S.tU8 (0,0))):=
  run_buildSlice ot (d:=d) (ps:=[(0,x)]) (l:=[b]) (by simp [hx n a h,prs]) (by simp) (by simp)
 rw [hrun]
 refine c _ _ ?_ (h.put _ hdn)
 exact .inr ⟨w.heap.size,1,#[octv b],rfl,Nat.le_refl _,Go.heap_alloc_new w _,by simp,by simp [maxLen],by simp,fun i x hx=>by
  cases i with
  | zero=>simp at hx;subst hx;rfl
  | succ i=>simp at hx⟩
end
theorem wrap_8 {x:Int} (_h:-128<=x/\x < 128):Value.int .u8 (IntKind.u8.wrap x)=octv (UInt8.ofNat (x % 256).toNat):=by
 have e:IntKind.u8.wrap x=(((x % 256).toNat:Nat):Int):=by simp [IntKind.wrap,IntKind.bits,IntKind.signed];omega
 rw [e,octv_wrap (by omega)]
theorem wrap_64 {x:Int} (h:-9223372036854775808<=x/\x < 9223372036854775808):IntKind.i64.wrap x=x:=by simp [IntKind.wrap,IntKind.bits,IntKind.signed];omega
theorem HdAt.one {w:World} {cs:List Value} {x:Bs × Oc} (h:HdAt w cs x):∀ u ∈ cs,u.oneCell'=true:=by
 obtain ⟨v,rfl,hv,_⟩:=h
 intro u hu
 simp only [List.mem_cons,List.not_mem_nil,or_false] at hu
 rcases hu with rfl | rfl | rfl
 ·rfl
 ·rfl
 ·obtain ⟨base,c,rfl,_⟩:=OcX.form hv;rfl
theorem qf_.part {w:World} {b o k:Nat} {cs ds:List Value} (h:qf_ w b o cs) (hs:∀ j c,ds[j]?=some c->cs[k + j]?=some c):qf_ w b (o + k) ds:=fun j c hj=>by
 have:=h (k + j) c (hs j c hj)
 rwa [<- Nat.add_assoc] at this
theorem rr_loop (R:Ref0 P S N) (H:HbC P S N) {W:World} {xs:List (Bs × Oc)} {hv:Value} (hxs:RowRp W 3 (HdAt W) hv xs) {total:Bs} (hlim:total.length<=LIM) {w:World} (hk:Fa0 W w) {v:Value} {bs:Bs} (hd:qu_ w W.heap.size S.tU8 v bs) (htot:bs++(xs.map hdB).flatten=total)
  {a:Act} {B:Nat} (hB:w.cell? ⟨B,8,none⟩=some hv) (h:St 49 a [(1,pt B 0),(3,v)]) {RR:Exit->Act->World->Prop} (hR:∀ a' w' v',St 49 a' [(3,v')]->qu_ w' W.heap.size S.tU8 v' total->Fa0 W w'->RR .normal a' w') :
  NWP P (.seq (rg (rRR_6 S N)) (.block 0 (.loop (.seq (rg (rRR_7 S N)) (.seq (.cond (tm 40) .skip (.exit 0)) (.seq (.block 1 (.seq (rg (rRR_8 S N)) (rg (rRR_9 S N)))) (rg (rRR_10 S N)))))))) RR a w:=by
 obtain ⟨bx,cx,hlv,_,hxm,_⟩:=hxs.form
 refine qi_ (nrg (qz_ h (.t rfl) R.r6 (by omega) fun a h=>qm_ h (.t rfl) R.r6.var (by simpa using hB) (by omega) fun a h=>?_))
 have h':=h
 rw [hlv] at h'
 refine st_len h' (.t rfl) R.dHs (by omega) fun a h=>qc_ h .i (by omega) fun a h=>wpList_nil ?_
 rw [<- hlv] at h
 refine st_loop (fun m a' w'=>∃ (i:Nat) (v:Value) (bs:Bs),i + m=xs.length/\bs++((xs.drop i).map hdB).flatten=total/\qu_ w' W.heap.size S.tU8 v bs/\Fa0 W w' /\
   St 49 a' [(3,v),(37,hv),(38,.int .i64 (xs.length:Int)),(39,.int .i64 (i:Int))]) xs.length
  ⟨xs.length,Nat.le_refl _,0,v,bs,by omega,by simpa using htot,hd,hk,h.pick ⟨rfl,rfl,rfl,rfl,trivial⟩⟩ ?_
 rintro m a w hm ⟨i,v,bs,him,htot,hd,hk,h⟩
 refine qi_ (nrg (st_cmp h rfl (.t rfl) (.t rfl) (by omega) fun a h=>wpList_nil ?_))
 refine st_test h rfl (fun hb=>?_) (fun hb=>?_)
 ·have hlt:i < xs.length:=by simp [cmpB] at hb;omega
  obtain ⟨x,hx⟩:∃ x,xs[i]?=some x:=⟨_,List.getElem?_eq_getElem hlt⟩
  obtain ⟨b,o,c,cs,hv',hl3,hcs,hx2⟩:=hxs.get hx
  rw [drop_flat' _ hx] at htot
  have hone:=hx2.one
  refine .skip (qi_ (.block (qi_ (nrg ?_))))
  have h':=h
  rw [hv'] at h'
  refine st_index h' (sz:=3) (.t rfl) (.t rfl) hlt R.dHs R.vH.size (by omega) fun a h=>ja_ h (cs:=cs) (.t rfl) (by rw [hl3];exact R.vH) (hk.cells hcs) (by omega) fun a h=>?_
  refine st_newvar h (cs:=cs) R.zH (by rw [hl3];rfl) (fun v=>.t rfl) (fun w=>by rw [hl3];exact R.vH.size w) hone (by omega) fun w2 a hk2 hc2 h=>wpList_nil ?_
  have hk3:Fa0 W w2:=hk.kn hk2
  refine nrg (qc_ h (.t rfl) (by omega) fun a h=>ja_ h (cs:=cs) (.t rfl) (by rw [hl3];exact R.vH) hc2 (by omega) fun a h=>?_)
  have hlen:bs.length + (hdB x).length<=LIM:=by
   have:=congrArg List.length htot
   simp only [List.length_append] at this
   omega
  refine qj_ h H.1 (vs:=[.agg cs.toArray]) (fun n a h=>by simp only [List.map_cons,List.map_nil];rw [Hd.t (l:=_) (i:=44) rfl n a h]) (H.2 x cs w2 (hx2.far hk3) (by omega)) (by omega) fun e w3 hR3=>?_
  obtain ⟨u,rfl,hu,hk4⟩:=hR3
  have hk5:Fa0 W w3:=hk3.kn hk4
  have hd3:qu_ w3 W.heap.size S.tU8 v bs:=hd.keep (hk2.trans hk4) fun _ _ h=>h
  refine ⟨u,rfl,fun a h=>st_app h R.oct (.t rfl) (.t rfl) hd3 (src_dst R.oct hu) hk5.size hlen (by omega) fun v6 w6 a hg h=>qa_ h (.t rfl) (by omega) fun a h=>wpList_nil ?_⟩
  have hk6:Fa0 W w6:=hk5.up hg.keeps fun j hj=>(hd3.own hj).1
  refine nrg (st_bin h (.t rfl) .i (by simp) (run_addi w6) (by omega) fun a h=>?_)
  have hw:IntKind.i64.wrap ((i:Int) + 1)=((i + 1:Nat):Int):=by simp only [maxLen] at hxm;simp [IntKind.wrap,IntKind.bits,IntKind.signed];omega
  rw [hw] at h
  refine qc_ h (.t rfl) (by omega) fun a h=>wpList_nil ?_
  refine ⟨m - 1,by omega,by omega,i + 1,v6,bs++hdB x,by omega,by rw [List.append_assoc];exact htot,hg.dst,hk6,?_⟩
  have h:=h.pick (m:=[(3,v6),(37,.slice (some ⟨b,o,none⟩) xs.length c),(38,.int .i64 (xs.length:Int)),(39,.int .i64 ((i + 1:Nat):Int))]) ⟨rfl,rfl,rfl,rfl,trivial⟩
  rw [hv']
  exact h
 ·have hge:¬ i < xs.length:=by simp [cmpB] at hb;omega
  rw [List.drop_of_length_le (by omega)] at htot
  simp only [List.map_nil,List.flatten_nil,List.append_nil] at htot
  subst htot
  exact .exit (hR _ _ v (h.pick ⟨rfl,trivial⟩) hd hk)
def RrC (P:Program) (S:SN) (N:RN):Prop:=Ent P N.fRR/\∀ (x:Rec) (cs:List Value) (w:World),RecAt w cs x->(restB x).length<=LIM->Calls P N.fRR [.agg cs.toArray].toArray w (jd_ S.tU8 (restB x) w)
theorem rr_calls (R:Ref0 P S N) (V:ViC P S N) (O:ObC P S N) (H:HbC P S N) (hfn:FnIs P N.fRR 49 [2] (cRRR S N)):RrC P S N:=by
 refine ⟨hfn.ent,fun x cs W hx hlim=>?_⟩
 obtain ⟨kv,vv,hv,rfl,hkv,hvv,hhs,hl,ha,hd0,ho⟩:=hx
 obtain ⟨xl,xa,xd,xo,⟨kn,kb⟩,⟨vn,vb⟩,hs⟩:=x
 dsimp only at hkv hvv hhs hl ha hd0 ho ⊢
 have he:restB ⟨xl,xa,xd,xo,(kn,kb),(vn,vb),hs⟩=[UInt8.ofNat (xa % 256).toNat]++vint xd++vint xo++ocB (kn,kb)++ocB (vn,vb)++vint hs.length++(hs.map hdB).flatten:=rfl
 rw [he] at hlim ⊢
 generalize htt:[UInt8.ofNat (xa % 256).toNat]++vint xd++vint xo++ocB (kn,kb)++ocB (vn,vb)++vint hs.length++(hs.map hdB).flatten=total at hlim ⊢
 have hlen:1 + (vint xd).length + (vint xo).length + (ocB (kn,kb)).length + (ocB (vn,vb)).length + (vint hs.length).length + ((hs.map hdB).flatten).length<=LIM:=by
  have:=congrArg List.length htt
  simp only [List.length_append,List.length_cons,List.length_nil] at this
  omega
 refine q3_ R.mixed hfn (by simp) _ (by simp) fun a h=>?_
 unfold cRRR
 refine qi_ (nrg (st_box h (.t rfl) (by omega) fun a h=>?_))
 have hk:qd_ (fun _=>False) W (W.alloc (.cells [.int .i32 xl,.int .i8 xa,.int .i64 xd,.int .i32 xo,.bool kn,kv,.bool vn,vv,hv].toArray N.tR (0,0))):=qd_.alloc _ _ _
 have hB:=q4_ W [.int .i32 xl,.int .i8 xa,.int .i64 xd,.int .i32 xo,.bool kn,kv,.bool vn,vv,hv] N.tR
 generalize W.alloc (.cells [.int .i32 xl,.int .i8 xa,.int .i64 xd,.int .i32 xo,.bool kn,kv,.bool vn,vv,hv].toArray N.tR (0,0))=w at hk hB ⊢
 have hf:Fa0 W w:=Fa0.of hk
 refine qa_ h .c (by omega) fun a h=>wpList_nil ?_
 refine qi_ (ndrx [false,false,false,true,false,false,true,true,true] (fun w'=>Fa0 w w') (fun a w3=>∃ v3,St 49 a [(1,pt W.heap.size 0),(3,v3)]/\qu_ w3 w.heap.size S.tU8 v3 ([UInt8.ofNat (xa % 256).toNat]++vint xd)/\Fa0 w w3) (by kernel_rfl) rfl ?_ fun a w3 hh=>?_)
 ·show evF P _ [mk (some 6) (.fieldAddr N.tR (tm 1) 1),mk (some 7) (.load N.tI8 (tm 6)),mk (some 8) (.convert N.tI8 S.tU8 (tm 7)),mk (some 10) (.fieldAddr N.tR (tm 1) 2),mk (some 11) (.load S.tI64 (tm 10))] a
   fun af=>wpLd P _ _ [mk (some 9) (.buildSlice S.tSl 1 #[(0,(tm 8))]),cl (some 12) N.fVi [(tm 11)],bi (some 13) .append [(tm 9),(tm 12)] [S.tSl,S.tSl] S.tSl,mk (some 3) (.assign (tm 13))] af w.drew /\
    wpLd P _ _ [cl (some 12) N.fVi [(tm 11)],mk (some 9) (.buildSlice S.tSl 1 #[(0,(tm 8))]),bi (some 13) .append [(tm 9),(tm 12)] [S.tSl,S.tSl] S.tSl,mk (some 3) (.assign (tm 13))] af w.drew
  refine se_fld h (.t rfl) R.r1 (by omega) fun a h=>q5_ h (.t rfl) R.r1.var (fun w' hI=>Fa0.cell hI (hB.at (j:=1) rfl)) (by omega) fun a h=>se_conv h (.t rfl) R.dI8 R.dU8 (by omega) fun a h=>?_
  rw [wrap_8 ha] at h
  refine se_fld h (.t rfl) R.r2 (by omega) fun a h=>q5_ h (.t rfl) R.r2.var (fun w' hI=>Fa0.cell hI (hB.at (j:=2) rfl)) (by omega) fun a h=>se_nil ?_
  have hI0:Fa0 w w.drew:=Fa0.of (qd_.drew _ _)
  have hdr:w.drew.heap.size=w.heap.size:=rfl
  refine ⟨?_,?_⟩
  ·refine sl_row1 h hI0 R.oct (.t rfl) (by omega) fun v1 a hd1 h=>?_
   have hkr:qd_ (fun _=>False) w.drew (w.drew.alloc (.cells #[octv (UInt8.ofNat (xa % 256).toNat)] S.tU8 (0,0))):=qd_.alloc _ _ _
   have hI1:=hI0.kn hkr
   generalize w.drew.alloc (.cells #[octv (UInt8.ofNat (xa % 256).toNat)] S.tU8 (0,0))=w1 at hd1 hkr hI1 ⊢
   refine sl_call h hI1 V.1 (vs:=[.int .i64 xd]) (fun n a h=>by simp only [List.map_cons,List.map_nil];rw [Hd.t (l:=_) (i:=11) rfl n a h]) (V.2 xd w1 hd0.1 hd0.2) (by omega) fun e w2 hR=>?_
   obtain ⟨u,rfl,hu,hk2⟩:=hR
   have hI2:=hI1.kn hk2
   have hd2:=hd1.keep hk2 fun _ _ h=>h
   refine ⟨u,rfl,fun a h=>sl_app h hI2 R.oct (.t rfl) (.t rfl) hd2 (src_dst R.oct hu) (Nat.le_trans hkr.size hk2.size) (by simp only [List.length_cons,List.length_nil];omega) (by omega) fun v3 w3 a hg h=>?_⟩
   have hI3:Fa0 w w3:=hI2.up hg.keeps fun j hj=>(hd2.own hj).1
   exact sl_assign h hI3 (.t rfl) (by omega) fun a h=>sl_nil hI3 ⟨rfl,v3,h.pick ⟨rfl,rfl,trivial⟩,hg.dst,hI3⟩
  ·refine sl_call h hI0 V.1 (vs:=[.int .i64 xd]) (fun n a h=>by simp only [List.map_cons,List.map_nil];rw [Hd.t (l:=_) (i:=11) rfl n a h]) (V.2 xd w.drew hd0.1 hd0.2) (by omega) fun e w2 hR=>?_
   obtain ⟨u,rfl,hu,hk2⟩:=hR
   have hI2:=hI0.kn hk2
   refine ⟨u,rfl,fun a h=>sl_row1 h hI2 R.oct (.t rfl) (by omega) fun v1 a hd1 h=>?_⟩
   have hkr:qd_ (fun _=>False) w2 (w2.alloc (.cells #[octv (UInt8.ofNat (xa % 256).toNat)] S.tU8 (0,0))):=qd_.alloc _ _ _
   have hI1:=hI2.kn hkr
   generalize w2.alloc (.cells #[octv (UInt8.ofNat (xa % 256).toNat)] S.tU8 (0,0))=w1 at hd1 hkr hI1 ⊢
   have hd2:qu_ w1 w.heap.size S.tU8 v1 [UInt8.ofNat (xa % 256).toNat]:=(Gr.lower (L':=w.heap.size) hI2.size (Gr.refl hd1)).dst
   have hu2:qu_ w1 w.drew.heap.size S.tU8 u (vint xd):=hu.keep hkr fun _ _ h=>h
   refine sl_app h hI1 R.oct (.t rfl) (.t rfl) hd2 (src_dst R.oct hu2) hI1.size (by simp only [List.length_cons,List.length_nil];omega) (by omega) fun v3 w3 a hg h=>?_
   have hI3:Fa0 w w3:=hI1.up hg.keeps fun j hj=>(hd2.own hj).1
   exact sl_assign h hI3 (.t rfl) (by omega) fun a h=>sl_nil hI3 ⟨rfl,v3,h.pick ⟨rfl,rfl,trivial⟩,hg.dst,hI3⟩
 obtain ⟨v3,h,hd3,hI3⟩:=hh
 show NWP P _ _ a w3
 refine qi_ (nrg (qc_ h (.t rfl) (by omega) fun a h=>qz_ h (.t rfl) R.r3 (by omega) fun a h=>qm_ h (.t rfl) R.r3.var (hI3.cell (hB.at (j:=3) rfl)) (by omega) fun a h=>jb_ h (.t rfl) R.dI32 R.dI64 (by omega) fun a h=>?_))
 rw [wrap_64 (by omega)] at h
 refine qj_ h V.1 (vs:=[.int .i64 xo]) (fun n a h=>by simp only [List.map_cons,List.map_nil];rw [Hd.t (l:=_) (i:=17) rfl n a h]) (V.2 xo w3 (by omega) (by omega)) (by omega) fun e w4 hR=>?_
 obtain ⟨u,rfl,hu,hk4⟩:=hR
 have hI4:=hI3.kn hk4
 have hd4:=hd3.keep hk4 fun _ _ h=>h
 refine ⟨u,rfl,fun a h=>st_app h R.oct (.t rfl) (.t rfl) hd4 (src_dst R.oct hu) hI4.size (by simp only [List.length_append,List.length_cons,List.length_nil];omega) (by omega) fun v5 w5 a hg h=>qa_ h (.t rfl) (by omega) fun a h=>wpList_nil ?_⟩
 have hI5:Fa0 w w5:=hI4.up hg.keeps fun j hj=>(hd4.own hj).1
 have hd5:=hg.dst
 have h:St 49 a [(1,pt W.heap.size 0),(3,v5)]:=h.pick ⟨rfl,rfl,trivial⟩
 clear hg hd4 hI4 hu hk4 hd3
 refine qi_ (nrg (qc_ h (.t rfl) (by omega) fun a h=>qz_ h (.t rfl) R.r4 (by omega) fun a h=>ja_ h (cs:=[.bool kn,kv]) (.t rfl) R.r4.var (hI5.cells (hB.part (k:=4) fun j c hj=>by rcases j with _ | _ | j;exact hj;exact hj;cases hj)) (by omega) fun a h=>?_))
 refine qj_ h O.1 (vs:=[.agg [.bool kn,kv].toArray]) (fun n a h=>by simp only [List.map_cons,List.map_nil];rw [Hd.t (l:=_) (i:=22) rfl n a h]) (O.2 (kn,kb) _ w5 ⟨kv,rfl,OcX.far hkv (Fa0.of (hk.trans hI5.keeps))⟩ (by omega)) (by omega) fun e w6 hR=>?_
 obtain ⟨u,rfl,hu,hk6⟩:=hR
 have hI6:=hI5.kn hk6
 have hd6:=hd5.keep hk6 fun _ _ h=>h
 refine ⟨u,rfl,fun a h=>st_app h R.oct (.t rfl) (.t rfl) hd6 (src_dst R.oct hu) hI6.size (by simp only [List.length_append,List.length_cons,List.length_nil];omega) (by omega) fun v7 w7 a hg h=>qa_ h (.t rfl) (by omega) fun a h=>wpList_nil ?_⟩
 have hI7:Fa0 w w7:=hI6.up hg.keeps fun j hj=>(hd6.own hj).1
 have hd7:=hg.dst
 have h:St 49 a [(1,pt W.heap.size 0),(3,v7)]:=h.pick ⟨rfl,rfl,trivial⟩
 clear hg hd6 hI6 hu hk6 hd5
 refine qi_ (nrg (qc_ h (.t rfl) (by omega) fun a h=>qz_ h (.t rfl) R.r5 (by omega) fun a h=>ja_ h (cs:=[.bool vn,vv]) (.t rfl) R.r5.var (hI7.cells (hB.part (k:=6) fun j c hj=>by rcases j with _ | _ | j;exact hj;exact hj;cases hj)) (by omega) fun a h=>?_))
 refine qj_ h O.1 (vs:=[.agg [.bool vn,vv].toArray]) (fun n a h=>by simp only [List.map_cons,List.map_nil];rw [Hd.t (l:=_) (i:=27) rfl n a h]) (O.2 (vn,vb) _ w7 ⟨vv,rfl,OcX.far hvv (Fa0.of (hk.trans hI7.keeps))⟩ (by omega)) (by omega) fun e w8 hR=>?_
 obtain ⟨u,rfl,hu,hk8⟩:=hR
 have hI8:=hI7.kn hk8
 have hd8:=hd7.keep hk8 fun _ _ h=>h
 refine ⟨u,rfl,fun a h=>st_app h R.oct (.t rfl) (.t rfl) hd8 (src_dst R.oct hu) hI8.size (by simp only [List.length_append,List.length_cons,List.length_nil];omega) (by omega) fun v9 w9 a hg h=>qa_ h (.t rfl) (by omega) fun a h=>wpList_nil ?_⟩
 have hI9:Fa0 w w9:=hI8.up hg.keeps fun j hj=>(hd8.own hj).1
 have hd9:=hg.dst
 have h:St 49 a [(1,pt W.heap.size 0),(3,v9)]:=h.pick ⟨rfl,rfl,trivial⟩
 clear hg hd8 hI8 hu hk8 hd7
 obtain ⟨bx,cx,hlv,_,hxm,_⟩:=hhs.form
 refine qi_ (nrg (qc_ h (.t rfl) (by omega) fun a h=>qz_ h (.t rfl) R.r6 (by omega) fun a h=>qm_ h (.t rfl) R.r6.var (hI9.cell (hB.at (j:=8) rfl)) (by omega) fun a h=>?_))
 rw [hlv] at h
 refine st_len h (.t rfl) R.dHs (by omega) fun a h=>?_
 have hmx:hs.length < 9223372036854775808:=by simp only [maxLen] at hxm;omega
 refine qj_ h V.1 (vs:=[.int .i64 (hs.length:Int)]) (fun n a h=>by simp only [List.map_cons,List.map_nil];rw [Hd.t (l:=_) (i:=33) rfl n a h]) (V.2 hs.length w9 (by omega) (by omega)) (by omega) fun e w10 hR=>?_
 obtain ⟨u,rfl,hu,hk10⟩:=hR
 have hI10:=hI9.kn hk10
 have hd10:=hd9.keep hk10 fun _ _ h=>h
 refine ⟨u,rfl,fun a h=>st_app h R.oct (.t rfl) (.t rfl) hd10 (src_dst R.oct hu) hI10.size (by simp only [List.length_append,List.length_cons,List.length_nil];omega) (by omega) fun v11 w11 a hg h=>qa_ h (.t rfl) (by omega) fun a h=>wpList_nil ?_⟩
 have hI11:Fa0 w w11:=hI10.up hg.keeps fun j hj=>(hd10.own hj).1
 have hd11:=hg.dst
 have h:St 49 a [(1,pt W.heap.size 0),(3,v11)]:=h.pick ⟨rfl,rfl,trivial⟩
 clear hg hd10 hI10 hu hk10 hd9
 have hhs':RowRp w 3 (HdAt w) hv hs:=hhs.imp (fun b o cs hc=>hf.cells hc) (fun cs x hx=>hx.far hf)
 refine qi_ (rr_loop R H hhs' (total:=total) hlim hI11 hd11 htt (by have:=hI11.cell (hB.at (j:=8) rfl);simpa using this) h fun a w12 v12 h hd12 hI12=>?_)
 refine qi_ (nrg (qc_ h (.t rfl) (by omega) fun a h=>qa_ h (.t rfl) (by omega) fun a h=>wpList_nil (.ret ?_)))
 exact ret1 (RR:=jd_ S.tU8 total W) h rfl (mk_of ((Gr.lower (L':=W.heap.size) hk.size (Gr.refl hd12)).dst) (Fa0.of (hk.trans hI12.keeps)))
def RbC (P:Program) (S:SN) (N:RN):Prop:=Ent P N.fRB/\∀ (x:Rec) (cs:List Value) (w:World),RecAt w cs x->(recB x).length<=LIM->Calls P N.fRB [.agg cs.toArray].toArray w (jd_ S.tU8 (recB x) w)
theorem RecAt.far {w0 w:World} (h:Fa0 w0 w) {cs:List Value} {x:Rec} (hx:RecAt w0 cs x):RecAt w cs x:=by
 obtain ⟨kv,vv,hv,rfl,h1,h2,h3,h4⟩:=hx
 exact ⟨kv,vv,hv,rfl,OcX.far h1 h,OcX.far h2 h,h3.imp (fun b o cs hc=>h.cells hc) (fun cs x hx=>hx.far h),h4⟩
theorem RecAt.len {w:World} {cs:List Value} {x:Rec} (hx:RecAt w cs x):cs.length=9:=by
 obtain ⟨kv,vv,hv,rfl,_⟩:=hx
 rfl
theorem rb_calls (R:Ref0 P S N) (V:ViC P S N) (C:RrC P S N) (hfn:FnIs P N.fRB 10 [2] (cRRB S N)):RbC P S N:=by
 refine ⟨hfn.ent,fun x cs W hx hlim=>?_⟩
 have hl9:=hx.len
 have he:recB x=vint x.len++restB x:=rfl
 rw [he] at hlim ⊢
 simp only [List.length_append] at hlim
 obtain ⟨hl1,hl2⟩:-2147483648<=x.len/\x.len < 2147483648:=by obtain ⟨_,_,_,_,_,_,_,h,_⟩:=hx;exact h
 have hc0:cs[0]?=some (.int .i32 x.len):=by obtain ⟨_,_,_,rfl,_⟩:=hx;rfl
 refine q3_ R.mixed hfn (by simp) _ (by simp) fun a h=>?_
 unfold cRRB
 refine qi_ (nrg (st_box h (.t rfl) (by omega) fun a h=>?_))
 have hk:qd_ (fun _=>False) W (W.alloc (.cells cs.toArray N.tR (0,0))):=qd_.alloc _ _ _
 have hB:=q4_ W cs N.tR
 generalize W.alloc (.cells cs.toArray N.tR (0,0))=w at hk hB ⊢
 have hf:Fa0 W w:=Fa0.of hk
 refine qa_ h .c (by omega) fun a h=>wpList_nil ?_
 refine qi_ (ndrw [false,false,false,true,false,true,true,true] (fun w'=>Fa0 w w') (by kernel_rfl) ?_)
 show evF P _ [mk (some 3) (.fieldAddr N.tR (tm 1) 0),mk (some 4) (.load N.tI32 (tm 3)),mk (some 5) (.convert N.tI32 S.tI64 (tm 4)),mk (some 7) (.load N.tR (tm 1))] a
  fun af=>wpLd P _ _ [cl (some 6) N.fVi [(tm 5)],cl (some 8) N.fRR [(tm 7)],bi (some 9) .append [(tm 6),(tm 8)] [S.tSl,S.tSl] S.tSl,mk (some 2) (.assign (tm 9))] af w.drew
 refine se_fld h (.t rfl) R.r0 (by omega) fun a h=>q5_ h (.t rfl) R.r0.var (fun w' hI=>Fa0.cell hI (hB.at (j:=0) hc0)) (by omega) fun a h=>se_conv h (.t rfl) R.dI32 R.dI64 (by omega) fun a h=>?_
 rw [wrap_64 (by omega)] at h
 refine se_loadN h (cs:=cs) (.t rfl) (by rw [hl9];exact R.vR) (fun w' hI=>Fa0.cells hI hB) (by omega) fun a h=>se_nil ?_
 have hI0:Fa0 w w.drew:=Fa0.of (qd_.drew _ _)
 have hdr:w.drew.heap.size=w.heap.size:=rfl
 refine sl_call h hI0 V.1 (vs:=[.int .i64 x.len]) (fun n a h=>by simp only [List.map_cons,List.map_nil];rw [Hd.t (l:=_) (i:=5) rfl n a h]) (V.2 x.len w.drew (by omega) (by omega)) (by omega) fun e w2 hR=>?_
 obtain ⟨u,rfl,hu,hk2⟩:=hR
 have hI2:=hI0.kn hk2
 refine ⟨u,rfl,fun a h=>sl_call h hI2 C.1 (vs:=[.agg cs.toArray]) (fun n a h=>by simp only [List.map_cons,List.map_nil];rw [Hd.t (l:=_) (i:=7) rfl n a h]) (C.2 x cs w2 (hx.far (Fa0.of (hk.trans hI2.keeps))) (by omega)) (by omega) fun e w3 hR3=>?_⟩
 obtain ⟨u3,rfl,hu3,hk3⟩:=hR3
 have hI3:=hI2.kn hk3
 have hd3:qu_ w3 w.drew.heap.size S.tU8 u (vint x.len):=hu.keep hk3 fun _ _ h=>h
 refine ⟨u3,rfl,fun a h=>sl_app h hI3 R.oct (.t rfl) (.t rfl) hd3 (src_dst R.oct hu3) (Nat.le_trans hk2.size hk3.size) (by omega) (by omega) fun v4 w4 a hg h=>?_⟩
 have hI4:Fa0 w w4:=hI3.up hg.keeps fun j hj=>(hd3.own hj).1
 refine sl_assign h hI4 (.t rfl) (by omega) fun a h=>sl_nil hI4 (.ret ?_)
 exact ret1 (RR:=jd_ S.tU8 (vint x.len++restB x) W) h rfl (mk_of ((Gr.lower (L':=W.heap.size) hk.size (Gr.refl hg.dst)).dst) (Fa0.of (hk.trans hI4.keeps)))
end
end Go.Proofs.Ytlnmiphokmhajaa.Kx

namespace Go.Proofs.Ytlnmiphokmhajaa.Kx
open Go
set_option maxRecDepth 4000
structure WT0 (P:Program) (K:Kn):Prop where
 mixed:P.follows .mixedOrders=true
 oct:OctT P K.tSl K.tU8
 dU8:P.underlying K.tU8=some (.int .u8)
 dInt:P.underlying K.tInt=some (.int .i64)
 dStr:P.underlying K.tStr=some .string
def stp (c s:Nat) (p:Nat × Nat):Nat × Nat:=if c<=p.1 then (p.1 / 2 ^ s,p.2 + s) else p
def lenOf (p:Nat × Nat):Nat:=p.2 + (len8.getD p.1 0).toNat
def gLen1 (tU:Nat) (k:IntKind) (c s:Nat):GC:=gIf 1 2 (fun n=>[mk (some n) (.move (tm 0)),mk (some (n + 1)) (.binOp .geq tU (tm n) (ki k c) 0)])
  (gS [gOps 2 fun n=>[mk (some n) (.move (tm 0)),mk (some (n + 1)) (.binOp .shr tU (tm n) (ki .u64 s) 0),mk (some 0) (.assign (tm (n + 1)))],gSet 2 (.int .i64 s)]) gSkip
def gLen2 (K:Kn) (tU:Nat) (k:IntKind) (c s:Nat):GC:=gIf 1 2 (fun n=>[mk (some n) (.move (tm 0)),mk (some (n + 1)) (.binOp .geq tU (tm n) (ki k c) 0)])
  (gS [gOps 2 fun n=>[mk (some n) (.move (tm 0)),mk (some (n + 1)) (.binOp .shr tU (tm n) (ki .u64 s) 0),mk (some 0) (.assign (tm (n + 1)))],
   gOps 2 fun n=>[mk (some n) (.move (tm 2)),mk (some (n + 1)) (.binOp .add K.tInt (tm n) (ki .i64 s) 0),mk (some 2) (.assign (tm (n + 1)))]]) gSkip
def gLenE (K:Kn) (tU:Nat):List GC:=[gOps 6 fun n=>[mk (some n) (.move (tm 2)),mk (some (n + 1)) (.move (tm 0)),mk (some (n + 2)) (.convert tU K.tU8 (tm (n + 1))),mk (some (n + 3)) (.index K.tStr (.const (strV len8)) (tm (n + 2))),mk (some (n + 4)) (.convert K.tU8 K.tInt (tm (n + 3))),
  mk (some (n + 5)) (.binOp .add K.tInt (tm n) (tm (n + 4)) 0),mk (some 2) (.assign (tm (n + 5)))],gCode .ret]
def cLen64 (K:Kn) (tU:Nat):Code:=(gS (gSet 2 (.int .i64 0) :: gLen1 tU .u64 4294967296 32 :: gLen2 K tU .u64 65536 16 :: gLen2 K tU .u64 256 8 :: gLenE K tU) 3).1
theorem cLen32_eq (K:Kn) (tU:Nat):cLen32 K tU=(gS (gSet 2 (.int .i64 0) :: gLen1 tU .u32 65536 16 :: gLen2 K tU .u32 256 8 :: gLenE K tU) 3).1:=rfl
section
variable {P:Program} {K:Kn}
section
variable {tU n:Nat} {k:IntKind} {a:Act} {w:World} {l:List GC} {Q:Exit->Act->World->Prop}
theorem len_step1 {c s x:Nat} (h0:a.get 0=.int k (x:Int)) (h2:a.get 2=.int .i64 ((0:Nat):Int)) (hs:s<=k.bits) (hn:n + 4<=a.tmps.size) (hn3:2 < n)
  (h:∀ a',a'.get 0=.int k ((stp c s (x,0)).1:Nat)->a'.get 2=.int .i64 ((stp c s (x,0)).2:Nat)->a'.tmps.size=a.tmps.size->a'.defers=a.defers->LW P l (n + 4) Q a' w):LW P (gLen1 tU k c s :: l) n Q a w:=by
 by_cases hc:c<=x
 ·refine qx_ (s_ifT (qy_ ?_))
  rw [qe_,h0]
  refine wl_cmp (b:=true) (p:=x) (q:=c) (k:=k) (by rw [qe_,gpe (by omega)]) rfl (.inl ⟨rfl,by simp;omega⟩) (wpList_nil ⟨by rw [qe_,gpe (by simp only [qb_];omega)],?_⟩)
  refine nwp_gS (qx_ (nwp_rg (qy_ ?_)))
  rw [qe_,gpo (by omega),gpo (by omega),h0]
  refine wl_shr (k:=k) (x:=x) (s:=s) (by rw [qe_,gpe (by simp only [qb_];omega)]) hs (qn_ (wpList_nil ?_))
  rw [qe_,gpe (by simp only [qb_];omega)]
  refine qx_ (nwp_rg (qn_ (wpList_nil (LW_nil (h _ ?_ ?_ ?_ ?_)))))
  ·rw [gpo (by omega),gpe (by simp only [qb_];omega)]
   simp only [stp,if_pos hc]
   push_cast
   rfl
  ·rw [gpe (by simp only [qb_];omega)]
   simp only [stp,if_pos hc,Nat.zero_add]
   rfl
  ·simp only [qb_]
  ·simp only [qg_]
 ·refine qx_ (s_ifF (qy_ ?_))
  rw [qe_,h0]
  refine wl_cmp (b:=false) (p:=x) (q:=c) (k:=k) (by rw [qe_,gpe (by omega)]) rfl (.inl ⟨rfl,by simp;omega⟩) (wpList_nil ⟨by rw [qe_,gpe (by simp only [qb_];omega)],.skip (h _ ?_ ?_ ?_ ?_)⟩)
  ·rw [gpo (by omega),gpo (by omega),h0]
   simp only [stp,if_neg hc]
  ·rw [gpo (by omega),gpo (by omega),h2]
   simp only [stp,if_neg hc]
  ·simp only [qb_]
  ·simp only [qg_]
theorem len_step2 {c s x t:Nat} (h0:a.get 0=.int k (x:Int)) (h2:a.get 2=.int .i64 (t:Int)) (ht:t + s < 128) (hs:s<=k.bits) (hn:n + 6<=a.tmps.size) (hn3:2 < n)
  (h:∀ a',a'.get 0=.int k ((stp c s (x,t)).1:Nat)->a'.get 2=.int .i64 ((stp c s (x,t)).2:Nat)->a'.tmps.size=a.tmps.size->a'.defers=a.defers->LW P l (n + 6) Q a' w):LW P (gLen2 K tU k c s :: l) n Q a w:=by
 by_cases hc:c<=x
 ·refine qx_ (s_ifT (qy_ ?_))
  rw [qe_,h0]
  refine wl_cmp (b:=true) (p:=x) (q:=c) (k:=k) (by rw [qe_,gpe (by omega)]) rfl (.inl ⟨rfl,by simp;omega⟩) (wpList_nil ⟨by rw [qe_,gpe (by simp only [qb_];omega)],?_⟩)
  refine nwp_gS (qx_ (nwp_rg (qy_ ?_)))
  rw [qe_,gpo (by omega),gpo (by omega),h0]
  refine wl_shr (k:=k) (x:=x) (s:=s) (by rw [qe_,gpe (by simp only [qb_];omega)]) hs (qn_ (wpList_nil ?_))
  rw [qe_,gpe (by simp only [qb_];omega)]
  refine qx_ (nwp_rg (qy_ ?_))
  rw [qe_,gpo (by omega),gpo (by first | omega | simp [gOps]),gpo (by first | omega | simp [gOps]),gpo (by omega),gpo (by omega),h2]
  refine wl_bin (k:=.i64) (m:=t) (n:=s) (by rw [qe_,gpe (by simp only [qb_];first | omega | (simp [gOps];omega))]) rfl (by simp) (run_add w) (qn_ (wpList_nil (LW_nil (h _ ?_ ?_ ?_ ?_))))
  ·rw [gpo (by omega),gpo (by first | omega | simp [gOps]),gpo (by first | omega | simp [gOps]),gpe (by simp only [qb_];omega)]
   simp only [stp,if_pos hc]
   push_cast
   rfl
  ·rw [gpe (by simp only [qb_];omega),qe_,gpe (by simp only [qb_];first | omega | (simp [gOps];omega))]
   simp only [stp,if_pos hc]
   have:((t:Int) + s)=((t + s:Nat):Int):=by omega
   rw [this,wrap_small (by omega)]
  ·simp only [qb_]
  ·simp only [qg_]
 ·refine qx_ (s_ifF (qy_ ?_))
  rw [qe_,h0]
  refine wl_cmp (b:=false) (p:=x) (q:=c) (k:=k) (by rw [qe_,gpe (by omega)]) rfl (.inl ⟨rfl,by simp;omega⟩) (wpList_nil ⟨by rw [qe_,gpe (by simp only [qb_];omega)],.skip (h _ ?_ ?_ ?_ ?_)⟩)
  ·rw [gpo (by omega),gpo (by omega),h0]
   simp only [stp,if_neg hc]
  ·rw [gpo (by omega),gpo (by omega),h2]
   simp only [stp,if_neg hc]
  ·simp only [qb_]
  ·simp only [qg_]
theorem len_end (wt:WT0 P K) (hU:P.underlying tU=some (.int k)) {q:Nat × Nat} (h0:a.get 0=.int k (q.1:Int)) (h2:a.get 2=.int .i64 (q.2:Int)) (hq1:q.1 < 256) (hq2:q.2 < 100) (hn:n + 6<=a.tmps.size) (hn3:2 < n)
  (h:∀ a',a'.defers=a.defers->a'.get 2=.int .i64 (lenOf q:Nat)->Q .ret a' w):LW P (gLenE K tU) n Q a w:=by
 have h8:=(len8_ok _ hq1).1
 refine qx_ (nwp_rg (qy_ (qy_ ?_)))
 rw [qe_,h2,qe_,gpo (by omega),h0]
 refine wl_convInt (k:=k) (k':=.u8) (m:=q.1) (by rw [qe_,gpe (by simp only [qb_];omega)]) hU wt.dU8 ?_
 rw [wrap_u8 hq1]
 refine wl_index wt.dStr (by rw [qe_,gpe (by simp only [qb_];omega)]) (len8_get hq1) ?_
 refine wl_convInt (k:=.u8) (k':=.i64) (m:=((len8.getD q.1 0).toNat:Int)) (by rw [qe_,gpe (by simp only [qb_];omega)]) wt.dU8 wt.dInt ?_
 rw [u8_i64]
 refine wl_bin (k:=.i64) (m:=q.2) (n:=((len8.getD q.1 0).toNat:Int)) ?_ ?_ (by simp) (run_add w) ?_
 ·rw [qe_,gpo (by omega),gpo (by omega),gpo (by omega),gpo (by omega),gpe (by omega)]
 ·rw [qe_,gpe (by simp only [qb_];omega)]
 rw [show ((q.2:Int) + ((len8.getD q.1 0).toNat:Int))=((q.2 + (len8.getD q.1 0).toNat:Nat):Int) by omega,wrap_small (by omega)]
 refine qn_ (wpList_nil (qx_ (.ret ?_)))
 rw [qe_,gpe (by simp only [qb_];omega)]
 exact h _ (by simp only [qg_]) (by rw [gpe (by simp only [qb_];omega)];rfl)
end
end
end Go.Proofs.Ytlnmiphokmhajaa.Kx

namespace Go.Proofs.Ytlnmiphokmhajaa.Kx
open Go
set_option maxRecDepth 4000
def Tells (x:Nat) (p:Nat × Nat):Prop:=p.1 * 2 ^ p.2<=x/\x < (p.1 + 1) * 2 ^ p.2/\(p.2=0 \/ 0 < p.1)
theorem Tells.step {x c s:Nat} {p:Nat × Nat} (h:Tells x p) (hc:2 ^ s<=c):Tells x (stp c s p):=by
 unfold stp
 split
 ·rename_i hle
  obtain ⟨h1,h2,_⟩:=h
  have hp:0 < 2 ^ s:=Nat.two_pow_pos s
  refine ⟨?_,?_,.inr ?_⟩
  ·show p.1 / 2 ^ s * 2 ^ (p.2 + s)<=x
   rw [Nat.add_comm,Nat.pow_add,<- Nat.mul_assoc]
   exact Nat.le_trans (Nat.mul_le_mul_right _ (Nat.div_mul_le_self _ _)) h1
  ·show x < (p.1 / 2 ^ s + 1) * 2 ^ (p.2 + s)
   rw [Nat.add_comm p.2,Nat.pow_add,<- Nat.mul_assoc]
   refine Nat.lt_of_lt_of_le h2 (Nat.mul_le_mul_right _ ?_)
   have:=Nat.lt_mul_div_succ p.1 hp
   rw [Nat.mul_comm] at this
   exact this
  ·exact Nat.div_pos (Nat.le_trans hc hle) hp
 ·exact h
theorem Tells.len {x:Nat} {p:Nat × Nat} (h:Tells x p) (hp:p.1 < 256):x < 2 ^ lenOf p/\(lenOf p=0 \/ 2 ^ (lenOf p - 1)<=x):=by
 obtain ⟨h1,h2,h3⟩:=len8_ok _ hp
 obtain ⟨q1,q2,q3⟩:=h
 simp only [lenOf]
 generalize ht:(len8.getD p.1 0).toNat=t at h1 h2 h3
 refine ⟨?_,?_⟩
 ·rw [Nat.add_comm,Nat.pow_add]
  exact Nat.lt_of_lt_of_le q2 (Nat.mul_le_mul_right _ h2)
 ·rcases h3 with rfl | h3
  ·have hp0:p.1=0:=by simpa using h2
   rcases q3 with q3 | q3
   ·exact .inl (by omega)
   ·omega
  ·by_cases ht0:t=0
   ·subst ht0
    have hp0:p.1=0:=by simpa using h2
    rcases q3 with q3 | q3
    ·exact .inl (by omega)
    ·omega
   ·refine .inr ?_
    rw [show p.2 + t - 1=(t - 1) + p.2 by omega,Nat.pow_add]
    exact Nat.le_trans (Nat.mul_le_mul_right _ h3) q1
def grp (n:Nat):Nat:=if n=0 then 1 else (n + 6) / 7
theorem uvT_grp:∀ n,n < 65->(uvTab.getD n 0).toNat=grp n:=by decide +kernel
theorem grp_ok {x n:Nat} (h:x < 2 ^ n) (h2:n=0 \/ 2 ^ (n - 1)<=x):1<=grp n/\x < 128 ^ grp n/\(grp n=1 \/ 128 ^ (grp n - 1)<=x):=by
 have e:∀ k,128 ^ k=2 ^ (7 * k):=fun k=>by rw [Nat.pow_mul]
 unfold grp
 split
 ·rename_i hn
  subst hn
  simp at h
  subst h
  simp
 ·rename_i hn
  refine ⟨by omega,?_,?_⟩
  ·rw [e]
   exact Nat.lt_of_lt_of_le h (Nat.pow_le_pow_right (by omega) (by omega))
  ·by_cases h1:(n + 6) / 7=1
   ·exact .inl h1
   ·refine .inr ?_
    rw [e]
    rcases h2 with h2 | h2
    ·exact absurd h2 hn
    ·exact Nat.le_trans (Nat.pow_le_pow_right (by omega) (by omega)) h2
def sh (s:Nat):Option Nat:=if s=0 then none else some s
def esFrom (s:Nat):Nat->List OE
 | 0=>[]
 | 1=>[(sh s,false)]
 | k + 2=>(sh s,true) :: esFrom (s + 7) (k + 1)
theorem sh_getD (s:Nat):(sh s).getD 0=s:=by
 unfold sh
 split <;> simp [*]
theorem es_val:∀ (k f s x:Nat),1<=k->k<=f + 1->x / 2 ^ s < 128 ^ k->(k=1 \/ 128 ^ (k - 1)<=x / 2 ^ s)->oesVal (esFrom s k) (x:Int)=uvarAux f (x / 2 ^ s)
 | 0,_,_,_,h,_,_,_=>absurd h (by omega)
 | 1,f,s,x,_,_,h,_=>by
  have h:x / 2 ^ s < 128:=by simpa using h
  have hd:((x:Int) / (2:Int) ^ s)=((x / 2 ^ s:Nat):Int):=by push_cast;rfl
  rw [uvarAux_last (by omega)]
  have e:((((x / 2 ^ s:Nat):Int) % 256).toNat)=x / 2 ^ s:=by generalize x / 2 ^ s=y at h;omega
  simp only [esFrom,oesVal,oeVal,List.map_cons,List.map_nil,sh_getD,hd,e,Bool.false_eq_true,if_false]
 | k + 2,f,s,x,_,hf,h,h2=>by
  obtain ⟨f,rfl⟩:∃ g,f=g + 1:=⟨f - 1,by omega⟩
  have h2:128 ^ (k + 1)<=x / 2 ^ s:=by
   rcases h2 with h2 | h2
   ·omega
   ·exact h2
  have h128:128<=128 ^ (k + 1):=by
   rw [Nat.pow_succ]
   have:=Nat.pow_pos (n:=k) (show 0 < 128 by omega)
   omega
  have hd:((x:Int) / (2:Int) ^ s)=((x / 2 ^ s:Nat):Int):=by push_cast;rfl
  have hdd:x / 2 ^ (s + 7)=x / 2 ^ s / 128:=by rw [Nat.pow_add,Nat.div_div_eq_div_mul]
  rw [uvarAux_step (by omega)]
  have ih:=es_val (k + 1) f (s + 7) x (by omega) (by omega) (by rw [hdd];exact Nat.div_lt_of_lt_mul (by rw [Nat.mul_comm,<- Nat.pow_succ];exact h)) (by
   rcases Nat.eq_zero_or_pos k with hk | hk
   ·exact .inl (by omega)
   ·refine .inr ?_
    rw [hdd,Nat.le_div_iff_mul_le (by omega)]
    simp only [Nat.add_sub_cancel]
    rw [<- Nat.pow_succ]
    exact h2)
  rw [hdd] at ih
  rw [<- ih]
  have e:((((x / 2 ^ s:Nat):Int) % 128 + 128).toNat)=x / 2 ^ s % 128 + 128:=by generalize x / 2 ^ s=y;omega
  simp only [esFrom,oesVal,List.map_cons,oeVal,sh_getD,hd,if_pos,e]
end Go.Proofs.Ytlnmiphokmhajaa.Kx

namespace Go.Proofs.Ytlnmiphokmhajaa.Kx
open Go
set_option maxRecDepth 4000
section
variable {P:Program} {K:Kn}
def l64 (x:Nat):Nat:=lenOf (stp 256 8 (stp 65536 16 (stp 4294967296 32 (x,0))))
def l32' (x:Nat):Nat:=lenOf (stp 256 8 (stp 65536 16 (x,0)))
theorem tells0 (x:Nat):Tells x (x,0):=⟨by simp,by simp,.inl rfl⟩
theorem stp_lt {c s _n:Nat} {p:Nat × Nat} (h:p.1 < c * 2 ^ s) (_hc:0 < c):(stp c s p).1 < c:=by
 unfold stp
 split
 ·exact Nat.div_lt_of_lt_mul (by rw [Nat.mul_comm];exact h)
 ·omega
theorem stp_two (c s:Nat) (p:Nat × Nat):(stp c s p).2<=p.2 + s:=by
 unfold stp
 split <;> simp
theorem len_ok64 {x:Nat} (h:x < 18446744073709551616):(stp 256 8 (stp 65536 16 (stp 4294967296 32 (x,0)))).1 < 256/\(stp 256 8 (stp 65536 16 (stp 4294967296 32 (x,0)))).2<=56/\x < 2 ^ l64 x/\(l64 x=0 \/ 2 ^ (l64 x - 1)<=x):=by
 have h1:(stp 4294967296 32 (x,0)).1 < 4294967296:=stp_lt (_n:=0) (by simpa using h) (by omega)
 have h2:(stp 65536 16 (stp 4294967296 32 (x,0))).1 < 65536:=stp_lt (_n:=0) (by simpa using h1) (by omega)
 have h3:(stp 256 8 (stp 65536 16 (stp 4294967296 32 (x,0)))).1 < 256:=stp_lt (_n:=0) (by simpa using h2) (by omega)
 have t1:=stp_two 4294967296 32 (x,0)
 have t2:=stp_two 65536 16 (stp 4294967296 32 (x,0))
 have t3:=stp_two 256 8 (stp 65536 16 (stp 4294967296 32 (x,0)))
 dsimp only at t1
 exact ⟨h3,by omega,((((tells0 x).step (by decide)).step (by decide)).step (by decide)).len h3⟩
theorem len_ok32 {x:Nat} (h:x < 4294967296):(stp 256 8 (stp 65536 16 (x,0))).1 < 256/\(stp 256 8 (stp 65536 16 (x,0))).2<=24/\x < 2 ^ l32' x/\(l32' x=0 \/ 2 ^ (l32' x - 1)<=x):=by
 have h2:(stp 65536 16 (x,0)).1 < 65536:=stp_lt (_n:=0) (by simpa using h) (by omega)
 have h3:(stp 256 8 (stp 65536 16 (x,0))).1 < 256:=stp_lt (_n:=0) (by simpa using h2) (by omega)
 have t2:=stp_two 65536 16 (x,0)
 have t3:=stp_two 256 8 (stp 65536 16 (x,0))
 dsimp only at t2
 exact ⟨h3,by omega,(((tells0 x).step (by decide)).step (by decide)).len h3⟩
theorem bits_le {x n k:Nat} (h:n=0 \/ 2 ^ (n - 1)<=x) (hx:x < 2 ^ k):n<=k:=by
 rcases h with h | h
 ·omega
 ·have:=(Nat.pow_lt_pow_iff_right (a:=2) (by omega)).1 (Nat.lt_of_le_of_lt h hx)
  omega
theorem len64_calls (wt:WT0 P K) {tU f ntmps:Nat} (hU:P.underlying tU=some (.int .u64)) (hfn:FnIs P f ntmps [2] (cLen64 K tU)) (hnt:25<=ntmps) {x:Nat} (hx:x < 18446744073709551616) (w:World) :
  Calls P f #[.int .u64 x] w fun e w'=>e=.returned (.int .i64 (l64 x:Nat))/\w'=w:=by
 obtain ⟨hq1,hq2,_⟩:=len_ok64 hx
 have t1:=stp_two 4294967296 32 (x,0)
 have t2:=stp_two 65536 16 (stp 4294967296 32 (x,0))
 dsimp only at t1
 refine calls1 wt.mixed hfn (by omega) fun a h0 hs hd=>?_
 refine qx_ (nwp_rg (qn_ (wpList_nil ?_)))
 show LW P _ 3 _ (a.put (some 2) (.int .i64 0)) w
 refine len_step1 (by rw [gpo (by omega)];exact h0) (gpe (by omega)) (by decide) (by simp only [qb_];omega) (by omega) fun a1 g0 g2 gs gd=>?_
 refine len_step2 (x:=(stp 4294967296 32 (x,0)).1) (t:=(stp 4294967296 32 (x,0)).2) g0 g2 (by omega) (by decide) (by simp only [qb_] at gs;omega) (by omega) fun a2 h0 h2 hs2 hd2=>?_
 refine len_step2 (x:=(stp 65536 16 (stp 4294967296 32 (x,0))).1) (t:=(stp 65536 16 (stp 4294967296 32 (x,0))).2) h0 h2 (by omega) (by decide) (by simp only [qb_] at gs;omega) (by omega) fun a3 h0 h2 hs3 hd3=>?_
 refine len_end wt hU (q:=stp 256 8 (stp 65536 16 (stp 4294967296 32 (x,0)))) h0 h2 hq1 (by omega) (by simp only [qb_] at gs;omega) (by omega) fun a4 hd4 h4=>?_
 refine ⟨by rw [hd4,hd3,hd2,gd,qg_];exact hd,?_⟩
 exact ⟨by rw [h4];rfl,rfl⟩
theorem len32_calls0 (wt:WT0 P K) {tU f ntmps:Nat} (hU:P.underlying tU=some (.int .u32)) (hfn:FnIs P f ntmps [2] (cLen32 K tU)) (hnt:19<=ntmps) {x:Nat} (hx:x < 4294967296) (w:World) :
  Calls P f #[.int .u32 x] w fun e w'=>e=.returned (.int .i64 (l32' x:Nat))/\w'=w:=by
 rw [cLen32_eq] at hfn
 obtain ⟨hq1,hq2,_⟩:=len_ok32 hx
 have t2:=stp_two 65536 16 (x,0)
 dsimp only at t2
 refine calls1 wt.mixed hfn (by omega) fun a h0 hs hd=>?_
 refine qx_ (nwp_rg (qn_ (wpList_nil ?_)))
 show LW P _ 3 _ (a.put (some 2) (.int .i64 0)) w
 refine len_step1 (by rw [gpo (by omega)];exact h0) (gpe (by omega)) (by decide) (by simp only [qb_];omega) (by omega) fun a1 g0 g2 gs gd=>?_
 refine len_step2 (x:=(stp 65536 16 (x,0)).1) (t:=(stp 65536 16 (x,0)).2) g0 g2 (by omega) (by decide) (by simp only [qb_] at gs;omega) (by omega) fun a2 h0 h2 hs2 hd2=>?_
 refine len_end wt hU (q:=stp 256 8 (stp 65536 16 (x,0))) h0 h2 hq1 (by omega) (by simp only [qb_] at gs;omega) (by omega) fun a4 hd4 h4=>?_
 refine ⟨by rw [hd4,hd2,gd,qg_];exact hd,?_⟩
 exact ⟨by rw [h4];rfl,rfl⟩
theorem glen_calls (wt:WT0 P K) {k:IntKind} {f f2 ntmps:Nat} {x:Nat} {ln:Nat->Nat} {w:World} (hE:Ent P f2) (hC:Calls P f2 #[.int k x] w fun e w'=>e=.returned (.int .i64 (ln x:Nat))/\w'=w) (hfn:FnIs P f ntmps [2] (cUvLen K f2)) (hnt:8<=ntmps) (hl:ln x < 65) :
  Calls P f #[.int k x] w fun e w'=>e=.returned (.int .i64 (grp (ln x):Nat))/\w'=w:=by
 refine calls1 wt.mixed hfn (by omega) fun a h0 hs hd=>?_
 refine qx_ (nwp_rg (qn_ (wpList_nil ?_)))
 show LW P _ 3 _ (a.put (some 2) (.int .i64 0)) w
 refine qx_ (nwp_rg (qy_ ?_))
 rw [qe_,gpo (by omega),h0]
 refine wl_call (vs:=#[.int k x]) hE (by simp [qe_,gpe (show 3 < (a.put (some 2) (Value.int .i64 0)).tmps.size by rw [qb_];omega)]) hC fun e w' hR=>⟨_,hR.1,?_⟩
 obtain rfl:=hR.2
 refine wl_convInt (k:=.i64) (k':=.u8) (m:=(ln x:Nat)) (by rw [qe_,gpe (by simp only [qb_];omega)]) wt.dInt wt.dU8 ?_
 rw [wrap_u8 (by omega)]
 refine wl_index wt.dStr (by rw [qe_,gpe (by simp only [qb_];omega)]) (uvTab_get (by omega)) ?_
 refine wl_convInt (k:=.u8) (k':=.i64) (m:=((uvTab.getD (ln x) 0).toNat:Int)) (by rw [qe_,gpe (by simp only [qb_];omega)]) wt.dU8 wt.dInt ?_
 rw [u8_i64,uvT_grp _ hl]
 refine qn_ (wpList_nil (qx_ (.ret ?_)))
 rw [qe_,gpe (by simp only [qb_];omega)]
 exact ⟨by simp only [qg_];exact hd,by rw [gpe (by simp only [qb_];omega)],rfl⟩
def q6_ (K:Kn) (tX:Nat) (k:IntKind):List (Nat × List OE)->Nat->Code × Nat
 | [],n=>(.skip,n)
 | (j,es) :: r,n=>(.seq (rg [mk (some (n + 1)) (.binOp .eql K.tInt (tm 6) (ki .i64 j) 0),mk (some n) (.assign (tm (n + 1)))]) (.cond (tm n) (gAppO K tX k es (n + 2)).1 (q6_ K tX k r (gAppO K tX k es (n + 2)).2).1),(q6_ K tX k r (gAppO K tX k es (n + 2)).2).2)
def gvEs:Nat->List (Nat × List OE)
 | 0=>[]
 | k + 1=>(k + 1,esFrom 0 (k + 1)) :: gvEs k
def cAGv (K:Kn) (tX:Nat) (k:IntKind) (top f:Nat):Code:=rd4 5 [gS [gOps 2 fun n=>[mk (some n) (.move (tm 1)),cl (some (n + 1)) f [tm n]],fun n=>(.block 0 (q6_ K tX k (gvEs top) n).1,(q6_ K tX k (gvEs top) n).2)],
 gOps 1 fun n=>[mk (some n) (.move (tm 0)),mk (some 4) (.assign (tm n))],gCode .ret]
theorem gvEs_get:∀ (top j:Nat),1<=j->j<=top->(gvEs top).lookup j=some (esFrom 0 j)
 | 0,j,h1,h2=>absurd h1 (by omega)
 | k + 1,j,h1,h2=>by
  simp only [gvEs,List.lookup_cons]
  by_cases hj:j=k + 1
  ·subst hj;simp
  ·have:(j == k + 1)=false:=by simpa using hj
   rw [this]
   exact gvEs_get k j h1 (by omega)
theorem esFrom_len:∀ (k s:Nat),(esFrom s k).length=k
 | 0,_=>rfl
 | 1,_=>rfl
 | k + 2,s=>by simp only [esFrom,List.length_cons];rw [esFrom_len (k + 1)]
theorem esFrom_le:∀ (k s:Nat),∀ e ∈ esFrom s k,∀ t,e.1=some t->t<=s + 7 * (k - 1)
 | 0,_,_,h,_,_=>by cases h
 | 1,s,e,h,t,ht=>by
  simp only [esFrom,List.mem_cons,List.not_mem_nil,or_false] at h
  subst h
  simp only [sh] at ht
  split at ht
  ·cases ht
  ·cases ht;omega
 | k + 2,s,e,h,t,ht=>by
  simp only [esFrom,List.mem_cons] at h
  rcases h with rfl | h
  ·simp only [sh] at ht
   split at ht
   ·cases ht
   ·cases ht;omega
  ·have:=esFrom_le (k + 1) (s + 7) e h t ht
   omega
theorem gvEs_ok:∀ (top:Nat),∀ p ∈ gvEs top,1<=p.1/\p.1<=top/\p.2=esFrom 0 p.1
 | 0,_,h=>by cases h
 | k + 1,p,h=>by
  simp only [gvEs,List.mem_cons] at h
  rcases h with rfl | h
  ·exact ⟨by omega,by omega,rfl⟩
  ·obtain ⟨a,b,c⟩:=gvEs_ok k p h
   exact ⟨a,by omega,c⟩
theorem gv_cases (wt:WT0 P K) {tX:Nat} {k:IntKind} (hX:P.underlying tX=some (.int k)) (hk:uk k) {j L:Nat} {x:Int} {d:Value} {bs:Bs} {w:World} {E N:Act->World->Prop} (hx0:0<=x) (hx:x < 2 ^ k.bits) (hd:qu_ w L K.tU8 d bs) (hL:L<=w.heap.size) :
  ∀ (cs:List (Nat × List OE)) (es:List OE) (n:Nat) (a:Act),(∀ p ∈ cs,p.2 ≠ []/\p.2.length<=10/\∀ e ∈ p.2,∀ s,e.1=some s->s<=k.bits)->cs.lookup j=some es->bs.length + es.length<=LIM->6 < n->(q6_ K tX k cs n).2<=a.tmps.size->a.get 0=d->a.get 1=.int k x->a.get 6=.int .i64 (j:Int) ->
   (∀ a' w' d',a'.defers=a.defers->a'.get 4=d'->Gr L K.tU8 d w d' (bs++oesVal es x) w'->E a' w')->NWP P (q6_ K tX k cs n).1 (Rt N E) a w
 | [],es,n,a,_,h,_,_,_,_,_,_,_=>by cases h
 | (i,es') :: cs,es,n,a,hok,h,hlim,hn,hs,h0,h1,h6,hE=>by
  have hup:∀ (cs:List (Nat × List OE)) (n:Nat),n<=(q6_ K tX k cs n).2:=by
   intro cs
   induction cs with
   | nil=>intro n;exact Nat.le_refl _
   | cons p cs ih=>
    intro n
    obtain ⟨i,es⟩:=p
    have:=ih (gAppO K tX k es (n + 2)).2
    have h2:(gAppO K tX k es (n + 2)).2=n + 2 + (3 + oesLen es):=rfl
    simp only [q6_]
    omega
  have hstep:=hup cs (gAppO K tX k es' (n + 2)).2
  have h2:(gAppO K tX k es' (n + 2)).2=n + 2 + (3 + oesLen es'):=rfl
  simp only [q6_] at hs ⊢
  have hcmp:∀ (b:Bool) (X:Act->World->Prop),b=decide ((j:Int)=(i:Int))->(∀ a',Pv n 0 0 n a a'->a'.get n=.bool b->X a' w)->NWP P (rg [mk (some (n + 1)) (.binOp .eql K.tInt (tm 6) (ki .i64 i) 0),mk (some n) (.assign (tm (n + 1)))]) (Rt X E) a w:=by
   intro b X hb hX
   refine .reg (wl_cmp (b:=b) (p:=j) (q:=i) (k:=.i64) (by rw [qe_];exact h6) rfl (.inr (.inr (.inr (.inr (.inl ⟨rfl,hb⟩))))) (qn_ (wpList_nil ?_)))
   rw [qe_,gpe (by omega)]
   exact hX _ (((Pv.refl _ _ _ _ _).put _ (.inr (by omega))).put _ (.inl rfl)) (gpe (by rw [qb_];omega))
  by_cases hij:j=i
  ·subst hij
   rw [List.lookup_cons_self] at h
   obtain rfl:=Option.some.inj h
   refine .seq (hcmp true (fun a' w'=>NWP P (.cond (tm n) (gAppO K tX k es' (n + 2)).1 (q6_ K tX k cs (gAppO K tX k es' (n + 2)).2).1) (Rt N E) a' w') (by simp) fun a' hp hg=>?_) (fun a' w' hh=>hh) (fun e a w he hq=>by cases e <;> first | exact absurd rfl he | exact hq)
   have hsz:=hp.size
   obtain ⟨o1,o2,o3⟩:=hok _ (List.mem_cons_self ..)
   refine .condT hg (s_appO wt.oct hX wt.dU8 (by omega) (by rw [hp.get 0 (by omega) (by omega)];exact h0) (by rw [hp.get 1 (by omega) (by omega)];exact h1) (fun e he=>.inr ⟨hk,hx0,hx,o3 e he⟩) o1 o2 (by omega) hd hL hlim fun a'' w' d' hd' h4 hg'=>hE a'' w' d' (hd'.trans hp.defers) h4 hg')
  ·rw [List.lookup_cons,show (j == i)=false by simpa using hij] at h
   refine .seq (hcmp false (fun a' w'=>NWP P (.cond (tm n) (gAppO K tX k es' (n + 2)).1 (q6_ K tX k cs (gAppO K tX k es' (n + 2)).2).1) (Rt N E) a' w') (by simp;omega) fun a' hp hg=>?_) (fun a' w' hh=>hh) (fun e a w he hq=>by cases e <;> first | exact absurd rfl he | exact hq)
   have hsz:=hp.size
   exact .condF hg (gv_cases wt hX hk hx0 hx hd hL cs es _ a' (fun p hp=>hok p (List.mem_cons_of_mem _ hp)) h hlim (by omega) (by omega) (by rw [hp.get 0 (by omega) (by omega)];exact h0) (by rw [hp.get 1 (by omega) (by omega)];exact h1) (by rw [hp.get 6 (by omega) (by omega)];exact h6)
    fun a'' w' d' hd' h4 hg'=>hE a'' w' d' (hd'.trans hp.defers) h4 hg')
theorem ap_gv (wt:WT0 P K) {tX:Nat} {k:IntKind} (hX:P.underlying tX=some (.int k)) (hk:uk k) {f f1 ntmps top:Nat} {x:Nat} {ln:Nat->Nat} (hE:Ent P f1) (hC:∀ w,Calls P f1 #[.int k x] w fun e w'=>e=.returned (.int .i64 (grp (ln x):Nat))/\w'=w) (hfn:FnIs P f ntmps [4] (cAGv K tX k top f1)) (hnt:(q6_ K tX k (gvEs top) 7).2<=ntmps)
  (h7:7<=ntmps) (htop:top<=10) (hbits:7 * (top - 1)<=k.bits) (hx:x < 2 ^ k.bits) (hl1:x < 2 ^ ln x) (hl2:ln x=0 \/ 2 ^ (ln x - 1)<=x) (hg:grp (ln x)<=top) (w:World):ApC P K.tU8 f (.int k x) (uvar x) w:=by
 intro L d bs hd hL hlim
 obtain ⟨g1,g2,g3⟩:=grp_ok hl1 hl2
 have hval:oesVal (esFrom 0 (grp (ln x))) (x:Int)=uvar x:=by
  have:=es_val (grp (ln x)) 9 0 x g1 (by omega) (by simpa using g2) (by simpa using g3)
  simpa [uvar] using this
 have hes:=gvEs_get top (grp (ln x)) g1 hg
 refine calls2s wt.mixed hfn (by omega) fun a h0 h1 hs hdf=>?_
 refine qx_ (nwp_gS (qx_ (nwp_rg (qy_ ?_))))
 rw [qe_,h1]
 refine wl_call (vs:=#[.int k x]) hE (by simp [qe_,gpe (show 5 < a.tmps.size by omega)]) (hC w) fun e w1 hR=>⟨_,hR.1,wpList_nil ?_⟩
 obtain rfl:=hR.2
 refine qx_ (.block ?_)
 refine .mono (gv_cases (E:=fun a' w'=>a'.defers=[]/\∃ d',.returned (a'.get 4)=Ending.returned d'/\Gr L K.tU8 d w1 d' (bs++uvar x) w') (N:=fun _ _=>False) wt hX hk (j:=grp (ln x)) (x:=x) (by omega) (by exact_mod_cast hx) hd hL (gvEs top) _ 7 _ (fun p hp=>?_) hes ?_ (by omega) (by simp only [qb_];omega)
  (by rw [gpo (by omega),gpo (by omega)];exact h0) (by rw [gpo (by omega),gpo (by omega)];exact h1) (gpe (by simp only [qb_];omega)) fun a' w' d' hd' h4 hg=>⟨?_,d',by rw [h4],?_⟩) fun e a w hq=>?_
 ·obtain ⟨p1,p2,p3⟩:=gvEs_ok top p hp
  refine ⟨fun hh=>?_,by rw [p3,esFrom_len];omega,fun e he s hs=>?_⟩
  ·have:=congrArg List.length hh
   rw [p3,esFrom_len] at this
   simp at this
   omega
  ·rw [p3] at he
   have:=esFrom_le p.1 0 e he s hs
   omega
 ·have:=congrArg List.length hval
  simp only [oesVal,List.length_map] at this
  omega
 ·rw [hd'];simp only [qg_];exact hdf
 ·rw [<- hval];exact hg
 ·cases e <;> first | exact hq | exact hq.elim
end
end Go.Proofs.Ytlnmiphokmhajaa.Kx

namespace Go.Proofs.Ytlnmiphokmhajaa.Kx
open Go
set_option maxRecDepth 4000
section
variable {P:Program} {S:SN} {N:RN}
def NvAt (w:World) (L:Nat) (v:Value) (o:Oc):Prop:=
 (o.1=true/\v=nilS) \/ (o.1=false/\∃ b q c,v=.slice (some ⟨b,q,none⟩) o.2.length c/\b < L/\b < w.heap.size/\OctAt w b q o.2)
theorem NvAt.keep {w w':World} {X:Nat->Prop} {L:Nat} {v:Value} {o:Oc} (h:NvAt w L v o) (hk:qd_ X w w') (hX:∀ k,k < L->¬ X k):NvAt w' L v o:=by
 rcases h with h | ⟨h1,b,q,c,h2,h3,h4,h5⟩
 ·exact .inl h
 ·exact .inr ⟨h1,b,q,c,h2,h3,Nat.lt_of_lt_of_le h4 hk.size,h5.keep hk (hX b h3)⟩
section
variable {ops:Array Oper} {Q:Exit->Act->World->Prop} {r:List Oper} {n:Nat} {a:Act} {w:World} {l:List (Nat × Value)}
theorem st_slNil (h:St n a l) {d tS el:Nat} {x:Operand} {m:Option Addr} {k c:Nat} (hM:P.underlying tS=some (.slice el)) (hx:Hd l x (.slice m k c)) (hd:d < n) (q:∀ a',St n a' ((d,.bool m.isNone) :: l)->wpList P ops Q r a' w) :
  wpList P ops Q (mk (some d) (.binOp .eql tS x (.const nilS) 0) :: r) a w:=wl_slNil hM (hx n a h) (q _ (h.put _ hd))
theorem src_at (ot:OctT P S.tSl S.tU8) {w:World} {g o c:Nat} {l:Bs} (h:OctAt w g o l):Src P 1 S.tSl (.slice (some ⟨g,o,none⟩) l.length c) l.length (l.map octv) w:=
 Src.ofSlice w ot.und ⟨g,o,none⟩ l.length c _ (by simp) (fun j u hj=>by
  rw [List.getElem?_map,Option.map_eq_some_iff] at hj
  obtain ⟨b,hb,rfl⟩:=hj
  rw [Addr.add_lit]
  exact h j b hb) oct_one
end
theorem avi_calls (R:Ref0 P S N) (hE:Ent P N.fAUv) (hC:∀ (x:Nat) (w:World),x < 4294967296->ApC P S.tU8 N.fAUv (.int .u32 (x:Int)) (uvar x) w) (hfn:FnIs P N.fAVi 14 [4] (cRAVi S N)) {x:Int} (h1:-2147483648<=x) (h2:x < 2147483648) (w:World) :
  ApC P S.tU8 N.fAVi (.int .i32 x) (vint x) w:=by
 intro L d bs hd hL hlim
 refine q3_ R.mixed hfn (by simp) [d,.int .i32 x] (by simp) fun a h=>?_
 unfold cRAVi
 refine qi_ (nrg (qa_ h .c (by omega) fun a h=>wpList_nil ?_))
 refine qi_ (nrg (qc_ h (.t rfl) (by omega) fun a h=>qc_ h (.t rfl) (by omega) fun a h=>jb_ h (.t rfl) R.dI32 R.dU32 (by omega) fun a h=>st_shl h (s:=1) (.t rfl) .i (by simp [IntKind.bits]) (by omega) fun a h=>qc_ h (.t rfl) (by omega) fun a h=>
  st_shr h (s:=31) (.t rfl) .i (by simp [IntKind.bits]) (by omega) fun a h=>jb_ h (.t rfl) R.dI32 R.dU32 (by omega) fun a h=>st_bin h (.t rfl) (.t rfl) (by simp) (run_zig32 h1 h2 w) (by omega) fun a h=>?_))
 refine qj_ h hE (vs:=[d,.int .u32 ((zig x:Nat):Int)]) (fun n a h=>by simp only [List.map_cons,List.map_nil];rw [Hd.t (l:=_) (i:=5) rfl n a h,Hd.t (l:=_) (i:=12) rfl n a h]) (hC (zig x) w (zig_lt32 h1 h2) L d bs hd hL hlim) (by omega) fun e w' hR=>?_
 obtain ⟨d',rfl,hg⟩:=hR
 exact ⟨d',rfl,fun a h=>qa_ h (.t rfl) (by omega) fun a h=>wpList_nil (.ret (ret1 (RR:=fun e w'=>∃ d',e=.returned d'/\Gr L S.tU8 d w d' (bs++vint x) w') h rfl ⟨d',rfl,hg⟩))⟩
theorem avl_calls (R:Ref0 P S N) (hE:Ent P N.fAUl) (hC:∀ (x:Nat) (w:World),x < 18446744073709551616->ApC P S.tU8 N.fAUl (.int .u64 (x:Int)) (uvar x) w) (hfn:FnIs P N.fAVl 14 [4] (cRAVl S N)) {x:Int} (h1:-9223372036854775808<=x) (h2:x < 9223372036854775808) (w:World) :
  ApC P S.tU8 N.fAVl (.int .i64 x) (vint x) w:=by
 intro L d bs hd hL hlim
 refine q3_ R.mixed hfn (by simp) [d,.int .i64 x] (by simp) fun a h=>?_
 unfold cRAVl
 refine qi_ (nrg (qa_ h .c (by omega) fun a h=>wpList_nil ?_))
 refine qi_ (nrg (qc_ h (.t rfl) (by omega) fun a h=>qc_ h (.t rfl) (by omega) fun a h=>jb_ h (.t rfl) R.dI64 R.dU64 (by omega) fun a h=>st_shl h (s:=1) (.t rfl) .i (by simp [IntKind.bits]) (by omega) fun a h=>qc_ h (.t rfl) (by omega) fun a h=>
  st_shr h (s:=63) (.t rfl) .i (by simp [IntKind.bits]) (by omega) fun a h=>jb_ h (.t rfl) R.dI64 R.dU64 (by omega) fun a h=>st_bin h (.t rfl) (.t rfl) (by simp) (run_zig64 h1 h2 w) (by omega) fun a h=>?_))
 refine qj_ h hE (vs:=[d,.int .u64 ((zig x:Nat):Int)]) (fun n a h=>by simp only [List.map_cons,List.map_nil];rw [Hd.t (l:=_) (i:=5) rfl n a h,Hd.t (l:=_) (i:=12) rfl n a h]) (hC (zig x) w (zig_lt h1 h2) L d bs hd hL hlim) (by omega) fun e w' hR=>?_
 obtain ⟨d',rfl,hg⟩:=hR
 exact ⟨d',rfl,fun a h=>qa_ h (.t rfl) (by omega) fun a h=>wpList_nil (.ret (ret1 (RR:=fun e w'=>∃ d',e=.returned d'/\Gr L S.tU8 d w d' (bs++vint x) w') h rfl ⟨d',rfl,hg⟩))⟩
theorem ai8_calls (R:Ref0 P S N) (hfn:FnIs P N.fAI8 10 [4] (cRAI8 S N)) {x:Int} (hx:-128<=x/\x < 128) (w:World):ApC P S.tU8 N.fAI8 (.int .i8 x) [UInt8.ofNat (x % 256).toNat] w:=by
 intro L d bs hd hL hlim
 refine q3_ R.mixed hfn (by simp) [d,.int .i8 x] (by simp) fun a h=>?_
 unfold cRAI8
 refine qi_ (nrg (qa_ h .c (by omega) fun a h=>wpList_nil ?_))
 refine qi_ (nrg (qc_ h (.t rfl) (by omega) fun a h=>qc_ h (.t rfl) (by omega) fun a h=>jb_ h (.t rfl) R.dI8 R.dU8 (by omega) fun a h=>?_))
 rw [wrap_8 hx] at h
 refine st_row1 h R.oct (.t rfl) (by omega) fun v a hv h=>?_
 have hk:qd_ (fun _=>False) w (w.alloc (.cells #[octv (UInt8.ofNat (x % 256).toNat)] S.tU8 (0,0))):=qd_.alloc _ _ _
 refine st_app h R.oct (.t rfl) (.t rfl) (hd.keep hk fun _ _ h=>h) (src_dst R.oct hv) (Nat.le_trans hL hk.size) hlim (by omega) fun v2 w2 a hg h=>qa_ h (.t rfl) (by omega) fun a h=>wpList_nil (.ret ?_)
 exact ret1 (RR:=fun e w'=>∃ d',e=.returned d'/\Gr L S.tU8 d w d' (bs++[UInt8.ofNat (x % 256).toNat]) w') h rfl ⟨v2,rfl,Gr.pre hk (fun _ _ h=>h) hg⟩
def AviC (P:Program) (S:SN) (N:RN):Prop:=Ent P N.fAVi/\∀ (x:Int) (w:World),-2147483648<=x->x < 2147483648->ApC P S.tU8 N.fAVi (.int .i32 x) (vint x) w
theorem wrap_i32 {n:Nat} (h:n < 2147483648):IntKind.i32.wrap (n:Int)=n:=by simp [IntKind.wrap,IntKind.bits,IntKind.signed];omega
theorem avs_calls (R:Ref0 P S N) (A:AviC P S N) (hfn:FnIs P N.fAVs 13 [4] (cRAVs S N)) {k:Bs} (hk:k.length < 2147483648) (w:World):ApC P S.tU8 N.fAVs (.string ⟨k.toArray⟩) (vint k.length++k) w:=by
 intro L d bs hd hL hlim
 simp only [List.length_append] at hlim
 refine q3_ R.mixed hfn (by simp) [d,.string ⟨k.toArray⟩] (by simp) fun a h=>?_
 unfold cRAVs
 refine qi_ (nrg (qa_ h .c (by omega) fun a h=>wpList_nil ?_))
 refine qi_ (nrg (qc_ h (.t rfl) (by omega) fun a h=>qc_ h (.t rfl) (by omega) fun a h=>st_lenS h (bs:=k) (.t rfl) R.dStr (by omega) fun a h=>jb_ h (.t rfl) R.dInt R.dI32 (by omega) fun a h=>?_))
 rw [wrap_i32 hk] at h
 refine qj_ h A.1 (vs:=[d,.int .i32 (k.length:Int)]) (fun n a h=>by simp only [List.map_cons,List.map_nil];rw [Hd.t (l:=_) (i:=5) rfl n a h,Hd.t (l:=_) (i:=8) rfl n a h]) (A.2 k.length w (by omega) (by omega) L d bs hd hL (by omega)) (by omega) fun e w1 hR=>?_
 obtain ⟨d1,rfl,hg1⟩:=hR
 refine ⟨d1,rfl,fun a h=>qa_ h (.t rfl) (by omega) fun a h=>wpList_nil ?_⟩
 refine qi_ (nrg (qc_ h (.t rfl) (by omega) fun a h=>qc_ h (.t rfl) (by omega) fun a h=>?_))
 refine st_appS h R.oct (.t rfl) (.t rfl) hg1.dst (src_str R.dStr w1 k) (Nat.le_trans hL hg1.keeps.size) (by simp only [List.length_append];omega) (by omega) fun v2 w2 a hg h=>qa_ h (.t rfl) (by omega) fun a h=>wpList_nil (.ret ?_)
 refine ret1 (RR:=fun e w'=>∃ d',e=.returned d'/\Gr L S.tU8 d w d' (bs++(vint k.length++k)) w') h rfl ⟨v2,rfl,?_⟩
 rw [<- List.append_assoc]
 exact hg1.trans hg
theorem avb_calls (R:Ref0 P S N) (A:AviC P S N) (hfn:FnIs P N.fAVb 17 [4] (cRAVb S N)) {o:Oc} (ho:o.2.length < 2147483648) {v:Value} {w:World} {L:Nat} (hv:NvAt w L v o):ApL P S.tU8 N.fAVb v (ocB o) w L:=by
 intro d bs hd hL hlim
 obtain ⟨nl,l⟩:=o
 dsimp only at ho
 refine q3_ R.mixed hfn (by simp) [d,v] (by simp) fun a h=>?_
 unfold cRAVb
 refine qi_ (nrg (qa_ h .c (by omega) fun a h=>wpList_nil ?_))
 rcases hv with ⟨h1,rfl⟩ | ⟨h1,b,q,c,rfl,hb,hbs,ho2⟩
 ·dsimp only at h1
  subst h1
  refine qi_ (qi_ (nrg (qc_ h (.t rfl) (by omega) fun a h=>st_slNil h (m:=none) (k:=0) (c:=0) R.oct.und (.t rfl) (by omega) fun a h=>wpList_nil ?_)))
  refine st_if h rfl (fun _=>?_) (fun hb=>by cases hb)
  refine qi_ (nrg (qc_ h (.t rfl) (by omega) fun a h=>?_))
  refine qj_ h A.1 (vs:=[d,.int .i32 (-1)]) (fun n a h=>by simp only [List.map_cons,List.map_nil];rw [Hd.t (l:=_) (i:=7) rfl n a h];rfl) (A.2 (-1) w (by omega) (by omega) L d bs hd hL hlim) (by omega) fun e w1 hR=>?_
  obtain ⟨d1,rfl,hg1⟩:=hR
  exact ⟨d1,rfl,fun a h=>qa_ h (.t rfl) (by omega) fun a h=>wpList_nil (.ret (ret1 (RR:=fun e w'=>∃ d',e=.returned d'/\Gr L S.tU8 d w d' (bs++ocB (true,l)) w') h rfl ⟨d1,rfl,hg1⟩))⟩
 ·dsimp only at h1 ho2
  subst h1
  have he:ocB (false,l)=vint l.length++l:=rfl
  rw [he] at hlim ⊢
  simp only [List.length_append] at hlim
  refine qi_ (qi_ (nrg (qc_ h (.t rfl) (by omega) fun a h=>st_slNil h (m:=some ⟨b,q,none⟩) (k:=l.length) (c:=c) R.oct.und (.t rfl) (by omega) fun a h=>wpList_nil ?_)))
  refine st_if h rfl (fun hb=>by cases hb) (fun _=>.skip ?_)
  refine qi_ (nrg (qc_ h (.t rfl) (by omega) fun a h=>qc_ h (.t rfl) (by omega) fun a h=>st_len h (.t rfl) R.oct.und (by omega) fun a h=>jb_ h (.t rfl) R.dInt R.dI32 (by omega) fun a h=>?_))
  rw [wrap_i32 ho] at h
  refine qj_ h A.1 (vs:=[d,.int .i32 (l.length:Int)]) (fun n a h=>by simp only [List.map_cons,List.map_nil];rw [Hd.t (l:=_) (i:=9) rfl n a h,Hd.t (l:=_) (i:=12) rfl n a h]) (A.2 l.length w (by omega) (by omega) L d bs hd hL (by omega)) (by omega) fun e w1 hR=>?_
  obtain ⟨d1,rfl,hg1⟩:=hR
  have ho3:OctAt w1 b q l:=ho2.keep hg1.keeps (fun hh=>by have:=(hd.own hh).1;omega)
  refine ⟨d1,rfl,fun a h=>qa_ h (.t rfl) (by omega) fun a h=>wpList_nil ?_⟩
  refine qi_ (nrg (qc_ h (.t rfl) (by omega) fun a h=>qc_ h (.t rfl) (by omega) fun a h=>?_))
  refine st_app h R.oct (.t rfl) (.t rfl) hg1.dst (src_at R.oct ho3) (Nat.le_trans hL hg1.keeps.size) (by simp only [List.length_append];omega) (by omega) fun v2 w2 a hg h=>qa_ h (.t rfl) (by omega) fun a h=>wpList_nil (.ret ?_)
  refine ret1 (RR:=fun e w'=>∃ d',e=.returned d'/\Gr L S.tU8 d w d' (bs++(vint l.length++l)) w') h rfl ⟨v2,rfl,?_⟩
  rw [<- List.append_assoc]
  exact hg1.trans hg
end
end Go.Proofs.Ytlnmiphokmhajaa.Kx
