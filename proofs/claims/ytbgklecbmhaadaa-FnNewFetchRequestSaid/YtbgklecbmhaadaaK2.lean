/-
  PLAIN LAWS AND CONTRACTS of messages, part 2 of 18: how readers and writers are printed, what they do, what the reference writes, and that what is written is read as the same. Nothing of a statement stands here.
-/
import Derived.Test.YtbgklecbmhaadaaK1
import Derived.Test.YtbgklecbmhaadaaK3
import Derived.KernelRfl
import Derived.Laws.IdiomStrings

namespace Go.Proofs.Ytbgklecbmhaadaa.Kx
theorem u8n {m:Nat} (h:m < 256):(UInt8.ofNat m).toNat=m:=UInt8.toNat_ofNat_of_lt (by simpa using h)
theorem be_length (k:Nat) (x:Int):(be k x).length=k:=by
 induction k with
 | zero=>rfl
 | succ k ih=>simp only [be,List.length_cons,ih]
end Go.Proofs.Ytbgklecbmhaadaa.Kx

namespace Go.Proofs.Ytbgklecbmhaadaa.Kx
theorem wTags_cons (p:Nat × Bs) (t:List (Nat × Bs)):j3_ (p :: t)=wTag p++j3_ t:=rfl
theorem wTag_len (p:Nat × Bs):(wTag p).length=(uvar p.1).length + ((uvar (w32 p.2.length)).length + p.2.length):=by simp [wTag]
end Go.Proofs.Ytbgklecbmhaadaa.Kx

namespace Go.Proofs.Ytbgklecbmhaadaa.Kx
mutual
def posTy (fx:Bool) (ver:Int):Ty->Bool
 | .struct none _ fs=>fx || posFds fx ver fs
 | _=>true
def posFds (fx:Bool) (ver:Int):Fds->Bool
 | .nil=>false
 | .cons lo hi tag _ _ ty r=>(tag.isNone && has lo hi ver && posTy fx ver ty) || posFds fx ver r
end
end Go.Proofs.Ytbgklecbmhaadaa.Kx

namespace Go.Proofs.Ytbgklecbmhaadaa.Kx
inductive Tr where
 | mk (n:Int) (s:Bs) (null:Bool) (l:List Tr) (u:List (UInt32 × Bs))
def Tr.num:Tr->Int | .mk n _ _ _ _=>n
def Tr.octets:Tr->Bs | .mk _ s _ _ _=>s
def Tr.null:Tr->Bool | .mk _ _ b _ _=>b
def Tr.list:Tr->List Tr | .mk _ _ _ l _=>l
def Tr.tags:Tr->List (Nat × Bs) | .mk _ _ _ _ u=>u.map fun p=>(p.1.toNat,p.2)
def Tr.zero:Tr:=.mk 0 [] false [] []
def Tr.at (t:Tr) (i:Nat):Tr:=t.list.getD i .zero
inductive SFs where
 | nil
 | cons (kind:Nat) (lo hi nul tag df:Int) (of:Nat) (sub:SFs) (r:SFs)
def zh_:Nat:=32767
def sHas (lo hi ver:Int):Bool:=decide (lo<=ver) && (decide (hi < 0) || decide (ver<=hi))
def sNul (nul ver:Int):Bool:=decide (0<=nul) && decide (nul<=ver)
def jj_ (kind:Nat):Nat:=if kind=1 then 1 else if kind=2 \/ kind=5 then 2 else if kind=3 then 4 else 8
def sCnt (fx null:Bool) (n k:Nat):Bs:=if fx then (if null then [0] else uvar (n + 1)) else if null then be k (-1) else be k n
def sOcts (null:Bool) (l:Bs):Bs:=if null then [] else l.take zh_
def sText (fx null:Bool) (k:Nat) (l:Bs):Bs:=sCnt fx null (sOcts null l).length k++sOcts null l
def s16 (l:Bs):Bs:=l.take 16++List.replicate (16 - l.length) 0
def sVal (kind:Nat) (null fx:Bool) (pt:Tr->Bs) (t:Tr):Bs:=
 if kind=0 then [UInt8.ofNat (t.num % 2).toNat]
 else if kind=7 then s16 t.octets
 else if kind=8 then sText fx null 2 t.octets
 else if kind=9 then sText fx null 4 t.octets
 else if kind=10 then pt t
 else be (jj_ kind) t.num
def sThings (null:Bool) (t:Tr):List Tr:=if null then [] else t.list.take zh_
def sFld (kind:Nat) (nul:Int) (of:Nat) (ver:Int) (fx:Bool) (pt:Tr->Bs) (t:Tr):Bs:=
 if kind=11 then sCnt fx (t.null && sNul nul ver) (sThings (t.null && sNul nul ver) t).length 4++((sThings (t.null && sNul nul ver) t).map (sVal of false fx pt)).flatten
 else if kind=10/\0<=nul then (if (t.null && sNul nul ver)=true then [255] else 1 :: pt t)
 else sVal kind (t.null && sNul nul ver) fx pt t
def jq_ (k:Nat) (v:Bs):List (Nat × Bs)->List (Nat × Bs)
 | []=>[(k,v)]
 | (j,u) :: r=>if k < j then (k,v) :: (j,u) :: r else if k=j then (j,u) :: r else (j,u) :: jq_ k v r
def sUnkL (least:Nat):List (Nat × Bs)->List (Nat × Bs)->List (Nat × Bs)
 | [],acc=>acc
 | (k,v) :: r,acc=>sUnkL least r (if k < least then acc else jq_ k v acc)
def sUnk (least:Nat) (l:List (Nat × Bs)):List (Nat × Bs):=sUnkL least (l.take zh_) []
def qn_:SFs->Nat
 | .nil=>0
 | .cons _ _ _ _ tag _ _ _ r=>if 0<=tag then Nat.max (tag.toNat + 1) (qn_ r) else qn_ r
def jv_ (kind:Nat) (nul df:Int) (us:Tr->Bool) (t:Tr):Bool:=
 if kind=0 then decide (t.num % 2=df)
 else if kind=7 then (t.octets.take 16).all fun b=>b == 0
 else if kind=8 \/ kind=9 then (if 0<=nul then t.null else t.octets.isEmpty)
 else if kind=11 then t.list.isEmpty
 else if kind=10 then us t
 else decide (be (jj_ kind) t.num=be (jj_ kind) df)
def zm_:SFs->Nat->Tr->Bool
 | .nil,_,_=>true
 | .cons kind _ _ nul _ df _ sub r,i,t=>jv_ kind nul df (fun t=>zm_ sub 0 t && (sUnk (qn_ sub) t.tags).isEmpty) (t.at i) && zm_ r (i + 1) t
def sTag (p:Nat × Bs):Bs:=uvar p.1++(uvar p.2.length++p.2)
def sTags (l:List (Nat × Bs)):Bs:=(l.map sTag).flatten
def sSort (n:Nat) (l:List (Nat × Bs)):List (Nat × Bs):=(List.range n).flatMap fun k=>l.filter fun p=>p.1 == k
def sTail (fx:Bool) (n:Nat) (tg:List (Nat × Bs)) (u:List (Nat × Bs)):Bs:=
 if fx then uvar ((sSort n tg).length + (sUnk n u).length)++(sTags (sSort n tg)++sTags ((sUnk n u).map fun p=>(p.1,p.2.take zh_))) else []
mutual
def sFds (ver:Int) (fx:Bool):SFs->Nat->Tr->Bs
 | .nil,_,_=>[]
 | .cons kind lo hi nul tag _ of sub r,i,t=>
  (if tag < 0/\sHas lo hi ver=true then sFld kind nul of ver fx (fun t=>sFds ver fx sub 0 t++sTail fx (qn_ sub) (sTgd ver fx sub 0 t) t.tags) (t.at i) else [])++sFds ver fx r (i + 1) t
def sTgd (ver:Int) (fx:Bool):SFs->Nat->Tr->List (Nat × Bs)
 | .nil,_,_=>[]
 | .cons kind _ _ nul tag df of sub r,i,t=>
  (if 0<=tag/\jv_ kind nul df (fun t=>zm_ sub 0 t && (sUnk (qn_ sub) t.tags).isEmpty) (t.at i)=false then
   [(tag.toNat,sFld kind nul of ver fx (fun t=>sFds ver fx sub 0 t++sTail fx (qn_ sub) (sTgd ver fx sub 0 t) t.tags) (t.at i))] else [])++sTgd ver fx r (i + 1) t
end
def jd_ (ver:Int) (fx:Bool) (fs:SFs) (t:Tr):Bs:=sFds ver fx fs 0 t++sTail fx (qn_ fs) (sTgd ver fx fs 0 t) t.tags
end Go.Proofs.Ytbgklecbmhaadaa.Kx

namespace Go.Proofs.Ytbgklecbmhaadaa.Kx
theorem take_most (l:Bs):(l.take zh_).length<=zh_:=by rw [List.length_take];exact Nat.min_le_left ..
theorem s16_len (l:Bs):(s16 l).length=16:=by simp only [s16,List.length_append,List.length_take,List.length_replicate];omega
end Go.Proofs.Ytbgklecbmhaadaa.Kx
