/-
  PLAIN LAWS AND CONTRACTS of messages, part 2.
-/
import Derived.Test.YtbgklecbmhaadaaGreatDoorK10

namespace Go.Proofs.YtbgklecbmhaadaaGreatDoor.Kx
open Go
theorem FN {m:Nat}(h:m<256):(UInt8.ofNat m).toNat=m:=UInt8.toNat_ofNat_of_lt (by simpa using h)
theorem bV (k:Nat)(x:Int):(be k x).length=k:=by
 induction k with
 | zero=>rfl
 | succ k ih=>simp only[be,List.length_cons,ih]
theorem ue (l:Bs)(acc:Nat):l.foldl (fun a b=>a*256+b.toNat) acc=acc*256^l.length+cX l:=by
 induction l generalizing acc with
 | nil=>simp[cX]
 | cons b l ih=>
  simp only[List.foldl_cons,List.length_cons,cX]
  rw[ih,ih (0*256+b.toNat)]
  simp only[Nat.zero_mul,Nat.zero_add,Nat.pow_succ,Nat.add_mul]
  rw[Nat.mul_assoc,Nat.mul_comm 256,Nat.add_assoc]
theorem sF (b:UInt8)(l:Bs):cX (b::l)=b.toNat*256^l.length+cX l:=by
 show(b::l).foldl (fun a b=>a*256+b.toNat) 0=_
 rw[List.foldl_cons,ue]
 simp
theorem pL (k:Nat)(x:Int):(cX (be k x):Int)=x%256^k:=by
 induction k with
 | zero=>simp[be,cX]
 | succ k ih=>
  simp only[be]
  rw[sF,bV]
  have h0:(0:Int)<=x/256^k%256:=Int.emod_nonneg _ (by omega)
  have h1:x/256^k%256<256:=Int.emod_lt_of_pos _ (by omega)
  have e1:(UInt8.ofNat (x/256^k%256).toNat).toNat=(x/256^k%256).toNat:=FN (by omega)
  rw[e1,Int.natCast_add,Int.natCast_mul,Int.natCast_pow,ih,Int.toNat_of_nonneg h0]
  show x/256^k%256*256^k+x%256^k=_
  have hp:(0:Int)<256^k:=Int.pow_pos (by omega)
  rw[Int.pow_succ]
  have e2:x%(256^k*256)=x-256^k*256*(x/(256^k*256)):=Int.emod_def _ _
  have e3:x/(256^k*256)=x/256^k/256:=(Int.ediv_ediv_of_nonneg (by omega)).symm
  have e4:x/256^k%256=x/256^k-256*(x/256^k/256):=Int.emod_def _ _
  have e5:x%256^k=x-256^k*(x/256^k):=Int.emod_def _ _
  rw[e2,e3,e4,e5,Int.sub_mul]
  have:256^k*256*(x/256^k/256)=256*(x/256^k/256)*256^k:=by
   rw[Int.mul_comm (256^k) 256,Int.mul_assoc,Int.mul_comm (256^k),<- Int.mul_assoc]
  rw[this,Int.mul_comm (256^k) (x/256^k)]
  omega
theorem B6 {k:Nat}{x:Nat}(h:x<256^k)(rest:Bs)(nl:Bool):rU k ⟨be k x++rest,false,nl⟩=(x,⟨rest,false,nl⟩):=by
 have hl:¬ ((be k x++rest).length<k):=by rw[List.length_append,bV];omega
 have h1:(be k x++rest).take k=be k x:=by rw[List.take_append_of_le_length (by rw[bV];omega),List.take_of_length_le (by rw[bV];omega)]
 have h2:(be k x++rest).drop k=rest:=by rw[List.drop_append_of_le_length (by rw[bV];omega),List.drop_of_length_le (by rw[bV];omega)];rfl
 simp only[rU,if_neg hl,h1,h2]
 have:=pL k x
 have h3:((x:Nat):Int)%256^k=x:=Int.emod_eq_of_lt (by omega) (by have:=Int.ofNat_lt.2 h;rw[Int.natCast_pow]at this;exact this)
 rw[h3]at this
 congr 1
 omega
theorem kq {k:Nat}(hk:k=1 \/ k=2 \/ k=4 \/ k=8){x:Int}(h:-(2^(8*k-1):Int)<=x/\x<2^(8*k-1))(rest:Bs)(nl:Bool):rI k ⟨be k x++rest,false,nl⟩=(x,⟨rest,false,nl⟩):=by
 have e:be k x=be k ((x%256^k).toNat:Nat):=by
  have h0:0<=x%256^k:=Int.emod_nonneg _ (by have:=Int.pow_pos (n:=256) (m:=k) (by omega);omega)
  rw[Int.toNat_of_nonneg h0]
  apply List.ext_getElem?
  intro i
  have key:∀ (m:Nat) (j:Nat),j<=m->be j (x%256^m)=be j x:=by
   intro m j
   induction j with
   | zero=>intro _;rfl
   | succ j ih=>
    intro hj
    simp only[be]
    rw[ih (by omega)]
    congr 2
    have hp:(256:Int)^m=256^j*(256*256^(m-j-1)):=by
     rw[<- Int.pow_succ',<- Int.pow_add]
     congr 1;omega
    rw[hp]
    have hk:(0:Int)<256^j:=Int.pow_pos (by omega)
    have e1:x%(256^j*(256*256^(m-j-1)))=x+256^j*(-(256*(256^(m-j-1)*(x/(256^j*(256*256^(m-j-1))))))):=by
     rw[Int.emod_def,Int.mul_neg,<- Int.sub_eq_add_neg]
     simp only[Int.mul_assoc]
    rw[e1,Int.add_mul_ediv_left _ _ (by omega)]
    generalize 256^(m-j-1)*(x/(256^j*(256*256^(m-j-1))))=t
    generalize x/256^j=y
    congr 1
    omega
  rw[key k k (Nat.le_refl _)]
 have Gq:(x%256^k).toNat<256^k:=by
  have h0:0<=x%256^k:=Int.emod_nonneg _ (by have:=Int.pow_pos (n:=256) (m:=k) (by omega);omega)
  have h1:x%256^k<256^k:=Int.emod_lt_of_pos _ (Int.pow_pos (by omega))
  have:((x%256^k).toNat:Int)<((256^k:Nat):Int):=by rw[Int.toNat_of_nonneg h0,Int.natCast_pow];exact h1
  exact Int.ofNat_lt.1 this
 rw[e]
 simp only[rI,B6 Gq]
 congr 1
 rcases hk with rfl|rfl|rfl|rfl<;>simp only[j8,Nat.reduceMul,Nat.reduceSub,Int.reducePow,Nat.reducePow]at h ⊢<;>split<;>omega
theorem pG:∀ (x:Nat),x<4294967296->∀ rest:Bs,bI (uvar x++rest)=(x,((uvar x).length:Int)):=by
 intro x hx rest
 have t:∀ m,m<128->(UInt8.ofNat (m+128)).toNat=m+128:=fun m hm=>FN (by omega)
 have s:∀ m,m<128->(UInt8.ofNat m).toNat=m:=fun m hm=>FN (by omega)
 simp only[uvar,cj]
 by_cases c1:x<128
 ·simp[c1,bI,s x c1]
 by_cases c2:x/128<128
 ·have n1:¬ (x%128+128<128):=by omega
  simp only[c1,c2,if_true,if_false,List.cons_append,List.nil_append,bI,t _ (Nat.mod_lt x (by omega)),n1,s _ c2]
  simp;omega
 by_cases c3:x/128/128<128
 ·have n1:¬ (x%128+128<128):=by omega
  have n2:¬ (x/128%128+128<128):=by omega
  simp only[c1,c2,c3,if_true,if_false,List.cons_append,List.nil_append,bI,t _ (Nat.mod_lt x (by omega)),t _ (Nat.mod_lt (x/128) (by omega)),n1,n2,s _ c3]
  simp;omega
 by_cases c4:x/128/128/128<128
 ·have n1:¬ (x%128+128<128):=by omega
  have n2:¬ (x/128%128+128<128):=by omega
  have n3:¬ (x/128/128%128+128<128):=by omega
  simp only[c1,c2,c3,c4,if_true,if_false,List.cons_append,List.nil_append,bI,t _ (Nat.mod_lt x (by omega)),t _ (Nat.mod_lt (x/128) (by omega)),t _ (Nat.mod_lt (x/128/128) (by omega)),n1,n2,n3,s _ c4]
  simp;omega
 have c5:x/128/128/128/128<128:=by omega
 have c6:x/128/128/128/128<=15:=by omega
 have n1:¬ (x%128+128<128):=by omega
 have n2:¬ (x/128%128+128<128):=by omega
 have n3:¬ (x/128/128%128+128<128):=by omega
 have n4:¬ (x/128/128/128%128+128<128):=by omega
 simp only[c1,c2,c3,c4,c5,if_true,if_false,List.cons_append,List.nil_append,bI,t _ (Nat.mod_lt x (by omega)),t _ (Nat.mod_lt (x/128) (by omega)),t _ (Nat.mod_lt (x/128/128) (by omega)),t _ (Nat.mod_lt (x/128/128/128) (by omega)),n1,n2,n3,n4,s _ c5,c6]
 simp;omega
theorem dJ {x:Nat}(h:x<4294967296)(rest:Bs)(nl:Bool):bD ⟨uvar x++rest,false,nl⟩=(x,⟨rest,false,nl⟩):=by
 have h1:=pG x h rest
 have h2:=dq x
 have h3:¬ (((uvar x).length:Int)<=0):=by omega
 simp only[bD,h1,if_neg h3,Int.toNat_natCast]
 rw[List.drop_append_of_le_length (Nat.le_refl _),List.drop_of_length_le (Nat.le_refl _)]
 rfl
theorem wq (l rest:Bs):b9 (l.length:Nat) ⟨l++rest,false,false⟩=(.s l,⟨rest,false,false⟩):=by
 unfold b9
 rw[if_neg (by simp;omega)]
 simp
theorem e8 (l rest:Bs)(k:Int)(hk:k=(l.length:Nat)):b9 k ⟨l++rest,false,false⟩=(.s l,⟨rest,false,false⟩):=by subst hk;exact wq l rest
theorem yr {k:Nat}(hk:k=2 \/ k=4)(rest:Bs):rI k ⟨be k (-1)++rest,false,false⟩=(-1,⟨rest,false,false⟩):=by
 refine kq (by omega) ?_ rest false
 rcases hk with rfl|rfl<;>simp only[Nat.reduceMul,Nat.reduceSub,Int.reducePow]<;>omega
def vp (p:Nat × Bs):Prop:=p.1<4294967296/\p.2.length<4294967296
theorem ii (p:Nat × Bs)(t:List (Nat × Bs)):bn (p::t)=dj p++bn t:=rfl
theorem ra (p:Nat × Bs):(dj p).length=(uvar p.1).length+((uvar (dL p.2.length)).length+p.2.length):=by simp[dj]
theorem jA (k:Nat)(v:Bs):∀ (t:List (Nat × Bs)),(∀ y∈t,y.1<k)->cp k v t=t++[(k,v)]
 | [],_=>rfl
 | (j,u)::r,h=>by
  have hj:=h (j,u) (List.mem_cons_self ..)
  simp only at hj
  unfold cp
  rw[if_neg (by omega),if_neg (by omega),jA k v r fun y hy=>h y (List.mem_cons_of_mem _ hy)]
  rfl
theorem ml:∀ (t acc:List (Nat × Bs)) (rest:Bs),(acc++t).Pairwise (fun a b=>a.1<b.1)->(∀ y∈t,vp y)->fW t.length acc ⟨bn t++rest,false,false⟩=(acc++t,⟨rest,false,false⟩)
 | [],acc,rest,_,_=>by simp[fW,bn]
 | (k,v)::t,acc,rest,hp,G1=>by
  have O9:=G1 (k,v) (List.mem_cons_self ..)
  have hv32:v.length<4294967296:=O9.2
  have IU:dL v.length=v.length:=by simp only[dL];omega
  have e1:bn ((k,v)::t)++rest=uvar k++(uvar v.length++(v++(bn t++rest))):=by simp[ii,dj,IU,List.append_assoc]
  have Mk:cp k v acc=acc++[(k,v)]:=jA k v acc fun y hy=>(List.pairwise_append.1 hp).2.2 y hy (k,v) (List.mem_cons_self ..)
  show fW (t.length+1) acc _=_
  simp only[fW]
  rw[e1,dJ O9.1,dJ O9.2,e8 v _ _ rfl]
  show fW t.length (cp k v acc) ⟨bn t++rest,false,false⟩=_
  rw[Mk,ml t (acc++[(k,v)]) rest (by simpa using hp) fun y hy=>G1 y (List.mem_cons_of_mem _ hy)]
  simp
theorem Cj (n:Nat):iP true n=uvar (dL (n+1)):=rfl
theorem rB (fx:Bool){n:Nat}(hn:n<2147483648)(rest:Bs)(hr:n<=rest.length):cL fx ⟨iP fx n++rest,false,false⟩=((n:Int),⟨rest,false,false⟩):=by
 cases fx with
 | true=>
  have e:iP true n=uvar (n+1):=by
   rw[Cj]
   have:dL (n+1)=n+1:=by simp only[dL];omega
   rw[this]
  have hw:di (di ((n+1:Nat):Int)-1)=(n:Int):=by simp only[di];omega
  unfold cL
  simp only[if_true]
  rw[e,dJ (by omega)]
  simp only[hw]
  rw[if_neg (by omega)]
 | false=>
  unfold cL
  simp only[Bool.false_eq_true,if_false]
  have e:iP false n=be 4 (n:Nat):=rfl
  rw[e,kq (k:=4) (by omega) (by simp only[Nat.reduceMul,Nat.reduceSub,Int.reducePow];omega)]
  simp only
  rw[if_neg (by omega)]
theorem ws (fx:Bool)(rest:Bs):cL fx ⟨dp fx 4++rest,false,false⟩=(-1,⟨rest,false,false⟩):=by
 cases fx with
 | true=>
  have e:dp true 4=uvar 0:=rfl
  unfold cL
  simp only[if_true]
  rw[e,dJ (by omega)]
  have hw:di (di ((0:Nat):Int)-1)=-1:=by simp only[di];omega
  simp only[hw]
  rw[if_neg (by omega)]
 | false=>
  unfold cL
  simp only[Bool.false_eq_true,if_false]
  have e:dp false 4=be 4 (-1):=rfl
  rw[e,yr (.inr rfl)]
  simp only
  rw[if_neg (by omega)]
theorem x8 (fx:Bool)(n:Nat):0<(iP fx n).length:=by
 cases fx with
 | true=>exact dq _
 | false=>rw[show iP false n=be 4 (n:Nat) from rfl,bV];omega
theorem oJ (fx:Bool):0<(dp fx 4).length:=by
 cases fx with
 | true=>exact dq 0
 | false=>rw[show dp false 4=be 4 (-1) from rfl,bV];omega
theorem g7 {l rest:Bs}{nl:Bool}(h:nl=true->l++rest=[])(hl:0<l.length):nl=false:=by
 cases nl with
 | false=>rfl
 | true=>
  have:=(List.append_eq_nil_iff.1 (h rfl)).1
  rw[this]at hl
  simp at hl
mutual
def nR (fx:Bool)(ver:Int):Ty->Bool
 | .struct none _ fs=>fx || posFds fx ver fs
 | _=>true
def posFds (fx:Bool)(ver:Int):Fds->Bool
 | .nil=>false
 | .cons lo hi tag _ _ ty r=>(tag.isNone&&l6 lo hi ver&&nR fx ver ty) || posFds fx ver r
end
inductive Tr where
 | mk (n:Int) (s:Bs) (null:Bool) (l:List Tr) (u:List (UInt32 × Bs))
def Tr.num:Tr->Int | .mk n _ _ _ _=>n
def Tr.octets:Tr->Bs | .mk _ s _ _ _=>s
def Tr.null:Tr->Bool | .mk _ _ b _ _=>b
def Tr.list:Tr->List Tr|.mk _ _ _ l _=>l
def Tr.tags:Tr->List (Nat × Bs)|.mk _ _ _ _ u=>u.map fun p=>(p.1.toNat,p.2)
def Tr.zero:Tr:=.mk 0 [] false [] []
def Tr.at (t:Tr)(i:Nat):Tr:=t.list.getD i .zero
inductive SFs where
 | nil
 | cons (kind:Nat) (lo hi nul tag df:Int) (of:Nat) (sub:SFs) (r:SFs)
def aK:Nat:=32767
def kj (lo hi ver:Int):Bool:=decide (lo<=ver)&&(decide (hi<0) || decide (ver<=hi))
def bh (nul ver:Int):Bool:=decide (0<=nul)&&decide (nul<=ver)
def bv (kind:Nat):Nat:=if kind=1 then 1 else if kind=2 \/ kind=5 then 2 else if kind=3 then 4 else 8
def gW (fx null:Bool)(n k:Nat):Bs:=if fx then(if null then[0]else uvar (n+1))else if null then be k (-1)else be k n
def ez (null:Bool)(l:Bs):Bs:=if null then[]else l.take aK
def eu (fx null:Bool)(k:Nat)(l:Bs):Bs:=gW fx null (ez null l).length k++ez null l
def wZ (l:Bs):Bs:=l.take 16++List.replicate (16-l.length) 0
def eq (kind:Nat)(null fx:Bool)(pt:Tr->Bs)(t:Tr):Bs:=
 if kind=0 then[UInt8.ofNat (t.num%2).toNat]
 else if kind=7 then wZ t.octets
 else if kind=8 then eu fx null 2 t.octets
 else if kind=9 then eu fx null 4 t.octets
 else if kind=10 then pt t
 else be (bv kind) t.num
def dc (null:Bool)(t:Tr):List Tr:=if null then[]else t.list.take aK
def dZ (kind:Nat)(nul:Int)(of:Nat)(ver:Int)(fx:Bool)(pt:Tr->Bs)(t:Tr):Bs:=
 if kind=11 then gW fx (t.null&&bh nul ver) (dc (t.null&&bh nul ver) t).length 4++((dc (t.null&&bh nul ver) t).map (eq of false fx pt)).flatten
 else if kind=10/\0<=nul then(if(t.null&&bh nul ver)=true then[255]else 1::pt t)
 else eq kind (t.null&&bh nul ver) fx pt t
def bP (k:Nat)(v:Bs):List (Nat × Bs)->List (Nat × Bs)
 | []=>[(k,v)]
 | (j,u)::r=>if k<j then(k,v)::(j,u)::r else if k=j then(j,u)::r else(j,u)::bP k v r
def gN (least:Nat):List (Nat × Bs)->List (Nat × Bs)->List (Nat × Bs)
 | [],acc=>acc
 | (k,v)::r,acc=>gN least r (if k<least then acc else bP k v acc)
def de (least:Nat)(l:List (Nat × Bs)):List (Nat × Bs):=gN least (l.take aK) []
def ar:SFs->Nat
 | .nil=>0
 | .cons _ _ _ _ tag _ _ _ r=>if 0<=tag then Nat.max (tag.toNat+1) (ar r)else ar r
def aX (kind:Nat)(nul df:Int)(us:Tr->Bool)(t:Tr):Bool:=
 if kind=0 then decide (t.num%2=df)
 else if kind=7 then(t.octets.take 16).all fun b=>b==0
 else if kind=8 \/ kind=9 then(if 0<=nul then t.null else t.octets.isEmpty)
 else if kind=11 then t.list.isEmpty
 else if kind=10 then us t
 else decide (be (bv kind) t.num=be (bv kind) df)
def ct:SFs->Nat->Tr->Bool
 | .nil,_,_=>true
 | .cons kind _ _ nul _ df _ sub r,i,t=>aX kind nul df (fun t=>ct sub 0 t&&(de (ar sub) t.tags).isEmpty) (t.at i)&&ct r (i+1) t
def iD (p:Nat × Bs):Bs:=uvar p.1++(uvar p.2.length++p.2)
def bH (l:List (Nat × Bs)):Bs:=(l.map iD).flatten
def dh (n:Nat)(l:List (Nat × Bs)):List (Nat × Bs):=(List.range n).flatMap fun k=>l.filter fun p=>p.1==k
def gy (fx:Bool)(n:Nat)(tg:List (Nat × Bs))(u:List (Nat × Bs)):Bs:=
 if fx then uvar ((dh n tg).length+(de n u).length)++(bH (dh n tg)++bH ((de n u).map fun p=>(p.1,p.2.take aK))) else[]
mutual
def cD (ver:Int)(fx:Bool):SFs->Nat->Tr->Bs
 | .nil,_,_=>[]
 | .cons kind lo hi nul tag _ of sub r,i,t=>
  (if tag<0/\kj lo hi ver=true then dZ kind nul of ver fx (fun t=>cD ver fx sub 0 t++gy fx (ar sub) (sTgd ver fx sub 0 t) t.tags) (t.at i) else[])++cD ver fx r (i+1) t
def sTgd (ver:Int)(fx:Bool):SFs->Nat->Tr->List (Nat × Bs)
 | .nil,_,_=>[]
 | .cons kind _ _ nul tag df of sub r,i,t=>
  (if 0<=tag/\aX kind nul df (fun t=>ct sub 0 t&&(de (ar sub) t.tags).isEmpty) (t.at i)=false then
   [(tag.toNat,dZ kind nul of ver fx (fun t=>cD ver fx sub 0 t++gy fx (ar sub) (sTgd ver fx sub 0 t) t.tags) (t.at i))] else[])++sTgd ver fx r (i+1) t
end
def aM (ver:Int)(fx:Bool)(fs:SFs)(t:Tr):Bs:=cD ver fx fs 0 t++gy fx (ar fs) (sTgd ver fx fs 0 t) t.tags
def dP:cP->Nat
 | .bool=>0|.i8=>1|.i16=>2|.i32=>3|.i64=>4|.u16=>5|.uuid=>7
def gH:cP->Int->Int
 | .bool,x=>x%2
 | .u16,x=>x%65536
 | .i8,x=>j8 8 (x%256).toNat
 | .i16,x=>j8 16 (x%65536).toNat
 | .i32,x=>j8 32 (x%4294967296).toNat
 | _,x=>j8 64 (x%18446744073709551616).toNat
def ch (n:Nat)(t:Tr):List (Nat × Bs):=(de n t.tags).map fun p=>(p.1,p.2.take aK)
def Ty.isList:Ty->Bool | .list _ _ _=>true|_=>false
theorem qI (m:Nat)(x:Int):∀ j,j<=m->be j (x%256^m)=be j x:=by
 intro j
 induction j with
 | zero=>intro _;rfl
 | succ j ih=>
  intro hj
  simp only[be]
  rw[ih (by omega)]
  congr 2
  have hp:(256:Int)^m=256^j*(256*256^(m-j-1)):=by
   rw[<- Int.pow_succ',<- Int.pow_add]
   congr 1;omega
  rw[hp]
  have hk:(0:Int)<256^j:=Int.pow_pos (by omega)
  have e1:x%(256^j*(256*256^(m-j-1)))=x+256^j*(-(256*(256^(m-j-1)*(x/(256^j*(256*256^(m-j-1))))))):=by
   rw[Int.emod_def,Int.mul_neg,<- Int.sub_eq_add_neg]
   simp only[Int.mul_assoc]
  rw[e1,Int.add_mul_ediv_left _ _ (by omega)]
  generalize 256^(m-j-1)*(x/(256^j*(256*256^(m-j-1))))=t
  generalize x/256^j=y
  congr 1
  omega
theorem jS (k:Nat){x y:Int}(h:x%256^k=y%256^k):be k x=be k y:=by
 rw[<- qI k x k (Nat.le_refl _),h,qI k y k (Nat.le_refl _)]
def wz:PF->V->Prop
 | .bool,v=>v=.n 0 \/ v=.n 1
 | .i8,v=>∃ x:Int,v=.n x/\-128<=x/\x<128
 | .i16,v=>∃ x:Int,v=.n x/\-32768<=x/\x<32768
 | .u16,v=>∃ x:Int,v=.n x/\0<=x/\x<65536
 | .i32,v=>∃ x:Int,v=.n x/\-2147483648<=x/\x<2147483648
 | .i64,v=>∃ x:Int,v=.n x/\-9223372036854775808<=x/\x<9223372036854775808
 | .uuid,v=>∃ l:Bs,v=.s l/\l.length=16
 | .str,v=>∃ l:Bs,v=.s l/\l.length<=aK
 | .cstr,v=>∃ l:Bs,v=.s l/\l.length<=aK
 | .bytes,v=>∃ l:Bs,v=.s l/\l.length<=aK
 | .cbytes,v=>∃ l:Bs,v=.s l/\l.length<=aK
 | _,v=>v=.nul \/ ∃ l:Bs,v=.s l/\l.length<=aK
theorem kc (l rest:Bs)(k:Int)(hk:k=(l.length:Nat)):oZ k ⟨l++rest,false,false⟩=(.s l,⟨rest,false,false⟩):=by
 simp only[oZ,e8 l rest k hk,V.octets]
theorem kY (l:Bs):kZ false l=be 2 l.length++l:=rfl
theorem mD {l:Bs}(h:l.length<=aK):kZ true l=uvar (l.length+1)++l:=by
 have:dL (l.length+1)=l.length+1:=by simp only[dL,aK]at *;omega
 simp only[kZ,if_true,this]
theorem j4 (l:Bs):jf false l=be 4 l.length++l:=rfl
theorem ld {l:Bs}(h:l.length<=aK):jf true l=uvar (l.length+1)++l:=by
 have:dL (l.length+1)=l.length+1:=by simp only[dL,aK]at *;omega
 simp only[jf,if_true,this]
theorem DM (p:PF)(v:V)(h:wz p v)(rest:Bs):p.run ⟨p.wr v++rest,false,false⟩=(v,⟨rest,false,false⟩):=by
 have i2:∀ {l:Bs},l.length<=aK->∀ r:Bs,rI 2 ⟨be 2 (l.length:Nat)++r,false,false⟩=((l.length:Int),⟨r,false,false⟩):=fun {l} hl r=>
  kq (k:=2) (by omega) (by simp only[aK]at hl;simp only[Nat.reduceMul,Nat.reduceSub,Int.reducePow];omega) r false
 have i4:∀ {l:Bs},l.length<=aK->∀ r:Bs,rI 4 ⟨be 4 (l.length:Nat)++r,false,false⟩=((l.length:Int),⟨r,false,false⟩):=fun {l} hl r=>
  kq (k:=4) (by omega) (by simp only[aK]at hl;simp only[Nat.reduceMul,Nat.reduceSub,Int.reducePow];omega) r false
 have u1:∀ {l:Bs},l.length<=aK->∀ r:Bs,bD ⟨uvar (l.length+1)++r,false,false⟩=(l.length+1,⟨r,false,false⟩):=fun {l} hl r=>
  dJ (by simp only[aK]at hl;omega) r false
 cases p with
 | bool=>rcases h with rfl|rfl<;>simp[PF.run,PF.wr,yt,V.num]
 | i8=>
  obtain⟨x,rfl,h1,h2⟩:=h
  simp only[PF.run,PF.wr,V.num]
  rw[kq (k:=1) (by omega) (by simp only[Nat.reduceMul,Nat.reduceSub,Int.reducePow];omega)]
 | i16=>
  obtain⟨x,rfl,h1,h2⟩:=h
  simp only[PF.run,PF.wr,V.num]
  rw[kq (k:=2) (by omega) (by simp only[Nat.reduceMul,Nat.reduceSub,Int.reducePow];omega)]
 | i32=>
  obtain⟨x,rfl,h1,h2⟩:=h
  simp only[PF.run,PF.wr,V.num]
  rw[kq (k:=4) (by omega) (by simp only[Nat.reduceMul,Nat.reduceSub,Int.reducePow];omega)]
 | i64=>
  obtain⟨x,rfl,h1,h2⟩:=h
  simp only[PF.run,PF.wr,V.num]
  rw[kq (k:=8) (by omega) (by simp only[Nat.reduceMul,Nat.reduceSub,Int.reducePow];omega)]
 | u16=>
  obtain⟨x,rfl,h1,h2⟩:=h
  obtain⟨n,rfl⟩:=Int.eq_ofNat_of_zero_le h1
  simp only[PF.run,PF.wr,V.num]
  rw[B6 (k:=2) (by omega)]
 | uuid=>
  obtain⟨l,rfl,h1⟩:=h
  show(if(l++rest).length<16 then(V.s (List.replicate 16 0),RS.fail) else(V.s ((l++rest).take 16),(⟨(l++rest).drop 16,false,false⟩:RS)))=_
  rw[if_neg (by simp;omega)]
  rw[List.take_append_of_le_length (by omega),List.drop_append_of_le_length (by omega),List.take_of_length_le (by omega),List.drop_of_length_le (by omega)]
  rfl
 | str=>
  obtain⟨l,rfl,hl⟩:=h
  simp only[PF.run,PF.wr,V.octets,kY,List.append_assoc,i2 hl,kc l rest _ rfl]
 | cstr=>
  obtain⟨l,rfl,hl⟩:=h
  simp only[PF.run,PF.wr,V.octets,mD hl,List.append_assoc,u1 hl]
  rw[kc l rest _ (by omega)]
 | bytes=>
  obtain⟨l,rfl,hl⟩:=h
  simp only[PF.run,PF.wr,V.octets,j4,List.append_assoc,i4 hl]
  rw[if_neg (by omega),e8 l rest _ rfl]
 | cbytes=>
  obtain⟨l,rfl,hl⟩:=h
  simp only[PF.run,PF.wr,V.octets,ld hl,List.append_assoc,u1 hl]
  rw[if_neg (by omega),e8 l rest _ (by omega)]
 | nstr=>
  rcases h with rfl|⟨l,rfl,hl⟩
  ·simp only[PF.run,PF.wr,V.isNul,if_true]
   rw[show dp false 2=be 2 (-1) from rfl,yr (.inl rfl)]
   rfl
  ·simp only[PF.run,PF.wr,V.octets,V.isNul,Bool.false_eq_true,if_false,kY,List.append_assoc,i2 hl]
   rw[if_neg (by omega),kc l rest _ rfl]
 | cnstr=>
  rcases h with rfl|⟨l,rfl,hl⟩
  ·simp only[PF.run,PF.wr,V.isNul,if_true]
   rw[show dp true 2=uvar 0 from rfl,dJ (by omega)]
   rfl
  ·simp only[PF.run,PF.wr,V.octets,V.isNul,Bool.false_eq_true,if_false,mD hl,List.append_assoc,u1 hl]
   rw[if_neg (by omega),kc l rest _ (by omega)]
 | nbytes=>
  rcases h with rfl|⟨l,rfl,hl⟩
  ·simp only[PF.run,PF.wr,V.isNul,if_true]
   rw[show dp false 4=be 4 (-1) from rfl,yr (.inr rfl)]
   rfl
  ·simp only[PF.run,PF.wr,V.octets,V.isNul,Bool.false_eq_true,if_false,j4,List.append_assoc,i4 hl]
   rw[if_neg (by omega),e8 l rest _ rfl]
 | cnbytes=>
  rcases h with rfl|⟨l,rfl,hl⟩
  ·simp only[PF.run,PF.wr,V.isNul,if_true]
   rw[show dp true 4=uvar 0 from rfl,dJ (by omega)]
   rfl
  ·simp only[PF.run,PF.wr,V.octets,V.isNul,Bool.false_eq_true,if_false,ld hl,List.append_assoc,u1 hl]
   rw[if_neg (by omega),e8 l rest _ (by omega)]
theorem Cg (p:PF)(v:V)(h:wz p v):0<(p.wr v).length:=by
 have a:∀ fx k,0<k->0<(dp fx k).length:=fun fx k hk=>by
  cases fx with
  | true=>exact dq 0
  | false=>simp only[dp,Bool.false_eq_true,if_false,bV];exact hk
 have b:∀ fx l,0<(kZ fx l).length:=fun fx l=>by
  cases fx with
  | true=>simp only[kZ,if_true,List.length_append];have:=dq (dL (l.length+1));omega
  | false=>rw[kY,List.length_append,bV];omega
 have c:∀ fx l,0<(jf fx l).length:=fun fx l=>by
  cases fx with
  | true=>simp only[jf,if_true,List.length_append];have:=dq (dL (l.length+1));omega
  | false=>rw[j4,List.length_append,bV];omega
 cases p with
 | uuid=>obtain⟨l,rfl,hl⟩:=h;simp only[PF.wr,V.octets];omega
 | bool=>simp[PF.wr]
 | _=>
  simp only[PF.wr]
  first
   | exact b _ _
   | exact c _ _
   | (rw[bV];omega)
   | (split;exact a _ _ (by omega);exact b _ _)
   | (split;exact a _ _ (by omega);exact c _ _)
def jy (null:Bool)(l:Bs):V:=if null then .nul else .s (l.take aK)
theorem fe (l:Bs):(l.take aK).length<=aK:=by rw[List.length_take];exact Nat.min_le_left ..
theorem xq (b fx null:Bool)(h:null=true->b=true)(l:Bs):(dM b fx).wr (jy null l)=eu fx null 2 l/\wz (dM b fx) (jy null l):=by
 have hl:=fe l
 cases null with
 | true=>
  obtain rfl:=h rfl
  cases fx<;>exact⟨by simp[dM,jy,PF.wr,V.isNul,dp,eu,gW,ez]<;>rfl,.inl rfl⟩
 | false=>
  cases b<;>cases fx
  ·exact⟨by simp[dM,jy,PF.wr,V.octets,kY,eu,gW,ez],⟨_,rfl,hl⟩⟩
  ·exact⟨by simp only[dM,jy,PF.wr,V.octets,Bool.false_eq_true,if_false,if_true,mD hl,eu,gW,ez],⟨_,rfl,hl⟩⟩
  ·exact⟨by simp[dM,jy,PF.wr,V.isNul,V.octets,kY,eu,gW,ez],.inr ⟨_,rfl,hl⟩⟩
  ·exact⟨by simp only[dM,jy,PF.wr,V.isNul,V.octets,Bool.false_eq_true,if_false,if_true,mD hl,eu,gW,ez],.inr ⟨_,rfl,hl⟩⟩
theorem qQ (b fx null:Bool)(h:null=true->b=true)(l:Bs):(bS b fx).wr (jy null l)=eu fx null 4 l/\wz (bS b fx) (jy null l):=by
 have hl:=fe l
 cases null with
 | true=>
  obtain rfl:=h rfl
  cases fx<;>exact⟨by simp[bS,jy,PF.wr,V.isNul,dp,eu,gW,ez]<;>rfl,.inl rfl⟩
 | false=>
  cases b<;>cases fx
  ·exact⟨by simp[bS,jy,PF.wr,V.octets,j4,eu,gW,ez],⟨_,rfl,hl⟩⟩
  ·exact⟨by simp only[bS,jy,PF.wr,V.octets,Bool.false_eq_true,if_false,if_true,ld hl,eu,gW,ez],⟨_,rfl,hl⟩⟩
  ·exact⟨by simp[bS,jy,PF.wr,V.isNul,V.octets,j4,eu,gW,ez],.inr ⟨_,rfl,hl⟩⟩
  ·exact⟨by simp only[bS,jy,PF.wr,V.isNul,V.octets,Bool.false_eq_true,if_false,if_true,ld hl,eu,gW,ez],.inr ⟨_,rfl,hl⟩⟩
def iz:cP->Tr->V
 | .uuid,t=>.s (wZ t.octets)
 | p,t=>.n (gH p t.num)
theorem jZ (l:Bs):(wZ l).length=16:=by simp only[wZ,List.length_append,List.length_take,List.length_replicate];omega
theorem uz (p:cP)(null fx:Bool)(pt:Tr->Bs)(t:Tr):(bN p).wr (iz p t)=eq (dP p) null fx pt t/\wz (bN p) (iz p t):=by
 have sg:∀ (bits:Nat) (x:Int),bits=8 \/ bits=16 \/ bits=32 \/ bits=64->j8 bits (x%2^bits).toNat%2^bits=x%2^bits/\-(2^(bits-1):Int)<=j8 bits (x%2^bits).toNat/\j8 bits (x%2^bits).toNat<2^(bits-1):=by
  intro bits x hb
  rcases hb with rfl|rfl|rfl|rfl<;>simp only[j8,Nat.reduceSub,Nat.reducePow,Int.reducePow]<;>split<;>omega
 cases p with
 | bool=>
  have h:t.num%2=0 \/ t.num%2=1:=by omega
  rcases h with h|h
  ·exact⟨by simp[bN,iz,gH,PF.wr,V.num,eq,dP,h],.inl (by simp[iz,gH,h])⟩
  ·exact⟨by simp[bN,iz,gH,PF.wr,V.num,eq,dP,h],.inr (by simp[iz,gH,h])⟩
 | uuid=>exact⟨by simp[bN,iz,PF.wr,V.octets,eq,dP],⟨_,rfl,jZ _⟩⟩
 | u16=>
  refine⟨?_,⟨_,rfl,by simp only[gH];omega,by simp only[gH];omega⟩⟩
  simp only[bN,iz,PF.wr,V.num,gH,eq,dP,bv]
  exact qI 2 t.num 2 (Nat.le_refl _)
 | i8=>
  have h:=sg 8 t.num (by omega)
  refine⟨?_,⟨_,rfl,by simpa[gH]using h.2⟩⟩
  exact jS 1 (by simpa[V.num,iz,gH]using h.1)
 | i16=>
  have h:=sg 16 t.num (by omega)
  refine⟨?_,⟨_,rfl,by simpa[gH]using h.2⟩⟩
  exact jS 2 (by simpa[V.num,iz,gH]using h.1)
 | i32=>
  have h:=sg 32 t.num (by omega)
  refine⟨?_,⟨_,rfl,by simpa[gH]using h.2⟩⟩
  exact jS 4 (by simpa[V.num,iz,gH]using h.1)
 | i64=>
  have h:=sg 64 t.num (by omega)
  refine⟨?_,⟨_,rfl,by simpa[gH]using h.2⟩⟩
  exact jS 8 (by simpa[V.num,iz,gH]using h.1)
end Go.Proofs.YtbgklecbmhaadaaGreatDoor.Kx