/-
  PLAIN LAWS AND CONTRACTS of messages, part 2.
-/
import Derived.Test.YtpoeajgpacfpoaaGreatDoorK10

namespace Go.Proofs.YtpoeajgpacfpoaaGreatDoor.Kx
open Go
theorem H9 {m:Nat}(h:m<256):(UInt8.ofNat m).toNat=m:=UInt8.toNat_ofNat_of_lt (by simpa using h)
theorem bY (k:Nat)(x:Int):(be k x).length=k:=by
 induction k with
 | zero=>rfl
 | succ k ih=>simp only[be,List.length_cons,ih]
theorem tj (l:Bs)(acc:Nat):l.foldl (fun a b=>a*256+b.toNat) acc=acc*256^l.length+cv l:=by
 induction l generalizing acc with
 | nil=>simp[cv]
 | cons b l ih=>
  simp only[List.foldl_cons,List.length_cons,cv]
  rw[ih,ih (0*256+b.toNat)]
  simp only[Nat.zero_mul,Nat.zero_add,Nat.pow_succ,Nat.add_mul]
  rw[Nat.mul_assoc,Nat.mul_comm 256,Nat.add_assoc]
theorem rX (b:UInt8)(l:Bs):cv (b::l)=b.toNat*256^l.length+cv l:=by
 show(b::l).foldl (fun a b=>a*256+b.toNat) 0=_
 rw[List.foldl_cons,tj]
 simp
theorem zD (k:Nat)(x:Int):(cv (be k x):Int)=x%256^k:=by
 induction k with
 | zero=>simp[be,cv]
 | succ k ih=>
  simp only[be]
  rw[rX,bY]
  have h0:(0:Int)<=x/256^k%256:=Int.emod_nonneg _ (by omega)
  have h1:x/256^k%256<256:=Int.emod_lt_of_pos _ (by omega)
  have e1:(UInt8.ofNat (x/256^k%256).toNat).toNat=(x/256^k%256).toNat:=H9 (by omega)
  rw[e1,Int.natCast_add,Int.natCast_mul,Int.natCast_pow,ih,Int.toNat_of_nonneg h0]
  show x/256^k%256*256^k+x%256^k=_
  have hp:(0:Int)<256^k:=Int.pow_pos (by omega)
  rw[Int.pow_succ]
  have e2:x%(256^k*256)=x-256^k*256*(x/(256^k*256)):=Int.emod_def _ _
  have e3:x/(256^k*256)=x/256^k/256:=(Int.ediv_ediv_of_nonneg (by omega)).symm
  have e4:x/256^k%256=x/256^k-256*(x/256^k/256):=Int.emod_def _ _
  have e5:x%256^k=x-256^k*(x/256^k):=Int.emod_def _ _
  rw[e2,e3,e4,e5,Int.sub_mul]
  have:256^k*256*(x/256^k/256)=256*(x/256^k/256)*256^k:=by
   rw[Int.mul_comm (256^k) 256,Int.mul_assoc,Int.mul_comm (256^k),<- Int.mul_assoc]
  rw[this,Int.mul_comm (256^k) (x/256^k)]
  omega
theorem AT {k:Nat}{x:Nat}(h:x<256^k)(rest:Bs)(nl:Bool):rU k ⟨be k x++rest,false,nl⟩=(x,⟨rest,false,nl⟩):=by
 have hl:¬ ((be k x++rest).length<k):=by rw[List.length_append,bY];omega
 have h1:(be k x++rest).take k=be k x:=by rw[List.take_append_of_le_length (by rw[bY];omega),List.take_of_length_le (by rw[bY];omega)]
 have h2:(be k x++rest).drop k=rest:=by rw[List.drop_append_of_le_length (by rw[bY];omega),List.drop_of_length_le (by rw[bY];omega)];rfl
 simp only[rU,if_neg hl,h1,h2]
 have:=zD k x
 have h3:((x:Nat):Int)%256^k=x:=Int.emod_eq_of_lt (by omega) (by have:=Int.ofNat_lt.2 h;rw[Int.natCast_pow]at this;exact this)
 rw[h3]at this
 congr 1
 omega
theorem kh {k:Nat}(hk:k=1 \/ k=2 \/ k=4 \/ k=8){x:Int}(h:-(2^(8*k-1):Int)<=x/\x<2^(8*k-1))(rest:Bs)(nl:Bool):rI k ⟨be k x++rest,false,nl⟩=(x,⟨rest,false,nl⟩):=by
 have e:be k x=be k ((x%256^k).toNat:Nat):=by
  have h0:0<=x%256^k:=Int.emod_nonneg _ (by have:=Int.pow_pos (n:=256) (m:=k) (by omega);omega)
  rw[Int.toNat_of_nonneg h0]
  apply List.ext_getElem?
  intro i
  have key:∀ (m:Nat) (j:Nat),j<=m->be j (x%256^m)=be j x:=by
   intro m j
   induction j with
   | zero=>intro _;rfl
   | succ j ih=>
    intro hj
    simp only[be]
    rw[ih (by omega)]
    congr 2
    have hp:(256:Int)^m=256^j*(256*256^(m-j-1)):=by
     rw[<- Int.pow_succ',<- Int.pow_add]
     congr 1;omega
    rw[hp]
    have hk:(0:Int)<256^j:=Int.pow_pos (by omega)
    have e1:x%(256^j*(256*256^(m-j-1)))=x+256^j*(-(256*(256^(m-j-1)*(x/(256^j*(256*256^(m-j-1))))))):=by
     rw[Int.emod_def,Int.mul_neg,<- Int.sub_eq_add_neg]
     simp only[Int.mul_assoc]
    rw[e1,Int.add_mul_ediv_left _ _ (by omega)]
    generalize 256^(m-j-1)*(x/(256^j*(256*256^(m-j-1))))=t
    generalize x/256^j=y
    congr 1
    omega
  rw[key k k (Nat.le_refl _)]
 have Id:(x%256^k).toNat<256^k:=by
  have h0:0<=x%256^k:=Int.emod_nonneg _ (by have:=Int.pow_pos (n:=256) (m:=k) (by omega);omega)
  have h1:x%256^k<256^k:=Int.emod_lt_of_pos _ (Int.pow_pos (by omega))
  have:((x%256^k).toNat:Int)<((256^k:Nat):Int):=by rw[Int.toNat_of_nonneg h0,Int.natCast_pow];exact h1
  exact Int.ofNat_lt.1 this
 rw[e]
 simp only[rI,AT Id]
 congr 1
 rcases hk with rfl|rfl|rfl|rfl<;>simp only[kF,Nat.reduceMul,Nat.reduceSub,Int.reducePow,Nat.reducePow]at h ⊢<;>split<;>omega
theorem pr:∀ (x:Nat),x<4294967296->∀ rest:Bs,b8 (uvar x++rest)=(x,((uvar x).length:Int)):=by
 intro x hx rest
 have t:∀ m,m<128->(UInt8.ofNat (m+128)).toNat=m+128:=fun m hm=>H9 (by omega)
 have s:∀ m,m<128->(UInt8.ofNat m).toNat=m:=fun m hm=>H9 (by omega)
 simp only[uvar,c7]
 by_cases c1:x<128
 ·simp[c1,b8,s x c1]
 by_cases c2:x/128<128
 ·have n1:¬ (x%128+128<128):=by omega
  simp only[c1,c2,if_true,if_false,List.cons_append,List.nil_append,b8,t _ (Nat.mod_lt x (by omega)),n1,s _ c2]
  simp;omega
 by_cases c3:x/128/128<128
 ·have n1:¬ (x%128+128<128):=by omega
  have n2:¬ (x/128%128+128<128):=by omega
  simp only[c1,c2,c3,if_true,if_false,List.cons_append,List.nil_append,b8,t _ (Nat.mod_lt x (by omega)),t _ (Nat.mod_lt (x/128) (by omega)),n1,n2,s _ c3]
  simp;omega
 by_cases c4:x/128/128/128<128
 ·have n1:¬ (x%128+128<128):=by omega
  have n2:¬ (x/128%128+128<128):=by omega
  have n3:¬ (x/128/128%128+128<128):=by omega
  simp only[c1,c2,c3,c4,if_true,if_false,List.cons_append,List.nil_append,b8,t _ (Nat.mod_lt x (by omega)),t _ (Nat.mod_lt (x/128) (by omega)),t _ (Nat.mod_lt (x/128/128) (by omega)),n1,n2,n3,s _ c4]
  simp;omega
 have c5:x/128/128/128/128<128:=by omega
 have c6:x/128/128/128/128<=15:=by omega
 have n1:¬ (x%128+128<128):=by omega
 have n2:¬ (x/128%128+128<128):=by omega
 have n3:¬ (x/128/128%128+128<128):=by omega
 have n4:¬ (x/128/128/128%128+128<128):=by omega
 simp only[c1,c2,c3,c4,c5,if_true,if_false,List.cons_append,List.nil_append,b8,t _ (Nat.mod_lt x (by omega)),t _ (Nat.mod_lt (x/128) (by omega)),t _ (Nat.mod_lt (x/128/128) (by omega)),t _ (Nat.mod_lt (x/128/128/128) (by omega)),n1,n2,n3,n4,s _ c5,c6]
 simp;omega
theorem fT {x:Nat}(h:x<4294967296)(rest:Bs)(nl:Bool):b5 ⟨uvar x++rest,false,nl⟩=(x,⟨rest,false,nl⟩):=by
 have h1:=pr x h rest
 have h2:=dW x
 have h3:¬ (((uvar x).length:Int)<=0):=by omega
 simp only[b5,h1,if_neg h3,Int.toNat_natCast]
 rw[List.drop_append_of_le_length (Nat.le_refl _),List.drop_of_length_le (Nat.le_refl _)]
 rfl
theorem vw (l rest:Bs):bt (l.length:Nat) ⟨l++rest,false,false⟩=(.s l,⟨rest,false,false⟩):=by
 unfold bt
 rw[if_neg (by simp;omega)]
 simp
theorem fE (l rest:Bs)(k:Int)(hk:k=(l.length:Nat)):bt k ⟨l++rest,false,false⟩=(.s l,⟨rest,false,false⟩):=by subst hk;exact vw l rest
theorem xM {k:Nat}(hk:k=2 \/ k=4)(rest:Bs):rI k ⟨be k (-1)++rest,false,false⟩=(-1,⟨rest,false,false⟩):=by
 refine kh (by omega) ?_ rest false
 rcases hk with rfl|rfl<;>simp only[Nat.reduceMul,Nat.reduceSub,Int.reducePow]<;>omega
def zp (p:Nat × Bs):Prop:=p.1<4294967296/\p.2.length<4294967296
theorem ng (p:Nat × Bs)(t:List (Nat × Bs)):bQ (p::t)=dm p++bQ t:=rfl
theorem wW (p:Nat × Bs):(dm p).length=(uvar p.1).length+((uvar (dj p.2.length)).length+p.2.length):=by simp[dm]
theorem mi (k:Nat)(v:Bs):∀ (t:List (Nat × Bs)),(∀ y∈t,y.1<k)->cp k v t=t++[(k,v)]
 | [],_=>rfl
 | (j,u)::r,h=>by
  have hj:=h (j,u) (List.mem_cons_self ..)
  simp only at hj
  unfold cp
  rw[if_neg (by omega),if_neg (by omega),mi k v r fun y hy=>h y (List.mem_cons_of_mem _ hy)]
  rfl
theorem mq:∀ (t acc:List (Nat × Bs)) (rest:Bs),(acc++t).Pairwise (fun a b=>a.1<b.1)->(∀ y∈t,zp y)->fz t.length acc ⟨bQ t++rest,false,false⟩=(acc++t,⟨rest,false,false⟩)
 | [],acc,rest,_,_=>by simp[fz,bQ]
 | (k,v)::t,acc,rest,hp,Io=>by
  have Vq:=Io (k,v) (List.mem_cons_self ..)
  have hv32:v.length<4294967296:=Vq.2
  have LO:dj v.length=v.length:=by simp only[dj];omega
  have e1:bQ ((k,v)::t)++rest=uvar k++(uvar v.length++(v++(bQ t++rest))):=by simp[ng,dm,LO,List.append_assoc]
  have RV:cp k v acc=acc++[(k,v)]:=mi k v acc fun y hy=>(List.pairwise_append.1 hp).2.2 y hy (k,v) (List.mem_cons_self ..)
  show fz (t.length+1) acc _=_
  simp only[fz]
  rw[e1,fT Vq.1,fT Vq.2,fE v _ _ rfl]
  show fz t.length (cp k v acc) ⟨bQ t++rest,false,false⟩=_
  rw[RV,mq t (acc++[(k,v)]) rest (by simpa using hp) fun y hy=>Io y (List.mem_cons_of_mem _ hy)]
  simp
theorem Bz (n:Nat):fe true n=uvar (dj (n+1)):=rfl
theorem qQ (fx:Bool){n:Nat}(hn:n<2147483648)(rest:Bs)(hr:n<=rest.length):cA fx ⟨fe fx n++rest,false,false⟩=((n:Int),⟨rest,false,false⟩):=by
 cases fx with
 | true=>
  have e:fe true n=uvar (n+1):=by
   rw[Bz]
   have:dj (n+1)=n+1:=by simp only[dj];omega
   rw[this]
  have hw:cW (cW ((n+1:Nat):Int)-1)=(n:Int):=by simp only[cW];omega
  unfold cA
  simp only[if_true]
  rw[e,fT (by omega)]
  simp only[hw]
  rw[if_neg (by omega)]
 | false=>
  unfold cA
  simp only[Bool.false_eq_true,if_false]
  have e:fe false n=be 4 (n:Nat):=rfl
  rw[e,kh (k:=4) (by omega) (by simp only[Nat.reduceMul,Nat.reduceSub,Int.reducePow];omega)]
  simp only
  rw[if_neg (by omega)]
theorem vx (fx:Bool)(rest:Bs):cA fx ⟨cf fx 4++rest,false,false⟩=(-1,⟨rest,false,false⟩):=by
 cases fx with
 | true=>
  have e:cf true 4=uvar 0:=rfl
  unfold cA
  simp only[if_true]
  rw[e,fT (by omega)]
  have hw:cW (cW ((0:Nat):Int)-1)=-1:=by simp only[cW];omega
  simp only[hw]
  rw[if_neg (by omega)]
 | false=>
  unfold cA
  simp only[Bool.false_eq_true,if_false]
  have e:cf false 4=be 4 (-1):=rfl
  rw[e,xM (.inr rfl)]
  simp only
  rw[if_neg (by omega)]
theorem wX (fx:Bool)(n:Nat):0<(fe fx n).length:=by
 cases fx with
 | true=>exact dW _
 | false=>rw[show fe false n=be 4 (n:Nat) from rfl,bY];omega
theorem oF (fx:Bool):0<(cf fx 4).length:=by
 cases fx with
 | true=>exact dW 0
 | false=>rw[show cf false 4=be 4 (-1) from rfl,bY];omega
theorem iK {l rest:Bs}{nl:Bool}(h:nl=true->l++rest=[])(hl:0<l.length):nl=false:=by
 cases nl with
 | false=>rfl
 | true=>
  have:=(List.append_eq_nil_iff.1 (h rfl)).1
  rw[this]at hl
  simp at hl
theorem yx {nul:Option Nat}{ver:Int}(h:eJ nul ver=true):ce nul ver=true:=by
 cases nul with
 | none=>cases h
 | some m=>simp only[eJ]at h;simp only[ce,h,Bool.or_true]
mutual
def oV (fx:Bool)(ver:Int):Ty->Bool
 | .struct none _ fs=>fx || posFds fx ver fs
 | _=>true
def posFds (fx:Bool)(ver:Int):Fds->Bool
 | .nil=>false
 | .cons lo hi tag _ _ ty r=>(tag.isNone&&has lo hi ver&&oV fx ver ty) || posFds fx ver r
end
inductive Tr where
 | mk (n:Int) (s:Bs) (null:Bool) (l:List Tr) (u:List (UInt32 × Bs))
def Tr.num:Tr->Int | .mk n _ _ _ _=>n
def Tr.octets:Tr->Bs | .mk _ s _ _ _=>s
def Tr.null:Tr->Bool | .mk _ _ b _ _=>b
def Tr.list:Tr->List Tr|.mk _ _ _ l _=>l
def Tr.tags:Tr->List (Nat × Bs)|.mk _ _ _ _ u=>u.map fun p=>(p.1.toNat,p.2)
def Tr.zero:Tr:=.mk 0 [] false [] []
def Tr.at (t:Tr)(i:Nat):Tr:=t.list.getD i .zero
inductive SFs where
 | nil
 | cons (kind:Nat) (lo hi nul tag df:Int) (of:Nat) (sub:SFs) (r:SFs)
def aH:Nat:=32767
def ka (lo hi ver:Int):Bool:=decide (lo<=ver)&&(decide (hi<0) || decide (ver<=hi))
def bW (nul ver:Int):Bool:=decide (0<=nul)&&decide (nul<=ver)
def cH (kind:Nat):Nat:=if kind=1 then 1 else if kind=2 \/ kind=5 then 2 else if kind=3 then 4 else 8
def gu (fx null:Bool)(n k:Nat):Bs:=if fx then(if null then[0]else uvar (n+1))else if null then be k (-1)else be k n
def dY (null:Bool)(l:Bs):Bs:=if null then[]else l.take aH
def dX (fx null:Bool)(k:Nat)(l:Bs):Bs:=gu fx null (dY null l).length k++dY null l
def zx (l:Bs):Bs:=l.take 16++List.replicate (16-l.length) 0
def eE (kind:Nat)(null fx:Bool)(pt:Tr->Bs)(t:Tr):Bs:=
 if kind=0 then[UInt8.ofNat (t.num%2).toNat]
 else if kind=7 then zx t.octets
 else if kind=8 then dX fx null 2 t.octets
 else if kind=9 then dX fx null 4 t.octets
 else if kind=10 then pt t
 else be (cH kind) t.num
def d7 (null:Bool)(t:Tr):List Tr:=if null then[]else t.list.take aH
def eH (kind:Nat)(nul:Int)(of:Nat)(ver:Int)(fx:Bool)(pt:Tr->Bs)(t:Tr):Bs:=
 if kind=11 then gu fx (t.null&&bW nul ver) (d7 (t.null&&bW nul ver) t).length 4++((d7 (t.null&&bW nul ver) t).map (eE of false fx pt)).flatten
 else if kind=10/\0<=nul then(if(t.null&&bW nul ver)=true then[255]else 1::pt t)
 else eE kind (t.null&&bW nul ver) fx pt t
def cu (k:Nat)(v:Bs):List (Nat × Bs)->List (Nat × Bs)
 | []=>[(k,v)]
 | (j,u)::r=>if k<j then(k,v)::(j,u)::r else if k=j then(j,u)::r else(j,u)::cu k v r
def j4 (least:Nat):List (Nat × Bs)->List (Nat × Bs)->List (Nat × Bs)
 | [],acc=>acc
 | (k,v)::r,acc=>j4 least r (if k<least then acc else cu k v acc)
def gU (least:Nat)(l:List (Nat × Bs)):List (Nat × Bs):=j4 least (l.take aH) []
def aQ:SFs->Nat
 | .nil=>0
 | .cons _ _ _ _ tag _ _ _ r=>if 0<=tag then Nat.max (tag.toNat+1) (aQ r)else aQ r
def ul (kind:Nat)(nul df:Int)(us:Tr->Bool)(t:Tr):Bool:=
 if kind=0 then decide (t.num%2=df)
 else if kind=7 then(t.octets.take 16).all fun b=>b==0
 else if kind=8 \/ kind=9 then(if 0<=nul then t.null else t.octets.isEmpty)
 else if kind=11 then t.list.isEmpty
 else if kind=10 then us t
 else decide (be (cH kind) t.num=be (cH kind) df)
def pN:SFs->Nat->Tr->Bool
 | .nil,_,_=>true
 | .cons kind _ _ nul _ df _ sub r,i,t=>ul kind nul df (fun t=>pN sub 0 t&&(gU (aQ sub) t.tags).isEmpty) (t.at i)&&pN r (i+1) t
def o6 (p:Nat × Bs):Bs:=uvar p.1++(uvar p.2.length++p.2)
def oO (l:List (Nat × Bs)):Bs:=(l.map o6).flatten
def oP (n:Nat)(l:List (Nat × Bs)):List (Nat × Bs):=(List.range n).flatMap fun k=>l.filter fun p=>p.1==k
def jk (fx:Bool)(n:Nat)(tg:List (Nat × Bs))(u:List (Nat × Bs)):Bs:=
 if fx then uvar ((oP n tg).length+(gU n u).length)++(oO (oP n tg)++oO ((gU n u).map fun p=>(p.1,p.2.take aH))) else[]
mutual
def cX (ver:Int)(fx:Bool):SFs->Nat->Tr->Bs
 | .nil,_,_=>[]
 | .cons kind lo hi nul tag _ of sub r,i,t=>
  (if tag<0/\ka lo hi ver=true then eH kind nul of ver fx (fun t=>cX ver fx sub 0 t++jk fx (aQ sub) (sTgd ver fx sub 0 t) t.tags) (t.at i) else[])++cX ver fx r (i+1) t
def sTgd (ver:Int)(fx:Bool):SFs->Nat->Tr->List (Nat × Bs)
 | .nil,_,_=>[]
 | .cons kind _ _ nul tag df of sub r,i,t=>
  (if 0<=tag/\ul kind nul df (fun t=>pN sub 0 t&&(gU (aQ sub) t.tags).isEmpty) (t.at i)=false then
   [(tag.toNat,eH kind nul of ver fx (fun t=>cX ver fx sub 0 t++jk fx (aQ sub) (sTgd ver fx sub 0 t) t.tags) (t.at i))] else[])++sTgd ver fx r (i+1) t
end
def bh (ver:Int)(fx:Bool)(fs:SFs)(t:Tr):Bs:=cX ver fx fs 0 t++jk fx (aQ fs) (sTgd ver fx fs 0 t) t.tags
def iI:cY->Nat
 | .bool=>0|.i8=>1|.i16=>2|.i32=>3|.i64=>4|.u16=>5|.uuid=>7
def jD:cY->Int->Int
 | .bool,x=>x%2
 | .u16,x=>x%65536
 | .i8,x=>kF 8 (x%256).toNat
 | .i16,x=>kF 16 (x%65536).toNat
 | .i32,x=>kF 32 (x%4294967296).toNat
 | _,x=>kF 64 (x%18446744073709551616).toNat
def dF (n:Nat)(t:Tr):List (Nat × Bs):=(gU n t.tags).map fun p=>(p.1,p.2.take aH)
mutual
def me (ver:Int)(fx:Bool):Ty->SFs->Bool->Tr->V
 | .prim .uuid,_,_,t=>.s (zx t.octets)
 | .prim p,_,_,t=>.n (jD p t.num)
 | .str _,_,null,t=>if null then .nul else .s (t.octets.take aH)
 | .bytes _,_,null,t=>if null then .nul else .s (t.octets.take aH)
 | .list nul _ e,sub,null,t=>if null then .nul else if t.list.isEmpty then(if nul.isSome then .l []else .nul)else .l ((t.list.take aH).map fun t=>me ver fx e sub false t)
 | .struct _ _ fs,sub,null,t=>if null then .nul else .st (vFds ver fx fs sub 0 t) (if fx then dF (aQ sub) t else[])
def vFds (ver:Int)(fx:Bool):Fds->SFs->Nat->Tr->List V
 | .nil,_,_,_=>[]
 | .cons lo hi tag df _ ty r,sf,i,t=>
  match sf with
  | .nil=>eV df ty::vFds ver fx r .nil (i+1) t
  | .cons _ _ _ nul _ _ _ sub sr=>
   (if tag.isNone&&has lo hi ver then me ver fx ty sub ((t.at i).null&&bW nul ver) (t.at i)else eV df ty)::vFds ver fx r sr (i+1) t
end
def Ty.isList:Ty->Bool | .list _ _ _=>true|_=>false
mutual
def im (ver:Int)(fx:Bool):Ty->Nat->Int->Nat->SFs->Bool
 | .prim p,kind,_,_,_=>kind==iI p
 | .str nul,kind,n,_,_=>kind==8&&(!bW n ver || ce nul ver)
 | .bytes nul,kind,n,_,_=>kind==9&&(!bW n ver || ce nul ver)
 | .list nul esz e,kind,n,of,sub=>kind==11&&(!bW n ver || (nul.isSome&&eJ nul ver))&&decide (esz<=10000)&&!e.isList&&oV fx ver e&&im ver fx e of (-1) 0 sub
 | .struct nul _ fs,kind,n,_,sub=>kind==10&&(nul.isSome==decide (0<=n))&&fitFds ver fx fs sub
def fitFds (ver:Int)(fx:Bool):Fds->SFs->Bool
 | .nil,sf=>match sf with|.nil=>true|_=>false
 | .cons lo hi tag _ _ ty r,sf=>
  match sf with
  | .nil=>false
  | .cons kind slo shi nul stag _ of sub sr=>tag.isNone&&decide (stag<0)&&(has lo hi ver==ka slo shi ver)&&(!has lo hi ver || im ver fx ty kind nul of sub)&&fitFds ver fx r sr
end
theorem qt (m:Nat)(x:Int):∀ j,j<=m->be j (x%256^m)=be j x:=by
 intro j
 induction j with
 | zero=>intro _;rfl
 | succ j ih=>
  intro hj
  simp only[be]
  rw[ih (by omega)]
  congr 2
  have hp:(256:Int)^m=256^j*(256*256^(m-j-1)):=by
   rw[<- Int.pow_succ',<- Int.pow_add]
   congr 1;omega
  rw[hp]
  have hk:(0:Int)<256^j:=Int.pow_pos (by omega)
  have e1:x%(256^j*(256*256^(m-j-1)))=x+256^j*(-(256*(256^(m-j-1)*(x/(256^j*(256*256^(m-j-1))))))):=by
   rw[Int.emod_def,Int.mul_neg,<- Int.sub_eq_add_neg]
   simp only[Int.mul_assoc]
  rw[e1,Int.add_mul_ediv_left _ _ (by omega)]
  generalize 256^(m-j-1)*(x/(256^j*(256*256^(m-j-1))))=t
  generalize x/256^j=y
  congr 1
  omega
theorem lD (k:Nat){x y:Int}(h:x%256^k=y%256^k):be k x=be k y:=by
 rw[<- qt k x k (Nat.le_refl _),h,qt k y k (Nat.le_refl _)]
def vD:PF->V->Prop
 | .bool,v=>v=.n 0 \/ v=.n 1
 | .i8,v=>∃ x:Int,v=.n x/\-128<=x/\x<128
 | .i16,v=>∃ x:Int,v=.n x/\-32768<=x/\x<32768
 | .u16,v=>∃ x:Int,v=.n x/\0<=x/\x<65536
 | .i32,v=>∃ x:Int,v=.n x/\-2147483648<=x/\x<2147483648
 | .i64,v=>∃ x:Int,v=.n x/\-9223372036854775808<=x/\x<9223372036854775808
 | .uuid,v=>∃ l:Bs,v=.s l/\l.length=16
 | .str,v=>∃ l:Bs,v=.s l/\l.length<=aH
 | .cstr,v=>∃ l:Bs,v=.s l/\l.length<=aH
 | .bytes,v=>∃ l:Bs,v=.s l/\l.length<=aH
 | .cbytes,v=>∃ l:Bs,v=.s l/\l.length<=aH
 | _,v=>v=.nul \/ ∃ l:Bs,v=.s l/\l.length<=aH
theorem jV (l rest:Bs)(k:Int)(hk:k=(l.length:Nat)):mo k ⟨l++rest,false,false⟩=(.s l,⟨rest,false,false⟩):=by
 simp only[mo,fE l rest k hk,V.octets]
theorem kN (l:Bs):kO false l=be 2 l.length++l:=rfl
theorem mG {l:Bs}(h:l.length<=aH):kO true l=uvar (l.length+1)++l:=by
 have:dj (l.length+1)=l.length+1:=by simp only[dj,aH]at *;omega
 simp only[kO,if_true,this]
theorem jv (l:Bs):iU false l=be 4 l.length++l:=rfl
theorem kP {l:Bs}(h:l.length<=aH):iU true l=uvar (l.length+1)++l:=by
 have:dj (l.length+1)=l.length+1:=by simp only[dj,aH]at *;omega
 simp only[iU,if_true,this]
theorem EW (p:PF)(v:V)(h:vD p v)(rest:Bs):p.run ⟨p.wr v++rest,false,false⟩=(v,⟨rest,false,false⟩):=by
 have i2:∀ {l:Bs},l.length<=aH->∀ r:Bs,rI 2 ⟨be 2 (l.length:Nat)++r,false,false⟩=((l.length:Int),⟨r,false,false⟩):=fun {l} hl r=>
  kh (k:=2) (by omega) (by simp only[aH]at hl;simp only[Nat.reduceMul,Nat.reduceSub,Int.reducePow];omega) r false
 have i4:∀ {l:Bs},l.length<=aH->∀ r:Bs,rI 4 ⟨be 4 (l.length:Nat)++r,false,false⟩=((l.length:Int),⟨r,false,false⟩):=fun {l} hl r=>
  kh (k:=4) (by omega) (by simp only[aH]at hl;simp only[Nat.reduceMul,Nat.reduceSub,Int.reducePow];omega) r false
 have u1:∀ {l:Bs},l.length<=aH->∀ r:Bs,b5 ⟨uvar (l.length+1)++r,false,false⟩=(l.length+1,⟨r,false,false⟩):=fun {l} hl r=>
  fT (by simp only[aH]at hl;omega) r false
 cases p with
 | bool=>rcases h with rfl|rfl<;>simp[PF.run,PF.wr,qS,V.num]
 | i8=>
  obtain⟨x,rfl,h1,h2⟩:=h
  simp only[PF.run,PF.wr,V.num]
  rw[kh (k:=1) (by omega) (by simp only[Nat.reduceMul,Nat.reduceSub,Int.reducePow];omega)]
 | i16=>
  obtain⟨x,rfl,h1,h2⟩:=h
  simp only[PF.run,PF.wr,V.num]
  rw[kh (k:=2) (by omega) (by simp only[Nat.reduceMul,Nat.reduceSub,Int.reducePow];omega)]
 | i32=>
  obtain⟨x,rfl,h1,h2⟩:=h
  simp only[PF.run,PF.wr,V.num]
  rw[kh (k:=4) (by omega) (by simp only[Nat.reduceMul,Nat.reduceSub,Int.reducePow];omega)]
 | i64=>
  obtain⟨x,rfl,h1,h2⟩:=h
  simp only[PF.run,PF.wr,V.num]
  rw[kh (k:=8) (by omega) (by simp only[Nat.reduceMul,Nat.reduceSub,Int.reducePow];omega)]
 | u16=>
  obtain⟨x,rfl,h1,h2⟩:=h
  obtain⟨n,rfl⟩:=Int.eq_ofNat_of_zero_le h1
  simp only[PF.run,PF.wr,V.num]
  rw[AT (k:=2) (by omega)]
 | uuid=>
  obtain⟨l,rfl,h1⟩:=h
  show(if(l++rest).length<16 then(V.s (List.replicate 16 0),RS.fail) else(V.s ((l++rest).take 16),(⟨(l++rest).drop 16,false,false⟩:RS)))=_
  rw[if_neg (by simp;omega)]
  rw[List.take_append_of_le_length (by omega),List.drop_append_of_le_length (by omega),List.take_of_length_le (by omega),List.drop_of_length_le (by omega)]
  rfl
 | str=>
  obtain⟨l,rfl,hl⟩:=h
  simp only[PF.run,PF.wr,V.octets,kN,List.append_assoc,i2 hl,jV l rest _ rfl]
 | cstr=>
  obtain⟨l,rfl,hl⟩:=h
  simp only[PF.run,PF.wr,V.octets,mG hl,List.append_assoc,u1 hl]
  rw[jV l rest _ (by omega)]
 | bytes=>
  obtain⟨l,rfl,hl⟩:=h
  simp only[PF.run,PF.wr,V.octets,jv,List.append_assoc,i4 hl]
  rw[if_neg (by omega),fE l rest _ rfl]
 | cbytes=>
  obtain⟨l,rfl,hl⟩:=h
  simp only[PF.run,PF.wr,V.octets,kP hl,List.append_assoc,u1 hl]
  rw[if_neg (by omega),fE l rest _ (by omega)]
 | nstr=>
  rcases h with rfl|⟨l,rfl,hl⟩
  ·simp only[PF.run,PF.wr,V.isNul,if_true]
   rw[show cf false 2=be 2 (-1) from rfl,xM (.inl rfl)]
   rfl
  ·simp only[PF.run,PF.wr,V.octets,V.isNul,Bool.false_eq_true,if_false,kN,List.append_assoc,i2 hl]
   rw[if_neg (by omega),jV l rest _ rfl]
 | cnstr=>
  rcases h with rfl|⟨l,rfl,hl⟩
  ·simp only[PF.run,PF.wr,V.isNul,if_true]
   rw[show cf true 2=uvar 0 from rfl,fT (by omega)]
   rfl
  ·simp only[PF.run,PF.wr,V.octets,V.isNul,Bool.false_eq_true,if_false,mG hl,List.append_assoc,u1 hl]
   rw[if_neg (by omega),jV l rest _ (by omega)]
 | nbytes=>
  rcases h with rfl|⟨l,rfl,hl⟩
  ·simp only[PF.run,PF.wr,V.isNul,if_true]
   rw[show cf false 4=be 4 (-1) from rfl,xM (.inr rfl)]
   rfl
  ·simp only[PF.run,PF.wr,V.octets,V.isNul,Bool.false_eq_true,if_false,jv,List.append_assoc,i4 hl]
   rw[if_neg (by omega),fE l rest _ rfl]
 | cnbytes=>
  rcases h with rfl|⟨l,rfl,hl⟩
  ·simp only[PF.run,PF.wr,V.isNul,if_true]
   rw[show cf true 4=uvar 0 from rfl,fT (by omega)]
   rfl
  ·simp only[PF.run,PF.wr,V.octets,V.isNul,Bool.false_eq_true,if_false,kP hl,List.append_assoc,u1 hl]
   rw[if_neg (by omega),fE l rest _ (by omega)]
theorem Bv (p:PF)(v:V)(h:vD p v):0<(p.wr v).length:=by
 have a:∀ fx k,0<k->0<(cf fx k).length:=fun fx k hk=>by
  cases fx with
  | true=>exact dW 0
  | false=>simp only[cf,Bool.false_eq_true,if_false,bY];exact hk
 have b:∀ fx l,0<(kO fx l).length:=fun fx l=>by
  cases fx with
  | true=>simp only[kO,if_true,List.length_append];have:=dW (dj (l.length+1));omega
  | false=>rw[kN,List.length_append,bY];omega
 have c:∀ fx l,0<(iU fx l).length:=fun fx l=>by
  cases fx with
  | true=>simp only[iU,if_true,List.length_append];have:=dW (dj (l.length+1));omega
  | false=>rw[jv,List.length_append,bY];omega
 cases p with
 | uuid=>obtain⟨l,rfl,hl⟩:=h;simp only[PF.wr,V.octets];omega
 | bool=>simp[PF.wr]
 | _=>
  simp only[PF.wr]
  first
   | exact b _ _
   | exact c _ _
   | (rw[bY];omega)
   | (split;exact a _ _ (by omega);exact b _ _)
   | (split;exact a _ _ (by omega);exact c _ _)
def jo (null:Bool)(l:Bs):V:=if null then .nul else .s (l.take aH)
theorem f8 (l:Bs):(l.take aH).length<=aH:=by rw[List.length_take];exact Nat.min_le_left ..
theorem wN (b fx null:Bool)(h:null=true->b=true)(l:Bs):(cC b fx).wr (jo null l)=dX fx null 2 l/\vD (cC b fx) (jo null l):=by
 have hl:=f8 l
 cases null with
 | true=>
  obtain rfl:=h rfl
  cases fx<;>exact⟨by simp[cC,jo,PF.wr,V.isNul,cf,dX,gu,dY]<;>rfl,.inl rfl⟩
 | false=>
  cases b<;>cases fx
  ·exact⟨by simp[cC,jo,PF.wr,V.octets,kN,dX,gu,dY],⟨_,rfl,hl⟩⟩
  ·exact⟨by simp only[cC,jo,PF.wr,V.octets,Bool.false_eq_true,if_false,if_true,mG hl,dX,gu,dY],⟨_,rfl,hl⟩⟩
  ·exact⟨by simp[cC,jo,PF.wr,V.isNul,V.octets,kN,dX,gu,dY],.inr ⟨_,rfl,hl⟩⟩
  ·exact⟨by simp only[cC,jo,PF.wr,V.isNul,V.octets,Bool.false_eq_true,if_false,if_true,mG hl,dX,gu,dY],.inr ⟨_,rfl,hl⟩⟩
theorem qz (b fx null:Bool)(h:null=true->b=true)(l:Bs):(bR b fx).wr (jo null l)=dX fx null 4 l/\vD (bR b fx) (jo null l):=by
 have hl:=f8 l
 cases null with
 | true=>
  obtain rfl:=h rfl
  cases fx<;>exact⟨by simp[bR,jo,PF.wr,V.isNul,cf,dX,gu,dY]<;>rfl,.inl rfl⟩
 | false=>
  cases b<;>cases fx
  ·exact⟨by simp[bR,jo,PF.wr,V.octets,jv,dX,gu,dY],⟨_,rfl,hl⟩⟩
  ·exact⟨by simp only[bR,jo,PF.wr,V.octets,Bool.false_eq_true,if_false,if_true,kP hl,dX,gu,dY],⟨_,rfl,hl⟩⟩
  ·exact⟨by simp[bR,jo,PF.wr,V.isNul,V.octets,jv,dX,gu,dY],.inr ⟨_,rfl,hl⟩⟩
  ·exact⟨by simp only[bR,jo,PF.wr,V.isNul,V.octets,Bool.false_eq_true,if_false,if_true,kP hl,dX,gu,dY],.inr ⟨_,rfl,hl⟩⟩
def gZ:cY->Tr->V
 | .uuid,t=>.s (zx t.octets)
 | p,t=>.n (jD p t.num)
theorem lh (l:Bs):(zx l).length=16:=by simp only[zx,List.length_append,List.length_take,List.length_replicate];omega
theorem tD (p:cY)(null fx:Bool)(pt:Tr->Bs)(t:Tr):(bI p).wr (gZ p t)=eE (iI p) null fx pt t/\vD (bI p) (gZ p t):=by
 have sg:∀ (bits:Nat) (x:Int),bits=8 \/ bits=16 \/ bits=32 \/ bits=64->kF bits (x%2^bits).toNat%2^bits=x%2^bits/\-(2^(bits-1):Int)<=kF bits (x%2^bits).toNat/\kF bits (x%2^bits).toNat<2^(bits-1):=by
  intro bits x hb
  rcases hb with rfl|rfl|rfl|rfl<;>simp only[kF,Nat.reduceSub,Nat.reducePow,Int.reducePow]<;>split<;>omega
 cases p with
 | bool=>
  have h:t.num%2=0 \/ t.num%2=1:=by omega
  rcases h with h|h
  ·exact⟨by simp[bI,gZ,jD,PF.wr,V.num,eE,iI,h],.inl (by simp[gZ,jD,h])⟩
  ·exact⟨by simp[bI,gZ,jD,PF.wr,V.num,eE,iI,h],.inr (by simp[gZ,jD,h])⟩
 | uuid=>exact⟨by simp[bI,gZ,PF.wr,V.octets,eE,iI],⟨_,rfl,lh _⟩⟩
 | u16=>
  refine⟨?_,⟨_,rfl,by simp only[jD];omega,by simp only[jD];omega⟩⟩
  simp only[bI,gZ,PF.wr,V.num,jD,eE,iI,cH]
  exact qt 2 t.num 2 (Nat.le_refl _)
 | i8=>
  have h:=sg 8 t.num (by omega)
  refine⟨?_,⟨_,rfl,by simpa[jD]using h.2⟩⟩
  exact lD 1 (by simpa[V.num,gZ,jD]using h.1)
 | i16=>
  have h:=sg 16 t.num (by omega)
  refine⟨?_,⟨_,rfl,by simpa[jD]using h.2⟩⟩
  exact lD 2 (by simpa[V.num,gZ,jD]using h.1)
 | i32=>
  have h:=sg 32 t.num (by omega)
  refine⟨?_,⟨_,rfl,by simpa[jD]using h.2⟩⟩
  exact lD 4 (by simpa[V.num,gZ,jD]using h.1)
 | i64=>
  have h:=sg 64 t.num (by omega)
  refine⟨?_,⟨_,rfl,by simpa[jD]using h.2⟩⟩
  exact lD 8 (by simpa[V.num,gZ,jD]using h.1)
end Go.Proofs.YtpoeajgpacfpoaaGreatDoor.Kx