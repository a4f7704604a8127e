/- messages, part 2 -/
import Derived.Test.YtnpdpnmomihkkaaGreatDoorK10

namespace Go.Proofs.YtnpdpnmomihkkaaGreatDoor.Kx
open Go
theorem Iv {m:Nat}(h:m<256):(UInt8.ofNat m).toNat=m:=UInt8.toNat_ofNat_of_lt (by simpa using h)
theorem dx (k:Nat)(x:Int):(be k x).length=k:=by
 induction k with
 | zero=>rfl
 | succ k ih=>simp only[be,List.length_cons,ih]
theorem wV (l:Bs)(acc:Nat):l.foldl (λa b=>a*256+b.toNat) acc=acc*256^l.length+ei l:=by
 induction l generalizing acc with
 | nil=>simp[ei]
 | cons b l ih=>
  simp only[List.foldl_cons,List.length_cons,ei]
  rw[ih,ih (0*256+b.toNat)]
  simp only[Nat.zero_mul,aN,Nat.pow_succ,bk]
  rw[Nat.mul_assoc,Nat.mul_comm 256,Nat.add_assoc]
theorem vz (b:UInt8)(l:Bs):ei (b::l)=b.toNat*256^l.length+ei l:=by
 show(b::l).foldl (λa b=>a*256+b.toNat) 0=_
 rw[List.foldl_cons,wV]
 simp
theorem rK (k:Nat)(x:Int):(ei (be k x):Int)=x%256^k:=by
 induction k with
 | zero=>simp[be,ei]
 | succ k ih=>
  simp only[be]
  rw[vz,dx]
  have h0:(0:Int)<=x/256^k%256:=Int.emod_nonneg _ aa
  have h1:x/256^k%256<256:=Int.emod_lt_of_pos _ aa
  have e1:(UInt8.ofNat (x/256^k%256).toNat).toNat=(x/256^k%256).toNat:=Iv aa
  rw[e1,Int.natCast_add,Int.natCast_mul,Int.natCast_pow,ih,Int.toNat_of_nonneg h0]
  show x/256^k%256*256^k+x%256^k=_
  have hp:(0:Int)<256^k:=Int.pow_pos aa
  rw[Int.pow_succ]
  have e2:x%(256^k*256)=x-256^k*256*(x/(256^k*256)):=Int.emod_def _ _
  have e3:x/(256^k*256)=x/256^k/256:=(Int.ediv_ediv_of_nonneg aa).symm
  have e4:x/256^k%256=x/256^k-256*(x/256^k/256):=Int.emod_def _ _
  have e5:x%256^k=x-256^k*(x/256^k):=Int.emod_def _ _
  rw[e2,e3,e4,e5,Int.sub_mul]
  have:256^k*256*(x/256^k/256)=256*(x/256^k/256)*256^k:=by
   rw[Int.mul_comm (256^k) 256,Int.mul_assoc,Int.mul_comm (256^k),<- Int.mul_assoc]
  rw[this,Int.mul_comm (256^k) (x/256^k)]
  omega
theorem DM {k:Nat}{x:Nat}(h:x<256^k)(rest:Bs)(nl:Bool):rU k ⟨be k x++rest,false,nl⟩=(x,⟨rest,false,nl⟩):=by
 have hl:¬ ((be k x++rest).length<k):=by rw[ad,dx];omega
 have h1:(be k x++rest).take k=be k x:=by rw[List.take_append_of_le_length (by rw[dx];omega),List.take_of_length_le (by rw[dx];omega)]
 have h2:(be k x++rest).drop k=rest:=by rw[bg (by rw[dx];omega),bo (by rw[dx];omega)];rfl
 simp only[rU,al hl,h1,h2]
 have:=rK k x
 have h3:((x:Nat):Int)%256^k=x:=Int.emod_eq_of_lt aa (by have:=Int.ofNat_lt.2 h;rw[Int.natCast_pow]at this;exact this)
 rw[h3]at this
 congr 1
 omega
theorem mg {k:Nat}(hk:k=1 \/ k=2 \/ k=4 \/ k=8){x:Int}(h:-(2^(8*k-1):Int)<=x/\x<2^(8*k-1))(rest:Bs)(nl:Bool):rI k ⟨be k x++rest,false,nl⟩=(x,⟨rest,false,nl⟩):=by
 have e:be k x=be k ((x%256^k).toNat:Nat):=by
  have h0:0<=x%256^k:=Int.emod_nonneg _ (by have:=Int.pow_pos (n:=256) (m:=k) aa;omega)
  rw[Int.toNat_of_nonneg h0]
  apply List.ext_getElem?
  intro i
  have key:∀ (m:Nat) (j:Nat),j<=m->be j (x%256^m)=be j x:=by
   intro m j
   induction j with
   | zero=>intro _;rfl
   | succ j ih=>
    intro hj
    simp only[be]
    rw[ih aa]
    congr 2
    have hp:(256:Int)^m=256^j*(256*256^(m-j-1)):=by
     rw[<- Int.pow_succ',<- Int.pow_add]
     congr 1;omega
    rw[hp]
    have hk:(0:Int)<256^j:=Int.pow_pos aa
    have e1:x%(256^j*(256*256^(m-j-1)))=x+256^j*(-(256*(256^(m-j-1)*(x/(256^j*(256*256^(m-j-1))))))):=by
     rw[Int.emod_def,Int.mul_neg,<- Int.sub_eq_add_neg]
     simp only[Int.mul_assoc]
    rw[e1,Int.add_mul_ediv_left _ _ aa]
    generalize 256^(m-j-1)*(x/(256^j*(256*256^(m-j-1))))=t
    generalize x/256^j=y
    congr 1
    omega
  rw[key k k (ae _)]
 have IU:(x%256^k).toNat<256^k:=by
  have h0:0<=x%256^k:=Int.emod_nonneg _ (by have:=Int.pow_pos (n:=256) (m:=k) aa;omega)
  have h1:x%256^k<256^k:=Int.emod_lt_of_pos _ (Int.pow_pos aa)
  have:((x%256^k).toNat:Int)<((256^k:Nat):Int):=by rw[Int.toNat_of_nonneg h0,Int.natCast_pow];exact h1
  exact Int.ofNat_lt.1 this
 rw[e]
 simp only[rI,DM IU]
 congr 1
 rcases hk with rfl|rfl|rfl|rfl<;>simp only[lr,Nat.reduceMul,Nat.reduceSub,Int.reducePow,Nat.reducePow]at h ⊢<;>split<;>omega
theorem rE:∀ (x:Nat),x<4294967296->∀ rest:Bs,cu (uvar x++rest)=(x,((uvar x).length:Int)):=by
 intro x hx rest
 have t:∀ m,m<128->(UInt8.ofNat (m+128)).toNat=m+128:=λm hm=>Iv aa
 have s:∀ m,m<128->(UInt8.ofNat m).toNat=m:=λm hm=>Iv aa
 simp only[uvar,dD]
 by_cases c1:x<128
 ·simp[c1,cu,s x c1]
 by_cases c2:x/128<128
 ·have n1:¬ (x%128+128<128):=by omega
  simp only[c1,c2,aw,ak,aS,aF,cu,t _ (Nat.mod_lt x aa),n1,s _ c2]
  simp;omega
 by_cases c3:x/128/128<128
 ·have n1:¬ (x%128+128<128):=by omega
  have n2:¬ (x/128%128+128<128):=by omega
  simp only[c1,c2,c3,aw,ak,aS,aF,cu,t _ (Nat.mod_lt x aa),t _ (Nat.mod_lt (x/128) aa),n1,n2,s _ c3]
  simp;omega
 by_cases c4:x/128/128/128<128
 ·have n1:¬ (x%128+128<128):=by omega
  have n2:¬ (x/128%128+128<128):=by omega
  have n3:¬ (x/128/128%128+128<128):=by omega
  simp only[c1,c2,c3,c4,aw,ak,aS,aF,cu,t _ (Nat.mod_lt x aa),t _ (Nat.mod_lt (x/128) aa),t _ (Nat.mod_lt (x/128/128) aa),n1,n2,n3,s _ c4]
  simp;omega
 have c5:x/128/128/128/128<128:=by omega
 have c6:x/128/128/128/128<=15:=by omega
 have n1:¬ (x%128+128<128):=by omega
 have n2:¬ (x/128%128+128<128):=by omega
 have n3:¬ (x/128/128%128+128<128):=by omega
 have n4:¬ (x/128/128/128%128+128<128):=by omega
 simp only[c1,c2,c3,c4,c5,aw,ak,aS,aF,cu,t _ (Nat.mod_lt x aa),t _ (Nat.mod_lt (x/128) aa),t _ (Nat.mod_lt (x/128/128) aa),t _ (Nat.mod_lt (x/128/128/128) aa),n1,n2,n3,n4,s _ c5,c6]
 simp;omega
theorem f8 {x:Nat}(h:x<4294967296)(rest:Bs)(nl:Bool):bZ ⟨uvar x++rest,false,nl⟩=(x,⟨rest,false,nl⟩):=by
 have h1:=rE x h rest
 have h2:=fg x
 have h3:¬ (((uvar x).length:Int)<=0):=by omega
 simp only[bZ,h1,al h3,Int.toNat_natCast]
 rw[bg (ae _),bo (ae _)]
 rfl
theorem lk (x:Nat)(h:x<4294967296):(uvar x).length=if x<128 then 1 else if x<16384 then 2 else if x<2097152 then 3 else if x<268435456 then 4 else 5:=by
 simp only[uvar,dD]
 by_cases c1:x<128
 ·simp[c1]
 by_cases c2:x/128<128
 ·have:x<16384:=by omega
  simp[c1,c2,this]
 by_cases c3:x/128/128<128
 ·have a:¬ x<16384:=by omega
  have b:x<2097152:=by omega
  simp[c1,c2,c3,a,b]
 by_cases c4:x/128/128/128<128
 ·have a:¬ x<16384:=by omega
  have b:¬ x<2097152:=by omega
  have c:x<268435456:=by omega
  simp[c1,c2,c3,c4,a,b,c]
 have a:¬ x<16384:=by omega
 have b:¬ x<2097152:=by omega
 have c:¬ x<268435456:=by omega
 have c5:x/128/128/128/128<128:=by omega
 simp[c1,c2,c3,c4,c5,a,b,c]
theorem tJ (l:Bs):(cu l).2<=0 \/ ((cu l).1<4294967296/\((uvar (cu l).1).length:Int)<=(cu l).2/\(cu l).2<=l.length):=by
 have hb:∀ b:UInt8,b.toNat<256:=λb=>b.toNat_lt
 unfold cu
 cases l with
 | nil=>left;simp
 | cons a l=>
  simp only
  have ha:=hb a
  split
  ·right;rw[lk _ aa];simp;split<;>omega
  ·cases l with
   | nil=>left;simp
   | cons b l=>
    simp only
    have OF:=hb b
    split
    ·right;rw[lk _ aa];refine⟨by omega,?_,by simp;omega⟩;repeat' split
     all_goals simp
     all_goals omega
    ·cases l with
     | nil=>left;simp
     | cons c l=>
      simp only
      have hc:=hb c
      split
      ·right;rw[lk _ aa];refine⟨by omega,?_,by simp;omega⟩;repeat' split
       all_goals simp
       all_goals omega
      ·cases l with
       | nil=>left;simp
       | cons d l=>
        simp only
        have hd:=hb d
        split
        ·right;rw[lk _ aa];refine⟨by omega,?_,by simp;omega⟩;repeat' split
         all_goals simp
         all_goals omega
        ·cases l with
         | nil=>left;simp
         | cons e l=>
          simp only
          split
          ·right;rw[lk _ aa];refine⟨by omega,?_,by simp;omega⟩;repeat' split
           all_goals simp
          ·left;simp
theorem yQ (l rest:Bs):cd (l.length:Nat) ⟨l++rest,false,false⟩=(.s l,⟨rest,false,false⟩):=by
 unfold cd
 rw[al (by simp;omega)]
 simp
theorem gu (l rest:Bs)(k:Int)(hk:k=(l.length:Nat)):cd k ⟨l++rest,false,false⟩=(.s l,⟨rest,false,false⟩):=by subst hk;exact yQ l rest
theorem AL {k:Nat}(hk:k=2 \/ k=4)(rest:Bs):rI k ⟨be k (-1)++rest,false,false⟩=(-1,⟨rest,false,false⟩):=by
 refine mg aa ?_ rest false
 rcases hk with rfl|rfl<;>simp only[Nat.reduceMul,Nat.reduceSub,Int.reducePow]<;>omega
def yk (p:Nat × Bs):Prop:=p.1<4294967296/\p.2.length<4294967296
theorem j0 (p:Nat × Bs)(t:List (Nat × Bs)):cM (p::t)=eZ p++cM t:=rfl
theorem tC (p:Nat × Bs):(eZ p).length=(uvar p.1).length+((uvar (f9 p.2.length)).length+p.2.length):=by simp[eZ]
theorem lu (k:Nat)(v:Bs):∀ (t:List (Nat × Bs)),(∀ y∈t,y.1<k)->dM k v t=t++[(k,v)]
 | [],_=>rfl
 | (j,u)::r,h=>by
  have hj:=h (j,u) (aB ..)
  simp only at hj
  unfold dM
  rw[al aa,al aa,lu k v r λy hy=>h y (aA _ hy)]
  rfl
theorem oz:∀ (t acc:List (Nat × Bs)) (rest:Bs),(acc++t).Pairwise (λa b=>a.1<b.1)->(∀ y∈t,yk y)->e9 t.length acc ⟨cM t++rest,false,false⟩=(acc++t,⟨rest,false,false⟩)
 | [],acc,rest,_,_=>by simp[e9,cM]
 | (k,v)::t,acc,rest,hp,Jf=>by
  have RB:=Jf (k,v) (aB ..)
  have hv32:v.length<4294967296:=RB.2
  have LJ:f9 v.length=v.length:=by simp only[f9];omega
  have e1:cM ((k,v)::t)++rest=uvar k++(uvar v.length++(v++(cM t++rest))):=by simp[j0,eZ,LJ]
  have Pf:dM k v acc=acc++[(k,v)]:=lu k v acc λy hy=>(List.pairwise_append.1 hp).2.2 y hy (k,v) (aB ..)
  show e9 (t.length+1) acc _=_
  simp only[e9]
  rw[e1,f8 RB.1,f8 RB.2,gu v _ _ rfl]
  show e9 t.length (dM k v acc) ⟨cM t++rest,false,false⟩=_
  rw[Pf,oz t (acc++[(k,v)]) rest (by simpa using hp) λy hy=>Jf y (aA _ hy)]
  simp
theorem E3 (n:Nat):kf true n=uvar (f9 (n+1)):=rfl
theorem u3 (fx:Bool){n:Nat}(hn:n<2147483648)(rest:Bs)(hr:n<=rest.length):cW fx ⟨kf fx n++rest,false,false⟩=((n:Int),⟨rest,false,false⟩):=by
 cases fx with
 | true=>
  have e:kf true n=uvar (n+1):=by
   rw[E3]
   have:f9 (n+1)=n+1:=by simp only[f9];omega
   rw[this]
  have hw:eB (eB ((n+1:Nat):Int)-1)=(n:Int):=by simp only[eB];omega
  unfold cW
  simp only[aw]
  rw[e,f8 aa]
  simp only[hw]
  rw[al aa]
 | false=>
  unfold cW
  simp only[ag,ak]
  have e:kf false n=be 4 (n:Nat):=rfl
  rw[e,mg (k:=4) aa (by simp only[Nat.reduceMul,Nat.reduceSub,Int.reducePow];omega)]
  simp only
  rw[al aa]
theorem yR (fx:Bool)(rest:Bs):cW fx ⟨eJ fx 4++rest,false,false⟩=(-1,⟨rest,false,false⟩):=by
 cases fx with
 | true=>
  have e:eJ true 4=uvar 0:=rfl
  unfold cW
  simp only[aw]
  rw[e,f8 aa]
  have hw:eB (eB ((0:Nat):Int)-1)=-1:=by simp only[eB];omega
  simp only[hw]
  rw[al aa]
 | false=>
  unfold cW
  simp only[ag,ak]
  have e:eJ false 4=be 4 (-1):=rfl
  rw[e,AL (.inr rfl)]
  simp only
  rw[al aa]
theorem Af (fx:Bool)(n:Nat):0<(kf fx n).length:=by
 cases fx with
 | true=>exact fg _
 | false=>rw[show kf false n=be 4 (n:Nat) from rfl,dx];omega
theorem qF (fx:Bool):0<(eJ fx 4).length:=by
 cases fx with
 | true=>exact fg 0
 | false=>rw[show eJ false 4=be 4 (-1) from rfl,dx];omega
theorem gW {α β:Type}{x:dV α}{f:α->RS->dV β}{b:β}{r':RS}(h:x.bind f=.ok b r'):∃ a r,x=.ok a r/\f a r=.ok b r':=by
 cases x with
 | ok a r=>exact⟨a,r,rfl,h⟩
 | err=>cases h
 | stuck=>cases h
theorem iZ {l rest:Bs}{nl:Bool}(h:nl=true->l++rest=[])(hl:0<l.length):nl=false:=by
 cases nl with
 | false=>rfl
 | true=>
  have:=(List.append_eq_nil_iff.1 (h rfl)).1
  rw[this]at hl
  simp at hl
mutual
def pR (fx:Bool)(ver:Int):Ty->Bool
 | .struct none _ fs=>fx || posFds fx ver fs
 | _=>true
def posFds (fx:Bool)(ver:Int):Fds->Bool
 | .nil=>false
 | .cons lo hi tag _ _ ty r=>(tag.isNone&&ml lo hi ver&&pR fx ver ty) || posFds fx ver r
end
inductive Tr where
 | mk (n:Int) (s:Bs) (null:Bool) (l:List Tr) (u:List (UInt32 × Bs))
def Tr.num:Tr->Int | .mk n _ _ _ _=>n
def Tr.octets:Tr->Bs | .mk _ s _ _ _=>s
def Tr.null:Tr->Bool | .mk _ _ b _ _=>b
def Tr.list:Tr->List Tr|.mk _ _ _ l _=>l
def Tr.tags:Tr->List (Nat × Bs)|.mk _ _ _ _ u=>u.map λp=>(p.1.toNat,p.2)
def Tr.zero:Tr:=.mk 0 [] false [] []
def Tr.at (t:Tr)(i:Nat):Tr:=t.list.getD i .zero
inductive SFs where
 | nil
 | cons (kind:Nat) (lo hi nul tag df:Int) (of:Nat) (sub:SFs) (r:SFs)
def bX:Nat:=32767
def mb (lo hi ver:Int):Bool:=decide (lo<=ver)&&(decide (hi<0) || decide (ver<=hi))
def cF (nul ver:Int):Bool:=decide (0<=nul)&&decide (nul<=ver)
def da (kind:Nat):Nat:=if kind=1 then 1 else if kind=2 \/ kind=5 then 2 else if kind=3 then 4 else 8
def js (fx null:Bool)(n k:Nat):Bs:=if fx then(if null then[0]else uvar (n+1))else if null then be k (-1)else be k n
def gn (null:Bool)(l:Bs):Bs:=if null then[]else l.take bX
def gm (fx null:Bool)(k:Nat)(l:Bs):Bs:=js fx null (gn null l).length k++gn null l
def z6 (l:Bs):Bs:=l.take 16++List.replicate (16-l.length) 0
def gk (kind:Nat)(null fx:Bool)(pt:Tr->Bs)(t:Tr):Bs:=
 if kind=0 then[UInt8.ofNat (t.num%2).toNat]
 else if kind=7 then z6 t.octets
 else if kind=8 then gm fx null 2 t.octets
 else if kind=9 then gm fx null 4 t.octets
 else if kind=10 then pt t
 else be (da kind) t.num
def eR (null:Bool)(t:Tr):List Tr:=if null then[]else t.list.take bX
def fQ (kind:Nat)(nul:Int)(of:Nat)(ver:Int)(fx:Bool)(pt:Tr->Bs)(t:Tr):Bs:=
 if kind=11 then js fx (t.null&&cF nul ver) (eR (t.null&&cF nul ver) t).length 4++((eR (t.null&&cF nul ver) t).map (gk of false fx pt)).flatten
 else if kind=10/\0<=nul then(if(t.null&&cF nul ver)=true then[255]else 1::pt t)
 else gk kind (t.null&&cF nul ver) fx pt t
def dq (k:Nat)(v:Bs):List (Nat × Bs)->List (Nat × Bs)
 | []=>[(k,v)]
 | (j,u)::r=>if k<j then(k,v)::(j,u)::r else if k=j then(j,u)::r else(j,u)::dq k v r
def jo (least:Nat):List (Nat × Bs)->List (Nat × Bs)->List (Nat × Bs)
 | [],acc=>acc
 | (k,v)::r,acc=>jo least r (if k<least then acc else dq k v acc)
def eV (least:Nat)(l:List (Nat × Bs)):List (Nat × Bs):=jo least (l.take bX) []
def bH:SFs->Nat
 | .nil=>0
 | .cons _ _ _ _ tag _ _ _ r=>if 0<=tag then Nat.max (tag.toNat+1) (bH r)else bH r
def ct (kind:Nat)(nul df:Int)(us:Tr->Bool)(t:Tr):Bool:=
 if kind=0 then decide (t.num%2=df)
 else if kind=7 then(t.octets.take 16).all λb=>b==0
 else if kind=8 \/ kind=9 then(if 0<=nul then t.null else t.octets.isEmpty)
 else if kind=11 then t.list.isEmpty
 else if kind=10 then us t
 else decide (be (da kind) t.num=be (da kind) df)
def dR:SFs->Nat->Tr->Bool
 | .nil,_,_=>true
 | .cons kind _ _ nul _ df _ sub r,i,t=>ct kind nul df (λt=>dR sub 0 t&&(eV (bH sub) t.tags).isEmpty) (t.at i)&&dR r (i+1) t
def jT (p:Nat × Bs):Bs:=uvar p.1++(uvar p.2.length++p.2)
def dh (l:List (Nat × Bs)):Bs:=(l.map jT).flatten
def eY (n:Nat)(l:List (Nat × Bs)):List (Nat × Bs):=(List.range n).flatMap λk=>l.filter λp=>p.1==k
def iY (fx:Bool)(n:Nat)(tg:List (Nat × Bs))(u:List (Nat × Bs)):Bs:=
 if fx then uvar ((eY n tg).length+(eV n u).length)++(dh (eY n tg)++dh ((eV n u).map λp=>(p.1,p.2.take bX))) else[]
mutual
def ea (ver:Int)(fx:Bool):SFs->Nat->Tr->Bs
 | .nil,_,_=>[]
 | .cons kind lo hi nul tag _ of sub r,i,t=>
  (if tag<0/\mb lo hi ver=true then fQ kind nul of ver fx (λt=>ea ver fx sub 0 t++iY fx (bH sub) (sTgd ver fx sub 0 t) t.tags) (t.at i) else[])++ea ver fx r (i+1) t
def sTgd (ver:Int)(fx:Bool):SFs->Nat->Tr->List (Nat × Bs)
 | .nil,_,_=>[]
 | .cons kind _ _ nul tag df of sub r,i,t=>
  (if 0<=tag/\ct kind nul df (λt=>dR sub 0 t&&(eV (bH sub) t.tags).isEmpty) (t.at i)=false then
   [(tag.toNat,fQ kind nul of ver fx (λt=>ea ver fx sub 0 t++iY fx (bH sub) (sTgd ver fx sub 0 t) t.tags) (t.at i))] else[])++sTgd ver fx r (i+1) t
end
def bU (ver:Int)(fx:Bool)(fs:SFs)(t:Tr):Bs:=ea ver fx fs 0 t++iY fx (bH fs) (sTgd ver fx fs 0 t) t.tags
def fG:eH->Nat
 | .bool=>0|.i8=>1|.i16=>2|.i32=>3|.i64=>4|.u16=>5|.uuid=>7
def ji:eH->Int->Int
 | .bool,x=>x%2
 | .u16,x=>x%65536
 | .i8,x=>lr 8 (x%256).toNat
 | .i16,x=>lr 16 (x%65536).toNat
 | .i32,x=>lr 32 (x%4294967296).toNat
 | _,x=>lr 64 (x%18446744073709551616).toNat
def dH (n:Nat)(t:Tr):List (Nat × Bs):=(eV n t.tags).map λp=>(p.1,p.2.take bX)
def Ty.isList:Ty->Bool | .list _ _ _=>true|_=>false
theorem ta (m:Nat)(x:Int):∀ j,j<=m->be j (x%256^m)=be j x:=by
 intro j
 induction j with
 | zero=>intro _;rfl
 | succ j ih=>
  intro hj
  simp only[be]
  rw[ih aa]
  congr 2
  have hp:(256:Int)^m=256^j*(256*256^(m-j-1)):=by
   rw[<- Int.pow_succ',<- Int.pow_add]
   congr 1;omega
  rw[hp]
  have hk:(0:Int)<256^j:=Int.pow_pos aa
  have e1:x%(256^j*(256*256^(m-j-1)))=x+256^j*(-(256*(256^(m-j-1)*(x/(256^j*(256*256^(m-j-1))))))):=by
   rw[Int.emod_def,Int.mul_neg,<- Int.sub_eq_add_neg]
   simp only[Int.mul_assoc]
  rw[e1,Int.add_mul_ediv_left _ _ aa]
  generalize 256^(m-j-1)*(x/(256^j*(256*256^(m-j-1))))=t
  generalize x/256^j=y
  congr 1
  omega
theorem lK (k:Nat){x y:Int}(h:x%256^k=y%256^k):be k x=be k y:=by
 rw[<- ta k x k (ae _),h,ta k y k (ae _)]
def yX:PF->V->Prop
 | .bool,v=>v=.n 0 \/ v=.n 1
 | .i8,v=>∃ x:Int,v=.n x/\-128<=x/\x<128
 | .i16,v=>∃ x:Int,v=.n x/\-32768<=x/\x<32768
 | .u16,v=>∃ x:Int,v=.n x/\0<=x/\x<65536
 | .i32,v=>∃ x:Int,v=.n x/\-2147483648<=x/\x<2147483648
 | .i64,v=>∃ x:Int,v=.n x/\-9223372036854775808<=x/\x<9223372036854775808
 | .uuid,v=>∃ l:Bs,v=.s l/\l.length=16
 | .str,v=>∃ l:Bs,v=.s l/\l.length<=bX
 | .cstr,v=>∃ l:Bs,v=.s l/\l.length<=bX
 | .bytes,v=>∃ l:Bs,v=.s l/\l.length<=bX
 | .cbytes,v=>∃ l:Bs,v=.s l/\l.length<=bX
 | _,v=>v=.nul \/ ∃ l:Bs,v=.s l/\l.length<=bX
theorem lX (l rest:Bs)(k:Int)(hk:k=(l.length:Nat)):i6 k ⟨l++rest,false,false⟩=(.s l,⟨rest,false,false⟩):=by
 simp only[i6,gu l rest k hk,V.octets]
theorem mO (l:Bs):mP false l=be 2 l.length++l:=rfl
theorem oN {l:Bs}(h:l.length<=bX):mP true l=uvar (l.length+1)++l:=by
 have:f9 (l.length+1)=l.length+1:=by simp only[f9,bX]at *;omega
 simp only[mP,aw,this]
theorem li (l:Bs):kD false l=be 4 l.length++l:=rfl
theorem mQ {l:Bs}(h:l.length<=bX):kD true l=uvar (l.length+1)++l:=by
 have:f9 (l.length+1)=l.length+1:=by simp only[f9,bX]at *;omega
 simp only[kD,aw,this]
theorem Gs (p:PF)(v:V)(h:yX p v)(rest:Bs):p.run ⟨p.wr v++rest,false,false⟩=(v,⟨rest,false,false⟩):=by
 have i2:∀ {l:Bs},l.length<=bX->∀ r:Bs,rI 2 ⟨be 2 (l.length:Nat)++r,false,false⟩=((l.length:Int),⟨r,false,false⟩):=λ{l} hl r=>
  mg (k:=2) aa (by simp only[bX]at hl;simp only[Nat.reduceMul,Nat.reduceSub,Int.reducePow];omega) r false
 have i4:∀ {l:Bs},l.length<=bX->∀ r:Bs,rI 4 ⟨be 4 (l.length:Nat)++r,false,false⟩=((l.length:Int),⟨r,false,false⟩):=λ{l} hl r=>
  mg (k:=4) aa (by simp only[bX]at hl;simp only[Nat.reduceMul,Nat.reduceSub,Int.reducePow];omega) r false
 have u1:∀ {l:Bs},l.length<=bX->∀ r:Bs,bZ ⟨uvar (l.length+1)++r,false,false⟩=(l.length+1,⟨r,false,false⟩):=λ{l} hl r=>
  f8 (by simp only[bX]at hl;omega) r false
 cases p with
 | bool=>rcases h with rfl|rfl<;>simp[PF.run,PF.wr,pQ,V.num]
 | i8=>
  obtain⟨x,rfl,h1,h2⟩:=h
  simp only[PF.run,PF.wr,V.num]
  rw[mg (k:=1) aa (by simp only[Nat.reduceMul,Nat.reduceSub,Int.reducePow];omega)]
 | i16=>
  obtain⟨x,rfl,h1,h2⟩:=h
  simp only[PF.run,PF.wr,V.num]
  rw[mg (k:=2) aa (by simp only[Nat.reduceMul,Nat.reduceSub,Int.reducePow];omega)]
 | i32=>
  obtain⟨x,rfl,h1,h2⟩:=h
  simp only[PF.run,PF.wr,V.num]
  rw[mg (k:=4) aa (by simp only[Nat.reduceMul,Nat.reduceSub,Int.reducePow];omega)]
 | i64=>
  obtain⟨x,rfl,h1,h2⟩:=h
  simp only[PF.run,PF.wr,V.num]
  rw[mg (k:=8) aa (by simp only[Nat.reduceMul,Nat.reduceSub,Int.reducePow];omega)]
 | u16=>
  obtain⟨x,rfl,h1,h2⟩:=h
  obtain⟨n,rfl⟩:=Int.eq_ofNat_of_zero_le h1
  simp only[PF.run,PF.wr,V.num]
  rw[DM (k:=2) aa]
 | uuid=>
  obtain⟨l,rfl,h1⟩:=h
  show(if(l++rest).length<16 then(V.s (List.replicate 16 0),RS.fail) else(V.s ((l++rest).take 16),(⟨(l++rest).drop 16,false,false⟩:RS)))=_
  rw[al (by simp;omega)]
  rw[List.take_append_of_le_length aa,bg aa,List.take_of_length_le aa,bo aa]
  rfl
 | str=>
  obtain⟨l,rfl,hl⟩:=h
  simp only[PF.run,PF.wr,V.octets,mO,ao,i2 hl,lX l rest _ rfl]
 | cstr=>
  obtain⟨l,rfl,hl⟩:=h
  simp only[PF.run,PF.wr,V.octets,oN hl,ao,u1 hl]
  rw[lX l rest _ aa]
 | bytes=>
  obtain⟨l,rfl,hl⟩:=h
  simp only[PF.run,PF.wr,V.octets,li,ao,i4 hl]
  rw[al aa,gu l rest _ rfl]
 | cbytes=>
  obtain⟨l,rfl,hl⟩:=h
  simp only[PF.run,PF.wr,V.octets,mQ hl,ao,u1 hl]
  rw[al aa,gu l rest _ aa]
 | nstr=>
  rcases h with rfl|⟨l,rfl,hl⟩
  ·simp only[PF.run,PF.wr,V.isNul,aw]
   rw[show eJ false 2=be 2 (-1) from rfl,AL (.inl rfl)]
   rfl
  ·simp only[PF.run,PF.wr,V.octets,V.isNul,ag,ak,mO,ao,i2 hl]
   rw[al aa,lX l rest _ rfl]
 | cnstr=>
  rcases h with rfl|⟨l,rfl,hl⟩
  ·simp only[PF.run,PF.wr,V.isNul,aw]
   rw[show eJ true 2=uvar 0 from rfl,f8 aa]
   rfl
  ·simp only[PF.run,PF.wr,V.octets,V.isNul,ag,ak,oN hl,ao,u1 hl]
   rw[al aa,lX l rest _ aa]
 | nbytes=>
  rcases h with rfl|⟨l,rfl,hl⟩
  ·simp only[PF.run,PF.wr,V.isNul,aw]
   rw[show eJ false 4=be 4 (-1) from rfl,AL (.inr rfl)]
   rfl
  ·simp only[PF.run,PF.wr,V.octets,V.isNul,ag,ak,li,ao,i4 hl]
   rw[al aa,gu l rest _ rfl]
 | cnbytes=>
  rcases h with rfl|⟨l,rfl,hl⟩
  ·simp only[PF.run,PF.wr,V.isNul,aw]
   rw[show eJ true 4=uvar 0 from rfl,f8 aa]
   rfl
  ·simp only[PF.run,PF.wr,V.octets,V.isNul,ag,ak,mQ hl,ao,u1 hl]
   rw[al aa,gu l rest _ aa]
theorem E0 (p:PF)(v:V)(h:yX p v):0<(p.wr v).length:=by
 have a:∀ fx k,0<k->0<(eJ fx k).length:=λfx k hk=>by
  cases fx with
  | true=>exact fg 0
  | false=>simp only[eJ,ag,ak,dx];exact hk
 have b:∀ fx l,0<(mP fx l).length:=λfx l=>by
  cases fx with
  | true=>simp only[mP,aw,ad];have:=fg (f9 (l.length+1));omega
  | false=>rw[mO,ad,dx];omega
 have c:∀ fx l,0<(kD fx l).length:=λfx l=>by
  cases fx with
  | true=>simp only[kD,aw,ad];have:=fg (f9 (l.length+1));omega
  | false=>rw[li,ad,dx];omega
 cases p with
 | uuid=>obtain⟨l,rfl,hl⟩:=h;simp only[PF.wr,V.octets];omega
 | bool=>simp[PF.wr]
 | _=>
  simp only[PF.wr]
  first
   | exact b _ _
   | exact c _ _
   | (rw[dx];omega)
   | (split;exact a _ _ aa;exact b _ _)
   | (split;exact a _ _ aa;exact c _ _)
def kX (null:Bool)(l:Bs):V:=if null then .nul else .s (l.take bX)
theorem ii (l:Bs):(l.take bX).length<=bX:=by rw[aG];exact Nat.min_le_left ..
theorem zU (b fx null:Bool)(h:null=true->b=true)(l:Bs):(ej b fx).wr (kX null l)=gm fx null 2 l/\yX (ej b fx) (kX null l):=by
 have hl:=ii l
 cases null with
 | true=>
  obtain rfl:=h rfl
  cases fx<;>exact⟨by simp[ej,kX,PF.wr,V.isNul,eJ,gm,js,gn]<;>rfl,.inl rfl⟩
 | false=>
  cases b<;>cases fx
  ·exact⟨by simp[ej,kX,PF.wr,V.octets,mO,gm,js,gn],⟨_,rfl,hl⟩⟩
  ·exact⟨by simp only[ej,kX,PF.wr,V.octets,ag,ak,aw,oN hl,gm,js,gn],⟨_,rfl,hl⟩⟩
  ·exact⟨by simp[ej,kX,PF.wr,V.isNul,V.octets,mO,gm,js,gn],.inr ⟨_,rfl,hl⟩⟩
  ·exact⟨by simp only[ej,kX,PF.wr,V.isNul,V.octets,ag,ak,aw,oN hl,gm,js,gn],.inr ⟨_,rfl,hl⟩⟩
theorem tr (b fx null:Bool)(h:null=true->b=true)(l:Bs):(dm b fx).wr (kX null l)=gm fx null 4 l/\yX (dm b fx) (kX null l):=by
 have hl:=ii l
 cases null with
 | true=>
  obtain rfl:=h rfl
  cases fx<;>exact⟨by simp[dm,kX,PF.wr,V.isNul,eJ,gm,js,gn]<;>rfl,.inl rfl⟩
 | false=>
  cases b<;>cases fx
  ·exact⟨by simp[dm,kX,PF.wr,V.octets,li,gm,js,gn],⟨_,rfl,hl⟩⟩
  ·exact⟨by simp only[dm,kX,PF.wr,V.octets,ag,ak,aw,mQ hl,gm,js,gn],⟨_,rfl,hl⟩⟩
  ·exact⟨by simp[dm,kX,PF.wr,V.isNul,V.octets,li,gm,js,gn],.inr ⟨_,rfl,hl⟩⟩
  ·exact⟨by simp only[dm,kX,PF.wr,V.isNul,V.octets,ag,ak,aw,mQ hl,gm,js,gn],.inr ⟨_,rfl,hl⟩⟩
def jH:eH->Tr->V
 | .uuid,t=>.s (z6 t.octets)
 | p,t=>.n (ji p t.num)
theorem lT (l:Bs):(z6 l).length=16:=by simp only[z6,ad,aG,List.length_replicate];omega
theorem xm (p:eH)(null fx:Bool)(pt:Tr->Bs)(t:Tr):(cQ p).wr (jH p t)=gk (fG p) null fx pt t/\yX (cQ p) (jH p t):=by
 have sg:∀ (bits:Nat) (x:Int),bits=8 \/ bits=16 \/ bits=32 \/ bits=64->lr bits (x%2^bits).toNat%2^bits=x%2^bits/\-(2^(bits-1):Int)<=lr bits (x%2^bits).toNat/\lr bits (x%2^bits).toNat<2^(bits-1):=by
  intro bits x hb
  rcases hb with rfl|rfl|rfl|rfl<;>simp only[lr,Nat.reduceSub,Nat.reducePow,Int.reducePow]<;>split<;>omega
 cases p with
 | bool=>
  have h:t.num%2=0 \/ t.num%2=1:=by omega
  rcases h with h|h
  ·exact⟨by simp[cQ,jH,ji,PF.wr,V.num,gk,fG,h],.inl (by simp[jH,ji,h])⟩
  ·exact⟨by simp[cQ,jH,ji,PF.wr,V.num,gk,fG,h],.inr (by simp[jH,ji,h])⟩
 | uuid=>exact⟨by simp[cQ,jH,PF.wr,V.octets,gk,fG],⟨_,rfl,lT _⟩⟩
 | u16=>
  refine⟨?_,⟨_,rfl,by simp only[ji];omega,by simp only[ji];omega⟩⟩
  simp only[cQ,jH,PF.wr,V.num,ji,gk,fG,da]
  exact ta 2 t.num 2 (ae _)
 | i8=>
  have h:=sg 8 t.num aa
  refine⟨?_,⟨_,rfl,by simpa[ji]using h.2⟩⟩
  exact lK 1 (by simpa[V.num,jH,ji]using h.1)
 | i16=>
  have h:=sg 16 t.num aa
  refine⟨?_,⟨_,rfl,by simpa[ji]using h.2⟩⟩
  exact lK 2 (by simpa[V.num,jH,ji]using h.1)
 | i32=>
  have h:=sg 32 t.num aa
  refine⟨?_,⟨_,rfl,by simpa[ji]using h.2⟩⟩
  exact lK 4 (by simpa[V.num,jH,ji]using h.1)
 | i64=>
  have h:=sg 64 t.num aa
  refine⟨?_,⟨_,rfl,by simpa[ji]using h.2⟩⟩
  exact lK 8 (by simpa[V.num,jH,ji]using h.1)
