/-
  PLAIN LAWS AND CONTRACTS of messages, part 1.
-/
import Derived.StillTail
import Derived.ScopeJumps
import Derived.Deep.Quiet
import Derived.Laws.AppendOwn
import Derived.WalkKit
import Derived.MapFrom

namespace Go.Proofs.YtpoeajgpacfpoaaGreatDoor.Kx
open Go
abbrev Bs:=List UInt8
inductive cY where
 | bool|i8|i16|u16|i32|i64|uuid
 deriving DecidableEq
mutual
inductive Ty where
 | prim (p:cY)
 | str (nul:Option Nat)
 | bytes (nul:Option Nat)
 | list (nul:Option Nat) (esz:Nat) (e:Ty)
 | struct (nul:Option Nat) (toff:Option Nat) (fs:Fds)
inductive Fds where
 | nil
 | cons (lo:Nat) (hi:Option Nat) (tag:Option Nat) (df:Int) (off:Nat) (ty:Ty) (r:Fds)
end
inductive V where
 | nul
 | n (x:Int)
 | s (x:Bs)
 | l (xs:List V)
 | st (vs:List V) (tg:List (Nat × Bs))
def V.num:V->Int | .n x=>x|_=>0
def V.octets:V->Bs | .s x=>x|_=>[]
def V.list:V->List V|.l xs=>xs|_=>[]
def V.isNul:V->Bool | .nul=>true|_=>false
def V.fields:V->List V|.st vs _=>vs|_=>[]
def V.tags:V->List (Nat × Bs)|.st _ t=>t|_=>[]
def be:Nat->Int->Bs
 | 0,_=>[]
 | k+1,x=>UInt8.ofNat ((x/(256:Int)^k%256).toNat)::be k x
def cv (l:Bs):Nat:=l.foldl (fun a b=>a*256+b.toNat) 0
def kF (bits:Nat)(x:Nat):Int:=if x<2^(bits-1) then(x:Int) else(x:Int)-(2:Int)^bits
def c7:Nat->Nat->Bs
 | 0,x=>[UInt8.ofNat x]
 | f+1,x=>if x<128 then[UInt8.ofNat x]else UInt8.ofNat (x%128+128)::c7 f (x/128)
def uvar (x:Nat):Bs:=c7 9 x
structure RS where
 src:Bs
 bad:Bool
 nl:Bool
def RS.fail:RS:=⟨[],true,true⟩
def rU (k:Nat)(r:RS):Nat × RS:=
 if r.src.length<k then(0,.fail) else(cv (r.src.take k),⟨r.src.drop k,r.bad,r.nl⟩)
def rI (k:Nat)(r:RS):Int × RS:=(kF (8*k) (rU k r).1,(rU k r).2)
def qS (r:RS):Int × RS:=
 match r.src with
 | []=>(0,.fail)
 | b::t=>((if b.toNat=0 then 0 else 1),⟨t,r.bad,r.nl⟩)
def b8:Bs->Nat × Int
 | []=>(0,0)
 | a::l=>
  if a.toNat<128 then(a.toNat,1) else
  match l with
  | []=>(0,0)
  | b::l=>
   if b.toNat<128 then(a.toNat%128+b.toNat*128,2) else
   match l with
   | []=>(0,0)
   | c::l=>
    if c.toNat<128 then(a.toNat%128+b.toNat%128*128+c.toNat*16384,3) else
    match l with
    | []=>(0,0)
    | d::l=>
     if d.toNat<128 then(a.toNat%128+b.toNat%128*128+c.toNat%128*16384+d.toNat*2097152,4) else
     match l with
     | []=>(0,0)
     | e::_=>if e.toNat<=15 then(a.toNat%128+b.toNat%128*128+c.toNat%128*16384+d.toNat%128*2097152+e.toNat*268435456,5) else(0,-5)
def b5 (r:RS):Nat × RS:=
 if(b8 r.src).2<=0 then(0,.fail) else((b8 r.src).1,⟨r.src.drop (b8 r.src).2.toNat,r.bad,r.nl⟩)
def bt (k:Int)(r:RS):V × RS:=
 if(r.src.length:Int)<k \/ k<0 then(.nul,.fail)
 else(if r.nl then .nul else .s (r.src.take k.toNat),⟨r.src.drop k.toNat,r.bad,r.nl⟩)
def mo (k:Int)(r:RS):V × RS:=(.s (bt k r).1.octets,(bt k r).2)
inductive PF where
 | bool|i8|i16|u16|i32|i64|uuid|str|cstr|nstr|cnstr|bytes|cbytes|nbytes|cnbytes
 deriving DecidableEq
def PF.run:PF->RS->V × RS
 | .bool,r=>(.n (qS r).1,(qS r).2)
 | .i8,r=>(.n (rI 1 r).1,(rI 1 r).2)
 | .i16,r=>(.n (rI 2 r).1,(rI 2 r).2)
 | .u16,r=>(.n (rU 2 r).1,(rU 2 r).2)
 | .i32,r=>(.n (rI 4 r).1,(rI 4 r).2)
 | .i64,r=>(.n (rI 8 r).1,(rI 8 r).2)
 | .uuid,r=>if r.src.length<16 then(.s (List.replicate 16 0),.fail) else(.s (r.src.take 16),⟨r.src.drop 16,r.bad,r.nl⟩)
 | .str,r=>mo (rI 2 r).1 (rI 2 r).2
 | .cstr,r=>mo ((b5 r).1-1:Int) (b5 r).2
 | .nstr,r=>if(rI 2 r).1<0 then(.nul,(rI 2 r).2)else mo (rI 2 r).1 (rI 2 r).2
 | .cnstr,r=>if((b5 r).1-1:Int)<0 then(.nul,(b5 r).2)else mo ((b5 r).1-1:Int) (b5 r).2
 | .bytes,r=>if(rI 4 r).1=-1 then(.s [],(rI 4 r).2)else bt (rI 4 r).1 (rI 4 r).2
 | .cbytes,r=>if((b5 r).1-1:Int)=-1 then(.s [],(b5 r).2)else bt ((b5 r).1-1:Int) (b5 r).2
 | .nbytes,r=>if(rI 4 r).1<0 then(.nul,(rI 4 r).2)else bt (rI 4 r).1 (rI 4 r).2
 | .cnbytes,r=>if((b5 r).1-1:Int)<0 then(.nul,(b5 r).2)else bt ((b5 r).1-1:Int) (b5 r).2
def cW (x:Int):Int:=(x+2147483648)%4294967296-2147483648
def cA (fx:Bool)(r:RS):Int × RS:=
 let p:Int × RS:=if fx then(cW (cW (b5 r).1-1),(b5 r).2)else rI 4 r
 if(p.2.src.length:Int)<p.1 then(0,.fail)else p
def cp (k:Nat)(v:Bs):List (Nat × Bs)->List (Nat × Bs)
 | []=>[(k,v)]
 | (j,u)::r=>if k<j then(k,v)::(j,u)::r else if k=j then(k,v)::r else(j,u)::cp k v r
def fz:Nat->List (Nat × Bs)->RS->List (Nat × Bs) × RS
 | 0,t,r=>(t,r)
 | n+1,t,r=>
  let k:=b5 r
  let z:=b5 k.2
  let s:=bt z.1 z.2
  fz n (cp k.1 s.1.octets t) s.2
inductive jq (α:Type) where
 | ok (a:α) (r:RS)
 | err
 | stuck
def jq.bind {α β:Type}(x:jq α)(f:α->RS->jq β):jq β:=
 match x with
 | .ok a r=>f a r
 | .err=>.err
 | .stuck=>.stuck
def fi (f:RS->jq V):Nat->RS->jq (List V)
 | 0,r=>.ok [] r
 | n+1,r=>(f r).bind fun v r=>(fi f n r).bind fun vs r=>.ok (v::vs) r
def has (lo:Nat)(hi:Option Nat)(ver:Int):Bool:=match hi with|some h=>decide ((lo:Int)<=ver)&&decide (ver<=(h:Int))|none=>decide (lo=0) || decide ((lo:Int)<=ver)
def ce (nul:Option Nat)(ver:Int):Bool:=match nul with|some m=>decide (m=0) || decide ((m:Int)<=ver)|none=>false
def eJ (nul:Option Nat)(ver:Int):Bool:=match nul with|some m=>decide ((m:Int)<=ver)|none=>false
def bI:cY->PF
 | .bool=>.bool|.i8=>.i8|.i16=>.i16|.u16=>.u16|.i32=>.i32|.i64=>.i64|.uuid=>.uuid
def cC (nul fx:Bool):PF:=if nul then(if fx then .cnstr else .nstr) else(if fx then .cstr else .str)
def bR (nul fx:Bool):PF:=if nul then(if fx then .cnbytes else .nbytes) else(if fx then .cbytes else .bytes)
def qB:Bs:=List.replicate 16 0
mutual
def eV (df:Int):Ty->V
 | .prim .uuid=>.s qB
 | .prim _=>.n df
 | .str none=>.s []
 | .str (some _)=>.nul
 | .bytes _=>.nul
 | .list _ _ _=>.nul
 | .struct none _ fs=>.st (dfFds fs) []
 | .struct (some _) _ _=>.nul
def dfFds:Fds->List V
 | .nil=>[]
 | .cons _ _ _ df _ ty r=>eV df ty::dfFds r
end
def Fds.knows:Fds->Nat->Bool
 | .nil,_=>false
 | .cons _ _ t _ _ _ r,k=>t==some k || r.knows k
def Fds.tagged:Fds->Bool
 | .nil=>false
 | .cons _ _ t _ _ _ r=>t.isSome || r.tagged
def dG (f:Nat->Option (List V->RS->jq (List V))):Nat->List V->List (Nat × Bs)->RS->jq V
 | 0,vs,t,r=>.ok (.st vs t) r
 | n+1,vs,t,r=>
  let k:=b5 r
  let z:=b5 k.2
  let s:=bt z.1 z.2
  match f k.1 with
  | none=>dG f n vs (cp k.1 s.1.octets t) s.2
  | some g=>
   match g vs ⟨s.1.octets,false,s.1.isNul⟩ with
   | .ok vs' r'=>if r'.bad then .err else dG f n vs' t s.2
   | .err=>.err
   | .stuck=>.stuck
def ll (l:Int)(esz:Nat):Bool:=decide (l*(24*esz+8)<=70368744177664)
def gJ (fx tagged:Bool)(fields:RS->jq (List V))(tag:Nat->Option (List V->RS->jq (List V)))(r:RS):jq V:=
 (fields r).bind fun vs r=>
  if !fx then .ok (.st vs []) r
  else if tagged then dG tag (b5 r).1 vs [] (b5 r).2
  else .ok (.st vs (fz (b5 r).1 [] (b5 r).2).1) (fz (b5 r).1 [] (b5 r).2).2
mutual
def e9 (fx:Bool)(ver:Int):Ty->V->RS->jq V
 | .prim p,_,r=>.ok ((bI p).run r).1 ((bI p).run r).2
 | .str nul,_,r=>.ok ((cC (ce nul ver) fx).run r).1 ((cC (ce nul ver) fx).run r).2
 | .bytes nul,_,r=>.ok ((bR (ce nul ver) fx).run r).1 ((bR (ce nul ver) fx).run r).2
 | .list nul esz e,old,r=>
  if !old.isNul then .stuck else
  if(cA fx r).2.bad then .err else
  if !ll (cA fx r).1 esz then .stuck else
  if(cA fx r).1<=0 then .ok (if nul.isSome&&(decide ((cA fx r).1=0) || !eJ nul ver)then .l []else .nul) (cA fx r).2
  else(fi (e9 fx ver e (eV 0 e)) (cA fx r).1.toNat (cA fx r).2).bind fun vs r=>.ok (.l vs) r
 | .struct none _ fs,_,r=>gJ fx fs.tagged (rdFds fx ver fs) (rdTag fx ver fs) r
 | .struct (some _) _ fs,old,r=>
  if !old.isNul then .stuck else
  if(rI 1 r).1=-1 \/ (rI 1 r).2.bad=true then .ok .nul (rI 1 r).2 else gJ fx fs.tagged (rdFds fx ver fs) (rdTag fx ver fs) (rI 1 r).2
def rdFds (fx:Bool)(ver:Int):Fds->RS->jq (List V)
 | .nil,r=>.ok [] r
 | .cons lo hi tag df _ ty rest,r=>
  if tag.isNone&&has lo hi ver then
   (e9 fx ver ty (eV df ty) r).bind fun v r=>(rdFds fx ver rest r).bind fun vs r=>.ok (v::vs) r
  else(rdFds fx ver rest r).bind fun vs r=>.ok (eV df ty::vs) r
def rdTag (fx:Bool)(ver:Int):Fds->Nat->Option (List V->RS->jq (List V))
 | .nil,_=>none
 | .cons _ _ tag _ _ ty rest,k=>
  if tag==some k then some fun vs r=>(e9 fx ver ty (vs.headD .nul) r).bind fun v r=>.ok (v::vs.tail) r
  else(rdTag fx ver rest k).map fun g vs r=>(g vs.tail r).bind fun vs' r=>.ok (vs.headD .nul::vs') r
end
def dj (n:Nat):Nat:=n%4294967296
def kO (fx:Bool)(l:Bs):Bs:=if fx then uvar (dj (l.length+1))++l else be 2 l.length++l
def iU (fx:Bool)(l:Bs):Bs:=if fx then uvar (dj (l.length+1))++l else be 4 l.length++l
def cf (fx:Bool)(k:Nat):Bs:=if fx then uvar 0 else be k (-1)
def fe (fx:Bool)(n:Nat):Bs:=if fx then uvar (dj (n+1))else be 4 n
def PF.wr:PF->V->Bs
 | .bool,v=>[if v.num=0 then 0 else 1]
 | .i8,v=>be 1 v.num
 | .i16,v=>be 2 v.num
 | .u16,v=>be 2 v.num
 | .i32,v=>be 4 v.num
 | .i64,v=>be 8 v.num
 | .uuid,v=>v.octets
 | .str,v=>kO false v.octets
 | .cstr,v=>kO true v.octets
 | .nstr,v=>if v.isNul then cf false 2 else kO false v.octets
 | .cnstr,v=>if v.isNul then cf true 2 else kO true v.octets
 | .bytes,v=>iU false v.octets
 | .cbytes,v=>iU true v.octets
 | .nbytes,v=>if v.isNul then cf false 4 else iU false v.octets
 | .cnbytes,v=>if v.isNul then cf true 4 else iU true v.octets
def cN (fx:Bool)(ver:Int):Ty->PF
 | .prim p=>bI p
 | .str nul=>cC (ce nul ver) fx
 | .bytes nul=>bR nul.isSome fx
 | _=>.bool
def dm (p:Nat × Bs):Bs:=uvar p.1++(uvar (dj p.2.length)++p.2)
def bQ (t:List (Nat × Bs)):Bs:=(t.map dm).flatten
def bH (fx:Bool)(t:List (Nat × Bs)):Bs:=if fx then uvar (dj t.length)++bQ t else[]
def fy (fx:Bool)(tg t:List (Nat × Bs)):Bs:=if fx then uvar (dj (tg.length+t.length))++(bQ tg++bQ t) else[]
theorem i9 (fx:Bool)(t:List (Nat × Bs)):fy fx [] t=bH fx t:=by simp[fy,bH,bQ]
def qg:Ty->Int->V->Bool
 | .prim .uuid,_,v=>v.octets.all fun b=>b==0
 | .prim _,df,v=>v.num==df
 | .str none,_,v=>v.octets.isEmpty
 | .str (some _),_,v=>v.isNul
 | .bytes _,_,v=>v.isNul
 | _,_,_=>false
def nZ:Fds->List V->Bool
 | .nil,_=>true
 | .cons _ _ _ df _ ty r,vs=>qg ty df (vs.headD .nul)&&nZ r vs.tail
def lw:Ty->Int->V->Bool
 | .list _ _ _,_,v=>v.list.isEmpty
 | .struct none _ fs,_,v=>nZ fs v.fields&&v.tags.isEmpty
 | .struct (some _) _ _,_,v=>v.isNul
 | ty,df,v=>qg ty df v
def iA (f:V->Bs)(l:List V):Bs:=(l.map f).flatten
mutual
def bL (fx:Bool)(ver:Int):Ty->V->Bs
 | .prim p,v=>(cN fx ver (.prim p)).wr v
 | .str nul,v=>(cN fx ver (.str nul)).wr v
 | .bytes nul,v=>(cN fx ver (.bytes nul)).wr v
 | .list nul _ e,v=>(if ce nul ver&&v.isNul then cf fx 4 else fe fx v.list.length)++iA (bL fx ver e) v.list
 | .struct none _ fs,v=>wrFds fx ver fs v.fields++fy fx (wrTgd fx ver fs v.fields) v.tags
 | .struct (some _) _ fs,v=>if v.isNul then[255]else 1::(wrFds fx ver fs v.fields++fy fx (wrTgd fx ver fs v.fields) v.tags)
def wrFds (fx:Bool)(ver:Int):Fds->List V->Bs
 | .nil,_=>[]
 | .cons lo hi tag _ _ ty r,vs=>(if tag.isNone&&has lo hi ver then bL fx ver ty (vs.headD .nul) else[])++wrFds fx ver r vs.tail
def wrTgd (fx:Bool)(ver:Int):Fds->List V->List (Nat × Bs)
 | .nil,_=>[]
 | .cons _ _ tag df _ ty r,vs=>(match tag with|some k=>if lw ty df (vs.headD .nul) then[] else[(k,bL fx ver ty (vs.headD .nul))]|none=>[])++wrTgd fx ver r vs.tail
end
theorem eW (fx:Bool)(ver:Int):∀ (fs:Fds) (vs:List V),fs.tagged=false->wrTgd fx ver fs vs=[]
 | .nil,_,_=>by simp only[wrTgd]
 | .cons _ _ tag _ _ _ r,vs,h=>by
  simp only[Fds.tagged,Bool.or_eq_false_iff]at h
  cases tag with
  | some _=>cases h.1
  | none=>simp only[wrTgd,eW fx ver r vs.tail h.2,List.append_nil]
def dD (kept hf:Bool)(flex:Nat)(fs:Fds)(ver:Int)(v:V):Bs:=
 (if kept then be 2 ver else[])++(wrFds (hf&&decide ((flex:Int)<=ver)) ver fs v.fields++fy (hf&&decide ((flex:Int)<=ver)) (wrTgd (hf&&decide ((flex:Int)<=ver)) ver fs v.fields) v.tags)
def fQ (o:Oper):List Nat:=o.op.operands.toList.filterMap fun|.tmp t=>some t|_=>none
def tz (o:Oper):Bool:=
 match o.op with
 | .move _|.pick ..|.build ..|.load ..|.nilCheck _|.binOp ..|.unOp ..|.convert ..|.slice ..|.fieldAddr ..|.field ..|.indexAddr ..|.index ..|.extract ..=>false
 | .call c=>match c.callee with|.builtin .len=>false|_=>true
 | _=>true
def dq (ops:List Oper):List Bool:=
 ops.foldl (fun(acc:List Bool) o=>acc++[tz o || (acc.zip ops).any fun p=>p.1&&(match p.2.dst with|some d=>(fQ o).contains d|none=>false)]) []
def ji (o:Oper)(j:Nat):Bool:=o.after.any fun e=>Region.binds .any e&&e.on==j
def ro (o:Oper):Bool:=match o.op with|.select ..=>true|_=>false
def r7 (ops:List Oper)(loud:List Bool):Bool:=
 (ops.all fun o=>o.guard.isNone&&!ro o)&&loud.length==ops.length &&
 ((List.range ops.length).all fun i=>
  match ops[i]?,loud[i]? with
  | some o,some l=>
   (l || (match o.dst with|some d=>!(fQ o).contains d|none=>false))&&(o.after.all fun e=>!Region.binds .any e || decide (e.on<i)) &&
   ((List.range ops.length).all fun j=>
    match ops[j]?,loud[j]? with
    | some p,some m=>
     decide (i=j) ||
     ((match p.dst with
      | some d=>
       (!(fQ o).contains d || (!m&&decide (j<i)&&ji o j) || (m&&(l || ji p i))) &&
       (l || o.dst != some d)
      | none=>true) &&
     (!(l&&m&&decide (j<i)) || ji o j || (List.range ops.length).any fun k=>decide (j<k)&&decide (k<i)&&(loud[k]?).getD false))
    | _,_=>false)
  | _,_=>false)
section
variable {P:Program}
def eT (P:Program)(I:World->Prop):List Oper->Act->(Act->Prop)->Prop
 | [],a,K=>K a
 | o::r,a,K=>∃ v,(∀ w,I w->(execOp a.eval o).run P w=.ok (.value v) w)/\eT P I r (a.put o.dst v) K
def eg (P:Program)(I:World->Prop)(Q:Exit->Act->World->Prop):List Oper->Act->World->Prop
 | [],a,w=>I w/\Q .normal a w
 | o::r,a,w=>I w/\o.wp P a w (eg P I Q r) (fun _ _ _=>False)
theorem Bw {I:World->Prop}{Q:Exit->Act->World->Prop}{l:List Oper}{a:Act}{w:World}(h:eg P I Q l a w):I w:=by
 cases l<;>exact h.1
theorem l6 (o:Oper)(hs:ro o=false)(a b:Act)(h:∀ t∈fQ o,a.tmps.getD t undef=b.tmps.getD t undef):execOp a.eval o=execOp b.eval o:=by
 refine execOp_congr o (fun cs bl hc=>by simp[ro,hc]at hs) fun x hx=>?_
 cases x with
 | tmp t=>exact h t (List.mem_filterMap.2 ⟨.tmp t,by simpa using hx,rfl⟩)
 | _=>rfl
theorem fm (a:Act)(d:Option Nat)(v:Value)(t:Nat)(h:d≠some t):(a.put d v).tmps.getD t undef=a.tmps.getD t undef:=by
 cases d with
 | none=>rfl
 | some d=>
  have:d≠t:=fun e=>h (by rw[e])
  simp[Act.put,Array.getElem?_setIfInBounds_ne this]
theorem oU (a b:Act)(Ii:a.tmps.size=b.tmps.size)(d:Option Nat)(v:Value)(t:Nat)(h:d=some t \/ a.tmps.getD t undef=b.tmps.getD t undef) :
  (a.put d v).tmps.getD t undef=(b.put d v).tmps.getD t undef:=by
 by_cases hd:d=some t
 ·subst hd
  simp[Act.put,Array.getElem?_setIfInBounds,Ii]
 ·rw[fm a d v t hd,fm b d v t hd]
  exact h.resolve_left hd
theorem mU {o:Oper}(hs:ro o=false){a b:Act}{w:World}{K K':Act->World->Prop}{Q':Exit->Act->World->Prop}(h:∀ t∈fQ o,a.tmps.getD t undef=b.tmps.getD t undef)
  (hd:a.defers=b.defers) (hK:∀ ds v w',K (({ a with defers:=ds }:Act).put o.dst v) w'->K' (({ b with defers:=ds }:Act).put o.dst v) w')
  (hh:o.wp P a w K (fun _ _ _=>False)):o.wp P b w K' Q':=by
 unfold Oper.wp at *
 rw[<- l6 o hs a b h]
 generalize(execOp a.eval o).run P w=r at *
 have Uc:∀ v w',K (a.put o.dst v) w'->K' (b.put o.dst v) w':=fun v w' hk=>by
  have:=hK a.defers v w' hk
  rw[hd]at this
  exact this
 cases r with
 | ok n w'=>
  cases n with
  | value v=>exact Uc v w' hh
  | skip=>exact Uc undef w' hh
  | enter f args=>
   refine Calls.mono hh fun e w'' he=>?_
   cases e with
   | returned v=>exact Uc v w'' he
   | panicked c=>exact he.elim
   | outgrown=>obtain⟨_,_,hf⟩:=he;exact hf.elim
  | row row args=>exact Rows.mono hh fun v w'' he=>Uc v w'' he
  | defer d=>
   have:=hK (d::a.defers) undef w' hh
   rw[hd]at this
   exact this
  | _=>exact hh.elim
 | halt x w'=>
  cases x<;>exact hh.elim
structure H7 (ops:List Oper)(loud:List Bool)(a0:Act)(af:Act)(n:Nat)(listed:Array Bool)(a:Act):Prop where
 size:listed.size=ops.length
 asz:a.tmps.size=af.tmps.size
 defers:a.defers=af.defers
 chain:∀ i:Nat,loud[i]?=some true->(listed.getD i false=true ↔ i<n)
 closed:∀ (i:Nat) o,ops[i]?=some o->listed.getD i false=true->∀ j,ji o j=true->listed.getD j false=true
 agree:∀ t,(∀ (i:Nat) o,ops[i]?=some o->loud[i]?=some false->listed.getD i false=false->o.dst≠some t)->a.tmps.getD t undef=af.tmps.getD t undef
 orig:∀ t,(∀ (i:Nat) o,ops[i]?=some o->listed.getD i false=true->o.dst≠some t)->a.tmps.getD t undef=a0.tmps.getD t undef
structure t8 (ops:List Oper)(loud:List Bool):Prop where
 len:loud.length=ops.length
 guard:∀ (i:Nat) (o:Oper),ops[i]?=some o->o.guard=none/\ro o=false
 hasDst:∀ (i:Nat) (o:Oper),ops[i]?=some o->loud[i]?=some false->∃ d,o.dst=some d/\d∉fQ o
 lower:∀ (i:Nat) (o:Oper),ops[i]?=some o->∀ j,ji o j=true->j<i
 reads:∀ (i:Nat) (o:Oper) (j:Nat) (p:Oper) (d:Nat),ops[i]?=some o->ops[j]?=some p->i≠j->p.dst=some d->d∈fQ o ->
  (loud[j]?=some false/\j<i/\ji o j=true) \/ (loud[j]?=some true/\(loud[i]?=some true \/ ji p i=true))
 apart:∀ (i:Nat) (o:Oper) (j:Nat) (p:Oper) (d:Nat),ops[i]?=some o->ops[j]?=some p->i≠j->p.dst=some d->loud[i]?=some false->o.dst≠some d
 chain:∀ (i:Nat) (o:Oper) (j:Nat),ops[i]?=some o->loud[i]?=some true->loud[j]?=some true->j<i->ji o j=true \/ ∃ k:Nat,j<k/\k<i/\loud[k]?=some true
theorem yY {ops:List Oper}{loud:List Bool}(h:r7 ops loud=true):t8 ops loud:=by
 simp only[r7,Bool.and_eq_true,List.all_eq_true,List.mem_range,beq_iff_eq]at h
 obtain⟨⟨hg,hl⟩,hh⟩:=h
 have key:∀ (i:Nat) (o:Oper),ops[i]?=some o->∃ l,loud[i]?=some l:=by
  intro i o ho
  have:i<loud.length:=by rw[hl];exact(List.getElem?_eq_some_iff.1 ho).1
  exact⟨_,List.getElem?_eq_getElem this⟩
 have row:∀ (i:Nat) (o:Oper) (l:Bool),ops[i]?=some o->loud[i]?=some l->_:=fun i o l ho Jk=>by
  have h1:=hh i (List.getElem?_eq_some_iff.1 ho).1
  rw[ho,Jk]at h1
  simp only[Bool.and_eq_true,List.all_eq_true,List.mem_range]at h1
  exact h1
 have cell:∀ (i:Nat) (o:Oper) (l:Bool) (j:Nat) (p:Oper) (m:Bool),ops[i]?=some o->loud[i]?=some l->ops[j]?=some p->loud[j]?=some m->_:=fun i o l j p m ho Jk hp hm=>by
  have h1:=(row i o l ho Jk).2 j (List.getElem?_eq_some_iff.1 hp).1
  rw[hp,hm]at h1
  exact h1
 refine⟨hl,fun i o ho=>?_,fun i o ho Jk=>?_,fun i o ho j hw=>?_,fun i o j p d ho hp Jy hd hr=>?_,fun i o j p d ho hp Jy hd Jk=>?_,fun i o j ho Jk J6 QS=>?_⟩
 ·have:=hg o (List.mem_of_getElem? ho)
  simpa[Option.isNone_iff_eq_none]using this
 ·have:=(row i o false ho Jk).1.1
  cases hd:o.dst with
  | none=>rw[hd]at this;simp at this
  | some d=>rw[hd]at this;exact⟨d,rfl,by simpa using this⟩
 ·obtain⟨l,Jk⟩:=key i o ho
  have h1:=(row i o l ho Jk).1.2
  unfold ji at hw
  obtain⟨e,he,hb⟩:=Array.any_eq_true'.1 hw
  simp only[Bool.and_eq_true,beq_iff_eq]at hb
  have h2:=Array.all_eq_true'.1 h1 e he
  simp only[hb.1,Bool.not_true,Bool.false_or,decide_eq_true_eq]at h2
  omega
 ·obtain⟨l,Jk⟩:=key i o ho
  obtain⟨m,Of⟩:=key j p hp
  have h1:=cell i o l j p m ho Jk hp Of
  simp only[hd,Jy,decide_false,Bool.false_or,Bool.and_eq_true,Bool.or_eq_true,List.contains_eq_mem,hr,decide_true,Bool.not_true,Bool.not_eq_true',decide_eq_true_eq]at h1
  rcases h1.1.1 with⟨⟨h2,h3⟩,h4⟩|⟨h2,h3⟩
  ·subst h2;exact .inl ⟨Of,h3,h4⟩
  ·subst h2
   refine .inr ⟨Of,?_⟩
   rcases h3 with h3|h3
   ·subst h3;exact .inl Jk
   ·exact .inr h3
 ·obtain⟨m,Of⟩:=key j p hp
  have h1:=cell i o false j p m ho Jk hp Of
  simp only[hd,Jy,decide_false,Bool.false_or,Bool.and_eq_true]at h1
  simpa using h1.1.2
 ·have JF:j<ops.length:=by rw[<- hl];exact(List.getElem?_eq_some_iff.1 J6).1
  have hp:ops[j]?=some ops[j]:=List.getElem?_eq_getElem JF
  have h1:=cell i o true j _ true ho Jk hp J6
  have Jy:i≠j:=by omega
  simp only[Jy,decide_false,Bool.false_or,Bool.and_eq_true,QS,decide_true,Bool.not_true,Bool.or_eq_true,Bool.true_and]at h1
  rcases h1.2 with h2|h2
  ·exact .inl h2
  ·obtain⟨k,hk,Ic⟩:=List.any_eq_true.1 h2
   simp only[Bool.and_eq_true,decide_eq_true_eq]at Ic
   refine .inr ⟨k,Ic.1.1,Ic.1.2,?_⟩
   cases hc:loud[k]? with
   | none=>rw[hc]at Ic;simp at Ic
   | some x=>rw[hc]at Ic;simp at Ic;rw[Ic.2]
def EB (P:Program)(I:World->Prop)(ops:List Oper)(loud:List Bool)(a0 af:Act):Prop:=
 ∀ (i:Nat) (o:Oper),ops[i]?=some o->loud[i]?=some false->∃ v,(∀ b:Act,b.tmps.size=af.tmps.size->∀ d,o.dst=some d->(b.put o.dst v).tmps.getD d undef=af.tmps.getD d undef) /\
  ∀ w,I w->∀ b:Act,(∀ t∈fQ o,(∃ (j:Nat) (p:Oper),ops[j]?=some p/\loud[j]?=some false/\p.dst=some t)->b.tmps.getD t undef=af.tmps.getD t undef) ->
   (∀ t∈fQ o,(¬ ∃ (j:Nat) (p:Oper),ops[j]?=some p/\loud[j]?=some false/\p.dst=some t)->b.tmps.getD t undef=a0.tmps.getD t undef)->(execOp b.eval o).run P w=.ok (.value v) w
def cR:List Oper->List Bool->List Oper
 | o::r,l::m=>if l then cR r m else o::cR r m
 | _,_=>[]
def bZ:List Oper->List Bool->List Oper
 | o::r,l::m=>if l then o::bZ r m else bZ r m
 | _,_=>[]
theorem tq {I:World->Prop}{ops:List Oper}{loud:List Bool}(hd:t8 ops loud)(a0:Act)(K:Act->Prop):∀ (r:List Oper) (m:List Bool) (k:Nat) (a:Act),r.length=m.length ->
  (∀ i,r[i]?=ops[k+i]?)->(∀ i,m[i]?=loud[k+i]?)->(∀ t,(∀ (j:Nat) (p:Oper),j<k->ops[j]?=some p->loud[j]?=some false->p.dst≠some t)->a.tmps.getD t undef=a0.tmps.getD t undef) ->
  eT P I (cR r m) a K ->
  ∃ af,K af/\af.tmps.size=a.tmps.size/\af.defers=a.defers/\(∀ t,(∀ (j:Nat) (p:Oper),k<=j->ops[j]?=some p->loud[j]?=some false->p.dst≠some t)->af.tmps.getD t undef=a.tmps.getD t undef) /\
   (∀ (i:Nat) (o:Oper),k<=i->ops[i]?=some o->loud[i]?=some false->∃ v,(∀ b:Act,b.tmps.size=af.tmps.size->∀ d,o.dst=some d->(b.put o.dst v).tmps.getD d undef=af.tmps.getD d undef) /\
    ∀ w,I w->∀ b:Act,(∀ t∈fQ o,(∃ (j:Nat) (p:Oper),ops[j]?=some p/\loud[j]?=some false/\p.dst=some t)->b.tmps.getD t undef=af.tmps.getD t undef) ->
     (∀ t∈fQ o,(¬ ∃ (j:Nat) (p:Oper),ops[j]?=some p/\loud[j]?=some false/\p.dst=some t)->b.tmps.getD t undef=a0.tmps.getD t undef)->(execOp b.eval o).run P w=.ok (.value v) w)
 | [],m,k,a,hl,hr,_,_,h=>by
  obtain rfl:m=[]:=by cases m;rfl;simp at hl
  refine⟨a,h,rfl,rfl,fun _ _=>rfl,fun i o hi ho=>?_⟩
  have:=hr (i-k)
  rw[show k+(i-k)=i by omega,ho]at this
  simp at this
 | o::r,l::m,k,a,hl,hr,hm,ha,h=>by
  have ho:ops[k]?=some o:=by have:=hr 0;simpa using this.symm
  have RM:loud[k]?=some l:=by have:=hm 0;simpa using this.symm
  have QJ:∀ i,r[i]?=ops[k+1+i]?:=fun i=>by have:=hr (i+1);simp only[List.getElem?_cons_succ]at this;rw[this];congr 1;omega
  have PU:∀ i,m[i]?=loud[k+1+i]?:=fun i=>by have:=hm (i+1);simp only[List.getElem?_cons_succ]at this;rw[this];congr 1;omega
  cases l with
  | true=>
   simp only[cR,if_true]at h
   obtain⟨af,h1,h2,h3,h4,h5⟩:=tq hd a0 K r m (k+1) a (by simpa using hl) QJ PU (fun t ht=>ha t fun j p hj hp J6=>ht j p (by omega) hp J6) h
   refine⟨af,h1,h2,h3,fun t ht=>h4 t fun j p hj=>ht j p (by omega),fun i o' hi QM NB=>h5 i o' ?_ QM NB⟩
   rcases Nat.lt_or_ge k i with hk|hk
   ·exact hk
   ·obtain rfl:i=k:=by omega
    rw[RM]at NB;cases NB
  | false=>
   simp only[cR]at h
   obtain⟨v,hv,h⟩:=h
   obtain⟨d,Jz,N1⟩:=hd.hasDst k o ho RM
   obtain⟨af,h1,h2,h3,h4,h5⟩:=tq hd a0 K r m (k+1) (a.put o.dst v) (by simpa using hl) QJ PU (fun t ht=>by
    rw[fm _ _ _ _ (ht k o (by omega) ho RM)]
    exact ha t fun j p hj hp J6=>ht j p (by omega) hp J6) h
   have Ii:(a.put o.dst v).tmps.size=a.tmps.size:=by rw[Jz];simp[Act.put]
   have I4:(a.put o.dst v).defers=a.defers:=by rw[Jz];rfl
   have PY:∀ (j:Nat) (p:Oper),k+1<=j->ops[j]?=some p->loud[j]?=some false->p.dst≠some d:=fun j p hj hp J6 Ll=>
    hd.apart j p k o d hp ho (by omega) Jz J6 Ll
   refine⟨af,h1,h2.trans Ii,h3.trans I4,fun t ht=>?_,fun i o' hi QM NB=>?_⟩
   ·rw[h4 t fun j p hj=>ht j p (by omega),fm _ _ _ _ (ht k o (Nat.le_refl _) ho RM)]
   ·rcases Nat.lt_or_ge k i with hk|hk
    ·exact h5 i o' hk QM NB
    ·obtain rfl:i=k:=by omega
     obtain rfl:o'=o:=Option.some.inj (QM.symm.trans ho)
     refine⟨v,fun b hb d' hd'=>?_,fun w hI b IX IK=>?_⟩
     ·obtain rfl:d'=d:=Option.some.inj (hd'.symm.trans Jz)
      rw[h4 d' PY]
      exact oU b a (by rw[hb,h2,Ii]) o'.dst v d' (.inl Jz)
     ·rw[<- hv w hI]
      congr 1
      refine l6 o' (hd.guard i o' ho).2 b a fun t ht=>?_
      by_cases KO:∃ (j:Nat) (p:Oper),ops[j]?=some p/\loud[j]?=some false/\p.dst=some t
      ·rw[IX t ht KO]
       obtain⟨j,p,hp,J6,Ll⟩:=KO
       by_cases Jy:i=j
       ·subst Jy
        obtain rfl:p=o':=Option.some.inj (hp.symm.trans ho)
        obtain rfl:d=t:=Option.some.inj (Jz.symm.trans Ll)
        exact absurd ht N1
       ·rcases hd.reads i o' j p t ho hp Jy Ll ht with⟨_,QS,_⟩|⟨Id,_⟩
        ·rw[h4 t fun j' p' OD I3 hlj' hpd'=>?_]
         ·rw[fm _ _ _ _ (fun e=>?_)]
          exact hd.apart i o' j p t ho hp Jy Ll RM e
         ·have Sd:j'≠j:=by omega
          exact hd.apart j' p' j p t I3 hp Sd Ll hlj' hpd'
        ·rw[J6]at Id;cases Id
      ·rw[IK t ht KO]
       exact(ha t fun j p hj hp J6 Ll=>KO ⟨j,p,hp,J6,Ll⟩).symm
 | _::_,[],_,_,hl,_,_,_,_=>by simp at hl
def EK (n:Nat)(listed:Array Bool):Nat:=(List.range n).countP fun i=>!listed.getD i true
theorem tW {n i:Nat}{listed:Array Bool}(hi:i<n)(hs:listed.size=n)(h:listed.getD i true=false):EK n (listed.setIfInBounds i true)<EK n listed:=by
 unfold EK
 have key:∀ m,m<=n->(List.range m).countP (fun j=>!(listed.setIfInBounds i true).getD j true)+(if i<m then 1 else 0)=(List.range m).countP (fun j=>!listed.getD j true):=by
  intro m
  induction m with
  | zero=>intro _;simp
  | succ m ih=>
   intro hm
   rw[List.range_succ,List.countP_append,List.countP_append]
   have:=ih (by omega)
   by_cases e:i=m
   ·subst e
    have e1:(listed.setIfInBounds i true).getD i true=true:=by simp[hs,hi]
    simp only[Nat.lt_irrefl,if_false,Nat.add_zero]at this
    simp only[List.countP_cons,List.countP_nil,e1,h,this]
    simp
   ·rw[List.countP_cons,List.countP_cons,getD_set_ne true e]
    by_cases Id:i<m
    ·have:i<m+1:=by omega
     simp_all
     omega
    ·have:¬ i<m+1:=by omega
     simp_all
 have:=key n (Nat.le_refl n)
 rw[if_pos hi]at this
 omega
theorem lr {ops:List Oper}{loud:List Bool}(hl:loud.length=ops.length):∀ (n:Nat),(∃ i o,n<=i/\ops[i]?=some o/\loud[i]?=some true/\(∀ j,n<=j->j<i->loud[j]?=some false) /\
   bZ (ops.drop n) (loud.drop n)=o::bZ (ops.drop (i+1)) (loud.drop (i+1))) \/
  (bZ (ops.drop n) (loud.drop n)=[]/\∀ j,n<=j->loud[j]?≠some true):=by
 intro n
 generalize hd:ops.length-n=d
 induction d generalizing n with
 | zero=>
  right
  have h1:ops.drop n=[]:=List.drop_eq_nil_of_le (by omega)
  refine⟨by rw[h1];simp[bZ],fun j hj=>?_⟩
  rw[List.getElem?_eq_none (by omega)]
  simp
 | succ d ih=>
  have hn:n<ops.length:=by omega
  have IE:n<loud.length:=by omega
  rw[List.drop_eq_getElem_cons hn,List.drop_eq_getElem_cons IE]
  have ho:ops[n]?=some ops[n]:=List.getElem?_eq_getElem hn
  have Jk:loud[n]?=some loud[n]:=List.getElem?_eq_getElem IE
  cases hc:loud[n] with
  | true=>
   left
   refine⟨n,ops[n],Nat.le_refl _,ho,by rw[Jk,hc],fun j h1 h2=>by omega,?_⟩
   simp[bZ]
  | false=>
   simp only[bZ]
   rcases ih (n+1) (by omega) with⟨i,o,h1,h2,h3,h4,h5⟩|⟨h1,h2⟩
   ·left
    refine⟨i,o,by omega,h2,h3,fun j hj QS=>?_,h5⟩
    by_cases e:j=n
    ·subst e;rw[Jk,hc]
    ·exact h4 j (by omega) QS
   ·right
    refine⟨h1,fun j hj=>?_⟩
    by_cases e:j=n
    ·subst e;rw[Jk,hc];simp
    ·exact h2 j (by omega)
theorem yX {I:World->Prop}{Q:Exit->Act->World->Prop}{ops:List Oper}{loud:List Bool}(hd:t8 ops loud){a0 af0:Act}(hF:EB P I ops loud a0 af0) :
  ∀ (fuel:Nat) (listed:Array Bool) (a af:Act) (w:World) (n:Nat),EK ops.length listed<=fuel->H7 ops loud a0 af n listed a->af.tmps.size=af0.tmps.size ->
   (∀ (i:Nat) (o:Oper) (d:Nat),ops[i]?=some o->loud[i]?=some false->o.dst=some d->af.tmps.getD d undef=af0.tmps.getD d undef) ->
   eg P I Q (bZ (ops.drop n) (loud.drop n)) af w->wpAny P .any ops.toArray Q fuel listed a w:=by
 have done:∀ (listed:Array Bool) (a af:Act) (w:World) (n:Nat),H7 ops loud a0 af n listed a->eg P I Q (bZ (ops.drop n) (loud.drop n)) af w->Region.ready .any ops.toArray listed=[]->Q .normal a w:=by
  intro listed a af w n inv hw hr
  have all:∀ i,i<ops.length->listed.getD i false=true:=by
   intro i
   induction i using Nat.strongRecOn with
   | _ i ih=>
    intro hi
    cases hc:listed.getD i false with
    | true=>rfl
    | false=>
     exfalso
     have ho:ops[i]?=some ops[i]:=List.getElem?_eq_getElem hi
     have:i∈Region.ready .any ops.toArray listed:=by
      rw[mem_ready]
      refine⟨getD_in (by rw[inv.size];exact hi) hc,ops[i],by simp,fun e he hb=>?_⟩
      have Id:=hd.lower i _ ho e.on (by unfold ji;exact Array.any_eq_true'.2 ⟨e,he,by simp[hb]⟩)
      exact ih e.on Id (by omega)
     rw[hr]at this
     cases this
  have JJ:bZ (ops.drop n) (loud.drop n)=[]:=by
   rcases lr hd.len n with⟨i,o,h1,h2,h3,_⟩|⟨h1,_⟩
   ·have:=(inv.chain i h3).1 (all i (List.getElem?_eq_some_iff.1 h2).1)
    omega
   ·exact h1
  rw[JJ]at hw
  have e:a=af:=by
   obtain⟨t1,d1⟩:=a
   obtain⟨t2,d2⟩:=af
   have e1:d1=d2:=inv.defers
   have e2:t1=t2:=by
    apply Array.ext inv.asz
    intro i h1 h2
    have:=inv.agree i (fun j o ho _ hu=>by rw[all j (List.getElem?_eq_some_iff.1 ho).1]at hu;cases hu)
    simpa[h1,h2]using this
   rw[e1,e2]
  rw[e]
  exact hw.2
 intro fuel
 induction fuel with
 | zero=>
  intro listed a af w n hu inv _ _ hw
  have hr:Region.ready .any ops.toArray listed=[]:=by
   cases hr:Region.ready .any ops.toArray listed with
   | nil=>rfl
   | cons i r=>
    have hi:i∈Region.ready .any ops.toArray listed:=by rw[hr];exact List.mem_cons_self
    obtain⟨h1,o,ho,_⟩:=mem_ready.1 hi
    have:=tW (n:=ops.length) (List.getElem?_eq_some_iff.1 (by simpa using ho:ops[i]?=some o)).1 inv.size h1
    omega
  exact⟨hr,done listed a af w n inv hw hr⟩
 | succ fuel ih=>
  intro listed a af w n hu inv Ii JR hw
  refine⟨done listed a af w n inv hw,fun i hi=>?_⟩
  obtain⟨WQ,o,Xh,LC⟩:=mem_ready.1 hi
  have ho:ops[i]?=some o:=by simpa using Xh
  have NF:i<ops.length:=(List.getElem?_eq_some_iff.1 ho).1
  have Id:i<loud.length:=by rw[hd.len];exact NF
  have Mj:=tW (n:=ops.length) NF inv.size WQ
  have hun':=getD_both WQ
  have LM:∀ j,ji o j=true->listed.getD j false=true:=by
   intro j hj
   unfold ji at hj
   obtain⟨e,he,hb⟩:=Array.any_eq_true'.1 hj
   simp only[Bool.and_eq_true,beq_iff_eq]at hb
   rw[<- hb.2]
   exact LC e he hb.1
  have Jr:∀ j,(listed.setIfInBounds i true).getD j false=true->j=i \/ listed.getD j false=true:=by
   intro j hj
   by_cases e:i=j
   ·exact .inl e.symm
   ·rw[getD_set_ne false e]at hj;exact .inr hj
  have N0:(listed.setIfInBounds i true).getD i false=true:=by
   have:i<listed.size:=by rw[inv.size];exact NF
   simp[this]
  unfold wpOp
  rw[Xh]
  simp only
  rw[if_pos (by simp[Region.wanted,(hd.guard i o ho).1])]
  refine .inl ?_
  cases Jk:loud[i] with
  | false=>
   have Km:loud[i]?=some false:=by rw[List.getElem?_eq_getElem Id,Jk]
   obtain⟨v,JI,KU⟩:=hF i o ho Km
   obtain⟨d,Jz,N1⟩:=hd.hasDst i o ho Km
   have Im:(execOp a.eval o).run P w=.ok (.value v) w:=by
    refine KU w (Bw hw) a (fun t ht KO=>?_) (fun t ht KO=>?_)
    ·obtain⟨j,p,hp,J6,Ll⟩:=KO
     have Jy:i≠j:=fun e=>by
      subst e
      obtain rfl:p=o:=Option.some.inj (hp.symm.trans ho)
      obtain rfl:d=t:=Option.some.inj (Jz.symm.trans Ll)
      exact N1 ht
     rcases hd.reads i o j p t ho hp Jy Ll ht with⟨_,_,Uo⟩|⟨MQ,_⟩
     ·have JF:=LM j Uo
      rw[inv.agree t fun j' p' I3 hlj' huj' hpd'=>?_]
      ·exact JR j p t hp J6 Ll
      ·by_cases e:j'=j
       ·subst e;rw[JF]at huj';cases huj'
       ·exact hd.apart j' p' j p t I3 hp e Ll hlj' hpd'
     ·rw[J6]at MQ;cases MQ
    ·refine inv.orig t fun j p hp J6 Ll=>?_
     by_cases Jy:i=j
     ·subst Jy;rw[hun']at J6;cases J6
     ·rcases hd.reads i o j p t ho hp Jy Ll ht with⟨h1,_⟩|⟨MQ,h2⟩
      ·exact KO ⟨j,p,hp,h1,Ll⟩
      ·rcases h2 with h2|h2
       ·rw[Km]at h2;cases h2
       ·have:=inv.closed j p hp J6 i h2
        rw[hun']at this;cases this
   unfold Oper.wp
   rw[Im]
   show wpAny P .any ops.toArray Q fuel (listed.setIfInBounds i true) (a.put o.dst v) w
   refine ih _ _ af w n (by omega) ?_ Ii JR hw
   have UR:(a.put o.dst v).tmps.size=a.tmps.size:=by rw[Jz];simp[Act.put]
   refine⟨by simp[inv.size],UR.trans inv.asz,(by rw[Jz];exact inv.defers),fun j hj=>?_,fun j p hp J6 k hk=>?_,fun t ht=>?_,fun t ht=>?_⟩
   ·have Jy:i≠j:=fun e=>by subst e;rw[Km]at hj;cases hj
    rw[getD_set_ne false Jy]
    exact inv.chain j hj
   ·rcases Jr j J6 with e|e
    ·subst e
     obtain rfl:p=o:=Option.some.inj (hp.symm.trans ho)
     exact getD_set_true (LM k hk)
    ·exact getD_set_true (inv.closed j p hp e k hk)
   ·by_cases e:d=t
    ·subst e
     rw[JI a (inv.asz.trans Ii) d Jz]
     exact(JR i o d ho Km Jz).symm
    ·rw[fm _ _ _ _ (by rw[Jz];simpa using e)]
     refine inv.agree t fun j p hp J6 QI=>?_
     by_cases e2:i=j
     ·subst e2
      obtain rfl:p=o:=Option.some.inj (hp.symm.trans ho)
      rw[Jz];simpa using e
     ·exact ht j p hp J6 (by rw[getD_set_ne false e2];exact QI)
   ·rw[fm _ _ _ _ (ht i o ho N0)]
    exact inv.orig t fun j p hp J6=>ht j p hp (getD_set_true J6)
  | true=>
   have Km:loud[i]?=some true:=by rw[List.getElem?_eq_getElem Id,Jk]
   rcases lr hd.len n with⟨k,o',h1,h2,h3,h4,h5⟩|⟨_,h2⟩
   ·-- the next of the chain is this one
    have Vc:n<=i:=by
     rcases Nat.lt_or_ge i n with h|h
     ·have:=(inv.chain i Km).2 h
      rw[hun']at this;cases this
     ·exact h
    have Vs:k=i:=by
     rcases Nat.lt_trichotomy k i with h|h|h
     ·exfalso
      have:∀ (m:Nat),∀ q,i-q=m->k<=q->q<i->loud[q]?=some true->False:=by
       intro m
       induction m using Nat.strongRecOn with
       | _ m ihm=>
        intro q hm hkq hqi hq
        rcases hd.chain i o q ho Km hq hqi with K8|⟨r,UP,Rx,UO⟩
        ·have:=(inv.chain q hq).1 (LM q K8)
         omega
        ·exact ihm (i-r) (by omega) r rfl (by omega) Rx UO
      exact this _ k rfl (Nat.le_refl _) h h3
     ·exact h
     ·have:=h4 i Vc h
      rw[Km]at this;cases this
    subst Vs
    obtain rfl:o'=o:=Option.some.inj (h2.symm.trans ho)
    rw[h5]at hw
    refine mU (a:=af) (b:=a) (hd.guard k o' ho).2 (fun t ht=>?_) inv.defers.symm (fun ds v w' hk=>?_) hw.2
    ·refine(inv.agree t fun j p hp J6 QI Ll=>?_).symm
     have Jy:k≠j:=fun e=>by subst e;rw[Km]at J6;cases J6
     rcases hd.reads k o' j p t ho hp Jy Ll ht with⟨_,_,Uo⟩|⟨MQ,_⟩
     ·rw[LM j Uo]at QI;cases QI
     ·rw[J6]at MQ;cases MQ
    ·refine ih _ _ (({ af with defers:=ds }:Act).put o'.dst v) w' (k+1) (by omega) ?_ ?_ (fun i' o'' d' Qe hli' hd'=>?_) hk
     ·have T9:∀ (x:Act),(({ x with defers:=ds }:Act).put o'.dst v).tmps.size=x.tmps.size:=fun x=>by cases o'.dst<;>simp[Act.put]
      have Ll:∀ (x:Act),(({ x with defers:=ds }:Act).put o'.dst v).defers=ds:=fun x=>by cases o'.dst<;>rfl
      refine⟨by simp[inv.size],by rw[T9,T9];exact inv.asz,by rw[Ll,Ll],fun j hj=>?_,fun j p hp J6 q hq=>?_,fun t ht=>?_,fun t ht=>?_⟩
      ·by_cases e:k=j
       ·subst e;rw[N0];simp
       ·rw[getD_set_ne false e,inv.chain j hj]
        constructor
        ·intro h;omega
        ·intro h
         rcases Nat.lt_or_ge j n with h'|h'
         ·exact h'
         ·have:=h4 j h' (by omega)
          rw[hj]at this;cases this
      ·rcases Jr j J6 with e|e
       ·subst e
        obtain rfl:p=o':=Option.some.inj (hp.symm.trans ho)
        exact getD_set_true (LM q hq)
       ·exact getD_set_true (inv.closed j p hp e q hq)
      ·refine oU { a with defers:=ds } { af with defers:=ds } inv.asz o'.dst v t ?_
       by_cases e:o'.dst=some t
       ·exact .inl e
       ·refine .inr (inv.agree t fun j p hp J6 QI=>?_)
        have Jy:k≠j:=fun e=>by subst e;rw[Km]at J6;cases J6
        exact ht j p hp J6 (by rw[getD_set_ne false Jy];exact QI)
      ·rw[fm _ _ _ _ (ht k o' ho N0)]
       exact inv.orig t fun j p hp J6=>ht j p hp (getD_set_true J6)
     ·have:(({ af with defers:=ds }:Act).put o'.dst v).tmps.size=af.tmps.size:=by cases o'.dst<;>simp[Act.put]
      exact this.trans Ii
     ·have Jy:i'≠k:=fun e=>by subst e;rw[Km]at hli';cases hli'
      rw[fm _ _ _ _ (fun e=>hd.apart i' o'' k o' d' Qe ho Jy e hli' hd')]
      exact JR i' o'' d' Qe hli' hd'
   ·exfalso
    have Vc:n<=i:=by
     rcases Nat.lt_or_ge i n with h|h
     ·have:=(inv.chain i Km).2 h
      rw[hun']at this;cases this
     ·exact h
    exact h2 i Vc Km
theorem tH (hm:P.follows .mixedOrders=true){id:Nat}{l:List Oper}{loud:List Bool}(hB:r7 l loud=true)(I:World->Prop){Q:Exit->Act->World->Prop}{a:Act}{w:World}
  (h:eT P I (cR l loud) a fun af=>eg P I Q (bZ l loud) af w.drew):(Code.region id l.toArray true).wp P Q a w:=by
 have hd:=yY hB
 obtain⟨af,h1,h2,h3,h4,h5⟩:=tq hd a _ l loud 0 a hd.len.symm (by simp) (by simp) (fun t _=>rfl) h
 refine wp_region_any hm ?_
 refine yX hd (a0:=a) (af0:=af) (fun i o ho hl=>h5 i o (Nat.zero_le _) ho hl) _ _ a af _ 0 ?_ ?_ rfl (fun _ _ _ _ _ _=>rfl) (by simpa using h1)
 ·unfold EK
  exact Nat.le_trans List.countP_le_length (by simp)
 ·refine⟨by simp,h2.symm,h3.symm,fun i hi=>?_,fun i o _ hl=>?_,fun t ht=>?_,fun t _=>rfl⟩
  ·rw[getD_replicate_false];simp
  ·rw[getD_replicate_false]at hl;cases hl
  ·exact(h4 t fun j p _ hp J6=>ht j p hp J6 (getD_replicate_false _ _)).symm
end
def nOp:Op->Op
 | .call c=>.call { c with argTypes:=match c.callee with|.builtin _=>c.argTypes|_=>#[] }
 | .binOp o t x y _=>.binOp o t x y 0
 | o=>o
def nTy:Op->TypeId->TypeId
 | .call c,t=>match c.callee with|.builtin _=>t|_=>0
 | .next ..,t=>t
 | .go _,t=>t
 | .defer _,t=>t
 | _,_=>0
def cE (o : Oper) : Oper := { dst := o.dst, op := nOp o.op, type := nTy o.op o.type, pos := "", after := #[], guard := o.guard }
theorem g9 (ρ:Operand->Value)(o:Oper):execOp ρ (cE o)=execOp ρ o:=by
 obtain⟨dst,op,type,pos,after,guard⟩:=o
 cases op<;>try rfl
 case call c=>
  obtain⟨callee,args,argTypes⟩:=c
  cases callee<;>rfl
theorem gA (o:Oper):(cE o).dst=o.dst:=rfl
theorem sO (P:Program)(o:Oper)(a:Act)(K:Act->World->Prop)(Q:Exit->Act->World->Prop)(r:Result Next) :
  (cE o).upon P a K Q r=o.upon P a K Q r:=by
 cases r with
 | ok x w=>cases x<;>rfl
 | halt h w=>cases h<;>rfl
theorem rf (P:Program)(o:Oper)(a:Act)(w:World)(K:Act->World->Prop)(Q:Exit->Act->World->Prop) :
  (cE o).wp P a w K Q=o.wp P a w K Q:=by
 unfold Oper.wp
 rw[g9,sO]
theorem sP (P:Program)(o:Oper)(a:Act)(w:World):(cE o).asks P a w=o.asks P a w:=by
 unfold Oper.asks
 rw[g9]
theorem kd (ops:Array Oper)(tmps:Array Value):yielded (ops.toList.map cE).toArray tmps=yielded ops tmps:=by
 funext j
 have h:((ops.toList.map cE).toArray[j]?).bind (·.dst)=(ops[j]?).bind (·.dst):=by
  simp only[List.getElem?_toArray,List.getElem?_map,Array.getElem?_toList]
  cases ops[j]?<;>rfl
 unfold yielded
 rw[h]
theorem kM (o:Oper)(y:Nat->Option Bool):Region.wanted (cE o) y=Region.wanted o y:=rfl
theorem pn (P:Program)(ops:Array Oper)(Q:Exit->Act->World->Prop)(l:List Oper) :
  wpList P (ops.toList.map cE).toArray Q (l.map cE)=wpList P ops Q l:=by
 induction l with
 | nil=>rfl
 | cons o r ih=>
  funext a w
  simp only[List.map_cons,wpList,kM,kd,rf,sP,gA,ih]
theorem mn (o:Oper):fQ (cE o)=fQ o:=by
 obtain⟨dst,op,type,pos,after,guard⟩:=o
 cases op<;>try rfl
theorem oq (o:Oper):tz (cE o)=tz o:=by
 obtain⟨dst,op,type,pos,after,guard⟩:=o
 cases op<;>try rfl
theorem qc (l:List Oper):dq (l.map cE)=dq l:=by
 unfold dq
 rw[List.foldl_map]
 congr 1
 funext acc o
 rw[oq]
 congr 2
 congr 1
 have:acc.zip (l.map cE)=(acc.zip l).map (fun p=>(p.1,cE p.2)):=by rw[List.zip_map_right];rfl
 rw[this,List.any_map]
 congr 1
 funext p
 simp only[Function.comp,gA,mn]
theorem i5:∀ (l:List Oper) (m:List Bool),cR (l.map cE) m=(cR l m).map cE
 | [],_=>rfl
 | _::_,[]=>rfl
 | o::r,b::m=>by cases b<;>simp[cR,i5 r m]
theorem iw:∀ (l:List Oper) (m:List Bool),bZ (l.map cE) m=(bZ l m).map cE
 | [],_=>rfl
 | _::_,[]=>rfl
 | o::r,b::m=>by cases b<;>simp[bZ,iw r m]
theorem lX (P:Program)(I:World->Prop):∀ (l:List Oper) (a:Act) (K:Act->Prop),eT P I (l.map cE) a K=eT P I l a K
 | [],_,_=>rfl
 | o::r,a,K=>by
  simp only[List.map_cons,eT,g9,gA,lX P I r]
theorem km (P:Program)(I:World->Prop)(Q:Exit->Act->World->Prop):∀ (l:List Oper),eg P I Q (l.map cE)=eg P I Q l
 | []=>rfl
 | o::r=>by
  funext a w
  simp only[List.map_cons,eg,rf,km P I Q r]
def u4 (o:Oper):Bool:=match o.op with|.convert ..=>true|_=>false
def nQ (ops:List Oper):List Bool:=
 ops.foldl (fun(acc:List Bool) o=>acc++[(u4 o || tz o) || (acc.zip ops).any fun p=>p.1&&(match p.2.dst with|some d=>(fQ o).contains d|none=>false)]) []
def H0 (o:Oper):Bool:=match o.op with|.move _|.load ..|.fieldAddr ..|.binOp ..|.convert ..|.assign _=>true|.call c=>(match c.callee with|.builtin .len=>true|_=>false)|_=>false
def Hz (ops:List Oper):Bool:=ops.any u4&&ops.all H0&&r7 ops (nQ ops)
theorem rp (o:Oper):u4 (cE o)=u4 o:=by
 obtain⟨dst,op,type,pos,after,guard⟩:=o
 cases op<;>rfl
theorem rh (l:List Oper):nQ (l.map cE)=nQ l:=by
 unfold nQ
 rw[List.foldl_map]
 congr 1
 funext acc o
 rw[oq,rp]
 congr 2
 congr 1
 have:acc.zip (l.map cE)=(acc.zip l).map (fun p=>(p.1,cE p.2)):=by rw[List.zip_map_right];rfl
 rw[this,List.any_map]
 congr 1
 funext p
 simp only[Function.comp,gA,mn]
def qb (d:Bool)(ops:Array Oper):Nat:=if d then(if Hz ops.toList then 6 else if r7 ops.toList (dq ops.toList)then 1 else if Region.lexB .any ops then 2 else 0)else 0
theorem qT (P:Program)(o:Oper)(a:Act)(C:World->Prop)(K:Act->Prop):(cE o).quiet P a C K=o.quiet P a C K:=by
 unfold Oper.quiet Oper.quietAt
 rw[g9,gA]
theorem kf (P:Program)(ops:Array Oper)(C:World->Prop)(Q:Act->Prop):∀ (l:List Oper),wpQuiet P (ops.toList.map cE).toArray C Q (l.map cE)=wpQuiet P ops C Q l
 | []=>rfl
 | o::r=>by
  funext a
  simp only[List.map_cons,wpQuiet,kM,kd,qT,gA,kf P ops C Q r]
def bK:Code->Code
 | .region _ ops d=>.region (qb d ops) (ops.toList.map cE).toArray d
 | .seq a b=>.seq (bK a) (bK b)
 | .cond c x y=>.cond c (bK x) (bK y)
 | .block id c=>.block id (bK c)
 | .loop c=>.loop (bK c)
 | .scope c=>.scope (bK c)
 | .rangeFunc .. => .refuse ""
 | c=>c
inductive aK (P:Program):Code->(Exit->Act->World->Prop)->Act->World->Prop
 | skip {Q:Exit->Act->World->Prop} {a:Act} {w:World}:Q .normal a w->aK P .skip Q a w
 | label {l:Nat} {Q:Exit->Act->World->Prop} {a:Act} {w:World}:Q .normal a w->aK P (.label l) Q a w
 | exit {id:Nat} {Q:Exit->Act->World->Prop} {a:Act} {w:World}:Q (.exit id) a w->aK P (.exit id) Q a w
 | goto {l:Nat} {Q:Exit->Act->World->Prop} {a:Act} {w:World}:Q (.goto l) a w->aK P (.goto l) Q a w
 | ret {Q:Exit->Act->World->Prop} {a:Act} {w:World}:Q .ret a w->aK P .ret Q a w
 | reg {id:Nat} {l:List Oper} {Q:Exit->Act->World->Prop} {a:Act} {w:World}:wpList P l.toArray Q l a w->aK P (.region id l.toArray false) Q a w
 | drw {l:List Oper} {Q:Exit->Act->World->Prop} {a:Act} {w:World} (I:World->Prop) :
   eT P I (cR l (dq l)) a (fun af=>eg P I Q (bZ l (dq l)) af w.drew)->aK P (.region 1 l.toArray true) Q a w
 | drc {l:List Oper} {Q:Exit->Act->World->Prop} {a:Act} {w:World} (I:World->Prop) :
   eT P I (cR l (nQ l)) a (fun af=>eg P I Q (bZ l (nQ l)) af w.drew)->aK P (.region 6 l.toArray true) Q a w
 | drq {l:List Oper} {Q:Exit->Act->World->Prop} {a:Act} {w:World} (C:World->Prop):C w.drew ->
   wpQuiet P l.toArray C (fun a'=>∀ w',C w'->Q .normal a' w') l a->aK P (.region 2 l.toArray true) Q a w
 | seq {x y:Code} {Q R:Exit->Act->World->Prop} {a:Act} {w:World}:aK P x R a w->(∀ a w,R .normal a w->aK P y Q a w) ->
   (∀ e a w,e≠.normal->R e a w->Q e a w)->aK P (.seq x y) Q a w
 | condT {c:Operand} {x y:Code} {Q:Exit->Act->World->Prop} {a:Act} {w:World}:a.eval c=.bool true->aK P x Q a w->aK P (.cond c x y) Q a w
 | condF {c:Operand} {x y:Code} {Q:Exit->Act->World->Prop} {a:Act} {w:World}:a.eval c=.bool false->aK P y Q a w->aK P (.cond c x y) Q a w
 | block {id:Nat} {c:Code} {Q:Exit->Act->World->Prop} {a:Act} {w:World}:aK P c (Exit.inBlock id Q) a w->aK P (.block id c) Q a w
 | loop {c:Code} {Q:Exit->Act->World->Prop} {a:Act} {w:World} (I:Act->World->Prop) (μ:Act->World->Nat):I a w ->
   (∀ a w,I a w->aK P c (Exit.then (fun a' w'=>I a' w'/\μ a' w'<μ a w) Q) a w)->aK P (.loop c) Q a w
 | scope {c rest:Code} {Q:Exit->Act->World->Prop} {a:Act} {w:World} (l:Nat) (J:Act->World->Prop) (μ:Act->World->Nat):findLabel c l=some rest ->
   aK P c (Exit.jump l J Q) a w->(∀ a w,J a w->aK P rest (Exit.jump l (fun a' w'=>J a' w'/\μ a' w'<μ a w) Q) a w)->aK P (.scope c) Q a w
 | mono {c:Code} {Q R:Exit->Act->World->Prop} {a:Act} {w:World}:aK P c R a w->(∀ e a w,R e a w->Q e a w)->aK P c Q a w
theorem mD (l:Nat):∀ (c rest:Code),findLabel (bK c) l=some rest->∃ r,findLabel c l=some r/\rest=bK r:=by
 intro c
 induction c with
 | seq x y ihx ihy=>
  intro rest h
  simp only[bK,findLabel]at h
  cases hx:findLabel (bK x) l with
  | some r=>
   rw[hx]at h
   obtain⟨r0,h0,rfl⟩:=ihx r hx
   obtain rfl:=Option.some.inj h
   exact⟨.seq r0 y,by simp[findLabel,h0],rfl⟩
  | none=>
   rw[hx]at h
   obtain⟨r0,h0,rfl⟩:=ihy rest h
   have hn:findLabel x l=none:=by
    cases hxx:findLabel x l with
    | none=>rfl
    | some r=>
     exfalso
     have:∀ (c r:Code),findLabel c l=some r->∃ r',findLabel (bK c) l=some r':=by
      intro c
      induction c with
      | seq a b iha ihb=>
       intro r hr
       simp only[findLabel]at hr
       cases ha:findLabel a l with
       | some q=>obtain⟨q',hq⟩:=iha q ha;exact⟨.seq q' (bK b),by simp[bK,findLabel,hq]⟩
       | none=>
        rw[ha]at hr
        obtain⟨q',hq⟩:=ihb r hr
        cases QN:findLabel (bK a) l with
        | some z=>exact⟨.seq z (bK b),by simp[bK,findLabel,QN]⟩
        | none=>exact⟨q',by simp[bK,findLabel,QN,hq]⟩
      | label l'=>intro r hr;exact⟨r,hr⟩
      | _=>intro r hr;simp[findLabel]at hr
     obtain⟨r',QJ⟩:=this x r hxx
     rw[hx]at QJ
     cases QJ
   exact⟨r0,by simp[findLabel,hn,h0],rfl⟩
 | label l'=>
  intro rest h
  simp only[bK,findLabel]at h ⊢
  split at h
  ·rename_i he
   obtain rfl:=Option.some.inj h
   exact⟨.skip,by simp[he],rfl⟩
  ·cases h
 | _=>intro rest h;simp[bK,findLabel]at h
theorem aK.sound {P:Program}(hm:P.follows .mixedOrders=true){d:Code}{Q:Exit->Act->World->Prop}{a:Act}{w:World}(h:aK P d Q a w) :
  ∀ c,d=bK c->c.wp P Q a w:=by
 induction h with
 | skip hq=>intro c hc;cases c<;>simp[bK]at hc;exact wp_skip hq
 | label hq=>intro c hc;cases c<;>simp[bK]at hc;exact wp_label hq
 | exit hq=>intro c hc;cases c<;>simp[bK]at hc;subst hc;exact wp_exit hq
 | goto hq=>intro c hc;cases c<;>simp[bK]at hc;subst hc;exact wp_goto hq
 | ret hq=>intro c hc;cases c<;>simp[bK]at hc;exact wp_ret hq
 | @reg id l Q a w hq=>
  intro c hc
  cases c with
  | region id' ops dr=>
   simp only[bK,Code.region.injEq]at hc
   obtain⟨_,hl,rfl⟩:=hc
   have Ml:l=ops.toList.map cE:=by simpa using congrArg Array.toList hl
   subst Ml
   rw[pn]at hq
   exact wp_region_list hq
  | _=>simp[bK]at hc
 | @drw l Q a w I hq=>
  intro c hc
  cases c with
  | region id' ops dr=>
   simp only[bK,Code.region.injEq]at hc
   obtain⟨hn,hl,rfl⟩:=hc
   have Ml:l=ops.toList.map cE:=by simpa using congrArg Array.toList hl
   subst Ml
   rw[qc,i5,iw,lX,km]at hq
   simp only[qb,if_true]at hn
   split at hn
   ·cases hn
   ·split at hn
    ·rename_i hB
     have:=tH hm (id:=id') hB I hq
     simpa using this
    ·split at hn<;>cases hn
  | _=>simp[bK]at hc
 | @drc l Q a w I hq=>
  intro c hc
  cases c with
  | region id' ops dr=>
   simp only[bK,Code.region.injEq]at hc
   obtain⟨hn,hl,rfl⟩:=hc
   have Ml:l=ops.toList.map cE:=by simpa using congrArg Array.toList hl
   subst Ml
   rw[rh,i5,iw,lX,km]at hq
   simp only[qb,if_true]at hn
   split at hn
   ·rename_i hB
    simp only[Hz,Bool.and_eq_true]at hB
    have:=tH hm (id:=id') hB.2 I hq
    simpa using this
   ·split at hn
    ·cases hn
    ·split at hn<;>cases hn
  | _=>simp[bK]at hc
 | @drq l Q a w C hC hq=>
  intro c hc
  cases c with
  | region id' ops dr=>
   simp only[bK,Code.region.injEq]at hc
   obtain⟨hn,hl,rfl⟩:=hc
   have Ml:l=ops.toList.map cE:=by simpa using congrArg Array.toList hl
   subst Ml
   rw[kf]at hq
   simp only[qb,if_true]at hn
   split at hn
   ·cases hn
   ·split at hn
    ·cases hn
    ·split at hn
     ·rename_i hB
      exact wp_region_quiet hm hB hC hq
     ·cases hn
  | _=>simp[bK]at hc
 | seq hx hy he ihx ihy=>
  intro c hc
  cases c<;>simp[bK]at hc
  obtain⟨rfl,rfl⟩:=hc
  refine wp_seq (wp_mono (ihx _ rfl) fun e a w hr=>?_)
  cases e with
  | normal=>exact ihy a w hr _ rfl
  | _=>exact he _ a w (by simp) hr
 | condT Ln _ ih=>
  intro c hc
  cases c<;>simp[bK]at hc
  obtain⟨rfl,rfl,rfl⟩:=hc
  exact wp_cond_true Ln (ih _ rfl)
 | condF Ln _ ih=>
  intro c hc
  cases c<;>simp[bK]at hc
  obtain⟨rfl,rfl,rfl⟩:=hc
  exact wp_cond_false Ln (ih _ rfl)
 | block _ ih=>
  intro c hc
  cases c<;>simp[bK]at hc
  obtain⟨rfl,rfl⟩:=hc
  exact wp_block (ih _ rfl)
 | loop I μ h0 _ ih=>
  intro c hc
  cases c<;>simp[bK]at hc
  subst hc
  exact wp_loop I μ h0 fun a w hI=>ih a w hI _ rfl
 | scope l J μ hf _ _ ih1 ih2=>
  intro c hc
  cases c<;>simp[bK]at hc
  subst hc
  obtain⟨r,hr,rfl⟩:=mD l _ _ hf
  exact wp_scope_jumps l J μ hr (ih1 _ rfl) fun a w hJ=>ih2 a w hJ _ rfl
 | mono _ hq ih=>intro c hc;exact wp_mono (ih c hc) hq
theorem lB {P:Program}(hm:P.follows .mixedOrders=true){f:FuncId}{fn:Func}{c d:Code}{args:Array Value}{w:World}{R:Ending->World->Prop}
  (hf:P.funcs[f]?=some fn) (hb:fn.body=some c) (hd:d=bK c)
  (h:aK P d (bodyPost P fn R) { tmps:=args++Array.replicate (fn.ntmps-args.size) undef,defers:=[] } w):Calls P f args w R:=
 calls_of_wp hf hb (h.sound hm c hd)
def mk (d : Option Nat) (op : Op) : Oper := ⟨d, op, 0, "", #[], none⟩
def tm (n:Nat):Operand:=.tmp n
def rg (l:List Oper):Code:=.region 0 l.toArray false
def sq:List Code->Code
 | []=>.skip
 | [x]=>x
 | x::r=>.seq x (sq r)
def _root_.Go.Act.get (a:Act)(t:Nat):Value:=a.tmps.getD t undef
theorem aa (a:Act)(t:Nat):a.eval (tm t)=a.get t:=rfl
theorem dg (a:Act)(v:Value):a.eval (.const v)=v:=rfl
theorem ab (a:Act)(d:Option Nat)(v:Value):(a.put d v).tmps.size=a.tmps.size:=by
 cases d<;>simp[Act.put]
theorem aj (a:Act)(d:Option Nat)(v:Value):(a.put d v).defers=a.defers:=by
 cases d<;>rfl
theorem db (a:Act)(d:Nat)(v:Value)(h:d<a.tmps.size):(a.put (some d) v).get d=v:=by
 simp[Act.put,Act.get,h]
theorem fH (a:Act)(d s:Nat)(v:Value)(h:s≠d):(a.put (some d) v).get s=a.get s:=by
 simp only[Act.put,Act.get,Array.getD_eq_getD_getElem?,Array.getElem?_setIfInBounds]
 rw[if_neg (by omega)]
structure Pv (x m k0 n:Nat)(a a':Act):Prop where
 size:a'.tmps.size=a.tmps.size
 defers:a'.defers=a.defers
 get:∀ s,s≠x->(s<m \/ (k0<=s/\s<n))->a'.get s=a.get s
theorem al {a:Act}{d s:Nat}{v:Value}(h:s≠d):(a.put (some d) v).get s=a.get s:=fH a d s v h
theorem ao {a:Act}{d:Nat}{v:Value}(h:d<a.tmps.size):(a.put (some d) v).get d=v:=db a d v h
theorem Pv.refl (x m k0 n:Nat)(a:Act):Pv x m k0 n a a:=⟨rfl,rfl,fun _ _ _=>rfl⟩
theorem Pv.trans {x m k0 n:Nat}{a b c:Act}(h:Pv x m k0 n a b)(k:Pv x m k0 n b c):Pv x m k0 n a c:=
 ⟨k.size.trans h.size,k.defers.trans h.defers,fun s hs hm=>(k.get s hs hm).trans (h.get s hs hm)⟩
theorem Pv.mono {x m k0 n m' n':Nat}{a b:Act}(h:Pv x m k0 n a b)(hm:m'<=m)(hn:n'<=n):Pv x m' k0 n' a b:=
 ⟨h.size,h.defers,fun s hs hh=>h.get s hs (by omega)⟩
theorem Pv.put {x m k0 n:Nat}{a b:Act}(h:Pv x m k0 n a b){d:Nat}(v:Value)(hd:d=x \/ (m<=d/\(d<k0 \/ n<=d))):Pv x m k0 n a (b.put (some d) v):=
 ⟨(ab _ _ _).trans h.size,(aj _ _ _).trans h.defers,fun s hs hh=>by rw[al (by omega)];exact h.get s hs hh⟩
section ops
variable {P:Program} {ops:Array Oper} {Q:Exit->Act->World->Prop} {r:List Oper} {a:Act} {w:World}
theorem jr {d:Option Nat}{op:Op}(h:(mk d op).wp P a w (wpList P ops Q r) Q):wpList P ops Q (mk d op::r) a w:=by
 unfold wpList
 rw[if_pos (by simp[Region.wanted,mk])]
 exact .inl h
theorem aB {d:Option Nat}{op:Op}{v:Value}{w':World}(h:(execOp a.eval (mk d op)).run P w=.ok (.value v) w')
  (hn:wpList P ops Q r (a.put d v) w'):wpList P ops Q (mk d op::r) a w:=
 jr (by unfold Oper.wp;rw[h];exact hn)
theorem tJ {d:Option Nat}{op:Op}{w':World}(h:(execOp a.eval (mk d op)).run P w=.ok .skip w')
  (hn:wpList P ops Q r (a.put d undef) w'):wpList P ops Q (mk d op::r) a w:=
 jr (by unfold Oper.wp;rw[h];exact hn)
theorem ah {d:Option Nat}{x:Operand}(h:wpList P ops Q r (a.put d (a.eval x)) w):wpList P ops Q (mk d (.move x)::r) a w:=
 aB rfl h
theorem ak {d:Option Nat}{x:Operand}(h:wpList P ops Q r (a.put d (a.eval x)) w):wpList P ops Q (mk d (.assign x)::r) a w:=
 aB rfl h
theorem aG {d:Option Nat}{x:Operand}{p:Addr}(hx:a.eval x=.pointer (some p))(h:wpList P ops Q r (a.put d (.pointer (some p))) w) :
  wpList P ops Q (mk d (.nilCheck x)::r) a w:=
 aB (by simp[execOp,mk,hx]) h
structure zo (P:Program)(t:TypeId)(d:TypeDesc)(size:Nat):Prop where
 und:P.underlying t=some d
 info:∃ i,P.info? t=some i/\i.size=size
theorem zo.sizeOf {t:TypeId}{d:TypeDesc}{n:Nat}(h:zo P t d n)(w:World):(sizeOf t).run P w=.ok n w:=by
 obtain⟨i,hi,rfl⟩:=h.info
 simp[Go.sizeOf,typeInfo,hi]
theorem zo.isAgg {t:TypeId}{d:TypeDesc}{n:Nat}(h:zo P t d n)(w:World) :
  (isAgg t).run P w=.ok (match d with|.struct _|.array _ _=>true|_=>false) w:=by
 simp only[Go.isAgg,run_underlying h.und,Sem.run_bind,Result.andThen_ok]
 cases d<;>rfl
theorem po {d:Option Nat}{x:Operand}{T k b o off:Nat}{fs:Array Field}{f:Field}{n:Nat}(hx:a.eval x=.pointer (some ⟨b,o,none⟩))(hT:P.underlying T=some (.struct fs))(hk:fs[k]?=some f)
  (ho:f.offset=off) (hn:∀ w,(sizeOf f.type).run P w=.ok (n+1) w) (h:wpList P ops Q r (a.put d (.pointer (some ⟨b,o+off,none⟩))) w) :
  wpList P ops Q (mk d (.fieldAddr T x k)::r) a w:=by
 refine aB ?_ h
 simp[execOp,mk,hx,Instr.fieldAt,run_underlying hT,hk,ho,fieldPlace,hn,Instr.sureAddr,Addr.add_lit]
theorem bg {d:Option Nat}{x:Operand}{F:TypeId}{p:Addr}{v:Value}(hx:a.eval x=.pointer (some p))(hF:(isAgg F).run P w=.ok false w)(hv:w.cell? p=some v)
  (h:wpList P ops Q r (a.put d v) w):wpList P ops Q (mk d (.load F x)::r) a w:=by
 refine aB ?_ h
 simp[execOp,mk,hx,Instr.loadAt,Instr.sureAddr,loadVar,hF,load,hv,Sem.run]
theorem eC {d:Option Nat}{x:Operand}{F:TypeId}{b o:Nat}{cs:List Value}(hx:a.eval x=.pointer (some ⟨b,o,none⟩))(hF:(isAgg F).run P w=.ok true w)(hs:(sizeOf F).run P w=.ok cs.length w)
  (hc:∀ j v,cs[j]?=some v->w.cell? ⟨b,o+j,none⟩=some v)
  (h:wpList P ops Q r (a.put d (.agg cs.toArray)) w):wpList P ops Q (mk d (.load F x)::r) a w:=by
 refine aB ?_ h
 have hl:=run_loadCells_list (P:=P) w ⟨b,o,none⟩ cs (fun j v hj=>by rw[Addr.add_lit];exact hc j v hj)
 simp[execOp,mk,hx,Instr.loadAt,Instr.sureAddr,loadVar,hF,hs,hl]
def aD (cur:Array Value)(o:Nat)(vs:List Value):Array Value:=(cur.toList.take o++vs++cur.toList.drop (o+vs.length)).toArray
theorem da {cur:Array Value}{o:Nat}{vs:List Value}(h:o+vs.length<=cur.size):(aD cur o vs).size=cur.size:=by
 simp[aD];omega
theorem bV {cur:Array Value}{o:Nat}{vs:List Value}(h:o+vs.length<=cur.size)(j:Nat)(hj:j<o \/ o+vs.length<=j):(aD cur o vs)[j]?=cur[j]?:=by
 simp only[aD,List.getElem?_toArray,List.append_assoc]
 rcases hj with hj|hj
 ·rw[List.getElem?_append_left (by simp;omega),List.getElem?_take_of_lt hj];simp
 ·rw[List.getElem?_append_right (by simp;omega),List.getElem?_append_right (by simp;omega),List.getElem?_drop]
  simp only[List.length_take,Array.length_toList,Array.getElem?_toList]
  congr 1
  omega
theorem bA {cur:Array Value}{o:Nat}{vs:List Value}(h:o+vs.length<=cur.size)(j:Nat)(hj:j<vs.length):(aD cur o vs)[o+j]?=vs[j]?:=by
 simp only[aD,List.getElem?_toArray,List.append_assoc]
 rw[List.getElem?_append_right (by simp;omega),List.getElem?_append_left (by simp;omega)]
 simp only[List.length_take,Array.length_toList]
 congr 1
 omega
theorem bm {x y:Operand}{F:TypeId}{g o:Nat}{cur:Array Value}{t:TypeId}{v:Value}{vs:List Value}(hx:a.eval x=.pointer (some ⟨g,o,none⟩))(hy:a.eval y=v)
  (hv:v.cells.toList=vs) (hF:(sizeOf F).run P w=.ok vs.length w) (hg:w.heap[g]?=some (.cells cur t (0,0))) (ho:o+vs.length<=cur.size) (h1:∀ u∈vs,u.oneCell'=true)
  (h:wpList P ops Q r a (w.setRow g (aD cur o vs))):wpList P ops Q (mk none (.store F x y)::r) a w:=by
 refine tJ (w':=w.setRow g (aD cur o vs)) ?_ h
 have IN:=run_storeCells_at P g o t vs 0 cur w hg (by simpa using ho) h1
 simp only[Nat.add_zero]at IN
 have Ii:v.cells.size=vs.length:=by rw[<- hv];simp
 simp[execOp,mk,hx,hy,Instr.storeAt,Instr.sureAddr,storeVar,hF,Ii,hv,IN,aD]
def Ent (P:Program)(f:Nat):Prop:=∀ args w,(callFunc f args).run P w=.ok (.enter f args) w
theorem aN {d:Option Nat}{f:Nat}{args:List Operand}{vs:Array Value}{R:Ending->World->Prop}(hf:Ent P f)
  (IH:(args.map a.eval).toArray=vs)
  (hc:Calls P f vs w R) (h:∀ e w',R e w'->∃ v,e=.returned v/\wpList P ops Q r (a.put d v) w') :
  wpList P ops Q (mk d (.call ⟨.value (.func f),args.toArray,#[]⟩)::r) a w:=by
 refine jr ?_
 unfold Oper.wp
 have:(execOp a.eval (mk d (.call ⟨.value (.func f),args.toArray,#[]⟩))).run P w=.ok (.enter f vs) w:=by
  have he:a.eval (.func f)=.func (.func f) #[] #[]:=rfl
  simp only[execOp,mk,resolve,he,Deferred.ofValue,invoke,Sem.run_bind,Sem.run_pure,Result.andThen_ok,Array.empty_append,Array.append_empty,List.map_toArray,IH]
  exact hf _ _
 rw[this]
 exact hc.mono fun e w' hR=>by
  obtain⟨v,rfl,hh⟩:=h e w' hR
  exact hh
theorem co {d:Option Nat}{op:BinOp}{T U:TypeId}{x y:Operand}{k:IntKind}{m n:Int}{v:Value}(hx:a.eval x=.int k m)(hy:a.eval y=.int k n)
  (hs:op≠.shl/\op≠.shr) (O6:(binOp op T (.int k m) (.int k n)).run P w=.ok v w) (h:wpList P ops Q r (a.put d v) w):wpList P ops Q (mk d (.binOp op T x y U)::r) a w:=by
 refine aB ?_ h
 have he:(eqGuard op T x y (.int k m) (.int k n)).run P w=.ok () w:=by
  unfold eqGuard
  cases op<;>simp
 simp only[execOp,mk,hx,hy,Sem.run_bind,he,Result.andThen_ok,O6,Sem.run_pure]
theorem mY {d:Option Nat}{T:TypeId}{x:Operand}{b:Bool}(hx:a.eval x=.bool b)(h:wpList P ops Q r (a.put d (.bool !b)) w):wpList P ops Q (mk d (.unOp .not T x)::r) a w:=by
 refine aB ?_ h
 simp[execOp,mk,hx,Op.unary]
theorem aL {d:Option Nat}{S T:TypeId}{x:Operand}{k k':IntKind}{m:Int}(hx:a.eval x=.int k m)(hS:P.underlying S=some (.int k))(hT:P.underlying T=some (.int k'))
  (h:wpList P ops Q r (a.put d (.int k' (k'.wrap m))) w):wpList P ops Q (mk d (.convert S T x)::r) a w:=by
 refine aB ?_ h
 simp[execOp,mk,hx,convert,run_underlying hS,run_underlying hT,Conv.intToInt]
theorem cZ {d:Option Nat}{T:TypeId}{z:Value}(hz:(zeroValue T).run P w=.ok z w)(h:wpList P ops Q r (a.put d (.pointer (some ⟨w.heap.size,0,none⟩))) (w.alloc (.cells z.cells T (0,0)))) :
  wpList P ops Q (mk d (.alloc T)::r) a w:=by
 refine aB (w':=w.alloc (.cells z.cells T (0,0))) ?_ h
 simp[execOp,mk,Instr.alloc,hz,newVar,newRow,newObj,Sem.run]
theorem uJ {d:Option Nat}{x:Operand}{F E:TypeId}{base:Option Addr}{n c:Nat}(hx:a.eval x=.slice base n c)(hF:P.underlying F=some (.slice E))
  {sz:Nat} (hs:(sizeOf E).run P w=.ok sz w) (h:wpList P ops Q r (a.put d (.slice base 0 c)) w) :
  wpList P ops Q (mk d (.slice F x none (some (.const (.int .i64 0))) none)::r) a w:=by
 refine aB ?_ h
 have e0:a.eval (.const (.int .i64 0))=.int .i64 0:=rfl
 cases base with
 | none=>
  by_cases hc:c=0
  ·subst hc
   simp[execOp,mk,hx,e0,Instr.sliceAt,Instr.slice,run_underlying hF,Instr.sliceBounds,Instr.sliceBound,asIntOf,hs]
  ·simp[execOp,mk,hx,e0,Instr.sliceAt,Instr.slice,run_underlying hF,Instr.sliceBounds,Instr.sliceBound,asIntOf,hs]
 | some b=>
  by_cases hc:c=0
  ·subst hc
   simp[execOp,mk,hx,e0,Instr.sliceAt,Instr.slice,run_underlying hF,Instr.sliceBounds,Instr.sliceBound,asIntOf,hs]
  ·simp[execOp,mk,hx,e0,Instr.sliceAt,Instr.slice,run_underlying hF,Instr.sliceBounds,Instr.sliceBound,asIntOf,hs,Addr.add]
theorem bS {d:Option Nat}{x y:Operand}{F E:TypeId}{b o n c i sz:Nat}{k:IntKind}(hx:a.eval x=.slice (some ⟨b,o,none⟩) n c)(hy:a.eval y=.int k i)(hi:i<n)(hF:P.underlying F=some (.slice E))
  (hs:(sizeOf E).run P w=.ok sz w) (h:wpList P ops Q r (a.put d (.pointer (some ⟨b,o+i*sz,none⟩))) w):wpList P ops Q (mk d (.indexAddr F x y)::r) a w:=by
 refine aB ?_ h
 simp[execOp,mk,hx,hy,Instr.indexAt,asIntOf,run_underlying hF,hs,hi,Addr.add_lit]
theorem dV {d:Option Nat}{x:Operand}{F E ty:TypeId}{base:Option Addr}{n c:Nat}(hx:a.eval x=.slice base n c)(hF:P.underlying F=some (.slice E))
  (h : wpList P ops Q r (a.put d (.int .i64 n)) w) : wpList P ops Q (⟨d, .call ⟨.builtin .len, #[x], #[F]⟩, ty, "", #[], none⟩ :: r) a w := by
 have hw : Region.wanted ⟨d, .call ⟨.builtin .len, #[x], #[F]⟩, ty, "", #[], none⟩ (yielded ops a.tmps) = true := by simp [Region.wanted]
 unfold wpList
 rw[if_pos hw]
 refine .inl ?_
 unfold Oper.wp
 have : (execOp a.eval ⟨d, .call ⟨.builtin .len, #[x], #[F]⟩, ty, "", #[], none⟩).run P w = .ok (.value (.int .i64 n)) w := by
  simp[execOp,resolve,invoke,builtin,hx,Builtin.len_,run_underlying hF,goInt]
 rw[this]
 exact h
theorem rP {d:Option Nat}{x y:Operand}{F E I ty:TypeId}{z:Value}{l bytes:Nat}{base:Option Addr}(hx:a.eval x=.slice base 0 0)(hy:a.eval y=.int .i32 l)(hl:0<l)(hF:P.underlying F=some (.slice E))(hI:P.underlying I=some (.int .i32))
  {i:TypeInfo} (hE:P.info? E=some i) (hz:i.zero=some z) (Ii:z.cells.size=i.size) (Jd:0<i.size) (_hbp:0<i.bytes) (hb:i.bytes=bytes) (IZ:l*bytes<=140737488355328) (hl31:l<2147483648)
  (h:∀ (c:Nat) (cs:Array Value),l<=c->c<=maxLen->cs.size=c*i.size->(∀ q j,q<l->j<i.size->cs[q*i.size+j]?=z.cells[j]?) ->
   wpList P ops Q r (a.put d (.slice (some ⟨w.heap.size,0,none⟩) l c)) (w.drew.alloc (.cells cs E (0,0)))) :
  wpList P ops Q (⟨d, .call ⟨.builtin .append, #[x, y], #[F, I]⟩, ty, "", #[], none⟩ :: r) a w := by
 have hw : Region.wanted ⟨d, .call ⟨.builtin .append, #[x, y], #[F, I]⟩, ty, "", #[], none⟩ (yielded ops a.tmps) = true := by simp [Region.wanted]
 unfold wpList
 rw[if_pos hw]
 refine .inl ?_
 unfold Oper.wp
 have NX:IntKind.i64.wrap (l:Int)=l:=by simp[IntKind.wrap,IntKind.bits,IntKind.signed];omega
 have VX:=grownCap_ge w l 0 E
 have SM:=grownCap_le_maxLen w l 0 E (by simp only[maxLen];omega)
 have h1:¬ (281474976710656<(l:Int)*(i.bytes:Int)):=by rw[hb,<- Int.natCast_mul];omega
 have WB:¬ (9223372036854775807<(l:Int)):=by omega
 have WD:¬ (281474976710656<Builtin.nextslicecap l 0*i.bytes):=by rw[nextslicecap_zero hl,hb];omega
 have Pi:l≠0:=by omega
 have Sk:i.size≠0:=by omega
 have Vd:¬ ((l:Int)<0):=by omega
 have NB:l*i.size≠0:=Nat.mul_ne_zero Pi Sk
 have Im : (execOp a.eval ⟨d, .call ⟨.builtin .append, #[x, y], #[F, I]⟩, ty, "", #[], none⟩).run P w =
   .ok (.value (.slice (some ⟨w.heap.size,0,none⟩) l (grownCap w l 0 E))) (w.drew.alloc (.cells (Builtin.zeroCells z.cells l++Builtin.zeroCells z.cells (grownCap w l 0 E-l)) E)):=by
  cases base<;>simp[execOp,resolve,invoke,builtin,hx,hy,Builtin.append_,run_underlying hF,run_underlying hI,sizeOf,typeInfo,zeroValue,hE,hz,asInt,asIntOf,NX,h1,WB,WD,Pi,Vd,NB,Question.forced,Builtin.firstCells,loadCells,loadCellsFrom,newRow,grownCap]
 rw[Im]
 refine h (grownCap w l 0 E) _ VX SM ?_ ?_
 ·simp only[Array.size_append,size_zeroCells,Ii,<- Nat.add_mul]
  congr 1
  omega
 ·intro q j hq hj
  have Id:q*i.size+j<l*i.size:=by
   have:(q+1)*i.size<=l*i.size:=Nat.mul_le_mul_right _ hq
   rw[Nat.add_mul]at this
   omega
  rw[Array.getElem?_append_left (by rw[size_zeroCells,Ii];exact Id)]
  simp only[Builtin.zeroCells,Ii,Array.getElem?_map]
  rw[Array.getElem?_range]
  have hm:(q*i.size+j)%i.size=j:=by rw[Nat.add_comm,Nat.add_mul_mod_self_right,Nat.mod_eq_of_lt hj]
  simp[Id,hm,getElem!_pos,Ii,hj]
end ops
structure ac (X:Nat->Prop)(w w':World):Prop where
 os:w'.os=w.os
 tape:w'.tape=w.tape
 output:w'.output=w.output
 size:w.heap.size<=w'.heap.size
 block:∀ k,k<w.heap.size->¬ X k->w'.heap[k]?=w.heap[k]?
theorem ac.refl (X:Nat->Prop)(w:World):ac X w w:=⟨rfl,rfl,rfl,Nat.le_refl _,fun _ _ _=>rfl⟩
theorem ac.trans {X:Nat->Prop}{a b c:World}(h:ac X a b)(k:ac X b c):ac X a c:=
 ⟨k.os.trans h.os,k.tape.trans h.tape,k.output.trans h.output,Nat.le_trans h.size k.size,fun i hi hx=>(k.block i (Nat.lt_of_lt_of_le hi h.size) hx).trans (h.block i hi hx)⟩
theorem ac.mono {X Y:Nat->Prop}{a b:World}(h:ac X a b)(Uk:∀ k,k<a.heap.size->X k->Y k):ac Y a b:=
 ⟨h.os,h.tape,h.output,h.size,fun i hi hy=>h.block i hi (fun hx=>hy (Uk i hi hx))⟩
theorem ac.drew (X:Nat->Prop)(w:World):ac X w w.drew:=⟨rfl,rfl,rfl,Nat.le_refl _,fun _ _ _=>rfl⟩
theorem ac.alloc (X:Nat->Prop)(w:World)(o:Obj):ac X w (w.alloc o):=
 ⟨rfl,rfl,rfl,by simp,fun k hk _=>by show(w.heap.push o)[k]?=_;rw[Array.getElem?_push,if_neg (by omega)]⟩
theorem ac.setRow (X:Nat->Prop)(w:World)(g:Nat)(cs:Array Value)(hg:X g):ac X w (w.setRow g cs):=
 ⟨rfl,rfl,rfl,by simp,fun k _ hk=>setRow_other w g k cs (fun e=>hk (e ▸ hg))⟩
theorem bP {w:World}{b o:Nat}{v:Value}(h:w.cell? ⟨b,o,none⟩=some v):b<w.heap.size:=World.block_lt_of_cell? w ⟨b,o,none⟩ h
theorem bF {w w':World}{b:Nat}(h:w'.heap[b]?=w.heap[b]?)(o:Nat):w'.cell? ⟨b,o,none⟩=w.cell? ⟨b,o,none⟩:=by simp[World.cell?,h]
theorem ac.cell {X:Nat->Prop}{w w':World}(h:ac X w w'){b o:Nat}{v:Value}(hb:¬ X b)(hv:w.cell? ⟨b,o,none⟩=some v):w'.cell? ⟨b,o,none⟩=some v:=by
 rw[bF (h.block b (bP hv) hb)];exact hv
def ez (w:World)(b o:Nat)(l:Bs):Prop:=∀ i x,l[i]?=some x->w.cell? ⟨b,o+i,none⟩=some (.int .u8 (x.toNat:Int))
theorem ez.keep {X:Nat->Prop}{w w':World}{b o:Nat}{l:Bs}(h:ez w b o l)(hk:ac X w w')(hb:¬ X b):ez w' b o l:=
 fun i x hi=>hk.cell hb (h i x hi)
def ci (w:World)(X:Nat->Prop)(v:Value)(l:Bs):Prop:=
 (v=.slice none 0 0/\l=[]) \/ ∃ b o c,v=.slice (some ⟨b,o,none⟩) l.length c/\¬ X b/\b<w.heap.size/\l.length<=c/\c<=maxLen/\ez w b o l
theorem ci.keep {X:Nat->Prop}{w w':World}{v:Value}{l:Bs}(h:ci w X v l)(hk:ac X w w'):ci w' X v l:=by
 rcases h with h|⟨b,o,c,hv,hb,hs,hc,hm,ho⟩
 ·exact .inl h
 ·exact .inr ⟨b,o,c,hv,hb,Nat.lt_of_lt_of_le hs hk.size,hc,hm,ho.keep hk hb⟩
theorem ci.mono {X Y:Nat->Prop}{w:World}{v:Value}{l:Bs}(h:ci w X v l)(hy:∀ k,k<w.heap.size->Y k->X k):ci w Y v l:=by
 rcases h with h|⟨b,o,c,hv,hb,hs,hc,hm,ho⟩
 ·exact .inl h
 ·exact .inr ⟨b,o,c,hv,fun hh=>hb (hy b hs hh),hs,hc,hm,ho⟩
structure aI where
 key:Nat
 val:Value
 born:Nat
def aI.entry (e:aI):MapEntry:=⟨.int .u32 (e.key:Int),e.val,e.born⟩
def gi:List (Nat × Bs)->Prop
 | []=>True
 | [_]=>True
 | x::y::r=>x.1<y.1/\gi (y::r)
def iq (w:World)(X:Nat->Prop)(r:Nat)(t:List (Nat × Bs)):Prop:=
 ∃ (es:List aI) (clock:Nat) (f:aI->Bs),w.heap[r]?=some (.map (es.map aI.entry).toArray clock)/\(∀ e∈es,e.key<4294967296/\e.born<clock/\ci w (fun k=>X k \/ k=r) e.val (f e)) /\
  (es.map aI.born).Nodup/\(es.map aI.key).Nodup/\(es.map fun e=>(e.key,f e)).Perm t/\gi t
theorem iq.keep {X:Nat->Prop}{w w':World}{r:Nat}{t:List (Nat × Bs)}(h:iq w X r t)(hk:ac X w w')(hr:¬ X r):iq w' X r t:=by
 obtain⟨es,c,f,hh,he,h1,h2,h3,h4⟩:=h
 exact⟨es,c,f,by rw[hk.block r (Array.getElem?_eq_some_iff.1 hh).1 hr];exact hh,fun e hm=>⟨(he e hm).1,(he e hm).2.1,(he e hm).2.2.keep (hk.mono fun _ _ h=>.inl h)⟩,h1,h2,h3,h4⟩
theorem iq.mono {X Y:Nat->Prop}{w:World}{r:Nat}{t:List (Nat × Bs)}(h:iq w X r t)(hy:∀ k,k<w.heap.size->Y k->X k):iq w Y r t:=by
 obtain⟨es,c,f,hh,he,h1,h2,h3,h4⟩:=h
 exact⟨es,c,f,hh,fun e hm=>⟨(he e hm).1,(he e hm).2.1,(he e hm).2.2.mono fun k hk h=>h.elim (fun h=>.inl (hy k hk h)) .inr⟩,h1,h2,h3,h4⟩
def cF (w:World)(X:Nat->Prop)(v:Value)(t:List (Nat × Bs)):Prop:=
 (v=.map none/\t=[]) \/ ∃ r,v=.map (some r)/\¬ X r/\r<w.heap.size/\iq w X r t/\t≠[]
theorem cF.keep {X:Nat->Prop}{w w':World}{v:Value}{t:List (Nat × Bs)}(h:cF w X v t)(hk:ac X w w'):cF w' X v t:=by
 rcases h with h|⟨r,hv,hr,hs,hm,Kl⟩
 ·exact .inl h
 ·exact .inr ⟨r,hv,hr,Nat.lt_of_lt_of_le hs hk.size,hm.keep hk hr,Kl⟩
theorem cF.mono {X Y:Nat->Prop}{w:World}{v:Value}{t:List (Nat × Bs)}(h:cF w X v t)(hy:∀ k,k<w.heap.size->Y k->X k):cF w Y v t:=by
 rcases h with h|⟨r,hv,hr,hs,hm,Kl⟩
 ·exact .inl h
 ·exact .inr ⟨r,hv,fun hh=>hr (hy r hs hh),hs,hm.mono hy,Kl⟩
def cY.kind:cY->IntKind
 | .i8=>.i8|.i16=>.i16|.u16=>.u16|.i32=>.i32|_=>.i64
def cY.fits:cY->Int->Prop
 | .bool,x=>x=0 \/ x=1
 | .i8,x=>-128<=x/\x<128
 | .i16,x=>-32768<=x/\x<32768
 | .u16,x=>0<=x/\x<65536
 | .i32,x=>-2147483648<=x/\x<2147483648
 | .i64,x=>-9223372036854775808<=x/\x<9223372036854775808
 | .uuid,_=>False
def gT (w:World)(X:Nat->Prop):Ty->List Value->V->Prop
 | .prim .bool,cs,v=>∃ b:Bool,cs=[.bool b]/\v=.n (if b then 1 else 0)
 | .prim .uuid,cs,v=>∃ l:Bs,l.length=16/\cs=l.map (fun b=>.int .u8 (b.toNat:Int))/\v=.s l
 | .prim p,cs,v=>∃ x:Int,cs=[.int p.kind x]/\v=.n x/\p.fits x
 | .str none,cs,v=>∃ l:Bs,cs=[.string ⟨l.toArray⟩]/\v=.s l/\l.length<=maxLen
 | .str (some _),cs,v=>(cs=[.pointer none]/\v=.nul) \/ ∃ (l:Bs) (b o:Nat),cs=[.pointer (some ⟨b,o,none⟩)]/\¬ X b/\w.cell? ⟨b,o,none⟩=some (.string ⟨l.toArray⟩)/\v=.s l/\l.length<=maxLen
 | .bytes _,cs,v=>(cs=[.slice none 0 0]/\v=.nul) \/ ∃ (l:Bs) (b o c:Nat),cs=[.slice (some ⟨b,o,none⟩) l.length c]/\¬ X b/\b<w.heap.size/\l.length<=c/\c<=maxLen/\ez w b o l/\v=.s l
 | _,_,_=>False
theorem gT.keep {X:Nat->Prop}{w w':World}{ty:Ty}{cs:List Value}{v:V}(h:gT w X ty cs v)(hk:ac X w w'):gT w' X ty cs v:=by
 cases ty with
 | prim p=>cases p<;>exact h
 | str nul=>
  cases nul with
  | none=>exact h
  | some m=>
   rcases h with h|⟨l,b,o,h1,h2,h3,h4⟩
   ·exact .inl h
   ·exact .inr ⟨l,b,o,h1,h2,hk.cell h2 h3,h4⟩
 | bytes nul=>
  rcases h with h|⟨l,b,o,c,h1,h2,h3,h4,h5,h6,h7⟩
  ·exact .inl h
  ·exact .inr ⟨l,b,o,c,h1,h2,Nat.lt_of_lt_of_le h3 hk.size,h4,h5,h6.keep hk h2,h7⟩
 | list=>exact h.elim
 | struct=>exact h.elim
theorem gT.mono {X Y:Nat->Prop}{w:World}{ty:Ty}{cs:List Value}{v:V}(h:gT w X ty cs v)(hy:∀ k,k<w.heap.size->Y k->X k):gT w Y ty cs v:=by
 cases ty with
 | prim p=>cases p<;>exact h
 | str nul=>
  cases nul with
  | none=>exact h
  | some m=>
   rcases h with h|⟨l,b,o,h1,h2,h3,h4⟩
   ·exact .inl h
   ·exact .inr ⟨l,b,o,h1,fun hh=>h2 (hy b (bP h3) hh),h3,h4⟩
 | bytes nul=>
  rcases h with h|⟨l,b,o,c,h1,h2,h3,h4,h5,h6,h7⟩
  ·exact .inl h
  ·exact .inr ⟨l,b,o,c,h1,fun hh=>h2 (hy b h3 hh),h3,h4,h5,h6,h7⟩
 | list=>exact h.elim
 | struct=>exact h.elim
def Ty.leaf:Ty->Bool
 | .prim _|.str _|.bytes _=>true
 | _=>false
def dl:Option Nat->Nat|some k=>k+1|none=>0
mutual
def Ty.sz:Ty->Nat
 | .prim .uuid=>16
 | .struct none toff fs=>fs.ext (dl toff)
 | _=>1
def Fds.ext:Fds->Nat->Nat
 | .nil,m=>m
 | .cons _ _ _ _ off ty r,m=>r.ext (Nat.max m (off+ty.sz))
end
def dJ (w:World)(X:Nat->Prop)(b o:Nat)(toff:Option Nat)(t:List (Nat × Bs)):Prop:=
 match toff with
 | some k=>∃ m,w.cell? ⟨b,o+k,none⟩=some m/\cF w X m t
 | none=>t=[]
theorem dJ.frame {X:Nat->Prop}{w w':World}{b o:Nat}{toff:Option Nat}{t:List (Nat × Bs)}(h:dJ w X b o toff t)(hk:ac X w w')(hs:∀ k,toff=some k->w'.cell? ⟨b,o+k,none⟩=w.cell? ⟨b,o+k,none⟩):dJ w' X b o toff t:=by
 cases toff with
 | none=>exact h
 | some k=>obtain⟨m,h1,h2⟩:=h;exact⟨m,by rw[hs k rfl];exact h1,h2.keep hk⟩
theorem dJ.mono {X Y:Nat->Prop}{w:World}{b o:Nat}{toff:Option Nat}{t:List (Nat × Bs)}(h:dJ w X b o toff t)(hy:∀ k,k<w.heap.size->Y k->X k):dJ w Y b o toff t:=by
 cases toff with
 | none=>exact h
 | some k=>obtain⟨m,h1,h2⟩:=h;exact⟨m,h1,h2.mono hy⟩
def au (w:World)(b o:Nat)(cs:List Value):Prop:=∀ j c,cs[j]?=some c->w.cell? ⟨b,o+j,none⟩=some c
mutual
def Rp (w:World)(X:Nat->Prop):Ty->Nat->Nat->V->Prop
 | .prim p,b,o,v=>∃ cs,au w b o cs/\gT w X (.prim p) cs v
 | .str nul,b,o,v=>∃ cs,au w b o cs/\gT w X (.str nul) cs v
 | .bytes nul,b,o,v=>∃ cs,au w b o cs/\gT w X (.bytes nul) cs v
 | .list _ esz e,b,o,v=>
  (w.cell? ⟨b,o,none⟩=some (.slice none 0 0)/\v=.nul) \/
  ∃ (xs:List V) (p q c:Nat),w.cell? ⟨b,o,none⟩=some (.slice (some ⟨p,q,none⟩) xs.length c)/\¬ X p/\p<w.heap.size/\xs.length<=c/\c<=maxLen/\v=.l xs /\
   ∀ i x,xs[i]?=some x->Rp w X e p (q+i*esz) x
 | .struct none toff fs,b,o,v=>∃ (vs:List V) (t:List (Nat × Bs)),v=.st vs t/\RpF w X fs b o vs/\dJ w X b o toff t
 | .struct (some _) toff fs,b,o,v=>
  (w.cell? ⟨b,o,none⟩=some (.pointer none)/\v=.nul) \/
  ∃ (p q:Nat) (vs:List V) (t:List (Nat × Bs)),w.cell? ⟨b,o,none⟩=some (.pointer (some ⟨p,q,none⟩))/\¬ X p/\p<w.heap.size/\v=.st vs t/\RpF w X fs p q vs/\dJ w X p q toff t
def RpF (w:World)(X:Nat->Prop):Fds->Nat->Nat->List V->Prop
 | .nil,_,_,vs=>vs=[]
 | .cons _ _ _ _ off ty r,b,o,vs=>∃ v vs',vs=v::vs'/\Rp w X ty b (o+off) v/\RpF w X r b o vs'
end
theorem gT.len {w:World}{X:Nat->Prop}{ty:Ty}{cs:List Value}{v:V}(h:gT w X ty cs v):cs.length=ty.sz:=by
 cases ty with
 | prim p=>
  cases p
  case bool=>obtain⟨b,rfl,_⟩:=h;rfl
  case uuid=>obtain⟨l,hl,rfl,_⟩:=h;simpa[Ty.sz]using hl
  all_goals (obtain⟨x,rfl,_⟩:=h;rfl)
 | str nul=>
  cases nul with
  | none=>obtain⟨l,rfl,_⟩:=h;rfl
  | some m=>
   rcases h with⟨rfl,_⟩|⟨l,b,o,rfl,_⟩<;>rfl
 | bytes nul=>
  rcases h with⟨rfl,_⟩|⟨l,b,o,c,rfl,_⟩<;>rfl
 | list=>exact h.elim
 | struct=>exact h.elim
theorem au.same {w w':World}{b o:Nat}{cs:List Value}(h:au w b o cs)(hs:∀ j,o<=j->j<o+cs.length->w'.cell? ⟨b,j,none⟩=w.cell? ⟨b,j,none⟩):au w' b o cs:=by
 intro j c hj
 have Id:j<cs.length:=(List.getElem?_eq_some_iff.1 hj).1
 rw[hs (o+j) (by omega) (by omega)]
 exact h j c hj
theorem jc:∀ (fs:Fds) (m:Nat),m<=fs.ext m
 | .nil,m=>Nat.le_refl m
 | .cons _ _ _ _ off ty r,m=>Nat.le_trans (Nat.le_max_left m (off+ty.sz)) (jc r _)
mutual
theorem Rp.frame {X:Nat->Prop}{w w':World}(hk:ac X w w'):∀ (ty:Ty) (b o:Nat) (v:V),Rp w X ty b o v ->
  (∀ j,o<=j->j<o+ty.sz->w'.cell? ⟨b,j,none⟩=w.cell? ⟨b,j,none⟩)->Rp w' X ty b o v
 | .prim p,b,o,v,h,hs=>by
  obtain⟨cs,hc,hl⟩:=h
  exact⟨cs,hc.same (by rw[hl.len];exact hs),hl.keep hk⟩
 | .str nul,b,o,v,h,hs=>by
  obtain⟨cs,hc,hl⟩:=h
  exact⟨cs,hc.same (by rw[hl.len];exact hs),hl.keep hk⟩
 | .bytes nul,b,o,v,h,hs=>by
  obtain⟨cs,hc,hl⟩:=h
  exact⟨cs,hc.same (by rw[hl.len];exact hs),hl.keep hk⟩
 | .list nul esz e,b,o,v,h,hs=>by
  have h0:w'.cell? ⟨b,o,none⟩=w.cell? ⟨b,o,none⟩:=hs o (Nat.le_refl _) (by simp[Ty.sz])
  rcases h with⟨h1,h2⟩|⟨xs,p,q,c,h1,h2,h3,h4,h5,h6,h7⟩
  ·exact .inl ⟨by rw[h0];exact h1,h2⟩
  ·refine .inr ⟨xs,p,q,c,by rw[h0];exact h1,h2,Nat.lt_of_lt_of_le h3 hk.size,h4,h5,h6,fun i x hi=>?_⟩
   exact Rp.frame hk e p _ x (h7 i x hi) (fun j _ _=>bF (hk.block p h3 h2) j)
 | .struct none toff fs,b,o,v,h,hs=>by
  obtain⟨vs,t,h1,h2,h3⟩:=h
  have Iq:=jc fs (dl toff)
  simp only[Ty.sz]at hs
  exact⟨vs,t,h1,RpF.frame hk fs b o vs _ h2 hs,h3.frame hk fun k J1=>by subst J1;simp only[dl]at Iq hs;exact hs (o+k) (by omega) (by omega)⟩
 | .struct (some n) toff fs,b,o,v,h,hs=>by
  have h0:w'.cell? ⟨b,o,none⟩=w.cell? ⟨b,o,none⟩:=hs o (Nat.le_refl _) (by simp[Ty.sz])
  rcases h with⟨h1,h2⟩|⟨p,q,vs,t,h1,h2,h3,h4,h5,h6⟩
  ·exact .inl ⟨by rw[h0];exact h1,h2⟩
  ·have hp:∀ j,w'.cell? ⟨p,j,none⟩=w.cell? ⟨p,j,none⟩:=fun j=>bF (hk.block p h3 h2) j
   exact .inr ⟨p,q,vs,t,by rw[h0];exact h1,h2,Nat.lt_of_lt_of_le h3 hk.size,h4,RpF.frame hk fs p q vs 0 h5 (fun j _ _=>hp j),h6.frame hk fun k _=>hp _⟩
theorem RpF.frame {X:Nat->Prop}{w w':World}(hk:ac X w w'):∀ (fs:Fds) (b o:Nat) (vs:List V) (m:Nat),RpF w X fs b o vs ->
  (∀ j,o<=j->j<o+fs.ext m->w'.cell? ⟨b,j,none⟩=w.cell? ⟨b,j,none⟩)->RpF w' X fs b o vs
 | .nil,b,o,vs,m,h,hs=>h
 | .cons lo hi tag df off ty r,b,o,vs,m,h,hs=>by
  obtain⟨v,vs',h1,h2,h3⟩:=h
  have Iq:Nat.max m (off+ty.sz)<=r.ext (Nat.max m (off+ty.sz)):=jc r _
  have PX:off+ty.sz<=Nat.max m (off+ty.sz):=Nat.le_max_right _ _
  exact⟨v,vs',h1,Rp.frame hk ty b (o+off) v h2 (fun j hj hj2=>hs j (by omega) (by simp only[Fds.ext];omega)),RpF.frame hk r b o vs' (Nat.max m (off+ty.sz)) h3 hs⟩
end
mutual
theorem Rp.mono {X Y:Nat->Prop}{w:World}(hy:∀ k,k<w.heap.size->Y k->X k):∀ (ty:Ty) (b o:Nat) (v:V),Rp w X ty b o v->Rp w Y ty b o v
 | .prim p,b,o,v,h=>by obtain⟨cs,hc,hl⟩:=h;exact⟨cs,hc,hl.mono hy⟩
 | .str nul,b,o,v,h=>by obtain⟨cs,hc,hl⟩:=h;exact⟨cs,hc,hl.mono hy⟩
 | .bytes nul,b,o,v,h=>by obtain⟨cs,hc,hl⟩:=h;exact⟨cs,hc,hl.mono hy⟩
 | .list nul esz e,b,o,v,h=>by
  rcases h with h|⟨xs,p,q,c,h1,h2,h3,h4,h5,h6,h7⟩
  ·exact .inl h
  ·exact .inr ⟨xs,p,q,c,h1,fun hh=>h2 (hy p h3 hh),h3,h4,h5,h6,fun i x hi=>Rp.mono hy e p _ x (h7 i x hi)⟩
 | .struct none toff fs,b,o,v,h=>by
  obtain⟨vs,t,h1,h2,h3⟩:=h
  exact⟨vs,t,h1,RpF.mono hy fs b o vs h2,h3.mono hy⟩
 | .struct (some n) toff fs,b,o,v,h=>by
  rcases h with h|⟨p,q,vs,t,h1,h2,h3,h4,h5,h6⟩
  ·exact .inl h
  ·exact .inr ⟨p,q,vs,t,h1,fun hh=>h2 (hy p h3 hh),h3,h4,RpF.mono hy fs p q vs h5,h6.mono hy⟩
theorem RpF.mono {X Y:Nat->Prop}{w:World}(hy:∀ k,k<w.heap.size->Y k->X k):∀ (fs:Fds) (b o:Nat) (vs:List V),RpF w X fs b o vs->RpF w Y fs b o vs
 | .nil,b,o,vs,h=>h
 | .cons lo hi tag df off ty r,b,o,vs,h=>by
  obtain⟨v,vs',h1,h2,h3⟩:=h
  exact⟨v,vs',h1,Rp.mono hy ty b _ v h2,RpF.mono hy r b o vs' h3⟩
end
theorem Rp.keep {X:Nat->Prop}{w w':World}(hk:ac X w w'){ty:Ty}{b o:Nat}{v:V}(h:Rp w X ty b o v)(hb:¬ X b)(Id:b<w.heap.size):Rp w' X ty b o v:=
 Rp.frame hk ty b o v h (fun j _ _=>bF (hk.block b Id hb) j)
def bD (w:World)(S:Nat)(v:Value)(r:RS):Prop:=
 (v=.slice none 0 0/\r.src=[]/\r.nl=true) \/
 ∃ o c,v=.slice (some ⟨S,o,none⟩) r.src.length c/\r.nl=false/\r.src.length<=c/\c<=maxLen/\S<w.heap.size/\ez w S o r.src
def cy (w:World)(T S R:Nat)(r:RS):Prop:=
 ∃ v,w.heap[R]?=some (.cells #[v,.bool r.bad] T (0,0))/\bD w S v r
theorem bD.keep {X:Nat->Prop}{w w':World}{S:Nat}{v:Value}{r:RS}(h:bD w S v r)(hk:ac X w w')(hS:¬ X S):bD w' S v r:=by
 rcases h with h|⟨o,c,h1,h2,h3,h4,h5,h6⟩
 ·exact .inl h
 ·exact .inr ⟨o,c,h1,h2,h3,h4,Nat.lt_of_lt_of_le h5 hk.size,h6.keep hk hS⟩
theorem cy.keep {X:Nat->Prop}{w w':World}{T S R:Nat}{r:RS}(h:cy w T S R r)(hk:ac X w w')(hS:¬ X S)(hR:¬ X R):cy w' T S R r:=by
 obtain⟨v,h1,h2⟩:=h
 exact⟨v,by rw[hk.block R (Array.getElem?_eq_some_iff.1 h1).1 hR];exact h1,h2.keep hk hS⟩
theorem cy.lt {w:World}{T S R:Nat}{r:RS}(h:cy w T S R r):R<w.heap.size:=by
 obtain⟨v,h1,_⟩:=h
 exact(Array.getElem?_eq_some_iff.1 h1).1
structure G where
 rd:PF->Nat
 un:PF->Nat
 len:Nat
 clen:Nat
 ok:Nat
 complete:Nat
 uv:Nat
 span:Nat
 tags:Nat
 set:Nat
 tR:Nat
 tUuid:Nat
 tVer:Nat
 tI8:Nat
 tI32:Nat
 tU32:Nat
 tInt:Nat
 tBool:Nat
 tErr:Nat
 tTags:Nat
 tSl:Nat
 tStr:Nat
 gErr:Nat
inductive Nm where
 | mk (l:List Nat) (s:List Nm)
def Nm.l:Nm->List Nat|.mk l _=>l
def Nm.s:Nm->List Nm|.mk _ s=>s
def Nm.n (m:Nm)(i:Nat):Nat:=m.l.getD i 0
def Nm.sub (m:Nm)(i:Nat):Nm:=m.s.getD i (.mk [] [])
def b7 (f:Nat):Bool:=f != 999999
def qk (g:G)(hf:Bool):Bool:=b7 g.len&&b7 g.ok&&(!hf || b7 g.clen)
structure Cx where
 hf:Bool
 b:Nat
 s:Nat
 ver:Nat
 fx:Nat
abbrev GC:=Nat->Code × Nat
def ay (k:Nat)(f:Nat->List Oper):GC:=fun n=>(rg (f n),n+k)
def aS (c:Code):GC:=fun n=>(c,n)
def gL:List GC->Nat->List Code × Nat
 | [],n=>([],n)
 | x::r,n=>((x n).1::(gL r (x n).2).1,(gL r (x n).2).2)
def gS (l:List GC):GC:=fun n=>(sq (gL l n).1,(gL l n).2)
def dM (t k:Nat)(ops:Nat->List Oper)(A B:GC):GC:=fun n=>
 (.seq (rg (ops n)) (.cond (tm (n+t)) (A (n+k)).1 (B (A (n+k)).2).1),(B (A (n+k)).2).2)
def bp:GC:=aS .skip
def gd (d : Nat) (op : Op) (j : Nat) (b : Bool) : Oper := ⟨some d, op, 0, "", #[], some (j, b)⟩
def bi (d : Option Nat) (b : Builtin) (args : List Operand) (tys : List Nat) (ty : Nat) : Oper := ⟨d, .call ⟨.builtin b, args.toArray, tys.toArray⟩, ty, "", #[], none⟩
def cl (d:Option Nat)(f:Nat)(args:List Operand):Oper:=mk d (.call ⟨.value (.func f),args.toArray,#[]⟩)
def ki (k:IntKind)(x:Int):Operand:=.const (.int k x)
def aC (f b v:Nat):GC:=ay 1 fun n=>[cl (some n) f [tm b],mk (some v) (.assign (tm n))]
def aR (v:Nat)(x:Value):GC:=ay 0 fun _=>[mk (some v) (.assign (.const x))]
def b6 (x y:Nat):GC:=ay 1 fun n=>[mk (some n) (.move (tm x)),mk (some y) (.assign (tm n))]
def cg (s v T k F:Nat):GC:=ay 4 fun n=>[mk (some n) (.move (tm s)),mk (some (n+1)) (.nilCheck (tm n)),mk (some (n+2)) (.fieldAddr T (tm (n+1)) k),mk (some (n+3)) (.load F (tm (n+2))),mk (some v) (.assign (tm (n+3)))]
def iz (uu:Option Nat)(s v T k F:Nat):GC:=ay 4 fun n=>[mk (some n) (.move (tm s)),mk (some (n+1)) (match uu with|some u=>.load u (tm v)|none=>.move (tm v)),mk (some (n+2)) (.nilCheck (tm n)),
 mk (some (n+3)) (.fieldAddr T (tm (n+2)) k),mk none (.store F (tm (n+3)) (tm (n+1)))]
def gX (cx:Cx)(A B:GC):GC:=dM 0 1 (fun n=>[mk (some n) (.move (tm cx.fx))]) A B
def je (A B:GC):GC:=dM 0 1 (fun n=>[mk (some n) (.move (tm 2))]) A B
def dA (g:G)(cx:Cx)(lo:Nat)(hi:Option Nat)(A:GC):GC:=
 match hi with
 | some h=>dM 5 6 (fun n=>[mk (some n) (.move (tm cx.ver)),mk (some (n+1)) (.binOp .geq g.tVer (tm n) (ki .i16 lo) 0),mk (some (n+2)) (.move (tm (n+1))),gd (n+3) (.move (tm cx.ver)) 2 true,
   gd (n+4) (.binOp .leq g.tVer (tm (n+3)) (ki .i16 h) 0) 2 true,mk (some (n+5)) (.pick (tm (n+2)) (tm (n+4)) (.const (.bool false)))]) A bp
 | none=>if lo=0 then A else dM 1 2 (fun n=>[mk (some n) (.move (tm cx.ver)),mk (some (n+1)) (.binOp .geq g.tVer (tm n) (ki .i16 lo) 0)]) A bp
def g7 (g:G)(cx:Cx)(ty:Ty)(v:Nat)(x:List Nat):List GC:=
 match ty with
 | .prim .uuid=>[ay 1 fun n=>[cl (some n) (g.rd .uuid) [tm cx.b],mk (some v) (.alloc g.tUuid),mk none (.store g.tUuid (tm v) (tm n))]]
 | .prim p=>
  match x with
  | [t,u]=>[aR t (.int .i8 0),gS [aC (g.rd (bI p)) cx.b u,b6 u t],b6 t v]
  | _=>[aC (g.rd (bI p)) cx.b v]
 | .str nul=>
  let c (p:PF):GC:=aC (g.rd p) cx.b v
  let u (p:PF):GC:=aC (g.un p) cx.b v
  let nn:GC:=if cx.hf then gX cx (je (u .cnstr) (c .cnstr)) (je (u .nstr) (c .nstr))else je (u .nstr) (c .nstr)
  match nul with
  | some 0=>[aR v (.pointer none),nn]
  | some (m+1)=>
   let d (f:Nat):GC:=ay 1 fun n=>[cl (some n) f [tm cx.b],mk none (.store g.tStr (tm (x.getD 0 0)) (tm n))]
   [aR v (.pointer none),dM 1 2 (fun n=>[mk (some n) (.move (tm cx.ver)),mk (some (n+1)) (.binOp .lss g.tVer (tm n) (ki .i16 ((m:Int)+1)) 0)])
    (gS [ay 0 fun _=>[mk (some (x.getD 0 0)) (.alloc g.tStr)],
     if cx.hf then gX cx (je (d (g.un .cstr)) (d (g.rd .cstr))) (je (d (g.un .str)) (d (g.rd .str)))else je (d (g.un .str)) (d (g.rd .str)),
     ay 0 fun _=>[mk (some v) (.assign (tm (x.getD 0 0)))]]) nn]
  | none=>[aR v (.string ⟨#[]⟩),if cx.hf then je (gX cx (u .cstr) (u .str)) (gX cx (c .cstr) (c .str))else je (u .str) (c .str)]
 | .bytes nul=>
  let c (p:PF):GC:=aC (g.rd p) cx.b v
  if cx.hf then[aR v (.slice none 0 0),gX cx (c (bR nul.isSome true)) (c (bR nul.isSome false))] else[c (bR nul.isSome false)]
 | _=>[]
def ko (g:G):Ty->Option Nat
 | .prim .uuid=>some g.tUuid
 | _=>none
def CP (g:G)(b:Nat):GC:=gS [ay 1 fun n=>[cl (some n) g.complete [tm b],mk (some 6) (.assign (tm n))],aS .ret]
def nX (g:G)(cx:Cx):GC:=dM 1 2 (fun n=>[cl (some n) g.ok [tm cx.b],mk (some (n+1)) (.unOp .not g.tBool (tm n))]) (CP g cx.b) bp
def jn (g:G)(cx:Cx)(nul:Option Nat)(a l F:Nat):List GC:=
 match nul with
 | none=>[]
 | some m=>[dM 5 6 (fun n=>[mk (some n) (.move (tm cx.ver)),mk (some (n+1)) (.binOp .lss g.tVer (tm n) (ki .i16 m) 0),mk (some (n+2)) (.move (tm (n+1))),gd (n+3) (.move (tm l)) 2 false,
   gd (n+4) (.binOp .eql g.tI32 (tm (n+3)) (ki .i32 0) 0) 2 false,mk (some (n+5)) (.pick (tm (n+2)) (.const (.bool true)) (tm (n+4)))])
   (ay 1 fun n=>[mk (some n) (.buildSlice F 0 #[]),mk (some a) (.assign (tm n))]) bp]
def yM (a F:Nat):GC:=ay 2 fun n=>[mk (some n) (.move (tm a)),mk (some (n+1)) (.slice F (tm n) none (some (ki .i64 0)) none),mk (some a) (.assign (tm (n+1)))]
def pf (g:G)(a l F:Nat):GC:=dM 1 2 (fun n=>[mk (some n) (.move (tm l)),mk (some (n+1)) (.binOp .gtr g.tI32 (tm n) (ki .i32 0) 0)])
 (ay 3 fun n=>[mk (some n) (.move (tm a)),mk (some (n+1)) (.move (tm l)),bi (some (n+2)) .append [tm n,tm (n+1)] [F,g.tI32] F,mk (some a) (.assign (tm (n+2)))]) bp
def td (g:G)(i l b1 b2:Nat)(body:GC):GC:=fun n=>
 (.seq (rg [mk (some i) (.assign (ki .i32 0))])
  (.block b1 (.loop (.seq (.seq (rg [mk (some n) (.move (tm i)),mk (some (n+1)) (.move (tm l)),mk (some (n+2)) (.binOp .lss g.tI32 (tm n) (tm (n+1)) 0)]) (.cond (tm (n+2)) .skip (.exit b1)))
   (.seq (.block b2 (body (n+5)).1) (rg [mk (some (n+3)) (.move (tm i)),mk (some (n+4)) (.binOp .add g.tI32 (tm (n+3)) (ki .i32 1) 0),mk (some i) (.assign (tm (n+4)))]))))),
 (body (n+5)).2)
def jY (uu:Option Nat)(a i v F E:Nat):GC:=ay 4 fun n=>[mk (some n) (.move (tm a)),mk (some (n+1)) (.move (tm i)),mk (some (n+2)) (match uu with|some u=>.load u (tm v)|none=>.move (tm v)),
 mk (some (n+3)) (.indexAddr F (tm n) (tm (n+1))),mk none (.store E (tm (n+3)) (tm (n+2)))]
def dI (a i v F:Nat):GC:=ay 3 fun n=>[mk (some n) (.move (tm a)),mk (some (n+1)) (.move (tm i)),mk (some (n+2)) (.indexAddr F (tm n) (tm (n+1))),mk (some v) (.assign (tm (n+2)))]
def cO (v f:Nat):GC:=ay 2 fun n=>[mk (some n) (.move (tm v)),cl (some (n+1)) f [tm n]]
def eQ (s v T k:Nat):GC:=ay 3 fun n=>[mk (some n) (.move (tm s)),mk (some (n+1)) (.nilCheck (tm n)),mk (some (n+2)) (.fieldAddr T (tm (n+1)) k),mk (some v) (.assign (tm (n+2)))]
def Au (s T k F E:Nat):GC:=ay 4 fun n=>[mk (some n) (.move (tm s)),mk (some (n+1)) (.alloc E),mk (some (n+2)) (.nilCheck (tm n)),mk (some (n+3)) (.fieldAddr T (tm (n+2)) k),mk none (.store F (tm (n+3)) (tm (n+1)))]
def nW (g:G)(cx:Cx)(p:Nat)(body:GC):GC:=gS [aC (g.rd .i8) cx.b p,
 dM 4 5 (fun n => [mk (some n) (.move (tm p)), mk (some (n + 1)) (.binOp .neq g.tI8 (tm n) (ki .i8 (-1)) 0), mk (some (n + 2)) (.move (tm (n + 1))), ⟨some (n + 3), .call ⟨.value (.func g.ok), #[tm cx.b], #[]⟩, 0, "", #[], some (2, true)⟩,
  mk (some (n+4)) (.pick (tm (n+2)) (tm (n+3)) (.const (.bool false)))]) body bp]
def lV (g:G)(cx:Cx)(T k:Nat):GC:=ay 4 fun n=>[mk (some n) (.move (tm cx.s)),cl (some (n+1)) g.tags [tm cx.b],mk (some (n+2)) (.nilCheck (tm n)),mk (some (n+3)) (.fieldAddr T (tm (n+2)) k),mk none (.store g.tTags (tm (n+3)) (tm (n+1)))]
def nY (g:G)(b b':Nat):GC:=ay 4 fun n=>[cl (some n) g.uv [tm b],mk (some (n+1)) (.convert g.tU32 g.tInt (tm n)),cl (some (n+2)) g.span [tm b,tm (n+1)],mk (some (n+3)) (.build g.tR #[(0,tm (n+2))]),
 mk (some b') (.alloc g.tR),mk none (.store g.tR (tm b') (tm (n+3)))]
def mP (g:G)(b' err:Nat):GC:=gS [aC g.complete b' err,dM 1 2 (fun n=>[mk (some n) (.move (tm err)),mk (some (n+1)) (.binOp .neq g.tErr (tm n) (.const .nilIface) 0)])
 (gS [ay 1 fun n=>[mk (some n) (.move (tm err)),mk (some 6) (.assign (tm n))],aS .ret]) bp]
def mO (g:G)(cx:Cx)(i b1 b2:Nat)(body:GC):GC:=fun n=>
 (.seq (rg [cl (some n) g.uv [tm cx.b],mk (some i) (.assign (tm n))])
  (.block b1 (.loop (.seq (.seq (rg [mk (some (n+1)) (.move (tm i)),mk (some (n+2)) (.binOp .gtr g.tU32 (tm (n+1)) (ki .u32 0) 0)]) (.cond (tm (n+2)) .skip (.exit b1)))
   (.seq (.block b2 (body (n+5)).1) (rg [mk (some (n+3)) (.move (tm i)),mk (some (n+4)) (.binOp .sub g.tU32 (tm (n+3)) (ki .u32 1) 0),mk (some i) (.assign (tm (n+4)))]))))),
 (body (n+5)).2)
def fW (g:G)(cx:Cx)(key T k:Nat)(n:Nat):Code:=
 .region 1 [mk (some n) (.move (tm cx.s)),mk (some (n+1)) (.nilCheck (tm n)),mk (some (n+2)) (.fieldAddr T (tm (n+1)) k),mk (some (n+3)) (.move (tm key)),cl (some (n+4)) g.uv [tm cx.b],
  mk (some (n+5)) (.convert g.tU32 g.tInt (tm (n+4))),cl (some (n+6)) g.span [tm cx.b,tm (n+5)],cl (some (n+7)) g.set [tm (n+2),tm (n+3),tm (n+6)]].toArray true
def eR (g:G)(key:Nat)(dflt:Code):List (Nat × GC)->Nat->Code × Nat
 | [],n=>(dflt,n)
 | (t,x)::r,n=>(.seq (rg [mk (some (n+1)) (.binOp .eql g.tU32 (tm key) (ki .u32 t) 0),mk (some n) (.assign (tm (n+1)))]) (.cond (tm n) (x (n+2)).1 (eR g key dflt r (x (n+2)).2).1),(eR g key dflt r (x (n+2)).2).2)
def jX (g:G)(cx:Cx)(key b3 T k:Nat)(cs:List (Nat × GC)):GC:=fun n=>
 (.seq (rg [mk (some n) (.move (tm key))]) (.block b3 (eR g n (fW g cx key T k (n+1)) cs (n+9)).1),(eR g n (fW g cx key T k (n+1)) cs (n+9)).2)
def fo (g:G)(cx:Cx)(tagged:Bool)(T kt:Nat)(m:Nm)(items:List GC)(cases:List (Nat × GC)):List GC:=
 items++(if !cx.hf then[]
  else if tagged then[gX cx (mO g cx (m.n 0) (m.n 2) (m.n 3) (gS [aC g.uv cx.b (m.n 1),jX g cx (m.n 1) (m.n 4) T kt cases])) bp]
  else[gX cx (lV g cx T kt) bp])
mutual
def lH (g:G)(cx:Cx):Ty->Nm->List GC
 | .prim p,m=>g7 g cx (.prim p) (m.n 0) (m.l.drop 4)++[iz (ko g (.prim p)) cx.s (m.n 0) (m.n 1) (m.n 2) (m.n 3)]
 | .str nul,m=>g7 g cx (.str nul) (m.n 0) (m.l.drop 4)++[iz none cx.s (m.n 0) (m.n 1) (m.n 2) (m.n 3)]
 | .bytes nul,m=>g7 g cx (.bytes nul) (m.n 0) []++[iz none cx.s (m.n 0) (m.n 1) (m.n 2) (m.n 3)]
 | .list nul _ e,m=>
  let v:=m.n 0
  let F:=m.n 3
  let a:=m.n 4
  let l:=m.n 5
  let i:=m.n 6
  [cg cx.s v (m.n 1) (m.n 2) F,b6 v a,aR l (.int .i32 0),if cx.hf then gX cx (aC g.clen cx.b l) (aC g.len cx.b l)else aC g.len cx.b l]++jn g cx nul a l F ++
  [nX g cx,yM a F,pf g a l F,td g i l (m.n 7) (m.n 8) (gS (gEl g cx e a i F (m.sub 0))),b6 a v,iz none cx.s v (m.n 1) (m.n 2) F]
 | .struct none _ fs,m=>
  [eQ cx.s (m.n 0) (m.n 1) (m.n 2),cO (m.n 0) (m.n 4),b6 (m.n 0) (m.n 3)]++fo g { cx with s:=m.n 3 } fs.tagged (m.n 5) (m.n 6) (m.sub 0) (gFds g { cx with s:=m.n 3 } fs (m.sub 0).s) (gTagd g { cx with s:=m.n 3 } fs (m.sub 0).s)
 | .struct (some _) _ fs,m=>
  [nW g cx (m.n 8) (gS ([Au cx.s (m.n 1) (m.n 2) (m.n 3) (m.n 9),cg cx.s (m.n 0) (m.n 1) (m.n 2) (m.n 3),cO (m.n 0) (m.n 5),b6 (m.n 0) (m.n 4)]++fo g { cx with s:=m.n 4 } fs.tagged (m.n 6) (m.n 7) (m.sub 0) (gFds g { cx with s:=m.n 4 } fs (m.sub 0).s) (gTagd g { cx with s:=m.n 4 } fs (m.sub 0).s)))]
def gEl (g:G)(cx:Cx):Ty->Nat->Nat->Nat->Nm->List GC
 | .struct _ _ fs,a,i,F,m=>
  [dI a i (m.n 0) F,cO (m.n 0) (m.n 2),b6 (m.n 0) (m.n 1)]++fo g { cx with s:=m.n 1 } fs.tagged (m.n 3) (m.n 4) (m.sub 0) (gFds g { cx with s:=m.n 1 } fs (m.sub 0).s) (gTagd g { cx with s:=m.n 1 } fs (m.sub 0).s)
 | ty,a,i,F,m=>
  g7 g cx ty (m.n 0) (m.l.drop 2)++[jY (ko g ty) a i (m.n 0) F (m.n 1)]
def gFds (g:G)(cx:Cx):Fds->List Nm->List GC
 | .nil,_=>[]
 | .cons lo hi tag _ _ ty r,ms=>
  if tag.isNone then dA g cx lo hi (gS (lH g cx ty (ms.headD (.mk [] []))))::gFds g cx r ms.tail else gFds g cx r ms.tail
def gTagd (g:G)(cx:Cx):Fds->List Nm->List (Nat × GC)
 | .nil,_=>[]
 | .cons _ _ tag _ _ ty r,ms=>
  match tag with
  | some t=>(t,gS ([nY g cx.b ((ms.headD (.mk [] [])).n 0)]++lH g { cx with b:=(ms.headD (.mk [] [])).n 0 } ty ((ms.headD (.mk [] [])).sub 0)++[mP g ((ms.headD (.mk [] [])).n 0) ((ms.headD (.mk [] [])).n 1)]))::gTagd g cx r ms.tail
  | none=>gTagd g cx r ms.tail
end
def gRead (g:G)(hf kept:Bool)(cx:Cx)(fs:Fds)(dflt T kt flex n0:Nat)(m:Nm):Code:=
 (gS ([aR 6 .nilIface,cO 0 dflt,ay 2 fun n=>[mk (some n) (.move (tm 1)),mk (some (n+1)) (.build g.tR #[(0,tm n)]),mk (some cx.b) (.alloc g.tR),mk none (.store g.tR (tm cx.b) (tm (n+1)))]] ++
  (if kept then[ay 4 fun n=>[mk (some n) (.move (tm 0)),cl (some (n+1)) (g.rd .i16) [tm cx.b],mk (some (n+2)) (.nilCheck (tm n)),mk (some (n+3)) (.fieldAddr T (tm (n+2)) 0),mk none (.store g.tVer (tm (n+3)) (tm (n+1)))]] else[]) ++
  [cg 0 cx.ver T 0 g.tVer,ay 1 fun n=>[mk (some n) (.move (tm cx.ver))]] ++
  (if hf then[ay 2 fun n=>[mk (some n) (.move (tm cx.ver)),mk (some (n+1)) (.binOp .geq g.tVer (tm n) (ki .i16 flex) 0),mk (some cx.fx) (.assign (tm (n+1)))],ay 1 fun n=>[mk (some n) (.move (tm cx.fx))]] else[]) ++
  [b6 0 cx.s]++fo g cx fs.tagged T kt m (gFds g cx fs m.s) (gTagd g cx fs m.s) ++
  [ay 1 fun n=>[cl (some n) g.complete [tm cx.b],mk (some 6) (.assign (tm n))],aS .ret]) n0).1
structure Sm where
 fDef:Nat
 fSame:Nat
 F:Nat
 sz:Nat
 toff:Nat
 ds:List (Nat × Option cY × Int)
structure GW where
 ap:PF->Nat
 alen:Nat
 calen:Nat
 nalen:Nat
 cnalen:Nat
 uv:Nat
 tlen:Nat
 teach:Nat
 tVer:Nat
 tInt:Nat
 tU32:Nat
 tSl:Nat
 tUuid:Nat
 sm:List Sm:=[]
def bv (f v:Nat):GC:=ay 3 fun n=>[mk (some n) (.move (tm 1)),mk (some (n+1)) (.move (tm v)),cl (some (n+2)) f [tm n,tm (n+1)],mk (some 1) (.assign (tm (n+2)))]
def tb (g:GW)(f v:Nat):GC:=ay 3 fun n=>[mk (some n) (.move (tm 1)),mk (some (n+1)) (.load g.tUuid (tm v)),cl (some (n+2)) f [tm n,tm (n+1)],mk (some 1) (.assign (tm (n+2)))]
def gy (s v T k F:Nat):GC:=ay 4 fun n=>[mk (some n) (.move (tm s)),mk (some (n+1)) (.nilCheck (tm n)),mk (some (n+2)) (.fieldAddr T (tm (n+1)) k),mk (some (n+3)) (.load F (tm (n+2))),mk (some v) (.alloc F),mk none (.store F (tm v) (tm (n+3)))]
def de (cx:Cx)(A B:GC):GC:=if cx.hf then gX cx A B else B
def bo (g:GW)(cx:Cx)(ty:Ty)(v:Nat)(x:List Nat):List GC:=
 match ty with
 | .prim .uuid=>[tb g (g.ap .uuid) v]
 | .prim p=>match x with
  | [t]=>[b6 v t,bv (g.ap (bI p)) t]
  | _=>[bv (g.ap (bI p)) v]
 | .str none=>[de cx (bv (g.ap .cstr) v) (bv (g.ap .str) v)]
 | .str (some 0)=>[de cx (bv (g.ap .cnstr) v) (bv (g.ap .nstr) v)]
 | .str (some (m+1))=>
  [dM 1 2 (fun n=>[mk (some n) (.move (tm cx.ver)),mk (some (n+1)) (.binOp .lss g.tVer (tm n) (ki .i16 ((m:Int)+1)) 0)])
   (gS [aR (x.getD 0 0) (.string ⟨#[]⟩),dM 1 2 (fun n=>[mk (some n) (.move (tm v)),mk (some (n+1)) (.binOp .neq (x.getD 2 0) (tm n) (.const (.pointer none)) 0)])
    (ay 3 fun n=>[mk (some n) (.move (tm v)),mk (some (n+1)) (.nilCheck (tm n)),mk (some (n+2)) (.load (x.getD 3 0) (tm (n+1))),mk (some (x.getD 0 0)) (.assign (tm (n+2)))]) bp,
    b6 (x.getD 0 0) (x.getD 1 0),de cx (bv (g.ap .cstr) (x.getD 1 0)) (bv (g.ap .str) (x.getD 1 0))])
   (de cx (bv (g.ap .cnstr) v) (bv (g.ap .nstr) v))]
 | .bytes none=>[de cx (bv (g.ap .cbytes) v) (bv (g.ap .bytes) v)]
 | .bytes (some _)=>[de cx (bv (g.ap .cnbytes) v) (bv (g.ap .nbytes) v)]
 | _=>[]
def jW (g:GW)(hf:Bool):Bool:=b7 g.alen&&(!hf || b7 g.calen)
def eO (g:GW)(f v F:Nat):GC:=ay 4 fun n=>[mk (some n) (.move (tm 1)),mk (some (n+1)) (.move (tm v)),bi (some (n+2)) .len [tm (n+1)] [F] g.tInt,cl (some (n+3)) f [tm n,tm (n+2)],mk (some 1) (.assign (tm (n+3)))]
def ea (g:GW)(f v F:Nat):GC:=ay 6 fun n=>[mk (some n) (.move (tm 1)),mk (some (n+1)) (.move (tm v)),bi (some (n+2)) .len [tm (n+1)] [F] g.tInt,mk (some (n+3)) (.move (tm v)),mk (some (n+4)) (.binOp .eql F (tm (n+3)) (.const (.slice none 0 0)) 0),
 cl (some (n+5)) f [tm n,tm (n+2),tm (n+4)],mk (some 1) (.assign (tm (n+5)))]
def fk (g:GW)(cx:Cx)(nul:Option Nat)(v F:Nat):GC:=
 match nul with
 | none=>de cx (eO g g.calen v F) (eO g g.alen v F)
 | some 0=>de cx (ea g g.cnalen v F) (ea g g.nalen v F)
 | some (q+1)=>dM 1 2 (fun n=>[mk (some n) (.move (tm cx.ver)),mk (some (n+1)) (.binOp .geq g.tVer (tm n) (ki .i16 ((q+1:Nat):Int)) 0)]) (de cx (ea g g.cnalen v F) (ea g g.nalen v F)) (de cx (eO g g.calen v F) (eO g g.alen v F))
def fU (g:GW)(v i b1 b2 F:Nat)(body:List GC):GC:=fun n=>
 (.seq (rg [mk (some n) (.move (tm v)),bi (some (n+1)) .len [tm n] [F] g.tInt,mk (some (n+2)) (.move (ki .i64 0))])
  (.block b1 (.loop (.seq (rg [mk (some (n+3)) (.binOp .lss g.tInt (tm (n+2)) (tm (n+1)) 0)]) (.seq (.cond (tm (n+3)) .skip (.exit b1))
   (.seq (.block b2 (.seq (rg [mk (some (n+4)) (.move (tm (n+2))),mk (some i) (.assign (tm (n+4)))]) (gS body (n+5)).1))
    (rg [mk (some (gS body (n+5)).2) (.binOp .add g.tInt (tm (n+2)) (ki .i64 1) 0),mk (some (n+2)) (.move (tm (gS body (n+5)).2))])))))),
 (gS body (n+5)).2+1)
def GI (v i e F E:Nat):GC:=ay 4 fun n=>[mk (some n) (.move (tm v)),mk (some (n+1)) (.move (tm i)),mk (some (n+2)) (.indexAddr F (tm n) (tm (n+1))),mk (some (n+3)) (.load E (tm (n+2))),mk (some e) (.assign (tm (n+3)))]
def yK (v i e F E:Nat):GC:=ay 4 fun n=>[mk (some n) (.move (tm v)),mk (some (n+1)) (.move (tm i)),mk (some (n+2)) (.indexAddr F (tm n) (tm (n+1))),mk (some (n+3)) (.load E (tm (n+2))),mk (some e) (.alloc E),mk none (.store E (tm e) (tm (n+3)))]
def fG (g:GW)(c:Int):GC:=ay 3 fun n=>[mk (some n) (.move (tm 1)),mk (some (n+1)) (.buildSlice g.tSl 1 #[(0,ki .u8 c)]),bi (some (n+2)) .append [tm n,tm (n+1)] [g.tSl,g.tSl] g.tSl,mk (some 1) (.assign (tm (n+2)))]
def yJ (v F:Nat)(A B:GC):GC:=dM 1 2 (fun n=>[mk (some n) (.move (tm v)),mk (some (n+1)) (.binOp .eql F (tm n) (.const (.pointer none)) 0)]) A B
def nV (g:GW)(s T kt:Nat):GC:=ay 8 fun n=>[mk (some n) (.move (tm 1)),mk (some (n+1)) (.move (tm s)),mk (some (n+2)) (.nilCheck (tm (n+1))),mk (some (n+3)) (.fieldAddr T (tm (n+2)) kt),cl (some (n+4)) g.tlen [tm (n+3)],
 mk (some (n+5)) (.convert g.tInt g.tU32 (tm (n+4))),mk (some (n+6)) (.binOp .add g.tU32 (ki .u32 0) (tm (n+5)) 0),cl (some (n+7)) g.uv [tm n,tm (n+6)],mk (some 1) (.assign (tm (n+7)))]
def em (g:GW)(s T kt:Nat):GC:=ay 5 fun n=>[mk (some n) (.move (tm s)),mk (some (n+1)) (.nilCheck (tm n)),mk (some (n+2)) (.fieldAddr T (tm (n+1)) kt),mk (some (n+3)) (.move (tm 1)),cl (some (n+4)) g.teach [tm (n+2),tm (n+3)],mk (some 1) (.assign (tm (n+4)))]
def gb (g:GW)(cx:Cx)(T kt:Nat):List GC:=if cx.hf then[gX cx (gS [nV g cx.s T kt,em g cx.s T kt]) bp] else[]
def fj:Ty->Bool
 | .prim .uuid=>true
 | _=>false
def gP (ty:Ty)(s v T k F:Nat):GC:=if fj ty then gy s v T k F else cg s v T k F
def jH (ty:Ty)(v i e F E:Nat):GC:=if fj ty then yK v i e F E else GI v i e F E
def il (g:GW)(cx:Cx)(lo:Nat)(hi:Option Nat)(A:GC):GC:=
 match hi with
 | some h=>dM 5 6 (fun n=>[mk (some n) (.move (tm cx.ver)),mk (some (n+1)) (.binOp .geq g.tVer (tm n) (ki .i16 lo) 0),mk (some (n+2)) (.move (tm (n+1))),gd (n+3) (.move (tm cx.ver)) 2 true,
   gd (n+4) (.binOp .leq g.tVer (tm (n+3)) (ki .i16 h) 0) 2 true,mk (some (n+5)) (.pick (tm (n+2)) (tm (n+4)) (.const (.bool false)))]) A bp
 | none=>if lo=0 then A else dM 1 2 (fun n=>[mk (some n) (.move (tm cx.ver)),mk (some (n+1)) (.binOp .geq g.tVer (tm n) (ki .i16 lo) 0)]) A bp
def jJ (l:List GC):GC:=fun n=>(.scope (gS l n).1,(gS l n).2)
def yO (k:Nat)(f:Nat->List Oper):GC:=fun n=>(.region 1 (f n).toArray true,n+k)
def iy (g:GW)(x:Nat):GC:=ay 2 fun n=>[mk (some n) (.move (tm 1)),cl (some (n+1)) g.uv [tm n,ki .u32 x],mk (some 1) (.assign (tm (n+1)))]
def lz (tKs te k:Nat):GC:=ay 3 fun n=>[mk (some n) (.move (tm te)),mk (some (n+1)) (.buildSlice tKs 1 #[(0,ki .u32 k)]),bi (some (n+2)) .append [tm n,tm (n+1)] [tKs,tKs] tKs,mk (some te) (.assign (tm (n+2)))]
def BV:cY->Int->Value
 | .bool,x=>.bool (x != 0)
 | p,x=>.int p.kind x
def lU (s T k F n:Nat):List Oper:=[mk (some n) (.move (tm s)),mk (some (n+1)) (.nilCheck (tm n)),mk (some (n+2)) (.fieldAddr T (tm (n+1)) k),mk (some (n+3)) (.load F (tm (n+2)))]
def fF (g:GW)(s:Nat)(ty:Ty)(df:Int)(m:Nm)(A:GC):GC:=
 match ty with
 | .prim .uuid=>dM 5 6 (fun n=>lU s (m.n 1) (m.n 2) (m.n 3) n++[mk (some (n+4)) (.build (m.n 3) #[]),mk (some (n+5)) (.binOp .neq (m.n 3) (tm (n+3)) (tm (n+4)) 0)]) A bp
 | .prim p=>dM 4 5 (fun n=>lU s (m.n 1) (m.n 2) (m.n 3) n++[mk (some (n+4)) (.binOp .neq (m.n 3) (tm (n+3)) (.const (BV p df)) 0)]) A bp
 | .str _=>dM 4 5 (fun n=>lU s (m.n 1) (m.n 2) (m.n 3) n++[mk (some (n+4)) (.binOp .neq (m.n 3) (tm (n+3)) (.const (.pointer none)) 0)]) A bp
 | .list _ _ _=>dM 5 6 (fun n=>lU s (m.n 1) (m.n 2) (m.n 3) n++[bi (some (n+4)) .len [tm (n+3)] [m.n 3] g.tInt,mk (some (n+5)) (.binOp .gtr g.tInt (tm (n+4)) (ki .i64 0) 0)]) A bp
 | .struct _ _ _=>fun n=>(.seq (yO 7 (fun n=>lU s (m.n 1) (m.n 2) (m.n 3) n++[cl (some (n+4)) (m.n 7) [],cl (some (n+5)) (m.n 8) [tm (n+3),tm (n+4)],mk (some (n+6)) (.unOp .not (m.n 9) (tm (n+5)))]) n).1 (.cond (tm (n+6)) (A (n+7)).1 .skip),(A (n+7)).2)
 | _=>bp
def c9 (g:GW)(s te tKs:Nat):Fds->List Nm->List GC
 | .nil,_=>[]
 | .cons _ _ tag df _ ty r,ms=>match tag with
  | some t=>fF g s ty df (ms.headD (.mk [] [])) (lz tKs te t)::c9 g s te tKs r ms.tail
  | none=>c9 g s te tKs r ms.tail
def mN (g:GW)(s T kt te tKs:Nat):GC:=ay 10 fun n=>[mk (some n) (.move (tm 1)),mk (some (n+1)) (.move (tm te)),bi (some (n+2)) .len [tm (n+1)] [tKs] g.tInt,mk (some (n+3)) (.move (tm s)),mk (some (n+4)) (.nilCheck (tm (n+3))),mk (some (n+5)) (.fieldAddr T (tm (n+4)) kt),
 cl (some (n+6)) g.tlen [tm (n+5)],mk (some (n+7)) (.binOp .add g.tInt (tm (n+2)) (tm (n+6)) 0),mk (some (n+8)) (.convert g.tInt g.tU32 (tm (n+7))),cl (some (n+9)) g.uv [tm n,tm (n+8)],mk (some 1) (.assign (tm (n+9)))]
def cd (g:GW)(key:Nat):List (Nat × GC)->Nat->Code × Nat
 | [],n=>(.skip,n)
 | (t,x)::r,n=>(.seq (rg [mk (some (n+1)) (.binOp .eql g.tU32 (tm key) (ki .u32 t) 0),mk (some n) (.assign (tm (n+1)))]) (.cond (tm n) (x (n+2)).1 (cd g key r (x (n+2)).2).1),(cd g key r (x (n+2)).2).2)
def gN (g:GW)(te tKs tv b1 b2 b3:Nat)(cs:List (Nat × GC)):GC:=fun n=>
 (.seq (rg [mk (some n) (.move (tm te)),bi (some (n+1)) .len [tm n] [tKs] g.tInt,mk (some (n+2)) (.move (ki .i64 0))])
  (.block b1 (.loop (.seq (rg [mk (some (n+3)) (.binOp .lss g.tInt (tm (n+2)) (tm (n+1)) 0)]) (.seq (.cond (tm (n+3)) .skip (.exit b1))
   (.seq (.block b2 (.seq (rg [mk (some (n+4)) (.indexAddr tKs (tm n) (tm (n+2))),mk (some (n+5)) (.load g.tU32 (tm (n+4))),mk (some tv) (.assign (tm (n+5)))])
     (.seq (rg [mk (some (n+6)) (.move (tm tv))]) (.block b3 (cd g (n+6) cs (n+7)).1))))
    (rg [mk (some (cd g (n+6) cs (n+7)).2) (.binOp .add g.tInt (tm (n+2)) (ki .i64 1) 0),mk (some (n+2)) (.move (tm (cd g (n+6) cs (n+7)).2))])))))),
 (cd g (n+6) cs (n+7)).2+1)
def rr (g:GW)(z lenAt l:Nat):List GC:=[aR z (.bool false),ay 2 fun n=>[mk (some n) (.move (tm 1)),bi (some (n+1)) .len [tm n] [g.tSl] g.tInt,mk (some lenAt) (.assign (tm (n+1)))],aS (.label l)]
def cJ (g:GW)(z lenAt l tBool:Nat):GC:=dM 1 2 (fun n=>[mk (some n) (.move (tm z)),mk (some (n+1)) (.unOp .not tBool (tm n))])
 (gS [yO 9 fun n=>[mk (some n) (.move (tm 1)),mk (some (n+1)) (.move (tm lenAt)),mk (some (n+2)) (.slice g.tSl (tm n) none (some (tm (n+1))) none),mk (some (n+3)) (.move (tm 1)),mk (some (n+4)) (.move (tm lenAt)),mk (some (n+5)) (.slice g.tSl (tm (n+3)) (some (tm (n+4))) none none),
  bi (some (n+6)) .len [tm (n+5)] [g.tSl] g.tInt,mk (some (n+7)) (.convert g.tInt g.tU32 (tm (n+6))),cl (some (n+8)) g.uv [tm (n+2),tm (n+7)],mk (some 1) (.assign (tm (n+8)))],aR z (.bool true),aS (.goto l)]) bp
def eb (g:GW)(cx:Cx)(b F:Nat):Fds->List Nm->List GC
 | .nil,_=>[]
 | .cons _ _ _ _ _ ty r,ms=>
  gS ((ay 2 fun n=>[mk (some n) (.fieldAddr F (tm b) ((ms.headD (.mk [] [])).n 1)),mk (some (n+1)) (.load ((ms.headD (.mk [] [])).n 2) (tm n)),mk (some ((ms.headD (.mk [] [])).n 0)) (.assign (tm (n+1)))])::bo g cx ty ((ms.headD (.mk [] [])).n 0) [])::eb g cx b F r ms.tail
def en (g:GW)(cx:Cx)(b F kt:Nat):GC:=gX cx (gS [ay 6 fun n=>[mk (some n) (.move (tm 1)),mk (some (n+1)) (.fieldAddr F (tm b) kt),cl (some (n+2)) g.tlen [tm (n+1)],mk (some (n+3)) (.convert g.tInt g.tU32 (tm (n+2))),
  mk (some (n+4)) (.binOp .add g.tU32 (ki .u32 0) (tm (n+3)) 0),cl (some (n+5)) g.uv [tm n,tm (n+4)],mk (some 1) (.assign (tm (n+5)))],
 ay 3 fun n=>[mk (some n) (.fieldAddr F (tm b) kt),mk (some (n+1)) (.move (tm 1)),cl (some (n+2)) g.teach [tm n,tm (n+1)],mk (some 1) (.assign (tm (n+2)))]]) bp
def iZ:cY->Nat
 | .bool=>1|.i8=>1|.i16=>2|.u16=>2|.i32=>4|.i64=>8|.uuid=>16
def gx (g:GW)(cx:Cx)(fs:Fds)(T kt:Nat)(m:Nm)(cs:List (Nat × GC)):List GC:=
 if fs.tagged then
  (if cx.hf then[gX cx (gS ([aR (m.n 0) (.slice none 0 0)]++c9 g cx.s (m.n 0) (m.n 1) fs m.s ++
   [mN g cx.s T kt (m.n 0) (m.n 1),gN g (m.n 0) (m.n 1) (m.n 2) (m.n 3) (m.n 4) (m.n 5) cs,em g cx.s T kt])) bp] else[])
 else gb g cx T kt
mutual
def lT (g:GW)(cx:Cx):Ty->Nm->List GC
 | .prim p,m=>gP (.prim p) cx.s (m.n 0) (m.n 1) (m.n 2) (m.n 3)::bo g cx (.prim p) (m.n 0) (m.l.drop 4)
 | .str nul,m=>cg cx.s (m.n 0) (m.n 1) (m.n 2) (m.n 3)::bo g cx (.str nul) (m.n 0) (m.l.drop 4)
 | .bytes nul,m=>cg cx.s (m.n 0) (m.n 1) (m.n 2) (m.n 3)::bo g cx (.bytes nul) (m.n 0) []
 | .list nul _ e,m=>
  [cg cx.s (m.n 0) (m.n 1) (m.n 2) (m.n 3),fk g cx nul (m.n 0) (m.n 3),fU g (m.n 0) (m.n 4) (m.n 5) (m.n 6) (m.n 3) (gwEl g cx e (m.n 0) (m.n 4) (m.n 3) (m.sub 0))]
 | .struct none _ fs,m=>
  eQ cx.s (m.n 0) (m.n 1) (m.n 2)::(gwFds g { cx with s:=m.n 0 } fs (m.sub 0).s++gx g { cx with s:=m.n 0 } fs (m.n 3) (m.n 4) (m.sub 0) (gwTagd g { cx with s:=m.n 0 } fs (m.sub 0).s))
 | .struct (some _) _ fs,m=>
  [cg cx.s (m.n 0) (m.n 1) (m.n 2) (m.n 3),yJ (m.n 0) (m.n 3) (fG g 255) (gS (fG g 1::(gwFds g { cx with s:=m.n 0 } fs (m.sub 0).s++gx g { cx with s:=m.n 0 } fs (m.n 4) (m.n 5) (m.sub 0) (gwTagd g { cx with s:=m.n 0 } fs (m.sub 0).s))))]
def gwEl (g:GW)(cx:Cx):Ty->Nat->Nat->Nat->Nm->List GC
 | .struct _ _ fs,v,i,F,m=>
  dI v i (m.n 0) F::(gwFds g { cx with s:=m.n 0 } fs (m.sub 0).s++gx g { cx with s:=m.n 0 } fs (m.n 1) (m.n 2) (m.sub 0) (gwTagd g { cx with s:=m.n 0 } fs (m.sub 0).s))
 | ty,v,i,F,m=>
  jH ty v i (m.n 0) F (m.n 1)::bo g cx ty (m.n 0) (m.l.drop 2)
def gwFds (g:GW)(cx:Cx):Fds->List Nm->List GC
 | .nil,_=>[]
 | .cons lo hi tag _ _ ty r,ms=>
  if tag.isNone then il g cx lo hi (gS (lT g cx ty (ms.headD (.mk [] []))))::gwFds g cx r ms.tail else gwFds g cx r ms.tail
def gwTagd (g:GW)(cx:Cx):Fds->List Nm->List (Nat × GC)
 | .nil,_=>[]
 | .cons _ _ tag _ _ ty r,ms=>
  match tag with
  | some t=>(t,gwBody g cx t ty (ms.headD (.mk [] [])))::gwTagd g cx r ms.tail
  | none=>gwTagd g cx r ms.tail
def gwBody (g:GW)(cx:Cx)(t:Nat):Ty->Nm->GC
 | .prim p,m=>gS ([gP (.prim p) cx.s (m.n 0) (m.n 1) (m.n 2) (m.n 3),iy g t,iy g (iZ p)]++bo g cx (.prim p) (m.n 0) [])
 | .list nul _ e,m=>jJ ([cg cx.s (m.n 0) (m.n 1) (m.n 2) (m.n 3),iy g t]++rr g (m.n 4) (m.n 5) (m.n 6)++[fk g cx nul (m.n 0) (m.n 3),fU g (m.n 0) (m.n 12) (m.n 13) (m.n 14) (m.n 3) (gwEl g cx e (m.n 0) (m.n 12) (m.n 3) (m.sub 0))]++[cJ g (m.n 4) (m.n 5) (m.n 6) (m.n 9)])
 | .struct _ _ fs,m=>jJ ([gy cx.s (m.n 0) (m.n 1) (m.n 2) (m.n 3),iy g t]++rr g (m.n 4) (m.n 5) (m.n 6)++(eb g cx (m.n 0) (m.n 3) fs (m.sub 0).s++[en g cx (m.n 0) (m.n 3) (m.n 11)])++[cJ g (m.n 4) (m.n 5) (m.n 6) (m.n 9)])
 | ty,m=>jJ ([cg cx.s (m.n 0) (m.n 1) (m.n 2) (m.n 3),iy g t]++rr g (m.n 4) (m.n 5) (m.n 6)++bo g cx ty (m.n 0) []++[cJ g (m.n 4) (m.n 5) (m.n 6) (m.n 9)])
end
def bd (g:GW)(cx:Cx)(fs:Fds)(T kt:Nat)(m:Nm):List GC:=gx g cx fs T kt m (gwTagd g cx fs m.s)
def jI (g:GW)(kept:Bool)(cx:Cx)(T flex v6:Nat):List GC:=
 [aR 4 (.slice none 0 0),cg 0 cx.ver T 0 g.tVer,ay 1 fun n=>[mk (some n) (.move (tm cx.ver))]] ++
  (if cx.hf then[ay 2 fun n=>[mk (some n) (.move (tm cx.ver)),mk (some (n+1)) (.binOp .geq g.tVer (tm n) (ki .i16 flex) 0),mk (some cx.fx) (.assign (tm (n+1)))],ay 1 fun n=>[mk (some n) (.move (tm cx.fx))]] else[]) ++
  (if kept then[gS [cg 0 v6 T 0 g.tVer,bv (g.ap .i16) v6]] else[])
def eK:List GC:=[ay 1 fun n=>[mk (some n) (.move (tm 1)),mk (some 4) (.assign (tm n))],aS .ret]
def gWrite (g:GW)(kept:Bool)(cx:Cx)(fs:Fds)(T kt flex v6 n0:Nat)(m:Nm):Code:=
 (gS (jI g kept cx T flex v6++(gwFds g cx fs m.s++bd g cx fs T kt m++eK)) n0).1
section
variable {P:Program}
theorem lq {c:Code}{Q:Exit->Act->World->Prop}{a:Act}{w:World}(h:aK P c Q a w):c=.skip->Q .normal a w:=by
 induction h with
 | skip hq=>intro _;exact hq
 | mono _ hq ih=>intro hc;exact hq _ _ _ (ih hc)
 | reg=>intro hc;cases hc
 | drw=>intro hc;cases hc
 | _=>intro hc;cases hc
def LW (P:Program)(l:List GC)(n:Nat)(Q:Exit->Act->World->Prop)(a:Act)(w:World):Prop:=aK P (sq (gL l n).1) Q a w
theorem bf {n:Nat}{Q:Exit->Act->World->Prop}{a:Act}{w:World}(h:Q .normal a w):LW P [] n Q a w:=.skip h
theorem cq {K:Act->World->Prop}{Q:Exit->Act->World->Prop}{e:Exit}{a:Act}{w:World}(he:e≠.normal):Exit.then K Q e a w=Q e a w:=by
 cases e<;>first|rfl|exact absurd rfl he
theorem az {c:Code}{cs:List Code}{Q:Exit->Act->World->Prop}{a:Act}{w:World}(h:aK P c (Exit.then (aK P (sq cs) Q) Q) a w):aK P (sq (c::cs)) Q a w:=by
 cases cs with
 | nil=>
  refine .mono h fun e a w hq=>?_
  cases e with
  | normal=>exact lq hq rfl
  | _=>exact hq
 | cons d ds=>exact .seq h (fun a w hq=>hq) (fun e a w he hq=>by rw[cq he]at hq;exact hq)
theorem ad {x:GC}{r:List GC}{n:Nat}{Q:Exit->Act->World->Prop}{a:Act}{w:World}(h:aK P (x n).1 (Exit.then (LW P r (x n).2 Q) Q) a w):LW P (x::r) n Q a w:=
 az h
theorem aY {l:List GC}{n:Nat}{Q:Exit->Act->World->Prop}{a:Act}{w:World}(h:LW P l n Q a w):aK P (gS l n).1 Q a w:=h
def Up (x:GC):Prop:=∀ n,n<=(x n).2
theorem am (k:Nat)(f:Nat->List Oper):Up (ay k f):=fun n=>Nat.le_add_right n k
theorem bq (c:Code):Up (aS c):=fun n=>Nat.le_refl n
theorem mI {l:List GC}(h:∀ x∈l,Up x):∀ n,n<=(gL l n).2:=by
 induction l with
 | nil=>intro n;exact Nat.le_refl n
 | cons x l ih=>intro n;exact Nat.le_trans (h x (by simp) n) (ih (fun y hy=>h y (by simp[hy])) _)
theorem bX {t k:Nat}{ops:Nat->List Oper}{A B:GC}(hA:Up A)(hB:Up B):Up (dM t k ops A B):=fun n=>
 Nat.le_trans (Nat.le_trans (Nat.le_add_right n k) (hA _)) (hB _)
theorem aq {l:List Oper}{K:Act->World->Prop}{Q:Exit->Act->World->Prop}{a:Act}{w:World}(h:wpList P l.toArray (Exit.then K Q) l a w):aK P (rg l) (Exit.then K Q) a w:=.reg h
structure bc (P:Program)(F:Nat)(agg:Bool)(sz:Nat):Prop where
 agg:∀ w,(isAgg F).run P w=.ok agg w
 size:∀ w,(sizeOf F).run P w=.ok sz w
structure bw (P:Program)(T k F off:Nat)(agg:Bool)(sz:Nat):Prop where
 fld:∃ fs f,P.underlying T=some (.struct fs)/\fs[k]?=some f/\f.offset=off/\f.type=F
 var:bc P F agg sz
 pos:0<sz
variable {x m k0 n:Nat} {K:Act->World->Prop} {Q:Exit->Act->World->Prop} {a:Act} {w:World}
theorem cV {v:Nat}{y:Value}(hv:v=x \/ (m<=v/\v<k0))(Ji:v<a.tmps.size)(h:∀ a',Pv x m k0 n a a'->a'.get v=y->K a' w):aK P (aR v y n).1 (Exit.then K Q) a w:=
 aq (ak (wpList_nil (h _ ((Pv.refl _ _ _ _ _).put _ (by omega)) (db _ _ _ Ji))))
theorem e7 {y z:Nat}(hz:z=x \/ (m<=z/\z<k0))(hm:m<=k0)(hk:k0<=n)(hn:n<a.tmps.size)(K7:z<a.tmps.size)
  (h:∀ a',Pv x m k0 n a a'->a'.get z=a.get y->K a' w):aK P (b6 y z n).1 (Exit.then K Q) a w:=by
 refine aq (ah (ak (wpList_nil ?_)))
 rw[aa,aa,db _ _ _ hn]
 exact h _ (((Pv.refl _ _ _ _ _).put _ (by omega)).put _ (by omega)) (ao (by rw[ab];exact K7))
theorem bN {ops:Array Oper}{Q:Exit->Act->World->Prop}{r:List Oper}{d:Option Nat}{y:Operand}{T k F B O off sz:Nat}{agg:Bool}(hy:a.eval y=.pointer (some ⟨B,O,none⟩))(hF:bw P T k F off agg sz)
  (h:wpList P ops Q r (a.put d (.pointer (some ⟨B,O+off,none⟩))) w):wpList P ops Q (mk d (.fieldAddr T y k)::r) a w:=by
 obtain⟨fs,f,h1,h2,h3,h4⟩:=hF.fld
 obtain⟨q,rfl⟩:∃ q,sz=q+1:=⟨sz-1,by have:=hF.pos;omega⟩
 exact po (n:=q) hy h1 h2 h3 (fun w=>by rw[h4];exact hF.var.size w) h
theorem fZ {s v T k F B O off:Nat}(hs:a.get s=.pointer (some ⟨B,O,none⟩))(hF:bw P T k F off false 1){y:Value}(hy:w.cell? ⟨B,O+off,none⟩=some y)
  (hv:v=x \/ (m<=v/\v<k0)) (hm:m<=k0) (hk:k0<=n) (hn:n+4<=a.tmps.size) (Ji:v<a.tmps.size)
  (h:∀ a',Pv x m k0 n a a'->a'.get v=y->K a' w):aK P (cg s v T k F n).1 (Exit.then K Q) a w:=by
 refine aq (ah ?_)
 rw[aa,hs]
 refine aG (by rw[aa,ao (by omega)]) ?_
 refine bN (by rw[aa,ao (by rw[ab];omega)]) hF ?_
 refine bg (by rw[aa,ao (by simp only[ab];omega)]) (hF.var.agg _) hy ?_
 refine ak (wpList_nil ?_)
 rw[aa,ao (by simp only[ab];omega)]
 exact h _ ((((((Pv.refl _ _ _ _ _).put _ (by omega)).put _ (by omega)).put _ (by omega)).put _ (by omega)).put _ (by omega)) (ao (by simp only[ab];exact Ji))
theorem uj {s v T k F B O off sz:Nat}{agg:Bool}{uu:Option Nat}{cs:List Value}{cur:Array Value}{te:TypeId}(hs:a.get s=.pointer (some ⟨B,O,none⟩))(hF:bw P T k F off agg sz)
  (hval:match uu with
   | none=>∃ y,a.get v=y/\y.cells.toList=cs
   | some u=>bc P u true cs.length/\∃ b o,a.get v=.pointer (some ⟨b,o,none⟩)/\au w b o cs)
  (Ii:cs.length=sz) (h1:∀ u∈cs,u.oneCell'=true) (hB:w.heap[B]?=some (.cells cur te (0,0))) (hO:O+off+sz<=cur.size)
  (hm:m<=k0) (hk:k0<=n) (hn:n+4<=a.tmps.size) (MI:v<n)
  (h:∀ a',Pv x m k0 n a a'->K a' (w.setRow B (aD cur (O+off) cs))):aK P (iz uu s v T k F n).1 (Exit.then K Q) a w:=by
 refine aq (ah ?_)
 rw[aa,hs]
 have Nh:Pv x m k0 n a (a.put (some n) (.pointer (some ⟨B,O,none⟩))):=(Pv.refl _ _ _ _ _).put _ (by omega)
 have key:∀ y:Value,y.cells.toList=cs->wpList P (#[mk (some n) (.move (tm s)),mk (some (n+1)) (match uu with|some u=>.load u (tm v)|none=>.move (tm v)),mk (some (n+2)) (.nilCheck (tm n)),
   mk (some (n+3)) (.fieldAddr T (tm (n+2)) k),mk none (.store F (tm (n+3)) (tm (n+1)))]) (Exit.then K Q) [mk (some (n+2)) (.nilCheck (tm n)),mk (some (n+3)) (.fieldAddr T (tm (n+2)) k),mk none (.store F (tm (n+3)) (tm (n+1)))]
   ((a.put (some n) (.pointer (some ⟨B,O,none⟩))).put (some (n+1)) y) w:=by
  intro y hy
  refine aG (by rw[aa,al (by omega),ao (by omega)]) ?_
  refine bN (by rw[aa,ao (by simp only[ab];omega)]) hF ?_
  refine bm (cur:=cur) (t:=te) (by rw[aa,ao (by simp only[ab];omega)]) (by rw[aa,al (by omega),al (by omega),ao (by simp only[ab];omega)]) hy
   (by rw[Ii];exact hF.var.size w) hB (by rw[Ii];exact hO) h1 ?_
  exact wpList_nil (h _ (((Nh.put _ (by omega)).put _ (by omega)).put _ (by omega)))
 cases uu with
 | none=>
  obtain⟨y,hy,hyc⟩:=hval
  refine ah ?_
  rw[aa,al (by omega),hy]
  exact key y hyc
 | some u=>
  obtain⟨hu,b,o,hb,hc⟩:=hval
  refine eC (cs:=cs) (by rw[aa,al (by omega),hb]) (hu.agg w) (hu.size w) hc ?_
  exact key (.agg cs.toArray) (by simp[Value.cells])
end
section
open Go Go.MapKept
section
variable {P:Program} {w:World}
theorem eY (k:Nat):IsKey (.int .u32) (.int .u32 (k:Int)):=by simp[IsKey]
theorem s6 {mty kt et r clock key:Nat}{value:Value}{es:List aI}(hm:P.underlying mty=some (.map kt et))(hd:P.underlying kt=some (.int .u32))(hb:w.heap[r]?=some (.map (es.map aI.entry).toArray clock)) :
  ((∀ e∈es,e.key≠key)/\(Instr.mapUpdate mty (.map (some r)) (.int .u32 (key:Int)) value).run P w=.ok () { w with heap:=w.heap.setIfInBounds r (.map ((es++[(⟨key,value,clock⟩:aI)]).map aI.entry).toArray (clock+1)) }) \/
  ∃ j e,es[j]?=some e/\e.key=key/\(Instr.mapUpdate mty (.map (some r)) (.int .u32 (key:Int)) value).run P w=.ok () { w with heap:=w.heap.setIfInBounds r (.map ((es.set j (⟨key,value,e.born⟩:aI)).map aI.entry).toArray clock) }:=by
 have Jb:∀ x∈(es.map aI.entry).toArray.toList,IsKey (.int .u32) x.key:=by
  intro x hx
  simp only[List.mem_map]at hx
  obtain⟨e,_,rfl⟩:=hx
  exact eY e.key
 rcases findNow_spec (eY key) (es.map aI.entry).toArray.toList 0 Jb with⟨h1,h2⟩|⟨j,e,h1,h2,h3⟩
 ·refine .inl ⟨fun e he hk=>?_,?_⟩
  ·have:=h2 e.entry (by simp;exact⟨e,he,rfl⟩)
   simp[aI.entry,hk]at this
  ·simp[Instr.mapUpdate,run_underlying hm,MapKept.run_getObj_map hb,MapKept.run_checkKey hd (eY key),MapKept.run_findKey hd h1,MapKept.run_setObj_map _ hb,Result.andThen,aI.entry]
 ·have h2':(es[j]?).map aI.entry=some e:=by simpa using h2
  obtain⟨e1,NQ,rfl⟩:=Option.map_eq_some_iff.1 h2'
  have Ir:e1.key=key:=by
   simp only[aI.entry,Value.int.injEq,true_and]at h3
   omega
  have hj:(es.map aI.entry).toArray[j]?=some e1.entry:=by simpa using h2
  have Vk:((es.map aI.entry).toArray.modify j fun e'=>{ e' with key:=.int .u32 (key:Int),val:=value })=((es.set j (⟨key,value,e1.born⟩:aI)).map aI.entry).toArray:=by
   apply Array.ext_getElem?
   intro i
   rw[Array.getElem?_modify]
   simp only[List.getElem?_toArray,List.getElem?_map,List.getElem?_set]
   by_cases Jy:j=i
   ·subst Jy
    obtain⟨Id,Qp⟩:=List.getElem?_eq_some_iff.1 NQ
    simp[Id,aI.entry,Qp]
   ·simp[Jy]
  refine .inr ⟨j,e1,NQ,Ir,?_⟩
  rw[Nat.zero_add]at h1
  have J0:e1.entry.key=.int .u32 (key:Int):=h3
  have Vr:=MapKept.run_keyThatStays (P:=P) (w:=w) (eY key)
  simp only[Instr.mapUpdate,Sem.run_bind,run_underlying hm,Result.andThen_ok,MapKept.run_getObj_map hb,MapKept.run_checkKey hd (eY key),MapKept.run_findKey hd h1,hj,Option.map_some,Option.getD_some,J0,Vr,Vk,MapKept.run_setObj_map _ hb]
end
end
theorem j8 {x:Nat × Bs}{l:List (Nat × Bs)}(h:gi (x::l)):gi l:=by
 cases l with
 | nil=>trivial
 | cons y r=>exact h.2
theorem iH {x:Nat × Bs}:∀ {l:List (Nat × Bs)},gi (x::l)->∀ y∈l,x.1<y.1
 | [],_,y,hy=>by cases hy
 | z::r,h,y,hy=>by
  rcases List.mem_cons.1 hy with rfl|hy
  ·exact h.1
  ·exact Nat.lt_trans h.1 (iH h.2 y hy)
theorem j9 {x:Nat × Bs}{l:List (Nat × Bs)}(h:gi l)(hx:∀ y∈l,x.1<y.1):gi (x::l):=by
 cases l with
 | nil=>trivial
 | cons y r=>exact⟨hx y (List.mem_cons_self ..),h⟩
theorem mj (k:Nat)(v:Bs):∀ (t:List (Nat × Bs)),∀ y∈cp k v t,y.1=k \/ ∃ z∈t,z.1=y.1
 | [],y,hy=>by simp[cp]at hy;subst hy;exact .inl rfl
 | (j,u)::r,y,hy=>by
  unfold cp at hy
  split at hy
  ·rcases List.mem_cons.1 hy with rfl|hy
   ·exact .inl rfl
   ·exact .inr ⟨y,hy,rfl⟩
  ·split at hy
   ·rcases List.mem_cons.1 hy with rfl|hy
    ·exact .inl rfl
    ·exact .inr ⟨y,List.mem_cons_of_mem _ hy,rfl⟩
   ·rcases List.mem_cons.1 hy with rfl|hy
    ·exact .inr ⟨(j,u),List.mem_cons_self ..,rfl⟩
    ·rcases mj k v r y hy with h|⟨z,hz,h⟩
     ·exact .inl h
     ·exact .inr ⟨z,List.mem_cons_of_mem _ hz,h⟩
theorem oM (k:Nat)(v:Bs)(t:List (Nat × Bs)):cp k v t≠[]:=by
 cases t with
 | nil=>simp[cp]
 | cons p r=>
  obtain⟨j,u⟩:=p
  unfold cp
  split
  ·simp
  ·split<;>simp
theorem iv (k:Nat)(v:Bs):∀ (t:List (Nat × Bs)),gi t->gi (cp k v t)
 | [],_=>trivial
 | (j,u)::r,h=>by
  unfold cp
  split
  ·rename_i Id
   exact j9 h fun y hy=>by
    rcases List.mem_cons.1 hy with rfl|hy
    ·exact Id
    ·exact Nat.lt_trans Id (iH h y hy)
  ·split
   ·rename_i he
    subst he
    exact j9 (j8 h) fun y hy=>iH h y hy
   ·refine j9 (iv k v r (j8 h)) fun y hy=>?_
    rcases mj k v r y hy with h1|⟨z,hz,h1⟩
    ·show j<y.1
     omega
    ·rw[<- h1];exact iH h z hz
theorem n8 (k:Nat)(v:Bs):∀ (t:List (Nat × Bs)),(∀ y∈t,y.1≠k)->(cp k v t).Perm ((k,v)::t)
 | [],_=>List.Perm.refl _
 | (j,u)::r,h=>by
  unfold cp
  split
  ·exact List.Perm.refl _
  ·split
   ·rename_i he
    exact absurd he.symm (h (j,u) (List.mem_cons_self ..))
   ·exact((n8 k v r fun y hy=>h y (List.mem_cons_of_mem _ hy)).cons (j,u)).trans (List.Perm.swap ..)
theorem nz (k:Nat)(v:Bs):∀ (t:List (Nat × Bs)),gi t->(∃ y∈t,y.1=k)->cp k v t=t.map fun p=>if p.1=k then(k,v)else p
 | [],_,⟨y,hy,_⟩=>by cases hy
 | (j,u)::r,hr,KO=>by
  unfold cp
  have Nn:∀ y∈r,j<y.1:=iH hr
  by_cases Id:k<j
  ·exfalso
   obtain⟨y,hy,hk⟩:=KO
   rcases List.mem_cons.1 hy with rfl|hy
   ·simp only at hk;omega
   ·have:=Nn y hy;omega
  ·rw[if_neg Id]
   by_cases he:k=j
   ·subst he
    rw[if_pos rfl,List.map_cons,if_pos rfl]
    congr 1
    have:∀ p∈r,(if p.1=k then(k,v)else p)=p:=fun p hp=>by rw[if_neg (by have:=Nn p hp;omega)]
    rw[List.map_congr_left this,List.map_id']
   ·rw[if_neg he,List.map_cons,if_neg (by simp only;omega),nz k v r (j8 hr)]
    obtain⟨y,hy,hk⟩:=KO
    rcases List.mem_cons.1 hy with rfl|hy
    ·simp only at hk;omega
    ·exact⟨y,hy,hk⟩
theorem z7 {P:Program}{ops:Array Oper}{Q:Exit->Act->World->Prop}{r:List Oper}{a:Act}{w w':World}{d:Option Nat}{b:Builtin}{args:List Operand}{tys:List Nat}{ty:Nat}{v:Value}(h:(execOp a.eval (bi d b args tys ty)).run P w=.ok (.value v) w')(hn:wpList P ops Q r (a.put d v) w'):wpList P ops Q (bi d b args tys ty::r) a w:=by
 refine wpList_plain rfl fun _ hK=>?_
 unfold Oper.wp
 rw[h]
 exact hK _ _ hn
end Go.Proofs.YtpoeajgpacfpoaaGreatDoor.Kx