/-
  PLAIN LAWS AND CONTRACTS of messages, part 1.
-/
import Derived.StillTail
import Derived.ScopeJumps
import Derived.Deep.Quiet
import Derived.Laws.AppendOwn
import Derived.WalkKit
import Derived.MapFrom

namespace Go.Proofs.YtbgklecbmhaadaaGreatDoor.Kx
open Go
abbrev Bs:=List UInt8
inductive cP where
 | bool|i8|i16|u16|i32|i64|uuid
 deriving DecidableEq
mutual
inductive Ty where
 | prim (p:cP)
 | str (nul:Option Nat)
 | bytes (nul:Option Nat)
 | list (nul:Option Nat) (esz:Nat) (e:Ty)
 | struct (nul:Option Nat) (toff:Option Nat) (fs:Fds)
inductive Fds where
 | nil
 | cons (lo:Nat) (hi:Option Nat) (tag:Option Nat) (df:Int) (off:Nat) (ty:Ty) (r:Fds)
end
inductive V where
 | nul
 | n (x:Int)
 | s (x:Bs)
 | l (xs:List V)
 | st (vs:List V) (tg:List (Nat × Bs))
def V.num:V->Int | .n x=>x|_=>0
def V.octets:V->Bs | .s x=>x|_=>[]
def V.list:V->List V|.l xs=>xs|_=>[]
def V.isNul:V->Bool | .nul=>true|_=>false
def V.fields:V->List V|.st vs _=>vs|_=>[]
def V.tags:V->List (Nat × Bs)|.st _ t=>t|_=>[]
def be:Nat->Int->Bs
 | 0,_=>[]
 | k+1,x=>UInt8.ofNat ((x/(256:Int)^k%256).toNat)::be k x
def cX (l:Bs):Nat:=l.foldl (fun a b=>a*256+b.toNat) 0
def j8 (bits:Nat)(x:Nat):Int:=if x<2^(bits-1) then(x:Int) else(x:Int)-(2:Int)^bits
def cj:Nat->Nat->Bs
 | 0,x=>[UInt8.ofNat x]
 | f+1,x=>if x<128 then[UInt8.ofNat x]else UInt8.ofNat (x%128+128)::cj f (x/128)
def uvar (x:Nat):Bs:=cj 9 x
structure RS where
 src:Bs
 bad:Bool
 nl:Bool
def RS.fail:RS:=⟨[],true,true⟩
def rU (k:Nat)(r:RS):Nat × RS:=
 if r.src.length<k then(0,.fail) else(cX (r.src.take k),⟨r.src.drop k,r.bad,r.nl⟩)
def rI (k:Nat)(r:RS):Int × RS:=(j8 (8*k) (rU k r).1,(rU k r).2)
def yt (r:RS):Int × RS:=
 match r.src with
 | []=>(0,.fail)
 | b::t=>((if b.toNat=0 then 0 else 1),⟨t,r.bad,r.nl⟩)
def bI:Bs->Nat × Int
 | []=>(0,0)
 | a::l=>
  if a.toNat<128 then(a.toNat,1) else
  match l with
  | []=>(0,0)
  | b::l=>
   if b.toNat<128 then(a.toNat%128+b.toNat*128,2) else
   match l with
   | []=>(0,0)
   | c::l=>
    if c.toNat<128 then(a.toNat%128+b.toNat%128*128+c.toNat*16384,3) else
    match l with
    | []=>(0,0)
    | d::l=>
     if d.toNat<128 then(a.toNat%128+b.toNat%128*128+c.toNat%128*16384+d.toNat*2097152,4) else
     match l with
     | []=>(0,0)
     | e::_=>if e.toNat<=15 then(a.toNat%128+b.toNat%128*128+c.toNat%128*16384+d.toNat%128*2097152+e.toNat*268435456,5) else(0,-5)
def bD (r:RS):Nat × RS:=
 if(bI r.src).2<=0 then(0,.fail) else((bI r.src).1,⟨r.src.drop (bI r.src).2.toNat,r.bad,r.nl⟩)
def b9 (k:Int)(r:RS):V × RS:=
 if(r.src.length:Int)<k \/ k<0 then(.nul,.fail)
 else(if r.nl then .nul else .s (r.src.take k.toNat),⟨r.src.drop k.toNat,r.bad,r.nl⟩)
def oZ (k:Int)(r:RS):V × RS:=(.s (b9 k r).1.octets,(b9 k r).2)
inductive PF where
 | bool|i8|i16|u16|i32|i64|uuid|str|cstr|nstr|cnstr|bytes|cbytes|nbytes|cnbytes
 deriving DecidableEq
def PF.run:PF->RS->V × RS
 | .bool,r=>(.n (yt r).1,(yt r).2)
 | .i8,r=>(.n (rI 1 r).1,(rI 1 r).2)
 | .i16,r=>(.n (rI 2 r).1,(rI 2 r).2)
 | .u16,r=>(.n (rU 2 r).1,(rU 2 r).2)
 | .i32,r=>(.n (rI 4 r).1,(rI 4 r).2)
 | .i64,r=>(.n (rI 8 r).1,(rI 8 r).2)
 | .uuid,r=>if r.src.length<16 then(.s (List.replicate 16 0),.fail) else(.s (r.src.take 16),⟨r.src.drop 16,r.bad,r.nl⟩)
 | .str,r=>oZ (rI 2 r).1 (rI 2 r).2
 | .cstr,r=>oZ ((bD r).1-1:Int) (bD r).2
 | .nstr,r=>if(rI 2 r).1<0 then(.nul,(rI 2 r).2)else oZ (rI 2 r).1 (rI 2 r).2
 | .cnstr,r=>if((bD r).1-1:Int)<0 then(.nul,(bD r).2)else oZ ((bD r).1-1:Int) (bD r).2
 | .bytes,r=>if(rI 4 r).1=-1 then(.s [],(rI 4 r).2)else b9 (rI 4 r).1 (rI 4 r).2
 | .cbytes,r=>if((bD r).1-1:Int)=-1 then(.s [],(bD r).2)else b9 ((bD r).1-1:Int) (bD r).2
 | .nbytes,r=>if(rI 4 r).1<0 then(.nul,(rI 4 r).2)else b9 (rI 4 r).1 (rI 4 r).2
 | .cnbytes,r=>if((bD r).1-1:Int)<0 then(.nul,(bD r).2)else b9 ((bD r).1-1:Int) (bD r).2
def di (x:Int):Int:=(x+2147483648)%4294967296-2147483648
def cL (fx:Bool)(r:RS):Int × RS:=
 let p:Int × RS:=if fx then(di (di (bD r).1-1),(bD r).2)else rI 4 r
 if(p.2.src.length:Int)<p.1 then(0,.fail)else p
def cp (k:Nat)(v:Bs):List (Nat × Bs)->List (Nat × Bs)
 | []=>[(k,v)]
 | (j,u)::r=>if k<j then(k,v)::(j,u)::r else if k=j then(k,v)::r else(j,u)::cp k v r
def fW:Nat->List (Nat × Bs)->RS->List (Nat × Bs) × RS
 | 0,t,r=>(t,r)
 | n+1,t,r=>
  let k:=bD r
  let z:=bD k.2
  let s:=b9 z.1 z.2
  fW n (cp k.1 s.1.octets t) s.2
inductive gF (α:Type) where
 | ok (a:α) (r:RS)
 | err
 | stuck
def gF.bind {α β:Type}(x:gF α)(f:α->RS->gF β):gF β:=
 match x with
 | .ok a r=>f a r
 | .err=>.err
 | .stuck=>.stuck
def f8 (f:RS->gF V):Nat->RS->gF (List V)
 | 0,r=>.ok [] r
 | n+1,r=>(f r).bind fun v r=>(f8 f n r).bind fun vs r=>.ok (v::vs) r
def l6 (lo:Nat)(hi:Option Nat)(ver:Int):Bool:=match hi with|some h=>decide ((lo:Int)<=ver)&&decide (ver<=(h:Int))|none=>decide (lo=0) || decide ((lo:Int)<=ver)
def dK (nul:Option Nat)(ver:Int):Bool:=match nul with|some m=>decide (m=0) || decide ((m:Int)<=ver)|none=>false
def g6 (nul:Option Nat)(ver:Int):Bool:=match nul with|some m=>decide ((m:Int)<=ver)|none=>false
def bN:cP->PF
 | .bool=>.bool|.i8=>.i8|.i16=>.i16|.u16=>.u16|.i32=>.i32|.i64=>.i64|.uuid=>.uuid
def dM (nul fx:Bool):PF:=if nul then(if fx then .cnstr else .nstr) else(if fx then .cstr else .str)
def bS (nul fx:Bool):PF:=if nul then(if fx then .cnbytes else .nbytes) else(if fx then .cbytes else .bytes)
def rh:Bs:=List.replicate 16 0
mutual
def dl (df:Int):Ty->V
 | .prim .uuid=>.s rh
 | .prim _=>.n df
 | .str none=>.s []
 | .str (some _)=>.nul
 | .bytes _=>.nul
 | .list _ _ _=>.nul
 | .struct none _ fs=>.st (dfFds fs) []
 | .struct (some _) _ _=>.nul
def dfFds:Fds->List V
 | .nil=>[]
 | .cons _ _ _ df _ ty r=>dl df ty::dfFds r
end
def Fds.knows:Fds->Nat->Bool
 | .nil,_=>false
 | .cons _ _ t _ _ _ r,k=>t==some k || r.knows k
def Fds.tagged:Fds->Bool
 | .nil=>false
 | .cons _ _ t _ _ _ r=>t.isSome || r.tagged
def bW (f:Nat->Option (List V->RS->gF (List V))):Nat->List V->List (Nat × Bs)->RS->gF V
 | 0,vs,t,r=>.ok (.st vs t) r
 | n+1,vs,t,r=>
  let k:=bD r
  let z:=bD k.2
  let s:=b9 z.1 z.2
  match f k.1 with
  | none=>bW f n vs (cp k.1 s.1.octets t) s.2
  | some g=>
   match g vs ⟨s.1.octets,false,s.1.isNul⟩ with
   | .ok vs' r'=>if r'.bad then .err else bW f n vs' t s.2
   | .err=>.err
   | .stuck=>.stuck
def ls (l:Int)(esz:Nat):Bool:=decide (l*(24*esz+8)<=70368744177664)
def fz (fx tagged:Bool)(fields:RS->gF (List V))(tag:Nat->Option (List V->RS->gF (List V)))(r:RS):gF V:=
 (fields r).bind fun vs r=>
  if !fx then .ok (.st vs []) r
  else if tagged then bW tag (bD r).1 vs [] (bD r).2
  else .ok (.st vs (fW (bD r).1 [] (bD r).2).1) (fW (bD r).1 [] (bD r).2).2
mutual
def e7 (fx:Bool)(ver:Int):Ty->V->RS->gF V
 | .prim p,_,r=>.ok ((bN p).run r).1 ((bN p).run r).2
 | .str nul,_,r=>.ok ((dM (dK nul ver) fx).run r).1 ((dM (dK nul ver) fx).run r).2
 | .bytes nul,_,r=>.ok ((bS (dK nul ver) fx).run r).1 ((bS (dK nul ver) fx).run r).2
 | .list nul esz e,old,r=>
  if !old.isNul then .stuck else
  if(cL fx r).2.bad then .err else
  if !ls (cL fx r).1 esz then .stuck else
  if(cL fx r).1<=0 then .ok (if nul.isSome&&(decide ((cL fx r).1=0) || !g6 nul ver)then .l []else .nul) (cL fx r).2
  else(f8 (e7 fx ver e (dl 0 e)) (cL fx r).1.toNat (cL fx r).2).bind fun vs r=>.ok (.l vs) r
 | .struct none _ fs,_,r=>fz fx fs.tagged (rdFds fx ver fs) (rdTag fx ver fs) r
 | .struct (some _) _ fs,old,r=>
  if !old.isNul then .stuck else
  if(rI 1 r).1=-1 \/ (rI 1 r).2.bad=true then .ok .nul (rI 1 r).2 else fz fx fs.tagged (rdFds fx ver fs) (rdTag fx ver fs) (rI 1 r).2
def rdFds (fx:Bool)(ver:Int):Fds->RS->gF (List V)
 | .nil,r=>.ok [] r
 | .cons lo hi tag df _ ty rest,r=>
  if tag.isNone&&l6 lo hi ver then
   (e7 fx ver ty (dl df ty) r).bind fun v r=>(rdFds fx ver rest r).bind fun vs r=>.ok (v::vs) r
  else(rdFds fx ver rest r).bind fun vs r=>.ok (dl df ty::vs) r
def rdTag (fx:Bool)(ver:Int):Fds->Nat->Option (List V->RS->gF (List V))
 | .nil,_=>none
 | .cons _ _ tag _ _ ty rest,k=>
  if tag==some k then some fun vs r=>(e7 fx ver ty (vs.headD .nul) r).bind fun v r=>.ok (v::vs.tail) r
  else(rdTag fx ver rest k).map fun g vs r=>(g vs.tail r).bind fun vs' r=>.ok (vs.headD .nul::vs') r
end
def dL (n:Nat):Nat:=n%4294967296
def kZ (fx:Bool)(l:Bs):Bs:=if fx then uvar (dL (l.length+1))++l else be 2 l.length++l
def jf (fx:Bool)(l:Bs):Bs:=if fx then uvar (dL (l.length+1))++l else be 4 l.length++l
def dp (fx:Bool)(k:Nat):Bs:=if fx then uvar 0 else be k (-1)
def iP (fx:Bool)(n:Nat):Bs:=if fx then uvar (dL (n+1))else be 4 n
def PF.wr:PF->V->Bs
 | .bool,v=>[if v.num=0 then 0 else 1]
 | .i8,v=>be 1 v.num
 | .i16,v=>be 2 v.num
 | .u16,v=>be 2 v.num
 | .i32,v=>be 4 v.num
 | .i64,v=>be 8 v.num
 | .uuid,v=>v.octets
 | .str,v=>kZ false v.octets
 | .cstr,v=>kZ true v.octets
 | .nstr,v=>if v.isNul then dp false 2 else kZ false v.octets
 | .cnstr,v=>if v.isNul then dp true 2 else kZ true v.octets
 | .bytes,v=>jf false v.octets
 | .cbytes,v=>jf true v.octets
 | .nbytes,v=>if v.isNul then dp false 4 else jf false v.octets
 | .cnbytes,v=>if v.isNul then dp true 4 else jf true v.octets
def cZ (fx:Bool)(ver:Int):Ty->PF
 | .prim p=>bN p
 | .str nul=>dM (dK nul ver) fx
 | .bytes nul=>bS nul.isSome fx
 | _=>.bool
def dj (p:Nat × Bs):Bs:=uvar p.1++(uvar (dL p.2.length)++p.2)
def bn (t:List (Nat × Bs)):Bs:=(t.map dj).flatten
def bZ (fx:Bool)(t:List (Nat × Bs)):Bs:=if fx then uvar (dL t.length)++bn t else[]
def fc (fx:Bool)(tg t:List (Nat × Bs)):Bs:=if fx then uvar (dL (tg.length+t.length))++(bn tg++bn t) else[]
theorem lL (fx:Bool)(t:List (Nat × Bs)):fc fx [] t=bZ fx t:=by simp[fc,bZ,bn]
def fE:Ty->Int->V->Bool
 | .prim .uuid,_,v=>v.octets.all fun b=>b==0
 | .prim _,df,v=>v.num==df
 | .str none,_,v=>v.octets.isEmpty
 | .str (some _),_,v=>v.isNul
 | .bytes _,_,v=>v.isNul
 | _,_,_=>false
def iJ:Fds->List V->Bool
 | .nil,_=>true
 | .cons _ _ _ df _ ty r,vs=>fE ty df (vs.headD .nul)&&iJ r vs.tail
def iX:Ty->Int->V->Bool
 | .list _ _ _,_,v=>v.list.isEmpty
 | .struct none _ fs,_,v=>iJ fs v.fields&&v.tags.isEmpty
 | .struct (some _) _ _,_,v=>v.isNul
 | ty,df,v=>fE ty df v
def iO (f:V->Bs)(l:List V):Bs:=(l.map f).flatten
mutual
def bO (fx:Bool)(ver:Int):Ty->V->Bs
 | .prim p,v=>(cZ fx ver (.prim p)).wr v
 | .str nul,v=>(cZ fx ver (.str nul)).wr v
 | .bytes nul,v=>(cZ fx ver (.bytes nul)).wr v
 | .list nul _ e,v=>(if nul.isSome&&v.isNul then dp fx 4 else iP fx v.list.length)++iO (bO fx ver e) v.list
 | .struct none _ fs,v=>wrFds fx ver fs v.fields++fc fx (wrTgd fx ver fs v.fields) v.tags
 | .struct (some _) _ fs,v=>if v.isNul then[255]else 1::(wrFds fx ver fs v.fields++fc fx (wrTgd fx ver fs v.fields) v.tags)
def wrFds (fx:Bool)(ver:Int):Fds->List V->Bs
 | .nil,_=>[]
 | .cons lo hi tag _ _ ty r,vs=>(if tag.isNone&&l6 lo hi ver then bO fx ver ty (vs.headD .nul) else[])++wrFds fx ver r vs.tail
def wrTgd (fx:Bool)(ver:Int):Fds->List V->List (Nat × Bs)
 | .nil,_=>[]
 | .cons _ _ tag df _ ty r,vs=>(match tag with|some k=>if iX ty df (vs.headD .nul) then[] else[(k,bO fx ver ty (vs.headD .nul))]|none=>[])++wrTgd fx ver r vs.tail
end
theorem iy (fx:Bool)(ver:Int):∀ (fs:Fds) (vs:List V),fs.tagged=false->wrTgd fx ver fs vs=[]
 | .nil,_,_=>by simp only[wrTgd]
 | .cons _ _ tag _ _ _ r,vs,h=>by
  simp only[Fds.tagged,Bool.or_eq_false_iff]at h
  cases tag with
  | some _=>cases h.1
  | none=>simp only[wrTgd,iy fx ver r vs.tail h.2,List.append_nil]
def fU (kept hf:Bool)(flex:Nat)(fs:Fds)(ver:Int)(v:V):Bs:=
 (if kept then be 2 ver else[])++(wrFds (hf&&decide ((flex:Int)<=ver)) ver fs v.fields++fc (hf&&decide ((flex:Int)<=ver)) (wrTgd (hf&&decide ((flex:Int)<=ver)) ver fs v.fields) v.tags)
def gP (o:Oper):List Nat:=o.op.operands.toList.filterMap fun|.tmp t=>some t|_=>none
def wU (o:Oper):Bool:=
 match o.op with
 | .move _|.pick ..|.build ..|.load ..|.nilCheck _|.binOp ..|.unOp ..|.convert ..|.slice ..|.fieldAddr ..|.field ..|.indexAddr ..|.index ..|.extract ..=>false
 | .call c=>match c.callee with|.builtin .len=>false|_=>true
 | _=>true
def dW (ops:List Oper):List Bool:=
 ops.foldl (fun(acc:List Bool) o=>acc++[wU o || (acc.zip ops).any fun p=>p.1&&(match p.2.dst with|some d=>(gP o).contains d|none=>false)]) []
def ju (o:Oper)(j:Nat):Bool:=o.after.any fun e=>Region.binds .any e&&e.on==j
def rT (o:Oper):Bool:=match o.op with|.select ..=>true|_=>false
def vi (ops:List Oper)(loud:List Bool):Bool:=
 (ops.all fun o=>o.guard.isNone&&!rT o)&&loud.length==ops.length &&
 ((List.range ops.length).all fun i=>
  match ops[i]?,loud[i]? with
  | some o,some l=>
   (l || (match o.dst with|some d=>!(gP o).contains d|none=>false))&&(o.after.all fun e=>!Region.binds .any e || decide (e.on<i)) &&
   ((List.range ops.length).all fun j=>
    match ops[j]?,loud[j]? with
    | some p,some m=>
     decide (i=j) ||
     ((match p.dst with
      | some d=>
       (!(gP o).contains d || (!m&&decide (j<i)&&ju o j) || (m&&(l || ju p i))) &&
       (l || o.dst != some d)
      | none=>true) &&
     (!(l&&m&&decide (j<i)) || ju o j || (List.range ops.length).any fun k=>decide (j<k)&&decide (k<i)&&(loud[k]?).getD false))
    | _,_=>false)
  | _,_=>false)
section
variable {P:Program}
def gn (P:Program)(I:World->Prop):List Oper->Act->(Act->Prop)->Prop
 | [],a,K=>K a
 | o::r,a,K=>∃ v,(∀ w,I w->(execOp a.eval o).run P w=.ok (.value v) w)/\gn P I r (a.put o.dst v) K
def eK (P:Program)(I:World->Prop)(Q:Exit->Act->World->Prop):List Oper->Act->World->Prop
 | [],a,w=>I w/\Q .normal a w
 | o::r,a,w=>I w/\o.wp P a w (eK P I Q r) (fun _ _ _=>False)
theorem Ch {I:World->Prop}{Q:Exit->Act->World->Prop}{l:List Oper}{a:Act}{w:World}(h:eK P I Q l a w):I w:=by
 cases l<;>exact h.1
theorem lA (o:Oper)(hs:rT o=false)(a b:Act)(h:∀ t∈gP o,a.tmps.getD t undef=b.tmps.getD t undef):execOp a.eval o=execOp b.eval o:=by
 refine execOp_congr o (fun cs bl hc=>by simp[rT,hc]at hs) fun x hx=>?_
 cases x with
 | tmp t=>exact h t (List.mem_filterMap.2 ⟨.tmp t,by simpa using hx,rfl⟩)
 | _=>rfl
theorem fH (a:Act)(d:Option Nat)(v:Value)(t:Nat)(h:d≠some t):(a.put d v).tmps.getD t undef=a.tmps.getD t undef:=by
 cases d with
 | none=>rfl
 | some d=>
  have:d≠t:=fun e=>h (by rw[e])
  simp[Act.put,Array.getElem?_setIfInBounds_ne this]
theorem pe (a b:Act)(G0:a.tmps.size=b.tmps.size)(d:Option Nat)(v:Value)(t:Nat)(h:d=some t \/ a.tmps.getD t undef=b.tmps.getD t undef) :
  (a.put d v).tmps.getD t undef=(b.put d v).tmps.getD t undef:=by
 by_cases hd:d=some t
 ·subst hd
  simp[Act.put,Array.getElem?_setIfInBounds,G0]
 ·rw[fH a d v t hd,fH b d v t hd]
  exact h.resolve_left hd
theorem nd {o:Oper}(hs:rT o=false){a b:Act}{w:World}{K K':Act->World->Prop}{Q':Exit->Act->World->Prop}(h:∀ t∈gP o,a.tmps.getD t undef=b.tmps.getD t undef)
  (hd:a.defers=b.defers) (hK:∀ ds v w',K (({ a with defers:=ds }:Act).put o.dst v) w'->K' (({ b with defers:=ds }:Act).put o.dst v) w')
  (hh:o.wp P a w K (fun _ _ _=>False)):o.wp P b w K' Q':=by
 unfold Oper.wp at *
 rw[<- lA o hs a b h]
 generalize(execOp a.eval o).run P w=r at *
 have MN:∀ v w',K (a.put o.dst v) w'->K' (b.put o.dst v) w':=fun v w' hk=>by
  have:=hK a.defers v w' hk
  rw[hd]at this
  exact this
 cases r with
 | ok n w'=>
  cases n with
  | value v=>exact MN v w' hh
  | skip=>exact MN undef w' hh
  | enter f args=>
   refine Calls.mono hh fun e w'' he=>?_
   cases e with
   | returned v=>exact MN v w'' he
   | panicked c=>exact he.elim
   | outgrown=>obtain⟨_,_,hf⟩:=he;exact hf.elim
  | row row args=>exact Rows.mono hh fun v w'' he=>MN v w'' he
  | defer d=>
   have:=hK (d::a.defers) undef w' hh
   rw[hd]at this
   exact this
  | _=>exact hh.elim
 | halt x w'=>
  cases x<;>exact hh.elim
structure FL (ops:List Oper)(loud:List Bool)(a0:Act)(af:Act)(n:Nat)(listed:Array Bool)(a:Act):Prop where
 size:listed.size=ops.length
 asz:a.tmps.size=af.tmps.size
 defers:a.defers=af.defers
 chain:∀ i:Nat,loud[i]?=some true->(listed.getD i false=true ↔ i<n)
 closed:∀ (i:Nat) o,ops[i]?=some o->listed.getD i false=true->∀ j,ju o j=true->listed.getD j false=true
 agree:∀ t,(∀ (i:Nat) o,ops[i]?=some o->loud[i]?=some false->listed.getD i false=false->o.dst≠some t)->a.tmps.getD t undef=af.tmps.getD t undef
 orig:∀ t,(∀ (i:Nat) o,ops[i]?=some o->listed.getD i false=true->o.dst≠some t)->a.tmps.getD t undef=a0.tmps.getD t undef
structure uo (ops:List Oper)(loud:List Bool):Prop where
 len:loud.length=ops.length
 guard:∀ (i:Nat) (o:Oper),ops[i]?=some o->o.guard=none/\rT o=false
 hasDst:∀ (i:Nat) (o:Oper),ops[i]?=some o->loud[i]?=some false->∃ d,o.dst=some d/\d∉gP o
 lower:∀ (i:Nat) (o:Oper),ops[i]?=some o->∀ j,ju o j=true->j<i
 reads:∀ (i:Nat) (o:Oper) (j:Nat) (p:Oper) (d:Nat),ops[i]?=some o->ops[j]?=some p->i≠j->p.dst=some d->d∈gP o ->
  (loud[j]?=some false/\j<i/\ju o j=true) \/ (loud[j]?=some true/\(loud[i]?=some true \/ ju p i=true))
 apart:∀ (i:Nat) (o:Oper) (j:Nat) (p:Oper) (d:Nat),ops[i]?=some o->ops[j]?=some p->i≠j->p.dst=some d->loud[i]?=some false->o.dst≠some d
 chain:∀ (i:Nat) (o:Oper) (j:Nat),ops[i]?=some o->loud[i]?=some true->loud[j]?=some true->j<i->ju o j=true \/ ∃ k:Nat,j<k/\k<i/\loud[k]?=some true
theorem zS {ops:List Oper}{loud:List Bool}(h:vi ops loud=true):uo ops loud:=by
 simp only[vi,Bool.and_eq_true,List.all_eq_true,List.mem_range,beq_iff_eq]at h
 obtain⟨⟨hg,hl⟩,hh⟩:=h
 have key:∀ (i:Nat) (o:Oper),ops[i]?=some o->∃ l,loud[i]?=some l:=by
  intro i o ho
  have:i<loud.length:=by rw[hl];exact(List.getElem?_eq_some_iff.1 ho).1
  exact⟨_,List.getElem?_eq_getElem this⟩
 have row:∀ (i:Nat) (o:Oper) (l:Bool),ops[i]?=some o->loud[i]?=some l->_:=fun i o l ho HG=>by
  have h1:=hh i (List.getElem?_eq_some_iff.1 ho).1
  rw[ho,HG]at h1
  simp only[Bool.and_eq_true,List.all_eq_true,List.mem_range]at h1
  exact h1
 have cell:∀ (i:Nat) (o:Oper) (l:Bool) (j:Nat) (p:Oper) (m:Bool),ops[i]?=some o->loud[i]?=some l->ops[j]?=some p->loud[j]?=some m->_:=fun i o l j p m ho HG hp hm=>by
  have h1:=(row i o l ho HG).2 j (List.getElem?_eq_some_iff.1 hp).1
  rw[hp,hm]at h1
  exact h1
 refine⟨hl,fun i o ho=>?_,fun i o ho HG=>?_,fun i o ho j hw=>?_,fun i o j p d ho hp HL hd hr=>?_,fun i o j p d ho hp HL hd HG=>?_,fun i o j ho HG HR Ns=>?_⟩
 ·have:=hg o (List.mem_of_getElem? ho)
  simpa[Option.isNone_iff_eq_none]using this
 ·have:=(row i o false ho HG).1.1
  cases hd:o.dst with
  | none=>rw[hd]at this;simp at this
  | some d=>rw[hd]at this;exact⟨d,rfl,by simpa using this⟩
 ·obtain⟨l,HG⟩:=key i o ho
  have h1:=(row i o l ho HG).1.2
  unfold ju at hw
  obtain⟨e,he,hb⟩:=Array.any_eq_true'.1 hw
  simp only[Bool.and_eq_true,beq_iff_eq]at hb
  have h2:=Array.all_eq_true'.1 h1 e he
  simp only[hb.1,Bool.not_true,Bool.false_or,decide_eq_true_eq]at h2
  omega
 ·obtain⟨l,HG⟩:=key i o ho
  obtain⟨m,MC⟩:=key j p hp
  have h1:=cell i o l j p m ho HG hp MC
  simp only[hd,HL,decide_false,Bool.false_or,Bool.and_eq_true,Bool.or_eq_true,List.contains_eq_mem,hr,decide_true,Bool.not_true,Bool.not_eq_true',decide_eq_true_eq]at h1
  rcases h1.1.1 with⟨⟨h2,h3⟩,h4⟩|⟨h2,h3⟩
  ·subst h2;exact .inl ⟨MC,h3,h4⟩
  ·subst h2
   refine .inr ⟨MC,?_⟩
   rcases h3 with h3|h3
   ·subst h3;exact .inl HG
   ·exact .inr h3
 ·obtain⟨m,MC⟩:=key j p hp
  have h1:=cell i o false j p m ho HG hp MC
  simp only[hd,HL,decide_false,Bool.false_or,Bool.and_eq_true]at h1
  simpa using h1.1.2
 ·have HY:j<ops.length:=by rw[<- hl];exact(List.getElem?_eq_some_iff.1 HR).1
  have hp:ops[j]?=some ops[j]:=List.getElem?_eq_getElem HY
  have h1:=cell i o true j _ true ho HG hp HR
  have HL:i≠j:=by omega
  simp only[HL,decide_false,Bool.false_or,Bool.and_eq_true,Ns,decide_true,Bool.not_true,Bool.or_eq_true,Bool.true_and]at h1
  rcases h1.2 with h2|h2
  ·exact .inl h2
  ·obtain⟨k,hk,Gs⟩:=List.any_eq_true.1 h2
   simp only[Bool.and_eq_true,decide_eq_true_eq]at Gs
   refine .inr ⟨k,Gs.1.1,Gs.1.2,?_⟩
   cases hc:loud[k]? with
   | none=>rw[hc]at Gs;simp at Gs
   | some x=>rw[hc]at Gs;simp at Gs;rw[Gs.2]
def Du (P:Program)(I:World->Prop)(ops:List Oper)(loud:List Bool)(a0 af:Act):Prop:=
 ∀ (i:Nat) (o:Oper),ops[i]?=some o->loud[i]?=some false->∃ v,(∀ b:Act,b.tmps.size=af.tmps.size->∀ d,o.dst=some d->(b.put o.dst v).tmps.getD d undef=af.tmps.getD d undef) /\
  ∀ w,I w->∀ b:Act,(∀ t∈gP o,(∃ (j:Nat) (p:Oper),ops[j]?=some p/\loud[j]?=some false/\p.dst=some t)->b.tmps.getD t undef=af.tmps.getD t undef) ->
   (∀ t∈gP o,(¬ ∃ (j:Nat) (p:Oper),ops[j]?=some p/\loud[j]?=some false/\p.dst=some t)->b.tmps.getD t undef=a0.tmps.getD t undef)->(execOp b.eval o).run P w=.ok (.value v) w
def dD:List Oper->List Bool->List Oper
 | o::r,l::m=>if l then dD r m else o::dD r m
 | _,_=>[]
def cq:List Oper->List Bool->List Oper
 | o::r,l::m=>if l then o::cq r m else cq r m
 | _,_=>[]
theorem uj {I:World->Prop}{ops:List Oper}{loud:List Bool}(hd:uo ops loud)(a0:Act)(K:Act->Prop):∀ (r:List Oper) (m:List Bool) (k:Nat) (a:Act),r.length=m.length ->
  (∀ i,r[i]?=ops[k+i]?)->(∀ i,m[i]?=loud[k+i]?)->(∀ t,(∀ (j:Nat) (p:Oper),j<k->ops[j]?=some p->loud[j]?=some false->p.dst≠some t)->a.tmps.getD t undef=a0.tmps.getD t undef) ->
  gn P I (dD r m) a K ->
  ∃ af,K af/\af.tmps.size=a.tmps.size/\af.defers=a.defers/\(∀ t,(∀ (j:Nat) (p:Oper),k<=j->ops[j]?=some p->loud[j]?=some false->p.dst≠some t)->af.tmps.getD t undef=a.tmps.getD t undef) /\
   (∀ (i:Nat) (o:Oper),k<=i->ops[i]?=some o->loud[i]?=some false->∃ v,(∀ b:Act,b.tmps.size=af.tmps.size->∀ d,o.dst=some d->(b.put o.dst v).tmps.getD d undef=af.tmps.getD d undef) /\
    ∀ w,I w->∀ b:Act,(∀ t∈gP o,(∃ (j:Nat) (p:Oper),ops[j]?=some p/\loud[j]?=some false/\p.dst=some t)->b.tmps.getD t undef=af.tmps.getD t undef) ->
     (∀ t∈gP o,(¬ ∃ (j:Nat) (p:Oper),ops[j]?=some p/\loud[j]?=some false/\p.dst=some t)->b.tmps.getD t undef=a0.tmps.getD t undef)->(execOp b.eval o).run P w=.ok (.value v) w)
 | [],m,k,a,hl,hr,_,_,h=>by
  obtain rfl:m=[]:=by cases m;rfl;simp at hl
  refine⟨a,h,rfl,rfl,fun _ _=>rfl,fun i o hi ho=>?_⟩
  have:=hr (i-k)
  rw[show k+(i-k)=i by omega,ho]at this
  simp at this
 | o::r,l::m,k,a,hl,hr,hm,ha,h=>by
  have ho:ops[k]?=some o:=by have:=hr 0;simpa using this.symm
  have Qw:loud[k]?=some l:=by have:=hm 0;simpa using this.symm
  have Pu:∀ i,r[i]?=ops[k+1+i]?:=fun i=>by have:=hr (i+1);simp only[List.getElem?_cons_succ]at this;rw[this];congr 1;omega
  have Qu:∀ i,m[i]?=loud[k+1+i]?:=fun i=>by have:=hm (i+1);simp only[List.getElem?_cons_succ]at this;rw[this];congr 1;omega
  cases l with
  | true=>
   simp only[dD,if_true]at h
   obtain⟨af,h1,h2,h3,h4,h5⟩:=uj hd a0 K r m (k+1) a (by simpa using hl) Pu Qu (fun t ht=>ha t fun j p hj hp HR=>ht j p (by omega) hp HR) h
   refine⟨af,h1,h2,h3,fun t ht=>h4 t fun j p hj=>ht j p (by omega),fun i o' hi Px Np=>h5 i o' ?_ Px Np⟩
   rcases Nat.lt_or_ge k i with hk|hk
   ·exact hk
   ·obtain rfl:i=k:=by omega
    rw[Qw]at Np;cases Np
  | false=>
   simp only[dD]at h
   obtain⟨v,hv,h⟩:=h
   obtain⟨d,HW,Mb⟩:=hd.hasDst k o ho Qw
   obtain⟨af,h1,h2,h3,h4,h5⟩:=uj hd a0 K r m (k+1) (a.put o.dst v) (by simpa using hl) Pu Qu (fun t ht=>by
    rw[fH _ _ _ _ (ht k o (by omega) ho Qw)]
    exact ha t fun j p hj hp HR=>ht j p (by omega) hp HR) h
   have G0:(a.put o.dst v).tmps.size=a.tmps.size:=by rw[HW];simp[Act.put]
   have GS:(a.put o.dst v).defers=a.defers:=by rw[HW];rfl
   have O8:∀ (j:Nat) (p:Oper),k+1<=j->ops[j]?=some p->loud[j]?=some false->p.dst≠some d:=fun j p hj hp HR J7=>
    hd.apart j p k o d hp ho (by omega) HW HR J7
   refine⟨af,h1,h2.trans G0,h3.trans GS,fun t ht=>?_,fun i o' hi Px Np=>?_⟩
   ·rw[h4 t fun j p hj=>ht j p (by omega),fH _ _ _ _ (ht k o (Nat.le_refl _) ho Qw)]
   ·rcases Nat.lt_or_ge k i with hk|hk
    ·exact h5 i o' hk Px Np
    ·obtain rfl:i=k:=by omega
     obtain rfl:o'=o:=Option.some.inj (Px.symm.trans ho)
     refine⟨v,fun b hb d' hd'=>?_,fun w hI b Hc Hj=>?_⟩
     ·obtain rfl:d'=d:=Option.some.inj (hd'.symm.trans HW)
      rw[h4 d' O8]
      exact pe b a (by rw[hb,h2,G0]) o'.dst v d' (.inl HW)
     ·rw[<- hv w hI]
      congr 1
      refine lA o' (hd.guard i o' ho).2 b a fun t ht=>?_
      by_cases Je:∃ (j:Nat) (p:Oper),ops[j]?=some p/\loud[j]?=some false/\p.dst=some t
      ·rw[Hc t ht Je]
       obtain⟨j,p,hp,HR,J7⟩:=Je
       by_cases HL:i=j
       ·subst HL
        obtain rfl:p=o':=Option.some.inj (hp.symm.trans ho)
        obtain rfl:d=t:=Option.some.inj (HW.symm.trans J7)
        exact absurd ht Mb
       ·rcases hd.reads i o' j p t ho hp HL J7 ht with⟨_,Ns,_⟩|⟨Gq,_⟩
        ·rw[h4 t fun j' p' Nt GK hlj' hpd'=>?_]
         ·rw[fH _ _ _ _ (fun e=>?_)]
          exact hd.apart i o' j p t ho hp HL J7 Qw e
         ·have Q8:j'≠j:=by omega
          exact hd.apart j' p' j p t GK hp Q8 J7 hlj' hpd'
        ·rw[HR]at Gq;cases Gq
      ·rw[Hj t ht Je]
       exact(ha t fun j p hj hp HR J7=>Je ⟨j,p,hp,HR,J7⟩).symm
 | _::_,[],_,_,hl,_,_,_,_=>by simp at hl
def D7 (n:Nat)(listed:Array Bool):Nat:=(List.range n).countP fun i=>!listed.getD i true
theorem uA {n i:Nat}{listed:Array Bool}(hi:i<n)(hs:listed.size=n)(h:listed.getD i true=false):D7 n (listed.setIfInBounds i true)<D7 n listed:=by
 unfold D7
 have key:∀ m,m<=n->(List.range m).countP (fun j=>!(listed.setIfInBounds i true).getD j true)+(if i<m then 1 else 0)=(List.range m).countP (fun j=>!listed.getD j true):=by
  intro m
  induction m with
  | zero=>intro _;simp
  | succ m ih=>
   intro hm
   rw[List.range_succ,List.countP_append,List.countP_append]
   have:=ih (by omega)
   by_cases e:i=m
   ·subst e
    have e1:(listed.setIfInBounds i true).getD i true=true:=by simp[hs,hi]
    simp only[Nat.lt_irrefl,if_false,Nat.add_zero]at this
    simp only[List.countP_cons,List.countP_nil,e1,h,this]
    simp
   ·rw[List.countP_cons,List.countP_cons,getD_set_ne true e]
    by_cases Gq:i<m
    ·have:i<m+1:=by omega
     simp_all
     omega
    ·have:¬ i<m+1:=by omega
     simp_all
 have:=key n (Nat.le_refl n)
 rw[if_pos hi]at this
 omega
theorem ly {ops:List Oper}{loud:List Bool}(hl:loud.length=ops.length):∀ (n:Nat),(∃ i o,n<=i/\ops[i]?=some o/\loud[i]?=some true/\(∀ j,n<=j->j<i->loud[j]?=some false) /\
   cq (ops.drop n) (loud.drop n)=o::cq (ops.drop (i+1)) (loud.drop (i+1))) \/
  (cq (ops.drop n) (loud.drop n)=[]/\∀ j,n<=j->loud[j]?≠some true):=by
 intro n
 generalize hd:ops.length-n=d
 induction d generalizing n with
 | zero=>
  right
  have h1:ops.drop n=[]:=List.drop_eq_nil_of_le (by omega)
  refine⟨by rw[h1];simp[cq],fun j hj=>?_⟩
  rw[List.getElem?_eq_none (by omega)]
  simp
 | succ d ih=>
  have hn:n<ops.length:=by omega
  have GU:n<loud.length:=by omega
  rw[List.drop_eq_getElem_cons hn,List.drop_eq_getElem_cons GU]
  have ho:ops[n]?=some ops[n]:=List.getElem?_eq_getElem hn
  have HG:loud[n]?=some loud[n]:=List.getElem?_eq_getElem GU
  cases hc:loud[n] with
  | true=>
   left
   refine⟨n,ops[n],Nat.le_refl _,ho,by rw[HG,hc],fun j h1 h2=>by omega,?_⟩
   simp[cq]
  | false=>
   simp only[cq]
   rcases ih (n+1) (by omega) with⟨i,o,h1,h2,h3,h4,h5⟩|⟨h1,h2⟩
   ·left
    refine⟨i,o,by omega,h2,h3,fun j hj Ns=>?_,h5⟩
    by_cases e:j=n
    ·subst e;rw[HG,hc]
    ·exact h4 j (by omega) Ns
   ·right
    refine⟨h1,fun j hj=>?_⟩
    by_cases e:j=n
    ·subst e;rw[HG,hc];simp
    ·exact h2 j (by omega)
theorem zQ {I:World->Prop}{Q:Exit->Act->World->Prop}{ops:List Oper}{loud:List Bool}(hd:uo ops loud){a0 af0:Act}(hF:Du P I ops loud a0 af0) :
  ∀ (fuel:Nat) (listed:Array Bool) (a af:Act) (w:World) (n:Nat),D7 ops.length listed<=fuel->FL ops loud a0 af n listed a->af.tmps.size=af0.tmps.size ->
   (∀ (i:Nat) (o:Oper) (d:Nat),ops[i]?=some o->loud[i]?=some false->o.dst=some d->af.tmps.getD d undef=af0.tmps.getD d undef) ->
   eK P I Q (cq (ops.drop n) (loud.drop n)) af w->wpAny P .any ops.toArray Q fuel listed a w:=by
 have done:∀ (listed:Array Bool) (a af:Act) (w:World) (n:Nat),FL ops loud a0 af n listed a->eK P I Q (cq (ops.drop n) (loud.drop n)) af w->Region.ready .any ops.toArray listed=[]->Q .normal a w:=by
  intro listed a af w n inv hw hr
  have all:∀ i,i<ops.length->listed.getD i false=true:=by
   intro i
   induction i using Nat.strongRecOn with
   | _ i ih=>
    intro hi
    cases hc:listed.getD i false with
    | true=>rfl
    | false=>
     exfalso
     have ho:ops[i]?=some ops[i]:=List.getElem?_eq_getElem hi
     have:i∈Region.ready .any ops.toArray listed:=by
      rw[mem_ready]
      refine⟨getD_in (by rw[inv.size];exact hi) hc,ops[i],by simp,fun e he hb=>?_⟩
      have Gq:=hd.lower i _ ho e.on (by unfold ju;exact Array.any_eq_true'.2 ⟨e,he,by simp[hb]⟩)
      exact ih e.on Gq (by omega)
     rw[hr]at this
     cases this
  have Hx:cq (ops.drop n) (loud.drop n)=[]:=by
   rcases ly hd.len n with⟨i,o,h1,h2,h3,_⟩|⟨h1,_⟩
   ·have:=(inv.chain i h3).1 (all i (List.getElem?_eq_some_iff.1 h2).1)
    omega
   ·exact h1
  rw[Hx]at hw
  have e:a=af:=by
   obtain⟨t1,d1⟩:=a
   obtain⟨t2,d2⟩:=af
   have e1:d1=d2:=inv.defers
   have e2:t1=t2:=by
    apply Array.ext inv.asz
    intro i h1 h2
    have:=inv.agree i (fun j o ho _ hu=>by rw[all j (List.getElem?_eq_some_iff.1 ho).1]at hu;cases hu)
    simpa[h1,h2]using this
   rw[e1,e2]
  rw[e]
  exact hw.2
 intro fuel
 induction fuel with
 | zero=>
  intro listed a af w n hu inv _ _ hw
  have hr:Region.ready .any ops.toArray listed=[]:=by
   cases hr:Region.ready .any ops.toArray listed with
   | nil=>rfl
   | cons i r=>
    have hi:i∈Region.ready .any ops.toArray listed:=by rw[hr];exact List.mem_cons_self
    obtain⟨h1,o,ho,_⟩:=mem_ready.1 hi
    have:=uA (n:=ops.length) (List.getElem?_eq_some_iff.1 (by simpa using ho:ops[i]?=some o)).1 inv.size h1
    omega
  exact⟨hr,done listed a af w n inv hw hr⟩
 | succ fuel ih=>
  intro listed a af w n hu inv G0 hfix hw
  refine⟨done listed a af w n inv hw,fun i hi=>?_⟩
  obtain⟨Vw,o,VD,Jx⟩:=mem_ready.1 hi
  have ho:ops[i]?=some o:=by simpa using VD
  have Mq:i<ops.length:=(List.getElem?_eq_some_iff.1 ho).1
  have Gq:i<loud.length:=by rw[hd.len];exact Mq
  have Lp:=uA (n:=ops.length) Mq inv.size Vw
  have hun':=getD_both Vw
  have Ko:∀ j,ju o j=true->listed.getD j false=true:=by
   intro j hj
   unfold ju at hj
   obtain⟨e,he,hb⟩:=Array.any_eq_true'.1 hj
   simp only[Bool.and_eq_true,beq_iff_eq]at hb
   rw[<- hb.2]
   exact Jx e he hb.1
  have H9:∀ j,(listed.setIfInBounds i true).getD j false=true->j=i \/ listed.getD j false=true:=by
   intro j hj
   by_cases e:i=j
   ·exact .inl e.symm
   ·rw[getD_set_ne false e]at hj;exact .inr hj
  have Ma:(listed.setIfInBounds i true).getD i false=true:=by
   have:i<listed.size:=by rw[inv.size];exact Mq
   simp[this]
  unfold wpOp
  rw[VD]
  simp only
  rw[if_pos (by simp[Region.wanted,(hd.guard i o ho).1])]
  refine .inl ?_
  cases HG:loud[i] with
  | false=>
   have I2:loud[i]?=some false:=by rw[List.getElem?_eq_getElem Gq,HG]
   obtain⟨v,Iu,Jl⟩:=hF i o ho I2
   obtain⟨d,HW,Mb⟩:=hd.hasDst i o ho I2
   have GF:(execOp a.eval o).run P w=.ok (.value v) w:=by
    refine Jl w (Ch hw) a (fun t ht Je=>?_) (fun t ht Je=>?_)
    ·obtain⟨j,p,hp,HR,J7⟩:=Je
     have HL:i≠j:=fun e=>by
      subst e
      obtain rfl:p=o:=Option.some.inj (hp.symm.trans ho)
      obtain rfl:d=t:=Option.some.inj (HW.symm.trans J7)
      exact Mb ht
     rcases hd.reads i o j p t ho hp HL J7 ht with⟨_,_,S2⟩|⟨Lv,_⟩
     ·have HY:=Ko j S2
      rw[inv.agree t fun j' p' GK hlj' huj' hpd'=>?_]
      ·exact hfix j p t hp HR J7
      ·by_cases e:j'=j
       ·subst e;rw[HY]at huj';cases huj'
       ·exact hd.apart j' p' j p t GK hp e J7 hlj' hpd'
     ·rw[HR]at Lv;cases Lv
    ·refine inv.orig t fun j p hp HR J7=>?_
     by_cases HL:i=j
     ·subst HL;rw[hun']at HR;cases HR
     ·rcases hd.reads i o j p t ho hp HL J7 ht with⟨h1,_⟩|⟨Lv,h2⟩
      ·exact Je ⟨j,p,hp,h1,J7⟩
      ·rcases h2 with h2|h2
       ·rw[I2]at h2;cases h2
       ·have:=inv.closed j p hp HR i h2
        rw[hun']at this;cases this
   unfold Oper.wp
   rw[GF]
   show wpAny P .any ops.toArray Q fuel (listed.setIfInBounds i true) (a.put o.dst v) w
   refine ih _ _ af w n (by omega) ?_ G0 hfix hw
   have Tk:(a.put o.dst v).tmps.size=a.tmps.size:=by rw[HW];simp[Act.put]
   refine⟨by simp[inv.size],Tk.trans inv.asz,(by rw[HW];exact inv.defers),fun j hj=>?_,fun j p hp HR k hk=>?_,fun t ht=>?_,fun t ht=>?_⟩
   ·have HL:i≠j:=fun e=>by subst e;rw[I2]at hj;cases hj
    rw[getD_set_ne false HL]
    exact inv.chain j hj
   ·rcases H9 j HR with e|e
    ·subst e
     obtain rfl:p=o:=Option.some.inj (hp.symm.trans ho)
     exact getD_set_true (Ko k hk)
    ·exact getD_set_true (inv.closed j p hp e k hk)
   ·by_cases e:d=t
    ·subst e
     rw[Iu a (inv.asz.trans G0) d HW]
     exact(hfix i o d ho I2 HW).symm
    ·rw[fH _ _ _ _ (by rw[HW];simpa using e)]
     refine inv.agree t fun j p hp HR Pt=>?_
     by_cases e2:i=j
     ·subst e2
      obtain rfl:p=o:=Option.some.inj (hp.symm.trans ho)
      rw[HW];simpa using e
     ·exact ht j p hp HR (by rw[getD_set_ne false e2];exact Pt)
   ·rw[fH _ _ _ _ (ht i o ho Ma)]
    exact inv.orig t fun j p hp HR=>ht j p hp (getD_set_true HR)
  | true=>
   have I2:loud[i]?=some true:=by rw[List.getElem?_eq_getElem Gq,HG]
   rcases ly hd.len n with⟨k,o',h1,h2,h3,h4,h5⟩|⟨_,h2⟩
   ·-- the next of the chain is this one
    have Qo:n<=i:=by
     rcases Nat.lt_or_ge i n with h|h
     ·have:=(inv.chain i I2).2 h
      rw[hun']at this;cases this
     ·exact h
    have TK:k=i:=by
     rcases Nat.lt_trichotomy k i with h|h|h
     ·exfalso
      have:∀ (m:Nat),∀ q,i-q=m->k<=q->q<i->loud[q]?=some true->False:=by
       intro m
       induction m using Nat.strongRecOn with
       | _ m ihm=>
        intro q hm hkq hqi hq
        rcases hd.chain i o q ho I2 hq hqi with Jc|⟨r,Th,PY,Tg⟩
        ·have:=(inv.chain q hq).1 (Ko q Jc)
         omega
        ·exact ihm (i-r) (by omega) r rfl (by omega) PY Tg
      exact this _ k rfl (Nat.le_refl _) h h3
     ·exact h
     ·have:=h4 i Qo h
      rw[I2]at this;cases this
    subst TK
    obtain rfl:o'=o:=Option.some.inj (h2.symm.trans ho)
    rw[h5]at hw
    refine nd (a:=af) (b:=a) (hd.guard k o' ho).2 (fun t ht=>?_) inv.defers.symm (fun ds v w' hk=>?_) hw.2
    ·refine(inv.agree t fun j p hp HR Pt J7=>?_).symm
     have HL:k≠j:=fun e=>by subst e;rw[I2]at HR;cases HR
     rcases hd.reads k o' j p t ho hp HL J7 ht with⟨_,_,S2⟩|⟨Lv,_⟩
     ·rw[Ko j S2]at Pt;cases Pt
     ·rw[HR]at Lv;cases Lv
    ·refine ih _ _ (({ af with defers:=ds }:Act).put o'.dst v) w' (k+1) (by omega) ?_ ?_ (fun i' o'' d' JY hli' hd'=>?_) hk
     ·have RY:∀ (x:Act),(({ x with defers:=ds }:Act).put o'.dst v).tmps.size=x.tmps.size:=fun x=>by cases o'.dst<;>simp[Act.put]
      have J7:∀ (x:Act),(({ x with defers:=ds }:Act).put o'.dst v).defers=ds:=fun x=>by cases o'.dst<;>rfl
      refine⟨by simp[inv.size],by rw[RY,RY];exact inv.asz,by rw[J7,J7],fun j hj=>?_,fun j p hp HR q hq=>?_,fun t ht=>?_,fun t ht=>?_⟩
      ·by_cases e:k=j
       ·subst e;rw[Ma];simp
       ·rw[getD_set_ne false e,inv.chain j hj]
        constructor
        ·intro h;omega
        ·intro h
         rcases Nat.lt_or_ge j n with h'|h'
         ·exact h'
         ·have:=h4 j h' (by omega)
          rw[hj]at this;cases this
      ·rcases H9 j HR with e|e
       ·subst e
        obtain rfl:p=o':=Option.some.inj (hp.symm.trans ho)
        exact getD_set_true (Ko q hq)
       ·exact getD_set_true (inv.closed j p hp e q hq)
      ·refine pe { a with defers:=ds } { af with defers:=ds } inv.asz o'.dst v t ?_
       by_cases e:o'.dst=some t
       ·exact .inl e
       ·refine .inr (inv.agree t fun j p hp HR Pt=>?_)
        have HL:k≠j:=fun e=>by subst e;rw[I2]at HR;cases HR
        exact ht j p hp HR (by rw[getD_set_ne false HL];exact Pt)
      ·rw[fH _ _ _ _ (ht k o' ho Ma)]
       exact inv.orig t fun j p hp HR=>ht j p hp (getD_set_true HR)
     ·have:(({ af with defers:=ds }:Act).put o'.dst v).tmps.size=af.tmps.size:=by cases o'.dst<;>simp[Act.put]
      exact this.trans G0
     ·have HL:i'≠k:=fun e=>by subst e;rw[I2]at hli';cases hli'
      rw[fH _ _ _ _ (fun e=>hd.apart i' o'' k o' d' JY ho HL e hli' hd')]
      exact hfix i' o'' d' JY hli' hd'
   ·exfalso
    have Qo:n<=i:=by
     rcases Nat.lt_or_ge i n with h|h
     ·have:=(inv.chain i I2).2 h
      rw[hun']at this;cases this
     ·exact h
    exact h2 i Qo I2
theorem As (hm:P.follows .mixedOrders=true){id:Nat}{l:List Oper}{loud:List Bool}(hB:vi l loud=true)(I:World->Prop){Q:Exit->Act->World->Prop}{a:Act}{w:World}
  (h:gn P I (dD l loud) a fun af=>eK P I Q (cq l loud) af w.drew):(Code.region id l.toArray true).wp P Q a w:=by
 have hd:=zS hB
 obtain⟨af,h1,h2,h3,h4,h5⟩:=uj hd a _ l loud 0 a hd.len.symm (by simp) (by simp) (fun t _=>rfl) h
 refine wp_region_any hm ?_
 refine zQ hd (a0:=a) (af0:=af) (fun i o ho hl=>h5 i o (Nat.zero_le _) ho hl) _ _ a af _ 0 ?_ ?_ rfl (fun _ _ _ _ _ _=>rfl) (by simpa using h1)
 ·unfold D7
  exact Nat.le_trans List.countP_le_length (by simp)
 ·refine⟨by simp,h2.symm,h3.symm,fun i hi=>?_,fun i o _ hl=>?_,fun t ht=>?_,fun t _=>rfl⟩
  ·rw[getD_replicate_false];simp
  ·rw[getD_replicate_false]at hl;cases hl
  ·exact(h4 t fun j p _ hp HR=>ht j p hp HR (getD_replicate_false _ _)).symm
end
def nOp:Op->Op
 | .call c=>.call { c with argTypes:=match c.callee with|.builtin _=>c.argTypes|_=>#[] }
 | .binOp o t x y _=>.binOp o t x y 0
 | o=>o
def nTy:Op->TypeId->TypeId
 | .call c,t=>match c.callee with|.builtin _=>t|_=>0
 | .next ..,t=>t
 | .go _,t=>t
 | .defer _,t=>t
 | _,_=>0
def dz (o : Oper) : Oper := { dst := o.dst, op := nOp o.op, type := nTy o.op o.type, pos := "", after := #[], guard := o.guard }
theorem ic (ρ:Operand->Value)(o:Oper):execOp ρ (dz o)=execOp ρ o:=by
 obtain⟨dst,op,type,pos,after,guard⟩:=o
 cases op<;>try rfl
 case call c=>
  obtain⟨callee,args,argTypes⟩:=c
  cases callee<;>rfl
theorem iV (o:Oper):(dz o).dst=o.dst:=rfl
theorem tC (P:Program)(o:Oper)(a:Act)(K:Act->World->Prop)(Q:Exit->Act->World->Prop)(r:Result Next) :
  (dz o).upon P a K Q r=o.upon P a K Q r:=by
 cases r with
 | ok x w=>cases x<;>rfl
 | halt h w=>cases h<;>rfl
theorem rM (P:Program)(o:Oper)(a:Act)(w:World)(K:Act->World->Prop)(Q:Exit->Act->World->Prop) :
  (dz o).wp P a w K Q=o.wp P a w K Q:=by
 unfold Oper.wp
 rw[ic,tC]
theorem tD (P:Program)(o:Oper)(a:Act)(w:World):(dz o).asks P a w=o.asks P a w:=by
 unfold Oper.asks
 rw[ic]
theorem km (ops:Array Oper)(tmps:Array Value):yielded (ops.toList.map dz).toArray tmps=yielded ops tmps:=by
 funext j
 have h:((ops.toList.map dz).toArray[j]?).bind (·.dst)=(ops[j]?).bind (·.dst):=by
  simp only[List.getElem?_toArray,List.getElem?_map,Array.getElem?_toList]
  cases ops[j]?<;>rfl
 unfold yielded
 rw[h]
theorem kX (o:Oper)(y:Nat->Option Bool):Region.wanted (dz o) y=Region.wanted o y:=rfl
theorem pA (P:Program)(ops:Array Oper)(Q:Exit->Act->World->Prop)(l:List Oper) :
  wpList P (ops.toList.map dz).toArray Q (l.map dz)=wpList P ops Q l:=by
 induction l with
 | nil=>rfl
 | cons o r ih=>
  funext a w
  simp only[List.map_cons,wpList,kX,km,rM,tD,iV,ih]
theorem rA (o:Oper):gP (dz o)=gP o:=by
 obtain⟨dst,op,type,pos,after,guard⟩:=o
 cases op<;>try rfl
theorem um (o:Oper):wU (dz o)=wU o:=by
 obtain⟨dst,op,type,pos,after,guard⟩:=o
 cases op<;>try rfl
theorem qw (l:List Oper):dW (l.map dz)=dW l:=by
 unfold dW
 rw[List.foldl_map]
 congr 1
 funext acc o
 rw[um]
 congr 2
 congr 1
 have:acc.zip (l.map dz)=(acc.zip l).map (fun p=>(p.1,dz p.2)):=by rw[List.zip_map_right];rfl
 rw[this,List.any_map]
 congr 1
 funext p
 simp only[Function.comp,iV,rA]
theorem kx:∀ (l:List Oper) (m:List Bool),dD (l.map dz) m=(dD l m).map dz
 | [],_=>rfl
 | _::_,[]=>rfl
 | o::r,b::m=>by cases b<;>simp[dD,kx r m]
theorem kv:∀ (l:List Oper) (m:List Bool),cq (l.map dz) m=(cq l m).map dz
 | [],_=>rfl
 | _::_,[]=>rfl
 | o::r,b::m=>by cases b<;>simp[cq,kv r m]
theorem pp (P:Program)(I:World->Prop):∀ (l:List Oper) (a:Act) (K:Act->Prop),gn P I (l.map dz) a K=gn P I l a K
 | [],_,_=>rfl
 | o::r,a,K=>by
  simp only[List.map_cons,gn,ic,iV,pp P I r]
theorem ng (P:Program)(I:World->Prop)(Q:Exit->Act->World->Prop):∀ (l:List Oper),eK P I Q (l.map dz)=eK P I Q l
 | []=>rfl
 | o::r=>by
  funext a w
  simp only[List.map_cons,eK,rM,ng P I Q r]
def tL (d:Bool)(ops:Array Oper):Nat:=if d then(if vi ops.toList (dW ops.toList)then 1 else if Region.lexB .any ops then 2 else 0)else 0
theorem rD (P:Program)(o:Oper)(a:Act)(C:World->Prop)(K:Act->Prop):(dz o).quiet P a C K=o.quiet P a C K:=by
 unfold Oper.quiet Oper.quietAt
 rw[ic,iV]
theorem ko (P:Program)(ops:Array Oper)(C:World->Prop)(Q:Act->Prop):∀ (l:List Oper),wpQuiet P (ops.toList.map dz).toArray C Q (l.map dz)=wpQuiet P ops C Q l
 | []=>rfl
 | o::r=>by
  funext a
  simp only[List.map_cons,wpQuiet,kX,km,rD,iV,ko P ops C Q r]
def nCode:Code->Code
 | .region _ ops d=>.region (tL d ops) (ops.toList.map dz).toArray d
 | .seq a b=>.seq (nCode a) (nCode b)
 | .cond c x y=>.cond c (nCode x) (nCode y)
 | .block id c=>.block id (nCode c)
 | .loop c=>.loop (nCode c)
 | .scope c=>.scope (nCode c)
 | .rangeFunc .. => .refuse ""
 | c=>c
inductive aQ (P:Program):Code->(Exit->Act->World->Prop)->Act->World->Prop
 | skip {Q:Exit->Act->World->Prop} {a:Act} {w:World}:Q .normal a w->aQ P .skip Q a w
 | label {l:Nat} {Q:Exit->Act->World->Prop} {a:Act} {w:World}:Q .normal a w->aQ P (.label l) Q a w
 | exit {id:Nat} {Q:Exit->Act->World->Prop} {a:Act} {w:World}:Q (.exit id) a w->aQ P (.exit id) Q a w
 | goto {l:Nat} {Q:Exit->Act->World->Prop} {a:Act} {w:World}:Q (.goto l) a w->aQ P (.goto l) Q a w
 | ret {Q:Exit->Act->World->Prop} {a:Act} {w:World}:Q .ret a w->aQ P .ret Q a w
 | reg {id:Nat} {l:List Oper} {Q:Exit->Act->World->Prop} {a:Act} {w:World}:wpList P l.toArray Q l a w->aQ P (.region id l.toArray false) Q a w
 | drw {l:List Oper} {Q:Exit->Act->World->Prop} {a:Act} {w:World} (I:World->Prop) :
   gn P I (dD l (dW l)) a (fun af=>eK P I Q (cq l (dW l)) af w.drew)->aQ P (.region 1 l.toArray true) Q a w
 | drq {l:List Oper} {Q:Exit->Act->World->Prop} {a:Act} {w:World} (C:World->Prop):C w.drew ->
   wpQuiet P l.toArray C (fun a'=>∀ w',C w'->Q .normal a' w') l a->aQ P (.region 2 l.toArray true) Q a w
 | seq {x y:Code} {Q R:Exit->Act->World->Prop} {a:Act} {w:World}:aQ P x R a w->(∀ a w,R .normal a w->aQ P y Q a w) ->
   (∀ e a w,e≠.normal->R e a w->Q e a w)->aQ P (.seq x y) Q a w
 | condT {c:Operand} {x y:Code} {Q:Exit->Act->World->Prop} {a:Act} {w:World}:a.eval c=.bool true->aQ P x Q a w->aQ P (.cond c x y) Q a w
 | condF {c:Operand} {x y:Code} {Q:Exit->Act->World->Prop} {a:Act} {w:World}:a.eval c=.bool false->aQ P y Q a w->aQ P (.cond c x y) Q a w
 | block {id:Nat} {c:Code} {Q:Exit->Act->World->Prop} {a:Act} {w:World}:aQ P c (Exit.inBlock id Q) a w->aQ P (.block id c) Q a w
 | loop {c:Code} {Q:Exit->Act->World->Prop} {a:Act} {w:World} (I:Act->World->Prop) (μ:Act->World->Nat):I a w ->
   (∀ a w,I a w->aQ P c (Exit.then (fun a' w'=>I a' w'/\μ a' w'<μ a w) Q) a w)->aQ P (.loop c) Q a w
 | scope {c rest:Code} {Q:Exit->Act->World->Prop} {a:Act} {w:World} (l:Nat) (J:Act->World->Prop) (μ:Act->World->Nat):findLabel c l=some rest ->
   aQ P c (Exit.jump l J Q) a w->(∀ a w,J a w->aQ P rest (Exit.jump l (fun a' w'=>J a' w'/\μ a' w'<μ a w) Q) a w)->aQ P (.scope c) Q a w
 | mono {c:Code} {Q R:Exit->Act->World->Prop} {a:Act} {w:World}:aQ P c R a w->(∀ e a w,R e a w->Q e a w)->aQ P c Q a w
theorem m8 (l:Nat):∀ (c rest:Code),findLabel (nCode c) l=some rest->∃ r,findLabel c l=some r/\rest=nCode r:=by
 intro c
 induction c with
 | seq x y ihx ihy=>
  intro rest h
  simp only[nCode,findLabel]at h
  cases hx:findLabel (nCode x) l with
  | some r=>
   rw[hx]at h
   obtain⟨r0,h0,rfl⟩:=ihx r hx
   obtain rfl:=Option.some.inj h
   exact⟨.seq r0 y,by simp[findLabel,h0],rfl⟩
  | none=>
   rw[hx]at h
   obtain⟨r0,h0,rfl⟩:=ihy rest h
   have hn:findLabel x l=none:=by
    cases hxx:findLabel x l with
    | none=>rfl
    | some r=>
     exfalso
     have:∀ (c r:Code),findLabel c l=some r->∃ r',findLabel (nCode c) l=some r':=by
      intro c
      induction c with
      | seq a b iha ihb=>
       intro r hr
       simp only[findLabel]at hr
       cases ha:findLabel a l with
       | some q=>obtain⟨q',hq⟩:=iha q ha;exact⟨.seq q' (nCode b),by simp[nCode,findLabel,hq]⟩
       | none=>
        rw[ha]at hr
        obtain⟨q',hq⟩:=ihb r hr
        cases Pz:findLabel (nCode a) l with
        | some z=>exact⟨.seq z (nCode b),by simp[nCode,findLabel,Pz]⟩
        | none=>exact⟨q',by simp[nCode,findLabel,Pz,hq]⟩
      | label l'=>intro r hr;exact⟨r,hr⟩
      | _=>intro r hr;simp[findLabel]at hr
     obtain⟨r',Pu⟩:=this x r hxx
     rw[hx]at Pu
     cases Pu
   exact⟨r0,by simp[findLabel,hn,h0],rfl⟩
 | label l'=>
  intro rest h
  simp only[nCode,findLabel]at h ⊢
  split at h
  ·rename_i he
   obtain rfl:=Option.some.inj h
   exact⟨.skip,by simp[he],rfl⟩
  ·cases h
 | _=>intro rest h;simp[nCode,findLabel]at h
theorem aQ.sound {P:Program}(hm:P.follows .mixedOrders=true){d:Code}{Q:Exit->Act->World->Prop}{a:Act}{w:World}(h:aQ P d Q a w) :
  ∀ c,d=nCode c->c.wp P Q a w:=by
 induction h with
 | skip hq=>intro c hc;cases c<;>simp[nCode]at hc;exact wp_skip hq
 | label hq=>intro c hc;cases c<;>simp[nCode]at hc;exact wp_label hq
 | exit hq=>intro c hc;cases c<;>simp[nCode]at hc;subst hc;exact wp_exit hq
 | goto hq=>intro c hc;cases c<;>simp[nCode]at hc;subst hc;exact wp_goto hq
 | ret hq=>intro c hc;cases c<;>simp[nCode]at hc;exact wp_ret hq
 | @reg id l Q a w hq=>
  intro c hc
  cases c with
  | region id' ops dr=>
   simp only[nCode,Code.region.injEq]at hc
   obtain⟨_,hl,rfl⟩:=hc
   have JE:l=ops.toList.map dz:=by simpa using congrArg Array.toList hl
   subst JE
   rw[pA]at hq
   exact wp_region_list hq
  | _=>simp[nCode]at hc
 | @drw l Q a w I hq=>
  intro c hc
  cases c with
  | region id' ops dr=>
   simp only[nCode,Code.region.injEq]at hc
   obtain⟨hn,hl,rfl⟩:=hc
   have JE:l=ops.toList.map dz:=by simpa using congrArg Array.toList hl
   subst JE
   rw[qw,kx,kv,pp,ng]at hq
   simp only[tL,if_true]at hn
   split at hn
   ·rename_i hB
    have:=As hm (id:=id') hB I hq
    simpa using this
   ·split at hn<;>cases hn
  | _=>simp[nCode]at hc
 | @drq l Q a w C hC hq=>
  intro c hc
  cases c with
  | region id' ops dr=>
   simp only[nCode,Code.region.injEq]at hc
   obtain⟨hn,hl,rfl⟩:=hc
   have JE:l=ops.toList.map dz:=by simpa using congrArg Array.toList hl
   subst JE
   rw[ko]at hq
   simp only[tL,if_true]at hn
   split at hn
   ·cases hn
   ·split at hn
    ·rename_i hB
     exact wp_region_quiet hm hB hC hq
    ·cases hn
  | _=>simp[nCode]at hc
 | seq hx hy he ihx ihy=>
  intro c hc
  cases c<;>simp[nCode]at hc
  obtain⟨rfl,rfl⟩:=hc
  refine wp_seq (wp_mono (ihx _ rfl) fun e a w hr=>?_)
  cases e with
  | normal=>exact ihy a w hr _ rfl
  | _=>exact he _ a w (by simp) hr
 | condT Ke _ ih=>
  intro c hc
  cases c<;>simp[nCode]at hc
  obtain⟨rfl,rfl,rfl⟩:=hc
  exact wp_cond_true Ke (ih _ rfl)
 | condF Ke _ ih=>
  intro c hc
  cases c<;>simp[nCode]at hc
  obtain⟨rfl,rfl,rfl⟩:=hc
  exact wp_cond_false Ke (ih _ rfl)
 | block _ ih=>
  intro c hc
  cases c<;>simp[nCode]at hc
  obtain⟨rfl,rfl⟩:=hc
  exact wp_block (ih _ rfl)
 | loop I μ h0 _ ih=>
  intro c hc
  cases c<;>simp[nCode]at hc
  subst hc
  exact wp_loop I μ h0 fun a w hI=>ih a w hI _ rfl
 | scope l J μ hf _ _ ih1 ih2=>
  intro c hc
  cases c<;>simp[nCode]at hc
  subst hc
  obtain⟨r,hr,rfl⟩:=m8 l _ _ hf
  exact wp_scope_jumps l J μ hr (ih1 _ rfl) fun a w hJ=>ih2 a w hJ _ rfl
 | mono _ hq ih=>intro c hc;exact wp_mono (ih c hc) hq
theorem lE {P:Program}(hm:P.follows .mixedOrders=true){f:FuncId}{fn:Func}{c d:Code}{args:Array Value}{w:World}{R:Ending->World->Prop}
  (hf:P.funcs[f]?=some fn) (hb:fn.body=some c) (hd:d=nCode c)
  (h:aQ P d (bodyPost P fn R) { tmps:=args++Array.replicate (fn.ntmps-args.size) undef,defers:=[] } w):Calls P f args w R:=
 calls_of_wp hf hb (h.sound hm c hd)
def mk (d : Option Nat) (op : Op) : Oper := ⟨d, op, 0, "", #[], none⟩
def tm (n:Nat):Operand:=.tmp n
def rg (l:List Oper):Code:=.region 0 l.toArray false
def sq:List Code->Code
 | []=>.skip
 | [x]=>x
 | x::r=>.seq x (sq r)
def _root_.Go.Act.get (a:Act)(t:Nat):Value:=a.tmps.getD t undef
theorem aa (a:Act)(t:Nat):a.eval (tm t)=a.get t:=rfl
theorem uh (a:Act)(v:Value):a.eval (.const v)=v:=rfl
theorem ab (a:Act)(d:Option Nat)(v:Value):(a.put d v).tmps.size=a.tmps.size:=by
 cases d<;>simp[Act.put]
theorem ai (a:Act)(d:Option Nat)(v:Value):(a.put d v).defers=a.defers:=by
 cases d<;>rfl
theorem dA (a:Act)(d:Nat)(v:Value)(h:d<a.tmps.size):(a.put (some d) v).get d=v:=by
 simp[Act.put,Act.get,h]
theorem ge (a:Act)(d s:Nat)(v:Value)(h:s≠d):(a.put (some d) v).get s=a.get s:=by
 simp only[Act.put,Act.get,Array.getD_eq_getD_getElem?,Array.getElem?_setIfInBounds]
 rw[if_neg (by omega)]
structure Pv (x m k0 n:Nat)(a a':Act):Prop where
 size:a'.tmps.size=a.tmps.size
 defers:a'.defers=a.defers
 get:∀ s,s≠x->(s<m \/ (k0<=s/\s<n))->a'.get s=a.get s
theorem ak {a:Act}{d s:Nat}{v:Value}(h:s≠d):(a.put (some d) v).get s=a.get s:=ge a d s v h
theorem am {a:Act}{d:Nat}{v:Value}(h:d<a.tmps.size):(a.put (some d) v).get d=v:=dA a d v h
theorem Pv.refl (x m k0 n:Nat)(a:Act):Pv x m k0 n a a:=⟨rfl,rfl,fun _ _ _=>rfl⟩
theorem Pv.trans {x m k0 n:Nat}{a b c:Act}(h:Pv x m k0 n a b)(k:Pv x m k0 n b c):Pv x m k0 n a c:=
 ⟨k.size.trans h.size,k.defers.trans h.defers,fun s hs hm=>(k.get s hs hm).trans (h.get s hs hm)⟩
theorem Pv.mono {x m k0 n m' n':Nat}{a b:Act}(h:Pv x m k0 n a b)(hm:m'<=m)(hn:n'<=n):Pv x m' k0 n' a b:=
 ⟨h.size,h.defers,fun s hs hh=>h.get s hs (by omega)⟩
theorem Pv.put {x m k0 n:Nat}{a b:Act}(h:Pv x m k0 n a b){d:Nat}(v:Value)(hd:d=x \/ (m<=d/\(d<k0 \/ n<=d))):Pv x m k0 n a (b.put (some d) v):=
 ⟨(ab _ _ _).trans h.size,(ai _ _ _).trans h.defers,fun s hs hh=>by rw[ak (by omega)];exact h.get s hs hh⟩
section ops
variable {P:Program} {ops:Array Oper} {Q:Exit->Act->World->Prop} {r:List Oper} {a:Act} {w:World}
theorem kW {d:Option Nat}{op:Op}(h:(mk d op).wp P a w (wpList P ops Q r) Q):wpList P ops Q (mk d op::r) a w:=by
 unfold wpList
 rw[if_pos (by simp[Region.wanted,mk])]
 exact .inl h
theorem aD {d:Option Nat}{op:Op}{v:Value}{w':World}(h:(execOp a.eval (mk d op)).run P w=.ok (.value v) w')
  (hn:wpList P ops Q r (a.put d v) w'):wpList P ops Q (mk d op::r) a w:=
 kW (by unfold Oper.wp;rw[h];exact hn)
theorem u0 {d:Option Nat}{op:Op}{w':World}(h:(execOp a.eval (mk d op)).run P w=.ok .skip w')
  (hn:wpList P ops Q r (a.put d undef) w'):wpList P ops Q (mk d op::r) a w:=
 kW (by unfold Oper.wp;rw[h];exact hn)
theorem ag {d:Option Nat}{x:Operand}(h:wpList P ops Q r (a.put d (a.eval x)) w):wpList P ops Q (mk d (.move x)::r) a w:=
 aD rfl h
theorem aj {d:Option Nat}{x:Operand}(h:wpList P ops Q r (a.put d (a.eval x)) w):wpList P ops Q (mk d (.assign x)::r) a w:=
 aD rfl h
theorem aL {d:Option Nat}{x:Operand}{p:Addr}(hx:a.eval x=.pointer (some p))(h:wpList P ops Q r (a.put d (.pointer (some p))) w) :
  wpList P ops Q (mk d (.nilCheck x)::r) a w:=
 aD (by simp[execOp,mk,hx]) h
structure Ai (P:Program)(t:TypeId)(d:TypeDesc)(size:Nat):Prop where
 und:P.underlying t=some d
 info:∃ i,P.info? t=some i/\i.size=size
theorem Ai.sizeOf {t:TypeId}{d:TypeDesc}{n:Nat}(h:Ai P t d n)(w:World):(sizeOf t).run P w=.ok n w:=by
 obtain⟨i,hi,rfl⟩:=h.info
 simp[Go.sizeOf,typeInfo,hi]
theorem Ai.isAgg {t:TypeId}{d:TypeDesc}{n:Nat}(h:Ai P t d n)(w:World) :
  (isAgg t).run P w=.ok (match d with|.struct _|.array _ _=>true|_=>false) w:=by
 simp only[Go.isAgg,run_underlying h.und,Sem.run_bind,Result.andThen_ok]
 cases d<;>rfl
theorem pB {d:Option Nat}{x:Operand}{T k b o off:Nat}{fs:Array Field}{f:Field}{n:Nat}(hx:a.eval x=.pointer (some ⟨b,o,none⟩))(hT:P.underlying T=some (.struct fs))(hk:fs[k]?=some f)
  (ho:f.offset=off) (hn:∀ w,(sizeOf f.type).run P w=.ok (n+1) w) (h:wpList P ops Q r (a.put d (.pointer (some ⟨b,o+off,none⟩))) w) :
  wpList P ops Q (mk d (.fieldAddr T x k)::r) a w:=by
 refine aD ?_ h
 simp[execOp,mk,hx,Instr.fieldAt,run_underlying hT,hk,ho,fieldPlace,hn,Instr.sureAddr,Addr.add_lit]
theorem b5 {d:Option Nat}{x:Operand}{F:TypeId}{p:Addr}{v:Value}(hx:a.eval x=.pointer (some p))(hF:(isAgg F).run P w=.ok false w)(hv:w.cell? p=some v)
  (h:wpList P ops Q r (a.put d v) w):wpList P ops Q (mk d (.load F x)::r) a w:=by
 refine aD ?_ h
 simp[execOp,mk,hx,Instr.loadAt,Instr.sureAddr,loadVar,hF,load,hv,Sem.run]
theorem fo {d:Option Nat}{x:Operand}{F:TypeId}{b o:Nat}{cs:List Value}(hx:a.eval x=.pointer (some ⟨b,o,none⟩))(hF:(isAgg F).run P w=.ok true w)(hs:(sizeOf F).run P w=.ok cs.length w)
  (hc:∀ j v,cs[j]?=some v->w.cell? ⟨b,o+j,none⟩=some v)
  (h:wpList P ops Q r (a.put d (.agg cs.toArray)) w):wpList P ops Q (mk d (.load F x)::r) a w:=by
 refine aD ?_ h
 have hl:=run_loadCells_list (P:=P) w ⟨b,o,none⟩ cs (fun j v hj=>by rw[Addr.add_lit];exact hc j v hj)
 simp[execOp,mk,hx,Instr.loadAt,Instr.sureAddr,loadVar,hF,hs,hl]
def aI (cur:Array Value)(o:Nat)(vs:List Value):Array Value:=(cur.toList.take o++vs++cur.toList.drop (o+vs.length)).toArray
theorem dO {cur:Array Value}{o:Nat}{vs:List Value}(h:o+vs.length<=cur.size):(aI cur o vs).size=cur.size:=by
 simp[aI];omega
theorem cm {cur:Array Value}{o:Nat}{vs:List Value}(h:o+vs.length<=cur.size)(j:Nat)(hj:j<o \/ o+vs.length<=j):(aI cur o vs)[j]?=cur[j]?:=by
 simp only[aI,List.getElem?_toArray,List.append_assoc]
 rcases hj with hj|hj
 ·rw[List.getElem?_append_left (by simp;omega),List.getElem?_take_of_lt hj];simp
 ·rw[List.getElem?_append_right (by simp;omega),List.getElem?_append_right (by simp;omega),List.getElem?_drop]
  simp only[List.length_take,Array.length_toList,Array.getElem?_toList]
  congr 1
  omega
theorem bU {cur:Array Value}{o:Nat}{vs:List Value}(h:o+vs.length<=cur.size)(j:Nat)(hj:j<vs.length):(aI cur o vs)[o+j]?=vs[j]?:=by
 simp only[aI,List.getElem?_toArray,List.append_assoc]
 rw[List.getElem?_append_right (by simp;omega),List.getElem?_append_left (by simp;omega)]
 simp only[List.length_take,Array.length_toList]
 congr 1
 omega
theorem bw {x y:Operand}{F:TypeId}{g o:Nat}{cur:Array Value}{t:TypeId}{v:Value}{vs:List Value}(hx:a.eval x=.pointer (some ⟨g,o,none⟩))(hy:a.eval y=v)
  (hv:v.cells.toList=vs) (hF:(sizeOf F).run P w=.ok vs.length w) (hg:w.heap[g]?=some (.cells cur t (0,0))) (ho:o+vs.length<=cur.size) (h1:∀ u∈vs,u.oneCell'=true)
  (h:wpList P ops Q r a (w.setRow g (aI cur o vs))):wpList P ops Q (mk none (.store F x y)::r) a w:=by
 refine u0 (w':=w.setRow g (aI cur o vs)) ?_ h
 have Hl:=run_storeCells_at P g o t vs 0 cur w hg (by simpa using ho) h1
 simp only[Nat.add_zero]at Hl
 have G0:v.cells.size=vs.length:=by rw[<- hv];simp
 simp[execOp,mk,hx,hy,Instr.storeAt,Instr.sureAddr,storeVar,hF,G0,hv,Hl,aI]
def Ent (P:Program)(f:Nat):Prop:=∀ args w,(callFunc f args).run P w=.ok (.enter f args) w
theorem aR {d:Option Nat}{f:Nat}{args:List Operand}{vs:Array Value}{R:Ending->World->Prop}(hf:Ent P f)
  (GY:(args.map a.eval).toArray=vs)
  (hc:Calls P f vs w R) (h:∀ e w',R e w'->∃ v,e=.returned v/\wpList P ops Q r (a.put d v) w') :
  wpList P ops Q (mk d (.call ⟨.value (.func f),args.toArray,#[]⟩)::r) a w:=by
 refine kW ?_
 unfold Oper.wp
 have:(execOp a.eval (mk d (.call ⟨.value (.func f),args.toArray,#[]⟩))).run P w=.ok (.enter f vs) w:=by
  have he:a.eval (.func f)=.func (.func f) #[] #[]:=rfl
  simp only[execOp,mk,resolve,he,Deferred.ofValue,invoke,Sem.run_bind,Sem.run_pure,Result.andThen_ok,Array.empty_append,Array.append_empty,List.map_toArray,GY]
  exact hf _ _
 rw[this]
 exact hc.mono fun e w' hR=>by
  obtain⟨v,rfl,hh⟩:=h e w' hR
  exact hh
theorem cE {d:Option Nat}{op:BinOp}{T U:TypeId}{x y:Operand}{k:IntKind}{m n:Int}{v:Value}(hx:a.eval x=.int k m)(hy:a.eval y=.int k n)
  (hs:op≠.shl/\op≠.shr) (Nk:(binOp op T (.int k m) (.int k n)).run P w=.ok v w) (h:wpList P ops Q r (a.put d v) w):wpList P ops Q (mk d (.binOp op T x y U)::r) a w:=by
 refine aD ?_ h
 have he:(eqGuard op T x y (.int k m) (.int k n)).run P w=.ok () w:=by
  unfold eqGuard
  cases op<;>simp
 simp only[execOp,mk,hx,hy,Sem.run_bind,he,Result.andThen_ok,Nk,Sem.run_pure]
theorem nk {d:Option Nat}{T:TypeId}{x:Operand}{b:Bool}(hx:a.eval x=.bool b)(h:wpList P ops Q r (a.put d (.bool !b)) w):wpList P ops Q (mk d (.unOp .not T x)::r) a w:=by
 refine aD ?_ h
 simp[execOp,mk,hx,Op.unary]
theorem aT {d:Option Nat}{S T:TypeId}{x:Operand}{k k':IntKind}{m:Int}(hx:a.eval x=.int k m)(hS:P.underlying S=some (.int k))(hT:P.underlying T=some (.int k'))
  (h:wpList P ops Q r (a.put d (.int k' (k'.wrap m))) w):wpList P ops Q (mk d (.convert S T x)::r) a w:=by
 refine aD ?_ h
 simp[execOp,mk,hx,convert,run_underlying hS,run_underlying hT,Conv.intToInt]
theorem ep {d:Option Nat}{T:TypeId}{z:Value}(hz:(zeroValue T).run P w=.ok z w)(h:wpList P ops Q r (a.put d (.pointer (some ⟨w.heap.size,0,none⟩))) (w.alloc (.cells z.cells T (0,0)))) :
  wpList P ops Q (mk d (.alloc T)::r) a w:=by
 refine aD (w':=w.alloc (.cells z.cells T (0,0))) ?_ h
 simp[execOp,mk,Instr.alloc,hz,newVar,newRow,newObj,Sem.run]
theorem vt {d:Option Nat}{x:Operand}{F E:TypeId}{base:Option Addr}{n c:Nat}(hx:a.eval x=.slice base n c)(hF:P.underlying F=some (.slice E))
  {sz:Nat} (hs:(sizeOf E).run P w=.ok sz w) (h:wpList P ops Q r (a.put d (.slice base 0 c)) w) :
  wpList P ops Q (mk d (.slice F x none (some (.const (.int .i64 0))) none)::r) a w:=by
 refine aD ?_ h
 have e0:a.eval (.const (.int .i64 0))=.int .i64 0:=rfl
 cases base with
 | none=>
  by_cases hc:c=0
  ·subst hc
   simp[execOp,mk,hx,e0,Instr.sliceAt,Instr.slice,run_underlying hF,Instr.sliceBounds,Instr.sliceBound,asIntOf,hs]
  ·simp[execOp,mk,hx,e0,Instr.sliceAt,Instr.slice,run_underlying hF,Instr.sliceBounds,Instr.sliceBound,asIntOf,hs]
 | some b=>
  by_cases hc:c=0
  ·subst hc
   simp[execOp,mk,hx,e0,Instr.sliceAt,Instr.slice,run_underlying hF,Instr.sliceBounds,Instr.sliceBound,asIntOf,hs]
  ·simp[execOp,mk,hx,e0,Instr.sliceAt,Instr.slice,run_underlying hF,Instr.sliceBounds,Instr.sliceBound,asIntOf,hs,Addr.add]
theorem cz {d:Option Nat}{x y:Operand}{F E:TypeId}{b o n c i sz:Nat}{k:IntKind}(hx:a.eval x=.slice (some ⟨b,o,none⟩) n c)(hy:a.eval y=.int k i)(hi:i<n)(hF:P.underlying F=some (.slice E))
  (hs:(sizeOf E).run P w=.ok sz w) (h:wpList P ops Q r (a.put d (.pointer (some ⟨b,o+i*sz,none⟩))) w):wpList P ops Q (mk d (.indexAddr F x y)::r) a w:=by
 refine aD ?_ h
 simp[execOp,mk,hx,hy,Instr.indexAt,asIntOf,run_underlying hF,hs,hi,Addr.add_lit]
theorem en {d:Option Nat}{x:Operand}{F E ty:TypeId}{base:Option Addr}{n c:Nat}(hx:a.eval x=.slice base n c)(hF:P.underlying F=some (.slice E))
  (h : wpList P ops Q r (a.put d (.int .i64 n)) w) : wpList P ops Q (⟨d, .call ⟨.builtin .len, #[x], #[F]⟩, ty, "", #[], none⟩ :: r) a w := by
 have hw : Region.wanted ⟨d, .call ⟨.builtin .len, #[x], #[F]⟩, ty, "", #[], none⟩ (yielded ops a.tmps) = true := by simp [Region.wanted]
 unfold wpList
 rw[if_pos hw]
 refine .inl ?_
 unfold Oper.wp
 have : (execOp a.eval ⟨d, .call ⟨.builtin .len, #[x], #[F]⟩, ty, "", #[], none⟩).run P w = .ok (.value (.int .i64 n)) w := by
  simp[execOp,resolve,invoke,builtin,hx,Builtin.len_,run_underlying hF,goInt]
 rw[this]
 exact h
theorem s8 {d:Option Nat}{x y:Operand}{F E I ty:TypeId}{z:Value}{l bytes:Nat}{base:Option Addr}(hx:a.eval x=.slice base 0 0)(hy:a.eval y=.int .i32 l)(hl:0<l)(hF:P.underlying F=some (.slice E))(hI:P.underlying I=some (.int .i32))
  {i:TypeInfo} (hE:P.info? E=some i) (hz:i.zero=some z) (G0:z.cells.size=i.size) (Hg:0<i.size) (_hbp:0<i.bytes) (hb:i.bytes=bytes) (Hq:l*bytes<=140737488355328) (hl31:l<2147483648)
  (h:∀ (c:Nat) (cs:Array Value),l<=c->c<=maxLen->cs.size=c*i.size->(∀ q j,q<l->j<i.size->cs[q*i.size+j]?=z.cells[j]?) ->
   wpList P ops Q r (a.put d (.slice (some ⟨w.heap.size,0,none⟩) l c)) (w.drew.alloc (.cells cs E (0,0)))) :
  wpList P ops Q (⟨d, .call ⟨.builtin .append, #[x, y], #[F, I]⟩, ty, "", #[], none⟩ :: r) a w := by
 have hw : Region.wanted ⟨d, .call ⟨.builtin .append, #[x, y], #[F, I]⟩, ty, "", #[], none⟩ (yielded ops a.tmps) = true := by simp [Region.wanted]
 unfold wpList
 rw[if_pos hw]
 refine .inl ?_
 unfold Oper.wp
 have M5:IntKind.i64.wrap (l:Int)=l:=by simp[IntKind.wrap,IntKind.bits,IntKind.signed];omega
 have U2:=grownCap_ge w l 0 E
 have Ro:=grownCap_le_maxLen w l 0 E (by simp only[maxLen];omega)
 have h1:¬ (281474976710656<(l:Int)*(i.bytes:Int)):=by rw[hb,<- Int.natCast_mul];omega
 have Vf:¬ (9223372036854775807<(l:Int)):=by omega
 have Vg:¬ (281474976710656<Builtin.nextslicecap l 0*i.bytes):=by rw[nextslicecap_zero hl,hb];omega
 have MD:l≠0:=by omega
 have TW:i.size≠0:=by omega
 have Tz:¬ ((l:Int)<0):=by omega
 have Np:l*i.size≠0:=Nat.mul_ne_zero MD TW
 have GF : (execOp a.eval ⟨d, .call ⟨.builtin .append, #[x, y], #[F, I]⟩, ty, "", #[], none⟩).run P w =
   .ok (.value (.slice (some ⟨w.heap.size,0,none⟩) l (grownCap w l 0 E))) (w.drew.alloc (.cells (Builtin.zeroCells z.cells l++Builtin.zeroCells z.cells (grownCap w l 0 E-l)) E)):=by
  cases base<;>simp[execOp,resolve,invoke,builtin,hx,hy,Builtin.append_,run_underlying hF,run_underlying hI,sizeOf,typeInfo,zeroValue,hE,hz,asInt,asIntOf,M5,h1,Vf,Vg,MD,Tz,Np,Question.forced,Builtin.firstCells,loadCells,loadCellsFrom,newRow,grownCap]
 rw[GF]
 refine h (grownCap w l 0 E) _ U2 Ro ?_ ?_
 ·simp only[Array.size_append,size_zeroCells,G0,<- Nat.add_mul]
  congr 1
  omega
 ·intro q j hq hj
  have Gq:q*i.size+j<l*i.size:=by
   have:(q+1)*i.size<=l*i.size:=Nat.mul_le_mul_right _ hq
   rw[Nat.add_mul]at this
   omega
  rw[Array.getElem?_append_left (by rw[size_zeroCells,G0];exact Gq)]
  simp only[Builtin.zeroCells,G0,Array.getElem?_map]
  rw[Array.getElem?_range]
  have hm:(q*i.size+j)%i.size=j:=by rw[Nat.add_comm,Nat.add_mul_mod_self_right,Nat.mod_eq_of_lt hj]
  simp[Gq,hm,getElem!_pos,G0,hj]
end ops
structure ac (X:Nat->Prop)(w w':World):Prop where
 os:w'.os=w.os
 tape:w'.tape=w.tape
 output:w'.output=w.output
 size:w.heap.size<=w'.heap.size
 block:∀ k,k<w.heap.size->¬ X k->w'.heap[k]?=w.heap[k]?
theorem ac.refl (X:Nat->Prop)(w:World):ac X w w:=⟨rfl,rfl,rfl,Nat.le_refl _,fun _ _ _=>rfl⟩
theorem ac.trans {X:Nat->Prop}{a b c:World}(h:ac X a b)(k:ac X b c):ac X a c:=
 ⟨k.os.trans h.os,k.tape.trans h.tape,k.output.trans h.output,Nat.le_trans h.size k.size,fun i hi hx=>(k.block i (Nat.lt_of_lt_of_le hi h.size) hx).trans (h.block i hi hx)⟩
theorem ac.mono {X Y:Nat->Prop}{a b:World}(h:ac X a b)(MT:∀ k,k<a.heap.size->X k->Y k):ac Y a b:=
 ⟨h.os,h.tape,h.output,h.size,fun i hi hy=>h.block i hi (fun hx=>hy (MT i hi hx))⟩
theorem ac.drew (X:Nat->Prop)(w:World):ac X w w.drew:=⟨rfl,rfl,rfl,Nat.le_refl _,fun _ _ _=>rfl⟩
theorem ac.alloc (X:Nat->Prop)(w:World)(o:Obj):ac X w (w.alloc o):=
 ⟨rfl,rfl,rfl,by simp,fun k hk _=>by show(w.heap.push o)[k]?=_;rw[Array.getElem?_push,if_neg (by omega)]⟩
theorem ac.setRow (X:Nat->Prop)(w:World)(g:Nat)(cs:Array Value)(hg:X g):ac X w (w.setRow g cs):=
 ⟨rfl,rfl,rfl,by simp,fun k _ hk=>setRow_other w g k cs (fun e=>hk (e ▸ hg))⟩
theorem cM {w:World}{b o:Nat}{v:Value}(h:w.cell? ⟨b,o,none⟩=some v):b<w.heap.size:=World.block_lt_of_cell? w ⟨b,o,none⟩ h
theorem ci {w w':World}{b:Nat}(h:w'.heap[b]?=w.heap[b]?)(o:Nat):w'.cell? ⟨b,o,none⟩=w.cell? ⟨b,o,none⟩:=by simp[World.cell?,h]
theorem ac.cell {X:Nat->Prop}{w w':World}(h:ac X w w'){b o:Nat}{v:Value}(hb:¬ X b)(hv:w.cell? ⟨b,o,none⟩=some v):w'.cell? ⟨b,o,none⟩=some v:=by
 rw[ci (h.block b (cM hv) hb)];exact hv
def fP (w:World)(b o:Nat)(l:Bs):Prop:=∀ i x,l[i]?=some x->w.cell? ⟨b,o+i,none⟩=some (.int .u8 (x.toNat:Int))
theorem fP.keep {X:Nat->Prop}{w w':World}{b o:Nat}{l:Bs}(h:fP w b o l)(hk:ac X w w')(hb:¬ X b):fP w' b o l:=
 fun i x hi=>hk.cell hb (h i x hi)
def cO (w:World)(X:Nat->Prop)(v:Value)(l:Bs):Prop:=
 (v=.slice none 0 0/\l=[]) \/ ∃ b o c,v=.slice (some ⟨b,o,none⟩) l.length c/\¬ X b/\b<w.heap.size/\l.length<=c/\c<=maxLen/\fP w b o l
theorem cO.keep {X:Nat->Prop}{w w':World}{v:Value}{l:Bs}(h:cO w X v l)(hk:ac X w w'):cO w' X v l:=by
 rcases h with h|⟨b,o,c,hv,hb,hs,hc,hm,ho⟩
 ·exact .inl h
 ·exact .inr ⟨b,o,c,hv,hb,Nat.lt_of_lt_of_le hs hk.size,hc,hm,ho.keep hk hb⟩
theorem cO.mono {X Y:Nat->Prop}{w:World}{v:Value}{l:Bs}(h:cO w X v l)(hy:∀ k,k<w.heap.size->Y k->X k):cO w Y v l:=by
 rcases h with h|⟨b,o,c,hv,hb,hs,hc,hm,ho⟩
 ·exact .inl h
 ·exact .inr ⟨b,o,c,hv,fun hh=>hb (hy b hs hh),hs,hc,hm,ho⟩
structure aP where
 key:Nat
 val:Value
 born:Nat
def aP.entry (e:aP):MapEntry:=⟨.int .u32 (e.key:Int),e.val,e.born⟩
def gK:List (Nat × Bs)->Prop
 | []=>True
 | [_]=>True
 | x::y::r=>x.1<y.1/\gK (y::r)
def iA (w:World)(X:Nat->Prop)(r:Nat)(t:List (Nat × Bs)):Prop:=
 ∃ (es:List aP) (clock:Nat) (f:aP->Bs),w.heap[r]?=some (.map (es.map aP.entry).toArray clock)/\(∀ e∈es,e.key<4294967296/\e.born<clock/\cO w (fun k=>X k \/ k=r) e.val (f e)) /\
  (es.map aP.born).Nodup/\(es.map aP.key).Nodup/\(es.map fun e=>(e.key,f e)).Perm t/\gK t
theorem iA.keep {X:Nat->Prop}{w w':World}{r:Nat}{t:List (Nat × Bs)}(h:iA w X r t)(hk:ac X w w')(hr:¬ X r):iA w' X r t:=by
 obtain⟨es,c,f,hh,he,h1,h2,h3,h4⟩:=h
 exact⟨es,c,f,by rw[hk.block r (Array.getElem?_eq_some_iff.1 hh).1 hr];exact hh,fun e hm=>⟨(he e hm).1,(he e hm).2.1,(he e hm).2.2.keep (hk.mono fun _ _ h=>.inl h)⟩,h1,h2,h3,h4⟩
theorem iA.mono {X Y:Nat->Prop}{w:World}{r:Nat}{t:List (Nat × Bs)}(h:iA w X r t)(hy:∀ k,k<w.heap.size->Y k->X k):iA w Y r t:=by
 obtain⟨es,c,f,hh,he,h1,h2,h3,h4⟩:=h
 exact⟨es,c,f,hh,fun e hm=>⟨(he e hm).1,(he e hm).2.1,(he e hm).2.2.mono fun k hk h=>h.elim (fun h=>.inl (hy k hk h)) .inr⟩,h1,h2,h3,h4⟩
def cN (w:World)(X:Nat->Prop)(v:Value)(t:List (Nat × Bs)):Prop:=
 (v=.map none/\t=[]) \/ ∃ r,v=.map (some r)/\¬ X r/\r<w.heap.size/\iA w X r t/\t≠[]
theorem cN.keep {X:Nat->Prop}{w w':World}{v:Value}{t:List (Nat × Bs)}(h:cN w X v t)(hk:ac X w w'):cN w' X v t:=by
 rcases h with h|⟨r,hv,hr,hs,hm,Ie⟩
 ·exact .inl h
 ·exact .inr ⟨r,hv,hr,Nat.lt_of_lt_of_le hs hk.size,hm.keep hk hr,Ie⟩
theorem cN.mono {X Y:Nat->Prop}{w:World}{v:Value}{t:List (Nat × Bs)}(h:cN w X v t)(hy:∀ k,k<w.heap.size->Y k->X k):cN w Y v t:=by
 rcases h with h|⟨r,hv,hr,hs,hm,Ie⟩
 ·exact .inl h
 ·exact .inr ⟨r,hv,fun hh=>hr (hy r hs hh),hs,hm.mono hy,Ie⟩
def cP.kind:cP->IntKind
 | .i8=>.i8|.i16=>.i16|.u16=>.u16|.i32=>.i32|_=>.i64
def cP.fits:cP->Int->Prop
 | .bool,x=>x=0 \/ x=1
 | .i8,x=>-128<=x/\x<128
 | .i16,x=>-32768<=x/\x<32768
 | .u16,x=>0<=x/\x<65536
 | .i32,x=>-2147483648<=x/\x<2147483648
 | .i64,x=>-9223372036854775808<=x/\x<9223372036854775808
 | .uuid,_=>False
def iv (w:World)(X:Nat->Prop):Ty->List Value->V->Prop
 | .prim .bool,cs,v=>∃ b:Bool,cs=[.bool b]/\v=.n (if b then 1 else 0)
 | .prim .uuid,cs,v=>∃ l:Bs,l.length=16/\cs=l.map (fun b=>.int .u8 (b.toNat:Int))/\v=.s l
 | .prim p,cs,v=>∃ x:Int,cs=[.int p.kind x]/\v=.n x/\p.fits x
 | .str none,cs,v=>∃ l:Bs,cs=[.string ⟨l.toArray⟩]/\v=.s l/\l.length<=maxLen
 | .str (some _),cs,v=>(cs=[.pointer none]/\v=.nul) \/ ∃ (l:Bs) (b o:Nat),cs=[.pointer (some ⟨b,o,none⟩)]/\¬ X b/\w.cell? ⟨b,o,none⟩=some (.string ⟨l.toArray⟩)/\v=.s l/\l.length<=maxLen
 | .bytes _,cs,v=>(cs=[.slice none 0 0]/\v=.nul) \/ ∃ (l:Bs) (b o c:Nat),cs=[.slice (some ⟨b,o,none⟩) l.length c]/\¬ X b/\b<w.heap.size/\l.length<=c/\c<=maxLen/\fP w b o l/\v=.s l
 | _,_,_=>False
theorem iv.keep {X:Nat->Prop}{w w':World}{ty:Ty}{cs:List Value}{v:V}(h:iv w X ty cs v)(hk:ac X w w'):iv w' X ty cs v:=by
 cases ty with
 | prim p=>cases p<;>exact h
 | str nul=>
  cases nul with
  | none=>exact h
  | some m=>
   rcases h with h|⟨l,b,o,h1,h2,h3,h4⟩
   ·exact .inl h
   ·exact .inr ⟨l,b,o,h1,h2,hk.cell h2 h3,h4⟩
 | bytes nul=>
  rcases h with h|⟨l,b,o,c,h1,h2,h3,h4,h5,h6,h7⟩
  ·exact .inl h
  ·exact .inr ⟨l,b,o,c,h1,h2,Nat.lt_of_lt_of_le h3 hk.size,h4,h5,h6.keep hk h2,h7⟩
 | list=>exact h.elim
 | struct=>exact h.elim
theorem iv.mono {X Y:Nat->Prop}{w:World}{ty:Ty}{cs:List Value}{v:V}(h:iv w X ty cs v)(hy:∀ k,k<w.heap.size->Y k->X k):iv w Y ty cs v:=by
 cases ty with
 | prim p=>cases p<;>exact h
 | str nul=>
  cases nul with
  | none=>exact h
  | some m=>
   rcases h with h|⟨l,b,o,h1,h2,h3,h4⟩
   ·exact .inl h
   ·exact .inr ⟨l,b,o,h1,fun hh=>h2 (hy b (cM h3) hh),h3,h4⟩
 | bytes nul=>
  rcases h with h|⟨l,b,o,c,h1,h2,h3,h4,h5,h6,h7⟩
  ·exact .inl h
  ·exact .inr ⟨l,b,o,c,h1,fun hh=>h2 (hy b h3 hh),h3,h4,h5,h6,h7⟩
 | list=>exact h.elim
 | struct=>exact h.elim
def Ty.leaf:Ty->Bool
 | .prim _|.str _|.bytes _=>true
 | _=>false
def d9:Option Nat->Nat|some k=>k+1|none=>0
mutual
def Ty.sz:Ty->Nat
 | .prim .uuid=>16
 | .struct none toff fs=>fs.ext (d9 toff)
 | _=>1
def Fds.ext:Fds->Nat->Nat
 | .nil,m=>m
 | .cons _ _ _ _ off ty r,m=>r.ext (Nat.max m (off+ty.sz))
end
def eJ (w:World)(X:Nat->Prop)(b o:Nat)(toff:Option Nat)(t:List (Nat × Bs)):Prop:=
 match toff with
 | some k=>∃ m,w.cell? ⟨b,o+k,none⟩=some m/\cN w X m t
 | none=>t=[]
theorem eJ.frame {X:Nat->Prop}{w w':World}{b o:Nat}{toff:Option Nat}{t:List (Nat × Bs)}(h:eJ w X b o toff t)(hk:ac X w w')(hs:∀ k,toff=some k->w'.cell? ⟨b,o+k,none⟩=w.cell? ⟨b,o+k,none⟩):eJ w' X b o toff t:=by
 cases toff with
 | none=>exact h
 | some k=>obtain⟨m,h1,h2⟩:=h;exact⟨m,by rw[hs k rfl];exact h1,h2.keep hk⟩
theorem eJ.mono {X Y:Nat->Prop}{w:World}{b o:Nat}{toff:Option Nat}{t:List (Nat × Bs)}(h:eJ w X b o toff t)(hy:∀ k,k<w.heap.size->Y k->X k):eJ w Y b o toff t:=by
 cases toff with
 | none=>exact h
 | some k=>obtain⟨m,h1,h2⟩:=h;exact⟨m,h1,h2.mono hy⟩
def ao (w:World)(b o:Nat)(cs:List Value):Prop:=∀ j c,cs[j]?=some c->w.cell? ⟨b,o+j,none⟩=some c
mutual
def Rp (w:World)(X:Nat->Prop):Ty->Nat->Nat->V->Prop
 | .prim p,b,o,v=>∃ cs,ao w b o cs/\iv w X (.prim p) cs v
 | .str nul,b,o,v=>∃ cs,ao w b o cs/\iv w X (.str nul) cs v
 | .bytes nul,b,o,v=>∃ cs,ao w b o cs/\iv w X (.bytes nul) cs v
 | .list _ esz e,b,o,v=>
  (w.cell? ⟨b,o,none⟩=some (.slice none 0 0)/\v=.nul) \/
  ∃ (xs:List V) (p q c:Nat),w.cell? ⟨b,o,none⟩=some (.slice (some ⟨p,q,none⟩) xs.length c)/\¬ X p/\p<w.heap.size/\xs.length<=c/\c<=maxLen/\v=.l xs /\
   ∀ i x,xs[i]?=some x->Rp w X e p (q+i*esz) x
 | .struct none toff fs,b,o,v=>∃ (vs:List V) (t:List (Nat × Bs)),v=.st vs t/\RpF w X fs b o vs/\eJ w X b o toff t
 | .struct (some _) toff fs,b,o,v=>
  (w.cell? ⟨b,o,none⟩=some (.pointer none)/\v=.nul) \/
  ∃ (p q:Nat) (vs:List V) (t:List (Nat × Bs)),w.cell? ⟨b,o,none⟩=some (.pointer (some ⟨p,q,none⟩))/\¬ X p/\p<w.heap.size/\v=.st vs t/\RpF w X fs p q vs/\eJ w X p q toff t
def RpF (w:World)(X:Nat->Prop):Fds->Nat->Nat->List V->Prop
 | .nil,_,_,vs=>vs=[]
 | .cons _ _ _ _ off ty r,b,o,vs=>∃ v vs',vs=v::vs'/\Rp w X ty b (o+off) v/\RpF w X r b o vs'
end
theorem iv.len {w:World}{X:Nat->Prop}{ty:Ty}{cs:List Value}{v:V}(h:iv w X ty cs v):cs.length=ty.sz:=by
 cases ty with
 | prim p=>
  cases p
  case bool=>obtain⟨b,rfl,_⟩:=h;rfl
  case uuid=>obtain⟨l,hl,rfl,_⟩:=h;simpa[Ty.sz]using hl
  all_goals (obtain⟨x,rfl,_⟩:=h;rfl)
 | str nul=>
  cases nul with
  | none=>obtain⟨l,rfl,_⟩:=h;rfl
  | some m=>
   rcases h with⟨rfl,_⟩|⟨l,b,o,rfl,_⟩<;>rfl
 | bytes nul=>
  rcases h with⟨rfl,_⟩|⟨l,b,o,c,rfl,_⟩<;>rfl
 | list=>exact h.elim
 | struct=>exact h.elim
theorem ao.same {w w':World}{b o:Nat}{cs:List Value}(h:ao w b o cs)(hs:∀ j,o<=j->j<o+cs.length->w'.cell? ⟨b,j,none⟩=w.cell? ⟨b,j,none⟩):ao w' b o cs:=by
 intro j c hj
 have Gq:j<cs.length:=(List.getElem?_eq_some_iff.1 hj).1
 rw[hs (o+j) (by omega) (by omega)]
 exact h j c hj
theorem jn:∀ (fs:Fds) (m:Nat),m<=fs.ext m
 | .nil,m=>Nat.le_refl m
 | .cons _ _ _ _ off ty r,m=>Nat.le_trans (Nat.le_max_left m (off+ty.sz)) (jn r _)
mutual
theorem Rp.frame {X:Nat->Prop}{w w':World}(hk:ac X w w'):∀ (ty:Ty) (b o:Nat) (v:V),Rp w X ty b o v ->
  (∀ j,o<=j->j<o+ty.sz->w'.cell? ⟨b,j,none⟩=w.cell? ⟨b,j,none⟩)->Rp w' X ty b o v
 | .prim p,b,o,v,h,hs=>by
  obtain⟨cs,hc,hl⟩:=h
  exact⟨cs,hc.same (by rw[hl.len];exact hs),hl.keep hk⟩
 | .str nul,b,o,v,h,hs=>by
  obtain⟨cs,hc,hl⟩:=h
  exact⟨cs,hc.same (by rw[hl.len];exact hs),hl.keep hk⟩
 | .bytes nul,b,o,v,h,hs=>by
  obtain⟨cs,hc,hl⟩:=h
  exact⟨cs,hc.same (by rw[hl.len];exact hs),hl.keep hk⟩
 | .list nul esz e,b,o,v,h,hs=>by
  have h0:w'.cell? ⟨b,o,none⟩=w.cell? ⟨b,o,none⟩:=hs o (Nat.le_refl _) (by simp[Ty.sz])
  rcases h with⟨h1,h2⟩|⟨xs,p,q,c,h1,h2,h3,h4,h5,h6,h7⟩
  ·exact .inl ⟨by rw[h0];exact h1,h2⟩
  ·refine .inr ⟨xs,p,q,c,by rw[h0];exact h1,h2,Nat.lt_of_lt_of_le h3 hk.size,h4,h5,h6,fun i x hi=>?_⟩
   exact Rp.frame hk e p _ x (h7 i x hi) (fun j _ _=>ci (hk.block p h3 h2) j)
 | .struct none toff fs,b,o,v,h,hs=>by
  obtain⟨vs,t,h1,h2,h3⟩:=h
  have G5:=jn fs (d9 toff)
  simp only[Ty.sz]at hs
  exact⟨vs,t,h1,RpF.frame hk fs b o vs _ h2 hs,h3.frame hk fun k H5=>by subst H5;simp only[d9]at G5 hs;exact hs (o+k) (by omega) (by omega)⟩
 | .struct (some n) toff fs,b,o,v,h,hs=>by
  have h0:w'.cell? ⟨b,o,none⟩=w.cell? ⟨b,o,none⟩:=hs o (Nat.le_refl _) (by simp[Ty.sz])
  rcases h with⟨h1,h2⟩|⟨p,q,vs,t,h1,h2,h3,h4,h5,h6⟩
  ·exact .inl ⟨by rw[h0];exact h1,h2⟩
  ·have hp:∀ j,w'.cell? ⟨p,j,none⟩=w.cell? ⟨p,j,none⟩:=fun j=>ci (hk.block p h3 h2) j
   exact .inr ⟨p,q,vs,t,by rw[h0];exact h1,h2,Nat.lt_of_lt_of_le h3 hk.size,h4,RpF.frame hk fs p q vs 0 h5 (fun j _ _=>hp j),h6.frame hk fun k _=>hp _⟩
theorem RpF.frame {X:Nat->Prop}{w w':World}(hk:ac X w w'):∀ (fs:Fds) (b o:Nat) (vs:List V) (m:Nat),RpF w X fs b o vs ->
  (∀ j,o<=j->j<o+fs.ext m->w'.cell? ⟨b,j,none⟩=w.cell? ⟨b,j,none⟩)->RpF w' X fs b o vs
 | .nil,b,o,vs,m,h,hs=>h
 | .cons lo hi tag df off ty r,b,o,vs,m,h,hs=>by
  obtain⟨v,vs',h1,h2,h3⟩:=h
  have G5:Nat.max m (off+ty.sz)<=r.ext (Nat.max m (off+ty.sz)):=jn r _
  have O7:off+ty.sz<=Nat.max m (off+ty.sz):=Nat.le_max_right _ _
  exact⟨v,vs',h1,Rp.frame hk ty b (o+off) v h2 (fun j hj hj2=>hs j (by omega) (by simp only[Fds.ext];omega)),RpF.frame hk r b o vs' (Nat.max m (off+ty.sz)) h3 hs⟩
end
mutual
theorem Rp.mono {X Y:Nat->Prop}{w:World}(hy:∀ k,k<w.heap.size->Y k->X k):∀ (ty:Ty) (b o:Nat) (v:V),Rp w X ty b o v->Rp w Y ty b o v
 | .prim p,b,o,v,h=>by obtain⟨cs,hc,hl⟩:=h;exact⟨cs,hc,hl.mono hy⟩
 | .str nul,b,o,v,h=>by obtain⟨cs,hc,hl⟩:=h;exact⟨cs,hc,hl.mono hy⟩
 | .bytes nul,b,o,v,h=>by obtain⟨cs,hc,hl⟩:=h;exact⟨cs,hc,hl.mono hy⟩
 | .list nul esz e,b,o,v,h=>by
  rcases h with h|⟨xs,p,q,c,h1,h2,h3,h4,h5,h6,h7⟩
  ·exact .inl h
  ·exact .inr ⟨xs,p,q,c,h1,fun hh=>h2 (hy p h3 hh),h3,h4,h5,h6,fun i x hi=>Rp.mono hy e p _ x (h7 i x hi)⟩
 | .struct none toff fs,b,o,v,h=>by
  obtain⟨vs,t,h1,h2,h3⟩:=h
  exact⟨vs,t,h1,RpF.mono hy fs b o vs h2,h3.mono hy⟩
 | .struct (some n) toff fs,b,o,v,h=>by
  rcases h with h|⟨p,q,vs,t,h1,h2,h3,h4,h5,h6⟩
  ·exact .inl h
  ·exact .inr ⟨p,q,vs,t,h1,fun hh=>h2 (hy p h3 hh),h3,h4,RpF.mono hy fs p q vs h5,h6.mono hy⟩
theorem RpF.mono {X Y:Nat->Prop}{w:World}(hy:∀ k,k<w.heap.size->Y k->X k):∀ (fs:Fds) (b o:Nat) (vs:List V),RpF w X fs b o vs->RpF w Y fs b o vs
 | .nil,b,o,vs,h=>h
 | .cons lo hi tag df off ty r,b,o,vs,h=>by
  obtain⟨v,vs',h1,h2,h3⟩:=h
  exact⟨v,vs',h1,Rp.mono hy ty b _ v h2,RpF.mono hy r b o vs' h3⟩
end
theorem Rp.keep {X:Nat->Prop}{w w':World}(hk:ac X w w'){ty:Ty}{b o:Nat}{v:V}(h:Rp w X ty b o v)(hb:¬ X b)(Gq:b<w.heap.size):Rp w' X ty b o v:=
 Rp.frame hk ty b o v h (fun j _ _=>ci (hk.block b Gq hb) j)
def bQ (w:World)(S:Nat)(v:Value)(r:RS):Prop:=
 (v=.slice none 0 0/\r.src=[]/\r.nl=true) \/
 ∃ o c,v=.slice (some ⟨S,o,none⟩) r.src.length c/\r.nl=false/\r.src.length<=c/\c<=maxLen/\S<w.heap.size/\fP w S o r.src
def cQ (w:World)(T S R:Nat)(r:RS):Prop:=
 ∃ v,w.heap[R]?=some (.cells #[v,.bool r.bad] T (0,0))/\bQ w S v r
theorem bQ.keep {X:Nat->Prop}{w w':World}{S:Nat}{v:Value}{r:RS}(h:bQ w S v r)(hk:ac X w w')(hS:¬ X S):bQ w' S v r:=by
 rcases h with h|⟨o,c,h1,h2,h3,h4,h5,h6⟩
 ·exact .inl h
 ·exact .inr ⟨o,c,h1,h2,h3,h4,Nat.lt_of_lt_of_le h5 hk.size,h6.keep hk hS⟩
theorem cQ.keep {X:Nat->Prop}{w w':World}{T S R:Nat}{r:RS}(h:cQ w T S R r)(hk:ac X w w')(hS:¬ X S)(hR:¬ X R):cQ w' T S R r:=by
 obtain⟨v,h1,h2⟩:=h
 exact⟨v,by rw[hk.block R (Array.getElem?_eq_some_iff.1 h1).1 hR];exact h1,h2.keep hk hS⟩
theorem cQ.lt {w:World}{T S R:Nat}{r:RS}(h:cQ w T S R r):R<w.heap.size:=by
 obtain⟨v,h1,_⟩:=h
 exact(Array.getElem?_eq_some_iff.1 h1).1
structure G where
 rd:PF->Nat
 un:PF->Nat
 len:Nat
 clen:Nat
 ok:Nat
 complete:Nat
 uv:Nat
 span:Nat
 tags:Nat
 set:Nat
 tR:Nat
 tUuid:Nat
 tVer:Nat
 tI8:Nat
 tI32:Nat
 tU32:Nat
 tInt:Nat
 tBool:Nat
 tErr:Nat
 tTags:Nat
 tSl:Nat
 tStr:Nat
 gErr:Nat
inductive Nm where
 | mk (l:List Nat) (s:List Nm)
def Nm.l:Nm->List Nat|.mk l _=>l
def Nm.s:Nm->List Nm|.mk _ s=>s
def Nm.n (m:Nm)(i:Nat):Nat:=m.l.getD i 0
def Nm.sub (m:Nm)(i:Nat):Nm:=m.s.getD i (.mk [] [])
def bL (f:Nat):Bool:=f != 999999
def q5 (g:G)(hf:Bool):Bool:=bL g.len&&bL g.ok&&(!hf || bL g.clen)
structure Cx where
 hf:Bool
 b:Nat
 s:Nat
 ver:Nat
 fx:Nat
abbrev GC:=Nat->Code × Nat
def aA (k:Nat)(f:Nat->List Oper):GC:=fun n=>(rg (f n),n+k)
def aY (c:Code):GC:=fun n=>(c,n)
def gL:List GC->Nat->List Code × Nat
 | [],n=>([],n)
 | x::r,n=>((x n).1::(gL r (x n).2).1,(gL r (x n).2).2)
def gS (l:List GC):GC:=fun n=>(sq (gL l n).1,(gL l n).2)
def ej (t k:Nat)(ops:Nat->List Oper)(A B:GC):GC:=fun n=>
 (.seq (rg (ops n)) (.cond (tm (n+t)) (A (n+k)).1 (B (A (n+k)).2).1),(B (A (n+k)).2).2)
def b6:GC:=aY .skip
def gd (d : Nat) (op : Op) (j : Nat) (b : Bool) : Oper := ⟨some d, op, 0, "", #[], some (j, b)⟩
def bi (d : Option Nat) (b : Builtin) (args : List Operand) (tys : List Nat) (ty : Nat) : Oper := ⟨d, .call ⟨.builtin b, args.toArray, tys.toArray⟩, ty, "", #[], none⟩
def cl (d:Option Nat)(f:Nat)(args:List Operand):Oper:=mk d (.call ⟨.value (.func f),args.toArray,#[]⟩)
def ki (k:IntKind)(x:Int):Operand:=.const (.int k x)
def aF (f b v:Nat):GC:=aA 1 fun n=>[cl (some n) f [tm b],mk (some v) (.assign (tm n))]
def aU (v:Nat)(x:Value):GC:=aA 0 fun _=>[mk (some v) (.assign (.const x))]
def bB (x y:Nat):GC:=aA 1 fun n=>[mk (some n) (.move (tm x)),mk (some y) (.assign (tm n))]
def co (s v T k F:Nat):GC:=aA 4 fun n=>[mk (some n) (.move (tm s)),mk (some (n+1)) (.nilCheck (tm n)),mk (some (n+2)) (.fieldAddr T (tm (n+1)) k),mk (some (n+3)) (.load F (tm (n+2))),mk (some v) (.assign (tm (n+3)))]
def iI (uu:Option Nat)(s v T k F:Nat):GC:=aA 4 fun n=>[mk (some n) (.move (tm s)),mk (some (n+1)) (match uu with|some u=>.load u (tm v)|none=>.move (tm v)),mk (some (n+2)) (.nilCheck (tm n)),
 mk (some (n+3)) (.fieldAddr T (tm (n+2)) k),mk none (.store F (tm (n+3)) (tm (n+1)))]
def ix (cx:Cx)(A B:GC):GC:=ej 0 1 (fun n=>[mk (some n) (.move (tm cx.fx))]) A B
def jo (A B:GC):GC:=ej 0 1 (fun n=>[mk (some n) (.move (tm 2))]) A B
def dX (g:G)(cx:Cx)(lo:Nat)(hi:Option Nat)(A:GC):GC:=
 match hi with
 | some h=>ej 5 6 (fun n=>[mk (some n) (.move (tm cx.ver)),mk (some (n+1)) (.binOp .geq g.tVer (tm n) (ki .i16 lo) 0),mk (some (n+2)) (.move (tm (n+1))),gd (n+3) (.move (tm cx.ver)) 2 true,
   gd (n+4) (.binOp .leq g.tVer (tm (n+3)) (ki .i16 h) 0) 2 true,mk (some (n+5)) (.pick (tm (n+2)) (tm (n+4)) (.const (.bool false)))]) A b6
 | none=>if lo=0 then A else ej 1 2 (fun n=>[mk (some n) (.move (tm cx.ver)),mk (some (n+1)) (.binOp .geq g.tVer (tm n) (ki .i16 lo) 0)]) A b6
def ib (g:G)(cx:Cx)(ty:Ty)(v:Nat)(x:List Nat):List GC:=
 match ty with
 | .prim .uuid=>[aA 1 fun n=>[cl (some n) (g.rd .uuid) [tm cx.b],mk (some v) (.alloc g.tUuid),mk none (.store g.tUuid (tm v) (tm n))]]
 | .prim p=>
  match x with
  | [t,u]=>[aU t (.int .i8 0),gS [aF (g.rd (bN p)) cx.b u,bB u t],bB t v]
  | _=>[aF (g.rd (bN p)) cx.b v]
 | .str nul=>
  let c (p:PF):GC:=aF (g.rd p) cx.b v
  let u (p:PF):GC:=aF (g.un p) cx.b v
  let nn:GC:=if cx.hf then ix cx (jo (u .cnstr) (c .cnstr)) (jo (u .nstr) (c .nstr))else jo (u .nstr) (c .nstr)
  match nul with
  | some 0=>[aU v (.pointer none),nn]
  | some (m+1)=>
   let d (f:Nat):GC:=aA 1 fun n=>[cl (some n) f [tm cx.b],mk none (.store g.tStr (tm (x.getD 0 0)) (tm n))]
   [aU v (.pointer none),ej 1 2 (fun n=>[mk (some n) (.move (tm cx.ver)),mk (some (n+1)) (.binOp .lss g.tVer (tm n) (ki .i16 ((m:Int)+1)) 0)])
    (gS [aA 0 fun _=>[mk (some (x.getD 0 0)) (.alloc g.tStr)],
     if cx.hf then ix cx (jo (d (g.un .cstr)) (d (g.rd .cstr))) (jo (d (g.un .str)) (d (g.rd .str)))else jo (d (g.un .str)) (d (g.rd .str)),
     aA 0 fun _=>[mk (some v) (.assign (tm (x.getD 0 0)))]]) nn]
  | none=>[aU v (.string ⟨#[]⟩),if cx.hf then jo (ix cx (u .cstr) (u .str)) (ix cx (c .cstr) (c .str))else jo (u .str) (c .str)]
 | .bytes nul=>
  let c (p:PF):GC:=aF (g.rd p) cx.b v
  if cx.hf then[aU v (.slice none 0 0),ix cx (c (bS nul.isSome true)) (c (bS nul.isSome false))] else[c (bS nul.isSome false)]
 | _=>[]
def k6 (g:G):Ty->Option Nat
 | .prim .uuid=>some g.tUuid
 | _=>none
def Dg (g:G)(b:Nat):GC:=gS [aA 1 fun n=>[cl (some n) g.complete [tm b],mk (some 6) (.assign (tm n))],aY .ret]
def oh (g:G)(cx:Cx):GC:=ej 1 2 (fun n=>[cl (some n) g.ok [tm cx.b],mk (some (n+1)) (.unOp .not g.tBool (tm n))]) (Dg g cx.b) b6
def jx (g:G)(cx:Cx)(nul:Option Nat)(a l F:Nat):List GC:=
 match nul with
 | none=>[]
 | some m=>[ej 5 6 (fun n=>[mk (some n) (.move (tm cx.ver)),mk (some (n+1)) (.binOp .lss g.tVer (tm n) (ki .i16 m) 0),mk (some (n+2)) (.move (tm (n+1))),gd (n+3) (.move (tm l)) 2 false,
   gd (n+4) (.binOp .eql g.tI32 (tm (n+3)) (ki .i32 0) 0) 2 false,mk (some (n+5)) (.pick (tm (n+2)) (.const (.bool true)) (tm (n+4)))])
   (aA 1 fun n=>[mk (some n) (.buildSlice F 0 #[]),mk (some a) (.assign (tm n))]) b6]
def zH (a F:Nat):GC:=aA 2 fun n=>[mk (some n) (.move (tm a)),mk (some (n+1)) (.slice F (tm n) none (some (ki .i64 0)) none),mk (some a) (.assign (tm (n+1)))]
def pn (g:G)(a l F:Nat):GC:=ej 1 2 (fun n=>[mk (some n) (.move (tm l)),mk (some (n+1)) (.binOp .gtr g.tI32 (tm n) (ki .i32 0) 0)])
 (aA 3 fun n=>[mk (some n) (.move (tm a)),mk (some (n+1)) (.move (tm l)),bi (some (n+2)) .append [tm n,tm (n+1)] [F,g.tI32] F,mk (some a) (.assign (tm (n+2)))]) b6
def ud (g:G)(i l b1 b2:Nat)(body:GC):GC:=fun n=>
 (.seq (rg [mk (some i) (.assign (ki .i32 0))])
  (.block b1 (.loop (.seq (.seq (rg [mk (some n) (.move (tm i)),mk (some (n+1)) (.move (tm l)),mk (some (n+2)) (.binOp .lss g.tI32 (tm n) (tm (n+1)) 0)]) (.cond (tm (n+2)) .skip (.exit b1)))
   (.seq (.block b2 (body (n+5)).1) (rg [mk (some (n+3)) (.move (tm i)),mk (some (n+4)) (.binOp .add g.tI32 (tm (n+3)) (ki .i32 1) 0),mk (some i) (.assign (tm (n+4)))]))))),
 (body (n+5)).2)
def kf (uu:Option Nat)(a i v F E:Nat):GC:=aA 4 fun n=>[mk (some n) (.move (tm a)),mk (some (n+1)) (.move (tm i)),mk (some (n+2)) (match uu with|some u=>.load u (tm v)|none=>.move (tm v)),
 mk (some (n+3)) (.indexAddr F (tm n) (tm (n+1))),mk none (.store E (tm (n+3)) (tm (n+2)))]
def ea (a i v F:Nat):GC:=aA 3 fun n=>[mk (some n) (.move (tm a)),mk (some (n+1)) (.move (tm i)),mk (some (n+2)) (.indexAddr F (tm n) (tm (n+1))),mk (some v) (.assign (tm (n+2)))]
def da (v f:Nat):GC:=aA 2 fun n=>[mk (some n) (.move (tm v)),cl (some (n+1)) f [tm n]]
def eY (s v T k:Nat):GC:=aA 3 fun n=>[mk (some n) (.move (tm s)),mk (some (n+1)) (.nilCheck (tm n)),mk (some (n+2)) (.fieldAddr T (tm (n+1)) k),mk (some v) (.assign (tm (n+2)))]
def Bc (s T k F E:Nat):GC:=aA 4 fun n=>[mk (some n) (.move (tm s)),mk (some (n+1)) (.alloc E),mk (some (n+2)) (.nilCheck (tm n)),mk (some (n+3)) (.fieldAddr T (tm (n+2)) k),mk none (.store F (tm (n+3)) (tm (n+1)))]
def og (g:G)(cx:Cx)(p:Nat)(body:GC):GC:=gS [aF (g.rd .i8) cx.b p,
 ej 4 5 (fun n => [mk (some n) (.move (tm p)), mk (some (n + 1)) (.binOp .neq g.tI8 (tm n) (ki .i8 (-1)) 0), mk (some (n + 2)) (.move (tm (n + 1))), ⟨some (n + 3), .call ⟨.value (.func g.ok), #[tm cx.b], #[]⟩, 0, "", #[], some (2, true)⟩,
  mk (some (n+4)) (.pick (tm (n+2)) (tm (n+3)) (.const (.bool false)))]) body b6]
def lZ (g:G)(cx:Cx)(T k:Nat):GC:=aA 4 fun n=>[mk (some n) (.move (tm cx.s)),cl (some (n+1)) g.tags [tm cx.b],mk (some (n+2)) (.nilCheck (tm n)),mk (some (n+3)) (.fieldAddr T (tm (n+2)) k),mk none (.store g.tTags (tm (n+3)) (tm (n+1)))]
def oi (g:G)(b b':Nat):GC:=aA 4 fun n=>[cl (some n) g.uv [tm b],mk (some (n+1)) (.convert g.tU32 g.tInt (tm n)),cl (some (n+2)) g.span [tm b,tm (n+1)],mk (some (n+3)) (.build g.tR #[(0,tm (n+2))]),
 mk (some b') (.alloc g.tR),mk none (.store g.tR (tm b') (tm (n+3)))]
def mR (g:G)(b' err:Nat):GC:=gS [aF g.complete b' err,ej 1 2 (fun n=>[mk (some n) (.move (tm err)),mk (some (n+1)) (.binOp .neq g.tErr (tm n) (.const .nilIface) 0)])
 (gS [aA 1 fun n=>[mk (some n) (.move (tm err)),mk (some 6) (.assign (tm n))],aY .ret]) b6]
def mQ (g:G)(cx:Cx)(i b1 b2:Nat)(body:GC):GC:=fun n=>
 (.seq (rg [cl (some n) g.uv [tm cx.b],mk (some i) (.assign (tm n))])
  (.block b1 (.loop (.seq (.seq (rg [mk (some (n+1)) (.move (tm i)),mk (some (n+2)) (.binOp .gtr g.tU32 (tm (n+1)) (ki .u32 0) 0)]) (.cond (tm (n+2)) .skip (.exit b1)))
   (.seq (.block b2 (body (n+5)).1) (rg [mk (some (n+3)) (.move (tm i)),mk (some (n+4)) (.binOp .sub g.tU32 (tm (n+3)) (ki .u32 1) 0),mk (some i) (.assign (tm (n+4)))]))))),
 (body (n+5)).2)
def gA (g:G)(cx:Cx)(key T k:Nat)(n:Nat):Code:=
 .region 1 [mk (some n) (.move (tm cx.s)),mk (some (n+1)) (.nilCheck (tm n)),mk (some (n+2)) (.fieldAddr T (tm (n+1)) k),mk (some (n+3)) (.move (tm key)),cl (some (n+4)) g.uv [tm cx.b],
  mk (some (n+5)) (.convert g.tU32 g.tInt (tm (n+4))),cl (some (n+6)) g.span [tm cx.b,tm (n+5)],cl (some (n+7)) g.set [tm (n+2),tm (n+3),tm (n+6)]].toArray true
def eZ (g:G)(key:Nat)(dflt:Code):List (Nat × GC)->Nat->Code × Nat
 | [],n=>(dflt,n)
 | (t,x)::r,n=>(.seq (rg [mk (some (n+1)) (.binOp .eql g.tU32 (tm key) (ki .u32 t) 0),mk (some n) (.assign (tm (n+1)))]) (.cond (tm n) (x (n+2)).1 (eZ g key dflt r (x (n+2)).2).1),(eZ g key dflt r (x (n+2)).2).2)
def kd (g:G)(cx:Cx)(key b3 T k:Nat)(cs:List (Nat × GC)):GC:=fun n=>
 (.seq (rg [mk (some n) (.move (tm key))]) (.block b3 (eZ g n (gA g cx key T k (n+1)) cs (n+9)).1),(eZ g n (gA g cx key T k (n+1)) cs (n+9)).2)
def fI (g:G)(cx:Cx)(tagged:Bool)(T kt:Nat)(m:Nm)(items:List GC)(cases:List (Nat × GC)):List GC:=
 items++(if !cx.hf then[]
  else if tagged then[ix cx (mQ g cx (m.n 0) (m.n 2) (m.n 3) (gS [aF g.uv cx.b (m.n 1),kd g cx (m.n 1) (m.n 4) T kt cases])) b6]
  else[ix cx (lZ g cx T kt) b6])
mutual
def lJ (g:G)(cx:Cx):Ty->Nm->List GC
 | .prim p,m=>ib g cx (.prim p) (m.n 0) (m.l.drop 4)++[iI (k6 g (.prim p)) cx.s (m.n 0) (m.n 1) (m.n 2) (m.n 3)]
 | .str nul,m=>ib g cx (.str nul) (m.n 0) (m.l.drop 4)++[iI none cx.s (m.n 0) (m.n 1) (m.n 2) (m.n 3)]
 | .bytes nul,m=>ib g cx (.bytes nul) (m.n 0) []++[iI none cx.s (m.n 0) (m.n 1) (m.n 2) (m.n 3)]
 | .list nul _ e,m=>
  let v:=m.n 0
  let F:=m.n 3
  let a:=m.n 4
  let l:=m.n 5
  let i:=m.n 6
  [co cx.s v (m.n 1) (m.n 2) F,bB v a,aU l (.int .i32 0),if cx.hf then ix cx (aF g.clen cx.b l) (aF g.len cx.b l)else aF g.len cx.b l]++jx g cx nul a l F ++
  [oh g cx,zH a F,pn g a l F,ud g i l (m.n 7) (m.n 8) (gS (gEl g cx e a i F (m.sub 0))),bB a v,iI none cx.s v (m.n 1) (m.n 2) F]
 | .struct none _ fs,m=>
  [eY cx.s (m.n 0) (m.n 1) (m.n 2),da (m.n 0) (m.n 4),bB (m.n 0) (m.n 3)]++fI g { cx with s:=m.n 3 } fs.tagged (m.n 5) (m.n 6) (m.sub 0) (gFds g { cx with s:=m.n 3 } fs (m.sub 0).s) (gTagd g { cx with s:=m.n 3 } fs (m.sub 0).s)
 | .struct (some _) _ fs,m=>
  [og g cx (m.n 8) (gS ([Bc cx.s (m.n 1) (m.n 2) (m.n 3) (m.n 9),co cx.s (m.n 0) (m.n 1) (m.n 2) (m.n 3),da (m.n 0) (m.n 5),bB (m.n 0) (m.n 4)]++fI g { cx with s:=m.n 4 } fs.tagged (m.n 6) (m.n 7) (m.sub 0) (gFds g { cx with s:=m.n 4 } fs (m.sub 0).s) (gTagd g { cx with s:=m.n 4 } fs (m.sub 0).s)))]
def gEl (g:G)(cx:Cx):Ty->Nat->Nat->Nat->Nm->List GC
 | .struct _ _ fs,a,i,F,m=>
  [ea a i (m.n 0) F,da (m.n 0) (m.n 2),bB (m.n 0) (m.n 1)]++fI g { cx with s:=m.n 1 } fs.tagged (m.n 3) (m.n 4) (m.sub 0) (gFds g { cx with s:=m.n 1 } fs (m.sub 0).s) (gTagd g { cx with s:=m.n 1 } fs (m.sub 0).s)
 | ty,a,i,F,m=>
  ib g cx ty (m.n 0) (m.l.drop 2)++[kf (k6 g ty) a i (m.n 0) F (m.n 1)]
def gFds (g:G)(cx:Cx):Fds->List Nm->List GC
 | .nil,_=>[]
 | .cons lo hi tag _ _ ty r,ms=>
  if tag.isNone then dX g cx lo hi (gS (lJ g cx ty (ms.headD (.mk [] []))))::gFds g cx r ms.tail else gFds g cx r ms.tail
def gTagd (g:G)(cx:Cx):Fds->List Nm->List (Nat × GC)
 | .nil,_=>[]
 | .cons _ _ tag _ _ ty r,ms=>
  match tag with
  | some t=>(t,gS ([oi g cx.b ((ms.headD (.mk [] [])).n 0)]++lJ g { cx with b:=(ms.headD (.mk [] [])).n 0 } ty ((ms.headD (.mk [] [])).sub 0)++[mR g ((ms.headD (.mk [] [])).n 0) ((ms.headD (.mk [] [])).n 1)]))::gTagd g cx r ms.tail
  | none=>gTagd g cx r ms.tail
end
def gRead (g:G)(hf kept:Bool)(cx:Cx)(fs:Fds)(dflt T kt flex n0:Nat)(m:Nm):Code:=
 (gS ([aU 6 .nilIface,da 0 dflt,aA 2 fun n=>[mk (some n) (.move (tm 1)),mk (some (n+1)) (.build g.tR #[(0,tm n)]),mk (some cx.b) (.alloc g.tR),mk none (.store g.tR (tm cx.b) (tm (n+1)))]] ++
  (if kept then[aA 4 fun n=>[mk (some n) (.move (tm 0)),cl (some (n+1)) (g.rd .i16) [tm cx.b],mk (some (n+2)) (.nilCheck (tm n)),mk (some (n+3)) (.fieldAddr T (tm (n+2)) 0),mk none (.store g.tVer (tm (n+3)) (tm (n+1)))]] else[]) ++
  [co 0 cx.ver T 0 g.tVer,aA 1 fun n=>[mk (some n) (.move (tm cx.ver))]] ++
  (if hf then[aA 2 fun n=>[mk (some n) (.move (tm cx.ver)),mk (some (n+1)) (.binOp .geq g.tVer (tm n) (ki .i16 flex) 0),mk (some cx.fx) (.assign (tm (n+1)))],aA 1 fun n=>[mk (some n) (.move (tm cx.fx))]] else[]) ++
  [bB 0 cx.s]++fI g cx fs.tagged T kt m (gFds g cx fs m.s) (gTagd g cx fs m.s) ++
  [aA 1 fun n=>[cl (some n) g.complete [tm cx.b],mk (some 6) (.assign (tm n))],aY .ret]) n0).1
structure Sm where
 fDef:Nat
 fSame:Nat
 F:Nat
 sz:Nat
 toff:Nat
 ds:List (Nat × Option cP × Int)
structure GW where
 ap:PF->Nat
 alen:Nat
 calen:Nat
 nalen:Nat
 cnalen:Nat
 uv:Nat
 tlen:Nat
 teach:Nat
 tVer:Nat
 tInt:Nat
 tU32:Nat
 tSl:Nat
 tUuid:Nat
 sm:List Sm:=[]
def bq (f v:Nat):GC:=aA 3 fun n=>[mk (some n) (.move (tm 1)),mk (some (n+1)) (.move (tm v)),cl (some (n+2)) f [tm n,tm (n+1)],mk (some 1) (.assign (tm (n+2)))]
def ub (g:GW)(f v:Nat):GC:=aA 3 fun n=>[mk (some n) (.move (tm 1)),mk (some (n+1)) (.load g.tUuid (tm v)),cl (some (n+2)) f [tm n,tm (n+1)],mk (some 1) (.assign (tm (n+2)))]
def ia (s v T k F:Nat):GC:=aA 4 fun n=>[mk (some n) (.move (tm s)),mk (some (n+1)) (.nilCheck (tm n)),mk (some (n+2)) (.fieldAddr T (tm (n+1)) k),mk (some (n+3)) (.load F (tm (n+2))),mk (some v) (.alloc F),mk none (.store F (tm v) (tm (n+3)))]
def fk (cx:Cx)(A B:GC):GC:=if cx.hf then ix cx A B else B
def bo (g:GW)(cx:Cx)(ty:Ty)(v:Nat)(x:List Nat):List GC:=
 match ty with
 | .prim .uuid=>[ub g (g.ap .uuid) v]
 | .prim p=>match x with
  | [t]=>[bB v t,bq (g.ap (bN p)) t]
  | _=>[bq (g.ap (bN p)) v]
 | .str none=>[fk cx (bq (g.ap .cstr) v) (bq (g.ap .str) v)]
 | .str (some 0)=>[fk cx (bq (g.ap .cnstr) v) (bq (g.ap .nstr) v)]
 | .str (some (m+1))=>
  [ej 1 2 (fun n=>[mk (some n) (.move (tm cx.ver)),mk (some (n+1)) (.binOp .lss g.tVer (tm n) (ki .i16 ((m:Int)+1)) 0)])
   (gS [aU (x.getD 0 0) (.string ⟨#[]⟩),ej 1 2 (fun n=>[mk (some n) (.move (tm v)),mk (some (n+1)) (.binOp .neq (x.getD 2 0) (tm n) (.const (.pointer none)) 0)])
    (aA 3 fun n=>[mk (some n) (.move (tm v)),mk (some (n+1)) (.nilCheck (tm n)),mk (some (n+2)) (.load (x.getD 3 0) (tm (n+1))),mk (some (x.getD 0 0)) (.assign (tm (n+2)))]) b6,
    bB (x.getD 0 0) (x.getD 1 0),fk cx (bq (g.ap .cstr) (x.getD 1 0)) (bq (g.ap .str) (x.getD 1 0))])
   (fk cx (bq (g.ap .cnstr) v) (bq (g.ap .nstr) v))]
 | .bytes none=>[fk cx (bq (g.ap .cbytes) v) (bq (g.ap .bytes) v)]
 | .bytes (some _)=>[fk cx (bq (g.ap .cnbytes) v) (bq (g.ap .nbytes) v)]
 | _=>[]
def l5 (g:GW)(hf:Bool):Bool:=bL g.alen&&(!hf || bL g.calen)
def od (g:GW)(f v F:Nat):GC:=aA 4 fun n=>[mk (some n) (.move (tm 1)),mk (some (n+1)) (.move (tm v)),bi (some (n+2)) .len [tm (n+1)] [F] g.tInt,cl (some (n+3)) f [tm n,tm (n+2)],mk (some 1) (.assign (tm (n+3)))]
def oc (g:GW)(f v F:Nat):GC:=aA 6 fun n=>[mk (some n) (.move (tm 1)),mk (some (n+1)) (.move (tm v)),bi (some (n+2)) .len [tm (n+1)] [F] g.tInt,mk (some (n+3)) (.move (tm v)),mk (some (n+4)) (.binOp .eql F (tm (n+3)) (.const (.slice none 0 0)) 0),
 cl (some (n+5)) f [tm n,tm (n+2),tm (n+4)],mk (some 1) (.assign (tm (n+5)))]
def fG (g:GW)(cx:Cx)(nul:Option Nat)(v F:Nat):GC:=
 match nul with
 | none=>fk cx (od g g.calen v F) (od g g.alen v F)
 | some _=>fk cx (oc g g.cnalen v F) (oc g g.nalen v F)
def g9 (g:GW)(v i b1 b2 F:Nat)(body:List GC):GC:=fun n=>
 (.seq (rg [mk (some n) (.move (tm v)),bi (some (n+1)) .len [tm n] [F] g.tInt,mk (some (n+2)) (.move (ki .i64 0))])
  (.block b1 (.loop (.seq (rg [mk (some (n+3)) (.binOp .lss g.tInt (tm (n+2)) (tm (n+1)) 0)]) (.seq (.cond (tm (n+3)) .skip (.exit b1))
   (.seq (.block b2 (.seq (rg [mk (some (n+4)) (.move (tm (n+2))),mk (some i) (.assign (tm (n+4)))]) (gS body (n+5)).1))
    (rg [mk (some (gS body (n+5)).2) (.binOp .add g.tInt (tm (n+2)) (ki .i64 1) 0),mk (some (n+2)) (.move (tm (gS body (n+5)).2))])))))),
 (gS body (n+5)).2+1)
def FD (v i e F E:Nat):GC:=aA 4 fun n=>[mk (some n) (.move (tm v)),mk (some (n+1)) (.move (tm i)),mk (some (n+2)) (.indexAddr F (tm n) (tm (n+1))),mk (some (n+3)) (.load E (tm (n+2))),mk (some e) (.assign (tm (n+3)))]
def zB (v i e F E:Nat):GC:=aA 4 fun n=>[mk (some n) (.move (tm v)),mk (some (n+1)) (.move (tm i)),mk (some (n+2)) (.indexAddr F (tm n) (tm (n+1))),mk (some (n+3)) (.load E (tm (n+2))),mk (some e) (.alloc E),mk none (.store E (tm e) (tm (n+3)))]
def gb (g:GW)(c:Int):GC:=aA 3 fun n=>[mk (some n) (.move (tm 1)),mk (some (n+1)) (.buildSlice g.tSl 1 #[(0,ki .u8 c)]),bi (some (n+2)) .append [tm n,tm (n+1)] [g.tSl,g.tSl] g.tSl,mk (some 1) (.assign (tm (n+2)))]
def zA (v F:Nat)(A B:GC):GC:=ej 1 2 (fun n=>[mk (some n) (.move (tm v)),mk (some (n+1)) (.binOp .eql F (tm n) (.const (.pointer none)) 0)]) A B
def nZ (g:GW)(s T kt:Nat):GC:=aA 8 fun n=>[mk (some n) (.move (tm 1)),mk (some (n+1)) (.move (tm s)),mk (some (n+2)) (.nilCheck (tm (n+1))),mk (some (n+3)) (.fieldAddr T (tm (n+2)) kt),cl (some (n+4)) g.tlen [tm (n+3)],
 mk (some (n+5)) (.convert g.tInt g.tU32 (tm (n+4))),mk (some (n+6)) (.binOp .add g.tU32 (ki .u32 0) (tm (n+5)) 0),cl (some (n+7)) g.uv [tm n,tm (n+6)],mk (some 1) (.assign (tm (n+7)))]
def eC (g:GW)(s T kt:Nat):GC:=aA 5 fun n=>[mk (some n) (.move (tm s)),mk (some (n+1)) (.nilCheck (tm n)),mk (some (n+2)) (.fieldAddr T (tm (n+1)) kt),mk (some (n+3)) (.move (tm 1)),cl (some (n+4)) g.teach [tm (n+2),tm (n+3)],mk (some 1) (.assign (tm (n+4)))]
def gJ (g:GW)(cx:Cx)(T kt:Nat):List GC:=if cx.hf then[ix cx (gS [nZ g cx.s T kt,eC g cx.s T kt]) b6] else[]
def fF:Ty->Bool
 | .prim .uuid=>true
 | _=>false
def iq (ty:Ty)(s v T k F:Nat):GC:=if fF ty then ia s v T k F else co s v T k F
def jN (ty:Ty)(v i e F E:Nat):GC:=if fF ty then zB v i e F E else FD v i e F E
def i6 (g:GW)(cx:Cx)(lo:Nat)(hi:Option Nat)(A:GC):GC:=
 match hi with
 | some h=>ej 5 6 (fun n=>[mk (some n) (.move (tm cx.ver)),mk (some (n+1)) (.binOp .geq g.tVer (tm n) (ki .i16 lo) 0),mk (some (n+2)) (.move (tm (n+1))),gd (n+3) (.move (tm cx.ver)) 2 true,
   gd (n+4) (.binOp .leq g.tVer (tm (n+3)) (ki .i16 h) 0) 2 true,mk (some (n+5)) (.pick (tm (n+2)) (tm (n+4)) (.const (.bool false)))]) A b6
 | none=>if lo=0 then A else ej 1 2 (fun n=>[mk (some n) (.move (tm cx.ver)),mk (some (n+1)) (.binOp .geq g.tVer (tm n) (ki .i16 lo) 0)]) A b6
def jO (l:List GC):GC:=fun n=>(.scope (gS l n).1,(gS l n).2)
def zJ (k:Nat)(f:Nat->List Oper):GC:=fun n=>(.region 1 (f n).toArray true,n+k)
def iH (g:GW)(x:Nat):GC:=aA 2 fun n=>[mk (some n) (.move (tm 1)),cl (some (n+1)) g.uv [tm n,ki .u32 x],mk (some 1) (.assign (tm (n+1)))]
def l7 (tKs te k:Nat):GC:=aA 3 fun n=>[mk (some n) (.move (tm te)),mk (some (n+1)) (.buildSlice tKs 1 #[(0,ki .u32 k)]),bi (some (n+2)) .append [tm n,tm (n+1)] [tKs,tKs] tKs,mk (some te) (.assign (tm (n+2)))]
def CD:cP->Int->Value
 | .bool,x=>.bool (x != 0)
 | p,x=>.int p.kind x
def lY (s T k F n:Nat):List Oper:=[mk (some n) (.move (tm s)),mk (some (n+1)) (.nilCheck (tm n)),mk (some (n+2)) (.fieldAddr T (tm (n+1)) k),mk (some (n+3)) (.load F (tm (n+2)))]
def ga (g:GW)(s:Nat)(ty:Ty)(df:Int)(m:Nm)(A:GC):GC:=
 match ty with
 | .prim .uuid=>ej 5 6 (fun n=>lY s (m.n 1) (m.n 2) (m.n 3) n++[mk (some (n+4)) (.build (m.n 3) #[]),mk (some (n+5)) (.binOp .neq (m.n 3) (tm (n+3)) (tm (n+4)) 0)]) A b6
 | .prim p=>ej 4 5 (fun n=>lY s (m.n 1) (m.n 2) (m.n 3) n++[mk (some (n+4)) (.binOp .neq (m.n 3) (tm (n+3)) (.const (CD p df)) 0)]) A b6
 | .str _=>ej 4 5 (fun n=>lY s (m.n 1) (m.n 2) (m.n 3) n++[mk (some (n+4)) (.binOp .neq (m.n 3) (tm (n+3)) (.const (.pointer none)) 0)]) A b6
 | .list _ _ _=>ej 5 6 (fun n=>lY s (m.n 1) (m.n 2) (m.n 3) n++[bi (some (n+4)) .len [tm (n+3)] [m.n 3] g.tInt,mk (some (n+5)) (.binOp .gtr g.tInt (tm (n+4)) (ki .i64 0) 0)]) A b6
 | .struct _ _ _=>fun n=>(.seq (zJ 7 (fun n=>lY s (m.n 1) (m.n 2) (m.n 3) n++[cl (some (n+4)) (m.n 7) [],cl (some (n+5)) (m.n 8) [tm (n+3),tm (n+4)],mk (some (n+6)) (.unOp .not (m.n 9) (tm (n+5)))]) n).1 (.cond (tm (n+6)) (A (n+7)).1 .skip),(A (n+7)).2)
 | _=>b6
def cJ (g:GW)(s te tKs:Nat):Fds->List Nm->List GC
 | .nil,_=>[]
 | .cons _ _ tag df _ ty r,ms=>match tag with
  | some t=>ga g s ty df (ms.headD (.mk [] [])) (l7 tKs te t)::cJ g s te tKs r ms.tail
  | none=>cJ g s te tKs r ms.tail
def mP (g:GW)(s T kt te tKs:Nat):GC:=aA 10 fun n=>[mk (some n) (.move (tm 1)),mk (some (n+1)) (.move (tm te)),bi (some (n+2)) .len [tm (n+1)] [tKs] g.tInt,mk (some (n+3)) (.move (tm s)),mk (some (n+4)) (.nilCheck (tm (n+3))),mk (some (n+5)) (.fieldAddr T (tm (n+4)) kt),
 cl (some (n+6)) g.tlen [tm (n+5)],mk (some (n+7)) (.binOp .add g.tInt (tm (n+2)) (tm (n+6)) 0),mk (some (n+8)) (.convert g.tInt g.tU32 (tm (n+7))),cl (some (n+9)) g.uv [tm n,tm (n+8)],mk (some 1) (.assign (tm (n+9)))]
def cf (g:GW)(key:Nat):List (Nat × GC)->Nat->Code × Nat
 | [],n=>(.skip,n)
 | (t,x)::r,n=>(.seq (rg [mk (some (n+1)) (.binOp .eql g.tU32 (tm key) (ki .u32 t) 0),mk (some n) (.assign (tm (n+1)))]) (.cond (tm n) (x (n+2)).1 (cf g key r (x (n+2)).2).1),(cf g key r (x (n+2)).2).2)
def ip (g:GW)(te tKs tv b1 b2 b3:Nat)(cs:List (Nat × GC)):GC:=fun n=>
 (.seq (rg [mk (some n) (.move (tm te)),bi (some (n+1)) .len [tm n] [tKs] g.tInt,mk (some (n+2)) (.move (ki .i64 0))])
  (.block b1 (.loop (.seq (rg [mk (some (n+3)) (.binOp .lss g.tInt (tm (n+2)) (tm (n+1)) 0)]) (.seq (.cond (tm (n+3)) .skip (.exit b1))
   (.seq (.block b2 (.seq (rg [mk (some (n+4)) (.indexAddr tKs (tm n) (tm (n+2))),mk (some (n+5)) (.load g.tU32 (tm (n+4))),mk (some tv) (.assign (tm (n+5)))])
     (.seq (rg [mk (some (n+6)) (.move (tm tv))]) (.block b3 (cf g (n+6) cs (n+7)).1))))
    (rg [mk (some (cf g (n+6) cs (n+7)).2) (.binOp .add g.tInt (tm (n+2)) (ki .i64 1) 0),mk (some (n+2)) (.move (tm (cf g (n+6) cs (n+7)).2))])))))),
 (cf g (n+6) cs (n+7)).2+1)
def rW (g:GW)(z lenAt l:Nat):List GC:=[aU z (.bool false),aA 2 fun n=>[mk (some n) (.move (tm 1)),bi (some (n+1)) .len [tm n] [g.tSl] g.tInt,mk (some lenAt) (.assign (tm (n+1)))],aY (.label l)]
def cV (g:GW)(z lenAt l tBool:Nat):GC:=ej 1 2 (fun n=>[mk (some n) (.move (tm z)),mk (some (n+1)) (.unOp .not tBool (tm n))])
 (gS [zJ 9 fun n=>[mk (some n) (.move (tm 1)),mk (some (n+1)) (.move (tm lenAt)),mk (some (n+2)) (.slice g.tSl (tm n) none (some (tm (n+1))) none),mk (some (n+3)) (.move (tm 1)),mk (some (n+4)) (.move (tm lenAt)),mk (some (n+5)) (.slice g.tSl (tm (n+3)) (some (tm (n+4))) none none),
  bi (some (n+6)) .len [tm (n+5)] [g.tSl] g.tInt,mk (some (n+7)) (.convert g.tInt g.tU32 (tm (n+6))),cl (some (n+8)) g.uv [tm (n+2),tm (n+7)],mk (some 1) (.assign (tm (n+8)))],aU z (.bool true),aY (.goto l)]) b6
def e9 (g:GW)(cx:Cx)(b F:Nat):Fds->List Nm->List GC
 | .nil,_=>[]
 | .cons _ _ _ _ _ ty r,ms=>
  gS ((aA 2 fun n=>[mk (some n) (.fieldAddr F (tm b) ((ms.headD (.mk [] [])).n 1)),mk (some (n+1)) (.load ((ms.headD (.mk [] [])).n 2) (tm n)),mk (some ((ms.headD (.mk [] [])).n 0)) (.assign (tm (n+1)))])::bo g cx ty ((ms.headD (.mk [] [])).n 0) [])::e9 g cx b F r ms.tail
def eD (g:GW)(cx:Cx)(b F kt:Nat):GC:=ix cx (gS [aA 6 fun n=>[mk (some n) (.move (tm 1)),mk (some (n+1)) (.fieldAddr F (tm b) kt),cl (some (n+2)) g.tlen [tm (n+1)],mk (some (n+3)) (.convert g.tInt g.tU32 (tm (n+2))),
  mk (some (n+4)) (.binOp .add g.tU32 (ki .u32 0) (tm (n+3)) 0),cl (some (n+5)) g.uv [tm n,tm (n+4)],mk (some 1) (.assign (tm (n+5)))],
 aA 3 fun n=>[mk (some n) (.fieldAddr F (tm b) kt),mk (some (n+1)) (.move (tm 1)),cl (some (n+2)) g.teach [tm n,tm (n+1)],mk (some 1) (.assign (tm (n+2)))]]) b6
def jl:cP->Nat
 | .bool=>1|.i8=>1|.i16=>2|.u16=>2|.i32=>4|.i64=>8|.uuid=>16
def gZ (g:GW)(cx:Cx)(fs:Fds)(T kt:Nat)(m:Nm)(cs:List (Nat × GC)):List GC:=
 if fs.tagged then
  (if cx.hf then[ix cx (gS ([aU (m.n 0) (.slice none 0 0)]++cJ g cx.s (m.n 0) (m.n 1) fs m.s ++
   [mP g cx.s T kt (m.n 0) (m.n 1),ip g (m.n 0) (m.n 1) (m.n 2) (m.n 3) (m.n 4) (m.n 5) cs,eC g cx.s T kt])) b6] else[])
 else gJ g cx T kt
mutual
def lX (g:GW)(cx:Cx):Ty->Nm->List GC
 | .prim p,m=>iq (.prim p) cx.s (m.n 0) (m.n 1) (m.n 2) (m.n 3)::bo g cx (.prim p) (m.n 0) (m.l.drop 4)
 | .str nul,m=>co cx.s (m.n 0) (m.n 1) (m.n 2) (m.n 3)::bo g cx (.str nul) (m.n 0) (m.l.drop 4)
 | .bytes nul,m=>co cx.s (m.n 0) (m.n 1) (m.n 2) (m.n 3)::bo g cx (.bytes nul) (m.n 0) []
 | .list nul _ e,m=>
  [co cx.s (m.n 0) (m.n 1) (m.n 2) (m.n 3),fG g cx nul (m.n 0) (m.n 3),g9 g (m.n 0) (m.n 4) (m.n 5) (m.n 6) (m.n 3) (gwEl g cx e (m.n 0) (m.n 4) (m.n 3) (m.sub 0))]
 | .struct none _ fs,m=>
  eY cx.s (m.n 0) (m.n 1) (m.n 2)::(gwFds g { cx with s:=m.n 0 } fs (m.sub 0).s++gZ g { cx with s:=m.n 0 } fs (m.n 3) (m.n 4) (m.sub 0) (gwTagd g { cx with s:=m.n 0 } fs (m.sub 0).s))
 | .struct (some _) _ fs,m=>
  [co cx.s (m.n 0) (m.n 1) (m.n 2) (m.n 3),zA (m.n 0) (m.n 3) (gb g 255) (gS (gb g 1::(gwFds g { cx with s:=m.n 0 } fs (m.sub 0).s++gZ g { cx with s:=m.n 0 } fs (m.n 4) (m.n 5) (m.sub 0) (gwTagd g { cx with s:=m.n 0 } fs (m.sub 0).s))))]
def gwEl (g:GW)(cx:Cx):Ty->Nat->Nat->Nat->Nm->List GC
 | .struct _ _ fs,v,i,F,m=>
  ea v i (m.n 0) F::(gwFds g { cx with s:=m.n 0 } fs (m.sub 0).s++gZ g { cx with s:=m.n 0 } fs (m.n 1) (m.n 2) (m.sub 0) (gwTagd g { cx with s:=m.n 0 } fs (m.sub 0).s))
 | ty,v,i,F,m=>
  jN ty v i (m.n 0) F (m.n 1)::bo g cx ty (m.n 0) (m.l.drop 2)
def gwFds (g:GW)(cx:Cx):Fds->List Nm->List GC
 | .nil,_=>[]
 | .cons lo hi tag _ _ ty r,ms=>
  if tag.isNone then i6 g cx lo hi (gS (lX g cx ty (ms.headD (.mk [] []))))::gwFds g cx r ms.tail else gwFds g cx r ms.tail
def gwTagd (g:GW)(cx:Cx):Fds->List Nm->List (Nat × GC)
 | .nil,_=>[]
 | .cons _ _ tag _ _ ty r,ms=>
  match tag with
  | some t=>(t,gwBody g cx t ty (ms.headD (.mk [] [])))::gwTagd g cx r ms.tail
  | none=>gwTagd g cx r ms.tail
def gwBody (g:GW)(cx:Cx)(t:Nat):Ty->Nm->GC
 | .prim p,m=>gS ([iq (.prim p) cx.s (m.n 0) (m.n 1) (m.n 2) (m.n 3),iH g t,iH g (jl p)]++bo g cx (.prim p) (m.n 0) [])
 | .list nul _ e,m=>jO ([co cx.s (m.n 0) (m.n 1) (m.n 2) (m.n 3),iH g t]++rW g (m.n 4) (m.n 5) (m.n 6)++[fG g cx nul (m.n 0) (m.n 3),g9 g (m.n 0) (m.n 12) (m.n 13) (m.n 14) (m.n 3) (gwEl g cx e (m.n 0) (m.n 12) (m.n 3) (m.sub 0))]++[cV g (m.n 4) (m.n 5) (m.n 6) (m.n 9)])
 | .struct _ _ fs,m=>jO ([ia cx.s (m.n 0) (m.n 1) (m.n 2) (m.n 3),iH g t]++rW g (m.n 4) (m.n 5) (m.n 6)++(e9 g cx (m.n 0) (m.n 3) fs (m.sub 0).s++[eD g cx (m.n 0) (m.n 3) (m.n 11)])++[cV g (m.n 4) (m.n 5) (m.n 6) (m.n 9)])
 | ty,m=>jO ([co cx.s (m.n 0) (m.n 1) (m.n 2) (m.n 3),iH g t]++rW g (m.n 4) (m.n 5) (m.n 6)++bo g cx ty (m.n 0) []++[cV g (m.n 4) (m.n 5) (m.n 6) (m.n 9)])
end
def bJ (g:GW)(cx:Cx)(fs:Fds)(T kt:Nat)(m:Nm):List GC:=gZ g cx fs T kt m (gwTagd g cx fs m.s)
def oe (g:GW)(kept:Bool)(cx:Cx)(T flex v6:Nat):List GC:=
 [aU 4 (.slice none 0 0),co 0 cx.ver T 0 g.tVer,aA 1 fun n=>[mk (some n) (.move (tm cx.ver))]] ++
  (if cx.hf then[aA 2 fun n=>[mk (some n) (.move (tm cx.ver)),mk (some (n+1)) (.binOp .geq g.tVer (tm n) (ki .i16 flex) 0),mk (some cx.fx) (.assign (tm (n+1)))],aA 1 fun n=>[mk (some n) (.move (tm cx.fx))]] else[]) ++
  (if kept then[gS [co 0 v6 T 0 g.tVer,bq (g.ap .i16) v6]] else[])
def iY:List GC:=[aA 1 fun n=>[mk (some n) (.move (tm 1)),mk (some 4) (.assign (tm n))],aY .ret]
def gWrite (g:GW)(kept:Bool)(cx:Cx)(fs:Fds)(T kt flex v6 n0:Nat)(m:Nm):Code:=
 (gS (oe g kept cx T flex v6++(gwFds g cx fs m.s++bJ g cx fs T kt m++iY)) n0).1
section
variable {P:Program}
theorem lx {c:Code}{Q:Exit->Act->World->Prop}{a:Act}{w:World}(h:aQ P c Q a w):c=.skip->Q .normal a w:=by
 induction h with
 | skip hq=>intro _;exact hq
 | mono _ hq ih=>intro hc;exact hq _ _ _ (ih hc)
 | reg=>intro hc;cases hc
 | drw=>intro hc;cases hc
 | _=>intro hc;cases hc
def LW (P:Program)(l:List GC)(n:Nat)(Q:Exit->Act->World->Prop)(a:Act)(w:World):Prop:=aQ P (sq (gL l n).1) Q a w
theorem bg {n:Nat}{Q:Exit->Act->World->Prop}{a:Act}{w:World}(h:Q .normal a w):LW P [] n Q a w:=.skip h
theorem cA {K:Act->World->Prop}{Q:Exit->Act->World->Prop}{e:Exit}{a:Act}{w:World}(he:e≠.normal):Exit.then K Q e a w=Q e a w:=by
 cases e<;>first|rfl|exact absurd rfl he
theorem az {c:Code}{cs:List Code}{Q:Exit->Act->World->Prop}{a:Act}{w:World}(h:aQ P c (Exit.then (aQ P (sq cs) Q) Q) a w):aQ P (sq (c::cs)) Q a w:=by
 cases cs with
 | nil=>
  refine .mono h fun e a w hq=>?_
  cases e with
  | normal=>exact lx hq rfl
  | _=>exact hq
 | cons d ds=>exact .seq h (fun a w hq=>hq) (fun e a w he hq=>by rw[cA he]at hq;exact hq)
theorem ad {x:GC}{r:List GC}{n:Nat}{Q:Exit->Act->World->Prop}{a:Act}{w:World}(h:aQ P (x n).1 (Exit.then (LW P r (x n).2 Q) Q) a w):LW P (x::r) n Q a w:=
 az h
theorem bm {l:List GC}{n:Nat}{Q:Exit->Act->World->Prop}{a:Act}{w:World}(h:LW P l n Q a w):aQ P (gS l n).1 Q a w:=h
def Up (x:GC):Prop:=∀ n,n<=(x n).2
theorem aq (k:Nat)(f:Nat->List Oper):Up (aA k f):=fun n=>Nat.le_add_right n k
theorem b7 (c:Code):Up (aY c):=fun n=>Nat.le_refl n
theorem mG {l:List GC}(h:∀ x∈l,Up x):∀ n,n<=(gL l n).2:=by
 induction l with
 | nil=>intro n;exact Nat.le_refl n
 | cons x l ih=>intro n;exact Nat.le_trans (h x (by simp) n) (ih (fun y hy=>h y (by simp[hy])) _)
theorem cg {t k:Nat}{ops:Nat->List Oper}{A B:GC}(hA:Up A)(hB:Up B):Up (ej t k ops A B):=fun n=>
 Nat.le_trans (Nat.le_trans (Nat.le_add_right n k) (hA _)) (hB _)
theorem au {l:List Oper}{K:Act->World->Prop}{Q:Exit->Act->World->Prop}{a:Act}{w:World}(h:wpList P l.toArray (Exit.then K Q) l a w):aQ P (rg l) (Exit.then K Q) a w:=.reg h
structure bd (P:Program)(F:Nat)(agg:Bool)(sz:Nat):Prop where
 agg:∀ w,(isAgg F).run P w=.ok agg w
 size:∀ w,(sizeOf F).run P w=.ok sz w
structure bp (P:Program)(T k F off:Nat)(agg:Bool)(sz:Nat):Prop where
 fld:∃ fs f,P.underlying T=some (.struct fs)/\fs[k]?=some f/\f.offset=off/\f.type=F
 var:bd P F agg sz
 pos:0<sz
variable {x m k0 n:Nat} {K:Act->World->Prop} {Q:Exit->Act->World->Prop} {a:Act} {w:World}
theorem dH {v:Nat}{y:Value}(hv:v=x \/ (m<=v/\v<k0))(Hz:v<a.tmps.size)(h:∀ a',Pv x m k0 n a a'->a'.get v=y->K a' w):aQ P (aU v y n).1 (Exit.then K Q) a w:=
 au (aj (wpList_nil (h _ ((Pv.refl _ _ _ _ _).put _ (by omega)) (dA _ _ _ Hz))))
theorem eH {y z:Nat}(hz:z=x \/ (m<=z/\z<k0))(hm:m<=k0)(hk:k0<=n)(hn:n<a.tmps.size)(IE:z<a.tmps.size)
  (h:∀ a',Pv x m k0 n a a'->a'.get z=a.get y->K a' w):aQ P (bB y z n).1 (Exit.then K Q) a w:=by
 refine au (ag (aj (wpList_nil ?_)))
 rw[aa,aa,dA _ _ _ hn]
 exact h _ (((Pv.refl _ _ _ _ _).put _ (by omega)).put _ (by omega)) (am (by rw[ab];exact IE))
theorem bR {ops:Array Oper}{Q:Exit->Act->World->Prop}{r:List Oper}{d:Option Nat}{y:Operand}{T k F B O off sz:Nat}{agg:Bool}(hy:a.eval y=.pointer (some ⟨B,O,none⟩))(hF:bp P T k F off agg sz)
  (h:wpList P ops Q r (a.put d (.pointer (some ⟨B,O+off,none⟩))) w):wpList P ops Q (mk d (.fieldAddr T y k)::r) a w:=by
 obtain⟨fs,f,h1,h2,h3,h4⟩:=hF.fld
 obtain⟨q,rfl⟩:∃ q,sz=q+1:=⟨sz-1,by have:=hF.pos;omega⟩
 exact pB (n:=q) hy h1 h2 h3 (fun w=>by rw[h4];exact hF.var.size w) h
theorem im {s v T k F B O off:Nat}(hs:a.get s=.pointer (some ⟨B,O,none⟩))(hF:bp P T k F off false 1){y:Value}(hy:w.cell? ⟨B,O+off,none⟩=some y)
  (hv:v=x \/ (m<=v/\v<k0)) (hm:m<=k0) (hk:k0<=n) (hn:n+4<=a.tmps.size) (Hz:v<a.tmps.size)
  (h:∀ a',Pv x m k0 n a a'->a'.get v=y->K a' w):aQ P (co s v T k F n).1 (Exit.then K Q) a w:=by
 refine au (ag ?_)
 rw[aa,hs]
 refine aL (by rw[aa,am (by omega)]) ?_
 refine bR (by rw[aa,am (by rw[ab];omega)]) hF ?_
 refine b5 (by rw[aa,am (by simp only[ab];omega)]) (hF.var.agg _) hy ?_
 refine aj (wpList_nil ?_)
 rw[aa,am (by simp only[ab];omega)]
 exact h _ ((((((Pv.refl _ _ _ _ _).put _ (by omega)).put _ (by omega)).put _ (by omega)).put _ (by omega)).put _ (by omega)) (am (by simp only[ab];exact Hz))
theorem uP {s v T k F B O off sz:Nat}{agg:Bool}{uu:Option Nat}{cs:List Value}{cur:Array Value}{te:TypeId}(hs:a.get s=.pointer (some ⟨B,O,none⟩))(hF:bp P T k F off agg sz)
  (hval:match uu with
   | none=>∃ y,a.get v=y/\y.cells.toList=cs
   | some u=>bd P u true cs.length/\∃ b o,a.get v=.pointer (some ⟨b,o,none⟩)/\ao w b o cs)
  (G0:cs.length=sz) (h1:∀ u∈cs,u.oneCell'=true) (hB:w.heap[B]?=some (.cells cur te (0,0))) (hO:O+off+sz<=cur.size)
  (hm:m<=k0) (hk:k0<=n) (hn:n+4<=a.tmps.size) (NZ:v<n)
  (h:∀ a',Pv x m k0 n a a'->K a' (w.setRow B (aI cur (O+off) cs))):aQ P (iI uu s v T k F n).1 (Exit.then K Q) a w:=by
 refine au (ag ?_)
 rw[aa,hs]
 have LD:Pv x m k0 n a (a.put (some n) (.pointer (some ⟨B,O,none⟩))):=(Pv.refl _ _ _ _ _).put _ (by omega)
 have key:∀ y:Value,y.cells.toList=cs->wpList P (#[mk (some n) (.move (tm s)),mk (some (n+1)) (match uu with|some u=>.load u (tm v)|none=>.move (tm v)),mk (some (n+2)) (.nilCheck (tm n)),
   mk (some (n+3)) (.fieldAddr T (tm (n+2)) k),mk none (.store F (tm (n+3)) (tm (n+1)))]) (Exit.then K Q) [mk (some (n+2)) (.nilCheck (tm n)),mk (some (n+3)) (.fieldAddr T (tm (n+2)) k),mk none (.store F (tm (n+3)) (tm (n+1)))]
   ((a.put (some n) (.pointer (some ⟨B,O,none⟩))).put (some (n+1)) y) w:=by
  intro y hy
  refine aL (by rw[aa,ak (by omega),am (by omega)]) ?_
  refine bR (by rw[aa,am (by simp only[ab];omega)]) hF ?_
  refine bw (cur:=cur) (t:=te) (by rw[aa,am (by simp only[ab];omega)]) (by rw[aa,ak (by omega),ak (by omega),am (by simp only[ab];omega)]) hy
   (by rw[G0];exact hF.var.size w) hB (by rw[G0];exact hO) h1 ?_
  exact wpList_nil (h _ (((LD.put _ (by omega)).put _ (by omega)).put _ (by omega)))
 cases uu with
 | none=>
  obtain⟨y,hy,hyc⟩:=hval
  refine ag ?_
  rw[aa,ak (by omega),hy]
  exact key y hyc
 | some u=>
  obtain⟨hu,b,o,hb,hc⟩:=hval
  refine fo (cs:=cs) (by rw[aa,ak (by omega),hb]) (hu.agg w) (hu.size w) hc ?_
  exact key (.agg cs.toArray) (by simp[Value.cells])
end
section
open Go Go.MapKept
section
variable {P:Program} {w:World}
theorem fh (k:Nat):IsKey (.int .u32) (.int .u32 (k:Int)):=by simp[IsKey]
theorem sX {mty kt et r clock key:Nat}{value:Value}{es:List aP}(hm:P.underlying mty=some (.map kt et))(hd:P.underlying kt=some (.int .u32))(hb:w.heap[r]?=some (.map (es.map aP.entry).toArray clock)) :
  ((∀ e∈es,e.key≠key)/\(Instr.mapUpdate mty (.map (some r)) (.int .u32 (key:Int)) value).run P w=.ok () { w with heap:=w.heap.setIfInBounds r (.map ((es++[(⟨key,value,clock⟩:aP)]).map aP.entry).toArray (clock+1)) }) \/
  ∃ j e,es[j]?=some e/\e.key=key/\(Instr.mapUpdate mty (.map (some r)) (.int .u32 (key:Int)) value).run P w=.ok () { w with heap:=w.heap.setIfInBounds r (.map ((es.set j (⟨key,value,e.born⟩:aP)).map aP.entry).toArray clock) }:=by
 have Hu:∀ x∈(es.map aP.entry).toArray.toList,IsKey (.int .u32) x.key:=by
  intro x hx
  simp only[List.mem_map]at hx
  obtain⟨e,_,rfl⟩:=hx
  exact fh e.key
 rcases findNow_spec (fh key) (es.map aP.entry).toArray.toList 0 Hu with⟨h1,h2⟩|⟨j,e,h1,h2,h3⟩
 ·refine .inl ⟨fun e he hk=>?_,?_⟩
  ·have:=h2 e.entry (by simp;exact⟨e,he,rfl⟩)
   simp[aP.entry,hk]at this
  ·simp[Instr.mapUpdate,run_underlying hm,MapKept.run_getObj_map hb,MapKept.run_checkKey hd (fh key),MapKept.run_findKey hd h1,MapKept.run_setObj_map _ hb,Result.andThen,aP.entry]
 ·have h2':(es[j]?).map aP.entry=some e:=by simpa using h2
  obtain⟨e1,Mz,rfl⟩:=Option.map_eq_some_iff.1 h2'
  have Gy:e1.key=key:=by
   simp only[aP.entry,Value.int.injEq,true_and]at h3
   omega
  have hj:(es.map aP.entry).toArray[j]?=some e1.entry:=by simpa using h2
  have T8:((es.map aP.entry).toArray.modify j fun e'=>{ e' with key:=.int .u32 (key:Int),val:=value })=((es.set j (⟨key,value,e1.born⟩:aP)).map aP.entry).toArray:=by
   apply Array.ext_getElem?
   intro i
   rw[Array.getElem?_modify]
   simp only[List.getElem?_toArray,List.getElem?_map,List.getElem?_set]
   by_cases HL:j=i
   ·subst HL
    obtain⟨Gq,OU⟩:=List.getElem?_eq_some_iff.1 Mz
    simp[Gq,aP.entry,OU]
   ·simp[HL]
  refine .inr ⟨j,e1,Mz,Gy,?_⟩
  rw[Nat.zero_add]at h1
  have HM:e1.entry.key=.int .u32 (key:Int):=h3
  have TJ:=MapKept.run_keyThatStays (P:=P) (w:=w) (fh key)
  simp only[Instr.mapUpdate,Sem.run_bind,run_underlying hm,Result.andThen_ok,MapKept.run_getObj_map hb,MapKept.run_checkKey hd (fh key),MapKept.run_findKey hd h1,hj,Option.map_some,Option.getD_some,HM,TJ,T8,MapKept.run_setObj_map _ hb]
end
end
theorem jG {x:Nat × Bs}{l:List (Nat × Bs)}(h:gK (x::l)):gK l:=by
 cases l with
 | nil=>trivial
 | cons y r=>exact h.2
theorem iT {x:Nat × Bs}:∀ {l:List (Nat × Bs)},gK (x::l)->∀ y∈l,x.1<y.1
 | [],_,y,hy=>by cases hy
 | z::r,h,y,hy=>by
  rcases List.mem_cons.1 hy with rfl|hy
  ·exact h.1
  ·exact Nat.lt_trans h.1 (iT h.2 y hy)
theorem jH {x:Nat × Bs}{l:List (Nat × Bs)}(h:gK l)(hx:∀ y∈l,x.1<y.1):gK (x::l):=by
 cases l with
 | nil=>trivial
 | cons y r=>exact⟨hx y (List.mem_cons_self ..),h⟩
theorem mj (k:Nat)(v:Bs):∀ (t:List (Nat × Bs)),∀ y∈cp k v t,y.1=k \/ ∃ z∈t,z.1=y.1
 | [],y,hy=>by simp[cp]at hy;subst hy;exact .inl rfl
 | (j,u)::r,y,hy=>by
  unfold cp at hy
  split at hy
  ·rcases List.mem_cons.1 hy with rfl|hy
   ·exact .inl rfl
   ·exact .inr ⟨y,hy,rfl⟩
  ·split at hy
   ·rcases List.mem_cons.1 hy with rfl|hy
    ·exact .inl rfl
    ·exact .inr ⟨y,List.mem_cons_of_mem _ hy,rfl⟩
   ·rcases List.mem_cons.1 hy with rfl|hy
    ·exact .inr ⟨(j,u),List.mem_cons_self ..,rfl⟩
    ·rcases mj k v r y hy with h|⟨z,hz,h⟩
     ·exact .inl h
     ·exact .inr ⟨z,List.mem_cons_of_mem _ hz,h⟩
theorem oU (k:Nat)(v:Bs)(t:List (Nat × Bs)):cp k v t≠[]:=by
 cases t with
 | nil=>simp[cp]
 | cons p r=>
  obtain⟨j,u⟩:=p
  unfold cp
  split
  ·simp
  ·split<;>simp
theorem iC (k:Nat)(v:Bs):∀ (t:List (Nat × Bs)),gK t->gK (cp k v t)
 | [],_=>trivial
 | (j,u)::r,h=>by
  unfold cp
  split
  ·rename_i Gq
   exact jH h fun y hy=>by
    rcases List.mem_cons.1 hy with rfl|hy
    ·exact Gq
    ·exact Nat.lt_trans Gq (iT h y hy)
  ·split
   ·rename_i he
    subst he
    exact jH (jG h) fun y hy=>iT h y hy
   ·refine jH (iC k v r (jG h)) fun y hy=>?_
    rcases mj k v r y hy with h1|⟨z,hz,h1⟩
    ·show j<y.1
     omega
    ·rw[<- h1];exact iT h z hz
theorem nD (k:Nat)(v:Bs):∀ (t:List (Nat × Bs)),(∀ y∈t,y.1≠k)->(cp k v t).Perm ((k,v)::t)
 | [],_=>List.Perm.refl _
 | (j,u)::r,h=>by
  unfold cp
  split
  ·exact List.Perm.refl _
  ·split
   ·rename_i he
    exact absurd he.symm (h (j,u) (List.mem_cons_self ..))
   ·exact((nD k v r fun y hy=>h y (List.mem_cons_of_mem _ hy)).cons (j,u)).trans (List.Perm.swap ..)
theorem nC (k:Nat)(v:Bs):∀ (t:List (Nat × Bs)),gK t->(∃ y∈t,y.1=k)->cp k v t=t.map fun p=>if p.1=k then(k,v)else p
 | [],_,⟨y,hy,_⟩=>by cases hy
 | (j,u)::r,hr,Je=>by
  unfold cp
  have LI:∀ y∈r,j<y.1:=iT hr
  by_cases Gq:k<j
  ·exfalso
   obtain⟨y,hy,hk⟩:=Je
   rcases List.mem_cons.1 hy with rfl|hy
   ·simp only at hk;omega
   ·have:=LI y hy;omega
  ·rw[if_neg Gq]
   by_cases he:k=j
   ·subst he
    rw[if_pos rfl,List.map_cons,if_pos rfl]
    congr 1
    have:∀ p∈r,(if p.1=k then(k,v)else p)=p:=fun p hp=>by rw[if_neg (by have:=LI p hp;omega)]
    rw[List.map_congr_left this,List.map_id']
   ·rw[if_neg he,List.map_cons,if_neg (by simp only;omega),nC k v r (jG hr)]
    obtain⟨y,hy,hk⟩:=Je
    rcases List.mem_cons.1 hy with rfl|hy
    ·simp only at hk;omega
    ·exact⟨y,hy,hk⟩
theorem Av {P:Program}{ops:Array Oper}{Q:Exit->Act->World->Prop}{r:List Oper}{a:Act}{w w':World}{d:Option Nat}{b:Builtin}{args:List Operand}{tys:List Nat}{ty:Nat}{v:Value}(h:(execOp a.eval (bi d b args tys ty)).run P w=.ok (.value v) w')(hn:wpList P ops Q r (a.put d v) w'):wpList P ops Q (bi d b args tys ty::r) a w:=by
 refine wpList_plain rfl fun _ hK=>?_
 unfold Oper.wp
 rw[h]
 exact hK _ _ hn
end Go.Proofs.YtbgklecbmhaadaaGreatDoor.Kx