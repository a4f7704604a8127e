/- messages, part 1 -/
import Derived.StillTail
import Derived.ScopeJumps
import Derived.Deep.Quiet
import Derived.Laws.AppendOwn
import Derived.WalkKit
import Derived.MapFrom

namespace Go.Proofs.YtnpdpnmomihkkaaGreatDoor.Kx
open Go
theorem aa {p:Prop} (h:p:=by omega):p:=h
theorem ab {p:Prop} (h:p:=by simp):p:=h
theorem ac:type_of% @Bool.and_eq_true:=@Bool.and_eq_true
theorem ad:type_of% @List.length_append:=@List.length_append
theorem ae:type_of% @Nat.le_refl:=@Nat.le_refl
theorem ag:type_of% @Bool.false_eq_true:=@Bool.false_eq_true
theorem ah:type_of% @List.getElem?_eq_some_iff:=@List.getElem?_eq_some_iff
theorem ai:type_of% @decide_eq_true_eq:=@decide_eq_true_eq
theorem aj:type_of% @Array.getElem?_eq_some_iff:=@Array.getElem?_eq_some_iff
theorem ak:type_of% @if_false:=@if_false
theorem al:type_of% @if_neg:=@if_neg
theorem am:type_of% @Nat.le_trans:=@Nat.le_trans
theorem ao:type_of% @List.append_assoc:=@List.append_assoc
theorem aq:type_of% @List.getElem?_eq_getElem:=@List.getElem?_eq_getElem
theorem ar:type_of% @beq_iff_eq:=@beq_iff_eq
theorem au:type_of% @Option.some.inj:=@Option.some.inj
theorem aw:type_of% @if_true:=@if_true
theorem ax:type_of% @if_pos:=@if_pos
theorem ay:type_of% @Array.getElem?_setIfInBounds:=@Array.getElem?_setIfInBounds
theorem az:type_of% @Nat.lt_of_lt_of_le:=@Nat.lt_of_lt_of_le
theorem aA:type_of% @List.mem_cons_of_mem:=@List.mem_cons_of_mem
theorem aB:type_of% @List.mem_cons_self:=@List.mem_cons_self
theorem aD:type_of% @List.getElem?_map:=@List.getElem?_map
theorem aF:type_of% @List.nil_append:=@List.nil_append
theorem aG:type_of% @List.length_take:=@List.length_take
theorem aH:type_of% @Bool.or_eq_true:=@Bool.or_eq_true
theorem aI:type_of% @List.mem_cons:=@List.mem_cons
theorem aJ:type_of% @List.length_map:=@List.length_map
theorem aK:type_of% @Option.map_eq_some_iff:=@Option.map_eq_some_iff
theorem aL:type_of% @List.append_nil:=@List.append_nil
theorem aM:type_of% @Option.some.injEq:=@Option.some.injEq
theorem aN:type_of% @Nat.zero_add:=@Nat.zero_add
theorem aO:type_of% @List.getElem?_append_right:=@List.getElem?_append_right
theorem aP:type_of% @List.mem_map:=@List.mem_map
theorem aQ:type_of% @List.getElem?_toArray:=@List.getElem?_toArray
theorem aR:type_of% @List.getElem?_append_left:=@List.getElem?_append_left
theorem aS:type_of% @List.cons_append:=@List.cons_append
theorem aT:type_of% @List.all_eq_true:=@List.all_eq_true
theorem aU:type_of% @Bool.not_true:=@Bool.not_true
theorem aV:type_of% @List.getElem?_cons_zero:=@List.getElem?_cons_zero
theorem aW:type_of% @Nat.mod_eq_of_lt:=@Nat.mod_eq_of_lt
theorem aX:type_of% @List.getElem?_take:=@List.getElem?_take
theorem aY:type_of% @List.mem_singleton:=@List.mem_singleton
theorem aZ:type_of% @List.drop_eq_getElem_cons:=@List.drop_eq_getElem_cons
theorem bc:type_of% @List.mem_of_getElem?:=@List.mem_of_getElem?
theorem bd:type_of% @List.not_mem_nil:=@List.not_mem_nil
theorem bf:type_of% @List.eq_nil_of_length_eq_zero:=@List.eq_nil_of_length_eq_zero
theorem bg:type_of% @List.drop_append_of_le_length:=@List.drop_append_of_le_length
theorem bh:type_of% @List.lookup_cons:=@List.lookup_cons
theorem bj:type_of% @Bool.false_or:=@Bool.false_or
theorem bk:type_of% @Nat.add_mul:=@Nat.add_mul
theorem bm:type_of% @Nat.lt_or_ge:=@Nat.lt_or_ge
theorem bn:type_of% @Nat.mul_le_mul_right:=@Nat.mul_le_mul_right
theorem bo:type_of% @List.drop_of_length_le:=@List.drop_of_length_le
abbrev Bs:=List UInt8
inductive eH where
 | bool|i8|i16|u16|i32|i64|uuid
 deriving DecidableEq
mutual
inductive Ty where
 | prim (p:eH)
 | str (nul:Option Nat)
 | bytes (nul:Option Nat)
 | list (nul:Option Nat) (esz:Nat) (e:Ty)
 | struct (nul:Option Nat) (toff:Option Nat) (fs:Fds)
inductive Fds where
 | nil
 | cons (lo:Nat) (hi:Option Nat) (tag:Option Nat) (df:Int) (off:Nat) (ty:Ty) (r:Fds)
end
inductive V where
 | nul
 | n (x:Int)
 | s (x:Bs)
 | l (xs:List V)
 | st (vs:List V) (tg:List (Nat × Bs))
def V.num:V->Int | .n x=>x|_=>0
def V.octets:V->Bs | .s x=>x|_=>[]
def V.list:V->List V|.l xs=>xs|_=>[]
def V.isNul:V->Bool | .nul=>true|_=>false
def V.fields:V->List V|.st vs _=>vs|_=>[]
def V.tags:V->List (Nat × Bs)|.st _ t=>t|_=>[]
def be:Nat->Int->Bs
 | 0,_=>[]
 | k+1,x=>UInt8.ofNat ((x/(256:Int)^k%256).toNat)::be k x
def ei (l:Bs):Nat:=l.foldl (λa b=>a*256+b.toNat) 0
def lr (bits:Nat)(x:Nat):Int:=if x<2^(bits-1) then(x:Int) else(x:Int)-(2:Int)^bits
def dD:Nat->Nat->Bs
 | 0,x=>[UInt8.ofNat x]
 | f+1,x=>if x<128 then[UInt8.ofNat x]else UInt8.ofNat (x%128+128)::dD f (x/128)
def uvar (x:Nat):Bs:=dD 9 x
structure RS where
 src:Bs
 bad:Bool
 nl:Bool
def RS.fail:RS:=⟨[],true,true⟩
def rU (k:Nat)(r:RS):Nat × RS:=
 if r.src.length<k then(0,.fail) else(ei (r.src.take k),⟨r.src.drop k,r.bad,r.nl⟩)
def rI (k:Nat)(r:RS):Int × RS:=(lr (8*k) (rU k r).1,(rU k r).2)
def pQ (r:RS):Int × RS:=
 match r.src with
 | []=>(0,.fail)
 | b::t=>((if b.toNat=0 then 0 else 1),⟨t,r.bad,r.nl⟩)
def cu:Bs->Nat × Int
 | []=>(0,0)
 | a::l=>
  if a.toNat<128 then(a.toNat,1) else
  match l with
  | []=>(0,0)
  | b::l=>
   if b.toNat<128 then(a.toNat%128+b.toNat*128,2) else
   match l with
   | []=>(0,0)
   | c::l=>
    if c.toNat<128 then(a.toNat%128+b.toNat%128*128+c.toNat*16384,3) else
    match l with
    | []=>(0,0)
    | d::l=>
     if d.toNat<128 then(a.toNat%128+b.toNat%128*128+c.toNat%128*16384+d.toNat*2097152,4) else
     match l with
     | []=>(0,0)
     | e::_=>if e.toNat<=15 then(a.toNat%128+b.toNat%128*128+c.toNat%128*16384+d.toNat%128*2097152+e.toNat*268435456,5) else(0,-5)
def bZ (r:RS):Nat × RS:=
 if(cu r.src).2<=0 then(0,.fail) else((cu r.src).1,⟨r.src.drop (cu r.src).2.toNat,r.bad,r.nl⟩)
def cd (k:Int)(r:RS):V × RS:=
 if(r.src.length:Int)<k \/ k<0 then(.nul,.fail)
 else(if r.nl then .nul else .s (r.src.take k.toNat),⟨r.src.drop k.toNat,r.bad,r.nl⟩)
def i6 (k:Int)(r:RS):V × RS:=(.s (cd k r).1.octets,(cd k r).2)
inductive PF where
 | bool|i8|i16|u16|i32|i64|uuid|str|cstr|nstr|cnstr|bytes|cbytes|nbytes|cnbytes
 deriving DecidableEq
def PF.run:PF->RS->V × RS
 | .bool,r=>(.n (pQ r).1,(pQ r).2)
 | .i8,r=>(.n (rI 1 r).1,(rI 1 r).2)
 | .i16,r=>(.n (rI 2 r).1,(rI 2 r).2)
 | .u16,r=>(.n (rU 2 r).1,(rU 2 r).2)
 | .i32,r=>(.n (rI 4 r).1,(rI 4 r).2)
 | .i64,r=>(.n (rI 8 r).1,(rI 8 r).2)
 | .uuid,r=>if r.src.length<16 then(.s (List.replicate 16 0),.fail) else(.s (r.src.take 16),⟨r.src.drop 16,r.bad,r.nl⟩)
 | .str,r=>i6 (rI 2 r).1 (rI 2 r).2
 | .cstr,r=>i6 ((bZ r).1-1:Int) (bZ r).2
 | .nstr,r=>if(rI 2 r).1<0 then(.nul,(rI 2 r).2)else i6 (rI 2 r).1 (rI 2 r).2
 | .cnstr,r=>if((bZ r).1-1:Int)<0 then(.nul,(bZ r).2)else i6 ((bZ r).1-1:Int) (bZ r).2
 | .bytes,r=>if(rI 4 r).1=-1 then(.s [],(rI 4 r).2)else cd (rI 4 r).1 (rI 4 r).2
 | .cbytes,r=>if((bZ r).1-1:Int)=-1 then(.s [],(bZ r).2)else cd ((bZ r).1-1:Int) (bZ r).2
 | .nbytes,r=>if(rI 4 r).1<0 then(.nul,(rI 4 r).2)else cd (rI 4 r).1 (rI 4 r).2
 | .cnbytes,r=>if((bZ r).1-1:Int)<0 then(.nul,(bZ r).2)else cd ((bZ r).1-1:Int) (bZ r).2
def eB (x:Int):Int:=(x+2147483648)%4294967296-2147483648
def cW (fx:Bool)(r:RS):Int × RS:=
 let p:Int × RS:=if fx then(eB (eB (bZ r).1-1),(bZ r).2)else rI 4 r
 if(p.2.src.length:Int)<p.1 then(0,.fail)else p
def dM (k:Nat)(v:Bs):List (Nat × Bs)->List (Nat × Bs)
 | []=>[(k,v)]
 | (j,u)::r=>if k<j then(k,v)::(j,u)::r else if k=j then(k,v)::r else(j,u)::dM k v r
def e9:Nat->List (Nat × Bs)->RS->List (Nat × Bs) × RS
 | 0,t,r=>(t,r)
 | n+1,t,r=>
  let k:=bZ r
  let z:=bZ k.2
  let s:=cd z.1 z.2
  e9 n (dM k.1 s.1.octets t) s.2
inductive dV (α:Type) where
 | ok (a:α) (r:RS)
 | err
 | stuck
def dV.bind {α β:Type}(x:dV α)(f:α->RS->dV β):dV β:=
 match x with
 | .ok a r=>f a r
 | .err=>.err
 | .stuck=>.stuck
def gx (f:RS->dV V):Nat->RS->dV (List V)
 | 0,r=>.ok [] r
 | n+1,r=>(f r).bind λv r=>(gx f n r).bind λvs r=>.ok (v::vs) r
def ml (lo:Nat)(hi:Option Nat)(ver:Int):Bool:=match hi with|some h=>decide ((lo:Int)<=ver)&&decide (ver<=(h:Int))|none=>decide (lo=0) || decide ((lo:Int)<=ver)
def eM (nul:Option Nat)(ver:Int):Bool:=match nul with|some m=>decide (m=0) || decide ((m:Int)<=ver)|none=>false
def gQ (nul:Option Nat)(ver:Int):Bool:=match nul with|some m=>decide ((m:Int)<=ver)|none=>false
def cQ:eH->PF
 | .bool=>.bool|.i8=>.i8|.i16=>.i16|.u16=>.u16|.i32=>.i32|.i64=>.i64|.uuid=>.uuid
def ej (nul fx:Bool):PF:=if nul then(if fx then .cnstr else .nstr) else(if fx then .cstr else .str)
def dm (nul fx:Bool):PF:=if nul then(if fx then .cnbytes else .nbytes) else(if fx then .cbytes else .bytes)
def tO:Bs:=List.replicate 16 0
mutual
def du (df:Int):Ty->V
 | .prim .uuid=>.s tO
 | .prim _=>.n df
 | .str none=>.s []
 | .str (some _)=>.nul
 | .bytes _=>.nul
 | .list _ _ _=>.nul
 | .struct none _ fs=>.st (dfFds fs) []
 | .struct (some _) _ _=>.nul
def dfFds:Fds->List V
 | .nil=>[]
 | .cons _ _ _ df _ ty r=>du df ty::dfFds r
end
def Fds.knows:Fds->Nat->Bool
 | .nil,_=>false
 | .cons _ _ t _ _ _ r,k=>t==some k || r.knows k
def Fds.tagged:Fds->Bool
 | .nil=>false
 | .cons _ _ t _ _ _ r=>t.isSome || r.tagged
def ck (f:Nat->Option (List V->RS->dV (List V))):Nat->List V->List (Nat × Bs)->RS->dV V
 | 0,vs,t,r=>.ok (.st vs t) r
 | n+1,vs,t,r=>
  let k:=bZ r
  let z:=bZ k.2
  let s:=cd z.1 z.2
  match f k.1 with
  | none=>ck f n vs (dM k.1 s.1.octets t) s.2
  | some g=>
   match g vs ⟨s.1.octets,false,s.1.isNul⟩ with
   | .ok vs' r'=>if r'.bad then .err else ck f n vs' t s.2
   | .err=>.err
   | .stuck=>.stuck
def l5 (l:Int)(esz:Nat):Bool:=decide (l*(24*esz+8)<=70368744177664)
def dS (fx tagged:Bool)(fields:RS->dV (List V))(tag:Nat->Option (List V->RS->dV (List V)))(r:RS):dV V:=
 (fields r).bind λvs r=>
  if !fx then .ok (.st vs []) r
  else if tagged then ck tag (bZ r).1 vs [] (bZ r).2
  else .ok (.st vs (e9 (bZ r).1 [] (bZ r).2).1) (e9 (bZ r).1 [] (bZ r).2).2
mutual
def dy (fx:Bool)(ver:Int):Ty->V->RS->dV V
 | .prim p,_,r=>.ok ((cQ p).run r).1 ((cQ p).run r).2
 | .str nul,_,r=>.ok ((ej (eM nul ver) fx).run r).1 ((ej (eM nul ver) fx).run r).2
 | .bytes nul,_,r=>.ok ((dm (eM nul ver) fx).run r).1 ((dm (eM nul ver) fx).run r).2
 | .list nul esz e,old,r=>
  if !old.isNul then .stuck else
  if(cW fx r).2.bad then .err else
  if !l5 (cW fx r).1 esz then .stuck else
  if(cW fx r).1<=0 then .ok (if nul.isSome&&(decide ((cW fx r).1=0) || !gQ nul ver)then .l []else .nul) (cW fx r).2
  else(gx (dy fx ver e (du 0 e)) (cW fx r).1.toNat (cW fx r).2).bind λvs r=>.ok (.l vs) r
 | .struct none _ fs,_,r=>dS fx fs.tagged (rdFds fx ver fs) (rdTag fx ver fs) r
 | .struct (some _) _ fs,old,r=>
  if !old.isNul then .stuck else
  if(rI 1 r).1=-1 \/ (rI 1 r).2.bad=true then .ok .nul (rI 1 r).2 else dS fx fs.tagged (rdFds fx ver fs) (rdTag fx ver fs) (rI 1 r).2
def rdFds (fx:Bool)(ver:Int):Fds->RS->dV (List V)
 | .nil,r=>.ok [] r
 | .cons lo hi tag df _ ty rest,r=>
  if tag.isNone&&ml lo hi ver then
   (dy fx ver ty (du df ty) r).bind λv r=>(rdFds fx ver rest r).bind λvs r=>.ok (v::vs) r
  else(rdFds fx ver rest r).bind λvs r=>.ok (du df ty::vs) r
def rdTag (fx:Bool)(ver:Int):Fds->Nat->Option (List V->RS->dV (List V))
 | .nil,_=>none
 | .cons _ _ tag _ _ ty rest,k=>
  if tag==some k then some λvs r=>(dy fx ver ty (vs.headD .nul) r).bind λv r=>.ok (v::vs.tail) r
  else(rdTag fx ver rest k).map λg vs r=>(g vs.tail r).bind λvs' r=>.ok (vs.headD .nul::vs') r
end
def f9 (n:Nat):Nat:=n%4294967296
def mP (fx:Bool)(l:Bs):Bs:=if fx then uvar (f9 (l.length+1))++l else be 2 l.length++l
def kD (fx:Bool)(l:Bs):Bs:=if fx then uvar (f9 (l.length+1))++l else be 4 l.length++l
def eJ (fx:Bool)(k:Nat):Bs:=if fx then uvar 0 else be k (-1)
def kf (fx:Bool)(n:Nat):Bs:=if fx then uvar (f9 (n+1))else be 4 n
def PF.wr:PF->V->Bs
 | .bool,v=>[if v.num=0 then 0 else 1]
 | .i8,v=>be 1 v.num
 | .i16,v=>be 2 v.num
 | .u16,v=>be 2 v.num
 | .i32,v=>be 4 v.num
 | .i64,v=>be 8 v.num
 | .uuid,v=>v.octets
 | .str,v=>mP false v.octets
 | .cstr,v=>mP true v.octets
 | .nstr,v=>if v.isNul then eJ false 2 else mP false v.octets
 | .cnstr,v=>if v.isNul then eJ true 2 else mP true v.octets
 | .bytes,v=>kD false v.octets
 | .cbytes,v=>kD true v.octets
 | .nbytes,v=>if v.isNul then eJ false 4 else kD false v.octets
 | .cnbytes,v=>if v.isNul then eJ true 4 else kD true v.octets
def eN (fx:Bool)(ver:Int):Ty->PF
 | .prim p=>cQ p
 | .str nul=>ej (eM nul ver) fx
 | .bytes nul=>dm nul.isSome fx
 | _=>.bool
def eZ (p:Nat × Bs):Bs:=uvar p.1++(uvar (f9 p.2.length)++p.2)
def cM (t:List (Nat × Bs)):Bs:=(t.map eZ).flatten
def d7 (fx:Bool)(t:List (Nat × Bs)):Bs:=if fx then uvar (f9 t.length)++cM t else[]
def ig (fx:Bool)(tg t:List (Nat × Bs)):Bs:=if fx then uvar (f9 (tg.length+t.length))++(cM tg++cM t) else[]
theorem nQ (fx:Bool)(t:List (Nat × Bs)):ig fx [] t=d7 fx t:=by simp[ig,d7,cM]
def i7:Ty->Int->V->Bool
 | .prim .uuid,_,v=>v.octets.all λb=>b==0
 | .prim _,df,v=>v.num==df
 | .str none,_,v=>v.octets.isEmpty
 | .str (some _),_,v=>v.isNul
 | .bytes _,_,v=>v.isNul
 | _,_,_=>false
def jY:Fds->List V->Bool
 | .nil,_=>true
 | .cons _ _ _ df _ ty r,vs=>i7 ty df (vs.headD .nul)&&jY r vs.tail
def ku:Ty->Int->V->Bool
 | .list _ _ _,_,v=>v.list.isEmpty
 | .struct none _ fs,_,v=>jY fs v.fields&&v.tags.isEmpty
 | .struct (some _) _ _,_,v=>v.isNul
 | ty,df,v=>i7 ty df v
def kd (f:V->Bs)(l:List V):Bs:=(l.map f).flatten
mutual
def dp (fx:Bool)(ver:Int):Ty->V->Bs
 | .prim p,v=>(eN fx ver (.prim p)).wr v
 | .str nul,v=>(eN fx ver (.str nul)).wr v
 | .bytes nul,v=>(eN fx ver (.bytes nul)).wr v
 | .list nul _ e,v=>(if nul.isSome&&v.isNul then eJ fx 4 else kf fx v.list.length)++kd (dp fx ver e) v.list
 | .struct none _ fs,v=>wrFds fx ver fs v.fields++ig fx (wrTgd fx ver fs v.fields) v.tags
 | .struct (some _) _ fs,v=>if v.isNul then[255]else 1::(wrFds fx ver fs v.fields++ig fx (wrTgd fx ver fs v.fields) v.tags)
def wrFds (fx:Bool)(ver:Int):Fds->List V->Bs
 | .nil,_=>[]
 | .cons lo hi tag _ _ ty r,vs=>(if tag.isNone&&ml lo hi ver then dp fx ver ty (vs.headD .nul) else[])++wrFds fx ver r vs.tail
def wrTgd (fx:Bool)(ver:Int):Fds->List V->List (Nat × Bs)
 | .nil,_=>[]
 | .cons _ _ tag df _ ty r,vs=>(match tag with|some k=>if ku ty df (vs.headD .nul) then[] else[(k,dp fx ver ty (vs.headD .nul))]|none=>[])++wrTgd fx ver r vs.tail
end
theorem jG (fx:Bool)(ver:Int):∀ (fs:Fds) (vs:List V),fs.tagged=false->wrTgd fx ver fs vs=[]
 | .nil,_,_=>by simp only[wrTgd]
 | .cons _ _ tag _ _ _ r,vs,h=>by
  simp only[Fds.tagged,Bool.or_eq_false_iff]at h
  cases tag with
  | some _=>cases h.1
  | none=>simp only[wrTgd,jG fx ver r vs.tail h.2,aL]
def iJ (kept hf:Bool)(flex:Nat)(fs:Fds)(ver:Int)(v:V):Bs:=
 (if kept then be 2 ver else[])++(wrFds (hf&&decide ((flex:Int)<=ver)) ver fs v.fields++ig (hf&&decide ((flex:Int)<=ver)) (wrTgd (hf&&decide ((flex:Int)<=ver)) ver fs v.fields) v.tags)
def jp (o:Oper):List Nat:=o.op.operands.toList.filterMap fun|.tmp t=>some t|_=>none
def zw (o:Oper):Bool:=
 match o.op with
 | .move _|.pick ..|.build ..|.load ..|.nilCheck _|.binOp ..|.unOp ..|.convert ..|.slice ..|.fieldAddr ..|.field ..|.indexAddr ..|.index ..|.extract ..=>false
 | .call c=>match c.callee with|.builtin .len=>false|_=>true
 | _=>true
def fo (ops:List Oper):List Bool:=
 ops.foldl (λ(acc:List Bool) o=>acc++[zw o || (acc.zip ops).any λp=>p.1&&(match p.2.dst with|some d=>(jp o).contains d|none=>false)]) []
def kT (o:Oper)(j:Nat):Bool:=o.after.any λe=>Region.binds .any e&&e.on==j
def uP (o:Oper):Bool:=match o.op with|.select ..=>true|_=>false
def ya (ops:List Oper)(loud:List Bool):Bool:=
 (ops.all λo=>o.guard.isNone&&!uP o)&&loud.length==ops.length &&
 ((List.range ops.length).all λi=>
  match ops[i]?,loud[i]? with
  | some o,some l=>
   (l || (match o.dst with|some d=>!(jp o).contains d|none=>false))&&(o.after.all λe=>!Region.binds .any e || decide (e.on<i)) &&
   ((List.range ops.length).all λj=>
    match ops[j]?,loud[j]? with
    | some p,some m=>
     decide (i=j) ||
     ((match p.dst with
      | some d=>
       (!(jp o).contains d || (!m&&decide (j<i)&&kT o j) || (m&&(l || kT p i))) &&
       (l || o.dst != some d)
      | none=>true) &&
     (!(l&&m&&decide (j<i)) || kT o j || (List.range ops.length).any λk=>decide (j<k)&&decide (k<i)&&(loud[k]?).getD false))
    | _,_=>false)
  | _,_=>false)
section
variable {P:Program}
def iR (P:Program)(I:World->Prop):List Oper->Act->(Act->Prop)->Prop
 | [],a,K=>K a
 | o::r,a,K=>∃ v,(∀ w,I w->(execOp a.eval o).run P w=.ok (.value v) w)/\iR P I r (a.put o.dst v) K
def gF (P:Program)(I:World->Prop)(Q:Exit->Act->World->Prop):List Oper->Act->World->Prop
 | [],a,w=>I w/\Q .normal a w
 | o::r,a,w=>I w/\o.wp P a w (gF P I Q r) (λ_ _ _=>False)
theorem E1 {I:World->Prop}{Q:Exit->Act->World->Prop}{l:List Oper}{a:Act}{w:World}(h:gF P I Q l a w):I w:=by
 cases l<;>exact h.1
theorem nA (o:Oper)(hs:uP o=false)(a b:Act)(h:∀ t∈jp o,a.tmps.getD t undef=b.tmps.getD t undef):execOp a.eval o=execOp b.eval o:=by
 refine execOp_congr o (λcs bl hc=>by simp[uP,hc]at hs) λx hx=>?_
 cases x with
 | tmp t=>exact h t (List.mem_filterMap.2 ⟨.tmp t,by simpa using hx,rfl⟩)
 | _=>rfl
theorem iB (a:Act)(d:Option Nat)(v:Value)(t:Nat)(h:d≠some t):(a.put d v).tmps.getD t undef=a.tmps.getD t undef:=by
 cases d with
 | none=>rfl
 | some d=>
  have:d≠t:=λe=>h (by rw[e])
  simp[Act.put,Array.getElem?_setIfInBounds_ne this]
theorem ra (a b:Act)(Jc:a.tmps.size=b.tmps.size)(d:Option Nat)(v:Value)(t:Nat)(h:d=some t \/ a.tmps.getD t undef=b.tmps.getD t undef) :
  (a.put d v).tmps.getD t undef=(b.put d v).tmps.getD t undef:=by
 by_cases hd:d=some t
 ·subst hd
  simp[Act.put,ay,Jc]
 ·rw[iB a d v t hd,iB b d v t hd]
  exact h.resolve_left hd
theorem pk {o:Oper}(hs:uP o=false){a b:Act}{w:World}{K K':Act->World->Prop}{Q':Exit->Act->World->Prop}(h:∀ t∈jp o,a.tmps.getD t undef=b.tmps.getD t undef)
  (hd:a.defers=b.defers) (hK:∀ ds v w',K (({ a with defers:=ds }:Act).put o.dst v) w'->K' (({ b with defers:=ds }:Act).put o.dst v) w')
  (hh:o.wp P a w K (λ_ _ _=>False)):o.wp P b w K' Q':=by
 unfold Oper.wp at *
 rw[<- nA o hs a b h]
 generalize(execOp a.eval o).run P w=r at *
 have PL:∀ v w',K (a.put o.dst v) w'->K' (b.put o.dst v) w':=λv w' hk=>by
  have:=hK a.defers v w' hk
  rw[hd]at this
  exact this
 cases r with
 | ok n w'=>
  cases n with
  | value v=>exact PL v w' hh
  | skip=>exact PL undef w' hh
  | enter f args=>
   refine Calls.mono hh λe w'' he=>?_
   cases e with
   | returned v=>exact PL v w'' he
   | panicked c=>exact he.elim
   | outgrown=>obtain⟨_,_,hf⟩:=he;exact hf.elim
  | row row args=>exact Rows.mono hh λv w'' he=>PL v w'' he
  | defer d=>
   have:=hK (d::a.defers) undef w' hh
   rw[hd]at this
   exact this
  | _=>exact hh.elim
 | halt x w'=>
  cases x<;>exact hh.elim
structure It (ops:List Oper)(loud:List Bool)(a0:Act)(af:Act)(n:Nat)(listed:Array Bool)(a:Act):Prop where
 size:listed.size=ops.length
 asz:a.tmps.size=af.tmps.size
 defers:a.defers=af.defers
 chain:∀ i:Nat,loud[i]?=some true->(listed.getD i false=true ↔ i<n)
 closed:∀ (i:Nat) o,ops[i]?=some o->listed.getD i false=true->∀ j,kT o j=true->listed.getD j false=true
 agree:∀ t,(∀ (i:Nat) o,ops[i]?=some o->loud[i]?=some false->listed.getD i false=false->o.dst≠some t)->a.tmps.getD t undef=af.tmps.getD t undef
 orig:∀ t,(∀ (i:Nat) o,ops[i]?=some o->listed.getD i false=true->o.dst≠some t)->a.tmps.getD t undef=a0.tmps.getD t undef
structure xg (ops:List Oper)(loud:List Bool):Prop where
 len:loud.length=ops.length
 guard:∀ (i:Nat) (o:Oper),ops[i]?=some o->o.guard=none/\uP o=false
 hasDst:∀ (i:Nat) (o:Oper),ops[i]?=some o->loud[i]?=some false->∃ d,o.dst=some d/\d∉jp o
 lower:∀ (i:Nat) (o:Oper),ops[i]?=some o->∀ j,kT o j=true->j<i
 reads:∀ (i:Nat) (o:Oper) (j:Nat) (p:Oper) (d:Nat),ops[i]?=some o->ops[j]?=some p->i≠j->p.dst=some d->d∈jp o ->
  (loud[j]?=some false/\j<i/\kT o j=true) \/ (loud[j]?=some true/\(loud[i]?=some true \/ kT p i=true))
 apart:∀ (i:Nat) (o:Oper) (j:Nat) (p:Oper) (d:Nat),ops[i]?=some o->ops[j]?=some p->i≠j->p.dst=some d->loud[i]?=some false->o.dst≠some d
 chain:∀ (i:Nat) (o:Oper) (j:Nat),ops[i]?=some o->loud[i]?=some true->loud[j]?=some true->j<i->kT o j=true \/ ∃ k:Nat,j<k/\k<i/\loud[k]?=some true
theorem Ch {ops:List Oper}{loud:List Bool}(h:ya ops loud=true):xg ops loud:=by
 simp only[ya,ac,aT,List.mem_range,ar]at h
 obtain⟨⟨hg,hl⟩,hh⟩:=h
 have key:∀ (i:Nat) (o:Oper),ops[i]?=some o->∃ l,loud[i]?=some l:=by
  intro i o ho
  have:i<loud.length:=by rw[hl];exact(ah.1 ho).1
  exact⟨_,aq this⟩
 have row:∀ (i:Nat) (o:Oper) (l:Bool),ops[i]?=some o->loud[i]?=some l->_:=λi o l ho Kh=>by
  have h1:=hh i (ah.1 ho).1
  rw[ho,Kh]at h1
  simp only[ac,aT,List.mem_range]at h1
  exact h1
 have cell:∀ (i:Nat) (o:Oper) (l:Bool) (j:Nat) (p:Oper) (m:Bool),ops[i]?=some o->loud[i]?=some l->ops[j]?=some p->loud[j]?=some m->_:=λi o l j p m ho Kh hp hm=>by
  have h1:=(row i o l ho Kh).2 j (ah.1 hp).1
  rw[hp,hm]at h1
  exact h1
 refine⟨hl,λi o ho=>?_,λi o ho Kh=>?_,λi o ho j hw=>?_,λi o j p d ho hp K4 hd hr=>?_,λi o j p d ho hp K4 hd Kh=>?_,λi o j ho Kh K9 Qm=>?_⟩
 ·have:=hg o (bc ho)
  simpa[Option.isNone_iff_eq_none]using this
 ·have:=(row i o false ho Kh).1.1
  cases hd:o.dst with
  | none=>rw[hd]at this;simp at this
  | some d=>rw[hd]at this;exact⟨d,rfl,by simpa using this⟩
 ·obtain⟨l,Kh⟩:=key i o ho
  have h1:=(row i o l ho Kh).1.2
  unfold kT at hw
  obtain⟨e,he,hb⟩:=Array.any_eq_true'.1 hw
  simp only[ac,ar]at hb
  have h2:=Array.all_eq_true'.1 h1 e he
  simp only[hb.1,aU,bj,ai]at h2
  omega
 ·obtain⟨l,Kh⟩:=key i o ho
  obtain⟨m,P8⟩:=key j p hp
  have h1:=cell i o l j p m ho Kh hp P8
  simp only[hd,K4,decide_false,bj,ac,aH,List.contains_eq_mem,hr,decide_true,aU,Bool.not_eq_true',ai]at h1
  rcases h1.1.1 with⟨⟨h2,h3⟩,h4⟩|⟨h2,h3⟩
  ·subst h2;exact .inl ⟨P8,h3,h4⟩
  ·subst h2
   refine .inr ⟨P8,?_⟩
   rcases h3 with h3|h3
   ·subst h3;exact .inl Kh
   ·exact .inr h3
 ·obtain⟨m,P8⟩:=key j p hp
  have h1:=cell i o false j p m ho Kh hp P8
  simp only[hd,K4,decide_false,bj,ac]at h1
  simpa using h1.1.2
 ·have K6:j<ops.length:=by rw[<- hl];exact(ah.1 K9).1
  have hp:ops[j]?=some ops[j]:=aq K6
  have h1:=cell i o true j _ true ho Kh hp K9
  have K4:i≠j:=by omega
  simp only[K4,decide_false,bj,ac,Qm,decide_true,aU,aH,Bool.true_and]at h1
  rcases h1.2 with h2|h2
  ·exact .inl h2
  ·obtain⟨k,hk,IV⟩:=List.any_eq_true.1 h2
   simp only[ac,ai]at IV
   refine .inr ⟨k,IV.1.1,IV.1.2,?_⟩
   cases hc:loud[k]? with
   | none=>rw[hc]at IV;simp at IV
   | some x=>rw[hc]at IV;simp at IV;rw[IV.2]
def FO (P:Program)(I:World->Prop)(ops:List Oper)(loud:List Bool)(a0 af:Act):Prop:=
 ∀ (i:Nat) (o:Oper),ops[i]?=some o->loud[i]?=some false->∃ v,(∀ b:Act,b.tmps.size=af.tmps.size->∀ d,o.dst=some d->(b.put o.dst v).tmps.getD d undef=af.tmps.getD d undef) /\
  ∀ w,I w->∀ b:Act,(∀ t∈jp o,(∃ (j:Nat) (p:Oper),ops[j]?=some p/\loud[j]?=some false/\p.dst=some t)->b.tmps.getD t undef=af.tmps.getD t undef) ->
   (∀ t∈jp o,(¬ ∃ (j:Nat) (p:Oper),ops[j]?=some p/\loud[j]?=some false/\p.dst=some t)->b.tmps.getD t undef=a0.tmps.getD t undef)->(execOp b.eval o).run P w=.ok (.value v) w
def fu:List Oper->List Bool->List Oper
 | o::r,l::m=>if l then fu r m else o::fu r m
 | _,_=>[]
def dQ:List Oper->List Bool->List Oper
 | o::r,l::m=>if l then o::dQ r m else dQ r m
 | _,_=>[]
theorem xc {I:World->Prop}{ops:List Oper}{loud:List Bool}(hd:xg ops loud)(a0:Act)(K:Act->Prop):∀ (r:List Oper) (m:List Bool) (k:Nat) (a:Act),r.length=m.length ->
  (∀ i,r[i]?=ops[k+i]?)->(∀ i,m[i]?=loud[k+i]?)->(∀ t,(∀ (j:Nat) (p:Oper),j<k->ops[j]?=some p->loud[j]?=some false->p.dst≠some t)->a.tmps.getD t undef=a0.tmps.getD t undef) ->
  iR P I (fu r m) a K ->
  ∃ af,K af/\af.tmps.size=a.tmps.size/\af.defers=a.defers/\(∀ t,(∀ (j:Nat) (p:Oper),k<=j->ops[j]?=some p->loud[j]?=some false->p.dst≠some t)->af.tmps.getD t undef=a.tmps.getD t undef) /\
   (∀ (i:Nat) (o:Oper),k<=i->ops[i]?=some o->loud[i]?=some false->∃ v,(∀ b:Act,b.tmps.size=af.tmps.size->∀ d,o.dst=some d->(b.put o.dst v).tmps.getD d undef=af.tmps.getD d undef) /\
    ∀ w,I w->∀ b:Act,(∀ t∈jp o,(∃ (j:Nat) (p:Oper),ops[j]?=some p/\loud[j]?=some false/\p.dst=some t)->b.tmps.getD t undef=af.tmps.getD t undef) ->
     (∀ t∈jp o,(¬ ∃ (j:Nat) (p:Oper),ops[j]?=some p/\loud[j]?=some false/\p.dst=some t)->b.tmps.getD t undef=a0.tmps.getD t undef)->(execOp b.eval o).run P w=.ok (.value v) w)
 | [],m,k,a,hl,hr,_,_,h=>by
  obtain rfl:m=[]:=by cases m;rfl;simp at hl
  refine⟨a,h,rfl,rfl,λ_ _=>rfl,λi o hi ho=>?_⟩
  have:=hr (i-k)
  rw[show k+(i-k)=i by omega,ho]at this
  simp at this
 | o::r,l::m,k,a,hl,hr,hm,ha,h=>by
  have ho:ops[k]?=some o:=by have:=hr 0;simpa using this.symm
  have T7:loud[k]?=some l:=by have:=hm 0;simpa using this.symm
  have Sz:∀ i,r[i]?=ops[k+1+i]?:=λi=>by have:=hr (i+1);simp only[List.getElem?_cons_succ]at this;rw[this];congr 1;omega
  have S5:∀ i,m[i]?=loud[k+1+i]?:=λi=>by have:=hm (i+1);simp only[List.getElem?_cons_succ]at this;rw[this];congr 1;omega
  cases l with
  | true=>
   simp only[fu,aw]at h
   obtain⟨af,h1,h2,h3,h4,h5⟩:=xc hd a0 K r m (k+1) a (by simpa using hl) Sz S5 (λt ht=>ha t λj p hj hp K9=>ht j p aa hp K9) h
   refine⟨af,h1,h2,h3,λt ht=>h4 t λj p hj=>ht j p aa,λi o' hi S1 Qj=>h5 i o' ?_ S1 Qj⟩
   rcases bm k i with hk|hk
   ·exact hk
   ·obtain rfl:i=k:=by omega
    rw[T7]at Qj;cases Qj
  | false=>
   simp only[fu]at h
   obtain⟨v,hv,h⟩:=h
   obtain⟨d,KJ,OU⟩:=hd.hasDst k o ho T7
   obtain⟨af,h1,h2,h3,h4,h5⟩:=xc hd a0 K r m (k+1) (a.put o.dst v) (by simpa using hl) Sz S5 (λt ht=>by
    rw[iB _ _ _ _ (ht k o aa ho T7)]
    exact ha t λj p hj hp K9=>ht j p aa hp K9) h
   have Jc:(a.put o.dst v).tmps.size=a.tmps.size:=by rw[KJ];simp[Act.put]
   have J3:(a.put o.dst v).defers=a.defers:=by rw[KJ];rfl
   have RA:∀ (j:Nat) (p:Oper),k+1<=j->ops[j]?=some p->loud[j]?=some false->p.dst≠some d:=λj p hj hp K9 Mz=>
    hd.apart j p k o d hp ho aa KJ K9 Mz
   refine⟨af,h1,h2.trans Jc,h3.trans J3,λt ht=>?_,λi o' hi S1 Qj=>?_⟩
   ·rw[h4 t λj p hj=>ht j p aa,iB _ _ _ _ (ht k o (ae _) ho T7)]
   ·rcases bm k i with hk|hk
    ·exact h5 i o' hk S1 Qj
    ·obtain rfl:i=k:=by omega
     obtain rfl:o'=o:=au (S1.symm.trans ho)
     refine⟨v,λb hb d' hd'=>?_,λw hI b J2 JH=>?_⟩
     ·obtain rfl:d'=d:=au (hd'.symm.trans KJ)
      rw[h4 d' RA]
      exact ra b a (by rw[hb,h2,Jc]) o'.dst v d' (.inl KJ)
     ·rw[<- hv w hI]
      congr 1
      refine nA o' (hd.guard i o' ho).2 b a λt ht=>?_
      by_cases LY:∃ (j:Nat) (p:Oper),ops[j]?=some p/\loud[j]?=some false/\p.dst=some t
      ·rw[J2 t ht LY]
       obtain⟨j,p,hp,K9,Mz⟩:=LY
       by_cases K4:i=j
       ·subst K4
        obtain rfl:p=o':=au (hp.symm.trans ho)
        obtain rfl:d=t:=au (KJ.symm.trans Mz)
        exact absurd ht OU
       ·rcases hd.reads i o' j p t ho hp K4 Mz ht with⟨_,Qm,_⟩|⟨IU,_⟩
        ·rw[h4 t λj' p' Qn Jx hlj' hpd'=>?_]
         ·rw[iB _ _ _ _ (λe=>?_)]
          exact hd.apart i o' j p t ho hp K4 Mz T7 e
         ·have TM:j'≠j:=by omega
          exact hd.apart j' p' j p t Jx hp TM Mz hlj' hpd'
        ·rw[K9]at IU;cases IU
      ·rw[JH t ht LY]
       exact(ha t λj p hj hp K9 Mz=>LY ⟨j,p,hp,K9,Mz⟩).symm
 | _::_,[],_,_,hl,_,_,_,_=>by simp at hl
def Gc (n:Nat)(listed:Array Bool):Nat:=(List.range n).countP λi=>!listed.getD i true
theorem xv {n i:Nat}{listed:Array Bool}(hi:i<n)(hs:listed.size=n)(h:listed.getD i true=false):Gc n (listed.setIfInBounds i true)<Gc n listed:=by
 unfold Gc
 have key:∀ m,m<=n->(List.range m).countP (λj=>!(listed.setIfInBounds i true).getD j true)+(if i<m then 1 else 0)=(List.range m).countP (λj=>!listed.getD j true):=by
  intro m
  induction m with
  | zero=>intro _;simp
  | succ m ih=>
   intro hm
   rw[List.range_succ,List.countP_append,List.countP_append]
   have:=ih aa
   by_cases e:i=m
   ·subst e
    have e1:(listed.setIfInBounds i true).getD i true=true:=by simp[hs,hi]
    simp only[Nat.lt_irrefl,ak,Nat.add_zero]at this
    simp only[List.countP_cons,List.countP_nil,e1,h,this]
    simp
   ·rw[List.countP_cons,List.countP_cons,getD_set_ne true e]
    by_cases IU:i<m
    ·have:i<m+1:=by omega
     simp_all
     omega
    ·have:¬ i<m+1:=by omega
     simp_all
 have:=key n (ae n)
 rw[ax hi]at this
 omega
theorem ns {ops:List Oper}{loud:List Bool}(hl:loud.length=ops.length):∀ (n:Nat),(∃ i o,n<=i/\ops[i]?=some o/\loud[i]?=some true/\(∀ j,n<=j->j<i->loud[j]?=some false) /\
   dQ (ops.drop n) (loud.drop n)=o::dQ (ops.drop (i+1)) (loud.drop (i+1))) \/
  (dQ (ops.drop n) (loud.drop n)=[]/\∀ j,n<=j->loud[j]?≠some true):=by
 intro n
 generalize hd:ops.length-n=d
 induction d generalizing n with
 | zero=>
  right
  have h1:ops.drop n=[]:=List.drop_eq_nil_of_le aa
  refine⟨by rw[h1];simp[dQ],λj hj=>?_⟩
  rw[List.getElem?_eq_none aa]
  simp
 | succ d ih=>
  have hn:n<ops.length:=by omega
  have J8:n<loud.length:=by omega
  rw[aZ hn,aZ J8]
  have ho:ops[n]?=some ops[n]:=aq hn
  have Kh:loud[n]?=some loud[n]:=aq J8
  cases hc:loud[n] with
  | true=>
   left
   refine⟨n,ops[n],ae _,ho,by rw[Kh,hc],λj h1 h2=>by omega,?_⟩
   simp[dQ]
  | false=>
   simp only[dQ]
   rcases ih (n+1) aa with⟨i,o,h1,h2,h3,h4,h5⟩|⟨h1,h2⟩
   ·left
    refine⟨i,o,by omega,h2,h3,λj hj Qm=>?_,h5⟩
    by_cases e:j=n
    ·subst e;rw[Kh,hc]
    ·exact h4 j aa Qm
   ·right
    refine⟨h1,λj hj=>?_⟩
    by_cases e:j=n
    ·subst e;rw[Kh,hc];simp
    ·exact h2 j aa
theorem Cg {I:World->Prop}{Q:Exit->Act->World->Prop}{ops:List Oper}{loud:List Bool}(hd:xg ops loud){a0 af0:Act}(hF:FO P I ops loud a0 af0) :
  ∀ (fuel:Nat) (listed:Array Bool) (a af:Act) (w:World) (n:Nat),Gc ops.length listed<=fuel->It ops loud a0 af n listed a->af.tmps.size=af0.tmps.size ->
   (∀ (i:Nat) (o:Oper) (d:Nat),ops[i]?=some o->loud[i]?=some false->o.dst=some d->af.tmps.getD d undef=af0.tmps.getD d undef) ->
   gF P I Q (dQ (ops.drop n) (loud.drop n)) af w->wpAny P .any ops.toArray Q fuel listed a w:=by
 have done:∀ (listed:Array Bool) (a af:Act) (w:World) (n:Nat),It ops loud a0 af n listed a->gF P I Q (dQ (ops.drop n) (loud.drop n)) af w->Region.ready .any ops.toArray listed=[]->Q .normal a w:=by
  intro listed a af w n inv hw hr
  have all:∀ i,i<ops.length->listed.getD i false=true:=by
   intro i
   induction i using Nat.strongRecOn with
   | _ i ih=>
    intro hi
    cases hc:listed.getD i false with
    | true=>rfl
    | false=>
     exfalso
     have ho:ops[i]?=some ops[i]:=aq hi
     have:i∈Region.ready .any ops.toArray listed:=by
      rw[mem_ready]
      refine⟨getD_in (by rw[inv.size];exact hi) hc,ops[i],by simp,λe he hb=>?_⟩
      have IU:=hd.lower i _ ho e.on (by unfold kT;exact Array.any_eq_true'.2 ⟨e,he,by simp[hb]⟩)
      exact ih e.on IU aa
     rw[hr]at this
     cases this
  have JR:dQ (ops.drop n) (loud.drop n)=[]:=by
   rcases ns hd.len n with⟨i,o,h1,h2,h3,_⟩|⟨h1,_⟩
   ·have:=(inv.chain i h3).1 (all i (ah.1 h2).1)
    omega
   ·exact h1
  rw[JR]at hw
  have e:a=af:=by
   obtain⟨t1,d1⟩:=a
   obtain⟨t2,d2⟩:=af
   have e1:d1=d2:=inv.defers
   have e2:t1=t2:=by
    apply Array.ext inv.asz
    intro i h1 h2
    have:=inv.agree i (λj o ho _ hu=>by rw[all j (ah.1 ho).1]at hu;cases hu)
    simpa[h1,h2]using this
   rw[e1,e2]
  rw[e]
  exact hw.2
 intro fuel
 induction fuel with
 | zero=>
  intro listed a af w n hu inv _ _ hw
  have hr:Region.ready .any ops.toArray listed=[]:=by
   cases hr:Region.ready .any ops.toArray listed with
   | nil=>rfl
   | cons i r=>
    have hi:i∈Region.ready .any ops.toArray listed:=by rw[hr];exact aB
    obtain⟨h1,o,ho,_⟩:=mem_ready.1 hi
    have:=xv (n:=ops.length) (ah.1 (by simpa using ho:ops[i]?=some o)).1 inv.size h1
    omega
  exact⟨hr,done listed a af w n inv hw hr⟩
 | succ fuel ih=>
  intro listed a af w n hu inv Jc hfix hw
  refine⟨done listed a af w n inv hw,λi hi=>?_⟩
  obtain⟨Yz,o,YG,Mq⟩:=mem_ready.1 hi
  have ho:ops[i]?=some o:=by simpa using YG
  have Pl:i<ops.length:=(ah.1 ho).1
  have IU:i<loud.length:=by rw[hd.len];exact Pl
  have Oh:=xv (n:=ops.length) Pl inv.size Yz
  have hun':=getD_both Yz
  have Ng:∀ j,kT o j=true->listed.getD j false=true:=by
   intro j hj
   unfold kT at hj
   obtain⟨e,he,hb⟩:=Array.any_eq_true'.1 hj
   simp only[ac,ar]at hb
   rw[<- hb.2]
   exact Mq e he hb.1
  have Ks:∀ j,(listed.setIfInBounds i true).getD j false=true->j=i \/ listed.getD j false=true:=by
   intro j hj
   by_cases e:i=j
   ·exact .inl e.symm
   ·rw[getD_set_ne false e]at hj;exact .inr hj
  have OT:(listed.setIfInBounds i true).getD i false=true:=by
   have:i<listed.size:=by rw[inv.size];exact Pl
   simp[this]
  unfold wpOp
  rw[YG]
  simp only
  rw[ax (by simp[Region.wanted,(hd.guard i o ho).1])]
  refine .inl ?_
  cases Kh:loud[i] with
  | false=>
   have Lr:loud[i]?=some false:=by rw[aq IU,Kh]
   obtain⟨v,Lf,Mf⟩:=hF i o ho Lr
   obtain⟨d,KJ,OU⟩:=hd.hasDst i o ho Lr
   have Jl:(execOp a.eval o).run P w=.ok (.value v) w:=by
    refine Mf w (E1 hw) a (λt ht LY=>?_) (λt ht LY=>?_)
    ·obtain⟨j,p,hp,K9,Mz⟩:=LY
     have K4:i≠j:=λe=>by
      subst e
      obtain rfl:p=o:=au (hp.symm.trans ho)
      obtain rfl:d=t:=au (KJ.symm.trans Mz)
      exact OU ht
     rcases hd.reads i o j p t ho hp K4 Mz ht with⟨_,_,VA⟩|⟨Oo,_⟩
     ·have K6:=Ng j VA
      rw[inv.agree t λj' p' Jx hlj' huj' hpd'=>?_]
      ·exact hfix j p t hp K9 Mz
      ·by_cases e:j'=j
       ·subst e;rw[K6]at huj';cases huj'
       ·exact hd.apart j' p' j p t Jx hp e Mz hlj' hpd'
     ·rw[K9]at Oo;cases Oo
    ·refine inv.orig t λj p hp K9 Mz=>?_
     by_cases K4:i=j
     ·subst K4;rw[hun']at K9;cases K9
     ·rcases hd.reads i o j p t ho hp K4 Mz ht with⟨h1,_⟩|⟨Oo,h2⟩
      ·exact LY ⟨j,p,hp,h1,Mz⟩
      ·rcases h2 with h2|h2
       ·rw[Lr]at h2;cases h2
       ·have:=inv.closed j p hp K9 i h2
        rw[hun']at this;cases this
   unfold Oper.wp
   rw[Jl]
   show wpAny P .any ops.toArray Q fuel (listed.setIfInBounds i true) (a.put o.dst v) w
   refine ih _ _ af w n aa ?_ Jc hfix hw
   have Wq:(a.put o.dst v).tmps.size=a.tmps.size:=by rw[KJ];simp[Act.put]
   refine⟨by simp[inv.size],Wq.trans inv.asz,(by rw[KJ];exact inv.defers),λj hj=>?_,λj p hp K9 k hk=>?_,λt ht=>?_,λt ht=>?_⟩
   ·have K4:i≠j:=λe=>by subst e;rw[Lr]at hj;cases hj
    rw[getD_set_ne false K4]
    exact inv.chain j hj
   ·rcases Ks j K9 with e|e
    ·subst e
     obtain rfl:p=o:=au (hp.symm.trans ho)
     exact getD_set_true (Ng k hk)
    ·exact getD_set_true (inv.closed j p hp e k hk)
   ·by_cases e:d=t
    ·subst e
     rw[Lf a (inv.asz.trans Jc) d KJ]
     exact(hfix i o d ho Lr KJ).symm
    ·rw[iB _ _ _ _ (by rw[KJ];simpa using e)]
     refine inv.agree t λj p hp K9 Sy=>?_
     by_cases e2:i=j
     ·subst e2
      obtain rfl:p=o:=au (hp.symm.trans ho)
      rw[KJ];simpa using e
     ·exact ht j p hp K9 (by rw[getD_set_ne false e2];exact Sy)
   ·rw[iB _ _ _ _ (ht i o ho OT)]
    exact inv.orig t λj p hp K9=>ht j p hp (getD_set_true K9)
  | true=>
   have Lr:loud[i]?=some true:=by rw[aq IU,Kh]
   rcases ns hd.len n with⟨k,o',h1,h2,h3,h4,h5⟩|⟨_,h2⟩
   ·-- the next of the chain is this one
    have Tz:n<=i:=by
     rcases bm i n with h|h
     ·have:=(inv.chain i Lr).2 h
      rw[hun']at this;cases this
     ·exact h
    have WP:k=i:=by
     rcases Nat.lt_trichotomy k i with h|h|h
     ·exfalso
      have:∀ (m:Nat),∀ q,i-q=m->k<=q->q<i->loud[q]?=some true->False:=by
       intro m
       induction m using Nat.strongRecOn with
       | _ m ihm=>
        intro q hm hkq hqi hq
        rcases hd.chain i o q ho Lr hq hqi with LS|⟨r,Wn,Tf,Wm⟩
        ·have:=(inv.chain q hq).1 (Ng q LS)
         omega
        ·exact ihm (i-r) aa r rfl aa Tf Wm
      exact this _ k rfl (ae _) h h3
     ·exact h
     ·have:=h4 i Tz h
      rw[Lr]at this;cases this
    subst WP
    obtain rfl:o'=o:=au (h2.symm.trans ho)
    rw[h5]at hw
    refine pk (a:=af) (b:=a) (hd.guard k o' ho).2 (λt ht=>?_) inv.defers.symm (λds v w' hk=>?_) hw.2
    ·refine(inv.agree t λj p hp K9 Sy Mz=>?_).symm
     have K4:k≠j:=λe=>by subst e;rw[Lr]at K9;cases K9
     rcases hd.reads k o' j p t ho hp K4 Mz ht with⟨_,_,VA⟩|⟨Oo,_⟩
     ·rw[Ng j VA]at Sy;cases Sy
     ·rw[K9]at Oo;cases Oo
    ·refine ih _ _ (({ af with defers:=ds }:Act).put o'.dst v) w' (k+1) aa ?_ ?_ (λi' o'' d' MO hli' hd'=>?_) hk
     ·have Vh:∀ (x:Act),(({ x with defers:=ds }:Act).put o'.dst v).tmps.size=x.tmps.size:=λx=>by cases o'.dst<;>simp[Act.put]
      have Mz:∀ (x:Act),(({ x with defers:=ds }:Act).put o'.dst v).defers=ds:=λx=>by cases o'.dst<;>rfl
      refine⟨by simp[inv.size],by rw[Vh,Vh];exact inv.asz,by rw[Mz,Mz],λj hj=>?_,λj p hp K9 q hq=>?_,λt ht=>?_,λt ht=>?_⟩
      ·by_cases e:k=j
       ·subst e;rw[OT];simp
       ·rw[getD_set_ne false e,inv.chain j hj]
        constructor
        ·intro h;omega
        ·intro h
         rcases bm j n with h'|h'
         ·exact h'
         ·have:=h4 j h' aa
          rw[hj]at this;cases this
      ·rcases Ks j K9 with e|e
       ·subst e
        obtain rfl:p=o':=au (hp.symm.trans ho)
        exact getD_set_true (Ng q hq)
       ·exact getD_set_true (inv.closed j p hp e q hq)
      ·refine ra { a with defers:=ds } { af with defers:=ds } inv.asz o'.dst v t ?_
       by_cases e:o'.dst=some t
       ·exact .inl e
       ·refine .inr (inv.agree t λj p hp K9 Sy=>?_)
        have K4:k≠j:=λe=>by subst e;rw[Lr]at K9;cases K9
        exact ht j p hp K9 (by rw[getD_set_ne false K4];exact Sy)
      ·rw[iB _ _ _ _ (ht k o' ho OT)]
       exact inv.orig t λj p hp K9=>ht j p hp (getD_set_true K9)
     ·have:(({ af with defers:=ds }:Act).put o'.dst v).tmps.size=af.tmps.size:=by cases o'.dst<;>simp[Act.put]
      exact this.trans Jc
     ·have K4:i'≠k:=λe=>by subst e;rw[Lr]at hli';cases hli'
      rw[iB _ _ _ _ (λe=>hd.apart i' o'' k o' d' MO ho K4 e hli' hd')]
      exact hfix i' o'' d' MO hli' hd'
   ·exfalso
    have Tz:n<=i:=by
     rcases bm i n with h|h
     ·have:=(inv.chain i Lr).2 h
      rw[hun']at this;cases this
     ·exact h
    exact h2 i Tz Lr
theorem C8 (hm:P.follows .mixedOrders=true){id:Nat}{l:List Oper}{loud:List Bool}(hB:ya l loud=true)(I:World->Prop){Q:Exit->Act->World->Prop}{a:Act}{w:World}
  (h:iR P I (fu l loud) a λaf=>gF P I Q (dQ l loud) af w.drew):(Code.region id l.toArray true).wp P Q a w:=by
 have hd:=Ch hB
 obtain⟨af,h1,h2,h3,h4,h5⟩:=xc hd a _ l loud 0 a hd.len.symm ab ab (λt _=>rfl) h
 refine wp_region_any hm ?_
 refine Cg hd (a0:=a) (af0:=af) (λi o ho hl=>h5 i o (Nat.zero_le _) ho hl) _ _ a af _ 0 ?_ ?_ rfl (λ_ _ _ _ _ _=>rfl) (by simpa using h1)
 ·unfold Gc
  exact am List.countP_le_length ab
 ·refine⟨by simp,h2.symm,h3.symm,λi hi=>?_,λi o _ hl=>?_,λt ht=>?_,λt _=>rfl⟩
  ·rw[getD_replicate_false];simp
  ·rw[getD_replicate_false]at hl;cases hl
  ·exact(h4 t λj p _ hp K9=>ht j p hp K9 (getD_replicate_false _ _)).symm
end
def nOp:Op->Op
 | .call c=>.call { c with argTypes:=match c.callee with|.builtin _=>c.argTypes|_=>#[] }
 | .binOp o t x y _=>.binOp o t x y 0
 | o=>o
def nTy:Op->TypeId->TypeId
 | .call c,t=>match c.callee with|.builtin _=>t|_=>0
 | .next ..,t=>t
 | .go _,t=>t
 | .defer _,t=>t
 | _,_=>0
def fp (o : Oper) : Oper := { dst := o.dst, op := nOp o.op, type := nTy o.op o.type, pos := "", after := #[], guard := o.guard }
theorem jy (ρ:Operand->Value)(o:Oper):execOp ρ (fp o)=execOp ρ o:=by
 obtain⟨dst,op,type,pos,after,guard⟩:=o
 cases op<;>try rfl
 case call c=>
  obtain⟨callee,args,argTypes⟩:=c
  cases callee<;>rfl
theorem kq (o:Oper):(fp o).dst=o.dst:=rfl
theorem wI (P:Program)(o:Oper)(a:Act)(K:Act->World->Prop)(Q:Exit->Act->World->Prop)(r:Result Next) :
  (fp o).upon P a K Q r=o.upon P a K Q r:=by
 cases r with
 | ok x w=>cases x<;>rfl
 | halt h w=>cases h<;>rfl
theorem uG (P:Program)(o:Oper)(a:Act)(w:World)(K:Act->World->Prop)(Q:Exit->Act->World->Prop) :
  (fp o).wp P a w K Q=o.wp P a w K Q:=by
 unfold Oper.wp
 rw[jy,wI]
theorem wJ (P:Program)(o:Oper)(a:Act)(w:World):(fp o).asks P a w=o.asks P a w:=by
 unfold Oper.asks
 rw[jy]
theorem md (ops:Array Oper)(tmps:Array Value):yielded (ops.toList.map fp).toArray tmps=yielded ops tmps:=by
 funext j
 have h:((ops.toList.map fp).toArray[j]?).bind (·.dst)=(ops[j]?).bind (·.dst):=by
  simp only[aQ,aD,Array.getElem?_toList]
  cases ops[j]?<;>rfl
 unfold yielded
 rw[h]
theorem mN (o:Oper)(y:Nat->Option Bool):Region.wanted (fp o) y=Region.wanted o y:=rfl
theorem r8 (P:Program)(ops:Array Oper)(Q:Exit->Act->World->Prop)(l:List Oper) :
  wpList P (ops.toList.map fp).toArray Q (l.map fp)=wpList P ops Q l:=by
 induction l with
 | nil=>rfl
 | cons o r ih=>
  funext a w
  simp only[List.map_cons,wpList,mN,md,uG,wJ,kq,ih]
theorem uw (o:Oper):jp (fp o)=jp o:=by
 obtain⟨dst,op,type,pos,after,guard⟩:=o
 cases op<;>try rfl
theorem xf (o:Oper):zw (fp o)=zw o:=by
 obtain⟨dst,op,type,pos,after,guard⟩:=o
 cases op<;>try rfl
theorem sD (l:List Oper):fo (l.map fp)=fo l:=by
 unfold fo
 rw[List.foldl_map]
 congr 1
 funext acc o
 rw[xf]
 congr 2
 congr 1
 have:acc.zip (l.map fp)=(acc.zip l).map (λp=>(p.1,fp p.2)):=by rw[List.zip_map_right];rfl
 rw[this,List.any_map]
 congr 1
 funext p
 simp only[Function.comp,kq,uw]
theorem mn:∀ (l:List Oper) (m:List Bool),fu (l.map fp) m=(fu l m).map fp
 | [],_=>rfl
 | _::_,[]=>rfl
 | o::r,b::m=>by cases b<;>simp[fu,mn r m]
theorem mj:∀ (l:List Oper) (m:List Bool),dQ (l.map fp) m=(dQ l m).map fp
 | [],_=>rfl
 | _::_,[]=>rfl
 | o::r,b::m=>by cases b<;>simp[dQ,mj r m]
theorem rp (P:Program)(I:World->Prop):∀ (l:List Oper) (a:Act) (K:Act->Prop),iR P I (l.map fp) a K=iR P I l a K
 | [],_,_=>rfl
 | o::r,a,K=>by
  simp only[List.map_cons,iR,jy,kq,rp P I r]
theorem pl (P:Program)(I:World->Prop)(Q:Exit->Act->World->Prop):∀ (l:List Oper),gF P I Q (l.map fp)=gF P I Q l
 | []=>rfl
 | o::r=>by
  funext a w
  simp only[List.map_cons,gF,uG,pl P I Q r]
def wL (d:Bool)(ops:Array Oper):Nat:=if d then(if ya ops.toList (fo ops.toList)then 1 else if Region.lexB .any ops then 2 else 0)else 0
theorem u6 (P:Program)(o:Oper)(a:Act)(C:World->Prop)(K:Act->Prop):(fp o).quiet P a C K=o.quiet P a C K:=by
 unfold Oper.quiet Oper.quietAt
 rw[jy,kq]
theorem me (P:Program)(ops:Array Oper)(C:World->Prop)(Q:Act->Prop):∀ (l:List Oper),wpQuiet P (ops.toList.map fp).toArray C Q (l.map fp)=wpQuiet P ops C Q l
 | []=>rfl
 | o::r=>by
  funext a
  simp only[List.map_cons,wpQuiet,mN,md,u6,kq,me P ops C Q r]
def nCode:Code->Code
 | .region _ ops d=>.region (wL d ops) (ops.toList.map fp).toArray d
 | .seq a b=>.seq (nCode a) (nCode b)
 | .cond c x y=>.cond c (nCode x) (nCode y)
 | .block id c=>.block id (nCode c)
 | .loop c=>.loop (nCode c)
 | .scope c=>.scope (nCode c)
 | .rangeFunc .. => .refuse ""
 | c=>c
inductive cf (P:Program):Code->(Exit->Act->World->Prop)->Act->World->Prop
 | skip {Q:Exit->Act->World->Prop} {a:Act} {w:World}:Q .normal a w->cf P .skip Q a w
 | label {l:Nat} {Q:Exit->Act->World->Prop} {a:Act} {w:World}:Q .normal a w->cf P (.label l) Q a w
 | exit {id:Nat} {Q:Exit->Act->World->Prop} {a:Act} {w:World}:Q (.exit id) a w->cf P (.exit id) Q a w
 | goto {l:Nat} {Q:Exit->Act->World->Prop} {a:Act} {w:World}:Q (.goto l) a w->cf P (.goto l) Q a w
 | ret {Q:Exit->Act->World->Prop} {a:Act} {w:World}:Q .ret a w->cf P .ret Q a w
 | reg {id:Nat} {l:List Oper} {Q:Exit->Act->World->Prop} {a:Act} {w:World}:wpList P l.toArray Q l a w->cf P (.region id l.toArray false) Q a w
 | drw {l:List Oper} {Q:Exit->Act->World->Prop} {a:Act} {w:World} (I:World->Prop) :
   iR P I (fu l (fo l)) a (λaf=>gF P I Q (dQ l (fo l)) af w.drew)->cf P (.region 1 l.toArray true) Q a w
 | drq {l:List Oper} {Q:Exit->Act->World->Prop} {a:Act} {w:World} (C:World->Prop):C w.drew ->
   wpQuiet P l.toArray C (λa'=>∀ w',C w'->Q .normal a' w') l a->cf P (.region 2 l.toArray true) Q a w
 | seq {x y:Code} {Q R:Exit->Act->World->Prop} {a:Act} {w:World}:cf P x R a w->(∀ a w,R .normal a w->cf P y Q a w) ->
   (∀ e a w,e≠.normal->R e a w->Q e a w)->cf P (.seq x y) Q a w
 | condT {c:Operand} {x y:Code} {Q:Exit->Act->World->Prop} {a:Act} {w:World}:a.eval c=.bool true->cf P x Q a w->cf P (.cond c x y) Q a w
 | condF {c:Operand} {x y:Code} {Q:Exit->Act->World->Prop} {a:Act} {w:World}:a.eval c=.bool false->cf P y Q a w->cf P (.cond c x y) Q a w
 | block {id:Nat} {c:Code} {Q:Exit->Act->World->Prop} {a:Act} {w:World}:cf P c (Exit.inBlock id Q) a w->cf P (.block id c) Q a w
 | loop {c:Code} {Q:Exit->Act->World->Prop} {a:Act} {w:World} (I:Act->World->Prop) (μ:Act->World->Nat):I a w ->
   (∀ a w,I a w->cf P c (Exit.then (λa' w'=>I a' w'/\μ a' w'<μ a w) Q) a w)->cf P (.loop c) Q a w
 | scope {c rest:Code} {Q:Exit->Act->World->Prop} {a:Act} {w:World} (l:Nat) (J:Act->World->Prop) (μ:Act->World->Nat):findLabel c l=some rest ->
   cf P c (Exit.jump l J Q) a w->(∀ a w,J a w->cf P rest (Exit.jump l (λa' w'=>J a' w'/\μ a' w'<μ a w) Q) a w)->cf P (.scope c) Q a w
 | mono {c:Code} {Q R:Exit->Act->World->Prop} {a:Act} {w:World}:cf P c R a w->(∀ e a w,R e a w->Q e a w)->cf P c Q a w
theorem oK (l:Nat):∀ (c rest:Code),findLabel (nCode c) l=some rest->∃ r,findLabel c l=some r/\rest=nCode r:=by
 intro c
 induction c with
 | seq x y ihx ihy=>
  intro rest h
  simp only[nCode,findLabel]at h
  cases hx:findLabel (nCode x) l with
  | some r=>
   rw[hx]at h
   obtain⟨r0,h0,rfl⟩:=ihx r hx
   obtain rfl:=au h
   exact⟨.seq r0 y,by simp[findLabel,h0],rfl⟩
  | none=>
   rw[hx]at h
   obtain⟨r0,h0,rfl⟩:=ihy rest h
   have hn:findLabel x l=none:=by
    cases hxx:findLabel x l with
    | none=>rfl
    | some r=>
     exfalso
     have:∀ (c r:Code),findLabel c l=some r->∃ r',findLabel (nCode c) l=some r':=by
      intro c
      induction c with
      | seq a b iha ihb=>
       intro r hr
       simp only[findLabel]at hr
       cases ha:findLabel a l with
       | some q=>obtain⟨q',hq⟩:=iha q ha;exact⟨.seq q' (nCode b),by simp[nCode,findLabel,hq]⟩
       | none=>
        rw[ha]at hr
        obtain⟨q',hq⟩:=ihb r hr
        cases S4:findLabel (nCode a) l with
        | some z=>exact⟨.seq z (nCode b),by simp[nCode,findLabel,S4]⟩
        | none=>exact⟨q',by simp[nCode,findLabel,S4,hq]⟩
      | label l'=>intro r hr;exact⟨r,hr⟩
      | _=>intro r hr;simp[findLabel]at hr
     obtain⟨r',Sz⟩:=this x r hxx
     rw[hx]at Sz
     cases Sz
   exact⟨r0,by simp[findLabel,hn,h0],rfl⟩
 | label l'=>
  intro rest h
  simp only[nCode,findLabel]at h ⊢
  split at h
  ·rename_i he
   obtain rfl:=au h
   exact⟨.skip,by simp[he],rfl⟩
  ·cases h
 | _=>intro rest h;simp[nCode,findLabel]at h
theorem cf.sound {P:Program}(hm:P.follows .mixedOrders=true){d:Code}{Q:Exit->Act->World->Prop}{a:Act}{w:World}(h:cf P d Q a w) :
  ∀ c,d=nCode c->c.wp P Q a w:=by
 induction h with
 | skip hq=>intro c hc;cases c<;>simp[nCode]at hc;exact wp_skip hq
 | label hq=>intro c hc;cases c<;>simp[nCode]at hc;exact wp_label hq
 | exit hq=>intro c hc;cases c<;>simp[nCode]at hc;subst hc;exact wp_exit hq
 | goto hq=>intro c hc;cases c<;>simp[nCode]at hc;subst hc;exact wp_goto hq
 | ret hq=>intro c hc;cases c<;>simp[nCode]at hc;exact wp_ret hq
 | @reg id l Q a w hq=>
  intro c hc
  cases c with
  | region id' ops dr=>
   simp only[nCode,Code.region.injEq]at hc
   obtain⟨_,hl,rfl⟩:=hc
   have M7:l=ops.toList.map fp:=by simpa using congrArg Array.toList hl
   subst M7
   rw[r8]at hq
   exact wp_region_list hq
  | _=>simp[nCode]at hc
 | @drw l Q a w I hq=>
  intro c hc
  cases c with
  | region id' ops dr=>
   simp only[nCode,Code.region.injEq]at hc
   obtain⟨hn,hl,rfl⟩:=hc
   have M7:l=ops.toList.map fp:=by simpa using congrArg Array.toList hl
   subst M7
   rw[sD,mn,mj,rp,pl]at hq
   simp only[wL,aw]at hn
   split at hn
   ·rename_i hB
    have:=C8 hm (id:=id') hB I hq
    simpa using this
   ·split at hn<;>cases hn
  | _=>simp[nCode]at hc
 | @drq l Q a w C hC hq=>
  intro c hc
  cases c with
  | region id' ops dr=>
   simp only[nCode,Code.region.injEq]at hc
   obtain⟨hn,hl,rfl⟩:=hc
   have M7:l=ops.toList.map fp:=by simpa using congrArg Array.toList hl
   subst M7
   rw[me]at hq
   simp only[wL,aw]at hn
   split at hn
   ·cases hn
   ·split at hn
    ·rename_i hB
     exact wp_region_quiet hm hB hC hq
    ·cases hn
  | _=>simp[nCode]at hc
 | seq hx hy he ihx ihy=>
  intro c hc
  cases c<;>simp[nCode]at hc
  obtain⟨rfl,rfl⟩:=hc
  refine wp_seq (wp_mono (ihx _ rfl) λe a w hr=>?_)
  cases e with
  | normal=>exact ihy a w hr _ rfl
  | _=>exact he _ a w ab hr
 | condT MW _ ih=>
  intro c hc
  cases c<;>simp[nCode]at hc
  obtain⟨rfl,rfl,rfl⟩:=hc
  exact wp_cond_true MW (ih _ rfl)
 | condF MW _ ih=>
  intro c hc
  cases c<;>simp[nCode]at hc
  obtain⟨rfl,rfl,rfl⟩:=hc
  exact wp_cond_false MW (ih _ rfl)
 | block _ ih=>
  intro c hc
  cases c<;>simp[nCode]at hc
  obtain⟨rfl,rfl⟩:=hc
  exact wp_block (ih _ rfl)
 | loop I μ h0 _ ih=>
  intro c hc
  cases c<;>simp[nCode]at hc
  subst hc
  exact wp_loop I μ h0 λa w hI=>ih a w hI _ rfl
 | scope l J μ hf _ _ ih1 ih2=>
  intro c hc
  cases c<;>simp[nCode]at hc
  subst hc
  obtain⟨r,hr,rfl⟩:=oK l _ _ hf
  exact wp_scope_jumps l J μ hr (ih1 _ rfl) λa w hJ=>ih2 a w hJ _ rfl
 | mono _ hq ih=>intro c hc;exact wp_mono (ih c hc) hq
theorem nD {P:Program}(hm:P.follows .mixedOrders=true){f:FuncId}{fn:Func}{c d:Code}{args:Array Value}{w:World}{R:Ending->World->Prop}
  (hf:P.funcs[f]?=some fn) (hb:fn.body=some c) (hd:d=nCode c)
  (h:cf P d (bodyPost P fn R) { tmps:=args++Array.replicate (fn.ntmps-args.size) undef,defers:=[] } w):Calls P f args w R:=
 calls_of_wp hf hb (h.sound hm c hd)
def mk (d : Option Nat) (op : Op) : Oper := ⟨d, op, 0, "", #[], none⟩
def tm (n:Nat):Operand:=.tmp n
def rg (l:List Oper):Code:=.region 0 l.toArray false
def sq:List Code->Code
 | []=>.skip
 | [x]=>x
 | x::r=>.seq x (sq r)
def _root_.Go.Act.get (a:Act)(t:Nat):Value:=a.tmps.getD t undef
theorem bp (a:Act)(t:Nat):a.eval (tm t)=a.get t:=rfl
theorem wY (a:Act)(v:Value):a.eval (.const v)=v:=rfl
theorem bq (a:Act)(d:Option Nat)(v:Value):(a.put d v).tmps.size=a.tmps.size:=by
 cases d<;>simp[Act.put]
theorem b6 (a:Act)(d:Option Nat)(v:Value):(a.put d v).defers=a.defers:=by
 cases d<;>rfl
theorem fh (a:Act)(d:Nat)(v:Value)(h:d<a.tmps.size):(a.put (some d) v).get d=v:=by
 simp[Act.put,Act.get,h]
theorem iP (a:Act)(d s:Nat)(v:Value)(h:s≠d):(a.put (some d) v).get s=a.get s:=by
 simp only[Act.put,Act.get,Array.getD_eq_getD_getElem?,ay]
 rw[al aa]
structure Pv (x m k0 n:Nat)(a a':Act):Prop where
 size:a'.tmps.size=a.tmps.size
 defers:a'.defers=a.defers
 get:∀ s,s≠x->(s<m \/ (k0<=s/\s<n))->a'.get s=a.get s
theorem b8 {a:Act}{d s:Nat}{v:Value}(h:s≠d):(a.put (some d) v).get s=a.get s:=iP a d s v h
theorem bA {a:Act}{d:Nat}{v:Value}(h:d<a.tmps.size):(a.put (some d) v).get d=v:=fh a d v h
theorem Pv.refl (x m k0 n:Nat)(a:Act):Pv x m k0 n a a:=⟨rfl,rfl,λ_ _ _=>rfl⟩
theorem Pv.trans {x m k0 n:Nat}{a b c:Act}(h:Pv x m k0 n a b)(k:Pv x m k0 n b c):Pv x m k0 n a c:=
 ⟨k.size.trans h.size,k.defers.trans h.defers,λs hs hm=>(k.get s hs hm).trans (h.get s hs hm)⟩
theorem Pv.mono {x m k0 n m' n':Nat}{a b:Act}(h:Pv x m k0 n a b)(hm:m'<=m)(hn:n'<=n):Pv x m' k0 n' a b:=
 ⟨h.size,h.defers,λs hs hh=>h.get s hs aa⟩
theorem Pv.put {x m k0 n:Nat}{a b:Act}(h:Pv x m k0 n a b){d:Nat}(v:Value)(hd:d=x \/ (m<=d/\(d<k0 \/ n<=d))):Pv x m k0 n a (b.put (some d) v):=
 ⟨(bq _ _ _).trans h.size,(b6 _ _ _).trans h.defers,λs hs hh=>by rw[b8 aa];exact h.get s hs hh⟩
section ops
variable {P:Program} {ops:Array Oper} {Q:Exit->Act->World->Prop} {r:List Oper} {a:Act} {w:World}
theorem mM {d:Option Nat}{op:Op}(h:(mk d op).wp P a w (wpList P ops Q r) Q):wpList P ops Q (mk d op::r) a w:=by
 unfold wpList
 rw[ax (by simp[Region.wanted,mk])]
 exact .inl h
theorem bP {d:Option Nat}{op:Op}{v:Value}{w':World}(h:(execOp a.eval (mk d op)).run P w=.ok (.value v) w')
  (hn:wpList P ops Q r (a.put d v) w'):wpList P ops Q (mk d op::r) a w:=
 mM (by unfold Oper.wp;rw[h];exact hn)
theorem xn {d:Option Nat}{op:Op}{w':World}(h:(execOp a.eval (mk d op)).run P w=.ok .skip w')
  (hn:wpList P ops Q r (a.put d undef) w'):wpList P ops Q (mk d op::r) a w:=
 mM (by unfold Oper.wp;rw[h];exact hn)
theorem bv {d:Option Nat}{x:Operand}(h:wpList P ops Q r (a.put d (a.eval x)) w):wpList P ops Q (mk d (.move x)::r) a w:=
 bP rfl h
theorem b7 {d:Option Nat}{x:Operand}(h:wpList P ops Q r (a.put d (a.eval x)) w):wpList P ops Q (mk d (.assign x)::r) a w:=
 bP rfl h
theorem bY {d:Option Nat}{x:Operand}{p:Addr}(hx:a.eval x=.pointer (some p))(h:wpList P ops Q r (a.put d (.pointer (some p))) w) :
  wpList P ops Q (mk d (.nilCheck x)::r) a w:=
 bP (by simp[execOp,mk,hx]) h
structure Cv (P:Program)(t:TypeId)(d:TypeDesc)(size:Nat):Prop where
 und:P.underlying t=some d
 info:∃ i,P.info? t=some i/\i.size=size
theorem Cv.sizeOf {t:TypeId}{d:TypeDesc}{n:Nat}(h:Cv P t d n)(w:World):(sizeOf t).run P w=.ok n w:=by
 obtain⟨i,hi,rfl⟩:=h.info
 simp[Go.sizeOf,typeInfo,hi]
theorem Cv.isAgg {t:TypeId}{d:TypeDesc}{n:Nat}(h:Cv P t d n)(w:World) :
  (isAgg t).run P w=.ok (match d with|.struct _|.array _ _=>true|_=>false) w:=by
 simp only[Go.isAgg,run_underlying h.und,Sem.run_bind,Result.andThen_ok]
 cases d<;>rfl
theorem r9 {d:Option Nat}{x:Operand}{T k b o off:Nat}{fs:Array Field}{f:Field}{n:Nat}(hx:a.eval x=.pointer (some ⟨b,o,none⟩))(hT:P.underlying T=some (.struct fs))(hk:fs[k]?=some f)
  (ho:f.offset=off) (hn:∀ w,(sizeOf f.type).run P w=.ok (n+1) w) (h:wpList P ops Q r (a.put d (.pointer (some ⟨b,o+off,none⟩))) w) :
  wpList P ops Q (mk d (.fieldAddr T x k)::r) a w:=by
 refine bP ?_ h
 simp[execOp,mk,hx,Instr.fieldAt,run_underlying hT,hk,ho,fieldPlace,hn,Instr.sureAddr,Addr.add_lit]
theorem cL {d:Option Nat}{x:Operand}{F:TypeId}{p:Addr}{v:Value}(hx:a.eval x=.pointer (some p))(hF:(isAgg F).run P w=.ok false w)(hv:w.cell? p=some v)
  (h:wpList P ops Q r (a.put d v) w):wpList P ops Q (mk d (.load F x)::r) a w:=by
 refine bP ?_ h
 simp[execOp,mk,hx,Instr.loadAt,Instr.sureAddr,loadVar,hF,load,hv,Sem.run]
theorem gN {d:Option Nat}{x:Operand}{F:TypeId}{b o:Nat}{cs:List Value}(hx:a.eval x=.pointer (some ⟨b,o,none⟩))(hF:(isAgg F).run P w=.ok true w)(hs:(sizeOf F).run P w=.ok cs.length w)
  (hc:∀ j v,cs[j]?=some v->w.cell? ⟨b,o+j,none⟩=some v)
  (h:wpList P ops Q r (a.put d (.agg cs.toArray)) w):wpList P ops Q (mk d (.load F x)::r) a w:=by
 refine bP ?_ h
 have hl:=run_loadCells_list (P:=P) w ⟨b,o,none⟩ cs (λj v hj=>by rw[Addr.add_lit];exact hc j v hj)
 simp[execOp,mk,hx,Instr.loadAt,Instr.sureAddr,loadVar,hF,hs,hl]
def bV (cur:Array Value)(o:Nat)(vs:List Value):Array Value:=(cur.toList.take o++vs++cur.toList.drop (o+vs.length)).toArray
theorem fF {cur:Array Value}{o:Nat}{vs:List Value}(h:o+vs.length<=cur.size):(bV cur o vs).size=cur.size:=by
 simp[bV];omega
theorem dL {cur:Array Value}{o:Nat}{vs:List Value}(h:o+vs.length<=cur.size)(j:Nat)(hj:j<o \/ o+vs.length<=j):(bV cur o vs)[j]?=cur[j]?:=by
 simp only[bV,aQ,ao]
 rcases hj with hj|hj
 ·rw[aR (by simp;omega),List.getElem?_take_of_lt hj];simp
 ·rw[aO (by simp;omega),aO (by simp;omega),List.getElem?_drop]
  simp only[aG,Array.length_toList,Array.getElem?_toList]
  congr 1
  omega
theorem dn {cur:Array Value}{o:Nat}{vs:List Value}(h:o+vs.length<=cur.size)(j:Nat)(hj:j<vs.length):(bV cur o vs)[o+j]?=vs[j]?:=by
 simp only[bV,aQ,ao]
 rw[aO (by simp;omega),aR (by simp;omega)]
 simp only[aG,Array.length_toList]
 congr 1
 omega
theorem cK {x y:Operand}{F:TypeId}{g o:Nat}{cur:Array Value}{t:TypeId}{v:Value}{vs:List Value}(hx:a.eval x=.pointer (some ⟨g,o,none⟩))(hy:a.eval y=v)
  (hv:v.cells.toList=vs) (hF:(sizeOf F).run P w=.ok vs.length w) (hg:w.heap[g]?=some (.cells cur t (0,0))) (ho:o+vs.length<=cur.size) (h1:∀ u∈vs,u.oneCell'=true)
  (h:wpList P ops Q r a (w.setRow g (bV cur o vs))):wpList P ops Q (mk none (.store F x y)::r) a w:=by
 refine xn (w':=w.setRow g (bV cur o vs)) ?_ h
 have JL:=run_storeCells_at P g o t vs 0 cur w hg (by simpa using ho) h1
 simp only[Nat.add_zero]at JL
 have Jc:v.cells.size=vs.length:=by rw[<- hv];simp
 simp[execOp,mk,hx,hy,Instr.storeAt,Instr.sureAddr,storeVar,hF,Jc,hv,JL,bV]
def Ent (P:Program)(f:Nat):Prop:=∀ args w,(callFunc f args).run P w=.ok (.enter f args) w
theorem cj {d:Option Nat}{f:Nat}{args:List Operand}{vs:Array Value}{R:Ending->World->Prop}(hf:Ent P f)
  (J4:(args.map a.eval).toArray=vs)
  (hc:Calls P f vs w R) (h:∀ e w',R e w'->∃ v,e=.returned v/\wpList P ops Q r (a.put d v) w') :
  wpList P ops Q (mk d (.call ⟨.value (.func f),args.toArray,#[]⟩)::r) a w:=by
 refine mM ?_
 unfold Oper.wp
 have:(execOp a.eval (mk d (.call ⟨.value (.func f),args.toArray,#[]⟩))).run P w=.ok (.enter f vs) w:=by
  have he:a.eval (.func f)=.func (.func f) #[] #[]:=rfl
  simp only[execOp,mk,resolve,he,Deferred.ofValue,invoke,Sem.run_bind,Sem.run_pure,Result.andThen_ok,Array.empty_append,Array.append_empty,List.map_toArray,J4]
  exact hf _ _
 rw[this]
 exact hc.mono λe w' hR=>by
  obtain⟨v,rfl,hh⟩:=h e w' hR
  exact hh
theorem ee {d:Option Nat}{op:BinOp}{T U:TypeId}{x y:Operand}{k:IntKind}{m n:Int}{v:Value}(hx:a.eval x=.int k m)(hy:a.eval y=.int k n)
  (hs:op≠.shl/\op≠.shr) (Qf:(binOp op T (.int k m) (.int k n)).run P w=.ok v w) (h:wpList P ops Q r (a.put d v) w):wpList P ops Q (mk d (.binOp op T x y U)::r) a w:=by
 refine bP ?_ h
 have he:(eqGuard op T x y (.int k m) (.int k n)).run P w=.ok () w:=by
  unfold eqGuard
  cases op<;>simp
 simp only[execOp,mk,hx,hy,Sem.run_bind,he,Result.andThen_ok,Qf,Sem.run_pure]
theorem pp {d:Option Nat}{T:TypeId}{x:Operand}{b:Bool}(hx:a.eval x=.bool b)(h:wpList P ops Q r (a.put d (.bool !b)) w):wpList P ops Q (mk d (.unOp .not T x)::r) a w:=by
 refine bP ?_ h
 simp[execOp,mk,hx,Op.unary]
theorem ci {d:Option Nat}{S T:TypeId}{x:Operand}{k k':IntKind}{m:Int}(hx:a.eval x=.int k m)(hS:P.underlying S=some (.int k))(hT:P.underlying T=some (.int k'))
  (h:wpList P ops Q r (a.put d (.int k' (k'.wrap m))) w):wpList P ops Q (mk d (.convert S T x)::r) a w:=by
 refine bP ?_ h
 simp[execOp,mk,hx,convert,run_underlying hS,run_underlying hT,Conv.intToInt]
theorem fe {d:Option Nat}{T:TypeId}{z:Value}(hz:(zeroValue T).run P w=.ok z w)(h:wpList P ops Q r (a.put d (.pointer (some ⟨w.heap.size,0,none⟩))) (w.alloc (.cells z.cells T (0,0)))) :
  wpList P ops Q (mk d (.alloc T)::r) a w:=by
 refine bP (w':=w.alloc (.cells z.cells T (0,0))) ?_ h
 simp[execOp,mk,Instr.alloc,hz,newVar,newRow,newObj,Sem.run]
theorem yn {d:Option Nat}{x:Operand}{F E:TypeId}{base:Option Addr}{n c:Nat}(hx:a.eval x=.slice base n c)(hF:P.underlying F=some (.slice E))
  {sz:Nat} (hs:(sizeOf E).run P w=.ok sz w) (h:wpList P ops Q r (a.put d (.slice base 0 c)) w) :
  wpList P ops Q (mk d (.slice F x none (some (.const (.int .i64 0))) none)::r) a w:=by
 refine bP ?_ h
 have e0:a.eval (.const (.int .i64 0))=.int .i64 0:=rfl
 cases base with
 | none=>
  by_cases hc:c=0
  ·subst hc
   simp[execOp,mk,hx,e0,Instr.sliceAt,Instr.slice,run_underlying hF,Instr.sliceBounds,Instr.sliceBound,asIntOf,hs]
  ·simp[execOp,mk,hx,e0,Instr.sliceAt,Instr.slice,run_underlying hF,Instr.sliceBounds,Instr.sliceBound,asIntOf,hs]
 | some b=>
  by_cases hc:c=0
  ·subst hc
   simp[execOp,mk,hx,e0,Instr.sliceAt,Instr.slice,run_underlying hF,Instr.sliceBounds,Instr.sliceBound,asIntOf,hs]
  ·simp[execOp,mk,hx,e0,Instr.sliceAt,Instr.slice,run_underlying hF,Instr.sliceBounds,Instr.sliceBound,asIntOf,hs,Addr.add]
theorem dJ {d:Option Nat}{x y:Operand}{F E:TypeId}{b o n c i sz:Nat}{k:IntKind}(hx:a.eval x=.slice (some ⟨b,o,none⟩) n c)(hy:a.eval y=.int k i)(hi:i<n)(hF:P.underlying F=some (.slice E))
  (hs:(sizeOf E).run P w=.ok sz w) (h:wpList P ops Q r (a.put d (.pointer (some ⟨b,o+i*sz,none⟩))) w):wpList P ops Q (mk d (.indexAddr F x y)::r) a w:=by
 refine bP ?_ h
 simp[execOp,mk,hx,hy,Instr.indexAt,asIntOf,run_underlying hF,hs,hi,Addr.add_lit]
theorem gi {d:Option Nat}{x:Operand}{F E ty:TypeId}{base:Option Addr}{n c:Nat}(hx:a.eval x=.slice base n c)(hF:P.underlying F=some (.slice E))
  (h : wpList P ops Q r (a.put d (.int .i64 n)) w) : wpList P ops Q (⟨d, .call ⟨.builtin .len, #[x], #[F]⟩, ty, "", #[], none⟩ :: r) a w := by
 have hw : Region.wanted ⟨d, .call ⟨.builtin .len, #[x], #[F]⟩, ty, "", #[], none⟩ (yielded ops a.tmps) = true := by simp [Region.wanted]
 unfold wpList
 rw[ax hw]
 refine .inl ?_
 unfold Oper.wp
 have : (execOp a.eval ⟨d, .call ⟨.builtin .len, #[x], #[F]⟩, ty, "", #[], none⟩).run P w = .ok (.value (.int .i64 n)) w := by
  simp[execOp,resolve,invoke,builtin,hx,Builtin.len_,run_underlying hF,goInt]
 rw[this]
 exact h
theorem vp {d:Option Nat}{x y:Operand}{F E I ty:TypeId}{z:Value}{l bytes:Nat}{base:Option Addr}(hx:a.eval x=.slice base 0 0)(hy:a.eval y=.int .i32 l)(hl:0<l)(hF:P.underlying F=some (.slice E))(hI:P.underlying I=some (.int .i32))
  {i:TypeInfo} (hE:P.info? E=some i) (hz:i.zero=some z) (Jc:z.cells.size=i.size) (JK:0<i.size) (_hbp:0<i.bytes) (hb:i.bytes=bytes) (JV:l*bytes<=140737488355328) (hl31:l<2147483648)
  (h:∀ (c:Nat) (cs:Array Value),l<=c->c<=maxLen->cs.size=c*i.size->(∀ q j,q<l->j<i.size->cs[q*i.size+j]?=z.cells[j]?) ->
   wpList P ops Q r (a.put d (.slice (some ⟨w.heap.size,0,none⟩) l c)) (w.drew.alloc (.cells cs E (0,0)))) :
  wpList P ops Q (⟨d, .call ⟨.builtin .append, #[x, y], #[F, I]⟩, ty, "", #[], none⟩ :: r) a w := by
 have hw : Region.wanted ⟨d, .call ⟨.builtin .append, #[x, y], #[F, I]⟩, ty, "", #[], none⟩ (yielded ops a.tmps) = true := by simp [Region.wanted]
 unfold wpList
 rw[ax hw]
 refine .inl ?_
 unfold Oper.wp
 have P3:IntKind.i64.wrap (l:Int)=l:=by simp[IntKind.wrap,IntKind.bits,IntKind.signed];omega
 have Sh:=grownCap_ge w l 0 E
 have U1:=grownCap_le_maxLen w l 0 E (by simp only[maxLen];omega)
 have h1:¬ (281474976710656<(l:Int)*(i.bytes:Int)):=by rw[hb,<- Int.natCast_mul];omega
 have Yi:¬ (9223372036854775807<(l:Int)):=by omega
 have Yj:¬ (281474976710656<Builtin.nextslicecap l 0*i.bytes):=by rw[nextslicecap_zero hl,hb];omega
 have P9:l≠0:=by omega
 have WZ:i.size≠0:=by omega
 have W7:¬ ((l:Int)<0):=by omega
 have Qj:l*i.size≠0:=Nat.mul_ne_zero P9 WZ
 have Jl : (execOp a.eval ⟨d, .call ⟨.builtin .append, #[x, y], #[F, I]⟩, ty, "", #[], none⟩).run P w =
   .ok (.value (.slice (some ⟨w.heap.size,0,none⟩) l (grownCap w l 0 E))) (w.drew.alloc (.cells (Builtin.zeroCells z.cells l++Builtin.zeroCells z.cells (grownCap w l 0 E-l)) E)):=by
  cases base<;>simp[execOp,resolve,invoke,builtin,hx,hy,Builtin.append_,run_underlying hF,run_underlying hI,sizeOf,typeInfo,zeroValue,hE,hz,asInt,asIntOf,P3,h1,Yi,Yj,P9,W7,Qj,Question.forced,Builtin.firstCells,loadCells,loadCellsFrom,newRow,grownCap]
 rw[Jl]
 refine h (grownCap w l 0 E) _ Sh U1 ?_ ?_
 ·simp only[Array.size_append,size_zeroCells,Jc,<- bk]
  congr 1
  omega
 ·intro q j hq hj
  have IU:q*i.size+j<l*i.size:=by
   have:(q+1)*i.size<=l*i.size:=bn _ hq
   rw[bk]at this
   omega
  rw[Array.getElem?_append_left (by rw[size_zeroCells,Jc];exact IU)]
  simp only[Builtin.zeroCells,Jc,Array.getElem?_map]
  rw[Array.getElem?_range]
  have hm:(q*i.size+j)%i.size=j:=by rw[Nat.add_comm,Nat.add_mul_mod_self_right,aW hj]
  simp[IU,hm,getElem!_pos,Jc,hj]
end ops
structure br (X:Nat->Prop)(w w':World):Prop where
 os:w'.os=w.os
 tape:w'.tape=w.tape
 output:w'.output=w.output
 size:w.heap.size<=w'.heap.size
 block:∀ k,k<w.heap.size->¬ X k->w'.heap[k]?=w.heap[k]?
theorem br.refl (X:Nat->Prop)(w:World):br X w w:=⟨rfl,rfl,rfl,ae _,λ_ _ _=>rfl⟩
theorem br.trans {X:Nat->Prop}{a b c:World}(h:br X a b)(k:br X b c):br X a c:=
 ⟨k.os.trans h.os,k.tape.trans h.tape,k.output.trans h.output,am h.size k.size,λi hi hx=>(k.block i (az hi h.size) hx).trans (h.block i hi hx)⟩
theorem br.mono {X Y:Nat->Prop}{a b:World}(h:br X a b)(PQ:∀ k,k<a.heap.size->X k->Y k):br Y a b:=
 ⟨h.os,h.tape,h.output,h.size,λi hi hy=>h.block i hi (λhx=>hy (PQ i hi hx))⟩
theorem br.drew (X:Nat->Prop)(w:World):br X w w.drew:=⟨rfl,rfl,rfl,ae _,λ_ _ _=>rfl⟩
theorem br.alloc (X:Nat->Prop)(w:World)(o:Obj):br X w (w.alloc o):=
 ⟨rfl,rfl,rfl,by simp,λk hk _=>by show(w.heap.push o)[k]?=_;rw[Array.getElem?_push,al aa]⟩
theorem br.setRow (X:Nat->Prop)(w:World)(g:Nat)(cs:Array Value)(hg:X g):br X w (w.setRow g cs):=
 ⟨rfl,rfl,rfl,by simp,λk _ hk=>setRow_other w g k cs (λe=>hk (e ▸ hg))⟩
theorem e8 {w:World}{b o:Nat}{v:Value}(h:w.cell? ⟨b,o,none⟩=some v):b<w.heap.size:=World.block_lt_of_cell? w ⟨b,o,none⟩ h
theorem dI {w w':World}{b:Nat}(h:w'.heap[b]?=w.heap[b]?)(o:Nat):w'.cell? ⟨b,o,none⟩=w.cell? ⟨b,o,none⟩:=by simp[World.cell?,h]
theorem br.cell {X:Nat->Prop}{w w':World}(h:br X w w'){b o:Nat}{v:Value}(hb:¬ X b)(hv:w.cell? ⟨b,o,none⟩=some v):w'.cell? ⟨b,o,none⟩=some v:=by
 rw[dI (h.block b (e8 hv) hb)];exact hv
def io (w:World)(b o:Nat)(l:Bs):Prop:=∀ i x,l[i]?=some x->w.cell? ⟨b,o+i,none⟩=some (.int .u8 (x.toNat:Int))
theorem io.keep {X:Nat->Prop}{w w':World}{b o:Nat}{l:Bs}(h:io w b o l)(hk:br X w w')(hb:¬ X b):io w' b o l:=
 λi x hi=>hk.cell hb (h i x hi)
def en (w:World)(X:Nat->Prop)(v:Value)(l:Bs):Prop:=
 (v=.slice none 0 0/\l=[]) \/ ∃ b o c,v=.slice (some ⟨b,o,none⟩) l.length c/\¬ X b/\b<w.heap.size/\l.length<=c/\c<=maxLen/\io w b o l
theorem en.keep {X:Nat->Prop}{w w':World}{v:Value}{l:Bs}(h:en w X v l)(hk:br X w w'):en w' X v l:=by
 rcases h with h|⟨b,o,c,hv,hb,hs,hc,hm,ho⟩
 ·exact .inl h
 ·exact .inr ⟨b,o,c,hv,hb,az hs hk.size,hc,hm,ho.keep hk hb⟩
theorem en.mono {X Y:Nat->Prop}{w:World}{v:Value}{l:Bs}(h:en w X v l)(hy:∀ k,k<w.heap.size->Y k->X k):en w Y v l:=by
 rcases h with h|⟨b,o,c,hv,hb,hs,hc,hm,ho⟩
 ·exact .inl h
 ·exact .inr ⟨b,o,c,hv,λhh=>hb (hy b hs hh),hs,hc,hm,ho⟩
structure ch where
 key:Nat
 val:Value
 born:Nat
def ch.entry (e:ch):MapEntry:=⟨.int .u32 (e.key:Int),e.val,e.born⟩
def jm:List (Nat × Bs)->Prop
 | []=>True
 | [_]=>True
 | x::y::r=>x.1<y.1/\jm (y::r)
def jP (w:World)(X:Nat->Prop)(r:Nat)(t:List (Nat × Bs)):Prop:=
 ∃ (es:List ch) (clock:Nat) (f:ch->Bs),w.heap[r]?=some (.map (es.map ch.entry).toArray clock)/\(∀ e∈es,e.key<4294967296/\e.born<clock/\en w (λk=>X k \/ k=r) e.val (f e)) /\
  (es.map ch.born).Nodup/\(es.map ch.key).Nodup/\(es.map λe=>(e.key,f e)).Perm t/\jm t
theorem jP.keep {X:Nat->Prop}{w w':World}{r:Nat}{t:List (Nat × Bs)}(h:jP w X r t)(hk:br X w w')(hr:¬ X r):jP w' X r t:=by
 obtain⟨es,c,f,hh,he,h1,h2,h3,h4⟩:=h
 exact⟨es,c,f,by rw[hk.block r (aj.1 hh).1 hr];exact hh,λe hm=>⟨(he e hm).1,(he e hm).2.1,(he e hm).2.2.keep (hk.mono λ_ _ h=>.inl h)⟩,h1,h2,h3,h4⟩
theorem jP.mono {X Y:Nat->Prop}{w:World}{r:Nat}{t:List (Nat × Bs)}(h:jP w X r t)(hy:∀ k,k<w.heap.size->Y k->X k):jP w Y r t:=by
 obtain⟨es,c,f,hh,he,h1,h2,h3,h4⟩:=h
 exact⟨es,c,f,hh,λe hm=>⟨(he e hm).1,(he e hm).2.1,(he e hm).2.2.mono λk hk h=>h.elim (λh=>.inl (hy k hk h)) .inr⟩,h1,h2,h3,h4⟩
def eA (w:World)(X:Nat->Prop)(v:Value)(t:List (Nat × Bs)):Prop:=
 (v=.map none/\t=[]) \/ ∃ r,v=.map (some r)/\¬ X r/\r<w.heap.size/\jP w X r t/\t≠[]
theorem eA.keep {X:Nat->Prop}{w w':World}{v:Value}{t:List (Nat × Bs)}(h:eA w X v t)(hk:br X w w'):eA w' X v t:=by
 rcases h with h|⟨r,hv,hr,hs,hm,KH⟩
 ·exact .inl h
 ·exact .inr ⟨r,hv,hr,az hs hk.size,hm.keep hk hr,KH⟩
theorem eA.mono {X Y:Nat->Prop}{w:World}{v:Value}{t:List (Nat × Bs)}(h:eA w X v t)(hy:∀ k,k<w.heap.size->Y k->X k):eA w Y v t:=by
 rcases h with h|⟨r,hv,hr,hs,hm,KH⟩
 ·exact .inl h
 ·exact .inr ⟨r,hv,λhh=>hr (hy r hs hh),hs,hm.mono hy,KH⟩
def eH.kind:eH->IntKind
 | .i8=>.i8|.i16=>.i16|.u16=>.u16|.i32=>.i32|_=>.i64
def eH.fits:eH->Int->Prop
 | .bool,x=>x=0 \/ x=1
 | .i8,x=>-128<=x/\x<128
 | .i16,x=>-32768<=x/\x<32768
 | .u16,x=>0<=x/\x<65536
 | .i32,x=>-2147483648<=x/\x<2147483648
 | .i64,x=>-9223372036854775808<=x/\x<9223372036854775808
 | .uuid,_=>False
def jD (w:World)(X:Nat->Prop):Ty->List Value->V->Prop
 | .prim .bool,cs,v=>∃ b:Bool,cs=[.bool b]/\v=.n (if b then 1 else 0)
 | .prim .uuid,cs,v=>∃ l:Bs,l.length=16/\cs=l.map (λb=>.int .u8 (b.toNat:Int))/\v=.s l
 | .prim p,cs,v=>∃ x:Int,cs=[.int p.kind x]/\v=.n x/\p.fits x
 | .str none,cs,v=>∃ l:Bs,cs=[.string ⟨l.toArray⟩]/\v=.s l/\l.length<=maxLen
 | .str (some _),cs,v=>(cs=[.pointer none]/\v=.nul) \/ ∃ (l:Bs) (b o:Nat),cs=[.pointer (some ⟨b,o,none⟩)]/\¬ X b/\w.cell? ⟨b,o,none⟩=some (.string ⟨l.toArray⟩)/\v=.s l/\l.length<=maxLen
 | .bytes _,cs,v=>(cs=[.slice none 0 0]/\v=.nul) \/ ∃ (l:Bs) (b o c:Nat),cs=[.slice (some ⟨b,o,none⟩) l.length c]/\¬ X b/\b<w.heap.size/\l.length<=c/\c<=maxLen/\io w b o l/\v=.s l
 | _,_,_=>False
theorem jD.keep {X:Nat->Prop}{w w':World}{ty:Ty}{cs:List Value}{v:V}(h:jD w X ty cs v)(hk:br X w w'):jD w' X ty cs v:=by
 cases ty with
 | prim p=>cases p<;>exact h
 | str nul=>
  cases nul with
  | none=>exact h
  | some m=>
   rcases h with h|⟨l,b,o,h1,h2,h3,h4⟩
   ·exact .inl h
   ·exact .inr ⟨l,b,o,h1,h2,hk.cell h2 h3,h4⟩
 | bytes nul=>
  rcases h with h|⟨l,b,o,c,h1,h2,h3,h4,h5,h6,h7⟩
  ·exact .inl h
  ·exact .inr ⟨l,b,o,c,h1,h2,az h3 hk.size,h4,h5,h6.keep hk h2,h7⟩
 | list=>exact h.elim
 | struct=>exact h.elim
theorem jD.mono {X Y:Nat->Prop}{w:World}{ty:Ty}{cs:List Value}{v:V}(h:jD w X ty cs v)(hy:∀ k,k<w.heap.size->Y k->X k):jD w Y ty cs v:=by
 cases ty with
 | prim p=>cases p<;>exact h
 | str nul=>
  cases nul with
  | none=>exact h
  | some m=>
   rcases h with h|⟨l,b,o,h1,h2,h3,h4⟩
   ·exact .inl h
   ·exact .inr ⟨l,b,o,h1,λhh=>h2 (hy b (e8 h3) hh),h3,h4⟩
 | bytes nul=>
  rcases h with h|⟨l,b,o,c,h1,h2,h3,h4,h5,h6,h7⟩
  ·exact .inl h
  ·exact .inr ⟨l,b,o,c,h1,λhh=>h2 (hy b h3 hh),h3,h4,h5,h6,h7⟩
 | list=>exact h.elim
 | struct=>exact h.elim
def Ty.leaf:Ty->Bool
 | .prim _|.str _|.bytes _=>true
 | _=>false
def ft:Option Nat->Nat|some k=>k+1|none=>0
mutual
def Ty.sz:Ty->Nat
 | .prim .uuid=>16
 | .struct none toff fs=>fs.ext (ft toff)
 | _=>1
def Fds.ext:Fds->Nat->Nat
 | .nil,m=>m
 | .cons _ _ _ _ off ty r,m=>r.ext (Nat.max m (off+ty.sz))
end
def gM (w:World)(X:Nat->Prop)(b o:Nat)(toff:Option Nat)(t:List (Nat × Bs)):Prop:=
 match toff with
 | some k=>∃ m,w.cell? ⟨b,o+k,none⟩=some m/\eA w X m t
 | none=>t=[]
theorem gM.frame {X:Nat->Prop}{w w':World}{b o:Nat}{toff:Option Nat}{t:List (Nat × Bs)}(h:gM w X b o toff t)(hk:br X w w')(hs:∀ k,toff=some k->w'.cell? ⟨b,o+k,none⟩=w.cell? ⟨b,o+k,none⟩):gM w' X b o toff t:=by
 cases toff with
 | none=>exact h
 | some k=>obtain⟨m,h1,h2⟩:=h;exact⟨m,by rw[hs k rfl];exact h1,h2.keep hk⟩
theorem gM.mono {X Y:Nat->Prop}{w:World}{b o:Nat}{toff:Option Nat}{t:List (Nat × Bs)}(h:gM w X b o toff t)(hy:∀ k,k<w.heap.size->Y k->X k):gM w Y b o toff t:=by
 cases toff with
 | none=>exact h
 | some k=>obtain⟨m,h1,h2⟩:=h;exact⟨m,h1,h2.mono hy⟩
def bB (w:World)(b o:Nat)(cs:List Value):Prop:=∀ j c,cs[j]?=some c->w.cell? ⟨b,o+j,none⟩=some c
mutual
def Rp (w:World)(X:Nat->Prop):Ty->Nat->Nat->V->Prop
 | .prim p,b,o,v=>∃ cs,bB w b o cs/\jD w X (.prim p) cs v
 | .str nul,b,o,v=>∃ cs,bB w b o cs/\jD w X (.str nul) cs v
 | .bytes nul,b,o,v=>∃ cs,bB w b o cs/\jD w X (.bytes nul) cs v
 | .list _ esz e,b,o,v=>
  (w.cell? ⟨b,o,none⟩=some (.slice none 0 0)/\v=.nul) \/
  ∃ (xs:List V) (p q c:Nat),w.cell? ⟨b,o,none⟩=some (.slice (some ⟨p,q,none⟩) xs.length c)/\¬ X p/\p<w.heap.size/\xs.length<=c/\c<=maxLen/\v=.l xs /\
   ∀ i x,xs[i]?=some x->Rp w X e p (q+i*esz) x
 | .struct none toff fs,b,o,v=>∃ (vs:List V) (t:List (Nat × Bs)),v=.st vs t/\RpF w X fs b o vs/\gM w X b o toff t
 | .struct (some _) toff fs,b,o,v=>
  (w.cell? ⟨b,o,none⟩=some (.pointer none)/\v=.nul) \/
  ∃ (p q:Nat) (vs:List V) (t:List (Nat × Bs)),w.cell? ⟨b,o,none⟩=some (.pointer (some ⟨p,q,none⟩))/\¬ X p/\p<w.heap.size/\v=.st vs t/\RpF w X fs p q vs/\gM w X p q toff t
def RpF (w:World)(X:Nat->Prop):Fds->Nat->Nat->List V->Prop
 | .nil,_,_,vs=>vs=[]
 | .cons _ _ _ _ off ty r,b,o,vs=>∃ v vs',vs=v::vs'/\Rp w X ty b (o+off) v/\RpF w X r b o vs'
end
theorem jD.len {w:World}{X:Nat->Prop}{ty:Ty}{cs:List Value}{v:V}(h:jD w X ty cs v):cs.length=ty.sz:=by
 cases ty with
 | prim p=>
  cases p
  case bool=>obtain⟨b,rfl,_⟩:=h;rfl
  case uuid=>obtain⟨l,hl,rfl,_⟩:=h;simpa[Ty.sz]using hl
  all_goals (obtain⟨x,rfl,_⟩:=h;rfl)
 | str nul=>
  cases nul with
  | none=>obtain⟨l,rfl,_⟩:=h;rfl
  | some m=>
   rcases h with⟨rfl,_⟩|⟨l,b,o,rfl,_⟩<;>rfl
 | bytes nul=>
  rcases h with⟨rfl,_⟩|⟨l,b,o,c,rfl,_⟩<;>rfl
 | list=>exact h.elim
 | struct=>exact h.elim
theorem bB.same {w w':World}{b o:Nat}{cs:List Value}(h:bB w b o cs)(hs:∀ j,o<=j->j<o+cs.length->w'.cell? ⟨b,j,none⟩=w.cell? ⟨b,j,none⟩):bB w' b o cs:=by
 intro j c hj
 have IU:j<cs.length:=(ah.1 hj).1
 rw[hs (o+j) aa aa]
 exact h j c hj
theorem kL:∀ (fs:Fds) (m:Nat),m<=fs.ext m
 | .nil,m=>ae m
 | .cons _ _ _ _ off ty r,m=>am (Nat.le_max_left m (off+ty.sz)) (kL r _)
mutual
theorem Rp.frame {X:Nat->Prop}{w w':World}(hk:br X w w'):∀ (ty:Ty) (b o:Nat) (v:V),Rp w X ty b o v ->
  (∀ j,o<=j->j<o+ty.sz->w'.cell? ⟨b,j,none⟩=w.cell? ⟨b,j,none⟩)->Rp w' X ty b o v
 | .prim p,b,o,v,h,hs=>by
  obtain⟨cs,hc,hl⟩:=h
  exact⟨cs,hc.same (by rw[hl.len];exact hs),hl.keep hk⟩
 | .str nul,b,o,v,h,hs=>by
  obtain⟨cs,hc,hl⟩:=h
  exact⟨cs,hc.same (by rw[hl.len];exact hs),hl.keep hk⟩
 | .bytes nul,b,o,v,h,hs=>by
  obtain⟨cs,hc,hl⟩:=h
  exact⟨cs,hc.same (by rw[hl.len];exact hs),hl.keep hk⟩
 | .list nul esz e,b,o,v,h,hs=>by
  have h0:w'.cell? ⟨b,o,none⟩=w.cell? ⟨b,o,none⟩:=hs o (ae _) (by simp[Ty.sz])
  rcases h with⟨h1,h2⟩|⟨xs,p,q,c,h1,h2,h3,h4,h5,h6,h7⟩
  ·exact .inl ⟨by rw[h0];exact h1,h2⟩
  ·refine .inr ⟨xs,p,q,c,by rw[h0];exact h1,h2,az h3 hk.size,h4,h5,h6,λi x hi=>?_⟩
   exact Rp.frame hk e p _ x (h7 i x hi) (λj _ _=>dI (hk.block p h3 h2) j)
 | .struct none toff fs,b,o,v,h,hs=>by
  obtain⟨vs,t,h1,h2,h3⟩:=h
  have Jj:=kL fs (ft toff)
  simp only[Ty.sz]at hs
  exact⟨vs,t,h1,RpF.frame hk fs b o vs _ h2 hs,h3.frame hk λk Ko=>by subst Ko;simp only[ft]at Jj hs;exact hs (o+k) aa aa⟩
 | .struct (some n) toff fs,b,o,v,h,hs=>by
  have h0:w'.cell? ⟨b,o,none⟩=w.cell? ⟨b,o,none⟩:=hs o (ae _) (by simp[Ty.sz])
  rcases h with⟨h1,h2⟩|⟨p,q,vs,t,h1,h2,h3,h4,h5,h6⟩
  ·exact .inl ⟨by rw[h0];exact h1,h2⟩
  ·have hp:∀ j,w'.cell? ⟨p,j,none⟩=w.cell? ⟨p,j,none⟩:=λj=>dI (hk.block p h3 h2) j
   exact .inr ⟨p,q,vs,t,by rw[h0];exact h1,h2,az h3 hk.size,h4,RpF.frame hk fs p q vs 0 h5 (λj _ _=>hp j),h6.frame hk λk _=>hp _⟩
theorem RpF.frame {X:Nat->Prop}{w w':World}(hk:br X w w'):∀ (fs:Fds) (b o:Nat) (vs:List V) (m:Nat),RpF w X fs b o vs ->
  (∀ j,o<=j->j<o+fs.ext m->w'.cell? ⟨b,j,none⟩=w.cell? ⟨b,j,none⟩)->RpF w' X fs b o vs
 | .nil,b,o,vs,m,h,hs=>h
 | .cons lo hi tag df off ty r,b,o,vs,m,h,hs=>by
  obtain⟨v,vs',h1,h2,h3⟩:=h
  have Jj:Nat.max m (off+ty.sz)<=r.ext (Nat.max m (off+ty.sz)):=kL r _
  have R9:off+ty.sz<=Nat.max m (off+ty.sz):=Nat.le_max_right _ _
  exact⟨v,vs',h1,Rp.frame hk ty b (o+off) v h2 (λj hj hj2=>hs j aa (by simp only[Fds.ext];omega)),RpF.frame hk r b o vs' (Nat.max m (off+ty.sz)) h3 hs⟩
end
mutual
theorem Rp.mono {X Y:Nat->Prop}{w:World}(hy:∀ k,k<w.heap.size->Y k->X k):∀ (ty:Ty) (b o:Nat) (v:V),Rp w X ty b o v->Rp w Y ty b o v
 | .prim p,b,o,v,h=>by obtain⟨cs,hc,hl⟩:=h;exact⟨cs,hc,hl.mono hy⟩
 | .str nul,b,o,v,h=>by obtain⟨cs,hc,hl⟩:=h;exact⟨cs,hc,hl.mono hy⟩
 | .bytes nul,b,o,v,h=>by obtain⟨cs,hc,hl⟩:=h;exact⟨cs,hc,hl.mono hy⟩
 | .list nul esz e,b,o,v,h=>by
  rcases h with h|⟨xs,p,q,c,h1,h2,h3,h4,h5,h6,h7⟩
  ·exact .inl h
  ·exact .inr ⟨xs,p,q,c,h1,λhh=>h2 (hy p h3 hh),h3,h4,h5,h6,λi x hi=>Rp.mono hy e p _ x (h7 i x hi)⟩
 | .struct none toff fs,b,o,v,h=>by
  obtain⟨vs,t,h1,h2,h3⟩:=h
  exact⟨vs,t,h1,RpF.mono hy fs b o vs h2,h3.mono hy⟩
 | .struct (some n) toff fs,b,o,v,h=>by
  rcases h with h|⟨p,q,vs,t,h1,h2,h3,h4,h5,h6⟩
  ·exact .inl h
  ·exact .inr ⟨p,q,vs,t,h1,λhh=>h2 (hy p h3 hh),h3,h4,RpF.mono hy fs p q vs h5,h6.mono hy⟩
theorem RpF.mono {X Y:Nat->Prop}{w:World}(hy:∀ k,k<w.heap.size->Y k->X k):∀ (fs:Fds) (b o:Nat) (vs:List V),RpF w X fs b o vs->RpF w Y fs b o vs
 | .nil,b,o,vs,h=>h
 | .cons lo hi tag df off ty r,b,o,vs,h=>by
  obtain⟨v,vs',h1,h2,h3⟩:=h
  exact⟨v,vs',h1,Rp.mono hy ty b _ v h2,RpF.mono hy r b o vs' h3⟩
end
theorem Rp.keep {X:Nat->Prop}{w w':World}(hk:br X w w'){ty:Ty}{b o:Nat}{v:V}(h:Rp w X ty b o v)(hb:¬ X b)(IU:b<w.heap.size):Rp w' X ty b o v:=
 Rp.frame hk ty b o v h (λj _ _=>dI (hk.block b IU hb) j)
def dj (w:World)(S:Nat)(v:Value)(r:RS):Prop:=
 (v=.slice none 0 0/\r.src=[]/\r.nl=true) \/
 ∃ o c,v=.slice (some ⟨S,o,none⟩) r.src.length c/\r.nl=false/\r.src.length<=c/\c<=maxLen/\S<w.heap.size/\io w S o r.src
def ep (w:World)(T S R:Nat)(r:RS):Prop:=
 ∃ v,w.heap[R]?=some (.cells #[v,.bool r.bad] T (0,0))/\dj w S v r
theorem dj.keep {X:Nat->Prop}{w w':World}{S:Nat}{v:Value}{r:RS}(h:dj w S v r)(hk:br X w w')(hS:¬ X S):dj w' S v r:=by
 rcases h with h|⟨o,c,h1,h2,h3,h4,h5,h6⟩
 ·exact .inl h
 ·exact .inr ⟨o,c,h1,h2,h3,h4,az h5 hk.size,h6.keep hk hS⟩
theorem ep.keep {X:Nat->Prop}{w w':World}{T S R:Nat}{r:RS}(h:ep w T S R r)(hk:br X w w')(hS:¬ X S)(hR:¬ X R):ep w' T S R r:=by
 obtain⟨v,h1,h2⟩:=h
 exact⟨v,by rw[hk.block R (aj.1 h1).1 hR];exact h1,h2.keep hk hS⟩
theorem ep.lt {w:World}{T S R:Nat}{r:RS}(h:ep w T S R r):R<w.heap.size:=by
 obtain⟨v,h1,_⟩:=h
 exact(aj.1 h1).1
structure G where
 rd:PF->Nat
 un:PF->Nat
 len:Nat
 clen:Nat
 ok:Nat
 complete:Nat
 uv:Nat
 span:Nat
 tags:Nat
 set:Nat
 tR:Nat
 tUuid:Nat
 tVer:Nat
 tI8:Nat
 tI32:Nat
 tU32:Nat
 tInt:Nat
 tBool:Nat
 tErr:Nat
 tTags:Nat
 tSl:Nat
 tStr:Nat
 gErr:Nat
inductive Nm where
 | mk (l:List Nat) (s:List Nm)
def Nm.l:Nm->List Nat|.mk l _=>l
def Nm.s:Nm->List Nm|.mk _ s=>s
def Nm.n (m:Nm)(i:Nat):Nat:=m.l.getD i 0
def Nm.sub (m:Nm)(i:Nat):Nm:=m.s.getD i (.mk [] [])
def cJ (f:Nat):Bool:=f != 999999
def sL (g:G)(hf:Bool):Bool:=cJ g.len&&cJ g.ok&&(!hf || cJ g.clen)
structure Cx where
 hf:Bool
 b:Nat
 s:Nat
 ver:Nat
 fx:Nat
abbrev GC:=Nat->Code × Nat
def bL (k:Nat)(f:Nat->List Oper):GC:=λn=>(rg (f n),n+k)
def cp (c:Code):GC:=λn=>(c,n)
def gL:List GC->Nat->List Code × Nat
 | [],n=>([],n)
 | x::r,n=>((x n).1::(gL r (x n).2).1,(gL r (x n).2).2)
def gS (l:List GC):GC:=λn=>(sq (gL l n).1,(gL l n).2)
def gb (t k:Nat)(ops:Nat->List Oper)(A B:GC):GC:=λn=>
 (.seq (rg (ops n)) (.cond (tm (n+t)) (A (n+k)).1 (B (A (n+k)).2).1),(B (A (n+k)).2).2)
def cY:GC:=cp .skip
def gd (d : Nat) (op : Op) (j : Nat) (b : Bool) : Oper := ⟨some d, op, 0, "", #[], some (j, b)⟩
def bi (d : Option Nat) (b : Builtin) (args : List Operand) (tys : List Nat) (ty : Nat) : Oper := ⟨d, .call ⟨.builtin b, args.toArray, tys.toArray⟩, ty, "", #[], none⟩
def cl (d:Option Nat)(f:Nat)(args:List Operand):Oper:=mk d (.call ⟨.value (.func f),args.toArray,#[]⟩)
def ki (k:IntKind)(x:Int):Operand:=.const (.int k x)
def bQ (f b v:Nat):GC:=bL 1 λn=>[cl (some n) f [tm b],mk (some v) (.assign (tm n))]
def co (v:Nat)(x:Value):GC:=bL 0 λ_=>[mk (some v) (.assign (.const x))]
def dg (x y:Nat):GC:=bL 1 λn=>[mk (some n) (.move (tm x)),mk (some y) (.assign (tm n))]
def dO (s v T k F:Nat):GC:=bL 4 λn=>[mk (some n) (.move (tm s)),mk (some (n+1)) (.nilCheck (tm n)),mk (some (n+2)) (.fieldAddr T (tm (n+1)) k),mk (some (n+3)) (.load F (tm (n+2))),mk (some v) (.assign (tm (n+3)))]
def jX (uu:Option Nat)(s v T k F:Nat):GC:=bL 4 λn=>[mk (some n) (.move (tm s)),mk (some (n+1)) (match uu with|some u=>.load u (tm v)|none=>.move (tm v)),mk (some (n+2)) (.nilCheck (tm n)),
 mk (some (n+3)) (.fieldAddr T (tm (n+2)) k),mk none (.store F (tm (n+3)) (tm (n+1)))]
def jF (cx:Cx)(A B:GC):GC:=gb 0 1 (λn=>[mk (some n) (.move (tm cx.fx))]) A B
def kM (A B:GC):GC:=gb 0 1 (λn=>[mk (some n) (.move (tm 2))]) A B
def fO (g:G)(cx:Cx)(lo:Nat)(hi:Option Nat)(A:GC):GC:=
 match hi with
 | some h=>gb 5 6 (λn=>[mk (some n) (.move (tm cx.ver)),mk (some (n+1)) (.binOp .geq g.tVer (tm n) (ki .i16 lo) 0),mk (some (n+2)) (.move (tm (n+1))),gd (n+3) (.move (tm cx.ver)) 2 true,
   gd (n+4) (.binOp .leq g.tVer (tm (n+3)) (ki .i16 h) 0) 2 true,mk (some (n+5)) (.pick (tm (n+2)) (tm (n+4)) (.const (.bool false)))]) A cY
 | none=>if lo=0 then A else gb 1 2 (λn=>[mk (some n) (.move (tm cx.ver)),mk (some (n+1)) (.binOp .geq g.tVer (tm n) (ki .i16 lo) 0)]) A cY
def jx (g:G)(cx:Cx)(ty:Ty)(v:Nat)(x:List Nat):List GC:=
 match ty with
 | .prim .uuid=>[bL 1 λn=>[cl (some n) (g.rd .uuid) [tm cx.b],mk (some v) (.alloc g.tUuid),mk none (.store g.tUuid (tm v) (tm n))]]
 | .prim p=>
  match x with
  | [t,u]=>[co t (.int .i8 0),gS [bQ (g.rd (cQ p)) cx.b u,dg u t],dg t v]
  | _=>[bQ (g.rd (cQ p)) cx.b v]
 | .str nul=>
  let c (p:PF):GC:=bQ (g.rd p) cx.b v
  let u (p:PF):GC:=bQ (g.un p) cx.b v
  let nn:GC:=if cx.hf then jF cx (kM (u .cnstr) (c .cnstr)) (kM (u .nstr) (c .nstr))else kM (u .nstr) (c .nstr)
  match nul with
  | some 0=>[co v (.pointer none),nn]
  | some (m+1)=>
   let d (f:Nat):GC:=bL 1 λn=>[cl (some n) f [tm cx.b],mk none (.store g.tStr (tm (x.getD 0 0)) (tm n))]
   [co v (.pointer none),gb 1 2 (λn=>[mk (some n) (.move (tm cx.ver)),mk (some (n+1)) (.binOp .lss g.tVer (tm n) (ki .i16 ((m:Int)+1)) 0)])
    (gS [bL 0 λ_=>[mk (some (x.getD 0 0)) (.alloc g.tStr)],
     if cx.hf then jF cx (kM (d (g.un .cstr)) (d (g.rd .cstr))) (kM (d (g.un .str)) (d (g.rd .str)))else kM (d (g.un .str)) (d (g.rd .str)),
     bL 0 λ_=>[mk (some v) (.assign (tm (x.getD 0 0)))]]) nn]
  | none=>[co v (.string ⟨#[]⟩),if cx.hf then kM (jF cx (u .cstr) (u .str)) (jF cx (c .cstr) (c .str))else kM (u .str) (c .str)]
 | .bytes nul=>
  let c (p:PF):GC:=bQ (g.rd p) cx.b v
  if cx.hf then[co v (.slice none 0 0),jF cx (c (dm nul.isSome true)) (c (dm nul.isSome false))] else[c (dm nul.isSome false)]
 | _=>[]
def mr (g:G):Ty->Option Nat
 | .prim .uuid=>some g.tUuid
 | _=>none
def F7 (g:G)(b:Nat):GC:=gS [bL 1 λn=>[cl (some n) g.complete [tm b],mk (some 6) (.assign (tm n))],cp .ret]
def qi (g:G)(cx:Cx):GC:=gb 1 2 (λn=>[cl (some n) g.ok [tm cx.b],mk (some (n+1)) (.unOp .not g.tBool (tm n))]) (F7 g cx.b) cY
def kW (g:G)(cx:Cx)(nul:Option Nat)(a l F:Nat):List GC:=
 match nul with
 | none=>[]
 | some m=>[gb 5 6 (λn=>[mk (some n) (.move (tm cx.ver)),mk (some (n+1)) (.binOp .lss g.tVer (tm n) (ki .i16 m) 0),mk (some (n+2)) (.move (tm (n+1))),gd (n+3) (.move (tm l)) 2 false,
   gd (n+4) (.binOp .eql g.tI32 (tm (n+3)) (ki .i32 0) 0) 2 false,mk (some (n+5)) (.pick (tm (n+2)) (.const (.bool true)) (tm (n+4)))])
   (bL 1 λn=>[mk (some n) (.buildSlice F 0 #[]),mk (some a) (.assign (tm n))]) cY]
def BY (a F:Nat):GC:=bL 2 λn=>[mk (some n) (.move (tm a)),mk (some (n+1)) (.slice F (tm n) none (some (ki .i64 0)) none),mk (some a) (.assign (tm (n+1)))]
def rn (g:G)(a l F:Nat):GC:=gb 1 2 (λn=>[mk (some n) (.move (tm l)),mk (some (n+1)) (.binOp .gtr g.tI32 (tm n) (ki .i32 0) 0)])
 (bL 3 λn=>[mk (some n) (.move (tm a)),mk (some (n+1)) (.move (tm l)),bi (some (n+2)) .append [tm n,tm (n+1)] [F,g.tI32] F,mk (some a) (.assign (tm (n+2)))]) cY
def wU (g:G)(i l b1 b2:Nat)(body:GC):GC:=λn=>
 (.seq (rg [mk (some i) (.assign (ki .i32 0))])
  (.block b1 (.loop (.seq (.seq (rg [mk (some n) (.move (tm i)),mk (some (n+1)) (.move (tm l)),mk (some (n+2)) (.binOp .lss g.tI32 (tm n) (tm (n+1)) 0)]) (.cond (tm (n+2)) .skip (.exit b1)))
   (.seq (.block b2 (body (n+5)).1) (rg [mk (some (n+3)) (.move (tm i)),mk (some (n+4)) (.binOp .add g.tI32 (tm (n+3)) (ki .i32 1) 0),mk (some i) (.assign (tm (n+4)))]))))),
 (body (n+5)).2)
def lZ (uu:Option Nat)(a i v F E:Nat):GC:=bL 4 λn=>[mk (some n) (.move (tm a)),mk (some (n+1)) (.move (tm i)),mk (some (n+2)) (match uu with|some u=>.load u (tm v)|none=>.move (tm v)),
 mk (some (n+3)) (.indexAddr F (tm n) (tm (n+1))),mk none (.store E (tm (n+3)) (tm (n+2)))]
def fU (a i v F:Nat):GC:=bL 3 λn=>[mk (some n) (.move (tm a)),mk (some (n+1)) (.move (tm i)),mk (some (n+2)) (.indexAddr F (tm n) (tm (n+1))),mk (some v) (.assign (tm (n+2)))]
def eO (v f:Nat):GC:=bL 2 λn=>[mk (some n) (.move (tm v)),cl (some (n+1)) f [tm n]]
def ia (s v T k:Nat):GC:=bL 3 λn=>[mk (some n) (.move (tm s)),mk (some (n+1)) (.nilCheck (tm n)),mk (some (n+2)) (.fieldAddr T (tm (n+1)) k),mk (some v) (.assign (tm (n+2)))]
def Dt (s T k F E:Nat):GC:=bL 4 λn=>[mk (some n) (.move (tm s)),mk (some (n+1)) (.alloc E),mk (some (n+2)) (.nilCheck (tm n)),mk (some (n+3)) (.fieldAddr T (tm (n+2)) k),mk none (.store F (tm (n+3)) (tm (n+1)))]
def qh (g:G)(cx:Cx)(p:Nat)(body:GC):GC:=gS [bQ (g.rd .i8) cx.b p,
 gb 4 5 (fun n => [mk (some n) (.move (tm p)), mk (some (n + 1)) (.binOp .neq g.tI8 (tm n) (ki .i8 (-1)) 0), mk (some (n + 2)) (.move (tm (n + 1))), ⟨some (n + 3), .call ⟨.value (.func g.ok), #[tm cx.b], #[]⟩, 0, "", #[], some (2, true)⟩,
  mk (some (n+4)) (.pick (tm (n+2)) (tm (n+3)) (.const (.bool false)))]) body cY]
def oi (g:G)(cx:Cx)(T k:Nat):GC:=bL 4 λn=>[mk (some n) (.move (tm cx.s)),cl (some (n+1)) g.tags [tm cx.b],mk (some (n+2)) (.nilCheck (tm n)),mk (some (n+3)) (.fieldAddr T (tm (n+2)) k),mk none (.store g.tTags (tm (n+3)) (tm (n+1)))]
def qj (g:G)(b b':Nat):GC:=bL 4 λn=>[cl (some n) g.uv [tm b],mk (some (n+1)) (.convert g.tU32 g.tInt (tm n)),cl (some (n+2)) g.span [tm b,tm (n+1)],mk (some (n+3)) (.build g.tR #[(0,tm (n+2))]),
 mk (some b') (.alloc g.tR),mk none (.store g.tR (tm b') (tm (n+3)))]
def oZ (g:G)(b' err:Nat):GC:=gS [bQ g.complete b' err,gb 1 2 (λn=>[mk (some n) (.move (tm err)),mk (some (n+1)) (.binOp .neq g.tErr (tm n) (.const .nilIface) 0)])
 (gS [bL 1 λn=>[mk (some n) (.move (tm err)),mk (some 6) (.assign (tm n))],cp .ret]) cY]
def oY (g:G)(cx:Cx)(i b1 b2:Nat)(body:GC):GC:=λn=>
 (.seq (rg [cl (some n) g.uv [tm cx.b],mk (some i) (.assign (tm n))])
  (.block b1 (.loop (.seq (.seq (rg [mk (some (n+1)) (.move (tm i)),mk (some (n+2)) (.binOp .gtr g.tU32 (tm (n+1)) (ki .u32 0) 0)]) (.cond (tm (n+2)) .skip (.exit b1)))
   (.seq (.block b2 (body (n+5)).1) (rg [mk (some (n+3)) (.move (tm i)),mk (some (n+4)) (.binOp .sub g.tU32 (tm (n+3)) (ki .u32 1) 0),mk (some i) (.assign (tm (n+4)))]))))),
 (body (n+5)).2)
def jc (g:G)(cx:Cx)(key T k:Nat)(n:Nat):Code:=
 .region 1 [mk (some n) (.move (tm cx.s)),mk (some (n+1)) (.nilCheck (tm n)),mk (some (n+2)) (.fieldAddr T (tm (n+1)) k),mk (some (n+3)) (.move (tm key)),cl (some (n+4)) g.uv [tm cx.b],
  mk (some (n+5)) (.convert g.tU32 g.tInt (tm (n+4))),cl (some (n+6)) g.span [tm cx.b,tm (n+5)],cl (some (n+7)) g.set [tm (n+2),tm (n+3),tm (n+6)]].toArray true
def ib (g:G)(key:Nat)(dflt:Code):List (Nat × GC)->Nat->Code × Nat
 | [],n=>(dflt,n)
 | (t,x)::r,n=>(.seq (rg [mk (some (n+1)) (.binOp .eql g.tU32 (tm key) (ki .u32 t) 0),mk (some n) (.assign (tm (n+1)))]) (.cond (tm n) (x (n+2)).1 (ib g key dflt r (x (n+2)).2).1),(ib g key dflt r (x (n+2)).2).2)
def lY (g:G)(cx:Cx)(key b3 T k:Nat)(cs:List (Nat × GC)):GC:=λn=>
 (.seq (rg [mk (some n) (.move (tm key))]) (.block b3 (ib g n (jc g cx key T k (n+1)) cs (n+9)).1),(ib g n (jc g cx key T k (n+1)) cs (n+9)).2)
def iC (g:G)(cx:Cx)(tagged:Bool)(T kt:Nat)(m:Nm)(items:List GC)(cases:List (Nat × GC)):List GC:=
 items++(if !cx.hf then[]
  else if tagged then[jF cx (oY g cx (m.n 0) (m.n 2) (m.n 3) (gS [bQ g.uv cx.b (m.n 1),lY g cx (m.n 1) (m.n 4) T kt cases])) cY]
  else[jF cx (oi g cx T kt) cY])
mutual
def nM (g:G)(cx:Cx):Ty->Nm->List GC
 | .prim p,m=>jx g cx (.prim p) (m.n 0) (m.l.drop 4)++[jX (mr g (.prim p)) cx.s (m.n 0) (m.n 1) (m.n 2) (m.n 3)]
 | .str nul,m=>jx g cx (.str nul) (m.n 0) (m.l.drop 4)++[jX none cx.s (m.n 0) (m.n 1) (m.n 2) (m.n 3)]
 | .bytes nul,m=>jx g cx (.bytes nul) (m.n 0) []++[jX none cx.s (m.n 0) (m.n 1) (m.n 2) (m.n 3)]
 | .list nul _ e,m=>
  let v:=m.n 0
  let F:=m.n 3
  let a:=m.n 4
  let l:=m.n 5
  let i:=m.n 6
  [dO cx.s v (m.n 1) (m.n 2) F,dg v a,co l (.int .i32 0),if cx.hf then jF cx (bQ g.clen cx.b l) (bQ g.len cx.b l)else bQ g.len cx.b l]++kW g cx nul a l F ++
  [qi g cx,BY a F,rn g a l F,wU g i l (m.n 7) (m.n 8) (gS (gEl g cx e a i F (m.sub 0))),dg a v,jX none cx.s v (m.n 1) (m.n 2) F]
 | .struct none _ fs,m=>
  [ia cx.s (m.n 0) (m.n 1) (m.n 2),eO (m.n 0) (m.n 4),dg (m.n 0) (m.n 3)]++iC g { cx with s:=m.n 3 } fs.tagged (m.n 5) (m.n 6) (m.sub 0) (gFds g { cx with s:=m.n 3 } fs (m.sub 0).s) (gTagd g { cx with s:=m.n 3 } fs (m.sub 0).s)
 | .struct (some _) _ fs,m=>
  [qh g cx (m.n 8) (gS ([Dt cx.s (m.n 1) (m.n 2) (m.n 3) (m.n 9),dO cx.s (m.n 0) (m.n 1) (m.n 2) (m.n 3),eO (m.n 0) (m.n 5),dg (m.n 0) (m.n 4)]++iC g { cx with s:=m.n 4 } fs.tagged (m.n 6) (m.n 7) (m.sub 0) (gFds g { cx with s:=m.n 4 } fs (m.sub 0).s) (gTagd g { cx with s:=m.n 4 } fs (m.sub 0).s)))]
def gEl (g:G)(cx:Cx):Ty->Nat->Nat->Nat->Nm->List GC
 | .struct _ _ fs,a,i,F,m=>
  [fU a i (m.n 0) F,eO (m.n 0) (m.n 2),dg (m.n 0) (m.n 1)]++iC g { cx with s:=m.n 1 } fs.tagged (m.n 3) (m.n 4) (m.sub 0) (gFds g { cx with s:=m.n 1 } fs (m.sub 0).s) (gTagd g { cx with s:=m.n 1 } fs (m.sub 0).s)
 | ty,a,i,F,m=>
  jx g cx ty (m.n 0) (m.l.drop 2)++[lZ (mr g ty) a i (m.n 0) F (m.n 1)]
def gFds (g:G)(cx:Cx):Fds->List Nm->List GC
 | .nil,_=>[]
 | .cons lo hi tag _ _ ty r,ms=>
  if tag.isNone then fO g cx lo hi (gS (nM g cx ty (ms.headD (.mk [] []))))::gFds g cx r ms.tail else gFds g cx r ms.tail
def gTagd (g:G)(cx:Cx):Fds->List Nm->List (Nat × GC)
 | .nil,_=>[]
 | .cons _ _ tag _ _ ty r,ms=>
  match tag with
  | some t=>(t,gS ([qj g cx.b ((ms.headD (.mk [] [])).n 0)]++nM g { cx with b:=(ms.headD (.mk [] [])).n 0 } ty ((ms.headD (.mk [] [])).sub 0)++[oZ g ((ms.headD (.mk [] [])).n 0) ((ms.headD (.mk [] [])).n 1)]))::gTagd g cx r ms.tail
  | none=>gTagd g cx r ms.tail
end
def gRead (g:G)(hf kept:Bool)(cx:Cx)(fs:Fds)(dflt T kt flex n0:Nat)(m:Nm):Code:=
 (gS ([co 6 .nilIface,eO 0 dflt,bL 2 λn=>[mk (some n) (.move (tm 1)),mk (some (n+1)) (.build g.tR #[(0,tm n)]),mk (some cx.b) (.alloc g.tR),mk none (.store g.tR (tm cx.b) (tm (n+1)))]] ++
  (if kept then[bL 4 λn=>[mk (some n) (.move (tm 0)),cl (some (n+1)) (g.rd .i16) [tm cx.b],mk (some (n+2)) (.nilCheck (tm n)),mk (some (n+3)) (.fieldAddr T (tm (n+2)) 0),mk none (.store g.tVer (tm (n+3)) (tm (n+1)))]] else[]) ++
  [dO 0 cx.ver T 0 g.tVer,bL 1 λn=>[mk (some n) (.move (tm cx.ver))]] ++
  (if hf then[bL 2 λn=>[mk (some n) (.move (tm cx.ver)),mk (some (n+1)) (.binOp .geq g.tVer (tm n) (ki .i16 flex) 0),mk (some cx.fx) (.assign (tm (n+1)))],bL 1 λn=>[mk (some n) (.move (tm cx.fx))]] else[]) ++
  [dg 0 cx.s]++iC g cx fs.tagged T kt m (gFds g cx fs m.s) (gTagd g cx fs m.s) ++
  [bL 1 λn=>[cl (some n) g.complete [tm cx.b],mk (some 6) (.assign (tm n))],cp .ret]) n0).1
structure Sm where
 fDef:Nat
 fSame:Nat
 F:Nat
 sz:Nat
 toff:Nat
 ds:List (Nat × Option eH × Int)
structure GW where
 ap:PF->Nat
 alen:Nat
 calen:Nat
 nalen:Nat
 cnalen:Nat
 uv:Nat
 tlen:Nat
 teach:Nat
 tVer:Nat
 tInt:Nat
 tU32:Nat
 tSl:Nat
 tUuid:Nat
 sm:List Sm:=[]
def cV (f v:Nat):GC:=bL 3 λn=>[mk (some n) (.move (tm 1)),mk (some (n+1)) (.move (tm v)),cl (some (n+2)) f [tm n,tm (n+1)],mk (some 1) (.assign (tm (n+2)))]
def wR (g:GW)(f v:Nat):GC:=bL 3 λn=>[mk (some n) (.move (tm 1)),mk (some (n+1)) (.load g.tUuid (tm v)),cl (some (n+2)) f [tm n,tm (n+1)],mk (some 1) (.assign (tm (n+2)))]
def jw (s v T k F:Nat):GC:=bL 4 λn=>[mk (some n) (.move (tm s)),mk (some (n+1)) (.nilCheck (tm n)),mk (some (n+2)) (.fieldAddr T (tm (n+1)) k),mk (some (n+3)) (.load F (tm (n+2))),mk (some v) (.alloc F),mk none (.store F (tm v) (tm (n+3)))]
def iq (cx:Cx)(A B:GC):GC:=if cx.hf then jF cx A B else B
def cN (g:GW)(cx:Cx)(ty:Ty)(v:Nat)(x:List Nat):List GC:=
 match ty with
 | .prim .uuid=>[wR g (g.ap .uuid) v]
 | .prim p=>match x with
  | [t]=>[dg v t,cV (g.ap (cQ p)) t]
  | _=>[cV (g.ap (cQ p)) v]
 | .str none=>[iq cx (cV (g.ap .cstr) v) (cV (g.ap .str) v)]
 | .str (some 0)=>[iq cx (cV (g.ap .cnstr) v) (cV (g.ap .nstr) v)]
 | .str (some (m+1))=>
  [gb 1 2 (λn=>[mk (some n) (.move (tm cx.ver)),mk (some (n+1)) (.binOp .lss g.tVer (tm n) (ki .i16 ((m:Int)+1)) 0)])
   (gS [co (x.getD 0 0) (.string ⟨#[]⟩),gb 1 2 (λn=>[mk (some n) (.move (tm v)),mk (some (n+1)) (.binOp .neq (x.getD 2 0) (tm n) (.const (.pointer none)) 0)])
    (bL 3 λn=>[mk (some n) (.move (tm v)),mk (some (n+1)) (.nilCheck (tm n)),mk (some (n+2)) (.load (x.getD 3 0) (tm (n+1))),mk (some (x.getD 0 0)) (.assign (tm (n+2)))]) cY,
    dg (x.getD 0 0) (x.getD 1 0),iq cx (cV (g.ap .cstr) (x.getD 1 0)) (cV (g.ap .str) (x.getD 1 0))])
   (iq cx (cV (g.ap .cnstr) v) (cV (g.ap .nstr) v))]
 | .bytes none=>[iq cx (cV (g.ap .cbytes) v) (cV (g.ap .bytes) v)]
 | .bytes (some _)=>[iq cx (cV (g.ap .cnbytes) v) (cV (g.ap .nbytes) v)]
 | _=>[]
def ny (g:GW)(hf:Bool):Bool:=cJ g.alen&&(!hf || cJ g.calen)
def qe (g:GW)(f v F:Nat):GC:=bL 4 λn=>[mk (some n) (.move (tm 1)),mk (some (n+1)) (.move (tm v)),bi (some (n+2)) .len [tm (n+1)] [F] g.tInt,cl (some (n+3)) f [tm n,tm (n+2)],mk (some 1) (.assign (tm (n+3)))]
def qc (g:GW)(f v F:Nat):GC:=bL 6 λn=>[mk (some n) (.move (tm 1)),mk (some (n+1)) (.move (tm v)),bi (some (n+2)) .len [tm (n+1)] [F] g.tInt,mk (some (n+3)) (.move (tm v)),mk (some (n+4)) (.binOp .eql F (tm (n+3)) (.const (.slice none 0 0)) 0),
 cl (some (n+5)) f [tm n,tm (n+2),tm (n+4)],mk (some 1) (.assign (tm (n+5)))]
def iA (g:GW)(cx:Cx)(nul:Option Nat)(v F:Nat):GC:=
 match nul with
 | none=>iq cx (qe g g.calen v F) (qe g g.alen v F)
 | some _=>iq cx (qc g g.cnalen v F) (qc g g.nalen v F)
def jb (g:GW)(v i b1 b2 F:Nat)(body:List GC):GC:=λn=>
 (.seq (rg [mk (some n) (.move (tm v)),bi (some (n+1)) .len [tm n] [F] g.tInt,mk (some (n+2)) (.move (ki .i64 0))])
  (.block b1 (.loop (.seq (rg [mk (some (n+3)) (.binOp .lss g.tInt (tm (n+2)) (tm (n+1)) 0)]) (.seq (.cond (tm (n+3)) .skip (.exit b1))
   (.seq (.block b2 (.seq (rg [mk (some (n+4)) (.move (tm (n+2))),mk (some i) (.assign (tm (n+4)))]) (gS body (n+5)).1))
    (rg [mk (some (gS body (n+5)).2) (.binOp .add g.tInt (tm (n+2)) (ki .i64 1) 0),mk (some (n+2)) (.move (tm (gS body (n+5)).2))])))))),
 (gS body (n+5)).2+1)
def Ii (v i e F E:Nat):GC:=bL 4 λn=>[mk (some n) (.move (tm v)),mk (some (n+1)) (.move (tm i)),mk (some (n+2)) (.indexAddr F (tm n) (tm (n+1))),mk (some (n+3)) (.load E (tm (n+2))),mk (some e) (.assign (tm (n+3)))]
def BX (v i e F E:Nat):GC:=bL 4 λn=>[mk (some n) (.move (tm v)),mk (some (n+1)) (.move (tm i)),mk (some (n+2)) (.indexAddr F (tm n) (tm (n+1))),mk (some (n+3)) (.load E (tm (n+2))),mk (some e) (.alloc E),mk none (.store E (tm e) (tm (n+3)))]
def iO (g:GW)(c:Int):GC:=bL 3 λn=>[mk (some n) (.move (tm 1)),mk (some (n+1)) (.buildSlice g.tSl 1 #[(0,ki .u8 c)]),bi (some (n+2)) .append [tm n,tm (n+1)] [g.tSl,g.tSl] g.tSl,mk (some 1) (.assign (tm (n+2)))]
def BW (v F:Nat)(A B:GC):GC:=gb 1 2 (λn=>[mk (some n) (.move (tm v)),mk (some (n+1)) (.binOp .eql F (tm n) (.const (.pointer none)) 0)]) A B
def qb (g:GW)(s T kt:Nat):GC:=bL 8 λn=>[mk (some n) (.move (tm 1)),mk (some (n+1)) (.move (tm s)),mk (some (n+2)) (.nilCheck (tm (n+1))),mk (some (n+3)) (.fieldAddr T (tm (n+2)) kt),cl (some (n+4)) g.tlen [tm (n+3)],
 mk (some (n+5)) (.convert g.tInt g.tU32 (tm (n+4))),mk (some (n+6)) (.binOp .add g.tU32 (ki .u32 0) (tm (n+5)) 0),cl (some (n+7)) g.uv [tm n,tm (n+6)],mk (some 1) (.assign (tm (n+7)))]
def gD (g:GW)(s T kt:Nat):GC:=bL 5 λn=>[mk (some n) (.move (tm s)),mk (some (n+1)) (.nilCheck (tm n)),mk (some (n+2)) (.fieldAddr T (tm (n+1)) kt),mk (some (n+3)) (.move (tm 1)),cl (some (n+4)) g.teach [tm (n+2),tm (n+3)],mk (some 1) (.assign (tm (n+4)))]
def jk (g:GW)(cx:Cx)(T kt:Nat):List GC:=if cx.hf then[jF cx (gS [qb g cx.s T kt,gD g cx.s T kt]) cY] else[]
def i9:Ty->Bool
 | .prim .uuid=>true
 | _=>false
def jB (ty:Ty)(s v T k F:Nat):GC:=if i9 ty then jw s v T k F else dO s v T k F
def lE (ty:Ty)(v i e F E:Nat):GC:=if i9 ty then BX v i e F E else Ii v i e F E
def jL (g:GW)(cx:Cx)(lo:Nat)(hi:Option Nat)(A:GC):GC:=
 match hi with
 | some h=>gb 5 6 (λn=>[mk (some n) (.move (tm cx.ver)),mk (some (n+1)) (.binOp .geq g.tVer (tm n) (ki .i16 lo) 0),mk (some (n+2)) (.move (tm (n+1))),gd (n+3) (.move (tm cx.ver)) 2 true,
   gd (n+4) (.binOp .leq g.tVer (tm (n+3)) (ki .i16 h) 0) 2 true,mk (some (n+5)) (.pick (tm (n+2)) (tm (n+4)) (.const (.bool false)))]) A cY
 | none=>if lo=0 then A else gb 1 2 (λn=>[mk (some n) (.move (tm cx.ver)),mk (some (n+1)) (.binOp .geq g.tVer (tm n) (ki .i16 lo) 0)]) A cY
def lF (l:List GC):GC:=λn=>(.scope (gS l n).1,(gS l n).2)
def Ca (k:Nat)(f:Nat->List Oper):GC:=λn=>(.region 1 (f n).toArray true,n+k)
def jW (g:GW)(x:Nat):GC:=bL 2 λn=>[mk (some n) (.move (tm 1)),cl (some (n+1)) g.uv [tm n,ki .u32 x],mk (some 1) (.assign (tm (n+1)))]
def nz (tKs te k:Nat):GC:=bL 3 λn=>[mk (some n) (.move (tm te)),mk (some (n+1)) (.buildSlice tKs 1 #[(0,ki .u32 k)]),bi (some (n+2)) .append [tm n,tm (n+1)] [tKs,tKs] tKs,mk (some te) (.assign (tm (n+2)))]
def EZ:eH->Int->Value
 | .bool,x=>.bool (x != 0)
 | p,x=>.int p.kind x
def oh (s T k F n:Nat):List Oper:=[mk (some n) (.move (tm s)),mk (some (n+1)) (.nilCheck (tm n)),mk (some (n+2)) (.fieldAddr T (tm (n+1)) k),mk (some (n+3)) (.load F (tm (n+2)))]
def iN (g:GW)(s:Nat)(ty:Ty)(df:Int)(m:Nm)(A:GC):GC:=
 match ty with
 | .prim .uuid=>gb 5 6 (λn=>oh s (m.n 1) (m.n 2) (m.n 3) n++[mk (some (n+4)) (.build (m.n 3) #[]),mk (some (n+5)) (.binOp .neq (m.n 3) (tm (n+3)) (tm (n+4)) 0)]) A cY
 | .prim p=>gb 4 5 (λn=>oh s (m.n 1) (m.n 2) (m.n 3) n++[mk (some (n+4)) (.binOp .neq (m.n 3) (tm (n+3)) (.const (EZ p df)) 0)]) A cY
 | .str _=>gb 4 5 (λn=>oh s (m.n 1) (m.n 2) (m.n 3) n++[mk (some (n+4)) (.binOp .neq (m.n 3) (tm (n+3)) (.const (.pointer none)) 0)]) A cY
 | .list _ _ _=>gb 5 6 (λn=>oh s (m.n 1) (m.n 2) (m.n 3) n++[bi (some (n+4)) .len [tm (n+3)] [m.n 3] g.tInt,mk (some (n+5)) (.binOp .gtr g.tInt (tm (n+4)) (ki .i64 0) 0)]) A cY
 | .struct _ _ _=>λn=>(.seq (Ca 7 (λn=>oh s (m.n 1) (m.n 2) (m.n 3) n++[cl (some (n+4)) (m.n 7) [],cl (some (n+5)) (m.n 8) [tm (n+3),tm (n+4)],mk (some (n+6)) (.unOp .not (m.n 9) (tm (n+5)))]) n).1 (.cond (tm (n+6)) (A (n+7)).1 .skip),(A (n+7)).2)
 | _=>cY
def ez (g:GW)(s te tKs:Nat):Fds->List Nm->List GC
 | .nil,_=>[]
 | .cons _ _ tag df _ ty r,ms=>match tag with
  | some t=>iN g s ty df (ms.headD (.mk [] [])) (nz tKs te t)::ez g s te tKs r ms.tail
  | none=>ez g s te tKs r ms.tail
def oX (g:GW)(s T kt te tKs:Nat):GC:=bL 10 λn=>[mk (some n) (.move (tm 1)),mk (some (n+1)) (.move (tm te)),bi (some (n+2)) .len [tm (n+1)] [tKs] g.tInt,mk (some (n+3)) (.move (tm s)),mk (some (n+4)) (.nilCheck (tm (n+3))),mk (some (n+5)) (.fieldAddr T (tm (n+4)) kt),
 cl (some (n+6)) g.tlen [tm (n+5)],mk (some (n+7)) (.binOp .add g.tInt (tm (n+2)) (tm (n+6)) 0),mk (some (n+8)) (.convert g.tInt g.tU32 (tm (n+7))),cl (some (n+9)) g.uv [tm n,tm (n+8)],mk (some 1) (.assign (tm (n+9)))]
def dF (g:GW)(key:Nat):List (Nat × GC)->Nat->Code × Nat
 | [],n=>(.skip,n)
 | (t,x)::r,n=>(.seq (rg [mk (some (n+1)) (.binOp .eql g.tU32 (tm key) (ki .u32 t) 0),mk (some n) (.assign (tm (n+1)))]) (.cond (tm n) (x (n+2)).1 (dF g key r (x (n+2)).2).1),(dF g key r (x (n+2)).2).2)
def jA (g:GW)(te tKs tv b1 b2 b3:Nat)(cs:List (Nat × GC)):GC:=λn=>
 (.seq (rg [mk (some n) (.move (tm te)),bi (some (n+1)) .len [tm n] [tKs] g.tInt,mk (some (n+2)) (.move (ki .i64 0))])
  (.block b1 (.loop (.seq (rg [mk (some (n+3)) (.binOp .lss g.tInt (tm (n+2)) (tm (n+1)) 0)]) (.seq (.cond (tm (n+3)) .skip (.exit b1))
   (.seq (.block b2 (.seq (rg [mk (some (n+4)) (.indexAddr tKs (tm n) (tm (n+2))),mk (some (n+5)) (.load g.tU32 (tm (n+4))),mk (some tv) (.assign (tm (n+5)))])
     (.seq (rg [mk (some (n+6)) (.move (tm tv))]) (.block b3 (dF g (n+6) cs (n+7)).1))))
    (rg [mk (some (dF g (n+6) cs (n+7)).2) (.binOp .add g.tInt (tm (n+2)) (ki .i64 1) 0),mk (some (n+2)) (.move (tm (dF g (n+6) cs (n+7)).2))])))))),
 (dF g (n+6) cs (n+7)).2+1)
def uR (g:GW)(z lenAt l:Nat):List GC:=[co z (.bool false),bL 2 λn=>[mk (some n) (.move (tm 1)),bi (some (n+1)) .len [tm n] [g.tSl] g.tInt,mk (some lenAt) (.assign (tm (n+1)))],cp (.label l)]
def eD (g:GW)(z lenAt l tBool:Nat):GC:=gb 1 2 (λn=>[mk (some n) (.move (tm z)),mk (some (n+1)) (.unOp .not tBool (tm n))])
 (gS [Ca 9 λn=>[mk (some n) (.move (tm 1)),mk (some (n+1)) (.move (tm lenAt)),mk (some (n+2)) (.slice g.tSl (tm n) none (some (tm (n+1))) none),mk (some (n+3)) (.move (tm 1)),mk (some (n+4)) (.move (tm lenAt)),mk (some (n+5)) (.slice g.tSl (tm (n+3)) (some (tm (n+4))) none none),
  bi (some (n+6)) .len [tm (n+5)] [g.tSl] g.tInt,mk (some (n+7)) (.convert g.tInt g.tU32 (tm (n+6))),cl (some (n+8)) g.uv [tm (n+2),tm (n+7)],mk (some 1) (.assign (tm (n+8)))],co z (.bool true),cp (.goto l)]) cY
def g7 (g:GW)(cx:Cx)(b F:Nat):Fds->List Nm->List GC
 | .nil,_=>[]
 | .cons _ _ _ _ _ ty r,ms=>
  gS ((bL 2 λn=>[mk (some n) (.fieldAddr F (tm b) ((ms.headD (.mk [] [])).n 1)),mk (some (n+1)) (.load ((ms.headD (.mk [] [])).n 2) (tm n)),mk (some ((ms.headD (.mk [] [])).n 0)) (.assign (tm (n+1)))])::cN g cx ty ((ms.headD (.mk [] [])).n 0) [])::g7 g cx b F r ms.tail
def gE (g:GW)(cx:Cx)(b F kt:Nat):GC:=jF cx (gS [bL 6 λn=>[mk (some n) (.move (tm 1)),mk (some (n+1)) (.fieldAddr F (tm b) kt),cl (some (n+2)) g.tlen [tm (n+1)],mk (some (n+3)) (.convert g.tInt g.tU32 (tm (n+2))),
  mk (some (n+4)) (.binOp .add g.tU32 (ki .u32 0) (tm (n+3)) 0),cl (some (n+5)) g.uv [tm n,tm (n+4)],mk (some 1) (.assign (tm (n+5)))],
 bL 3 λn=>[mk (some n) (.fieldAddr F (tm b) kt),mk (some (n+1)) (.move (tm 1)),cl (some (n+2)) g.teach [tm n,tm (n+1)],mk (some 1) (.assign (tm (n+2)))]]) cY
def kJ:eH->Nat
 | .bool=>1|.i8=>1|.i16=>2|.u16=>2|.i32=>4|.i64=>8|.uuid=>16
def jv (g:GW)(cx:Cx)(fs:Fds)(T kt:Nat)(m:Nm)(cs:List (Nat × GC)):List GC:=
 if fs.tagged then
  (if cx.hf then[jF cx (gS ([co (m.n 0) (.slice none 0 0)]++ez g cx.s (m.n 0) (m.n 1) fs m.s ++
   [oX g cx.s T kt (m.n 0) (m.n 1),jA g (m.n 0) (m.n 1) (m.n 2) (m.n 3) (m.n 4) (m.n 5) cs,gD g cx.s T kt])) cY] else[])
 else jk g cx T kt
mutual
def og (g:GW)(cx:Cx):Ty->Nm->List GC
 | .prim p,m=>jB (.prim p) cx.s (m.n 0) (m.n 1) (m.n 2) (m.n 3)::cN g cx (.prim p) (m.n 0) (m.l.drop 4)
 | .str nul,m=>dO cx.s (m.n 0) (m.n 1) (m.n 2) (m.n 3)::cN g cx (.str nul) (m.n 0) (m.l.drop 4)
 | .bytes nul,m=>dO cx.s (m.n 0) (m.n 1) (m.n 2) (m.n 3)::cN g cx (.bytes nul) (m.n 0) []
 | .list nul _ e,m=>
  [dO cx.s (m.n 0) (m.n 1) (m.n 2) (m.n 3),iA g cx nul (m.n 0) (m.n 3),jb g (m.n 0) (m.n 4) (m.n 5) (m.n 6) (m.n 3) (gwEl g cx e (m.n 0) (m.n 4) (m.n 3) (m.sub 0))]
 | .struct none _ fs,m=>
  ia cx.s (m.n 0) (m.n 1) (m.n 2)::(gwFds g { cx with s:=m.n 0 } fs (m.sub 0).s++jv g { cx with s:=m.n 0 } fs (m.n 3) (m.n 4) (m.sub 0) (gwTagd g { cx with s:=m.n 0 } fs (m.sub 0).s))
 | .struct (some _) _ fs,m=>
  [dO cx.s (m.n 0) (m.n 1) (m.n 2) (m.n 3),BW (m.n 0) (m.n 3) (iO g 255) (gS (iO g 1::(gwFds g { cx with s:=m.n 0 } fs (m.sub 0).s++jv g { cx with s:=m.n 0 } fs (m.n 4) (m.n 5) (m.sub 0) (gwTagd g { cx with s:=m.n 0 } fs (m.sub 0).s))))]
def gwEl (g:GW)(cx:Cx):Ty->Nat->Nat->Nat->Nm->List GC
 | .struct _ _ fs,v,i,F,m=>
  fU v i (m.n 0) F::(gwFds g { cx with s:=m.n 0 } fs (m.sub 0).s++jv g { cx with s:=m.n 0 } fs (m.n 1) (m.n 2) (m.sub 0) (gwTagd g { cx with s:=m.n 0 } fs (m.sub 0).s))
 | ty,v,i,F,m=>
  lE ty v i (m.n 0) F (m.n 1)::cN g cx ty (m.n 0) (m.l.drop 2)
def gwFds (g:GW)(cx:Cx):Fds->List Nm->List GC
 | .nil,_=>[]
 | .cons lo hi tag _ _ ty r,ms=>
  if tag.isNone then jL g cx lo hi (gS (og g cx ty (ms.headD (.mk [] []))))::gwFds g cx r ms.tail else gwFds g cx r ms.tail
def gwTagd (g:GW)(cx:Cx):Fds->List Nm->List (Nat × GC)
 | .nil,_=>[]
 | .cons _ _ tag _ _ ty r,ms=>
  match tag with
  | some t=>(t,gwBody g cx t ty (ms.headD (.mk [] [])))::gwTagd g cx r ms.tail
  | none=>gwTagd g cx r ms.tail
def gwBody (g:GW)(cx:Cx)(t:Nat):Ty->Nm->GC
 | .prim p,m=>gS ([jB (.prim p) cx.s (m.n 0) (m.n 1) (m.n 2) (m.n 3),jW g t,jW g (kJ p)]++cN g cx (.prim p) (m.n 0) [])
 | .list nul _ e,m=>lF ([dO cx.s (m.n 0) (m.n 1) (m.n 2) (m.n 3),jW g t]++uR g (m.n 4) (m.n 5) (m.n 6)++[iA g cx nul (m.n 0) (m.n 3),jb g (m.n 0) (m.n 12) (m.n 13) (m.n 14) (m.n 3) (gwEl g cx e (m.n 0) (m.n 12) (m.n 3) (m.sub 0))]++[eD g (m.n 4) (m.n 5) (m.n 6) (m.n 9)])
 | .struct _ _ fs,m=>lF ([jw cx.s (m.n 0) (m.n 1) (m.n 2) (m.n 3),jW g t]++uR g (m.n 4) (m.n 5) (m.n 6)++(g7 g cx (m.n 0) (m.n 3) fs (m.sub 0).s++[gE g cx (m.n 0) (m.n 3) (m.n 11)])++[eD g (m.n 4) (m.n 5) (m.n 6) (m.n 9)])
 | ty,m=>lF ([dO cx.s (m.n 0) (m.n 1) (m.n 2) (m.n 3),jW g t]++uR g (m.n 4) (m.n 5) (m.n 6)++cN g cx ty (m.n 0) []++[eD g (m.n 4) (m.n 5) (m.n 6) (m.n 9)])
end
def di (g:GW)(cx:Cx)(fs:Fds)(T kt:Nat)(m:Nm):List GC:=jv g cx fs T kt m (gwTagd g cx fs m.s)
def qf (g:GW)(kept:Bool)(cx:Cx)(T flex v6:Nat):List GC:=
 [co 4 (.slice none 0 0),dO 0 cx.ver T 0 g.tVer,bL 1 λn=>[mk (some n) (.move (tm cx.ver))]] ++
  (if cx.hf then[bL 2 λn=>[mk (some n) (.move (tm cx.ver)),mk (some (n+1)) (.binOp .geq g.tVer (tm n) (ki .i16 flex) 0),mk (some cx.fx) (.assign (tm (n+1)))],bL 1 λn=>[mk (some n) (.move (tm cx.fx))]] else[]) ++
  (if kept then[gS [dO 0 v6 T 0 g.tVer,cV (g.ap .i16) v6]] else[])
def kv:List GC:=[bL 1 λn=>[mk (some n) (.move (tm 1)),mk (some 4) (.assign (tm n))],cp .ret]
def gWrite (g:GW)(kept:Bool)(cx:Cx)(fs:Fds)(T kt flex v6 n0:Nat)(m:Nm):Code:=
 (gS (qf g kept cx T flex v6++(gwFds g cx fs m.s++di g cx fs T kt m++kv)) n0).1
section
variable {P:Program}
theorem nr {c:Code}{Q:Exit->Act->World->Prop}{a:Act}{w:World}(h:cf P c Q a w):c=.skip->Q .normal a w:=by
 induction h with
 | skip hq=>intro _;exact hq
 | mono _ hq ih=>intro hc;exact hq _ _ _ (ih hc)
 | reg=>intro hc;cases hc
 | drw=>intro hc;cases hc
 | _=>intro hc;cases hc
def LW (P:Program)(l:List GC)(n:Nat)(Q:Exit->Act->World->Prop)(a:Act)(w:World):Prop:=cf P (sq (gL l n).1) Q a w
theorem cD {n:Nat}{Q:Exit->Act->World->Prop}{a:Act}{w:World}(h:Q .normal a w):LW P [] n Q a w:=.skip h
theorem dY {K:Act->World->Prop}{Q:Exit->Act->World->Prop}{e:Exit}{a:Act}{w:World}(he:e≠.normal):Exit.then K Q e a w=Q e a w:=by
 cases e<;>first|rfl|exact absurd rfl he
theorem bJ {c:Code}{cs:List Code}{Q:Exit->Act->World->Prop}{a:Act}{w:World}(h:cf P c (Exit.then (cf P (sq cs) Q) Q) a w):cf P (sq (c::cs)) Q a w:=by
 cases cs with
 | nil=>
  refine .mono h λe a w hq=>?_
  cases e with
  | normal=>exact nr hq rfl
  | _=>exact hq
 | cons d ds=>exact .seq h (λa w hq=>hq) (λe a w he hq=>by rw[dY he]at hq;exact hq)
theorem bt {x:GC}{r:List GC}{n:Nat}{Q:Exit->Act->World->Prop}{a:Act}{w:World}(h:cf P (x n).1 (Exit.then (LW P r (x n).2 Q) Q) a w):LW P (x::r) n Q a w:=
 bJ h
theorem cC {l:List GC}{n:Nat}{Q:Exit->Act->World->Prop}{a:Act}{w:World}(h:LW P l n Q a w):cf P (gS l n).1 Q a w:=h
def Up (x:GC):Prop:=∀ n,n<=(x n).2
theorem bD (k:Nat)(f:Nat->List Oper):Up (bL k f):=λn=>Nat.le_add_right n k
theorem dc (c:Code):Up (cp c):=λn=>ae n
theorem mU {l:List GC}(h:∀ x∈l,Up x):∀ n,n<=(gL l n).2:=by
 induction l with
 | nil=>intro n;exact ae n
 | cons x l ih=>intro n;exact am (h x ab n) (ih (λy hy=>h y (by simp[hy])) _)
theorem dG {t k:Nat}{ops:Nat->List Oper}{A B:GC}(hA:Up A)(hB:Up B):Up (gb t k ops A B):=λn=>
 am (am (Nat.le_add_right n k) (hA _)) (hB _)
theorem bF {l:List Oper}{K:Act->World->Prop}{Q:Exit->Act->World->Prop}{a:Act}{w:World}(h:wpList P l.toArray (Exit.then K Q) l a w):cf P (rg l) (Exit.then K Q) a w:=.reg h
structure cv (P:Program)(F:Nat)(agg:Bool)(sz:Nat):Prop where
 agg:∀ w,(isAgg F).run P w=.ok agg w
 size:∀ w,(sizeOf F).run P w=.ok sz w
structure cO (P:Program)(T k F off:Nat)(agg:Bool)(sz:Nat):Prop where
 fld:∃ fs f,P.underlying T=some (.struct fs)/\fs[k]?=some f/\f.offset=off/\f.type=F
 var:cv P F agg sz
 pos:0<sz
variable {x m k0 n:Nat} {K:Act->World->Prop} {Q:Exit->Act->World->Prop} {a:Act} {w:World}
theorem eW {v:Nat}{y:Value}(hv:v=x \/ (m<=v/\v<k0))(Kg:v<a.tmps.size)(h:∀ a',Pv x m k0 n a a'->a'.get v=y->K a' w):cf P (co v y n).1 (Exit.then K Q) a w:=
 bF (b7 (wpList_nil (h _ ((Pv.refl _ _ _ _ _).put _ aa) (fh _ _ _ Kg))))
theorem gJ {y z:Nat}(hz:z=x \/ (m<=z/\z<k0))(hm:m<=k0)(hk:k0<=n)(hn:n<a.tmps.size)(L4:z<a.tmps.size)
  (h:∀ a',Pv x m k0 n a a'->a'.get z=a.get y->K a' w):cf P (dg y z n).1 (Exit.then K Q) a w:=by
 refine bF (bv (b7 (wpList_nil ?_)))
 rw[bp,bp,fh _ _ _ hn]
 exact h _ (((Pv.refl _ _ _ _ _).put _ aa).put _ aa) (bA (by rw[bq];exact L4))
theorem dt {ops:Array Oper}{Q:Exit->Act->World->Prop}{r:List Oper}{d:Option Nat}{y:Operand}{T k F B O off sz:Nat}{agg:Bool}(hy:a.eval y=.pointer (some ⟨B,O,none⟩))(hF:cO P T k F off agg sz)
  (h:wpList P ops Q r (a.put d (.pointer (some ⟨B,O+off,none⟩))) w):wpList P ops Q (mk d (.fieldAddr T y k)::r) a w:=by
 obtain⟨fs,f,h1,h2,h3,h4⟩:=hF.fld
 obtain⟨q,rfl⟩:∃ q,sz=q+1:=⟨sz-1,by have:=hF.pos;omega⟩
 exact r9 (n:=q) hy h1 h2 h3 (λw=>by rw[h4];exact hF.var.size w) h
theorem j7 {s v T k F B O off:Nat}(hs:a.get s=.pointer (some ⟨B,O,none⟩))(hF:cO P T k F off false 1){y:Value}(hy:w.cell? ⟨B,O+off,none⟩=some y)
  (hv:v=x \/ (m<=v/\v<k0)) (hm:m<=k0) (hk:k0<=n) (hn:n+4<=a.tmps.size) (Kg:v<a.tmps.size)
  (h:∀ a',Pv x m k0 n a a'->a'.get v=y->K a' w):cf P (dO s v T k F n).1 (Exit.then K Q) a w:=by
 refine bF (bv ?_)
 rw[bp,hs]
 refine bY (by rw[bp,bA aa]) ?_
 refine dt (by rw[bp,bA (by rw[bq];omega)]) hF ?_
 refine cL (by rw[bp,bA (by simp only[bq];omega)]) (hF.var.agg _) hy ?_
 refine b7 (wpList_nil ?_)
 rw[bp,bA (by simp only[bq];omega)]
 exact h _ ((((((Pv.refl _ _ _ _ _).put _ aa).put _ aa).put _ aa).put _ aa).put _ aa) (bA (by simp only[bq];exact Kg))
theorem xH {s v T k F B O off sz:Nat}{agg:Bool}{uu:Option Nat}{cs:List Value}{cur:Array Value}{te:TypeId}(hs:a.get s=.pointer (some ⟨B,O,none⟩))(hF:cO P T k F off agg sz)
  (hval:match uu with
   | none=>∃ y,a.get v=y/\y.cells.toList=cs
   | some u=>cv P u true cs.length/\∃ b o,a.get v=.pointer (some ⟨b,o,none⟩)/\bB w b o cs)
  (Jc:cs.length=sz) (h1:∀ u∈cs,u.oneCell'=true) (hB:w.heap[B]?=some (.cells cur te (0,0))) (hO:O+off+sz<=cur.size)
  (hm:m<=k0) (hk:k0<=n) (hn:n+4<=a.tmps.size) (Rb:v<n)
  (h:∀ a',Pv x m k0 n a a'->K a' (w.setRow B (bV cur (O+off) cs))):cf P (jX uu s v T k F n).1 (Exit.then K Q) a w:=by
 refine bF (bv ?_)
 rw[bp,hs]
 have O7:Pv x m k0 n a (a.put (some n) (.pointer (some ⟨B,O,none⟩))):=(Pv.refl _ _ _ _ _).put _ aa
 have key:∀ y:Value,y.cells.toList=cs->wpList P (#[mk (some n) (.move (tm s)),mk (some (n+1)) (match uu with|some u=>.load u (tm v)|none=>.move (tm v)),mk (some (n+2)) (.nilCheck (tm n)),
   mk (some (n+3)) (.fieldAddr T (tm (n+2)) k),mk none (.store F (tm (n+3)) (tm (n+1)))]) (Exit.then K Q) [mk (some (n+2)) (.nilCheck (tm n)),mk (some (n+3)) (.fieldAddr T (tm (n+2)) k),mk none (.store F (tm (n+3)) (tm (n+1)))]
   ((a.put (some n) (.pointer (some ⟨B,O,none⟩))).put (some (n+1)) y) w:=by
  intro y hy
  refine bY (by rw[bp,b8 aa,bA aa]) ?_
  refine dt (by rw[bp,bA (by simp only[bq];omega)]) hF ?_
  refine cK (cur:=cur) (t:=te) (by rw[bp,bA (by simp only[bq];omega)]) (by rw[bp,b8 aa,b8 aa,bA (by simp only[bq];omega)]) hy
   (by rw[Jc];exact hF.var.size w) hB (by rw[Jc];exact hO) h1 ?_
  exact wpList_nil (h _ (((O7.put _ aa).put _ aa).put _ aa))
 cases uu with
 | none=>
  obtain⟨y,hy,hyc⟩:=hval
  refine bv ?_
  rw[bp,b8 aa,hy]
  exact key y hyc
 | some u=>
  obtain⟨hu,b,o,hb,hc⟩:=hval
  refine gN (cs:=cs) (by rw[bp,b8 aa,hb]) (hu.agg w) (hu.size w) hc ?_
  exact key (.agg cs.toArray) (by simp[Value.cells])
end
section
open Go Go.MapKept
section
variable {P:Program} {w:World}
theorem il (k:Nat):IsKey (.int .u32) (.int .u32 (k:Int)):=by simp[IsKey]
theorem wc {mty kt et r clock key:Nat}{value:Value}{es:List ch}(hm:P.underlying mty=some (.map kt et))(hd:P.underlying kt=some (.int .u32))(hb:w.heap[r]?=some (.map (es.map ch.entry).toArray clock)) :
  ((∀ e∈es,e.key≠key)/\(Instr.mapUpdate mty (.map (some r)) (.int .u32 (key:Int)) value).run P w=.ok () { w with heap:=w.heap.setIfInBounds r (.map ((es++[(⟨key,value,clock⟩:ch)]).map ch.entry).toArray (clock+1)) }) \/
  ∃ j e,es[j]?=some e/\e.key=key/\(Instr.mapUpdate mty (.map (some r)) (.int .u32 (key:Int)) value).run P w=.ok () { w with heap:=w.heap.setIfInBounds r (.map ((es.set j (⟨key,value,e.born⟩:ch)).map ch.entry).toArray clock) }:=by
 have Ka:∀ x∈(es.map ch.entry).toArray.toList,IsKey (.int .u32) x.key:=by
  intro x hx
  simp only[aP]at hx
  obtain⟨e,_,rfl⟩:=hx
  exact il e.key
 rcases findNow_spec (il key) (es.map ch.entry).toArray.toList 0 Ka with⟨h1,h2⟩|⟨j,e,h1,h2,h3⟩
 ·refine .inl ⟨λe he hk=>?_,?_⟩
  ·have:=h2 e.entry (by simp;exact⟨e,he,rfl⟩)
   simp[ch.entry,hk]at this
  ·simp[Instr.mapUpdate,run_underlying hm,MapKept.run_getObj_map hb,MapKept.run_checkKey hd (il key),MapKept.run_findKey hd h1,MapKept.run_setObj_map _ hb,Result.andThen,ch.entry]
 ·have h2':(es[j]?).map ch.entry=some e:=by simpa using h2
  obtain⟨e1,Oc,rfl⟩:=aK.1 h2'
  have Jd:e1.key=key:=by
   simp only[ch.entry,Value.int.injEq,true_and]at h3
   omega
  have hj:(es.map ch.entry).toArray[j]?=some e1.entry:=by simpa using h2
  have WG:((es.map ch.entry).toArray.modify j λe'=>{ e' with key:=.int .u32 (key:Int),val:=value })=((es.set j (⟨key,value,e1.born⟩:ch)).map ch.entry).toArray:=by
   apply Array.ext_getElem?
   intro i
   rw[Array.getElem?_modify]
   simp only[aQ,aD,List.getElem?_set]
   by_cases K4:j=i
   ·subst K4
    obtain⟨IU,Sa⟩:=ah.1 Oc
    simp[IU,ch.entry,Sa]
   ·simp[K4]
  refine .inr ⟨j,e1,Oc,Jd,?_⟩
  rw[aN]at h1
  have K5:e1.entry.key=.int .u32 (key:Int):=h3
  have WO:=MapKept.run_keyThatStays (P:=P) (w:=w) (il key)
  simp only[Instr.mapUpdate,Sem.run_bind,run_underlying hm,Result.andThen_ok,MapKept.run_getObj_map hb,MapKept.run_checkKey hd (il key),MapKept.run_findKey hd h1,hj,Option.map_some,Option.getD_some,K5,WO,WG,MapKept.run_setObj_map _ hb]
end
end
theorem l6 {x:Nat × Bs}{l:List (Nat × Bs)}(h:jm (x::l)):jm l:=by
 cases l with
 | nil=>trivial
 | cons y r=>exact h.2
theorem km {x:Nat × Bs}:∀ {l:List (Nat × Bs)},jm (x::l)->∀ y∈l,x.1<y.1
 | [],_,y,hy=>by cases hy
 | z::r,h,y,hy=>by
  rcases aI.1 hy with rfl|hy
  ·exact h.1
  ·exact Nat.lt_trans h.1 (km h.2 y hy)
theorem l7 {x:Nat × Bs}{l:List (Nat × Bs)}(h:jm l)(hx:∀ y∈l,x.1<y.1):jm (x::l):=by
 cases l with
 | nil=>trivial
 | cons y r=>exact⟨hx y (aB ..),h⟩
theorem oy (k:Nat)(v:Bs):∀ (t:List (Nat × Bs)),∀ y∈dM k v t,y.1=k \/ ∃ z∈t,z.1=y.1
 | [],y,hy=>by simp[dM]at hy;subst hy;exact .inl rfl
 | (j,u)::r,y,hy=>by
  unfold dM at hy
  split at hy
  ·rcases aI.1 hy with rfl|hy
   ·exact .inl rfl
   ·exact .inr ⟨y,hy,rfl⟩
  ·split at hy
   ·rcases aI.1 hy with rfl|hy
    ·exact .inl rfl
    ·exact .inr ⟨y,aA _ hy,rfl⟩
   ·rcases aI.1 hy with rfl|hy
    ·exact .inr ⟨(j,u),aB ..,rfl⟩
    ·rcases oy k v r y hy with h|⟨z,hz,h⟩
     ·exact .inl h
     ·exact .inr ⟨z,aA _ hz,h⟩
theorem qR (k:Nat)(v:Bs)(t:List (Nat × Bs)):dM k v t≠[]:=by
 cases t with
 | nil=>simp[dM]
 | cons p r=>
  obtain⟨j,u⟩:=p
  unfold dM
  split
  ·simp
  ·split<;>simp
theorem jS (k:Nat)(v:Bs):∀ (t:List (Nat × Bs)),jm t->jm (dM k v t)
 | [],_=>trivial
 | (j,u)::r,h=>by
  unfold dM
  split
  ·rename_i IU
   exact l7 h λy hy=>by
    rcases aI.1 hy with rfl|hy
    ·exact IU
    ·exact Nat.lt_trans IU (km h y hy)
  ·split
   ·rename_i he
    subst he
    exact l7 (l6 h) λy hy=>km h y hy
   ·refine l7 (jS k v r (l6 h)) λy hy=>?_
    rcases oy k v r y hy with h1|⟨z,hz,h1⟩
    ·show j<y.1
     omega
    ·rw[<- h1];exact km h z hz
theorem pE (k:Nat)(v:Bs):∀ (t:List (Nat × Bs)),(∀ y∈t,y.1≠k)->(dM k v t).Perm ((k,v)::t)
 | [],_=>List.Perm.refl _
 | (j,u)::r,h=>by
  unfold dM
  split
  ·exact List.Perm.refl _
  ·split
   ·rename_i he
    exact absurd he.symm (h (j,u) (aB ..))
   ·exact((pE k v r λy hy=>h y (aA _ hy)).cons (j,u)).trans (List.Perm.swap ..)
theorem pD (k:Nat)(v:Bs):∀ (t:List (Nat × Bs)),jm t->(∃ y∈t,y.1=k)->dM k v t=t.map λp=>if p.1=k then(k,v)else p
 | [],_,⟨y,hy,_⟩=>by cases hy
 | (j,u)::r,hr,LY=>by
  unfold dM
  have OC:∀ y∈r,j<y.1:=km hr
  by_cases IU:k<j
  ·exfalso
   obtain⟨y,hy,hk⟩:=LY
   rcases aI.1 hy with rfl|hy
   ·simp only at hk;omega
   ·have:=OC y hy;omega
  ·rw[al IU]
   by_cases he:k=j
   ·subst he
    rw[ax rfl,List.map_cons,ax rfl]
    congr 1
    have:∀ p∈r,(if p.1=k then(k,v)else p)=p:=λp hp=>by rw[al (by have:=OC p hp;omega)]
    rw[List.map_congr_left this,List.map_id']
   ·rw[al he,List.map_cons,al (by simp only;omega),pD k v r (l6 hr)]
    obtain⟨y,hy,hk⟩:=LY
    rcases aI.1 hy with rfl|hy
    ·simp only at hk;omega
    ·exact⟨y,hy,hk⟩
theorem CB {P:Program}{ops:Array Oper}{Q:Exit->Act->World->Prop}{r:List Oper}{a:Act}{w w':World}{d:Option Nat}{b:Builtin}{args:List Operand}{tys:List Nat}{ty:Nat}{v:Value}(h:(execOp a.eval (bi d b args tys ty)).run P w=.ok (.value v) w')(hn:wpList P ops Q r (a.put d v) w'):wpList P ops Q (bi d b args tys ty::r) a w:=by
 refine wpList_plain rfl λ_ hK=>?_
 unfold Oper.wp
 rw[h]
 exact hK _ _ hn
