/-
  PLAIN LAWS AND CONTRACTS of messages, part 1 of 15: how readers and writers are printed, what they do, what the reference writes, and that what is written is read as the same. Nothing of a statement stands here.
-/
import Derived.StillTail
import Derived.ScopeJumps
import Derived.Deep.Quiet
import Derived.Laws.AppendOwn
import Derived.WalkKit
import Derived.MapFrom

namespace Go.Proofs.YtlmanancakaapaaGreatDoor.Kx
abbrev Bs:=List UInt8
inductive Prim where
 | bool | i8 | i16 | u16 | i32 | i64 | uuid
 deriving DecidableEq
mutual
inductive Ty where
 | prim (p:Prim)
 | str (nul:Option Nat)
 | bytes (nul:Option Nat)
 | list (nul:Option Nat) (esz:Nat) (e:Ty)
 | struct (nul:Option Nat) (toff:Option Nat) (fs:Fds)
inductive Fds where
 | nil
 | cons (lo:Nat) (hi:Option Nat) (tag:Option Nat) (df:Int) (off:Nat) (ty:Ty) (r:Fds)
end
inductive V where
 | nul
 | n (x:Int)
 | s (x:Bs)
 | l (xs:List V)
 | st (vs:List V) (tg:List (Nat × Bs))
def V.num:V->Int | .n x=>x | _=>0
def V.octets:V->Bs | .s x=>x | _=>[]
def V.list:V->List V | .l xs=>xs | _=>[]
def V.isNul:V->Bool | .nul=>true | _=>false
def V.fields:V->List V | .st vs _=>vs | _=>[]
def V.tags:V->List (Nat × Bs) | .st _ t=>t | _=>[]
def be:Nat->Int->Bs
 | 0,_=>[]
 | k + 1,x=>UInt8.ofNat ((x / (256:Int) ^ k % 256).toNat) :: be k x
def unbe (l:Bs):Nat:=l.foldl (fun a b=>a * 256 + b.toNat) 0
def sgn (bits:Nat) (x:Nat):Int:=if x < 2 ^ (bits - 1) then (x:Int) else (x:Int) - (2:Int) ^ bits
def uvarAux:Nat->Nat->Bs
 | 0,x=>[UInt8.ofNat x]
 | f + 1,x=>if x < 128 then [UInt8.ofNat x] else UInt8.ofNat (x % 128 + 128) :: uvarAux f (x / 128)
def uvar (x:Nat):Bs:=uvarAux 9 x
structure RS where
 src:Bs
 bad:Bool
 nl:Bool
def RS.fail:RS:=⟨[],true,true⟩
def rU (k:Nat) (r:RS):Nat × RS:=
 if r.src.length < k then (0,.fail) else (unbe (r.src.take k),⟨r.src.drop k,r.bad,r.nl⟩)
def rI (k:Nat) (r:RS):Int × RS:=(sgn (8 * k) (rU k r).1,(rU k r).2)
def rBool (r:RS):Int × RS:=
 match r.src with
 | []=>(0,.fail)
 | b :: t=>((if b.toNat=0 then 0 else 1),⟨t,r.bad,r.nl⟩)
def q6_:Bs->Nat × Int
 | []=>(0,0)
 | a :: l=>
  if a.toNat < 128 then (a.toNat,1) else
  match l with
  | []=>(0,0)
  | b :: l=>
   if b.toNat < 128 then (a.toNat % 128 + b.toNat * 128,2) else
   match l with
   | []=>(0,0)
   | c :: l=>
    if c.toNat < 128 then (a.toNat % 128 + b.toNat % 128 * 128 + c.toNat * 16384,3) else
    match l with
    | []=>(0,0)
    | d :: l=>
     if d.toNat < 128 then (a.toNat % 128 + b.toNat % 128 * 128 + c.toNat % 128 * 16384 + d.toNat * 2097152,4) else
     match l with
     | []=>(0,0)
     | e :: _=>if e.toNat<=15 then (a.toNat % 128 + b.toNat % 128 * 128 + c.toNat % 128 * 16384 + d.toNat % 128 * 2097152 + e.toNat * 268435456,5) else (0,-5)
def rUv (r:RS):Nat × RS:=
 if (q6_ r.src).2<=0 then (0,.fail) else ((q6_ r.src).1,⟨r.src.drop (q6_ r.src).2.toNat,r.bad,r.nl⟩)
def qo_ (k:Int) (r:RS):V × RS:=
 if (r.src.length:Int) < k \/ k < 0 then (.nul,.fail)
 else (if r.nl then .nul else .s (r.src.take k.toNat),⟨r.src.drop k.toNat,r.bad,r.nl⟩)
def rText (k:Int) (r:RS):V × RS:=(.s (qo_ k r).1.octets,(qo_ k r).2)
inductive PF where
 | bool | i8 | i16 | u16 | i32 | i64 | uuid | str | cstr | nstr | cnstr | bytes | cbytes | nbytes | cnbytes
 deriving DecidableEq
def PF.run:PF->RS->V × RS
 | .bool,r=>(.n (rBool r).1,(rBool r).2)
 | .i8,r=>(.n (rI 1 r).1,(rI 1 r).2)
 | .i16,r=>(.n (rI 2 r).1,(rI 2 r).2)
 | .u16,r=>(.n (rU 2 r).1,(rU 2 r).2)
 | .i32,r=>(.n (rI 4 r).1,(rI 4 r).2)
 | .i64,r=>(.n (rI 8 r).1,(rI 8 r).2)
 | .uuid,r=>if r.src.length < 16 then (.s (List.replicate 16 0),.fail) else (.s (r.src.take 16),⟨r.src.drop 16,r.bad,r.nl⟩)
 | .str,r=>rText (rI 2 r).1 (rI 2 r).2
 | .cstr,r=>rText ((rUv r).1 - 1:Int) (rUv r).2
 | .nstr,r=>if (rI 2 r).1 < 0 then (.nul,(rI 2 r).2) else rText (rI 2 r).1 (rI 2 r).2
 | .cnstr,r=>if ((rUv r).1 - 1:Int) < 0 then (.nul,(rUv r).2) else rText ((rUv r).1 - 1:Int) (rUv r).2
 | .bytes,r=>if (rI 4 r).1=-1 then (.s [],(rI 4 r).2) else qo_ (rI 4 r).1 (rI 4 r).2
 | .cbytes,r=>if ((rUv r).1 - 1:Int)=-1 then (.s [],(rUv r).2) else qo_ ((rUv r).1 - 1:Int) (rUv r).2
 | .nbytes,r=>if (rI 4 r).1 < 0 then (.nul,(rI 4 r).2) else qo_ (rI 4 r).1 (rI 4 r).2
 | .cnbytes,r=>if ((rUv r).1 - 1:Int) < 0 then (.nul,(rUv r).2) else qo_ ((rUv r).1 - 1:Int) (rUv r).2
def j1_ (x:Int):Int:=(x + 2147483648) % 4294967296 - 2147483648
def j0_ (fx:Bool) (r:RS):Int × RS:=
 let p:Int × RS:=if fx then (j1_ (j1_ (rUv r).1 - 1),(rUv r).2) else rI 4 r
 if (p.2.src.length:Int) < p.1 then (0,.fail) else p
def jg_ (k:Nat) (v:Bs):List (Nat × Bs)->List (Nat × Bs)
 | []=>[(k,v)]
 | (j,u) :: r=>if k < j then (k,v) :: (j,u) :: r else if k=j then (k,v) :: r else (j,u) :: jg_ k v r
def jq_:Nat->List (Nat × Bs)->RS->List (Nat × Bs) × RS
 | 0,t,r=>(t,r)
 | n + 1,t,r=>
  let k:=rUv r
  let z:=rUv k.2
  let s:=qo_ z.1 z.2
  jq_ n (jg_ k.1 s.1.octets t) s.2
inductive Out (α:Type) where
 | ok (a:α) (r:RS)
 | err
 | stuck
def Out.bind {α β:Type} (x:Out α) (f:α->RS->Out β):Out β:=
 match x with
 | .ok a r=>f a r
 | .err=>.err
 | .stuck=>.stuck
def xb_ (f:RS->Out V):Nat->RS->Out (List V)
 | 0,r=>.ok [] r
 | n + 1,r=>(f r).bind fun v r=>(xb_ f n r).bind fun vs r=>.ok (v :: vs) r
def has (lo:Nat) (hi:Option Nat) (ver:Int):Bool:=match hi with | some h=>decide ((lo:Int)<=ver) && decide (ver<=(h:Int)) | none=>decide (lo=0) || decide ((lo:Int)<=ver)
def zm_ (nul:Option Nat) (ver:Int):Bool:=match nul with | some m=>decide (m=0) || decide ((m:Int)<=ver) | none=>false
def xh_ (nul:Option Nat) (ver:Int):Bool:=match nul with | some m=>decide ((m:Int)<=ver) | none=>false
def js_:Prim->PF
 | .bool=>.bool | .i8=>.i8 | .i16=>.i16 | .u16=>.u16 | .i32=>.i32 | .i64=>.i64 | .uuid=>.uuid
def strPF (nul fx:Bool):PF:=if nul then (if fx then .cnstr else .nstr) else (if fx then .cstr else .str)
def zh_ (nul fx:Bool):PF:=if nul then (if fx then .cnbytes else .nbytes) else (if fx then .cbytes else .bytes)
def uuid0:Bs:=List.replicate 16 0
mutual
def dfTy (df:Int):Ty->V
 | .prim .uuid=>.s uuid0
 | .prim _=>.n df
 | .str none=>.s []
 | .str (some _)=>.nul
 | .bytes _=>.nul
 | .list _ _ _=>.nul
 | .struct none _ fs=>.st (dfFds fs) []
 | .struct (some _) _ _=>.nul
def dfFds:Fds->List V
 | .nil=>[]
 | .cons _ _ _ df _ ty r=>dfTy df ty :: dfFds r
end
def Fds.knows:Fds->Nat->Bool
 | .nil,_=>false
 | .cons _ _ t _ _ _ r,k=>t == some k || r.knows k
def Fds.tagged:Fds->Bool
 | .nil=>false
 | .cons _ _ t _ _ _ r=>t.isSome || r.tagged
def qq_ (f:Nat->Option (List V->RS->Out (List V))):Nat->List V->List (Nat × Bs)->RS->Out V
 | 0,vs,t,r=>.ok (.st vs t) r
 | n + 1,vs,t,r=>
  let k:=rUv r
  let z:=rUv k.2
  let s:=qo_ z.1 z.2
  match f k.1 with
  | none=>qq_ f n vs (jg_ k.1 s.1.octets t) s.2
  | some g=>
   match g vs ⟨s.1.octets,false,s.1.isNul⟩ with
   | .ok vs' r'=>if r'.bad then .err else qq_ f n vs' t s.2
   | .err=>.err
   | .stuck=>.stuck
def roomy (l:Int) (esz:Nat):Bool:=decide (l * (24 * esz + 8)<=70368744177664)
def jb_ (fx tagged:Bool) (fields:RS->Out (List V)) (tag:Nat->Option (List V->RS->Out (List V))) (r:RS):Out V:=
 (fields r).bind fun vs r=>
  if !fx then .ok (.st vs []) r
  else if tagged then qq_ tag (rUv r).1 vs [] (rUv r).2
  else .ok (.st vs (jq_ (rUv r).1 [] (rUv r).2).1) (jq_ (rUv r).1 [] (rUv r).2).2
mutual
def zq_ (fx:Bool) (ver:Int):Ty->V->RS->Out V
 | .prim p,_,r=>.ok ((js_ p).run r).1 ((js_ p).run r).2
 | .str nul,_,r=>.ok ((strPF (zm_ nul ver) fx).run r).1 ((strPF (zm_ nul ver) fx).run r).2
 | .bytes nul,_,r=>.ok ((zh_ (zm_ nul ver) fx).run r).1 ((zh_ (zm_ nul ver) fx).run r).2
 | .list nul esz e,old,r=>
  if !old.isNul then .stuck else
  if (j0_ fx r).2.bad then .err else
  if !roomy (j0_ fx r).1 esz then .stuck else
  if (j0_ fx r).1<=0 then .ok (if nul.isSome && (decide ((j0_ fx r).1=0) || !xh_ nul ver) then .l [] else .nul) (j0_ fx r).2
  else (xb_ (zq_ fx ver e (dfTy 0 e)) (j0_ fx r).1.toNat (j0_ fx r).2).bind fun vs r=>.ok (.l vs) r
 | .struct none _ fs,_,r=>jb_ fx fs.tagged (rdFds fx ver fs) (rdTag fx ver fs) r
 | .struct (some _) _ fs,old,r=>
  if !old.isNul then .stuck else
  if (rI 1 r).1=-1 \/ (rI 1 r).2.bad=true then .ok .nul (rI 1 r).2 else jb_ fx fs.tagged (rdFds fx ver fs) (rdTag fx ver fs) (rI 1 r).2
def rdFds (fx:Bool) (ver:Int):Fds->RS->Out (List V)
 | .nil,r=>.ok [] r
 | .cons lo hi tag df _ ty rest,r=>
  if tag.isNone && has lo hi ver then
   (zq_ fx ver ty (dfTy df ty) r).bind fun v r=>(rdFds fx ver rest r).bind fun vs r=>.ok (v :: vs) r
  else (rdFds fx ver rest r).bind fun vs r=>.ok (dfTy df ty :: vs) r
def rdTag (fx:Bool) (ver:Int):Fds->Nat->Option (List V->RS->Out (List V))
 | .nil,_=>none
 | .cons _ _ tag _ _ ty rest,k=>
  if tag == some k then some fun vs r=>(zq_ fx ver ty (vs.headD .nul) r).bind fun v r=>.ok (v :: vs.tail) r
  else (rdTag fx ver rest k).map fun g vs r=>(g vs.tail r).bind fun vs' r=>.ok (vs.headD .nul :: vs') r
end
end Go.Proofs.YtlmanancakaapaaGreatDoor.Kx

namespace Go.Proofs.YtlmanancakaapaaGreatDoor.Kx
def w32 (n:Nat):Nat:=n % 4294967296
def wText (fx:Bool) (l:Bs):Bs:=if fx then uvar (w32 (l.length + 1))++l else be 2 l.length++l
def wBytes (fx:Bool) (l:Bs):Bs:=if fx then uvar (w32 (l.length + 1))++l else be 4 l.length++l
def wNull (fx:Bool) (k:Nat):Bs:=if fx then uvar 0 else be k (-1)
def wCnt (fx:Bool) (n:Nat):Bs:=if fx then uvar (w32 (n + 1)) else be 4 n
def PF.wr:PF->V->Bs
 | .bool,v=>[if v.num=0 then 0 else 1]
 | .i8,v=>be 1 v.num
 | .i16,v=>be 2 v.num
 | .u16,v=>be 2 v.num
 | .i32,v=>be 4 v.num
 | .i64,v=>be 8 v.num
 | .uuid,v=>v.octets
 | .str,v=>wText false v.octets
 | .cstr,v=>wText true v.octets
 | .nstr,v=>if v.isNul then wNull false 2 else wText false v.octets
 | .cnstr,v=>if v.isNul then wNull true 2 else wText true v.octets
 | .bytes,v=>wBytes false v.octets
 | .cbytes,v=>wBytes true v.octets
 | .nbytes,v=>if v.isNul then wNull false 4 else wBytes false v.octets
 | .cnbytes,v=>if v.isNul then wNull true 4 else wBytes true v.octets
def zr_ (fx:Bool) (ver:Int):Ty->PF
 | .prim p=>js_ p
 | .str nul=>strPF (zm_ nul ver) fx
 | .bytes nul=>zh_ nul.isSome fx
 | _=>.bool
def wTag (p:Nat × Bs):Bs:=uvar p.1++(uvar (w32 p.2.length)++p.2)
def qz_ (t:List (Nat × Bs)):Bs:=(t.map wTag).flatten
def jn_ (fx:Bool) (t:List (Nat × Bs)):Bs:=if fx then uvar (w32 t.length)++qz_ t else []
def zy_ (fx:Bool) (tg t:List (Nat × Bs)):Bs:=if fx then uvar (w32 (tg.length + t.length))++(qz_ tg++qz_ t) else []
theorem wTail_nil (fx:Bool) (t:List (Nat × Bs)):zy_ fx [] t=jn_ fx t:=by simp [zy_,jn_,qz_]
def leafDf:Ty->Int->V->Bool
 | .prim .uuid,_,v=>v.octets.all fun b=>b == 0
 | .prim _,df,v=>v.num == df
 | .str none,_,v=>v.octets.isEmpty
 | .str (some _),_,v=>v.isNul
 | .bytes _,_,v=>v.isNul
 | _,_,_=>false
def fldsDf:Fds->List V->Bool
 | .nil,_=>true
 | .cons _ _ _ df _ ty r,vs=>leafDf ty df (vs.headD .nul) && fldsDf r vs.tail
def isDf:Ty->Int->V->Bool
 | .list _ _ _,_,v=>v.list.isEmpty
 | .struct none _ fs,_,v=>fldsDf fs v.fields && v.tags.isEmpty
 | .struct (some _) _ _,_,v=>v.isNul
 | ty,df,v=>leafDf ty df v
def wMany (f:V->Bs) (l:List V):Bs:=(l.map f).flatten
mutual
def jl_ (fx:Bool) (ver:Int):Ty->V->Bs
 | .prim p,v=>(zr_ fx ver (.prim p)).wr v
 | .str nul,v=>(zr_ fx ver (.str nul)).wr v
 | .bytes nul,v=>(zr_ fx ver (.bytes nul)).wr v
 | .list nul _ e,v=>(if zm_ nul ver && v.isNul then wNull fx 4 else wCnt fx v.list.length)++wMany (jl_ fx ver e) v.list
 | .struct none _ fs,v=>wrFds fx ver fs v.fields++zy_ fx (wrTgd fx ver fs v.fields) v.tags
 | .struct (some _) _ fs,v=>if v.isNul then [255] else 1 :: (wrFds fx ver fs v.fields++zy_ fx (wrTgd fx ver fs v.fields) v.tags)
def wrFds (fx:Bool) (ver:Int):Fds->List V->Bs
 | .nil,_=>[]
 | .cons lo hi tag _ _ ty r,vs=>(if tag.isNone && has lo hi ver then jl_ fx ver ty (vs.headD .nul) else [])++wrFds fx ver r vs.tail
def wrTgd (fx:Bool) (ver:Int):Fds->List V->List (Nat × Bs)
 | .nil,_=>[]
 | .cons _ _ tag df _ ty r,vs=>(match tag with | some k=>if isDf ty df (vs.headD .nul) then [] else [(k,jl_ fx ver ty (vs.headD .nul))] | none=>[])++wrTgd fx ver r vs.tail
end
theorem wrTgd_plain (fx:Bool) (ver:Int):∀ (fs:Fds) (vs:List V),fs.tagged=false->wrTgd fx ver fs vs=[]
 | .nil,_,_=>by simp only [wrTgd]
 | .cons _ _ tag _ _ _ r,vs,h=>by
  simp only [Fds.tagged,Bool.or_eq_false_iff] at h
  cases tag with
  | some _=>cases h.1
  | none=>simp only [wrTgd,wrTgd_plain fx ver r vs.tail h.2,List.append_nil]
def wrMsg (kept hf:Bool) (flex:Nat) (fs:Fds) (ver:Int) (v:V):Bs:=
 (if kept then be 2 ver else [])++(wrFds (hf && decide ((flex:Int)<=ver)) ver fs v.fields++zy_ (hf && decide ((flex:Int)<=ver)) (wrTgd (hf && decide ((flex:Int)<=ver)) ver fs v.fields) v.tags)
def rdsOf (o:Oper):List Nat:=o.op.operands.toList.filterMap fun | .tmp t=>some t | _=>none
def acts (o:Oper):Bool:=
 match o.op with
 | .move _ | .pick .. | .build .. | .load .. | .nilCheck _ | .binOp .. | .unOp .. | .convert .. | .slice .. | .fieldAddr .. | .field .. | .indexAddr .. | .index .. | .extract ..=>false
 | .call c=>match c.callee with | .builtin .len=>false | _=>true
 | _=>true
def xd_ (ops:List Oper):List Bool:=
 ops.foldl (fun (acc:List Bool) o=>acc++[acts o || (acc.zip ops).any fun p=>p.1 && (match p.2.dst with | some d=>(rdsOf o).contains d | none=>false)]) []
def waits (o:Oper) (j:Nat):Bool:=o.after.any fun e=>Region.binds .any e && e.on == j
def isSel (o:Oper):Bool:=match o.op with | .select ..=>true | _=>false
def drawB (ops:List Oper) (loud:List Bool):Bool:=
 (ops.all fun o=>o.guard.isNone && !isSel o) && loud.length == ops.length &&
 ((List.range ops.length).all fun i=>
  match ops[i]?,loud[i]? with
  | some o,some l=>
   (l || (match o.dst with | some d=>!(rdsOf o).contains d | none=>false)) && (o.after.all fun e=>!Region.binds .any e || decide (e.on < i)) &&
   ((List.range ops.length).all fun j=>
    match ops[j]?,loud[j]? with
    | some p,some m=>
     decide (i=j) ||
     ((match p.dst with
      | some d=>
       (!(rdsOf o).contains d || (!m && decide (j < i) && waits o j) || (m && (l || waits p i))) &&
       (l || o.dst != some d)
      | none=>true) &&
     (!(l && m && decide (j < i)) || waits o j || (List.range ops.length).any fun k=>decide (j < k) && decide (k < i) && (loud[k]?).getD false))
    | _,_=>false)
  | _,_=>false)
section
variable {P:Program}
def evF (P:Program) (I:World->Prop):List Oper->Act->(Act->Prop)->Prop
 | [],a,K=>K a
 | o :: r,a,K=>∃ v,(∀ w,I w->(execOp a.eval o).run P w=.ok (.value v) w)/\evF P I r (a.put o.dst v) K
def wpLd (P:Program) (I:World->Prop) (Q:Exit->Act->World->Prop):List Oper->Act->World->Prop
 | [],a,w=>I w/\Q .normal a w
 | o :: r,a,w=>I w/\o.wp P a w (wpLd P I Q r) (fun _ _ _=>False)
theorem wpLd_I {I:World->Prop} {Q:Exit->Act->World->Prop} {l:List Oper} {a:Act} {w:World} (h:wpLd P I Q l a w):I w:=by
 cases l <;> exact h.1
theorem execOp_reads (o:Oper) (hs:isSel o=false) (a b:Act) (h:∀ t ∈ rdsOf o,a.tmps.getD t undef=b.tmps.getD t undef):execOp a.eval o=execOp b.eval o:=by
 refine execOp_congr o (fun cs bl hc=>by simp [isSel,hc] at hs) fun x hx=>?_
 cases x with
 | tmp t=>exact h t (List.mem_filterMap.2 ⟨.tmp t,by simpa using hx,rfl⟩)
 | _=>rfl
theorem getD_put (a:Act) (d:Option Nat) (v:Value) (t:Nat) (h:d ≠ some t):(a.put d v).tmps.getD t undef=a.tmps.getD t undef:=by
 cases d with
 | none=>rfl
 | some d=>
  have:d ≠ t:=fun e=>h (by rw [e])
  simp [Act.put,Array.getElem?_setIfInBounds_ne this]
theorem put_agree (a b:Act) (hsz:a.tmps.size=b.tmps.size) (d:Option Nat) (v:Value) (t:Nat) (h:d=some t \/ a.tmps.getD t undef=b.tmps.getD t undef) :
  (a.put d v).tmps.getD t undef=(b.put d v).tmps.getD t undef:=by
 by_cases hd:d=some t
 ·subst hd
  simp [Act.put,Array.getElem?_setIfInBounds,hsz]
 ·rw [getD_put a d v t hd,getD_put b d v t hd]
  exact h.resolve_left hd
theorem wp_congr_reads {o:Oper} (hs:isSel o=false) {a b:Act} {w:World} {K K':Act->World->Prop} {Q':Exit->Act->World->Prop} (h:∀ t ∈ rdsOf o,a.tmps.getD t undef=b.tmps.getD t undef)
  (hd:a.defers=b.defers) (hK:∀ ds v w',K (({ a with defers:=ds }:Act).put o.dst v) w'->K' (({ b with defers:=ds }:Act).put o.dst v) w')
  (hh:o.wp P a w K (fun _ _ _=>False)):o.wp P b w K' Q':=by
 unfold Oper.wp at *
 rw [<- execOp_reads o hs a b h]
 generalize (execOp a.eval o).run P w=r at *
 have hK0:∀ v w',K (a.put o.dst v) w'->K' (b.put o.dst v) w':=fun v w' hk=>by
  have:=hK a.defers v w' hk
  rw [hd] at this
  exact this
 cases r with
 | ok n w'=>
  cases n with
  | value v=>exact hK0 v w' hh
  | skip=>exact hK0 undef w' hh
  | enter f args=>
   refine Calls.mono hh fun e w'' he=>?_
   cases e with
   | returned v=>exact hK0 v w'' he
   | panicked c=>exact he.elim
   | outgrown=>obtain ⟨_,_,hf⟩:=he;exact hf.elim
  | row row args=>exact Rows.mono hh fun v w'' he=>hK0 v w'' he
  | defer d=>
   have:=hK (d :: a.defers) undef w' hh
   rw [hd] at this
   exact this
  | _=>exact hh.elim
 | halt x w'=>
  cases x <;> exact hh.elim
structure DInv (ops:List Oper) (loud:List Bool) (a0:Act) (af:Act) (n:Nat) (listed:Array Bool) (a:Act):Prop where
 size:listed.size=ops.length
 asz:a.tmps.size=af.tmps.size
 defers:a.defers=af.defers
 chain:∀ i:Nat,loud[i]?=some true->(listed.getD i false=true ↔ i < n)
 closed:∀ (i:Nat) o,ops[i]?=some o->listed.getD i false=true->∀ j,waits o j=true->listed.getD j false=true
 agree:∀ t,(∀ (i:Nat) o,ops[i]?=some o->loud[i]?=some false->listed.getD i false=false->o.dst ≠ some t)->a.tmps.getD t undef=af.tmps.getD t undef
 orig:∀ t,(∀ (i:Nat) o,ops[i]?=some o->listed.getD i false=true->o.dst ≠ some t)->a.tmps.getD t undef=a0.tmps.getD t undef
structure DrawOk (ops:List Oper) (loud:List Bool):Prop where
 len:loud.length=ops.length
 guard:∀ (i:Nat) (o:Oper),ops[i]?=some o->o.guard=none/\isSel o=false
 hasDst:∀ (i:Nat) (o:Oper),ops[i]?=some o->loud[i]?=some false->∃ d,o.dst=some d/\d ∉ rdsOf o
 lower:∀ (i:Nat) (o:Oper),ops[i]?=some o->∀ j,waits o j=true->j < i
 reads:∀ (i:Nat) (o:Oper) (j:Nat) (p:Oper) (d:Nat),ops[i]?=some o->ops[j]?=some p->i ≠ j->p.dst=some d->d ∈ rdsOf o ->
  (loud[j]?=some false/\j < i/\waits o j=true) \/ (loud[j]?=some true/\(loud[i]?=some true \/ waits p i=true))
 apart:∀ (i:Nat) (o:Oper) (j:Nat) (p:Oper) (d:Nat),ops[i]?=some o->ops[j]?=some p->i ≠ j->p.dst=some d->loud[i]?=some false->o.dst ≠ some d
 chain:∀ (i:Nat) (o:Oper) (j:Nat),ops[i]?=some o->loud[i]?=some true->loud[j]?=some true->j < i->waits o j=true \/ ∃ k:Nat,j < k/\k < i/\loud[k]?=some true
theorem drawB_ok {ops:List Oper} {loud:List Bool} (h:drawB ops loud=true):DrawOk ops loud:=by
 simp only [drawB,Bool.and_eq_true,List.all_eq_true,List.mem_range,beq_iff_eq] at h
 obtain ⟨⟨hg,hl⟩,hh⟩:=h
 have key:∀ (i:Nat) (o:Oper),ops[i]?=some o->∃ l,loud[i]?=some l:=by
  intro i o ho
  have:i < loud.length:=by rw [hl];exact (List.getElem?_eq_some_iff.1 ho).1
  exact ⟨_,List.getElem?_eq_getElem this⟩
 have row:∀ (i:Nat) (o:Oper) (l:Bool),ops[i]?=some o->loud[i]?=some l->_:=fun i o l ho hlo=>by
  have h1:=hh i (List.getElem?_eq_some_iff.1 ho).1
  rw [ho,hlo] at h1
  simp only [Bool.and_eq_true,List.all_eq_true,List.mem_range] at h1
  exact h1
 have cell:∀ (i:Nat) (o:Oper) (l:Bool) (j:Nat) (p:Oper) (m:Bool),ops[i]?=some o->loud[i]?=some l->ops[j]?=some p->loud[j]?=some m->_:=fun i o l j p m ho hlo hp hm=>by
  have h1:=(row i o l ho hlo).2 j (List.getElem?_eq_some_iff.1 hp).1
  rw [hp,hm] at h1
  exact h1
 refine ⟨hl,fun i o ho=>?_,fun i o ho hlo=>?_,fun i o ho j hw=>?_,fun i o j p d ho hp hij hd hr=>?_,fun i o j p d ho hp hij hd hlo=>?_,fun i o j ho hlo hlj hji=>?_⟩
 ·have:=hg o (List.mem_of_getElem? ho)
  simpa [Option.isNone_iff_eq_none] using this
 ·have:=(row i o false ho hlo).1.1
  cases hd:o.dst with
  | none=>rw [hd] at this;simp at this
  | some d=>rw [hd] at this;exact ⟨d,rfl,by simpa using this⟩
 ·obtain ⟨l,hlo⟩:=key i o ho
  have h1:=(row i o l ho hlo).1.2
  unfold waits at hw
  obtain ⟨e,he,hb⟩:=Array.any_eq_true'.1 hw
  simp only [Bool.and_eq_true,beq_iff_eq] at hb
  have h2:=Array.all_eq_true'.1 h1 e he
  simp only [hb.1,Bool.not_true,Bool.false_or,decide_eq_true_eq] at h2
  omega
 ·obtain ⟨l,hlo⟩:=key i o ho
  obtain ⟨m,hlm⟩:=key j p hp
  have h1:=cell i o l j p m ho hlo hp hlm
  simp only [hd,hij,decide_false,Bool.false_or,Bool.and_eq_true,Bool.or_eq_true,List.contains_eq_mem,hr,decide_true,Bool.not_true,Bool.not_eq_true',decide_eq_true_eq] at h1
  rcases h1.1.1 with ⟨⟨h2,h3⟩,h4⟩ | ⟨h2,h3⟩
  ·subst h2;exact .inl ⟨hlm,h3,h4⟩
  ·subst h2
   refine .inr ⟨hlm,?_⟩
   rcases h3 with h3 | h3
   ·subst h3;exact .inl hlo
   ·exact .inr h3
 ·obtain ⟨m,hlm⟩:=key j p hp
  have h1:=cell i o false j p m ho hlo hp hlm
  simp only [hd,hij,decide_false,Bool.false_or,Bool.and_eq_true] at h1
  simpa using h1.1.2
 ·have hjl:j < ops.length:=by rw [<- hl];exact (List.getElem?_eq_some_iff.1 hlj).1
  have hp:ops[j]?=some ops[j]:=List.getElem?_eq_getElem hjl
  have h1:=cell i o true j _ true ho hlo hp hlj
  have hij:i ≠ j:=by omega
  simp only [hij,decide_false,Bool.false_or,Bool.and_eq_true,hji,decide_true,Bool.not_true,Bool.or_eq_true,Bool.true_and] at h1
  rcases h1.2 with h2 | h2
  ·exact .inl h2
  ·obtain ⟨k,hk,hk2⟩:=List.any_eq_true.1 h2
   simp only [Bool.and_eq_true,decide_eq_true_eq] at hk2
   refine .inr ⟨k,hk2.1.1,hk2.1.2,?_⟩
   cases hc:loud[k]? with
   | none=>rw [hc] at hk2;simp at hk2
   | some x=>rw [hc] at hk2;simp at hk2;rw [hk2.2]
def FreeOk (P:Program) (I:World->Prop) (ops:List Oper) (loud:List Bool) (a0 af:Act):Prop:=
 ∀ (i:Nat) (o:Oper),ops[i]?=some o->loud[i]?=some false->∃ v,(∀ b:Act,b.tmps.size=af.tmps.size->∀ d,o.dst=some d->(b.put o.dst v).tmps.getD d undef=af.tmps.getD d undef) /\
  ∀ w,I w->∀ b:Act,(∀ t ∈ rdsOf o,(∃ (j:Nat) (p:Oper),ops[j]?=some p/\loud[j]?=some false/\p.dst=some t)->b.tmps.getD t undef=af.tmps.getD t undef) ->
   (∀ t ∈ rdsOf o,(¬ ∃ (j:Nat) (p:Oper),ops[j]?=some p/\loud[j]?=some false/\p.dst=some t)->b.tmps.getD t undef=a0.tmps.getD t undef)->(execOp b.eval o).run P w=.ok (.value v) w
def xc_:List Oper->List Bool->List Oper
 | o :: r,l :: m=>if l then xc_ r m else o :: xc_ r m
 | _,_=>[]
def j9_:List Oper->List Bool->List Oper
 | o :: r,l :: m=>if l then o :: j9_ r m else j9_ r m
 | _,_=>[]
theorem evF_ok {I:World->Prop} {ops:List Oper} {loud:List Bool} (hd:DrawOk ops loud) (a0:Act) (K:Act->Prop):∀ (r:List Oper) (m:List Bool) (k:Nat) (a:Act),r.length=m.length ->
  (∀ i,r[i]?=ops[k + i]?)->(∀ i,m[i]?=loud[k + i]?)->(∀ t,(∀ (j:Nat) (p:Oper),j < k->ops[j]?=some p->loud[j]?=some false->p.dst ≠ some t)->a.tmps.getD t undef=a0.tmps.getD t undef) ->
  evF P I (xc_ r m) a K ->
  ∃ af,K af/\af.tmps.size=a.tmps.size/\af.defers=a.defers/\(∀ t,(∀ (j:Nat) (p:Oper),k<=j->ops[j]?=some p->loud[j]?=some false->p.dst ≠ some t)->af.tmps.getD t undef=a.tmps.getD t undef) /\
   (∀ (i:Nat) (o:Oper),k<=i->ops[i]?=some o->loud[i]?=some false->∃ v,(∀ b:Act,b.tmps.size=af.tmps.size->∀ d,o.dst=some d->(b.put o.dst v).tmps.getD d undef=af.tmps.getD d undef) /\
    ∀ w,I w->∀ b:Act,(∀ t ∈ rdsOf o,(∃ (j:Nat) (p:Oper),ops[j]?=some p/\loud[j]?=some false/\p.dst=some t)->b.tmps.getD t undef=af.tmps.getD t undef) ->
     (∀ t ∈ rdsOf o,(¬ ∃ (j:Nat) (p:Oper),ops[j]?=some p/\loud[j]?=some false/\p.dst=some t)->b.tmps.getD t undef=a0.tmps.getD t undef)->(execOp b.eval o).run P w=.ok (.value v) w)
 | [],m,k,a,hl,hr,_,_,h=>by
  obtain rfl:m=[]:=by cases m;rfl;simp at hl
  refine ⟨a,h,rfl,rfl,fun _ _=>rfl,fun i o hi ho=>?_⟩
  have:=hr (i - k)
  rw [show k + (i - k)=i by omega,ho] at this
  simp at this
 | o :: r,l :: m,k,a,hl,hr,hm,ha,h=>by
  have ho:ops[k]?=some o:=by have:=hr 0;simpa using this.symm
  have hlk:loud[k]?=some l:=by have:=hm 0;simpa using this.symm
  have hr':∀ i,r[i]?=ops[k + 1 + i]?:=fun i=>by have:=hr (i + 1);simp only [List.getElem?_cons_succ] at this;rw [this];congr 1;omega
  have hm':∀ i,m[i]?=loud[k + 1 + i]?:=fun i=>by have:=hm (i + 1);simp only [List.getElem?_cons_succ] at this;rw [this];congr 1;omega
  cases l with
  | true=>
   simp only [xc_,if_true] at h
   obtain ⟨af,h1,h2,h3,h4,h5⟩:=evF_ok hd a0 K r m (k + 1) a (by simpa using hl) hr' hm' (fun t ht=>ha t fun j p hj hp hlj=>ht j p (by omega) hp hlj) h
   refine ⟨af,h1,h2,h3,fun t ht=>h4 t fun j p hj=>ht j p (by omega),fun i o' hi ho' hli=>h5 i o' ?_ ho' hli⟩
   rcases Nat.lt_or_ge k i with hk | hk
   ·exact hk
   ·obtain rfl:i=k:=by omega
    rw [hlk] at hli;cases hli
  | false=>
   simp only [xc_] at h
   obtain ⟨v,hv,h⟩:=h
   obtain ⟨d,hdst,hself⟩:=hd.hasDst k o ho hlk
   obtain ⟨af,h1,h2,h3,h4,h5⟩:=evF_ok hd a0 K r m (k + 1) (a.put o.dst v) (by simpa using hl) hr' hm' (fun t ht=>by
    rw [getD_put _ _ _ _ (ht k o (by omega) ho hlk)]
    exact ha t fun j p hj hp hlj=>ht j p (by omega) hp hlj) h
   have hsz:(a.put o.dst v).tmps.size=a.tmps.size:=by rw [hdst];simp [Act.put]
   have hdf:(a.put o.dst v).defers=a.defers:=by rw [hdst];rfl
   have hlater:∀ (j:Nat) (p:Oper),k + 1<=j->ops[j]?=some p->loud[j]?=some false->p.dst ≠ some d:=fun j p hj hp hlj hpd=>
    hd.apart j p k o d hp ho (by omega) hdst hlj hpd
   refine ⟨af,h1,h2.trans hsz,h3.trans hdf,fun t ht=>?_,fun i o' hi ho' hli=>?_⟩
   ·rw [h4 t fun j p hj=>ht j p (by omega),getD_put _ _ _ _ (ht k o (Nat.le_refl _) ho hlk)]
   ·rcases Nat.lt_or_ge k i with hk | hk
    ·exact h5 i o' hk ho' hli
    ·obtain rfl:i=k:=by omega
     obtain rfl:o'=o:=Option.some.inj (ho'.symm.trans ho)
     refine ⟨v,fun b hb d' hd'=>?_,fun w hI b hb1 hb2=>?_⟩
     ·obtain rfl:d'=d:=Option.some.inj (hd'.symm.trans hdst)
      rw [h4 d' hlater]
      exact put_agree b a (by rw [hb,h2,hsz]) o'.dst v d' (.inl hdst)
     ·rw [<- hv w hI]
      congr 1
      refine execOp_reads o' (hd.guard i o' ho).2 b a fun t ht=>?_
      by_cases hex:∃ (j:Nat) (p:Oper),ops[j]?=some p/\loud[j]?=some false/\p.dst=some t
      ·rw [hb1 t ht hex]
       obtain ⟨j,p,hp,hlj,hpd⟩:=hex
       by_cases hij:i=j
       ·subst hij
        obtain rfl:p=o':=Option.some.inj (hp.symm.trans ho)
        obtain rfl:d=t:=Option.some.inj (hdst.symm.trans hpd)
        exact absurd ht hself
       ·rcases hd.reads i o' j p t ho hp hij hpd ht with ⟨_,hji,_⟩ | ⟨hlt,_⟩
        ·rw [h4 t fun j' p' hj' hp' hlj' hpd'=>?_]
         ·rw [getD_put _ _ _ _ (fun e=>?_)]
          exact hd.apart i o' j p t ho hp hij hpd hlk e
         ·have hjj:j' ≠ j:=by omega
          exact hd.apart j' p' j p t hp' hp hjj hpd hlj' hpd'
        ·rw [hlj] at hlt;cases hlt
      ·rw [hb2 t ht hex]
       exact (ha t fun j p hj hp hlj hpd=>hex ⟨j,p,hp,hlj,hpd⟩).symm
 | _ :: _,[],_,_,hl,_,_,_,_=>by simp at hl
def unl (n:Nat) (listed:Array Bool):Nat:=(List.range n).countP fun i=>!listed.getD i true
theorem unl_set {n i:Nat} {listed:Array Bool} (hi:i < n) (hs:listed.size=n) (h:listed.getD i true=false):unl n (listed.setIfInBounds i true) < unl n listed:=by
 unfold unl
 have key:∀ m,m<=n->(List.range m).countP (fun j=>!(listed.setIfInBounds i true).getD j true) + (if i < m then 1 else 0)=(List.range m).countP (fun j=>!listed.getD j true):=by
  intro m
  induction m with
  | zero=>intro _;simp
  | succ m ih=>
   intro hm
   rw [List.range_succ,List.countP_append,List.countP_append]
   have:=ih (by omega)
   by_cases e:i=m
   ·subst e
    have e1:(listed.setIfInBounds i true).getD i true=true:=by simp [hs,hi]
    simp only [Nat.lt_irrefl,if_false,Nat.add_zero] at this
    simp only [List.countP_cons,List.countP_nil,e1,h,this]
    simp
   ·rw [List.countP_cons,List.countP_cons,getD_set_ne true e]
    by_cases hlt:i < m
    ·have:i < m + 1:=by omega
     simp_all
     omega
    ·have:¬ i < m + 1:=by omega
     simp_all
 have:=key n (Nat.le_refl n)
 rw [if_pos hi] at this
 omega
theorem loudsOf_cons {ops:List Oper} {loud:List Bool} (hl:loud.length=ops.length):∀ (n:Nat),(∃ i o,n<=i/\ops[i]?=some o/\loud[i]?=some true/\(∀ j,n<=j->j < i->loud[j]?=some false) /\
   j9_ (ops.drop n) (loud.drop n)=o :: j9_ (ops.drop (i + 1)) (loud.drop (i + 1))) \/
  (j9_ (ops.drop n) (loud.drop n)=[]/\∀ j,n<=j->loud[j]? ≠ some true):=by
 intro n
 generalize hd:ops.length - n=d
 induction d generalizing n with
 | zero=>
  right
  have h1:ops.drop n=[]:=List.drop_eq_nil_of_le (by omega)
  refine ⟨by rw [h1];simp [j9_],fun j hj=>?_⟩
  rw [List.getElem?_eq_none (by omega)]
  simp
 | succ d ih=>
  have hn:n < ops.length:=by omega
  have hn2:n < loud.length:=by omega
  rw [List.drop_eq_getElem_cons hn,List.drop_eq_getElem_cons hn2]
  have ho:ops[n]?=some ops[n]:=List.getElem?_eq_getElem hn
  have hlo:loud[n]?=some loud[n]:=List.getElem?_eq_getElem hn2
  cases hc:loud[n] with
  | true=>
   left
   refine ⟨n,ops[n],Nat.le_refl _,ho,by rw [hlo,hc],fun j h1 h2=>by omega,?_⟩
   simp [j9_]
  | false=>
   simp only [j9_]
   rcases ih (n + 1) (by omega) with ⟨i,o,h1,h2,h3,h4,h5⟩ | ⟨h1,h2⟩
   ·left
    refine ⟨i,o,by omega,h2,h3,fun j hj hji=>?_,h5⟩
    by_cases e:j=n
    ·subst e;rw [hlo,hc]
    ·exact h4 j (by omega) hji
   ·right
    refine ⟨h1,fun j hj=>?_⟩
    by_cases e:j=n
    ·subst e;rw [hlo,hc];simp
    ·exact h2 j (by omega)
theorem draw_any {I:World->Prop} {Q:Exit->Act->World->Prop} {ops:List Oper} {loud:List Bool} (hd:DrawOk ops loud) {a0 af0:Act} (hF:FreeOk P I ops loud a0 af0) :
  ∀ (fuel:Nat) (listed:Array Bool) (a af:Act) (w:World) (n:Nat),unl ops.length listed<=fuel->DInv ops loud a0 af n listed a->af.tmps.size=af0.tmps.size ->
   (∀ (i:Nat) (o:Oper) (d:Nat),ops[i]?=some o->loud[i]?=some false->o.dst=some d->af.tmps.getD d undef=af0.tmps.getD d undef) ->
   wpLd P I Q (j9_ (ops.drop n) (loud.drop n)) af w->wpAny P .any ops.toArray Q fuel listed a w:=by
 have done:∀ (listed:Array Bool) (a af:Act) (w:World) (n:Nat),DInv ops loud a0 af n listed a->wpLd P I Q (j9_ (ops.drop n) (loud.drop n)) af w->Region.ready .any ops.toArray listed=[]->Q .normal a w:=by
  intro listed a af w n inv hw hr
  have all:∀ i,i < ops.length->listed.getD i false=true:=by
   intro i
   induction i using Nat.strongRecOn with
   | _ i ih=>
    intro hi
    cases hc:listed.getD i false with
    | true=>rfl
    | false=>
     exfalso
     have ho:ops[i]?=some ops[i]:=List.getElem?_eq_getElem hi
     have:i ∈ Region.ready .any ops.toArray listed:=by
      rw [mem_ready]
      refine ⟨getD_in (by rw [inv.size];exact hi) hc,ops[i],by simp,fun e he hb=>?_⟩
      have hlt:=hd.lower i _ ho e.on (by unfold waits;exact Array.any_eq_true'.2 ⟨e,he,by simp [hb]⟩)
      exact ih e.on hlt (by omega)
     rw [hr] at this
     cases this
  have hnone:j9_ (ops.drop n) (loud.drop n)=[]:=by
   rcases loudsOf_cons hd.len n with ⟨i,o,h1,h2,h3,_⟩ | ⟨h1,_⟩
   ·have:=(inv.chain i h3).1 (all i (List.getElem?_eq_some_iff.1 h2).1)
    omega
   ·exact h1
  rw [hnone] at hw
  have e:a=af:=by
   obtain ⟨t1,d1⟩:=a
   obtain ⟨t2,d2⟩:=af
   have e1:d1=d2:=inv.defers
   have e2:t1=t2:=by
    apply Array.ext inv.asz
    intro i h1 h2
    have:=inv.agree i (fun j o ho _ hu=>by rw [all j (List.getElem?_eq_some_iff.1 ho).1] at hu;cases hu)
    simpa [h1,h2] using this
   rw [e1,e2]
  rw [e]
  exact hw.2
 intro fuel
 induction fuel with
 | zero=>
  intro listed a af w n hu inv _ _ hw
  have hr:Region.ready .any ops.toArray listed=[]:=by
   cases hr:Region.ready .any ops.toArray listed with
   | nil=>rfl
   | cons i r=>
    have hi:i ∈ Region.ready .any ops.toArray listed:=by rw [hr];exact List.mem_cons_self
    obtain ⟨h1,o,ho,_⟩:=mem_ready.1 hi
    have:=unl_set (n:=ops.length) (List.getElem?_eq_some_iff.1 (by simpa using ho:ops[i]?=some o)).1 inv.size h1
    omega
  exact ⟨hr,done listed a af w n inv hw hr⟩
 | succ fuel ih=>
  intro listed a af w n hu inv hsz hfix hw
  refine ⟨done listed a af w n inv hw,fun i hi=>?_⟩
  obtain ⟨hun,o,ho0,hall⟩:=mem_ready.1 hi
  have ho:ops[i]?=some o:=by simpa using ho0
  have hil:i < ops.length:=(List.getElem?_eq_some_iff.1 ho).1
  have hlt:i < loud.length:=by rw [hd.len];exact hil
  have hu':=unl_set (n:=ops.length) hil inv.size hun
  have hun':=getD_both hun
  have hwait:∀ j,waits o j=true->listed.getD j false=true:=by
   intro j hj
   unfold waits at hj
   obtain ⟨e,he,hb⟩:=Array.any_eq_true'.1 hj
   simp only [Bool.and_eq_true,beq_iff_eq] at hb
   rw [<- hb.2]
   exact hall e he hb.1
  have hset:∀ j,(listed.setIfInBounds i true).getD j false=true->j=i \/ listed.getD j false=true:=by
   intro j hj
   by_cases e:i=j
   ·exact .inl e.symm
   ·rw [getD_set_ne false e] at hj;exact .inr hj
  have hseti:(listed.setIfInBounds i true).getD i false=true:=by
   have:i < listed.size:=by rw [inv.size];exact hil
   simp [this]
  unfold wpOp
  rw [ho0]
  simp only
  rw [if_pos (by simp [Region.wanted,(hd.guard i o ho).1])]
  refine .inl ?_
  cases hlo:loud[i] with
  | false=>
   have hloi:loud[i]?=some false:=by rw [List.getElem?_eq_getElem hlt,hlo]
   obtain ⟨v,hv1,hv2⟩:=hF i o ho hloi
   obtain ⟨d,hdst,hself⟩:=hd.hasDst i o ho hloi
   have hrun:(execOp a.eval o).run P w=.ok (.value v) w:=by
    refine hv2 w (wpLd_I hw) a (fun t ht hex=>?_) (fun t ht hex=>?_)
    ·obtain ⟨j,p,hp,hlj,hpd⟩:=hex
     have hij:i ≠ j:=fun e=>by
      subst e
      obtain rfl:p=o:=Option.some.inj (hp.symm.trans ho)
      obtain rfl:d=t:=Option.some.inj (hdst.symm.trans hpd)
      exact hself ht
     rcases hd.reads i o j p t ho hp hij hpd ht with ⟨_,_,hwj⟩ | ⟨hltj,_⟩
     ·have hjl:=hwait j hwj
      rw [inv.agree t fun j' p' hp' hlj' huj' hpd'=>?_]
      ·exact hfix j p t hp hlj hpd
      ·by_cases e:j'=j
       ·subst e;rw [hjl] at huj';cases huj'
       ·exact hd.apart j' p' j p t hp' hp e hpd hlj' hpd'
     ·rw [hlj] at hltj;cases hltj
    ·refine inv.orig t fun j p hp hlj hpd=>?_
     by_cases hij:i=j
     ·subst hij;rw [hun'] at hlj;cases hlj
     ·rcases hd.reads i o j p t ho hp hij hpd ht with ⟨h1,_⟩ | ⟨hltj,h2⟩
      ·exact hex ⟨j,p,hp,h1,hpd⟩
      ·rcases h2 with h2 | h2
       ·rw [hloi] at h2;cases h2
       ·have:=inv.closed j p hp hlj i h2
        rw [hun'] at this;cases this
   unfold Oper.wp
   rw [hrun]
   show wpAny P .any ops.toArray Q fuel (listed.setIfInBounds i true) (a.put o.dst v) w
   refine ih _ _ af w n (by omega) ?_ hsz hfix hw
   have hpsz:(a.put o.dst v).tmps.size=a.tmps.size:=by rw [hdst];simp [Act.put]
   refine ⟨by simp [inv.size],hpsz.trans inv.asz,(by rw [hdst];exact inv.defers),fun j hj=>?_,fun j p hp hlj k hk=>?_,fun t ht=>?_,fun t ht=>?_⟩
   ·have hij:i ≠ j:=fun e=>by subst e;rw [hloi] at hj;cases hj
    rw [getD_set_ne false hij]
    exact inv.chain j hj
   ·rcases hset j hlj with e | e
    ·subst e
     obtain rfl:p=o:=Option.some.inj (hp.symm.trans ho)
     exact getD_set_true (hwait k hk)
    ·exact getD_set_true (inv.closed j p hp e k hk)
   ·by_cases e:d=t
    ·subst e
     rw [hv1 a (inv.asz.trans hsz) d hdst]
     exact (hfix i o d ho hloi hdst).symm
    ·rw [getD_put _ _ _ _ (by rw [hdst];simpa using e)]
     refine inv.agree t fun j p hp hlj huj=>?_
     by_cases e2:i=j
     ·subst e2
      obtain rfl:p=o:=Option.some.inj (hp.symm.trans ho)
      rw [hdst];simpa using e
     ·exact ht j p hp hlj (by rw [getD_set_ne false e2];exact huj)
   ·rw [getD_put _ _ _ _ (ht i o ho hseti)]
    exact inv.orig t fun j p hp hlj=>ht j p hp (getD_set_true hlj)
  | true=>
   have hloi:loud[i]?=some true:=by rw [List.getElem?_eq_getElem hlt,hlo]
   rcases loudsOf_cons hd.len n with ⟨k,o',h1,h2,h3,h4,h5⟩ | ⟨_,h2⟩
   ·-- the next of the chain is this one
    have hni:n<=i:=by
     rcases Nat.lt_or_ge i n with h | h
     ·have:=(inv.chain i hloi).2 h
      rw [hun'] at this;cases this
     ·exact h
    have hki:k=i:=by
     rcases Nat.lt_trichotomy k i with h | h | h
     ·exfalso
      have:∀ (m:Nat),∀ q,i - q=m->k<=q->q < i->loud[q]?=some true->False:=by
       intro m
       induction m using Nat.strongRecOn with
       | _ m ihm=>
        intro q hm hkq hqi hq
        rcases hd.chain i o q ho hloi hq hqi with hw1 | ⟨r,hr1,hr2,hr3⟩
        ·have:=(inv.chain q hq).1 (hwait q hw1)
         omega
        ·exact ihm (i - r) (by omega) r rfl (by omega) hr2 hr3
      exact this _ k rfl (Nat.le_refl _) h h3
     ·exact h
     ·have:=h4 i hni h
      rw [hloi] at this;cases this
    subst hki
    obtain rfl:o'=o:=Option.some.inj (h2.symm.trans ho)
    rw [h5] at hw
    refine wp_congr_reads (a:=af) (b:=a) (hd.guard k o' ho).2 (fun t ht=>?_) inv.defers.symm (fun ds v w' hk=>?_) hw.2
    ·refine (inv.agree t fun j p hp hlj huj hpd=>?_).symm
     have hij:k ≠ j:=fun e=>by subst e;rw [hloi] at hlj;cases hlj
     rcases hd.reads k o' j p t ho hp hij hpd ht with ⟨_,_,hwj⟩ | ⟨hltj,_⟩
     ·rw [hwait j hwj] at huj;cases huj
     ·rw [hlj] at hltj;cases hltj
    ·refine ih _ _ (({ af with defers:=ds }:Act).put o'.dst v) w' (k + 1) (by omega) ?_ ?_ (fun i' o'' d' hi' hli' hd'=>?_) hk
     ·have hps:∀ (x:Act),(({ x with defers:=ds }:Act).put o'.dst v).tmps.size=x.tmps.size:=fun x=>by cases o'.dst <;> simp [Act.put]
      have hpd:∀ (x:Act),(({ x with defers:=ds }:Act).put o'.dst v).defers=ds:=fun x=>by cases o'.dst <;> rfl
      refine ⟨by simp [inv.size],by rw [hps,hps];exact inv.asz,by rw [hpd,hpd],fun j hj=>?_,fun j p hp hlj q hq=>?_,fun t ht=>?_,fun t ht=>?_⟩
      ·by_cases e:k=j
       ·subst e;rw [hseti];simp
       ·rw [getD_set_ne false e,inv.chain j hj]
        constructor
        ·intro h;omega
        ·intro h
         rcases Nat.lt_or_ge j n with h' | h'
         ·exact h'
         ·have:=h4 j h' (by omega)
          rw [hj] at this;cases this
      ·rcases hset j hlj with e | e
       ·subst e
        obtain rfl:p=o':=Option.some.inj (hp.symm.trans ho)
        exact getD_set_true (hwait q hq)
       ·exact getD_set_true (inv.closed j p hp e q hq)
      ·refine put_agree { a with defers:=ds } { af with defers:=ds } inv.asz o'.dst v t ?_
       by_cases e:o'.dst=some t
       ·exact .inl e
       ·refine .inr (inv.agree t fun j p hp hlj huj=>?_)
        have hij:k ≠ j:=fun e=>by subst e;rw [hloi] at hlj;cases hlj
        exact ht j p hp hlj (by rw [getD_set_ne false hij];exact huj)
      ·rw [getD_put _ _ _ _ (ht k o' ho hseti)]
       exact inv.orig t fun j p hp hlj=>ht j p hp (getD_set_true hlj)
     ·have:(({ af with defers:=ds }:Act).put o'.dst v).tmps.size=af.tmps.size:=by cases o'.dst <;> simp [Act.put]
      exact this.trans hsz
     ·have hij:i' ≠ k:=fun e=>by subst e;rw [hloi] at hli';cases hli'
      rw [getD_put _ _ _ _ (fun e=>hd.apart i' o'' k o' d' hi' ho hij e hli' hd')]
      exact hfix i' o'' d' hi' hli' hd'
   ·exfalso
    have hni:n<=i:=by
     rcases Nat.lt_or_ge i n with h | h
     ·have:=(inv.chain i hloi).2 h
      rw [hun'] at this;cases this
     ·exact h
    exact h2 i hni hloi
theorem wp_draw (hm:P.follows .mixedOrders=true) {id:Nat} {l:List Oper} {loud:List Bool} (hB:drawB l loud=true) (I:World->Prop) {Q:Exit->Act->World->Prop} {a:Act} {w:World}
  (h:evF P I (xc_ l loud) a fun af=>wpLd P I Q (j9_ l loud) af w.drew):(Code.region id l.toArray true).wp P Q a w:=by
 have hd:=drawB_ok hB
 obtain ⟨af,h1,h2,h3,h4,h5⟩:=evF_ok hd a _ l loud 0 a hd.len.symm (by simp) (by simp) (fun t _=>rfl) h
 refine wp_region_any hm ?_
 refine draw_any hd (a0:=a) (af0:=af) (fun i o ho hl=>h5 i o (Nat.zero_le _) ho hl) _ _ a af _ 0 ?_ ?_ rfl (fun _ _ _ _ _ _=>rfl) (by simpa using h1)
 ·unfold unl
  exact Nat.le_trans List.countP_le_length (by simp)
 ·refine ⟨by simp,h2.symm,h3.symm,fun i hi=>?_,fun i o _ hl=>?_,fun t ht=>?_,fun t _=>rfl⟩
  ·rw [getD_replicate_false];simp
  ·rw [getD_replicate_false] at hl;cases hl
  ·exact (h4 t fun j p _ hp hlj=>ht j p hp hlj (getD_replicate_false _ _)).symm
end
def nOp:Op->Op
 | .call c=>.call { c with argTypes:=match c.callee with | .builtin _=>c.argTypes | _=>#[] }
 | .binOp o t x y _=>.binOp o t x y 0
 | o=>o
def nTy:Op->TypeId->TypeId
 | .call c,t=>match c.callee with | .builtin _=>t | _=>0
 | .next ..,t=>t
 | .go _,t=>t
 | .defer _,t=>t
 | _,_=>0
def nOper (o : Oper) : Oper := { dst := o.dst, op := nOp o.op, type := nTy o.op o.type, pos := "", after := #[], guard := o.guard }
theorem execOp_nOper (ρ:Operand->Value) (o:Oper):execOp ρ (nOper o)=execOp ρ o:=by
 obtain ⟨dst,op,type,pos,after,guard⟩:=o
 cases op <;> try rfl
 case call c=>
  obtain ⟨callee,args,argTypes⟩:=c
  cases callee <;> rfl
theorem nOper_dst (o:Oper):(nOper o).dst=o.dst:=rfl
theorem nOper_upon (P:Program) (o:Oper) (a:Act) (K:Act->World->Prop) (Q:Exit->Act->World->Prop) (r:Result Next) :
  (nOper o).upon P a K Q r=o.upon P a K Q r:=by
 cases r with
 | ok x w=>cases x <;> rfl
 | halt h w=>cases h <;> rfl
theorem nOper_wp (P:Program) (o:Oper) (a:Act) (w:World) (K:Act->World->Prop) (Q:Exit->Act->World->Prop) :
  (nOper o).wp P a w K Q=o.wp P a w K Q:=by
 unfold Oper.wp
 rw [execOp_nOper,nOper_upon]
theorem nOper_asks (P:Program) (o:Oper) (a:Act) (w:World):(nOper o).asks P a w=o.asks P a w:=by
 unfold Oper.asks
 rw [execOp_nOper]
theorem yielded_nOper (ops:Array Oper) (tmps:Array Value):yielded (ops.toList.map nOper).toArray tmps=yielded ops tmps:=by
 funext j
 have h:((ops.toList.map nOper).toArray[j]?).bind (·.dst)=(ops[j]?).bind (·.dst):=by
  simp only [List.getElem?_toArray,List.getElem?_map,Array.getElem?_toList]
  cases ops[j]? <;> rfl
 unfold yielded
 rw [h]
theorem wanted_nOper (o:Oper) (y:Nat->Option Bool):Region.wanted (nOper o) y=Region.wanted o y:=rfl
theorem wpList_nOper (P:Program) (ops:Array Oper) (Q:Exit->Act->World->Prop) (l:List Oper) :
  wpList P (ops.toList.map nOper).toArray Q (l.map nOper)=wpList P ops Q l:=by
 induction l with
 | nil=>rfl
 | cons o r ih=>
  funext a w
  simp only [List.map_cons,wpList,wanted_nOper,yielded_nOper,nOper_wp,nOper_asks,nOper_dst,ih]
theorem rdsOf_nOper (o:Oper):rdsOf (nOper o)=rdsOf o:=by
 obtain ⟨dst,op,type,pos,after,guard⟩:=o
 cases op <;> try rfl
theorem acts_nOper (o:Oper):acts (nOper o)=acts o:=by
 obtain ⟨dst,op,type,pos,after,guard⟩:=o
 cases op <;> try rfl
theorem loudOf_nOper (l:List Oper):xd_ (l.map nOper)=xd_ l:=by
 unfold xd_
 rw [List.foldl_map]
 congr 1
 funext acc o
 rw [acts_nOper]
 congr 2
 congr 1
 have:acc.zip (l.map nOper)=(acc.zip l).map (fun p=>(p.1,nOper p.2)):=by rw [List.zip_map_right];rfl
 rw [this,List.any_map]
 congr 1
 funext p
 simp only [Function.comp,nOper_dst,rdsOf_nOper]
theorem freesOf_nOper:∀ (l:List Oper) (m:List Bool),xc_ (l.map nOper) m=(xc_ l m).map nOper
 | [],_=>rfl
 | _ :: _,[]=>rfl
 | o :: r,b :: m=>by cases b <;> simp [xc_,freesOf_nOper r m]
theorem loudsOf_nOper:∀ (l:List Oper) (m:List Bool),j9_ (l.map nOper) m=(j9_ l m).map nOper
 | [],_=>rfl
 | _ :: _,[]=>rfl
 | o :: r,b :: m=>by cases b <;> simp [j9_,loudsOf_nOper r m]
theorem evF_nOper (P:Program) (I:World->Prop):∀ (l:List Oper) (a:Act) (K:Act->Prop),evF P I (l.map nOper) a K=evF P I l a K
 | [],_,_=>rfl
 | o :: r,a,K=>by
  simp only [List.map_cons,evF,execOp_nOper,nOper_dst,evF_nOper P I r]
theorem wpLd_nOper (P:Program) (I:World->Prop) (Q:Exit->Act->World->Prop):∀ (l:List Oper),wpLd P I Q (l.map nOper)=wpLd P I Q l
 | []=>rfl
 | o :: r=>by
  funext a w
  simp only [List.map_cons,wpLd,nOper_wp,wpLd_nOper P I Q r]
def markOf (d:Bool) (ops:Array Oper):Nat:=if d then (if drawB ops.toList (xd_ ops.toList) then 1 else if Region.lexB .any ops then 2 else 0) else 0
theorem quiet_nOper (P:Program) (o:Oper) (a:Act) (C:World->Prop) (K:Act->Prop):(nOper o).quiet P a C K=o.quiet P a C K:=by
 unfold Oper.quiet Oper.quietAt
 rw [execOp_nOper,nOper_dst]
theorem wpQuiet_nOper (P:Program) (ops:Array Oper) (C:World->Prop) (Q:Act->Prop):∀ (l:List Oper),wpQuiet P (ops.toList.map nOper).toArray C Q (l.map nOper)=wpQuiet P ops C Q l
 | []=>rfl
 | o :: r=>by
  funext a
  simp only [List.map_cons,wpQuiet,wanted_nOper,yielded_nOper,quiet_nOper,nOper_dst,wpQuiet_nOper P ops C Q r]
def nCode:Code->Code
 | .region _ ops d=>.region (markOf d ops) (ops.toList.map nOper).toArray d
 | .seq a b=>.seq (nCode a) (nCode b)
 | .cond c x y=>.cond c (nCode x) (nCode y)
 | .block id c=>.block id (nCode c)
 | .loop c=>.loop (nCode c)
 | .scope c=>.scope (nCode c)
 | .rangeFunc .. => .refuse ""
 | c=>c
inductive NWP (P:Program):Code->(Exit->Act->World->Prop)->Act->World->Prop
 | skip {Q:Exit->Act->World->Prop} {a:Act} {w:World}:Q .normal a w->NWP P .skip Q a w
 | label {l:Nat} {Q:Exit->Act->World->Prop} {a:Act} {w:World}:Q .normal a w->NWP P (.label l) Q a w
 | exit {id:Nat} {Q:Exit->Act->World->Prop} {a:Act} {w:World}:Q (.exit id) a w->NWP P (.exit id) Q a w
 | goto {l:Nat} {Q:Exit->Act->World->Prop} {a:Act} {w:World}:Q (.goto l) a w->NWP P (.goto l) Q a w
 | ret {Q:Exit->Act->World->Prop} {a:Act} {w:World}:Q .ret a w->NWP P .ret Q a w
 | reg {id:Nat} {l:List Oper} {Q:Exit->Act->World->Prop} {a:Act} {w:World}:wpList P l.toArray Q l a w->NWP P (.region id l.toArray false) Q a w
 | drw {l:List Oper} {Q:Exit->Act->World->Prop} {a:Act} {w:World} (I:World->Prop) :
   evF P I (xc_ l (xd_ l)) a (fun af=>wpLd P I Q (j9_ l (xd_ l)) af w.drew)->NWP P (.region 1 l.toArray true) Q a w
 | drq {l:List Oper} {Q:Exit->Act->World->Prop} {a:Act} {w:World} (C:World->Prop):C w.drew ->
   wpQuiet P l.toArray C (fun a'=>∀ w',C w'->Q .normal a' w') l a->NWP P (.region 2 l.toArray true) Q a w
 | seq {x y:Code} {Q R:Exit->Act->World->Prop} {a:Act} {w:World}:NWP P x R a w->(∀ a w,R .normal a w->NWP P y Q a w) ->
   (∀ e a w,e ≠ .normal->R e a w->Q e a w)->NWP P (.seq x y) Q a w
 | condT {c:Operand} {x y:Code} {Q:Exit->Act->World->Prop} {a:Act} {w:World}:a.eval c=.bool true->NWP P x Q a w->NWP P (.cond c x y) Q a w
 | condF {c:Operand} {x y:Code} {Q:Exit->Act->World->Prop} {a:Act} {w:World}:a.eval c=.bool false->NWP P y Q a w->NWP P (.cond c x y) Q a w
 | block {id:Nat} {c:Code} {Q:Exit->Act->World->Prop} {a:Act} {w:World}:NWP P c (Exit.inBlock id Q) a w->NWP P (.block id c) Q a w
 | loop {c:Code} {Q:Exit->Act->World->Prop} {a:Act} {w:World} (I:Act->World->Prop) (μ:Act->World->Nat):I a w ->
   (∀ a w,I a w->NWP P c (Exit.then (fun a' w'=>I a' w'/\μ a' w' < μ a w) Q) a w)->NWP P (.loop c) Q a w
 | scope {c rest:Code} {Q:Exit->Act->World->Prop} {a:Act} {w:World} (l:Nat) (J:Act->World->Prop) (μ:Act->World->Nat):findLabel c l=some rest ->
   NWP P c (Exit.jump l J Q) a w->(∀ a w,J a w->NWP P rest (Exit.jump l (fun a' w'=>J a' w'/\μ a' w' < μ a w) Q) a w)->NWP P (.scope c) Q a w
 | mono {c:Code} {Q R:Exit->Act->World->Prop} {a:Act} {w:World}:NWP P c R a w->(∀ e a w,R e a w->Q e a w)->NWP P c Q a w
theorem findLabel_nCode (l:Nat):∀ (c rest:Code),findLabel (nCode c) l=some rest->∃ r,findLabel c l=some r/\rest=nCode r:=by
 intro c
 induction c with
 | seq x y ihx ihy=>
  intro rest h
  simp only [nCode,findLabel] at h
  cases hx:findLabel (nCode x) l with
  | some r=>
   rw [hx] at h
   obtain ⟨r0,h0,rfl⟩:=ihx r hx
   obtain rfl:=Option.some.inj h
   exact ⟨.seq r0 y,by simp [findLabel,h0],rfl⟩
  | none=>
   rw [hx] at h
   obtain ⟨r0,h0,rfl⟩:=ihy rest h
   have hn:findLabel x l=none:=by
    cases hxx:findLabel x l with
    | none=>rfl
    | some r=>
     exfalso
     have:∀ (c r:Code),findLabel c l=some r->∃ r',findLabel (nCode c) l=some r':=by
      intro c
      induction c with
      | seq a b iha ihb=>
       intro r hr
       simp only [findLabel] at hr
       cases ha:findLabel a l with
       | some q=>obtain ⟨q',hq⟩:=iha q ha;exact ⟨.seq q' (nCode b),by simp [nCode,findLabel,hq]⟩
       | none=>
        rw [ha] at hr
        obtain ⟨q',hq⟩:=ihb r hr
        cases hna:findLabel (nCode a) l with
        | some z=>exact ⟨.seq z (nCode b),by simp [nCode,findLabel,hna]⟩
        | none=>exact ⟨q',by simp [nCode,findLabel,hna,hq]⟩
      | label l'=>intro r hr;exact ⟨r,hr⟩
      | _=>intro r hr;simp [findLabel] at hr
     obtain ⟨r',hr'⟩:=this x r hxx
     rw [hx] at hr'
     cases hr'
   exact ⟨r0,by simp [findLabel,hn,h0],rfl⟩
 | label l'=>
  intro rest h
  simp only [nCode,findLabel] at h ⊢
  split at h
  ·rename_i he
   obtain rfl:=Option.some.inj h
   exact ⟨.skip,by simp [he],rfl⟩
  ·cases h
 | _=>intro rest h;simp [nCode,findLabel] at h
theorem NWP.sound {P:Program} (hm:P.follows .mixedOrders=true) {d:Code} {Q:Exit->Act->World->Prop} {a:Act} {w:World} (h:NWP P d Q a w) :
  ∀ c,d=nCode c->c.wp P Q a w:=by
 induction h with
 | skip hq=>intro c hc;cases c <;> simp [nCode] at hc;exact wp_skip hq
 | label hq=>intro c hc;cases c <;> simp [nCode] at hc;exact wp_label hq
 | exit hq=>intro c hc;cases c <;> simp [nCode] at hc;subst hc;exact wp_exit hq
 | goto hq=>intro c hc;cases c <;> simp [nCode] at hc;subst hc;exact wp_goto hq
 | ret hq=>intro c hc;cases c <;> simp [nCode] at hc;exact wp_ret hq
 | @reg id l Q a w hq=>
  intro c hc
  cases c with
  | region id' ops dr=>
   simp only [nCode,Code.region.injEq] at hc
   obtain ⟨_,hl,rfl⟩:=hc
   have hl':l=ops.toList.map nOper:=by simpa using congrArg Array.toList hl
   subst hl'
   rw [wpList_nOper] at hq
   exact wp_region_list hq
  | _=>simp [nCode] at hc
 | @drw l Q a w I hq=>
  intro c hc
  cases c with
  | region id' ops dr=>
   simp only [nCode,Code.region.injEq] at hc
   obtain ⟨hn,hl,rfl⟩:=hc
   have hl':l=ops.toList.map nOper:=by simpa using congrArg Array.toList hl
   subst hl'
   rw [loudOf_nOper,freesOf_nOper,loudsOf_nOper,evF_nOper,wpLd_nOper] at hq
   simp only [markOf,if_true] at hn
   split at hn
   ·rename_i hB
    have:=wp_draw hm (id:=id') hB I hq
    simpa using this
   ·split at hn <;> cases hn
  | _=>simp [nCode] at hc
 | @drq l Q a w C hC hq=>
  intro c hc
  cases c with
  | region id' ops dr=>
   simp only [nCode,Code.region.injEq] at hc
   obtain ⟨hn,hl,rfl⟩:=hc
   have hl':l=ops.toList.map nOper:=by simpa using congrArg Array.toList hl
   subst hl'
   rw [wpQuiet_nOper] at hq
   simp only [markOf,if_true] at hn
   split at hn
   ·cases hn
   ·split at hn
    ·rename_i hB
     exact wp_region_quiet hm hB hC hq
    ·cases hn
  | _=>simp [nCode] at hc
 | seq hx hy he ihx ihy=>
  intro c hc
  cases c <;> simp [nCode] at hc
  obtain ⟨rfl,rfl⟩:=hc
  refine wp_seq (wp_mono (ihx _ rfl) fun e a w hr=>?_)
  cases e with
  | normal=>exact ihy a w hr _ rfl
  | _=>exact he _ a w (by simp) hr
 | condT hc0 _ ih=>
  intro c hc
  cases c <;> simp [nCode] at hc
  obtain ⟨rfl,rfl,rfl⟩:=hc
  exact wp_cond_true hc0 (ih _ rfl)
 | condF hc0 _ ih=>
  intro c hc
  cases c <;> simp [nCode] at hc
  obtain ⟨rfl,rfl,rfl⟩:=hc
  exact wp_cond_false hc0 (ih _ rfl)
 | block _ ih=>
  intro c hc
  cases c <;> simp [nCode] at hc
  obtain ⟨rfl,rfl⟩:=hc
  exact wp_block (ih _ rfl)
 | loop I μ h0 _ ih=>
  intro c hc
  cases c <;> simp [nCode] at hc
  subst hc
  exact wp_loop I μ h0 fun a w hI=>ih a w hI _ rfl
 | scope l J μ hf _ _ ih1 ih2=>
  intro c hc
  cases c <;> simp [nCode] at hc
  subst hc
  obtain ⟨r,hr,rfl⟩:=findLabel_nCode l _ _ hf
  exact wp_scope_jumps l J μ hr (ih1 _ rfl) fun a w hJ=>ih2 a w hJ _ rfl
 | mono _ hq ih=>intro c hc;exact wp_mono (ih c hc) hq
theorem calls_of_nwp {P:Program} (hm:P.follows .mixedOrders=true) {f:FuncId} {fn:Func} {c d:Code} {args:Array Value} {w:World} {R:Ending->World->Prop}
  (hf:P.funcs[f]?=some fn) (hb:fn.body=some c) (hd:d=nCode c)
  (h:NWP P d (bodyPost P fn R) { tmps:=args++Array.replicate (fn.ntmps - args.size) undef,defers:=[] } w):Calls P f args w R:=
 calls_of_wp hf hb (h.sound hm c hd)
def mk (d : Option Nat) (op : Op) : Oper := ⟨d, op, 0, "", #[], none⟩
def tm (n:Nat):Operand:=.tmp n
def rg (l:List Oper):Code:=.region 0 l.toArray false
def sq:List Code->Code
 | []=>.skip
 | [x]=>x
 | x :: r=>.seq x (sq r)
def _root_.Go.Act.get (a:Act) (t:Nat):Value:=a.tmps.getD t undef
theorem qb_ (a:Act) (t:Nat):a.eval (tm t)=a.get t:=rfl
theorem eval_const (a:Act) (v:Value):a.eval (.const v)=v:=rfl
theorem qa_ (a:Act) (d:Option Nat) (v:Value):(a.put d v).tmps.size=a.tmps.size:=by
 cases d <;> simp [Act.put]
theorem qf_ (a:Act) (d:Option Nat) (v:Value):(a.put d v).defers=a.defers:=by
 cases d <;> rfl
theorem zw_ (a:Act) (d:Nat) (v:Value) (h:d < a.tmps.size):(a.put (some d) v).get d=v:=by
 simp [Act.put,Act.get,h]
theorem zz_ (a:Act) (d s:Nat) (v:Value) (h:s ≠ d):(a.put (some d) v).get s=a.get s:=by
 simp only [Act.put,Act.get,Array.getD_eq_getD_getElem?,Array.getElem?_setIfInBounds]
 rw [if_neg (by omega)]
structure Pv (x m k0 n:Nat) (a a':Act):Prop where
 size:a'.tmps.size=a.tmps.size
 defers:a'.defers=a.defers
 get:∀ s,s ≠ x->(s < m \/ (k0<=s/\s < n))->a'.get s=a.get s
theorem gpo {a:Act} {d s:Nat} {v:Value} (h:s ≠ d):(a.put (some d) v).get s=a.get s:=zz_ a d s v h
theorem gpe {a:Act} {d:Nat} {v:Value} (h:d < a.tmps.size):(a.put (some d) v).get d=v:=zw_ a d v h
theorem Pv.refl (x m k0 n:Nat) (a:Act):Pv x m k0 n a a:=⟨rfl,rfl,fun _ _ _=>rfl⟩
theorem Pv.trans {x m k0 n:Nat} {a b c:Act} (h:Pv x m k0 n a b) (k:Pv x m k0 n b c):Pv x m k0 n a c:=
 ⟨k.size.trans h.size,k.defers.trans h.defers,fun s hs hm=>(k.get s hs hm).trans (h.get s hs hm)⟩
theorem Pv.mono {x m k0 n m' n':Nat} {a b:Act} (h:Pv x m k0 n a b) (hm:m'<=m) (hn:n'<=n):Pv x m' k0 n' a b:=
 ⟨h.size,h.defers,fun s hs hh=>h.get s hs (by omega)⟩
theorem Pv.put {x m k0 n:Nat} {a b:Act} (h:Pv x m k0 n a b) {d:Nat} (v:Value) (hd:d=x \/ (m<=d/\(d < k0 \/ n<=d))):Pv x m k0 n a (b.put (some d) v):=
 ⟨(qa_ _ _ _).trans h.size,(qf_ _ _ _).trans h.defers,fun s hs hh=>by rw [gpo (by omega)];exact h.get s hs hh⟩
section ops
variable {P:Program} {ops:Array Oper} {Q:Exit->Act->World->Prop} {r:List Oper} {a:Act} {w:World}
theorem wl_intro {d:Option Nat} {op:Op} (h:(mk d op).wp P a w (wpList P ops Q r) Q):wpList P ops Q (mk d op :: r) a w:=by
 unfold wpList
 rw [if_pos (by simp [Region.wanted,mk])]
 exact .inl h
theorem qn_ {d:Option Nat} {op:Op} {v:Value} {w':World} (h:(execOp a.eval (mk d op)).run P w=.ok (.value v) w')
  (hn:wpList P ops Q r (a.put d v) w'):wpList P ops Q (mk d op :: r) a w:=
 wl_intro (by unfold Oper.wp;rw [h];exact hn)
theorem wl_skip {d:Option Nat} {op:Op} {w':World} (h:(execOp a.eval (mk d op)).run P w=.ok .skip w')
  (hn:wpList P ops Q r (a.put d undef) w'):wpList P ops Q (mk d op :: r) a w:=
 wl_intro (by unfold Oper.wp;rw [h];exact hn)
theorem qd_ {d:Option Nat} {x:Operand} (h:wpList P ops Q r (a.put d (a.eval x)) w):wpList P ops Q (mk d (.move x) :: r) a w:=
 qn_ rfl h
theorem qg_ {d:Option Nat} {x:Operand} (h:wpList P ops Q r (a.put d (a.eval x)) w):wpList P ops Q (mk d (.assign x) :: r) a w:=
 qn_ rfl h
theorem qp_ {d:Option Nat} {x:Operand} {p:Addr} (hx:a.eval x=.pointer (some p)) (h:wpList P ops Q r (a.put d (.pointer (some p))) w) :
  wpList P ops Q (mk d (.nilCheck x) :: r) a w:=
 qn_ (by simp [execOp,mk,hx]) h
structure TyIs (P:Program) (t:TypeId) (d:TypeDesc) (size:Nat):Prop where
 und:P.underlying t=some d
 info:∃ i,P.info? t=some i/\i.size=size
theorem TyIs.sizeOf {t:TypeId} {d:TypeDesc} {n:Nat} (h:TyIs P t d n) (w:World):(sizeOf t).run P w=.ok n w:=by
 obtain ⟨i,hi,rfl⟩:=h.info
 simp [Go.sizeOf,typeInfo,hi]
theorem TyIs.isAgg {t:TypeId} {d:TypeDesc} {n:Nat} (h:TyIs P t d n) (w:World) :
  (isAgg t).run P w=.ok (match d with | .struct _ | .array _ _=>true | _=>false) w:=by
 simp only [Go.isAgg,run_underlying h.und,Sem.run_bind,Result.andThen_ok]
 cases d <;> rfl
theorem wl_fieldAddr {d:Option Nat} {x:Operand} {T k b o off:Nat} {fs:Array Field} {f:Field} {n:Nat} (hx:a.eval x=.pointer (some ⟨b,o,none⟩)) (hT:P.underlying T=some (.struct fs)) (hk:fs[k]?=some f)
  (ho:f.offset=off) (hn:∀ w,(sizeOf f.type).run P w=.ok (n + 1) w) (h:wpList P ops Q r (a.put d (.pointer (some ⟨b,o + off,none⟩))) w) :
  wpList P ops Q (mk d (.fieldAddr T x k) :: r) a w:=by
 refine qn_ ?_ h
 simp [execOp,mk,hx,Instr.fieldAt,run_underlying hT,hk,ho,fieldPlace,hn,Instr.sureAddr,Addr.add_lit]
theorem q5_ {d:Option Nat} {x:Operand} {F:TypeId} {p:Addr} {v:Value} (hx:a.eval x=.pointer (some p)) (hF:(isAgg F).run P w=.ok false w) (hv:w.cell? p=some v)
  (h:wpList P ops Q r (a.put d v) w):wpList P ops Q (mk d (.load F x) :: r) a w:=by
 refine qn_ ?_ h
 simp [execOp,mk,hx,Instr.loadAt,Instr.sureAddr,loadVar,hF,load,hv,Sem.run]
theorem wl_loadN {d:Option Nat} {x:Operand} {F:TypeId} {b o:Nat} {cs:List Value} (hx:a.eval x=.pointer (some ⟨b,o,none⟩)) (hF:(isAgg F).run P w=.ok true w) (hs:(sizeOf F).run P w=.ok cs.length w)
  (hc:∀ j v,cs[j]?=some v->w.cell? ⟨b,o + j,none⟩=some v)
  (h:wpList P ops Q r (a.put d (.agg cs.toArray)) w):wpList P ops Q (mk d (.load F x) :: r) a w:=by
 refine qn_ ?_ h
 have hl:=run_loadCells_list (P:=P) w ⟨b,o,none⟩ cs (fun j v hj=>by rw [Addr.add_lit];exact hc j v hj)
 simp [execOp,mk,hx,Instr.loadAt,Instr.sureAddr,loadVar,hF,hs,hl]
def qt_ (cur:Array Value) (o:Nat) (vs:List Value):Array Value:=(cur.toList.take o++vs++cur.toList.drop (o + vs.length)).toArray
theorem z9_ {cur:Array Value} {o:Nat} {vs:List Value} (h:o + vs.length<=cur.size):(qt_ cur o vs).size=cur.size:=by
 simp [qt_];omega
theorem zn_ {cur:Array Value} {o:Nat} {vs:List Value} (h:o + vs.length<=cur.size) (j:Nat) (hj:j < o \/ o + vs.length<=j):(qt_ cur o vs)[j]?=cur[j]?:=by
 simp only [qt_,List.getElem?_toArray,List.append_assoc]
 rcases hj with hj | hj
 ·rw [List.getElem?_append_left (by simp;omega),List.getElem?_take_of_lt hj];simp
 ·rw [List.getElem?_append_right (by simp;omega),List.getElem?_append_right (by simp;omega),List.getElem?_drop]
  simp only [List.length_take,Array.length_toList,Array.getElem?_toList]
  congr 1
  omega
theorem jw_ {cur:Array Value} {o:Nat} {vs:List Value} (h:o + vs.length<=cur.size) (j:Nat) (hj:j < vs.length):(qt_ cur o vs)[o + j]?=vs[j]?:=by
 simp only [qt_,List.getElem?_toArray,List.append_assoc]
 rw [List.getElem?_append_right (by simp;omega),List.getElem?_append_left (by simp;omega)]
 simp only [List.length_take,Array.length_toList]
 congr 1
 omega
theorem q8_ {x y:Operand} {F:TypeId} {g o:Nat} {cur:Array Value} {t:TypeId} {v:Value} {vs:List Value} (hx:a.eval x=.pointer (some ⟨g,o,none⟩)) (hy:a.eval y=v)
  (hv:v.cells.toList=vs) (hF:(sizeOf F).run P w=.ok vs.length w) (hg:w.heap[g]?=some (.cells cur t (0,0))) (ho:o + vs.length<=cur.size) (h1:∀ u ∈ vs,u.oneCell'=true)
  (h:wpList P ops Q r a (w.setRow g (qt_ cur o vs))):wpList P ops Q (mk none (.store F x y) :: r) a w:=by
 refine wl_skip (w':=w.setRow g (qt_ cur o vs)) ?_ h
 have hst:=run_storeCells_at P g o t vs 0 cur w hg (by simpa using ho) h1
 simp only [Nat.add_zero] at hst
 have hsz:v.cells.size=vs.length:=by rw [<- hv];simp
 simp [execOp,mk,hx,hy,Instr.storeAt,Instr.sureAddr,storeVar,hF,hsz,hv,hst,qt_]
def Ent (P:Program) (f:Nat):Prop:=∀ args w,(callFunc f args).run P w=.ok (.enter f args) w
theorem qv_ {d:Option Nat} {f:Nat} {args:List Operand} {vs:Array Value} {R:Ending->World->Prop} (hf:Ent P f)
  (hargs:(args.map a.eval).toArray=vs)
  (hc:Calls P f vs w R) (h:∀ e w',R e w'->∃ v,e=.returned v/\wpList P ops Q r (a.put d v) w') :
  wpList P ops Q (mk d (.call ⟨.value (.func f),args.toArray,#[]⟩) :: r) a w:=by
 refine wl_intro ?_
 unfold Oper.wp
 have:(execOp a.eval (mk d (.call ⟨.value (.func f),args.toArray,#[]⟩))).run P w=.ok (.enter f vs) w:=by
  have he:a.eval (.func f)=.func (.func f) #[] #[]:=rfl
  simp only [execOp,mk,resolve,he,Deferred.ofValue,invoke,Sem.run_bind,Sem.run_pure,Result.andThen_ok,Array.empty_append,Array.append_empty,List.map_toArray,hargs]
  exact hf _ _
 rw [this]
 exact hc.mono fun e w' hR=>by
  obtain ⟨v,rfl,hh⟩:=h e w' hR
  exact hh
theorem zk_ {d:Option Nat} {op:BinOp} {T U:TypeId} {x y:Operand} {k:IntKind} {m n:Int} {v:Value} (hx:a.eval x=.int k m) (hy:a.eval y=.int k n)
  (hs:op ≠ .shl/\op ≠ .shr) (hop:(binOp op T (.int k m) (.int k n)).run P w=.ok v w) (h:wpList P ops Q r (a.put d v) w):wpList P ops Q (mk d (.binOp op T x y U) :: r) a w:=by
 refine qn_ ?_ h
 have he:(eqGuard op T x y (.int k m) (.int k n)).run P w=.ok () w:=by
  unfold eqGuard
  cases op <;> simp
 simp only [execOp,mk,hx,hy,Sem.run_bind,he,Result.andThen_ok,hop,Sem.run_pure]
theorem wl_not {d:Option Nat} {T:TypeId} {x:Operand} {b:Bool} (hx:a.eval x=.bool b) (h:wpList P ops Q r (a.put d (.bool !b)) w):wpList P ops Q (mk d (.unOp .not T x) :: r) a w:=by
 refine qn_ ?_ h
 simp [execOp,mk,hx,Op.unary]
theorem qw_ {d:Option Nat} {S T:TypeId} {x:Operand} {k k':IntKind} {m:Int} (hx:a.eval x=.int k m) (hS:P.underlying S=some (.int k)) (hT:P.underlying T=some (.int k'))
  (h:wpList P ops Q r (a.put d (.int k' (k'.wrap m))) w):wpList P ops Q (mk d (.convert S T x) :: r) a w:=by
 refine qn_ ?_ h
 simp [execOp,mk,hx,convert,run_underlying hS,run_underlying hT,Conv.intToInt]
theorem zp_ {d:Option Nat} {T:TypeId} {z:Value} (hz:(zeroValue T).run P w=.ok z w) (h:wpList P ops Q r (a.put d (.pointer (some ⟨w.heap.size,0,none⟩))) (w.alloc (.cells z.cells T (0,0)))) :
  wpList P ops Q (mk d (.alloc T) :: r) a w:=by
 refine qn_ (w':=w.alloc (.cells z.cells T (0,0))) ?_ h
 simp [execOp,mk,Instr.alloc,hz,newVar,newRow,newObj,Sem.run]
theorem wl_slice0 {d:Option Nat} {x:Operand} {F E:TypeId} {base:Option Addr} {n c:Nat} (hx:a.eval x=.slice base n c) (hF:P.underlying F=some (.slice E))
  {sz:Nat} (hs:(sizeOf E).run P w=.ok sz w) (h:wpList P ops Q r (a.put d (.slice base 0 c)) w) :
  wpList P ops Q (mk d (.slice F x none (some (.const (.int .i64 0))) none) :: r) a w:=by
 refine qn_ ?_ h
 have e0:a.eval (.const (.int .i64 0))=.int .i64 0:=rfl
 cases base with
 | none=>
  by_cases hc:c=0
  ·subst hc
   simp [execOp,mk,hx,e0,Instr.sliceAt,Instr.slice,run_underlying hF,Instr.sliceBounds,Instr.sliceBound,asIntOf,hs]
  ·simp [execOp,mk,hx,e0,Instr.sliceAt,Instr.slice,run_underlying hF,Instr.sliceBounds,Instr.sliceBound,asIntOf,hs]
 | some b=>
  by_cases hc:c=0
  ·subst hc
   simp [execOp,mk,hx,e0,Instr.sliceAt,Instr.slice,run_underlying hF,Instr.sliceBounds,Instr.sliceBound,asIntOf,hs]
  ·simp [execOp,mk,hx,e0,Instr.sliceAt,Instr.slice,run_underlying hF,Instr.sliceBounds,Instr.sliceBound,asIntOf,hs,Addr.add]
theorem j3_ {d:Option Nat} {x y:Operand} {F E:TypeId} {b o n c i sz:Nat} {k:IntKind} (hx:a.eval x=.slice (some ⟨b,o,none⟩) n c) (hy:a.eval y=.int k i) (hi:i < n) (hF:P.underlying F=some (.slice E))
  (hs:(sizeOf E).run P w=.ok sz w) (h:wpList P ops Q r (a.put d (.pointer (some ⟨b,o + i * sz,none⟩))) w):wpList P ops Q (mk d (.indexAddr F x y) :: r) a w:=by
 refine qn_ ?_ h
 simp [execOp,mk,hx,hy,Instr.indexAt,asIntOf,run_underlying hF,hs,hi,Addr.add_lit]
theorem wl_len {d:Option Nat} {x:Operand} {F E ty:TypeId} {base:Option Addr} {n c:Nat} (hx:a.eval x=.slice base n c) (hF:P.underlying F=some (.slice E))
  (h : wpList P ops Q r (a.put d (.int .i64 n)) w) : wpList P ops Q (⟨d, .call ⟨.builtin .len, #[x], #[F]⟩, ty, "", #[], none⟩ :: r) a w := by
 have hw : Region.wanted ⟨d, .call ⟨.builtin .len, #[x], #[F]⟩, ty, "", #[], none⟩ (yielded ops a.tmps) = true := by simp [Region.wanted]
 unfold wpList
 rw [if_pos hw]
 refine .inl ?_
 unfold Oper.wp
 have : (execOp a.eval ⟨d, .call ⟨.builtin .len, #[x], #[F]⟩, ty, "", #[], none⟩).run P w = .ok (.value (.int .i64 n)) w := by
  simp [execOp,resolve,invoke,builtin,hx,Builtin.len_,run_underlying hF,goInt]
 rw [this]
 exact h
theorem wl_growNil {d:Option Nat} {x y:Operand} {F E I ty:TypeId} {z:Value} {l bytes:Nat} {base:Option Addr} (hx:a.eval x=.slice base 0 0) (hy:a.eval y=.int .i32 l) (hl:0 < l) (hF:P.underlying F=some (.slice E)) (hI:P.underlying I=some (.int .i32))
  {i:TypeInfo} (hE:P.info? E=some i) (hz:i.zero=some z) (hsz:z.cells.size=i.size) (hpos:0 < i.size) (_hbp:0 < i.bytes) (hb:i.bytes=bytes) (hroom:l * bytes<=140737488355328) (hl31:l < 2147483648)
  (h:∀ (c:Nat) (cs:Array Value),l<=c->c<=maxLen->cs.size=c * i.size->(∀ q j,q < l->j < i.size->cs[q * i.size + j]?=z.cells[j]?) ->
   wpList P ops Q r (a.put d (.slice (some ⟨w.heap.size,0,none⟩) l c)) (w.drew.alloc (.cells cs E (0,0)))) :
  wpList P ops Q (⟨d, .call ⟨.builtin .append, #[x, y], #[F, I]⟩, ty, "", #[], none⟩ :: r) a w := by
 have hw : Region.wanted ⟨d, .call ⟨.builtin .append, #[x, y], #[F, I]⟩, ty, "", #[], none⟩ (yielded ops a.tmps) = true := by simp [Region.wanted]
 unfold wpList
 rw [if_pos hw]
 refine .inl ?_
 unfold Oper.wp
 have hwl:IntKind.i64.wrap (l:Int)=l:=by simp [IntKind.wrap,IntKind.bits,IntKind.signed];omega
 have hcap:=grownCap_ge w l 0 E
 have hcapm:=grownCap_le_maxLen w l 0 E (by simp only [maxLen];omega)
 have h1:¬ (281474976710656 < (l:Int) * (i.bytes:Int)):=by rw [hb,<- Int.natCast_mul];omega
 have h63':¬ (9223372036854775807 < (l:Int)):=by omega
 have h48':¬ (281474976710656 < Builtin.nextslicecap l 0 * i.bytes):=by rw [nextslicecap_zero hl,hb];omega
 have hl0:l ≠ 0:=by omega
 have hi0:i.size ≠ 0:=by omega
 have hneg:¬ ((l:Int) < 0):=by omega
 have hli:l * i.size ≠ 0:=Nat.mul_ne_zero hl0 hi0
 have hrun : (execOp a.eval ⟨d, .call ⟨.builtin .append, #[x, y], #[F, I]⟩, ty, "", #[], none⟩).run P w =
   .ok (.value (.slice (some ⟨w.heap.size,0,none⟩) l (grownCap w l 0 E))) (w.drew.alloc (.cells (Builtin.zeroCells z.cells l++Builtin.zeroCells z.cells (grownCap w l 0 E - l)) E)):=by
  cases base <;> simp [execOp,resolve,invoke,builtin,hx,hy,Builtin.append_,run_underlying hF,run_underlying hI,sizeOf,typeInfo,zeroValue,hE,hz,asInt,asIntOf,hwl,h1,h63',h48',hl0,hneg,hli,Question.forced,Builtin.firstCells,loadCells,loadCellsFrom,newRow,grownCap]
 rw [hrun]
 refine h (grownCap w l 0 E) _ hcap hcapm ?_ ?_
 ·simp only [Array.size_append,size_zeroCells,hsz,<- Nat.add_mul]
  congr 1
  omega
 ·intro q j hq hj
  have hlt:q * i.size + j < l * i.size:=by
   have:(q + 1) * i.size<=l * i.size:=Nat.mul_le_mul_right _ hq
   rw [Nat.add_mul] at this
   omega
  rw [Array.getElem?_append_left (by rw [size_zeroCells,hsz];exact hlt)]
  simp only [Builtin.zeroCells,hsz,Array.getElem?_map]
  rw [Array.getElem?_range]
  have hm:(q * i.size + j) % i.size=j:=by rw [Nat.add_comm,Nat.add_mul_mod_self_right,Nat.mod_eq_of_lt hj]
  simp [hlt,hm,getElem!_pos,hsz,hj]
end ops
structure Keeps (X:Nat->Prop) (w w':World):Prop where
 os:w'.os=w.os
 tape:w'.tape=w.tape
 output:w'.output=w.output
 size:w.heap.size<=w'.heap.size
 block:∀ k,k < w.heap.size->¬ X k->w'.heap[k]?=w.heap[k]?
theorem Keeps.refl (X:Nat->Prop) (w:World):Keeps X w w:=⟨rfl,rfl,rfl,Nat.le_refl _,fun _ _ _=>rfl⟩
theorem Keeps.trans {X:Nat->Prop} {a b c:World} (h:Keeps X a b) (k:Keeps X b c):Keeps X a c:=
 ⟨k.os.trans h.os,k.tape.trans h.tape,k.output.trans h.output,Nat.le_trans h.size k.size,fun i hi hx=>(k.block i (Nat.lt_of_lt_of_le hi h.size) hx).trans (h.block i hi hx)⟩
theorem Keeps.mono {X Y:Nat->Prop} {a b:World} (h:Keeps X a b) (hxy:∀ k,k < a.heap.size->X k->Y k):Keeps Y a b:=
 ⟨h.os,h.tape,h.output,h.size,fun i hi hy=>h.block i hi (fun hx=>hy (hxy i hi hx))⟩
theorem Keeps.drew (X:Nat->Prop) (w:World):Keeps X w w.drew:=⟨rfl,rfl,rfl,Nat.le_refl _,fun _ _ _=>rfl⟩
theorem Keeps.alloc (X:Nat->Prop) (w:World) (o:Obj):Keeps X w (w.alloc o):=
 ⟨rfl,rfl,rfl,by simp,fun k hk _=>by show (w.heap.push o)[k]?=_;rw [Array.getElem?_push,if_neg (by omega)]⟩
theorem Keeps.setRow (X:Nat->Prop) (w:World) (g:Nat) (cs:Array Value) (hg:X g):Keeps X w (w.setRow g cs):=
 ⟨rfl,rfl,rfl,by simp,fun k _ hk=>setRow_other w g k cs (fun e=>hk (e ▸ hg))⟩
theorem j2_ {w:World} {b o:Nat} {v:Value} (h:w.cell? ⟨b,o,none⟩=some v):b < w.heap.size:=World.block_lt_of_cell? w ⟨b,o,none⟩ h
theorem q1_ {w w':World} {b:Nat} (h:w'.heap[b]?=w.heap[b]?) (o:Nat):w'.cell? ⟨b,o,none⟩=w.cell? ⟨b,o,none⟩:=by simp [World.cell?,h]
theorem Keeps.cell {X:Nat->Prop} {w w':World} (h:Keeps X w w') {b o:Nat} {v:Value} (hb:¬ X b) (hv:w.cell? ⟨b,o,none⟩=some v):w'.cell? ⟨b,o,none⟩=some v:=by
 rw [q1_ (h.block b (j2_ hv) hb)];exact hv
def OctAt (w:World) (b o:Nat) (l:Bs):Prop:=∀ i x,l[i]?=some x->w.cell? ⟨b,o + i,none⟩=some (.int .u8 (x.toNat:Int))
theorem OctAt.keep {X:Nat->Prop} {w w':World} {b o:Nat} {l:Bs} (h:OctAt w b o l) (hk:Keeps X w w') (hb:¬ X b):OctAt w' b o l:=
 fun i x hi=>hk.cell hb (h i x hi)
def SlRp (w:World) (X:Nat->Prop) (v:Value) (l:Bs):Prop:=
 (v=.slice none 0 0/\l=[]) \/ ∃ b o c,v=.slice (some ⟨b,o,none⟩) l.length c/\¬ X b/\b < w.heap.size/\l.length<=c/\c<=maxLen/\OctAt w b o l
theorem SlRp.keep {X:Nat->Prop} {w w':World} {v:Value} {l:Bs} (h:SlRp w X v l) (hk:Keeps X w w'):SlRp w' X v l:=by
 rcases h with h | ⟨b,o,c,hv,hb,hs,hc,hm,ho⟩
 ·exact .inl h
 ·exact .inr ⟨b,o,c,hv,hb,Nat.lt_of_lt_of_le hs hk.size,hc,hm,ho.keep hk hb⟩
theorem SlRp.mono {X Y:Nat->Prop} {w:World} {v:Value} {l:Bs} (h:SlRp w X v l) (hy:∀ k,k < w.heap.size->Y k->X k):SlRp w Y v l:=by
 rcases h with h | ⟨b,o,c,hv,hb,hs,hc,hm,ho⟩
 ·exact .inl h
 ·exact .inr ⟨b,o,c,hv,fun hh=>hb (hy b hs hh),hs,hc,hm,ho⟩
structure jd_ where
 key:Nat
 val:Value
 born:Nat
def jd_.entry (e:jd_):MapEntry:=⟨.int .u32 (e.key:Int),e.val,e.born⟩
def xe_:List (Nat × Bs)->Prop
 | []=>True
 | [_]=>True
 | x :: y :: r=>x.1 < y.1/\xe_ (y :: r)
def MapIs (w:World) (X:Nat->Prop) (r:Nat) (t:List (Nat × Bs)):Prop:=
 ∃ (es:List jd_) (clock:Nat) (f:jd_->Bs),w.heap[r]?=some (.map (es.map jd_.entry).toArray clock)/\(∀ e ∈ es,e.key < 4294967296/\e.born < clock/\SlRp w (fun k=>X k \/ k=r) e.val (f e)) /\
  (es.map jd_.born).Nodup/\(es.map jd_.key).Nodup/\(es.map fun e=>(e.key,f e)).Perm t/\xe_ t
theorem MapIs.keep {X:Nat->Prop} {w w':World} {r:Nat} {t:List (Nat × Bs)} (h:MapIs w X r t) (hk:Keeps X w w') (hr:¬ X r):MapIs w' X r t:=by
 obtain ⟨es,c,f,hh,he,h1,h2,h3,h4⟩:=h
 exact ⟨es,c,f,by rw [hk.block r (Array.getElem?_eq_some_iff.1 hh).1 hr];exact hh,fun e hm=>⟨(he e hm).1,(he e hm).2.1,(he e hm).2.2.keep (hk.mono fun _ _ h=>.inl h)⟩,h1,h2,h3,h4⟩
theorem MapIs.mono {X Y:Nat->Prop} {w:World} {r:Nat} {t:List (Nat × Bs)} (h:MapIs w X r t) (hy:∀ k,k < w.heap.size->Y k->X k):MapIs w Y r t:=by
 obtain ⟨es,c,f,hh,he,h1,h2,h3,h4⟩:=h
 exact ⟨es,c,f,hh,fun e hm=>⟨(he e hm).1,(he e hm).2.1,(he e hm).2.2.mono fun k hk h=>h.elim (fun h=>.inl (hy k hk h)) .inr⟩,h1,h2,h3,h4⟩
def TgRp (w:World) (X:Nat->Prop) (v:Value) (t:List (Nat × Bs)):Prop:=
 (v=.map none/\t=[]) \/ ∃ r,v=.map (some r)/\¬ X r/\r < w.heap.size/\MapIs w X r t/\t ≠ []
theorem TgRp.keep {X:Nat->Prop} {w w':World} {v:Value} {t:List (Nat × Bs)} (h:TgRp w X v t) (hk:Keeps X w w'):TgRp w' X v t:=by
 rcases h with h | ⟨r,hv,hr,hs,hm,hne⟩
 ·exact .inl h
 ·exact .inr ⟨r,hv,hr,Nat.lt_of_lt_of_le hs hk.size,hm.keep hk hr,hne⟩
theorem TgRp.mono {X Y:Nat->Prop} {w:World} {v:Value} {t:List (Nat × Bs)} (h:TgRp w X v t) (hy:∀ k,k < w.heap.size->Y k->X k):TgRp w Y v t:=by
 rcases h with h | ⟨r,hv,hr,hs,hm,hne⟩
 ·exact .inl h
 ·exact .inr ⟨r,hv,fun hh=>hr (hy r hs hh),hs,hm.mono hy,hne⟩
def Prim.kind:Prim->IntKind
 | .i8=>.i8 | .i16=>.i16 | .u16=>.u16 | .i32=>.i32 | _=>.i64
def Prim.fits:Prim->Int->Prop
 | .bool,x=>x=0 \/ x=1
 | .i8,x=>-128<=x/\x < 128
 | .i16,x=>-32768<=x/\x < 32768
 | .u16,x=>0<=x/\x < 65536
 | .i32,x=>-2147483648<=x/\x < 2147483648
 | .i64,x=>-9223372036854775808<=x/\x < 9223372036854775808
 | .uuid,_=>False
def LRp (w:World) (X:Nat->Prop):Ty->List Value->V->Prop
 | .prim .bool,cs,v=>∃ b:Bool,cs=[.bool b]/\v=.n (if b then 1 else 0)
 | .prim .uuid,cs,v=>∃ l:Bs,l.length=16/\cs=l.map (fun b=>.int .u8 (b.toNat:Int))/\v=.s l
 | .prim p,cs,v=>∃ x:Int,cs=[.int p.kind x]/\v=.n x/\p.fits x
 | .str none,cs,v=>∃ l:Bs,cs=[.string ⟨l.toArray⟩]/\v=.s l/\l.length<=maxLen
 | .str (some _),cs,v=>(cs=[.pointer none]/\v=.nul) \/ ∃ (l:Bs) (b o:Nat),cs=[.pointer (some ⟨b,o,none⟩)]/\¬ X b/\w.cell? ⟨b,o,none⟩=some (.string ⟨l.toArray⟩)/\v=.s l/\l.length<=maxLen
 | .bytes _,cs,v=>(cs=[.slice none 0 0]/\v=.nul) \/ ∃ (l:Bs) (b o c:Nat),cs=[.slice (some ⟨b,o,none⟩) l.length c]/\¬ X b/\b < w.heap.size/\l.length<=c/\c<=maxLen/\OctAt w b o l/\v=.s l
 | _,_,_=>False
theorem LRp.keep {X:Nat->Prop} {w w':World} {ty:Ty} {cs:List Value} {v:V} (h:LRp w X ty cs v) (hk:Keeps X w w'):LRp w' X ty cs v:=by
 cases ty with
 | prim p=>cases p <;> exact h
 | str nul=>
  cases nul with
  | none=>exact h
  | some m=>
   rcases h with h | ⟨l,b,o,h1,h2,h3,h4⟩
   ·exact .inl h
   ·exact .inr ⟨l,b,o,h1,h2,hk.cell h2 h3,h4⟩
 | bytes nul=>
  rcases h with h | ⟨l,b,o,c,h1,h2,h3,h4,h5,h6,h7⟩
  ·exact .inl h
  ·exact .inr ⟨l,b,o,c,h1,h2,Nat.lt_of_lt_of_le h3 hk.size,h4,h5,h6.keep hk h2,h7⟩
 | list=>exact h.elim
 | struct=>exact h.elim
theorem LRp.mono {X Y:Nat->Prop} {w:World} {ty:Ty} {cs:List Value} {v:V} (h:LRp w X ty cs v) (hy:∀ k,k < w.heap.size->Y k->X k):LRp w Y ty cs v:=by
 cases ty with
 | prim p=>cases p <;> exact h
 | str nul=>
  cases nul with
  | none=>exact h
  | some m=>
   rcases h with h | ⟨l,b,o,h1,h2,h3,h4⟩
   ·exact .inl h
   ·exact .inr ⟨l,b,o,h1,fun hh=>h2 (hy b (j2_ h3) hh),h3,h4⟩
 | bytes nul=>
  rcases h with h | ⟨l,b,o,c,h1,h2,h3,h4,h5,h6,h7⟩
  ·exact .inl h
  ·exact .inr ⟨l,b,o,c,h1,fun hh=>h2 (hy b h3 hh),h3,h4,h5,h6,h7⟩
 | list=>exact h.elim
 | struct=>exact h.elim
def Ty.leaf:Ty->Bool
 | .prim _ | .str _ | .bytes _=>true
 | _=>false
def zo_:Option Nat->Nat | some k=>k + 1 | none=>0
mutual
def Ty.sz:Ty->Nat
 | .prim .uuid=>16
 | .struct none toff fs=>fs.ext (zo_ toff)
 | _=>1
def Fds.ext:Fds->Nat->Nat
 | .nil,m=>m
 | .cons _ _ _ _ off ty r,m=>r.ext (Nat.max m (off + ty.sz))
end
def TgAt (w:World) (X:Nat->Prop) (b o:Nat) (toff:Option Nat) (t:List (Nat × Bs)):Prop:=
 match toff with
 | some k=>∃ m,w.cell? ⟨b,o + k,none⟩=some m/\TgRp w X m t
 | none=>t=[]
theorem TgAt.frame {X:Nat->Prop} {w w':World} {b o:Nat} {toff:Option Nat} {t:List (Nat × Bs)} (h:TgAt w X b o toff t) (hk:Keeps X w w') (hs:∀ k,toff=some k->w'.cell? ⟨b,o + k,none⟩=w.cell? ⟨b,o + k,none⟩):TgAt w' X b o toff t:=by
 cases toff with
 | none=>exact h
 | some k=>obtain ⟨m,h1,h2⟩:=h;exact ⟨m,by rw [hs k rfl];exact h1,h2.keep hk⟩
theorem TgAt.mono {X Y:Nat->Prop} {w:World} {b o:Nat} {toff:Option Nat} {t:List (Nat × Bs)} (h:TgAt w X b o toff t) (hy:∀ k,k < w.heap.size->Y k->X k):TgAt w Y b o toff t:=by
 cases toff with
 | none=>exact h
 | some k=>obtain ⟨m,h1,h2⟩:=h;exact ⟨m,h1,h2.mono hy⟩
def qy_ (w:World) (b o:Nat) (cs:List Value):Prop:=∀ j c,cs[j]?=some c->w.cell? ⟨b,o + j,none⟩=some c
mutual
def Rp (w:World) (X:Nat->Prop):Ty->Nat->Nat->V->Prop
 | .prim p,b,o,v=>∃ cs,qy_ w b o cs/\LRp w X (.prim p) cs v
 | .str nul,b,o,v=>∃ cs,qy_ w b o cs/\LRp w X (.str nul) cs v
 | .bytes nul,b,o,v=>∃ cs,qy_ w b o cs/\LRp w X (.bytes nul) cs v
 | .list _ esz e,b,o,v=>
  (w.cell? ⟨b,o,none⟩=some (.slice none 0 0)/\v=.nul) \/
  ∃ (xs:List V) (p q c:Nat),w.cell? ⟨b,o,none⟩=some (.slice (some ⟨p,q,none⟩) xs.length c)/\¬ X p/\p < w.heap.size/\xs.length<=c/\c<=maxLen/\v=.l xs /\
   ∀ i x,xs[i]?=some x->Rp w X e p (q + i * esz) x
 | .struct none toff fs,b,o,v=>∃ (vs:List V) (t:List (Nat × Bs)),v=.st vs t/\RpF w X fs b o vs/\TgAt w X b o toff t
 | .struct (some _) toff fs,b,o,v=>
  (w.cell? ⟨b,o,none⟩=some (.pointer none)/\v=.nul) \/
  ∃ (p q:Nat) (vs:List V) (t:List (Nat × Bs)),w.cell? ⟨b,o,none⟩=some (.pointer (some ⟨p,q,none⟩))/\¬ X p/\p < w.heap.size/\v=.st vs t/\RpF w X fs p q vs/\TgAt w X p q toff t
def RpF (w:World) (X:Nat->Prop):Fds->Nat->Nat->List V->Prop
 | .nil,_,_,vs=>vs=[]
 | .cons _ _ _ _ off ty r,b,o,vs=>∃ v vs',vs=v :: vs'/\Rp w X ty b (o + off) v/\RpF w X r b o vs'
end
theorem LRp.len {w:World} {X:Nat->Prop} {ty:Ty} {cs:List Value} {v:V} (h:LRp w X ty cs v):cs.length=ty.sz:=by
 cases ty with
 | prim p=>
  cases p
  case bool=>obtain ⟨b,rfl,_⟩:=h;rfl
  case uuid=>obtain ⟨l,hl,rfl,_⟩:=h;simpa [Ty.sz] using hl
  all_goals (obtain ⟨x,rfl,_⟩:=h;rfl)
 | str nul=>
  cases nul with
  | none=>obtain ⟨l,rfl,_⟩:=h;rfl
  | some m=>
   rcases h with ⟨rfl,_⟩ | ⟨l,b,o,rfl,_⟩ <;> rfl
 | bytes nul=>
  rcases h with ⟨rfl,_⟩ | ⟨l,b,o,c,rfl,_⟩ <;> rfl
 | list=>exact h.elim
 | struct=>exact h.elim
theorem qy_.same {w w':World} {b o:Nat} {cs:List Value} (h:qy_ w b o cs) (hs:∀ j,o<=j->j < o + cs.length->w'.cell? ⟨b,j,none⟩=w.cell? ⟨b,j,none⟩):qy_ w' b o cs:=by
 intro j c hj
 have hlt:j < cs.length:=(List.getElem?_eq_some_iff.1 hj).1
 rw [hs (o + j) (by omega) (by omega)]
 exact h j c hj
theorem le_ext:∀ (fs:Fds) (m:Nat),m<=fs.ext m
 | .nil,m=>Nat.le_refl m
 | .cons _ _ _ _ off ty r,m=>Nat.le_trans (Nat.le_max_left m (off + ty.sz)) (le_ext r _)
mutual
theorem Rp.frame {X:Nat->Prop} {w w':World} (hk:Keeps X w w'):∀ (ty:Ty) (b o:Nat) (v:V),Rp w X ty b o v ->
  (∀ j,o<=j->j < o + ty.sz->w'.cell? ⟨b,j,none⟩=w.cell? ⟨b,j,none⟩)->Rp w' X ty b o v
 | .prim p,b,o,v,h,hs=>by
  obtain ⟨cs,hc,hl⟩:=h
  exact ⟨cs,hc.same (by rw [hl.len];exact hs),hl.keep hk⟩
 | .str nul,b,o,v,h,hs=>by
  obtain ⟨cs,hc,hl⟩:=h
  exact ⟨cs,hc.same (by rw [hl.len];exact hs),hl.keep hk⟩
 | .bytes nul,b,o,v,h,hs=>by
  obtain ⟨cs,hc,hl⟩:=h
  exact ⟨cs,hc.same (by rw [hl.len];exact hs),hl.keep hk⟩
 | .list nul esz e,b,o,v,h,hs=>by
  have h0:w'.cell? ⟨b,o,none⟩=w.cell? ⟨b,o,none⟩:=hs o (Nat.le_refl _) (by simp [Ty.sz])
  rcases h with ⟨h1,h2⟩ | ⟨xs,p,q,c,h1,h2,h3,h4,h5,h6,h7⟩
  ·exact .inl ⟨by rw [h0];exact h1,h2⟩
  ·refine .inr ⟨xs,p,q,c,by rw [h0];exact h1,h2,Nat.lt_of_lt_of_le h3 hk.size,h4,h5,h6,fun i x hi=>?_⟩
   exact Rp.frame hk e p _ x (h7 i x hi) (fun j _ _=>q1_ (hk.block p h3 h2) j)
 | .struct none toff fs,b,o,v,h,hs=>by
  obtain ⟨vs,t,h1,h2,h3⟩:=h
  have hle:=le_ext fs (zo_ toff)
  simp only [Ty.sz] at hs
  exact ⟨vs,t,h1,RpF.frame hk fs b o vs _ h2 hs,h3.frame hk fun k hk'=>by subst hk';simp only [zo_] at hle hs;exact hs (o + k) (by omega) (by omega)⟩
 | .struct (some n) toff fs,b,o,v,h,hs=>by
  have h0:w'.cell? ⟨b,o,none⟩=w.cell? ⟨b,o,none⟩:=hs o (Nat.le_refl _) (by simp [Ty.sz])
  rcases h with ⟨h1,h2⟩ | ⟨p,q,vs,t,h1,h2,h3,h4,h5,h6⟩
  ·exact .inl ⟨by rw [h0];exact h1,h2⟩
  ·have hp:∀ j,w'.cell? ⟨p,j,none⟩=w.cell? ⟨p,j,none⟩:=fun j=>q1_ (hk.block p h3 h2) j
   exact .inr ⟨p,q,vs,t,by rw [h0];exact h1,h2,Nat.lt_of_lt_of_le h3 hk.size,h4,RpF.frame hk fs p q vs 0 h5 (fun j _ _=>hp j),h6.frame hk fun k _=>hp _⟩
theorem RpF.frame {X:Nat->Prop} {w w':World} (hk:Keeps X w w'):∀ (fs:Fds) (b o:Nat) (vs:List V) (m:Nat),RpF w X fs b o vs ->
  (∀ j,o<=j->j < o + fs.ext m->w'.cell? ⟨b,j,none⟩=w.cell? ⟨b,j,none⟩)->RpF w' X fs b o vs
 | .nil,b,o,vs,m,h,hs=>h
 | .cons lo hi tag df off ty r,b,o,vs,m,h,hs=>by
  obtain ⟨v,vs',h1,h2,h3⟩:=h
  have hle:Nat.max m (off + ty.sz)<=r.ext (Nat.max m (off + ty.sz)):=le_ext r _
  have hle2:off + ty.sz<=Nat.max m (off + ty.sz):=Nat.le_max_right _ _
  exact ⟨v,vs',h1,Rp.frame hk ty b (o + off) v h2 (fun j hj hj2=>hs j (by omega) (by simp only [Fds.ext];omega)),RpF.frame hk r b o vs' (Nat.max m (off + ty.sz)) h3 hs⟩
end
mutual
theorem Rp.mono {X Y:Nat->Prop} {w:World} (hy:∀ k,k < w.heap.size->Y k->X k):∀ (ty:Ty) (b o:Nat) (v:V),Rp w X ty b o v->Rp w Y ty b o v
 | .prim p,b,o,v,h=>by obtain ⟨cs,hc,hl⟩:=h;exact ⟨cs,hc,hl.mono hy⟩
 | .str nul,b,o,v,h=>by obtain ⟨cs,hc,hl⟩:=h;exact ⟨cs,hc,hl.mono hy⟩
 | .bytes nul,b,o,v,h=>by obtain ⟨cs,hc,hl⟩:=h;exact ⟨cs,hc,hl.mono hy⟩
 | .list nul esz e,b,o,v,h=>by
  rcases h with h | ⟨xs,p,q,c,h1,h2,h3,h4,h5,h6,h7⟩
  ·exact .inl h
  ·exact .inr ⟨xs,p,q,c,h1,fun hh=>h2 (hy p h3 hh),h3,h4,h5,h6,fun i x hi=>Rp.mono hy e p _ x (h7 i x hi)⟩
 | .struct none toff fs,b,o,v,h=>by
  obtain ⟨vs,t,h1,h2,h3⟩:=h
  exact ⟨vs,t,h1,RpF.mono hy fs b o vs h2,h3.mono hy⟩
 | .struct (some n) toff fs,b,o,v,h=>by
  rcases h with h | ⟨p,q,vs,t,h1,h2,h3,h4,h5,h6⟩
  ·exact .inl h
  ·exact .inr ⟨p,q,vs,t,h1,fun hh=>h2 (hy p h3 hh),h3,h4,RpF.mono hy fs p q vs h5,h6.mono hy⟩
theorem RpF.mono {X Y:Nat->Prop} {w:World} (hy:∀ k,k < w.heap.size->Y k->X k):∀ (fs:Fds) (b o:Nat) (vs:List V),RpF w X fs b o vs->RpF w Y fs b o vs
 | .nil,b,o,vs,h=>h
 | .cons lo hi tag df off ty r,b,o,vs,h=>by
  obtain ⟨v,vs',h1,h2,h3⟩:=h
  exact ⟨v,vs',h1,Rp.mono hy ty b _ v h2,RpF.mono hy r b o vs' h3⟩
end
theorem Rp.keep {X:Nat->Prop} {w w':World} (hk:Keeps X w w') {ty:Ty} {b o:Nat} {v:V} (h:Rp w X ty b o v) (hb:¬ X b) (hlt:b < w.heap.size):Rp w' X ty b o v:=
 Rp.frame hk ty b o v h (fun j _ _=>q1_ (hk.block b hlt hb) j)
def jz_ (w:World) (S:Nat) (v:Value) (r:RS):Prop:=
 (v=.slice none 0 0/\r.src=[]/\r.nl=true) \/
 ∃ o c,v=.slice (some ⟨S,o,none⟩) r.src.length c/\r.nl=false/\r.src.length<=c/\c<=maxLen/\S < w.heap.size/\OctAt w S o r.src
def RdS (w:World) (T S R:Nat) (r:RS):Prop:=
 ∃ v,w.heap[R]?=some (.cells #[v,.bool r.bad] T (0,0))/\jz_ w S v r
theorem jz_.keep {X:Nat->Prop} {w w':World} {S:Nat} {v:Value} {r:RS} (h:jz_ w S v r) (hk:Keeps X w w') (hS:¬ X S):jz_ w' S v r:=by
 rcases h with h | ⟨o,c,h1,h2,h3,h4,h5,h6⟩
 ·exact .inl h
 ·exact .inr ⟨o,c,h1,h2,h3,h4,Nat.lt_of_lt_of_le h5 hk.size,h6.keep hk hS⟩
theorem RdS.keep {X:Nat->Prop} {w w':World} {T S R:Nat} {r:RS} (h:RdS w T S R r) (hk:Keeps X w w') (hS:¬ X S) (hR:¬ X R):RdS w' T S R r:=by
 obtain ⟨v,h1,h2⟩:=h
 exact ⟨v,by rw [hk.block R (Array.getElem?_eq_some_iff.1 h1).1 hR];exact h1,h2.keep hk hS⟩
theorem RdS.lt {w:World} {T S R:Nat} {r:RS} (h:RdS w T S R r):R < w.heap.size:=by
 obtain ⟨v,h1,_⟩:=h
 exact (Array.getElem?_eq_some_iff.1 h1).1
structure G where
 rd:PF->Nat
 un:PF->Nat
 len:Nat
 clen:Nat
 ok:Nat
 complete:Nat
 uv:Nat
 span:Nat
 tags:Nat
 set:Nat
 tR:Nat
 tUuid:Nat
 tVer:Nat
 tI8:Nat
 tI32:Nat
 tU32:Nat
 tInt:Nat
 tBool:Nat
 tErr:Nat
 tTags:Nat
 tSl:Nat
 tStr:Nat
 gErr:Nat
inductive Nm where
 | mk (l:List Nat) (s:List Nm)
def Nm.l:Nm->List Nat | .mk l _=>l
def Nm.s:Nm->List Nm | .mk _ s=>s
def Nm.n (m:Nm) (i:Nat):Nat:=m.l.getD i 0
def Nm.sub (m:Nm) (i:Nat):Nm:=m.s.getD i (.mk [] [])
def za_ (f:Nat):Bool:=f != 999999
def hasLst (g:G) (hf:Bool):Bool:=za_ g.len && za_ g.ok && (!hf || za_ g.clen)
structure Cx where
 hf:Bool
 b:Nat
 s:Nat
 ver:Nat
 fx:Nat
abbrev GC:=Nat->Code × Nat
def qu_ (k:Nat) (f:Nat->List Oper):GC:=fun n=>(rg (f n),n + k)
def q3_ (c:Code):GC:=fun n=>(c,n)
def gL:List GC->Nat->List Code × Nat
 | [],n=>([],n)
 | x :: r,n=>((x n).1 :: (gL r (x n).2).1,(gL r (x n).2).2)
def gS (l:List GC):GC:=fun n=>(sq (gL l n).1,(gL l n).2)
def gIf (t k:Nat) (ops:Nat->List Oper) (A B:GC):GC:=fun n=>
 (.seq (rg (ops n)) (.cond (tm (n + t)) (A (n + k)).1 (B (A (n + k)).2).1),(B (A (n + k)).2).2)
def jk_:GC:=q3_ .skip
def gd (d : Nat) (op : Op) (j : Nat) (b : Bool) : Oper := ⟨some d, op, 0, "", #[], some (j, b)⟩
def bi (d : Option Nat) (b : Builtin) (args : List Operand) (tys : List Nat) (ty : Nat) : Oper := ⟨d, .call ⟨.builtin b, args.toArray, tys.toArray⟩, ty, "", #[], none⟩
def cl (d:Option Nat) (f:Nat) (args:List Operand):Oper:=mk d (.call ⟨.value (.func f),args.toArray,#[]⟩)
def ki (k:IntKind) (x:Int):Operand:=.const (.int k x)
def qm_ (f b v:Nat):GC:=qu_ 1 fun n=>[cl (some n) f [tm b],mk (some v) (.assign (tm n))]
def ji_ (v:Nat) (x:Value):GC:=qu_ 0 fun _=>[mk (some v) (.assign (.const x))]
def jf_ (x y:Nat):GC:=qu_ 1 fun n=>[mk (some n) (.move (tm x)),mk (some y) (.assign (tm n))]
def zg_ (s v T k F:Nat):GC:=qu_ 4 fun n=>[mk (some n) (.move (tm s)),mk (some (n + 1)) (.nilCheck (tm n)),mk (some (n + 2)) (.fieldAddr T (tm (n + 1)) k),mk (some (n + 3)) (.load F (tm (n + 2))),mk (some v) (.assign (tm (n + 3)))]
def gStore (uu:Option Nat) (s v T k F:Nat):GC:=qu_ 4 fun n=>[mk (some n) (.move (tm s)),mk (some (n + 1)) (match uu with | some u=>.load u (tm v) | none=>.move (tm v)),mk (some (n + 2)) (.nilCheck (tm n)),
 mk (some (n + 3)) (.fieldAddr T (tm (n + 2)) k),mk none (.store F (tm (n + 3)) (tm (n + 1)))]
def gFx (cx:Cx) (A B:GC):GC:=gIf 0 1 (fun n=>[mk (some n) (.move (tm cx.fx))]) A B
def gUn (A B:GC):GC:=gIf 0 1 (fun n=>[mk (some n) (.move (tm 2))]) A B
def xl_ (g:G) (cx:Cx) (lo:Nat) (hi:Option Nat) (A:GC):GC:=
 match hi with
 | some h=>gIf 5 6 (fun n=>[mk (some n) (.move (tm cx.ver)),mk (some (n + 1)) (.binOp .geq g.tVer (tm n) (ki .i16 lo) 0),mk (some (n + 2)) (.move (tm (n + 1))),gd (n + 3) (.move (tm cx.ver)) 2 true,
   gd (n + 4) (.binOp .leq g.tVer (tm (n + 3)) (ki .i16 h) 0) 2 true,mk (some (n + 5)) (.pick (tm (n + 2)) (tm (n + 4)) (.const (.bool false)))]) A jk_
 | none=>if lo=0 then A else gIf 1 2 (fun n=>[mk (some n) (.move (tm cx.ver)),mk (some (n + 1)) (.binOp .geq g.tVer (tm n) (ki .i16 lo) 0)]) A jk_
def gVal (g:G) (cx:Cx) (ty:Ty) (v:Nat) (x:List Nat):List GC:=
 match ty with
 | .prim .uuid=>[qu_ 1 fun n=>[cl (some n) (g.rd .uuid) [tm cx.b],mk (some v) (.alloc g.tUuid),mk none (.store g.tUuid (tm v) (tm n))]]
 | .prim p=>
  match x with
  | [t,u]=>[ji_ t (.int .i8 0),gS [qm_ (g.rd (js_ p)) cx.b u,jf_ u t],jf_ t v]
  | _=>[qm_ (g.rd (js_ p)) cx.b v]
 | .str nul=>
  let c (p:PF):GC:=qm_ (g.rd p) cx.b v
  let u (p:PF):GC:=qm_ (g.un p) cx.b v
  let nn:GC:=if cx.hf then gFx cx (gUn (u .cnstr) (c .cnstr)) (gUn (u .nstr) (c .nstr)) else gUn (u .nstr) (c .nstr)
  match nul with
  | some 0=>[ji_ v (.pointer none),nn]
  | some (m + 1)=>
   let d (f:Nat):GC:=qu_ 1 fun n=>[cl (some n) f [tm cx.b],mk none (.store g.tStr (tm (x.getD 0 0)) (tm n))]
   [ji_ v (.pointer none),gIf 1 2 (fun n=>[mk (some n) (.move (tm cx.ver)),mk (some (n + 1)) (.binOp .lss g.tVer (tm n) (ki .i16 ((m:Int) + 1)) 0)])
    (gS [qu_ 0 fun _=>[mk (some (x.getD 0 0)) (.alloc g.tStr)],
     if cx.hf then gFx cx (gUn (d (g.un .cstr)) (d (g.rd .cstr))) (gUn (d (g.un .str)) (d (g.rd .str))) else gUn (d (g.un .str)) (d (g.rd .str)),
     qu_ 0 fun _=>[mk (some v) (.assign (tm (x.getD 0 0)))]]) nn]
  | none=>[ji_ v (.string ⟨#[]⟩),if cx.hf then gUn (gFx cx (u .cstr) (u .str)) (gFx cx (c .cstr) (c .str)) else gUn (u .str) (c .str)]
 | .bytes nul=>
  let c (p:PF):GC:=qm_ (g.rd p) cx.b v
  if cx.hf then [ji_ v (.slice none 0 0),gFx cx (c (zh_ nul.isSome true)) (c (zh_ nul.isSome false))] else [c (zh_ nul.isSome false)]
 | _=>[]
def uuOf (g:G):Ty->Option Nat
 | .prim .uuid=>some g.tUuid
 | _=>none
def gRet (g:G) (b:Nat):GC:=gS [qu_ 1 fun n=>[cl (some n) g.complete [tm b],mk (some 6) (.assign (tm n))],q3_ .ret]
def gOkChk (g:G) (cx:Cx):GC:=gIf 1 2 (fun n=>[cl (some n) g.ok [tm cx.b],mk (some (n + 1)) (.unOp .not g.tBool (tm n))]) (gRet g cx.b) jk_
def gNull (g:G) (cx:Cx) (nul:Option Nat) (a l F:Nat):List GC:=
 match nul with
 | none=>[]
 | some m=>[gIf 5 6 (fun n=>[mk (some n) (.move (tm cx.ver)),mk (some (n + 1)) (.binOp .lss g.tVer (tm n) (ki .i16 m) 0),mk (some (n + 2)) (.move (tm (n + 1))),gd (n + 3) (.move (tm l)) 2 false,
   gd (n + 4) (.binOp .eql g.tI32 (tm (n + 3)) (ki .i32 0) 0) 2 false,mk (some (n + 5)) (.pick (tm (n + 2)) (.const (.bool true)) (tm (n + 4)))])
   (qu_ 1 fun n=>[mk (some n) (.buildSlice F 0 #[]),mk (some a) (.assign (tm n))]) jk_]
def gSl0 (a F:Nat):GC:=qu_ 2 fun n=>[mk (some n) (.move (tm a)),mk (some (n + 1)) (.slice F (tm n) none (some (ki .i64 0)) none),mk (some a) (.assign (tm (n + 1)))]
def gGrow (g:G) (a l F:Nat):GC:=gIf 1 2 (fun n=>[mk (some n) (.move (tm l)),mk (some (n + 1)) (.binOp .gtr g.tI32 (tm n) (ki .i32 0) 0)])
 (qu_ 3 fun n=>[mk (some n) (.move (tm a)),mk (some (n + 1)) (.move (tm l)),bi (some (n + 2)) .append [tm n,tm (n + 1)] [F,g.tI32] F,mk (some a) (.assign (tm (n + 2)))]) jk_
def gFor (g:G) (i l b1 b2:Nat) (body:GC):GC:=fun n=>
 (.seq (rg [mk (some i) (.assign (ki .i32 0))])
  (.block b1 (.loop (.seq (.seq (rg [mk (some n) (.move (tm i)),mk (some (n + 1)) (.move (tm l)),mk (some (n + 2)) (.binOp .lss g.tI32 (tm n) (tm (n + 1)) 0)]) (.cond (tm (n + 2)) .skip (.exit b1)))
   (.seq (.block b2 (body (n + 5)).1) (rg [mk (some (n + 3)) (.move (tm i)),mk (some (n + 4)) (.binOp .add g.tI32 (tm (n + 3)) (ki .i32 1) 0),mk (some i) (.assign (tm (n + 4)))]))))),
 (body (n + 5)).2)
def gIdxStore (uu:Option Nat) (a i v F E:Nat):GC:=qu_ 4 fun n=>[mk (some n) (.move (tm a)),mk (some (n + 1)) (.move (tm i)),mk (some (n + 2)) (match uu with | some u=>.load u (tm v) | none=>.move (tm v)),
 mk (some (n + 3)) (.indexAddr F (tm n) (tm (n + 1))),mk none (.store E (tm (n + 3)) (tm (n + 2)))]
def z6_ (a i v F:Nat):GC:=qu_ 3 fun n=>[mk (some n) (.move (tm a)),mk (some (n + 1)) (.move (tm i)),mk (some (n + 2)) (.indexAddr F (tm n) (tm (n + 1))),mk (some v) (.assign (tm (n + 2)))]
def zi_ (v f:Nat):GC:=qu_ 2 fun n=>[mk (some n) (.move (tm v)),cl (some (n + 1)) f [tm n]]
def gFieldAddr (s v T k:Nat):GC:=qu_ 3 fun n=>[mk (some n) (.move (tm s)),mk (some (n + 1)) (.nilCheck (tm n)),mk (some (n + 2)) (.fieldAddr T (tm (n + 1)) k),mk (some v) (.assign (tm (n + 2)))]
def gNew (s T k F E:Nat):GC:=qu_ 4 fun n=>[mk (some n) (.move (tm s)),mk (some (n + 1)) (.alloc E),mk (some (n + 2)) (.nilCheck (tm n)),mk (some (n + 3)) (.fieldAddr T (tm (n + 2)) k),mk none (.store F (tm (n + 3)) (tm (n + 1)))]
def gPresent (g:G) (cx:Cx) (p:Nat) (body:GC):GC:=gS [qm_ (g.rd .i8) cx.b p,
 gIf 4 5 (fun n => [mk (some n) (.move (tm p)), mk (some (n + 1)) (.binOp .neq g.tI8 (tm n) (ki .i8 (-1)) 0), mk (some (n + 2)) (.move (tm (n + 1))), ⟨some (n + 3), .call ⟨.value (.func g.ok), #[tm cx.b], #[]⟩, 0, "", #[], some (2, true)⟩,
  mk (some (n + 4)) (.pick (tm (n + 2)) (tm (n + 3)) (.const (.bool false)))]) body jk_]
def gReadTags (g:G) (cx:Cx) (T k:Nat):GC:=qu_ 4 fun n=>[mk (some n) (.move (tm cx.s)),cl (some (n + 1)) g.tags [tm cx.b],mk (some (n + 2)) (.nilCheck (tm n)),mk (some (n + 3)) (.fieldAddr T (tm (n + 2)) k),mk none (.store g.tTags (tm (n + 3)) (tm (n + 1)))]
def gInner (g:G) (b b':Nat):GC:=qu_ 4 fun n=>[cl (some n) g.uv [tm b],mk (some (n + 1)) (.convert g.tU32 g.tInt (tm n)),cl (some (n + 2)) g.span [tm b,tm (n + 1)],mk (some (n + 3)) (.build g.tR #[(0,tm (n + 2))]),
 mk (some b') (.alloc g.tR),mk none (.store g.tR (tm b') (tm (n + 3)))]
def gErrChk (g:G) (b' err:Nat):GC:=gS [qm_ g.complete b' err,gIf 1 2 (fun n=>[mk (some n) (.move (tm err)),mk (some (n + 1)) (.binOp .neq g.tErr (tm n) (.const .nilIface) 0)])
 (gS [qu_ 1 fun n=>[mk (some n) (.move (tm err)),mk (some 6) (.assign (tm n))],q3_ .ret]) jk_]
def gTagFor (g:G) (cx:Cx) (i b1 b2:Nat) (body:GC):GC:=fun n=>
 (.seq (rg [cl (some n) g.uv [tm cx.b],mk (some i) (.assign (tm n))])
  (.block b1 (.loop (.seq (.seq (rg [mk (some (n + 1)) (.move (tm i)),mk (some (n + 2)) (.binOp .gtr g.tU32 (tm (n + 1)) (ki .u32 0) 0)]) (.cond (tm (n + 2)) .skip (.exit b1)))
   (.seq (.block b2 (body (n + 5)).1) (rg [mk (some (n + 3)) (.move (tm i)),mk (some (n + 4)) (.binOp .sub g.tU32 (tm (n + 3)) (ki .u32 1) 0),mk (some i) (.assign (tm (n + 4)))]))))),
 (body (n + 5)).2)
def z0_ (g:G) (cx:Cx) (key T k:Nat) (n:Nat):Code:=
 .region 1 [mk (some n) (.move (tm cx.s)),mk (some (n + 1)) (.nilCheck (tm n)),mk (some (n + 2)) (.fieldAddr T (tm (n + 1)) k),mk (some (n + 3)) (.move (tm key)),cl (some (n + 4)) g.uv [tm cx.b],
  mk (some (n + 5)) (.convert g.tU32 g.tInt (tm (n + 4))),cl (some (n + 6)) g.span [tm cx.b,tm (n + 5)],cl (some (n + 7)) g.set [tm (n + 2),tm (n + 3),tm (n + 6)]].toArray true
def gCases (g:G) (key:Nat) (dflt:Code):List (Nat × GC)->Nat->Code × Nat
 | [],n=>(dflt,n)
 | (t,x) :: r,n=>(.seq (rg [mk (some (n + 1)) (.binOp .eql g.tU32 (tm key) (ki .u32 t) 0),mk (some n) (.assign (tm (n + 1)))]) (.cond (tm n) (x (n + 2)).1 (gCases g key dflt r (x (n + 2)).2).1),(gCases g key dflt r (x (n + 2)).2).2)
def gSwitch (g:G) (cx:Cx) (key b3 T k:Nat) (cs:List (Nat × GC)):GC:=fun n=>
 (.seq (rg [mk (some n) (.move (tm key))]) (.block b3 (gCases g n (z0_ g cx key T k (n + 1)) cs (n + 9)).1),(gCases g n (z0_ g cx key T k (n + 1)) cs (n + 9)).2)
def gStOf (g:G) (cx:Cx) (tagged:Bool) (T kt:Nat) (m:Nm) (items:List GC) (cases:List (Nat × GC)):List GC:=
 items++(if !cx.hf then []
  else if tagged then [gFx cx (gTagFor g cx (m.n 0) (m.n 2) (m.n 3) (gS [qm_ g.uv cx.b (m.n 1),gSwitch g cx (m.n 1) (m.n 4) T kt cases])) jk_]
  else [gFx cx (gReadTags g cx T kt) jk_])
mutual
def gTy (g:G) (cx:Cx):Ty->Nm->List GC
 | .prim p,m=>gVal g cx (.prim p) (m.n 0) (m.l.drop 4)++[gStore (uuOf g (.prim p)) cx.s (m.n 0) (m.n 1) (m.n 2) (m.n 3)]
 | .str nul,m=>gVal g cx (.str nul) (m.n 0) (m.l.drop 4)++[gStore none cx.s (m.n 0) (m.n 1) (m.n 2) (m.n 3)]
 | .bytes nul,m=>gVal g cx (.bytes nul) (m.n 0) []++[gStore none cx.s (m.n 0) (m.n 1) (m.n 2) (m.n 3)]
 | .list nul _ e,m=>
  let v:=m.n 0
  let F:=m.n 3
  let a:=m.n 4
  let l:=m.n 5
  let i:=m.n 6
  [zg_ cx.s v (m.n 1) (m.n 2) F,jf_ v a,ji_ l (.int .i32 0),if cx.hf then gFx cx (qm_ g.clen cx.b l) (qm_ g.len cx.b l) else qm_ g.len cx.b l]++gNull g cx nul a l F ++
  [gOkChk g cx,gSl0 a F,gGrow g a l F,gFor g i l (m.n 7) (m.n 8) (gS (gEl g cx e a i F (m.sub 0))),jf_ a v,gStore none cx.s v (m.n 1) (m.n 2) F]
 | .struct none _ fs,m=>
  [gFieldAddr cx.s (m.n 0) (m.n 1) (m.n 2),zi_ (m.n 0) (m.n 4),jf_ (m.n 0) (m.n 3)]++gStOf g { cx with s:=m.n 3 } fs.tagged (m.n 5) (m.n 6) (m.sub 0) (gFds g { cx with s:=m.n 3 } fs (m.sub 0).s) (gTagd g { cx with s:=m.n 3 } fs (m.sub 0).s)
 | .struct (some _) _ fs,m=>
  [gPresent g cx (m.n 8) (gS ([gNew cx.s (m.n 1) (m.n 2) (m.n 3) (m.n 9),zg_ cx.s (m.n 0) (m.n 1) (m.n 2) (m.n 3),zi_ (m.n 0) (m.n 5),jf_ (m.n 0) (m.n 4)]++gStOf g { cx with s:=m.n 4 } fs.tagged (m.n 6) (m.n 7) (m.sub 0) (gFds g { cx with s:=m.n 4 } fs (m.sub 0).s) (gTagd g { cx with s:=m.n 4 } fs (m.sub 0).s)))]
def gEl (g:G) (cx:Cx):Ty->Nat->Nat->Nat->Nm->List GC
 | .struct _ _ fs,a,i,F,m=>
  [z6_ a i (m.n 0) F,zi_ (m.n 0) (m.n 2),jf_ (m.n 0) (m.n 1)]++gStOf g { cx with s:=m.n 1 } fs.tagged (m.n 3) (m.n 4) (m.sub 0) (gFds g { cx with s:=m.n 1 } fs (m.sub 0).s) (gTagd g { cx with s:=m.n 1 } fs (m.sub 0).s)
 | ty,a,i,F,m=>
  gVal g cx ty (m.n 0) (m.l.drop 2)++[gIdxStore (uuOf g ty) a i (m.n 0) F (m.n 1)]
def gFds (g:G) (cx:Cx):Fds->List Nm->List GC
 | .nil,_=>[]
 | .cons lo hi tag _ _ ty r,ms=>
  if tag.isNone then xl_ g cx lo hi (gS (gTy g cx ty (ms.headD (.mk [] [])))) :: gFds g cx r ms.tail else gFds g cx r ms.tail
def gTagd (g:G) (cx:Cx):Fds->List Nm->List (Nat × GC)
 | .nil,_=>[]
 | .cons _ _ tag _ _ ty r,ms=>
  match tag with
  | some t=>(t,gS ([gInner g cx.b ((ms.headD (.mk [] [])).n 0)]++gTy g { cx with b:=(ms.headD (.mk [] [])).n 0 } ty ((ms.headD (.mk [] [])).sub 0)++[gErrChk g ((ms.headD (.mk [] [])).n 0) ((ms.headD (.mk [] [])).n 1)])) :: gTagd g cx r ms.tail
  | none=>gTagd g cx r ms.tail
end
def gRead (g:G) (hf kept:Bool) (cx:Cx) (fs:Fds) (dflt T kt flex n0:Nat) (m:Nm):Code:=
 (gS ([ji_ 6 .nilIface,zi_ 0 dflt,qu_ 2 fun n=>[mk (some n) (.move (tm 1)),mk (some (n + 1)) (.build g.tR #[(0,tm n)]),mk (some cx.b) (.alloc g.tR),mk none (.store g.tR (tm cx.b) (tm (n + 1)))]] ++
  (if kept then [qu_ 4 fun n=>[mk (some n) (.move (tm 0)),cl (some (n + 1)) (g.rd .i16) [tm cx.b],mk (some (n + 2)) (.nilCheck (tm n)),mk (some (n + 3)) (.fieldAddr T (tm (n + 2)) 0),mk none (.store g.tVer (tm (n + 3)) (tm (n + 1)))]] else []) ++
  [zg_ 0 cx.ver T 0 g.tVer,qu_ 1 fun n=>[mk (some n) (.move (tm cx.ver))]] ++
  (if hf then [qu_ 2 fun n=>[mk (some n) (.move (tm cx.ver)),mk (some (n + 1)) (.binOp .geq g.tVer (tm n) (ki .i16 flex) 0),mk (some cx.fx) (.assign (tm (n + 1)))],qu_ 1 fun n=>[mk (some n) (.move (tm cx.fx))]] else []) ++
  [jf_ 0 cx.s]++gStOf g cx fs.tagged T kt m (gFds g cx fs m.s) (gTagd g cx fs m.s) ++
  [qu_ 1 fun n=>[cl (some n) g.complete [tm cx.b],mk (some 6) (.assign (tm n))],q3_ .ret]) n0).1
structure Sm where
 fDef:Nat
 fSame:Nat
 F:Nat
 sz:Nat
 toff:Nat
 ds:List (Nat × Option Prim × Int)
structure GW where
 ap:PF->Nat
 alen:Nat
 calen:Nat
 nalen:Nat
 cnalen:Nat
 uv:Nat
 tlen:Nat
 teach:Nat
 tVer:Nat
 tInt:Nat
 tU32:Nat
 tSl:Nat
 tUuid:Nat
 sm:List Sm:=[]
def jm_ (f v:Nat):GC:=qu_ 3 fun n=>[mk (some n) (.move (tm 1)),mk (some (n + 1)) (.move (tm v)),cl (some (n + 2)) f [tm n,tm (n + 1)],mk (some 1) (.assign (tm (n + 2)))]
def gwAppU (g:GW) (f v:Nat):GC:=qu_ 3 fun n=>[mk (some n) (.move (tm 1)),mk (some (n + 1)) (.load g.tUuid (tm v)),cl (some (n + 2)) f [tm n,tm (n + 1)],mk (some 1) (.assign (tm (n + 2)))]
def gwLoadU (s v T k F:Nat):GC:=qu_ 4 fun n=>[mk (some n) (.move (tm s)),mk (some (n + 1)) (.nilCheck (tm n)),mk (some (n + 2)) (.fieldAddr T (tm (n + 1)) k),mk (some (n + 3)) (.load F (tm (n + 2))),mk (some v) (.alloc F),mk none (.store F (tm v) (tm (n + 3)))]
def gwFx (cx:Cx) (A B:GC):GC:=if cx.hf then gFx cx A B else B
def jc_ (g:GW) (cx:Cx) (ty:Ty) (v:Nat) (x:List Nat):List GC:=
 match ty with
 | .prim .uuid=>[gwAppU g (g.ap .uuid) v]
 | .prim p=>match x with
  | [t]=>[jf_ v t,jm_ (g.ap (js_ p)) t]
  | _=>[jm_ (g.ap (js_ p)) v]
 | .str none=>[gwFx cx (jm_ (g.ap .cstr) v) (jm_ (g.ap .str) v)]
 | .str (some 0)=>[gwFx cx (jm_ (g.ap .cnstr) v) (jm_ (g.ap .nstr) v)]
 | .str (some (m + 1))=>
  [gIf 1 2 (fun n=>[mk (some n) (.move (tm cx.ver)),mk (some (n + 1)) (.binOp .lss g.tVer (tm n) (ki .i16 ((m:Int) + 1)) 0)])
   (gS [ji_ (x.getD 0 0) (.string ⟨#[]⟩),gIf 1 2 (fun n=>[mk (some n) (.move (tm v)),mk (some (n + 1)) (.binOp .neq (x.getD 2 0) (tm n) (.const (.pointer none)) 0)])
    (qu_ 3 fun n=>[mk (some n) (.move (tm v)),mk (some (n + 1)) (.nilCheck (tm n)),mk (some (n + 2)) (.load (x.getD 3 0) (tm (n + 1))),mk (some (x.getD 0 0)) (.assign (tm (n + 2)))]) jk_,
    jf_ (x.getD 0 0) (x.getD 1 0),gwFx cx (jm_ (g.ap .cstr) (x.getD 1 0)) (jm_ (g.ap .str) (x.getD 1 0))])
   (gwFx cx (jm_ (g.ap .cnstr) v) (jm_ (g.ap .nstr) v))]
 | .bytes none=>[gwFx cx (jm_ (g.ap .cbytes) v) (jm_ (g.ap .bytes) v)]
 | .bytes (some _)=>[gwFx cx (jm_ (g.ap .cnbytes) v) (jm_ (g.ap .nbytes) v)]
 | _=>[]
def hasLstW (g:GW) (hf:Bool):Bool:=za_ g.alen && (!hf || za_ g.calen)
def gwLenA (g:GW) (f v F:Nat):GC:=qu_ 4 fun n=>[mk (some n) (.move (tm 1)),mk (some (n + 1)) (.move (tm v)),bi (some (n + 2)) .len [tm (n + 1)] [F] g.tInt,cl (some (n + 3)) f [tm n,tm (n + 2)],mk (some 1) (.assign (tm (n + 3)))]
def gwLenN (g:GW) (f v F:Nat):GC:=qu_ 6 fun n=>[mk (some n) (.move (tm 1)),mk (some (n + 1)) (.move (tm v)),bi (some (n + 2)) .len [tm (n + 1)] [F] g.tInt,mk (some (n + 3)) (.move (tm v)),mk (some (n + 4)) (.binOp .eql F (tm (n + 3)) (.const (.slice none 0 0)) 0),
 cl (some (n + 5)) f [tm n,tm (n + 2),tm (n + 4)],mk (some 1) (.assign (tm (n + 5)))]
def gwLen (g:GW) (cx:Cx) (nul:Option Nat) (v F:Nat):GC:=
 match nul with
 | none=>gwFx cx (gwLenA g g.calen v F) (gwLenA g g.alen v F)
 | some 0=>gwFx cx (gwLenN g g.cnalen v F) (gwLenN g g.nalen v F)
 | some (q + 1)=>gIf 1 2 (fun n=>[mk (some n) (.move (tm cx.ver)),mk (some (n + 1)) (.binOp .geq g.tVer (tm n) (ki .i16 ((q + 1:Nat):Int)) 0)]) (gwFx cx (gwLenN g g.cnalen v F) (gwLenN g g.nalen v F)) (gwFx cx (gwLenA g g.calen v F) (gwLenA g g.alen v F))
def gwFor (g:GW) (v i b1 b2 F:Nat) (body:List GC):GC:=fun n=>
 (.seq (rg [mk (some n) (.move (tm v)),bi (some (n + 1)) .len [tm n] [F] g.tInt,mk (some (n + 2)) (.move (ki .i64 0))])
  (.block b1 (.loop (.seq (rg [mk (some (n + 3)) (.binOp .lss g.tInt (tm (n + 2)) (tm (n + 1)) 0)]) (.seq (.cond (tm (n + 3)) .skip (.exit b1))
   (.seq (.block b2 (.seq (rg [mk (some (n + 4)) (.move (tm (n + 2))),mk (some i) (.assign (tm (n + 4)))]) (gS body (n + 5)).1))
    (rg [mk (some (gS body (n + 5)).2) (.binOp .add g.tInt (tm (n + 2)) (ki .i64 1) 0),mk (some (n + 2)) (.move (tm (gS body (n + 5)).2))])))))),
 (gS body (n + 5)).2 + 1)
def gwIdx (v i e F E:Nat):GC:=qu_ 4 fun n=>[mk (some n) (.move (tm v)),mk (some (n + 1)) (.move (tm i)),mk (some (n + 2)) (.indexAddr F (tm n) (tm (n + 1))),mk (some (n + 3)) (.load E (tm (n + 2))),mk (some e) (.assign (tm (n + 3)))]
def gwIdxU (v i e F E:Nat):GC:=qu_ 4 fun n=>[mk (some n) (.move (tm v)),mk (some (n + 1)) (.move (tm i)),mk (some (n + 2)) (.indexAddr F (tm n) (tm (n + 1))),mk (some (n + 3)) (.load E (tm (n + 2))),mk (some e) (.alloc E),mk none (.store E (tm e) (tm (n + 3)))]
def gwByte (g:GW) (c:Int):GC:=qu_ 3 fun n=>[mk (some n) (.move (tm 1)),mk (some (n + 1)) (.buildSlice g.tSl 1 #[(0,ki .u8 c)]),bi (some (n + 2)) .append [tm n,tm (n + 1)] [g.tSl,g.tSl] g.tSl,mk (some 1) (.assign (tm (n + 2)))]
def gwNil (v F:Nat) (A B:GC):GC:=gIf 1 2 (fun n=>[mk (some n) (.move (tm v)),mk (some (n + 1)) (.binOp .eql F (tm n) (.const (.pointer none)) 0)]) A B
def gwTagLen (g:GW) (s T kt:Nat):GC:=qu_ 8 fun n=>[mk (some n) (.move (tm 1)),mk (some (n + 1)) (.move (tm s)),mk (some (n + 2)) (.nilCheck (tm (n + 1))),mk (some (n + 3)) (.fieldAddr T (tm (n + 2)) kt),cl (some (n + 4)) g.tlen [tm (n + 3)],
 mk (some (n + 5)) (.convert g.tInt g.tU32 (tm (n + 4))),mk (some (n + 6)) (.binOp .add g.tU32 (ki .u32 0) (tm (n + 5)) 0),cl (some (n + 7)) g.uv [tm n,tm (n + 6)],mk (some 1) (.assign (tm (n + 7)))]
def xj_ (g:GW) (s T kt:Nat):GC:=qu_ 5 fun n=>[mk (some n) (.move (tm s)),mk (some (n + 1)) (.nilCheck (tm n)),mk (some (n + 2)) (.fieldAddr T (tm (n + 1)) kt),mk (some (n + 3)) (.move (tm 1)),cl (some (n + 4)) g.teach [tm (n + 2),tm (n + 3)],mk (some 1) (.assign (tm (n + 4)))]
def gwTags (g:GW) (cx:Cx) (T kt:Nat):List GC:=if cx.hf then [gFx cx (gS [gwTagLen g cx.s T kt,xj_ g cx.s T kt]) jk_] else []
def isUuid:Ty->Bool
 | .prim .uuid=>true
 | _=>false
def gwGet (ty:Ty) (s v T k F:Nat):GC:=if isUuid ty then gwLoadU s v T k F else zg_ s v T k F
def gwIdxG (ty:Ty) (v i e F E:Nat):GC:=if isUuid ty then gwIdxU v i e F E else gwIdx v i e F E
def gwGuard (g:GW) (cx:Cx) (lo:Nat) (hi:Option Nat) (A:GC):GC:=
 match hi with
 | some h=>gIf 5 6 (fun n=>[mk (some n) (.move (tm cx.ver)),mk (some (n + 1)) (.binOp .geq g.tVer (tm n) (ki .i16 lo) 0),mk (some (n + 2)) (.move (tm (n + 1))),gd (n + 3) (.move (tm cx.ver)) 2 true,
   gd (n + 4) (.binOp .leq g.tVer (tm (n + 3)) (ki .i16 h) 0) 2 true,mk (some (n + 5)) (.pick (tm (n + 2)) (tm (n + 4)) (.const (.bool false)))]) A jk_
 | none=>if lo=0 then A else gIf 1 2 (fun n=>[mk (some n) (.move (tm cx.ver)),mk (some (n + 1)) (.binOp .geq g.tVer (tm n) (ki .i16 lo) 0)]) A jk_
def gScope (l:List GC):GC:=fun n=>(.scope (gS l n).1,(gS l n).2)
def gDraw (k:Nat) (f:Nat->List Oper):GC:=fun n=>(.region 1 (f n).toArray true,n + k)
def gwUv (g:GW) (x:Nat):GC:=qu_ 2 fun n=>[mk (some n) (.move (tm 1)),cl (some (n + 1)) g.uv [tm n,ki .u32 x],mk (some 1) (.assign (tm (n + 1)))]
def gwPut (tKs te k:Nat):GC:=qu_ 3 fun n=>[mk (some n) (.move (tm te)),mk (some (n + 1)) (.buildSlice tKs 1 #[(0,ki .u32 k)]),bi (some (n + 2)) .append [tm n,tm (n + 1)] [tKs,tKs] tKs,mk (some te) (.assign (tm (n + 2)))]
def pVal:Prim->Int->Value
 | .bool,x=>.bool (x != 0)
 | p,x=>.int p.kind x
def gwAt (s T k F n:Nat):List Oper:=[mk (some n) (.move (tm s)),mk (some (n + 1)) (.nilCheck (tm n)),mk (some (n + 2)) (.fieldAddr T (tm (n + 1)) k),mk (some (n + 3)) (.load F (tm (n + 2)))]
def gwCond (g:GW) (s:Nat) (ty:Ty) (df:Int) (m:Nm) (A:GC):GC:=
 match ty with
 | .prim .uuid=>gIf 5 6 (fun n=>gwAt s (m.n 1) (m.n 2) (m.n 3) n++[mk (some (n + 4)) (.build (m.n 3) #[]),mk (some (n + 5)) (.binOp .neq (m.n 3) (tm (n + 3)) (tm (n + 4)) 0)]) A jk_
 | .prim p=>gIf 4 5 (fun n=>gwAt s (m.n 1) (m.n 2) (m.n 3) n++[mk (some (n + 4)) (.binOp .neq (m.n 3) (tm (n + 3)) (.const (pVal p df)) 0)]) A jk_
 | .str _=>gIf 4 5 (fun n=>gwAt s (m.n 1) (m.n 2) (m.n 3) n++[mk (some (n + 4)) (.binOp .neq (m.n 3) (tm (n + 3)) (.const (.pointer none)) 0)]) A jk_
 | .list _ _ _=>gIf 5 6 (fun n=>gwAt s (m.n 1) (m.n 2) (m.n 3) n++[bi (some (n + 4)) .len [tm (n + 3)] [m.n 3] g.tInt,mk (some (n + 5)) (.binOp .gtr g.tInt (tm (n + 4)) (ki .i64 0) 0)]) A jk_
 | .struct _ _ _=>fun n=>(.seq (gDraw 7 (fun n=>gwAt s (m.n 1) (m.n 2) (m.n 3) n++[cl (some (n + 4)) (m.n 7) [],cl (some (n + 5)) (m.n 8) [tm (n + 3),tm (n + 4)],mk (some (n + 6)) (.unOp .not (m.n 9) (tm (n + 5)))]) n).1 (.cond (tm (n + 6)) (A (n + 7)).1 .skip),(A (n + 7)).2)
 | _=>jk_
def zf_ (g:GW) (s te tKs:Nat):Fds->List Nm->List GC
 | .nil,_=>[]
 | .cons _ _ tag df _ ty r,ms=>match tag with
  | some t=>gwCond g s ty df (ms.headD (.mk [] [])) (gwPut tKs te t) :: zf_ g s te tKs r ms.tail
  | none=>zf_ g s te tKs r ms.tail
def gwCount (g:GW) (s T kt te tKs:Nat):GC:=qu_ 10 fun n=>[mk (some n) (.move (tm 1)),mk (some (n + 1)) (.move (tm te)),bi (some (n + 2)) .len [tm (n + 1)] [tKs] g.tInt,mk (some (n + 3)) (.move (tm s)),mk (some (n + 4)) (.nilCheck (tm (n + 3))),mk (some (n + 5)) (.fieldAddr T (tm (n + 4)) kt),
 cl (some (n + 6)) g.tlen [tm (n + 5)],mk (some (n + 7)) (.binOp .add g.tInt (tm (n + 2)) (tm (n + 6)) 0),mk (some (n + 8)) (.convert g.tInt g.tU32 (tm (n + 7))),cl (some (n + 9)) g.uv [tm n,tm (n + 8)],mk (some 1) (.assign (tm (n + 9)))]
def jx_ (g:GW) (key:Nat):List (Nat × GC)->Nat->Code × Nat
 | [],n=>(.skip,n)
 | (t,x) :: r,n=>(.seq (rg [mk (some (n + 1)) (.binOp .eql g.tU32 (tm key) (ki .u32 t) 0),mk (some n) (.assign (tm (n + 1)))]) (.cond (tm n) (x (n + 2)).1 (jx_ g key r (x (n + 2)).2).1),(jx_ g key r (x (n + 2)).2).2)
def gwTagFor (g:GW) (te tKs tv b1 b2 b3:Nat) (cs:List (Nat × GC)):GC:=fun n=>
 (.seq (rg [mk (some n) (.move (tm te)),bi (some (n + 1)) .len [tm n] [tKs] g.tInt,mk (some (n + 2)) (.move (ki .i64 0))])
  (.block b1 (.loop (.seq (rg [mk (some (n + 3)) (.binOp .lss g.tInt (tm (n + 2)) (tm (n + 1)) 0)]) (.seq (.cond (tm (n + 3)) .skip (.exit b1))
   (.seq (.block b2 (.seq (rg [mk (some (n + 4)) (.indexAddr tKs (tm n) (tm (n + 2))),mk (some (n + 5)) (.load g.tU32 (tm (n + 4))),mk (some tv) (.assign (tm (n + 5)))])
     (.seq (rg [mk (some (n + 6)) (.move (tm tv))]) (.block b3 (jx_ g (n + 6) cs (n + 7)).1))))
    (rg [mk (some (jx_ g (n + 6) cs (n + 7)).2) (.binOp .add g.tInt (tm (n + 2)) (ki .i64 1) 0),mk (some (n + 2)) (.move (tm (jx_ g (n + 6) cs (n + 7)).2))])))))),
 (jx_ g (n + 6) cs (n + 7)).2 + 1)
def gwSz (g:GW) (z lenAt l:Nat):List GC:=[ji_ z (.bool false),qu_ 2 fun n=>[mk (some n) (.move (tm 1)),bi (some (n + 1)) .len [tm n] [g.tSl] g.tInt,mk (some lenAt) (.assign (tm (n + 1)))],q3_ (.label l)]
def zs_ (g:GW) (z lenAt l tBool:Nat):GC:=gIf 1 2 (fun n=>[mk (some n) (.move (tm z)),mk (some (n + 1)) (.unOp .not tBool (tm n))])
 (gS [gDraw 9 fun n=>[mk (some n) (.move (tm 1)),mk (some (n + 1)) (.move (tm lenAt)),mk (some (n + 2)) (.slice g.tSl (tm n) none (some (tm (n + 1))) none),mk (some (n + 3)) (.move (tm 1)),mk (some (n + 4)) (.move (tm lenAt)),mk (some (n + 5)) (.slice g.tSl (tm (n + 3)) (some (tm (n + 4))) none none),
  bi (some (n + 6)) .len [tm (n + 5)] [g.tSl] g.tInt,mk (some (n + 7)) (.convert g.tInt g.tU32 (tm (n + 6))),cl (some (n + 8)) g.uv [tm (n + 2),tm (n + 7)],mk (some 1) (.assign (tm (n + 8)))],ji_ z (.bool true),q3_ (.goto l)]) jk_
def gwBox (g:GW) (cx:Cx) (b F:Nat):Fds->List Nm->List GC
 | .nil,_=>[]
 | .cons _ _ _ _ _ ty r,ms=>
  gS ((qu_ 2 fun n=>[mk (some n) (.fieldAddr F (tm b) ((ms.headD (.mk [] [])).n 1)),mk (some (n + 1)) (.load ((ms.headD (.mk [] [])).n 2) (tm n)),mk (some ((ms.headD (.mk [] [])).n 0)) (.assign (tm (n + 1)))]) :: jc_ g cx ty ((ms.headD (.mk [] [])).n 0) []) :: gwBox g cx b F r ms.tail
def xk_ (g:GW) (cx:Cx) (b F kt:Nat):GC:=gFx cx (gS [qu_ 6 fun n=>[mk (some n) (.move (tm 1)),mk (some (n + 1)) (.fieldAddr F (tm b) kt),cl (some (n + 2)) g.tlen [tm (n + 1)],mk (some (n + 3)) (.convert g.tInt g.tU32 (tm (n + 2))),
  mk (some (n + 4)) (.binOp .add g.tU32 (ki .u32 0) (tm (n + 3)) 0),cl (some (n + 5)) g.uv [tm n,tm (n + 4)],mk (some 1) (.assign (tm (n + 5)))],
 qu_ 3 fun n=>[mk (some n) (.fieldAddr F (tm b) kt),mk (some (n + 1)) (.move (tm 1)),cl (some (n + 2)) g.teach [tm n,tm (n + 1)],mk (some 1) (.assign (tm (n + 2)))]]) jk_
def primSz:Prim->Nat
 | .bool=>1 | .i8=>1 | .i16=>2 | .u16=>2 | .i32=>4 | .i64=>8 | .uuid=>16
def gwTailK (g:GW) (cx:Cx) (fs:Fds) (T kt:Nat) (m:Nm) (cs:List (Nat × GC)):List GC:=
 if fs.tagged then
  (if cx.hf then [gFx cx (gS ([ji_ (m.n 0) (.slice none 0 0)]++zf_ g cx.s (m.n 0) (m.n 1) fs m.s ++
   [gwCount g cx.s T kt (m.n 0) (m.n 1),gwTagFor g (m.n 0) (m.n 1) (m.n 2) (m.n 3) (m.n 4) (m.n 5) cs,xj_ g cx.s T kt])) jk_] else [])
 else gwTags g cx T kt
mutual
def gwTy (g:GW) (cx:Cx):Ty->Nm->List GC
 | .prim p,m=>gwGet (.prim p) cx.s (m.n 0) (m.n 1) (m.n 2) (m.n 3) :: jc_ g cx (.prim p) (m.n 0) (m.l.drop 4)
 | .str nul,m=>zg_ cx.s (m.n 0) (m.n 1) (m.n 2) (m.n 3) :: jc_ g cx (.str nul) (m.n 0) (m.l.drop 4)
 | .bytes nul,m=>zg_ cx.s (m.n 0) (m.n 1) (m.n 2) (m.n 3) :: jc_ g cx (.bytes nul) (m.n 0) []
 | .list nul _ e,m=>
  [zg_ cx.s (m.n 0) (m.n 1) (m.n 2) (m.n 3),gwLen g cx nul (m.n 0) (m.n 3),gwFor g (m.n 0) (m.n 4) (m.n 5) (m.n 6) (m.n 3) (gwEl g cx e (m.n 0) (m.n 4) (m.n 3) (m.sub 0))]
 | .struct none _ fs,m=>
  gFieldAddr cx.s (m.n 0) (m.n 1) (m.n 2) :: (gwFds g { cx with s:=m.n 0 } fs (m.sub 0).s++gwTailK g { cx with s:=m.n 0 } fs (m.n 3) (m.n 4) (m.sub 0) (gwTagd g { cx with s:=m.n 0 } fs (m.sub 0).s))
 | .struct (some _) _ fs,m=>
  [zg_ cx.s (m.n 0) (m.n 1) (m.n 2) (m.n 3),gwNil (m.n 0) (m.n 3) (gwByte g 255) (gS (gwByte g 1 :: (gwFds g { cx with s:=m.n 0 } fs (m.sub 0).s++gwTailK g { cx with s:=m.n 0 } fs (m.n 4) (m.n 5) (m.sub 0) (gwTagd g { cx with s:=m.n 0 } fs (m.sub 0).s))))]
def gwEl (g:GW) (cx:Cx):Ty->Nat->Nat->Nat->Nm->List GC
 | .struct _ _ fs,v,i,F,m=>
  z6_ v i (m.n 0) F :: (gwFds g { cx with s:=m.n 0 } fs (m.sub 0).s++gwTailK g { cx with s:=m.n 0 } fs (m.n 1) (m.n 2) (m.sub 0) (gwTagd g { cx with s:=m.n 0 } fs (m.sub 0).s))
 | ty,v,i,F,m=>
  gwIdxG ty v i (m.n 0) F (m.n 1) :: jc_ g cx ty (m.n 0) (m.l.drop 2)
def gwFds (g:GW) (cx:Cx):Fds->List Nm->List GC
 | .nil,_=>[]
 | .cons lo hi tag _ _ ty r,ms=>
  if tag.isNone then gwGuard g cx lo hi (gS (gwTy g cx ty (ms.headD (.mk [] [])))) :: gwFds g cx r ms.tail else gwFds g cx r ms.tail
def gwTagd (g:GW) (cx:Cx):Fds->List Nm->List (Nat × GC)
 | .nil,_=>[]
 | .cons _ _ tag _ _ ty r,ms=>
  match tag with
  | some t=>(t,gwBody g cx t ty (ms.headD (.mk [] []))) :: gwTagd g cx r ms.tail
  | none=>gwTagd g cx r ms.tail
def gwBody (g:GW) (cx:Cx) (t:Nat):Ty->Nm->GC
 | .prim p,m=>gS ([gwGet (.prim p) cx.s (m.n 0) (m.n 1) (m.n 2) (m.n 3),gwUv g t,gwUv g (primSz p)]++jc_ g cx (.prim p) (m.n 0) [])
 | .list nul _ e,m=>gScope ([zg_ cx.s (m.n 0) (m.n 1) (m.n 2) (m.n 3),gwUv g t]++gwSz g (m.n 4) (m.n 5) (m.n 6)++[gwLen g cx nul (m.n 0) (m.n 3),gwFor g (m.n 0) (m.n 12) (m.n 13) (m.n 14) (m.n 3) (gwEl g cx e (m.n 0) (m.n 12) (m.n 3) (m.sub 0))]++[zs_ g (m.n 4) (m.n 5) (m.n 6) (m.n 9)])
 | .struct _ _ fs,m=>gScope ([gwLoadU cx.s (m.n 0) (m.n 1) (m.n 2) (m.n 3),gwUv g t]++gwSz g (m.n 4) (m.n 5) (m.n 6)++(gwBox g cx (m.n 0) (m.n 3) fs (m.sub 0).s++[xk_ g cx (m.n 0) (m.n 3) (m.n 11)])++[zs_ g (m.n 4) (m.n 5) (m.n 6) (m.n 9)])
 | ty,m=>gScope ([zg_ cx.s (m.n 0) (m.n 1) (m.n 2) (m.n 3),gwUv g t]++gwSz g (m.n 4) (m.n 5) (m.n 6)++jc_ g cx ty (m.n 0) []++[zs_ g (m.n 4) (m.n 5) (m.n 6) (m.n 9)])
end
def jj_ (g:GW) (cx:Cx) (fs:Fds) (T kt:Nat) (m:Nm):List GC:=gwTailK g cx fs T kt m (gwTagd g cx fs m.s)
def gwHead (g:GW) (kept:Bool) (cx:Cx) (T flex v6:Nat):List GC:=
 [ji_ 4 (.slice none 0 0),zg_ 0 cx.ver T 0 g.tVer,qu_ 1 fun n=>[mk (some n) (.move (tm cx.ver))]] ++
  (if cx.hf then [qu_ 2 fun n=>[mk (some n) (.move (tm cx.ver)),mk (some (n + 1)) (.binOp .geq g.tVer (tm n) (ki .i16 flex) 0),mk (some cx.fx) (.assign (tm (n + 1)))],qu_ 1 fun n=>[mk (some n) (.move (tm cx.fx))]] else []) ++
  (if kept then [gS [zg_ 0 v6 T 0 g.tVer,jm_ (g.ap .i16) v6]] else [])
def gwEnd:List GC:=[qu_ 1 fun n=>[mk (some n) (.move (tm 1)),mk (some 4) (.assign (tm n))],q3_ .ret]
def gWrite (g:GW) (kept:Bool) (cx:Cx) (fs:Fds) (T kt flex v6 n0:Nat) (m:Nm):Code:=
 (gS (gwHead g kept cx T flex v6++(gwFds g cx fs m.s++jj_ g cx fs T kt m++gwEnd)) n0).1
section
variable {P:Program}
theorem nwp_skip_inv {c:Code} {Q:Exit->Act->World->Prop} {a:Act} {w:World} (h:NWP P c Q a w):c=.skip->Q .normal a w:=by
 induction h with
 | skip hq=>intro _;exact hq
 | mono _ hq ih=>intro hc;exact hq _ _ _ (ih hc)
 | reg=>intro hc;cases hc
 | drw=>intro hc;cases hc
 | _=>intro hc;cases hc
def LW (P:Program) (l:List GC) (n:Nat) (Q:Exit->Act->World->Prop) (a:Act) (w:World):Prop:=NWP P (sq (gL l n).1) Q a w
theorem q0_ {n:Nat} {Q:Exit->Act->World->Prop} {a:Act} {w:World} (h:Q .normal a w):LW P [] n Q a w:=.skip h
theorem zc_ {K:Act->World->Prop} {Q:Exit->Act->World->Prop} {e:Exit} {a:Act} {w:World} (he:e ≠ .normal):Exit.then K Q e a w=Q e a w:=by
 cases e <;> first | rfl | exact absurd rfl he
theorem qh_ {c:Code} {cs:List Code} {Q:Exit->Act->World->Prop} {a:Act} {w:World} (h:NWP P c (Exit.then (NWP P (sq cs) Q) Q) a w):NWP P (sq (c :: cs)) Q a w:=by
 cases cs with
 | nil=>
  refine .mono h fun e a w hq=>?_
  cases e with
  | normal=>exact nwp_skip_inv hq rfl
  | _=>exact hq
 | cons d ds=>exact .seq h (fun a w hq=>hq) (fun e a w he hq=>by rw [zc_ he] at hq;exact hq)
theorem qc_ {x:GC} {r:List GC} {n:Nat} {Q:Exit->Act->World->Prop} {a:Act} {w:World} (h:NWP P (x n).1 (Exit.then (LW P r (x n).2 Q) Q) a w):LW P (x :: r) n Q a w:=
 qh_ h
theorem q2_ {l:List GC} {n:Nat} {Q:Exit->Act->World->Prop} {a:Act} {w:World} (h:LW P l n Q a w):NWP P (gS l n).1 Q a w:=h
def Up (x:GC):Prop:=∀ n,n<=(x n).2
theorem qi_ (k:Nat) (f:Nat->List Oper):Up (qu_ k f):=fun n=>Nat.le_add_right n k
theorem q7_ (c:Code):Up (q3_ c):=fun n=>Nat.le_refl n
theorem up_list {l:List GC} (h:∀ x ∈ l,Up x):∀ n,n<=(gL l n).2:=by
 induction l with
 | nil=>intro n;exact Nat.le_refl n
 | cons x l ih=>intro n;exact Nat.le_trans (h x (by simp) n) (ih (fun y hy=>h y (by simp [hy])) _)
theorem j4_ {t k:Nat} {ops:Nat->List Oper} {A B:GC} (hA:Up A) (hB:Up B):Up (gIf t k ops A B):=fun n=>
 Nat.le_trans (Nat.le_trans (Nat.le_add_right n k) (hA _)) (hB _)
theorem qj_ {l:List Oper} {K:Act->World->Prop} {Q:Exit->Act->World->Prop} {a:Act} {w:World} (h:wpList P l.toArray (Exit.then K Q) l a w):NWP P (rg l) (Exit.then K Q) a w:=.reg h
structure jp_ (P:Program) (F:Nat) (agg:Bool) (sz:Nat):Prop where
 agg:∀ w,(isAgg F).run P w=.ok agg w
 size:∀ w,(sizeOf F).run P w=.ok sz w
structure zj_ (P:Program) (T k F off:Nat) (agg:Bool) (sz:Nat):Prop where
 fld:∃ fs f,P.underlying T=some (.struct fs)/\fs[k]?=some f/\f.offset=off/\f.type=F
 var:jp_ P F agg sz
 pos:0 < sz
variable {x m k0 n:Nat} {K:Act->World->Prop} {Q:Exit->Act->World->Prop} {a:Act} {w:World}
theorem xa_ {v:Nat} {y:Value} (hv:v=x \/ (m<=v/\v < k0)) (hvs:v < a.tmps.size) (h:∀ a',Pv x m k0 n a a'->a'.get v=y->K a' w):NWP P (ji_ v y n).1 (Exit.then K Q) a w:=
 qj_ (qg_ (wpList_nil (h _ ((Pv.refl _ _ _ _ _).put _ (by omega)) (zw_ _ _ _ hvs))))
theorem s_move {y z:Nat} (hz:z=x \/ (m<=z/\z < k0)) (hm:m<=k0) (hk:k0<=n) (hn:n < a.tmps.size) (hzs:z < a.tmps.size)
  (h:∀ a',Pv x m k0 n a a'->a'.get z=a.get y->K a' w):NWP P (jf_ y z n).1 (Exit.then K Q) a w:=by
 refine qj_ (qd_ (qg_ (wpList_nil ?_)))
 rw [qb_,qb_,zw_ _ _ _ hn]
 exact h _ (((Pv.refl _ _ _ _ _).put _ (by omega)).put _ (by omega)) (gpe (by rw [qa_];exact hzs))
theorem ju_ {ops:Array Oper} {Q:Exit->Act->World->Prop} {r:List Oper} {d:Option Nat} {y:Operand} {T k F B O off sz:Nat} {agg:Bool} (hy:a.eval y=.pointer (some ⟨B,O,none⟩)) (hF:zj_ P T k F off agg sz)
  (h:wpList P ops Q r (a.put d (.pointer (some ⟨B,O + off,none⟩))) w):wpList P ops Q (mk d (.fieldAddr T y k) :: r) a w:=by
 obtain ⟨fs,f,h1,h2,h3,h4⟩:=hF.fld
 obtain ⟨q,rfl⟩:∃ q,sz=q + 1:=⟨sz - 1,by have:=hF.pos;omega⟩
 exact wl_fieldAddr (n:=q) hy h1 h2 h3 (fun w=>by rw [h4];exact hF.var.size w) h
theorem s_load {s v T k F B O off:Nat} (hs:a.get s=.pointer (some ⟨B,O,none⟩)) (hF:zj_ P T k F off false 1) {y:Value} (hy:w.cell? ⟨B,O + off,none⟩=some y)
  (hv:v=x \/ (m<=v/\v < k0)) (hm:m<=k0) (hk:k0<=n) (hn:n + 4<=a.tmps.size) (hvs:v < a.tmps.size)
  (h:∀ a',Pv x m k0 n a a'->a'.get v=y->K a' w):NWP P (zg_ s v T k F n).1 (Exit.then K Q) a w:=by
 refine qj_ (qd_ ?_)
 rw [qb_,hs]
 refine qp_ (by rw [qb_,gpe (by omega)]) ?_
 refine ju_ (by rw [qb_,gpe (by rw [qa_];omega)]) hF ?_
 refine q5_ (by rw [qb_,gpe (by simp only [qa_];omega)]) (hF.var.agg _) hy ?_
 refine qg_ (wpList_nil ?_)
 rw [qb_,gpe (by simp only [qa_];omega)]
 exact h _ ((((((Pv.refl _ _ _ _ _).put _ (by omega)).put _ (by omega)).put _ (by omega)).put _ (by omega)).put _ (by omega)) (gpe (by simp only [qa_];exact hvs))
theorem s_store {s v T k F B O off sz:Nat} {agg:Bool} {uu:Option Nat} {cs:List Value} {cur:Array Value} {te:TypeId} (hs:a.get s=.pointer (some ⟨B,O,none⟩)) (hF:zj_ P T k F off agg sz)
  (hval:match uu with
   | none=>∃ y,a.get v=y/\y.cells.toList=cs
   | some u=>jp_ P u true cs.length/\∃ b o,a.get v=.pointer (some ⟨b,o,none⟩)/\qy_ w b o cs)
  (hsz:cs.length=sz) (h1:∀ u ∈ cs,u.oneCell'=true) (hB:w.heap[B]?=some (.cells cur te (0,0))) (hO:O + off + sz<=cur.size)
  (hm:m<=k0) (hk:k0<=n) (hn:n + 4<=a.tmps.size) (hvn:v < n)
  (h:∀ a',Pv x m k0 n a a'->K a' (w.setRow B (qt_ cur (O + off) cs))):NWP P (gStore uu s v T k F n).1 (Exit.then K Q) a w:=by
 refine qj_ (qd_ ?_)
 rw [qb_,hs]
 have hpv:Pv x m k0 n a (a.put (some n) (.pointer (some ⟨B,O,none⟩))):=(Pv.refl _ _ _ _ _).put _ (by omega)
 have key:∀ y:Value,y.cells.toList=cs->wpList P (#[mk (some n) (.move (tm s)),mk (some (n + 1)) (match uu with | some u=>.load u (tm v) | none=>.move (tm v)),mk (some (n + 2)) (.nilCheck (tm n)),
   mk (some (n + 3)) (.fieldAddr T (tm (n + 2)) k),mk none (.store F (tm (n + 3)) (tm (n + 1)))]) (Exit.then K Q) [mk (some (n + 2)) (.nilCheck (tm n)),mk (some (n + 3)) (.fieldAddr T (tm (n + 2)) k),mk none (.store F (tm (n + 3)) (tm (n + 1)))]
   ((a.put (some n) (.pointer (some ⟨B,O,none⟩))).put (some (n + 1)) y) w:=by
  intro y hy
  refine qp_ (by rw [qb_,gpo (by omega),gpe (by omega)]) ?_
  refine ju_ (by rw [qb_,gpe (by simp only [qa_];omega)]) hF ?_
  refine q8_ (cur:=cur) (t:=te) (by rw [qb_,gpe (by simp only [qa_];omega)]) (by rw [qb_,gpo (by omega),gpo (by omega),gpe (by simp only [qa_];omega)]) hy
   (by rw [hsz];exact hF.var.size w) hB (by rw [hsz];exact hO) h1 ?_
  exact wpList_nil (h _ (((hpv.put _ (by omega)).put _ (by omega)).put _ (by omega)))
 cases uu with
 | none=>
  obtain ⟨y,hy,hyc⟩:=hval
  refine qd_ ?_
  rw [qb_,gpo (by omega),hy]
  exact key y hyc
 | some u=>
  obtain ⟨hu,b,o,hb,hc⟩:=hval
  refine wl_loadN (cs:=cs) (by rw [qb_,gpo (by omega),hb]) (hu.agg w) (hu.size w) hc ?_
  exact key (.agg cs.toArray) (by simp [Value.cells])
end
end Go.Proofs.YtlmanancakaapaaGreatDoor.Kx

namespace Go.Proofs.YtlmanancakaapaaGreatDoor.Kx
open Go Go.MapKept
section
variable {P:Program} {w:World}
theorem isKey_u32 (k:Nat):IsKey (.int .u32) (.int .u32 (k:Int)):=by simp [IsKey]
theorem run_mapSet {mty kt et r clock key:Nat} {value:Value} {es:List jd_} (hm:P.underlying mty=some (.map kt et)) (hd:P.underlying kt=some (.int .u32)) (hb:w.heap[r]?=some (.map (es.map jd_.entry).toArray clock)) :
  ((∀ e ∈ es,e.key ≠ key)/\(Instr.mapUpdate mty (.map (some r)) (.int .u32 (key:Int)) value).run P w=.ok () { w with heap:=w.heap.setIfInBounds r (.map ((es++[(⟨key,value,clock⟩:jd_)]).map jd_.entry).toArray (clock + 1)) }) \/
  ∃ j e,es[j]?=some e/\e.key=key/\(Instr.mapUpdate mty (.map (some r)) (.int .u32 (key:Int)) value).run P w=.ok () { w with heap:=w.heap.setIfInBounds r (.map ((es.set j (⟨key,value,e.born⟩:jd_)).map jd_.entry).toArray clock) }:=by
 have hks:∀ x ∈ (es.map jd_.entry).toArray.toList,IsKey (.int .u32) x.key:=by
  intro x hx
  simp only [List.mem_map] at hx
  obtain ⟨e,_,rfl⟩:=hx
  exact isKey_u32 e.key
 rcases findNow_spec (isKey_u32 key) (es.map jd_.entry).toArray.toList 0 hks with ⟨h1,h2⟩ | ⟨j,e,h1,h2,h3⟩
 ·refine .inl ⟨fun e he hk=>?_,?_⟩
  ·have:=h2 e.entry (by simp;exact ⟨e,he,rfl⟩)
   simp [jd_.entry,hk] at this
  ·simp [Instr.mapUpdate,run_underlying hm,MapKept.run_getObj_map hb,MapKept.run_checkKey hd (isKey_u32 key),MapKept.run_findKey hd h1,MapKept.run_setObj_map _ hb,Result.andThen,jd_.entry]
 ·have h2':(es[j]?).map jd_.entry=some e:=by simpa using h2
  obtain ⟨e1,he1,rfl⟩:=Option.map_eq_some_iff.1 h2'
  have hk1:e1.key=key:=by
   simp only [jd_.entry,Value.int.injEq,true_and] at h3
   omega
  have hj:(es.map jd_.entry).toArray[j]?=some e1.entry:=by simpa using h2
  have hmod:((es.map jd_.entry).toArray.modify j fun e'=>{ e' with key:=.int .u32 (key:Int),val:=value })=((es.set j (⟨key,value,e1.born⟩:jd_)).map jd_.entry).toArray:=by
   apply Array.ext_getElem?
   intro i
   rw [Array.getElem?_modify]
   simp only [List.getElem?_toArray,List.getElem?_map,List.getElem?_set]
   by_cases hij:j=i
   ·subst hij
    obtain ⟨hlt,hej⟩:=List.getElem?_eq_some_iff.1 he1
    simp [hlt,jd_.entry,hej]
   ·simp [hij]
  refine .inr ⟨j,e1,he1,hk1,?_⟩
  rw [Nat.zero_add] at h1
  have hkk:e1.entry.key=.int .u32 (key:Int):=h3
  have hks':=MapKept.run_keyThatStays (P:=P) (w:=w) (isKey_u32 key)
  simp only [Instr.mapUpdate,Sem.run_bind,run_underlying hm,Result.andThen_ok,MapKept.run_getObj_map hb,MapKept.run_checkKey hd (isKey_u32 key),MapKept.run_findKey hd h1,hj,Option.map_some,Option.getD_some,hkk,hks',hmod,MapKept.run_setObj_map _ hb]
end
end Go.Proofs.YtlmanancakaapaaGreatDoor.Kx

namespace Go.Proofs.YtlmanancakaapaaGreatDoor.Kx
open Go
theorem rising_tail {x:Nat × Bs} {l:List (Nat × Bs)} (h:xe_ (x :: l)):xe_ l:=by
 cases l with
 | nil=>trivial
 | cons y r=>exact h.2
theorem rising_lt {x:Nat × Bs}:∀ {l:List (Nat × Bs)},xe_ (x :: l)->∀ y ∈ l,x.1 < y.1
 | [],_,y,hy=>by cases hy
 | z :: r,h,y,hy=>by
  rcases List.mem_cons.1 hy with rfl | hy
  ·exact h.1
  ·exact Nat.lt_trans h.1 (rising_lt h.2 y hy)
theorem rising_cons {x:Nat × Bs} {l:List (Nat × Bs)} (h:xe_ l) (hx:∀ y ∈ l,x.1 < y.1):xe_ (x :: l):=by
 cases l with
 | nil=>trivial
 | cons y r=>exact ⟨hx y (List.mem_cons_self ..),h⟩
theorem setTag_keys (k:Nat) (v:Bs):∀ (t:List (Nat × Bs)),∀ y ∈ jg_ k v t,y.1=k \/ ∃ z ∈ t,z.1=y.1
 | [],y,hy=>by simp [jg_] at hy;subst hy;exact .inl rfl
 | (j,u) :: r,y,hy=>by
  unfold jg_ at hy
  split at hy
  ·rcases List.mem_cons.1 hy with rfl | hy
   ·exact .inl rfl
   ·exact .inr ⟨y,hy,rfl⟩
  ·split at hy
   ·rcases List.mem_cons.1 hy with rfl | hy
    ·exact .inl rfl
    ·exact .inr ⟨y,List.mem_cons_of_mem _ hy,rfl⟩
   ·rcases List.mem_cons.1 hy with rfl | hy
    ·exact .inr ⟨(j,u),List.mem_cons_self ..,rfl⟩
    ·rcases setTag_keys k v r y hy with h | ⟨z,hz,h⟩
     ·exact .inl h
     ·exact .inr ⟨z,List.mem_cons_of_mem _ hz,h⟩
theorem setTag_ne (k:Nat) (v:Bs) (t:List (Nat × Bs)):jg_ k v t ≠ []:=by
 cases t with
 | nil=>simp [jg_]
 | cons p r=>
  obtain ⟨j,u⟩:=p
  unfold jg_
  split
  ·simp
  ·split <;> simp
theorem xg_ (k:Nat) (v:Bs):∀ (t:List (Nat × Bs)),xe_ t->xe_ (jg_ k v t)
 | [],_=>trivial
 | (j,u) :: r,h=>by
  unfold jg_
  split
  ·rename_i hlt
   exact rising_cons h fun y hy=>by
    rcases List.mem_cons.1 hy with rfl | hy
    ·exact hlt
    ·exact Nat.lt_trans hlt (rising_lt h y hy)
  ·split
   ·rename_i he
    subst he
    exact rising_cons (rising_tail h) fun y hy=>rising_lt h y hy
   ·refine rising_cons (xg_ k v r (rising_tail h)) fun y hy=>?_
    rcases setTag_keys k v r y hy with h1 | ⟨z,hz,h1⟩
    ·show j < y.1
     omega
    ·rw [<- h1];exact rising_lt h z hz
theorem setTag_new (k:Nat) (v:Bs):∀ (t:List (Nat × Bs)),(∀ y ∈ t,y.1 ≠ k)->(jg_ k v t).Perm ((k,v) :: t)
 | [],_=>List.Perm.refl _
 | (j,u) :: r,h=>by
  unfold jg_
  split
  ·exact List.Perm.refl _
  ·split
   ·rename_i he
    exact absurd he.symm (h (j,u) (List.mem_cons_self ..))
   ·exact ((setTag_new k v r fun y hy=>h y (List.mem_cons_of_mem _ hy)).cons (j,u)).trans (List.Perm.swap ..)
theorem setTag_old (k:Nat) (v:Bs):∀ (t:List (Nat × Bs)),xe_ t->(∃ y ∈ t,y.1=k)->jg_ k v t=t.map fun p=>if p.1=k then (k,v) else p
 | [],_,⟨y,hy,_⟩=>by cases hy
 | (j,u) :: r,hr,hex=>by
  unfold jg_
  have hgt:∀ y ∈ r,j < y.1:=rising_lt hr
  by_cases hlt:k < j
  ·exfalso
   obtain ⟨y,hy,hk⟩:=hex
   rcases List.mem_cons.1 hy with rfl | hy
   ·simp only at hk;omega
   ·have:=hgt y hy;omega
  ·rw [if_neg hlt]
   by_cases he:k=j
   ·subst he
    rw [if_pos rfl,List.map_cons,if_pos rfl]
    congr 1
    have:∀ p ∈ r,(if p.1=k then (k,v) else p)=p:=fun p hp=>by rw [if_neg (by have:=hgt p hp;omega)]
    rw [List.map_congr_left this,List.map_id']
   ·rw [if_neg he,List.map_cons,if_neg (by simp only;omega),setTag_old k v r (rising_tail hr)]
    obtain ⟨y,hy,hk⟩:=hex
    rcases List.mem_cons.1 hy with rfl | hy
    ·simp only at hk;omega
    ·exact ⟨y,hy,hk⟩
theorem wl_bltn {P:Program} {ops:Array Oper} {Q:Exit->Act->World->Prop} {r:List Oper} {a:Act} {w w':World} {d:Option Nat} {b:Builtin} {args:List Operand} {tys:List Nat} {ty:Nat} {v:Value} (h:(execOp a.eval (bi d b args tys ty)).run P w=.ok (.value v) w') (hn:wpList P ops Q r (a.put d v) w'):wpList P ops Q (bi d b args tys ty :: r) a w:=by
 refine wpList_plain rfl fun _ hK=>?_
 unfold Oper.wp
 rw [h]
 exact hK _ _ hn
end Go.Proofs.YtlmanancakaapaaGreatDoor.Kx
