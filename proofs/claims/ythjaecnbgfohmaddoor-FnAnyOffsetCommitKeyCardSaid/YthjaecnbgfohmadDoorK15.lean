/-
  PLAIN LAWS AND CONTRACTS of messages, part 15 of 16: how readers and writers are printed, what they do, what the reference writes, and that what is written is read as the same. Nothing of a statement stands here.
-/
import Derived.Test.YthjaecnbgfohmadDoorK1
import Derived.Test.YthjaecnbgfohmadDoorK2
import Derived.Test.YthjaecnbgfohmadDoorK3
import Derived.Test.YthjaecnbgfohmadDoorK4
import Derived.Test.YthjaecnbgfohmadDoorK8
import Derived.Test.YthjaecnbgfohmadDoorK10
import Derived.Test.YthjaecnbgfohmadDoorK11
import Derived.Test.YthjaecnbgfohmadDoorK12
import Derived.Test.YthjaecnbgfohmadDoorK13
import Derived.Test.YthjaecnbgfohmadDoorK14
import Derived.Test.YthjaecnbgfohmadDoorRows
import Derived.Deep.Slices
import Derived.Carry

namespace Go.Proofs.YthjaecnbgfohmadDoor.Kx
open Go
set_option maxRecDepth 4000
def tgOf (p:UInt32 × Bs):Nat × Bs:=(p.1.toNat,p.2)
def tgPiece (p:UInt32 × Bs):Bs:=sTag (p.1.toNat,p.2.take ja_)
theorem tags_raw (t:Tr):t.tags=t.raw.map tgOf:=by cases t;rfl
theorem drop_flat' {α:Type} (g:α->Bs) {xs:List α} {i:Nat} {x:α} (h:xs[i]?=some x):((xs.drop i).map g).flatten=g x++((xs.drop (i + 1)).map g).flatten:=by
 have hlt:=(List.getElem?_eq_some_iff.1 h).1
 rw [List.drop_eq_getElem_cons hlt,(List.getElem?_eq_some_iff.1 h).2]
 simp
section
variable {P:Program} {S:SN}
theorem pt_loop6 (C:LeafC P S) {W:World} {ux v9:Value} {rs:List (UInt32 × Bs)} (hrs:RowRp W 2 (TagRp W) ux rs) (hrl:rs.length<=ja_) {total:Bs} (hlim:total.length<=LIM) (htot:(rs.map tgPiece).flatten=total) {a:Act}
  (h:St 132 a [(9,v9),(10,q2_),(11,.int .i64 0),(100,ux),(101,.int .i64 (rs.length:Int)),(102,.int .i64 0)]) {R:Exit->Act->World->Prop}
  (hR:∀ (a':Act) (w':World) (v:Value),St 132 a' [(9,v9),(10,v),(11,.int .i64 (rs.length:Int))]->q3_ w' W.heap.size S.tU8 v total->Fa0 W w'->R .normal a' w') :
  NWP P (.block 6 (.loop (.seq (rg (opt_24 S)) (.seq (.cond (tm 103) .skip (.exit 6)) (.seq (.block 7 (.seq (rg (opt_25 S)) (.seq (rg (opt_26 S)) (.seq (rg (opt_27 S)) (rg (opt_28 S)))))) (rg (opt_29 S))))))) R a W:=by
 have T:=C.tab
 refine st_loop (fun m a' w'=>∃ (i:Nat) (v:Value) (bs:Bs),i + m=rs.length/\bs++((rs.drop i).map tgPiece).flatten=total/\q3_ w' W.heap.size S.tU8 v bs/\Fa0 W w' /\
   St 132 a' [(9,v9),(10,v),(11,.int .i64 (i:Int)),(100,ux),(101,.int .i64 (rs.length:Int)),(102,.int .i64 (i:Int))]) rs.length
  ⟨rs.length,Nat.le_refl _,0,q2_,[],by omega,by simpa using htot,q3_.nil _ _ _,Fa0.refl W,h⟩ ?_
 rintro m a w hm ⟨i,v,bs,him,htot,hd,hk,h⟩
 simp only [ja_] at hrl
 refine qt_ (nrg (j5_ h rfl (.t rfl) (.t rfl) (by omega) fun a h=>wpList_nil ?_))
 refine st_test h rfl (fun hb=>?_) (fun hb=>?_)
 ·have hlt:i < rs.length:=by simp [zg_] at hb;omega
  obtain ⟨x,hx⟩:∃ x,rs[i]?=some x:=⟨_,List.getElem?_eq_getElem hlt⟩
  obtain ⟨b,o,c,cs,hv,_,hcs,sv,rfl,hsv⟩:=hrs.get hx
  rw [drop_flat' _ hx] at htot
  refine .skip (qt_ (.block (qt_ (nrg ?_))))
  have h':=h
  rw [hv] at h'
  refine st_index h' (sz:=2) (.t rfl) (.t rfl) hlt T.dGs T.vG.size (by omega) fun a h=>zi_ h (cs:=[.int .u32 (x.1.toNat:Int),sv]) (.t rfl) T.vG (hk.cells hcs) (by omega) fun a h=>?_
  rw [<- hv] at h
  have hone:∀ u ∈ [Value.int .u32 (x.1.toNat:Int),sv],u.oneCell'=true:=by
   obtain ⟨_,_,rfl,_⟩:=hsv.form
   intro u hu
   simp only [List.mem_cons,List.not_mem_nil,or_false] at hu
   rcases hu with rfl | rfl <;> rfl
  refine st_newvar h (cs:=[.int .u32 (x.1.toNat:Int),sv]) T.zG rfl (fun _=>.t rfl) T.vG.size hone (by omega) fun w2 a hk2 hc2 h=>wpList_nil ?_
  have hf2:=hk.kn hk2
  have hd2:q3_ w2 W.heap.size S.tU8 v bs:=hd.keep hk2 fun _ _ h=>h
  have hown:∀ j,v.ownBlock=some j->j < w.heap.size:=fun j hj=>(hd.own hj).2
  refine qt_ (nrg (zz_ h (.t rfl) T.g1 (by omega) fun a h=>jf_ h (.t rfl) T.g1.var (hc2.at (j:=1) rfl) (by omega) fun a h=>?_))
  refine q7_ h C.whE (vs:=[sv]) (fun n a h=>by simp only [List.map_cons,List.map_nil];rw [Hd.t (l:=_) (i:=107) rfl n a h]) (C.whC w2 (fun k=>W.heap.size<=k) sv x.2 ((hsv.mono fun k hk hX=>by omega).keep hf2)) (by omega) fun e w3 hR3=>?_
  obtain ⟨v20,rfl,hv20,rfl⟩:=hR3
  obtain ⟨bx,cx,hxe,_⟩:=hv20.form
  have hm20:=take_most x.2
  have hp1:(tgPiece x).length=(uvar x.1.toNat).length + ((uvar (x.2.take ja_).length).length + (x.2.take ja_).length):=by simp [tgPiece,sTag]
  have htl:bs.length + (tgPiece x).length<=LIM:=by
   have:=congrArg List.length htot
   simp only [List.length_append] at this
   omega
  refine ⟨v20,rfl,fun a h=>qd_ h (.t rfl) (by omega) fun a h=>wpList_nil ?_⟩
  have h:=h.pick (m:=[(9,v9),(10,v),(11,.int .i64 (i:Int)),(19,pt w.heap.size 0),(20,v20),(100,ux),(101,.int .i64 (rs.length:Int)),(102,.int .i64 (i:Int))]) ⟨rfl,rfl,rfl,rfl,rfl,rfl,rfl,rfl,trivial⟩
  refine qt_ (nrg (qi_ h (.t rfl) (by omega) fun a h=>zz_ h (.t rfl) T.g0 (by omega) fun a h=>jf_ h (.t rfl) T.g0.var (hc2.at (j:=0) rfl) (by omega) fun a h=>st_conv h (.t rfl) T.dU32 T.dU64 (by omega) fun a h=>?_))
  have hx32:=x.1.toNat_lt
  have hw1:IntKind.u64.wrap (x.1.toNat:Int)=(x.1.toNat:Int):=by simp [IntKind.wrap,IntKind.bits,IntKind.signed];omega
  rw [hw1] at h
  refine q7_ h C.uvE (vs:=[.int .u64 (x.1.toNat:Int)]) (fun n a h=>by simp only [List.map_cons,List.map_nil];rw [Hd.t (l:=_) (i:=112) rfl n a h]) (C.uvC x.1.toNat w3 (by omega)) (by omega) fun e w4 hR4=>?_
  obtain ⟨u1,rfl,hu1,hk4⟩:=hR4
  have hf4:=hf2.kn hk4
  have hd4:q3_ w4 W.heap.size S.tU8 v bs:=hd2.keep hk4 fun _ _ h=>h
  refine ⟨u1,rfl,fun a h=>st_app h T.oct (.t rfl) (.t rfl) hd4 (src_dst T.oct hu1) hf4.size (by omega) (by omega) fun v5 w5 a hg5 h=>?_⟩
  have hf5:=hf4.up hg5.keeps fun j hj=>(hd4.own hj).1
  refine qi_ h (.t rfl) (by omega) fun a h=>?_
  have h':=h
  rw [hxe] at h'
  refine xe_ h' (.t rfl) T.oct.und (by omega) fun a h=>st_conv h (.t rfl) T.dInt T.dU64 (by omega) fun a h=>?_
  rw [<- hxe] at h
  have hw2:IntKind.u64.wrap ((x.2.take ja_).length:Int)=((x.2.take ja_).length:Int):=by simp only [ja_] at hm20;simp [IntKind.wrap,IntKind.bits,IntKind.signed,-List.length_take];simp only [ja_];omega
  rw [hw2] at h
  refine q7_ h C.uvE (vs:=[.int .u64 ((x.2.take ja_).length:Int)]) (fun n a h=>by simp only [List.map_cons,List.map_nil];rw [Hd.t (l:=_) (i:=117) rfl n a h]) (C.uvC (x.2.take ja_).length w5 (by simp only [ja_] at hm20 ⊢;omega)) (by omega) fun e w6 hR6=>?_
  obtain ⟨u2,rfl,hu2,hk6⟩:=hR6
  have hf6:=hf5.kn hk6
  have hd6:q3_ w6 W.heap.size S.tU8 v5 (bs++uvar x.1.toNat):=hg5.dst.keep hk6 fun _ _ h=>h
  refine ⟨u2,rfl,fun a h=>st_app h T.oct (.t rfl) (.t rfl) hd6 (src_dst T.oct hu2) hf6.size (by rw [List.length_append];omega) (by omega) fun v7 w7 a hg7 h=>?_⟩
  have hf7:=hf6.up hg7.keeps fun j hj=>(hd6.own hj).1
  have hv7:OcX w7 (fun k=>W.heap.size<=k) v20 (x.2.take ja_):=
   (((hv20.keep (hk4.mono fun _ _ h=>h.elim)).keep (hg5.keeps.mono fun j _ hj=>(hd4.own hj).1)).keep (hk6.mono fun _ _ h=>h.elim)).keep (hg7.keeps.mono fun j _ hj=>(hd6.own hj).1)
  refine qi_ h (.t rfl) (by omega) fun a h=>st_app h T.oct (.t rfl) (.t rfl) hg7.dst (src_oc T.oct hv7) hf7.size (by rw [List.length_append,List.length_append];omega) (by omega) fun v8 w8 a hg8 h=>qd_ h (.t rfl) (by omega) fun a h=>wpList_nil ?_
  have hf8:=hf7.up hg8.keeps fun j hj=>(hg7.dst.own hj).1
  have hwi:IntKind.i64.wrap ((i:Int) + 1)=((i + 1:Nat):Int):=by simp [IntKind.wrap,IntKind.bits,IntKind.signed];omega
  refine nrg (qi_ h (.t rfl) (by omega) fun a h=>xw_ h (.t rfl) .i (by simp) (run_addi w8) (by omega) fun a h=>?_)
  rw [hwi] at h
  refine qd_ h (.t rfl) (by omega) fun a h=>wpList_nil ?_
  refine nrg (xw_ h (.t rfl) .i (by simp) (run_addi w8) (by omega) fun a h=>?_)
  rw [hwi] at h
  refine qi_ h (.t rfl) (by omega) fun a h=>wpList_nil ?_
  refine ⟨m - 1,by omega,by omega,i + 1,v8,bs++uvar x.1.toNat++uvar (x.2.take ja_).length++x.2.take ja_,by omega,?_,hg8.dst,hf8,h.pick ⟨rfl,rfl,rfl,rfl,rfl,rfl,trivial⟩⟩
  rw [<- htot]
  simp [tgPiece,sTag]
 ·have hge:¬ i < rs.length:=by simp [zg_] at hb;omega
  rw [List.drop_of_length_le (by omega)] at htot
  simp only [List.map_nil,List.flatten_nil,List.append_nil] at htot
  subst htot
  have hi:i=rs.length:=by omega
  subst hi
  exact .exit (hR a w v (h.pick ⟨rfl,rfl,rfl,trivial⟩) hd hk)
def sPlainD:SFs->Bool
 | .nil=>true
 | .cons _ _ _ _ tag _ _ sub r=>decide (tag < 0) && sPlainD sub && sPlainD r
theorem sPlainD_plain:∀ sf:SFs,sPlainD sf=true->sPlain sf=true/\sTagsB sf=true
 | .nil,_=>⟨rfl,rfl⟩
 | .cons _ _ _ _ tag _ _ sub r,h=>by
  simp only [sPlainD,Bool.and_eq_true,decide_eq_true_eq] at h
  obtain ⟨a,b⟩:=sPlainD_plain r h.2
  exact ⟨by simp only [sPlain,a,Bool.and_true,decide_eq_true_eq];exact h.1.1,by simp only [sTagsB,b,Bool.and_true,decide_eq_true_eq];omega⟩
theorem sPart_raw {ver:Int} {fx:Bool} {sf:SFs} (h:sPlain sf=true) (t:Tr) {rs:List (UInt32 × Bs)} (hrs:(rs.map fun p=>(p.1.toNat,p.2))=sUnk (q4_ sf) (t.raw.map fun p=>(p.1.toNat,p.2))) :
  jb_ ver fx sf t=sFds ver fx sf 0 t++(if fx then uvar rs.length++(rs.map tgPiece).flatten else []):=by
 have hk:=xd_ sf h
 rw [hk] at hrs
 have e1:(sUnk 0 t.tags)=rs.map fun p=>(p.1.toNat,p.2):=by rw [hrs,tags_raw];rfl
 rw [jb_,hk,tgd_nil ver fx sf 0 t h]
 congr 1
 cases fx with
 | false=>simp [sTail]
 | true=>
  simp only [sTail,if_true,sSort,List.range_zero,List.flatMap_nil,List.length_nil,Nat.zero_add,e1,List.length_map]
  congr 1
  simp only [sTags,List.map_nil,List.flatten_nil,List.nil_append,List.map_map]
  congr 1
theorem pt_calls (C:LeafC P S) (hfn:FnIs P S.fPart 132 [8] (csPt S)) (hFE:Ent P S.fField) {sf:SFs} (hpl:sPlain sf=true) (htb:sTagsB sf=true) (hsub:SubC P S sf):PartC P S sf:=by
 intro W ver fx k cs t fv hfs ht hlim
 have T:=C.tab
 have hkz:=xd_ sf hpl
 have hout:(sFds ver fx sf 0 t).length<=LIM:=by
  rw [jb_,List.length_append] at hlim
  omega
 refine z9_ T.mixed hfn (by simp) _ (by simp) fun a h=>?_
 unfold csPt
 refine qt_ (nrg (st_box h (cs:=cs) (.t rfl) (by omega) fun a h=>?_))
 have hk1:Keeps (fun _=>False) W (W.alloc (.cells cs.toArray S.tT (0,0))):=Keeps.alloc _ _ _
 have hB:=jw_ W cs S.tT
 generalize W.alloc (.cells cs.toArray S.tT (0,0))=w1 at hk1 hB ⊢
 have hf1:Fa0 W w1:=Fa0.of hk1
 refine qd_ h .c (by omega) fun a h=>wpList_nil ?_
 refine qt_ (nrg (qd_ h .c (by omega) fun a h=>qd_ h .c (by omega) fun a h=>wpList_nil ?_))
 refine qt_ (nrg (qd_ h .i (by omega) fun a h=>wpList_nil ?_))
 refine qt_ (pt_loop1 C hFE (hfs.far hf1) (ht.far hf1) hB hsub hout (h.pick ⟨rfl,rfl,rfl,rfl,rfl,rfl,rfl,trivial⟩) fun a w3 v h hd hf3=>?_)
 have hW3:Keeps (fun _=>False) W w3:=hk1.trans hf3.keeps
 refine qt_ (qt_ (nrg (qi_ h (.t rfl) (by omega) fun a h=>st_not h (.t rfl) (by omega) fun a h=>wpList_nil ?_)))
 cases fx with
 | false=>
  refine jx_ h rfl (fun _=>?_) (fun hb=>by cases hb)
  refine qt_ (nrg (qi_ h (.t rfl) (by omega) fun a h=>qd_ h (.t rfl) (by omega) fun a h=>wpList_nil (.ret ?_)))
  have e:jb_ ver false sf t=sFds ver false sf 0 t:=by
   rw [jb_];simp [sTail]
  rw [e]
  exact ret1 (RR:=jd_ S.tU8 (sFds ver false sf 0 t) W) h rfl ⟨v,rfl,(Gr.lower hk1.size (Gr.refl hd)).dst,hW3⟩
 | true=>
  refine jx_ h rfl (fun hb=>by cases hb) (fun _=>?_)
  refine .skip (qt_ (qt_ (nrg (qi_ h (.t rfl) (by omega) fun a h=>?_))))
  refine q7_ h C.knE (vs:=[fv]) (fun n a h=>by simp only [List.map_cons,List.map_nil];rw [Hd.t (l:=_) (i:=49) rfl n a h]) (C.knC sf fv w3 htb ((hfs.far hf1).far hf3)) (by omega) fun e w4 hR4=>?_
  obtain ⟨rfl,hk4⟩:=hR4
  refine ⟨_,rfl,fun a h=>st_conv h (.t rfl) T.dU32 T.dInt (by omega) fun a h=>?_⟩
  have hw0:IntKind.i64.wrap (q4_ sf:Int)=0:=by rw [hkz];simp [IntKind.wrap,IntKind.bits,IntKind.signed]
  rw [hw0] at h
  refine qi_ h .i (by omega) fun a h=>wpList_nil ?_
  have h:=h.pick (m:=[(0,fv),(7,pt W.heap.size 0),(9,v),(10,q2_),(11,.int .i64 0),(51,.int .i64 0),(52,.int .i64 0)]) ⟨rfl,rfl,rfl,rfl,rfl,rfl,rfl,trivial⟩
  refine st_loop (fun _ a' w'=>w'=w4/\St 132 a' [(0,fv),(7,pt W.heap.size 0),(9,v),(10,q2_),(11,.int .i64 0),(51,.int .i64 0),(52,.int .i64 0)]) 0 ⟨0,Nat.le_refl _,rfl,h⟩ ?_
  rintro m a w' _ ⟨rfl,h⟩
  refine qt_ (nrg (j5_ h rfl (.t rfl) (.t rfl) (by omega) fun a h=>wpList_nil ?_))
  refine st_test h rfl (fun hb=>by simp [zg_] at hb) (fun _=>?_)
  refine .exit ?_
  show NWP P _ _ a w'
  have hf4:Fa0 w1 w':=hf3.kn hk4
  have hB4:=hf4.cells hB
  have hd4:q3_ w' w1.heap.size S.tU8 v (sFds ver true sf 0 t):=hd.keep hk4 fun _ _ h=>h
  have hown:∀ j,v.ownBlock=some j->j < w'.heap.size:=fun j hj=>(hd4.own hj).2
  have ht4:=(ht.far hf1).far hf4
  obtain ⟨uv,huv,hcell⟩:∃ uv,RowRp w' 2 (TagRp w') uv t.raw/\w'.cell? ⟨W.heap.size,0 + 4,none⟩=some uv:=by
   cases k with
   | zero=>exact ht4.elim
   | succ k=>
    obtain ⟨sv,lv,uv,rfl,_,_,huv⟩:=ht4
    exact ⟨uv,huv,hB4.at (j:=4) rfl⟩
  refine qt_ (qt_ (nrg (qi_ h (.t rfl) (by omega) fun a h=>zz_ h (.t rfl) T.t4 (by omega) fun a h=>jf_ h (.t rfl) T.t4.var hcell (by omega) fun a h=>?_)))
  refine q7_ h C.unE (vs:=[fv,uv]) (fun n a h=>by simp only [List.map_cons,List.map_nil];rw [Hd.t (l:=_) (i:=97) rfl n a h,Hd.t (l:=_) (i:=99) rfl n a h]) (C.unC sf fv uv t.raw w' htb ((hfs.far hf1).far hf4) huv) (by omega) fun e w5 hR5=>?_
  obtain ⟨ux,rs,rfl,hrs,hmap,hk5⟩:=hR5
  have epart:=sPart_raw (ver:=ver) (fx:=true) hpl t hmap
  simp only [if_true] at epart
  have hrl:rs.length<=ja_:=by
   have h1:=congrArg List.length hmap
   have h2:=(sUnk_ok (q4_ sf) t).2.2
   rw [tags_raw] at h2
   simp only [List.length_map] at h1
   rw [h1]
   exact h2
  rw [epart] at hlim
  simp only [List.length_append] at hlim
  obtain ⟨bx,cx,hxe,_⟩:=hrs.form
  refine ⟨ux,rfl,fun a h=>?_⟩
  have h':=h
  rw [hxe] at h'
  refine xe_ h' (.t rfl) T.dGs (by omega) fun a h=>qi_ h .i (by omega) fun a h=>wpList_nil ?_
  rw [<- hxe] at h
  refine pt_loop6 C (v9:=v) hrs hrl (by omega) rfl (h.pick ⟨rfl,rfl,rfl,rfl,rfl,rfl,trivial⟩) fun a w6 v10 h hd10 hf6=>?_
  have hd5:q3_ w5 w1.heap.size S.tU8 v (sFds ver true sf 0 t):=hd4.keep hk5 fun _ _ h=>h
  have hd6:q3_ w6 w1.heap.size S.tU8 v (sFds ver true sf 0 t):=hd5.keep hf6 fun j hj=>by have:=(hd5.own hj).2;omega
  have hf6':Fa0 w1 w6:=(hf4.kn hk5).up hf6 fun j hj=>Nat.le_trans (hf4.kn hk5).size hj
  refine qt_ (nrg (qi_ h (.t rfl) (by omega) fun a h=>qi_ h (.t rfl) (by omega) fun a h=>st_conv h (.t rfl) T.dInt T.dU64 (by omega) fun a h=>?_))
  have hrl':rs.length < 32768:=by simp only [ja_] at hrl;omega
  have hw:IntKind.u64.wrap (rs.length:Int)=(rs.length:Int):=by simp [IntKind.wrap,IntKind.bits,IntKind.signed];omega
  rw [hw] at h
  refine q7_ h C.uvE (vs:=[.int .u64 (rs.length:Int)]) (fun n a h=>by simp only [List.map_cons,List.map_nil];rw [Hd.t (l:=_) (i:=127) rfl n a h]) (C.uvC rs.length w6 (by omega)) (by omega) fun e w7 hR7=>?_
  obtain ⟨u,rfl,hu,hk7⟩:=hR7
  have hf7:=hf6'.kn hk7
  have hd7:q3_ w7 w1.heap.size S.tU8 v (sFds ver true sf 0 t):=hd6.keep hk7 fun _ _ h=>h
  refine ⟨u,rfl,fun a h=>st_app h T.oct (.t rfl) (.t rfl) hd7 (src_dst T.oct hu) hf7.size (by omega) (by omega) fun v8 w8 a hg8 h=>?_⟩
  have hf8:=hf7.up hg8.keeps fun j hj=>(hd7.own hj).1
  have hd10':q3_ w8 w5.heap.size S.tU8 v10 ((rs.map tgPiece).flatten):=(hd10.keep hk7 fun _ _ h=>h).keep hg8.keeps fun j hj hX=>by
   have h1:=(hd10.own hj).1
   have h2:=(hd5.own hX).2
   omega
  refine qi_ h (.t rfl) (by omega) fun a h=>st_app h T.oct (.t rfl) (.t rfl) hg8.dst (src_dst T.oct hd10') hf8.size (by rw [List.length_append];omega) (by omega) fun v9 w9 a hg9 h=>qd_ h (.t rfl) (by omega) fun a h=>wpList_nil (.ret ?_)
  have hf9:=hf8.up hg9.keeps fun j hj=>(hg8.dst.own hj).1
  refine ret1 (RR:=jd_ S.tU8 (jb_ ver true sf t) W) h rfl ⟨v9,rfl,?_,hk1.trans hf9.keeps⟩
  rw [epart,<- List.append_assoc]
  exact (Gr.lower hk1.size (Gr.refl hg9.dst)).dst
theorem ref_calls (C:LeafC P S) (hP:FnIs P S.fPart 132 [8] (csPt S)) (hF:FnIs P S.fField 76 [8] (csFl S)) (hV:FnIs P S.fVal 70 [12] (csVa S)):∀ sf:SFs,sPlainD sf=true->PartC P S sf/\SubC P S sf
 | .nil,_=>⟨pt_calls C hP hF.ent rfl rfl trivial,trivial⟩
 | .cons kind lo hi nul tag df of sub r,h=>by
  have hpl:=sPlainD_plain _ h
  simp only [sPlainD,Bool.and_eq_true] at h
  have hs:=ref_calls C hP hF hV sub h.1.2
  have hr:=ref_calls C hP hF hV r h.2
  have hsub:SubC P S (.cons kind lo hi nul tag df of sub r):=⟨fl_calls C hF hP.ent hV.ent hs.1 (va_calls C hV hP.ent hs.1),hr.2⟩
  exact ⟨pt_calls C hP hF.ent hpl.1 hpl.2 hsub,hsub⟩
end
end Go.Proofs.YthjaecnbgfohmadDoor.Kx

namespace Go.Proofs.YthjaecnbgfohmadDoor.Kx
open Go
set_option maxRecDepth 4000
section
variable {P:Program} {S:SN}
section
variable {I:World->Prop} {K:Act->Prop} {r:List Oper} {n:Nat} {a:Act} {w:World} {l:List (Nat × Value)} {Q:Exit->Act->World->Prop}
theorem rn_sliceTo (h:St n a l) {d:Nat} {x y:Operand} {F E m c i:Nat} {base:Option Addr} (hx:Hd l x (.slice base m c)) (hy:Hd l y (.int .i64 (i:Nat))) (hF:P.underlying F=some (.slice E)) (hs:∀ w,(sizeOf E).run P w=.ok 1 w) (hi:i<=m) (hm:m<=c) (hb:∀ p,base=some p->p.spot=none):(execOp a.eval (mk (some d) (.slice F x none (some y) none))).run P w=.ok (.value (.slice base i c)) w:=by
 have e1:=hx n a h
 have e2:=hy n a h
 have h3:i<=c:=Nat.le_trans hi hm
 cases base with
 | none=>simp [execOp,mk,e1,e2,Instr.sliceAt,Instr.slice,run_underlying hF,Instr.sliceBounds,Instr.sliceBound,asIntOf,hs,h3]
 | some p=>
  have:=hb p rfl
  obtain ⟨b,o,s⟩:=p
  simp only at this
  subst this
  simp [execOp,mk,e1,e2,Instr.sliceAt,Instr.slice,run_underlying hF,Instr.sliceBounds,Instr.sliceBound,asIntOf,hs,h3,Addr.add]
end
def SayC (P:Program) (f:Nat) (args:List Value) (w:World):Prop:=Calls P f args.toArray w fun e w'=>∃ b,e=.returned (.bool b)/\Keeps (fun _=>False) w w'
theorem say_ret {_f n t:Nat} {a:Act} {w w':World} {l:List (Nat × Value)} {b:Bool} (h:St n a l) (hv:l.lookup t=some (.bool b)) (hk:Keeps (fun _=>False) w w'):a.defers=[]/\(∃ b,Ending.returned (ji_ [t] a)=.returned (.bool b)/\Keeps (fun _=>False) w w'):=
 ret1 (RR:=fun e w'=>∃ b,e=.returned (.bool b)/\Keeps (fun _=>False) w w') h hv ⟨b,rfl,hk⟩
theorem z4_calls (T:RefT P S) (hfn:FnIs P S.fZ4 7 [2] (csZ4 S)) {cs:List Value} {p:UInt32 × Bs} (w:World) (ht:TagRp w cs p):SayC P S.fZ4 [.agg cs.toArray] w:=by
 obtain ⟨v,rfl,hv⟩:=ht
 obtain ⟨base,c,hf,_⟩:=hv.form
 subst hf
 refine z9_ T.mixed hfn (by simp) _ (by simp) fun a h=>?_
 unfold csZ4
 have hk:Keeps (fun _=>False) w (w.alloc (.cells [.int .u32 (p.1.toNat:Int),.slice base p.2.length c].toArray S.tG (0,0))):=Keeps.alloc _ _ _
 have hc:=jw_ w [.int .u32 (p.1.toNat:Int),.slice base p.2.length c] S.tG
 refine qt_ (nrg (st_box h (cs:=[.int .u32 (p.1.toNat:Int),.slice base p.2.length c]) (.t rfl) (by omega) fun a h=>qd_ h .c (by omega) fun a h=>wpList_nil ?_))
 generalize w.alloc (.cells [.int .u32 (p.1.toNat:Int),.slice base p.2.length c].toArray S.tG (0,0))=w1 at hk hc ⊢
 refine qt_ (qt_ (nrg (zz_ h (.t rfl) T.g1 (by omega) fun a h=>jf_ h (.t rfl) T.g1.var (hc.at (j:=1) rfl) (by omega) fun a h=>xe_ h (.t rfl) T.oct.und (by omega) fun a h=>j5_ h rfl (.t rfl) .i (by omega) fun a h=>wpList_nil ?_)))
 refine jx_ h rfl (fun _=>?_) (fun _=>?_)
 ·exact qt_ (nrg (qd_ h .c (by omega) fun a h=>wpList_nil (.ret (say_ret (_f:=S.fZ4) h rfl hk))))
 ·exact .skip (qt_ (nrg (qd_ h .c (by omega) fun a h=>wpList_nil (.ret (say_ret (_f:=S.fZ4) h rfl hk)))))
theorem z3_calls (T:RefT P S) (h4:FnIs P S.fZ4 7 [2] (csZ4 S)) (hfn:FnIs P S.fZ3 18 [2] (csZ3 S)) {gv:Value} {u:List (UInt32 × Bs)} (W:World) (hu:RowRp W 2 (TagRp W) gv u):SayC P S.fZ3 [gv] W:=by
 obtain ⟨base,c,hf,hlc,hlm,hrow⟩:=hu.form
 subst hf
 refine z9_ T.mixed hfn (by simp) _ (by simp) fun a h=>?_
 unfold csZ3
 refine qt_ (nrg (qd_ h .c (by omega) fun a h=>wpList_nil ?_))
 refine qt_ (qt_ (nrg (qi_ h (.t rfl) (by omega) fun a h=>?_)))
 refine xe_ h (.t rfl) T.dGs (by omega) fun a h=>j5_ h rfl (.t rfl) .i (by omega) fun a h=>wpList_nil ?_
 refine jx_ h rfl (fun _=>qt_ (nrg (qd_ h .c (by omega) fun a h=>wpList_nil (.ret (say_ret (_f:=S.fZ3) h rfl (Keeps.refl _ _)))))) (fun _=>.skip ?_)
 refine qt_ (qt_ (nrg (qi_ h (.t rfl) (by omega) fun a h=>?_)))
 refine xe_ h (.t rfl) T.dGs (by omega) fun a h=>qi_ h .i (by omega) fun a h=>wpList_nil ?_
 refine st_loop (fun m a' w'=>∃ i:Nat,i + m=u.length/\Keeps (fun _=>False) W w'/\St 18 a' [(0,.slice base u.length c),(8,.slice base u.length c),(9,.int .i64 (u.length:Int)),(10,.int .i64 (i:Int))]) u.length
  ⟨u.length,Nat.le_refl _,0,by omega,Keeps.refl _ _,h.pick ⟨rfl,rfl,rfl,rfl,trivial⟩⟩ ?_
 rintro m a w hm ⟨i,him,hk,h⟩
 refine qt_ (nrg (j5_ h rfl (.t rfl) (.t rfl) (by omega) fun a h=>wpList_nil ?_))
 refine st_test h rfl (fun hb=>?_) (fun hb=>?_)
 ·have hlt:i < u.length:=by simp [zg_] at hb;omega
  refine .skip ?_
  rcases hrow with rfl | ⟨b,o,rfl,hrow⟩
  ·simp at hlt
  obtain ⟨cs,hcl,hcs,htag⟩:=hrow i u[i] (List.getElem?_eq_getElem hlt)
  have hi63:(i:Int) + 1<=9223372036854775807:=by simp only [maxLen] at hlm;omega
  obtain ⟨tv,rfl,hsl⟩:=htag
  refine qt_ (.block (qt_ (nrg ?_)))
  refine st_index h (sz:=2) (.t rfl) (.t rfl) hlt T.dGs T.vG.size (by omega) fun a h=>zi_ h (cs:=[.int .u32 (u[i].1.toNat:Int),tv]) (.t rfl) T.vG (fun j x hj=>hk.cell id (hcs j x hj)) (by omega) fun a h=>?_
  refine st_alloc h (T.zG w) (by omega) fun a h=>?_
  have hnv:=newvar2 (w:=w) (T:=S.tG) (z:=.agg #[.int .u32 0,q2_]) (cs:=[.int .u32 (u[i].1.toNat:Int),tv]) rfl
  have hone:∀ x ∈ [Value.int .u32 (u[i].1.toNat:Int),tv],x.oneCell'=true:=by
   intro x hx
   simp only [List.mem_cons,List.not_mem_nil,or_false] at hx
   rcases hx with rfl | rfl
   ·rfl
   ·obtain ⟨_,_,rfl,_⟩:=hsl.form;rfl
  refine st_store h (cs:=[.int .u32 (u[i].1.toNat:Int),tv]) (.t rfl) (.t rfl) (by simp [Value.cells]) T.vG.size (qo_ w _) rfl hone (wpList_nil ?_)
  obtain ⟨hk2,hc2⟩:=hnv
  generalize (w.alloc (.cells (Value.agg #[.int .u32 0,q2_]).cells S.tG (0,0))).setRow w.heap.size ([.int .u32 (u[i].1.toNat:Int),tv]:List Value).toArray=w2 at hk2 hc2 ⊢
  have hk02:=hk.trans hk2
  refine qt_ (nrg (zi_ h (cs:=[.int .u32 (u[i].1.toNat:Int),tv]) (.t rfl) T.vG hc2 (by omega) fun a h=>q7_ h h4.ent (vs:=[.agg [.int .u32 (u[i].1.toNat:Int),tv].toArray]) (fun n a h=>by
   simp only [List.map_cons,List.map_nil]
   rw [Hd.t (l:=_) (i:=14) rfl n a h]) (z4_calls T h4 w2 ⟨tv,rfl,hsl.keep hk02⟩) (by omega) fun e w3 hR=>?_))
  obtain ⟨b4,rfl,hk3⟩:=hR
  have hk03:=hk02.trans hk3
  refine ⟨_,rfl,fun a h=>st_not h (.t rfl) (by omega) fun a h=>wpList_nil ?_⟩
  refine jx_ h rfl (fun _=>qt_ (nrg (qd_ h .c (by omega) fun a h=>wpList_nil (.ret (say_ret (_f:=S.fZ3) h rfl hk03))))) (fun _=>.skip ?_)
  refine nrg (xw_ h (.t rfl) .i (by simp) (run_addi w3) (by omega) fun a h=>?_)
  have hw:IntKind.i64.wrap ((i:Int) + 1)=((i + 1:Nat):Int):=by simp [IntKind.wrap,IntKind.bits,IntKind.signed];omega
  rw [hw] at h
  refine qi_ h (.t rfl) (by omega) fun a h=>wpList_nil ?_
  exact ⟨m - 1,by omega,by omega,i + 1,by omega,hk03,h.pick ⟨rfl,rfl,rfl,rfl,trivial⟩⟩
 ·refine .exit ?_
  exact qt_ (nrg (qd_ h .c (by omega) fun a h=>wpList_nil (.ret (say_ret (_f:=S.fZ3) h rfl hk))))
theorem z2_calls (T:RefT P S) (h4:FnIs P S.fZ4 7 [2] (csZ4 S)) (h3:FnIs P S.fZ3 18 [2] (csZ3 S)) (hfn:FnIs P S.fZ2 15 [2] (csZ2 S)) {k:Nat} {cs:List Value} {t:Tr} (w:World) (ht:TrRp w k cs t):SayC P S.fZ2 [.agg cs.toArray] w:=by
 cases k with
 | zero=>exact ht.elim
 | succ k=>
 obtain ⟨sv,lv,uv,rfl,hs,hl,hu⟩:=ht
 obtain ⟨sb,sc,hsf,_⟩:=hs.form
 obtain ⟨lb,lc,hlf,_⟩:=hl.form
 subst hsf
 subst hlf
 refine z9_ T.mixed hfn (by simp) _ (by simp) fun a h=>?_
 unfold csZ2
 have hk:Keeps (fun _=>False) w (w.alloc (.cells [.int .i64 t.num,.slice sb t.octets.length sc,.bool t.null,.slice lb t.list.length lc,uv].toArray S.tT (0,0))):=Keeps.alloc _ _ _
 have hc:=jw_ w [.int .i64 t.num,.slice sb t.octets.length sc,.bool t.null,.slice lb t.list.length lc,uv] S.tT
 refine qt_ (nrg (st_box h (cs:=[.int .i64 t.num,.slice sb t.octets.length sc,.bool t.null,.slice lb t.list.length lc,uv]) (.t rfl) (by omega) fun a h=>qd_ h .c (by omega) fun a h=>wpList_nil ?_))
 generalize w.alloc (.cells [.int .i64 t.num,.slice sb t.octets.length sc,.bool t.null,.slice lb t.list.length lc,uv].toArray S.tT (0,0))=w1 at hk hc ⊢
 refine qt_ (qt_ (nrg (zz_ h (.t rfl) T.t1 (by omega) fun a h=>jf_ h (.t rfl) T.t1.var (hc.at (j:=1) rfl) (by omega) fun a h=>xe_ h (.t rfl) T.oct.und (by omega) fun a h=>j5_ h rfl (.t rfl) .i (by omega) fun a h=>wpList_nil ?_)))
 refine jx_ h rfl (fun _=>qt_ (nrg (qd_ h .c (by omega) fun a h=>wpList_nil (.ret (say_ret (_f:=S.fZ2) h rfl hk))))) (fun _=>.skip ?_)
 refine qt_ (qt_ (nrg (zz_ h (.t rfl) T.t3 (by omega) fun a h=>jf_ h (.t rfl) T.t3.var (hc.at (j:=3) rfl) (by omega) fun a h=>xe_ h (.t rfl) T.dTs (by omega) fun a h=>j5_ h rfl (.t rfl) .i (by omega) fun a h=>wpList_nil ?_)))
 refine jx_ h rfl (fun _=>qt_ (nrg (qd_ h .c (by omega) fun a h=>wpList_nil (.ret (say_ret (_f:=S.fZ2) h rfl hk))))) (fun _=>.skip ?_)
 refine qt_ (qt_ (nrg (zz_ h (.t rfl) T.t4 (by omega) fun a h=>jf_ h (.t rfl) T.t4.var (hc.at (j:=4) rfl) (by omega) fun a h=>q7_ h h3.ent (vs:=[uv]) (fun n a h=>by
  simp only [List.map_cons,List.map_nil]
  rw [Hd.t (l:=_) (i:=12) rfl n a h]) (z3_calls T h4 h3 w1 (hu.imp (fun _ _ _ hh=>ql_.kn hk hh) fun _ _ hh=>hh.far (Fa0.of hk))) (by omega) fun e w2 hR=>?_)))
 obtain ⟨b3,rfl,hk2⟩:=hR
 have hk02:=hk.trans hk2
 refine ⟨_,rfl,fun a h=>st_not h (.t rfl) (by omega) fun a h=>wpList_nil ?_⟩
 refine jx_ h rfl (fun _=>qt_ (nrg (qd_ h .c (by omega) fun a h=>wpList_nil (.ret (say_ret (_f:=S.fZ2) h rfl hk02))))) (fun _=>.skip ?_)
 exact qt_ (nrg (qd_ h .c (by omega) fun a h=>wpList_nil (.ret (say_ret (_f:=S.fZ2) h rfl hk02))))
end
end Go.Proofs.YthjaecnbgfohmadDoor.Kx

namespace Go.Proofs.YthjaecnbgfohmadDoor.Kx
open Go
set_option maxRecDepth 4000
section
variable {P:Program} {S:SN} {N:LN} {gErr most:Nat} {flex:Int} {sf:SFs} {out:Int->Bs->Option Bs} {okIn:Int->Bs->Prop}
def TrueC (W:World) (e:Ending) (w':World):Prop:=e=.returned (.bool true)/\Keeps (fun _=>False) W w'
theorem true_ret {n t:Nat} {a:Act} {W w':World} {l:List (Nat × Value)} {v:Value} (h:St n a l) (hv:l.lookup t=some v) (hb:v=.bool true) (hk:Keeps (fun _=>False) W w'):a.defers=[]/\TrueC W (.returned (ji_ [t] a)) w':=
 ret1 (RR:=TrueC W) h hv ⟨by rw [hb],hk⟩
theorem slRp_take {w:World} {v:Value} {bs:Bs} {base:Option Addr} {c:Nat} (h:SlRp w (fun _=>False) v bs) (hv:v=.slice base bs.length c) {k:Nat} (hk:k<=bs.length):SlRp w (fun _=>False) (.slice base k c) (bs.take k)/\bs.length<=c/\∀ p,base=some p->p.spot=none:=by
 rcases h with ⟨rfl,rfl⟩ | ⟨b,o,c',rfl,h1,h2,h3,h4,h5⟩
 ·simp only [Value.slice.injEq] at hv
  obtain ⟨rfl,_,rfl⟩:=hv
  obtain rfl:k=0:=by simpa using hk
  exact ⟨.inl ⟨rfl,rfl⟩,by simp,fun p hp=>by cases hp⟩
 ·simp only [Value.slice.injEq] at hv
  obtain ⟨rfl,_,rfl⟩:=hv
  refine ⟨.inr ⟨b,o,c',by rw [List.length_take,Nat.min_eq_left hk],h1,h2,by rw [List.length_take];omega,h4,fun i x hi=>?_⟩,h3,fun p hp=>by obtain rfl:=Option.some.inj hp;rfl⟩
  have hik:i < k:=by
   rcases Nat.lt_or_ge i k with h | h
   ·exact h
   ·rw [List.getElem?_take,if_neg (by omega)] at hi;cases hi
  rw [List.getElem?_take,if_pos hik] at hi
  exact h5 i x hi
end
end Go.Proofs.YthjaecnbgfohmadDoor.Kx

namespace Go.Proofs.YthjaecnbgfohmadDoor.Kx
theorem uvar_le5 {x:Nat} (h:x < 34359738368):(uvar x).length<=5:=by
 simp only [uvar,zp_]
 repeat' split
 all_goals first | (simp;done) | (exfalso;omega)
theorem sum_flat {α:Type} (f:α->Bs) (b:Nat):∀ (l:List α),(∀ x ∈ l,(f x).length<=b)->((l.map f).flatten).length<=l.length * b
 | [],_=>by simp
 | x :: r,h=>by
  have h1:=h x (List.mem_cons_self ..)
  have h2:=sum_flat f b r fun y hy=>h y (List.mem_cons_of_mem _ hy)
  simp only [List.map_cons,List.flatten_cons,List.length_append,List.length_cons]
  rw [Nat.add_mul]
  omega
theorem sOcts_le (null:Bool) (l:Bs):(sOcts null l).length<=ja_/\(sOcts null l).length<=l.length:=by
 unfold sOcts
 split
 ·simp
 ·rw [List.length_take];omega
theorem sCnt_le (fx null:Bool) {n k:Nat} (hn:n<=ja_) (hk:k<=4):(sCnt fx null n k).length<=5:=by
 have hu:(uvar (n + 1)).length<=5:=uvar_le5 (by simp only [ja_] at hn;omega)
 unfold sCnt
 split <;> split <;> first | exact hu | (rw [qw_];omega) | (simp;done)
theorem sText_le (fx null:Bool) {k:Nat} (l:Bs) (hk:k<=4):(sText fx null k l).length<=5 + ja_/\(sText fx null k l).length<=5 + l.length:=by
 obtain ⟨a,b⟩:=sOcts_le null l
 have:=sCnt_le fx null (k:=k) a hk
 simp only [sText,List.length_append]
 omega
def TAIL:Nat:=5 + ja_ * (10 + ja_)
def mxV (kind p:Nat):Nat:=if kind=0 then 1 else if kind=7 then 16 else if kind=8 \/ kind=9 then 5 + ja_ else if kind=10 then p else z2_ kind
def mxF (kind of p:Nat):Nat:=if kind=11 then 5 + ja_ * mxV of p else if kind=10 then 1 + p else mxV kind p
def mxFs:SFs->Nat
 | .nil=>0
 | .cons kind _ _ _ _ _ of sub r=>mxF kind of (mxFs sub + TAIL) + mxFs r
theorem sVal_mx {kind p:Nat} (null fx:Bool) {pt:Tr->Bs} (hp:∀ t,(pt t).length<=p) (t:Tr):(sVal kind null fx pt t).length<=mxV kind p:=by
 unfold sVal mxV
 by_cases h0:kind=0
 ·rw [if_pos h0,if_pos h0];simp
 rw [if_neg h0,if_neg h0]
 by_cases h7:kind=7
 ·rw [if_pos h7,if_pos h7,s16_len];omega
 rw [if_neg h7,if_neg h7]
 by_cases h8:kind=8
 ·rw [if_pos h8,if_pos (.inl h8)];exact (sText_le fx null _ (by omega)).1
 rw [if_neg h8]
 by_cases h9:kind=9
 ·rw [if_pos h9,if_pos (.inr h9)];exact (sText_le fx null _ (by omega)).1
 rw [if_neg h9,if_neg (show ¬(kind=8 \/ kind=9) from fun h=>h.elim h8 h9)]
 by_cases h10:kind=10
 ·rw [if_pos h10,if_pos h10];exact hp t
 ·rw [if_neg h10,if_neg h10,qw_];exact Nat.le_refl _
theorem sThings_le (null:Bool) (t:Tr):(xt_ null t).length<=ja_:=by
 unfold xt_
 split
 ·simp
 ·rw [List.length_take];omega
theorem sFld_mx {kind of p:Nat} (nul ver:Int) (fx:Bool) {pt:Tr->Bs} (hp:∀ t,(pt t).length<=p) (t:Tr):(sFld kind nul of ver fx pt t).length<=mxF kind of p:=by
 unfold sFld mxF
 by_cases h11:kind=11
 ·rw [if_pos h11,if_pos h11,List.length_append]
  have hl:=sThings_le (t.null && xu_ nul ver) t
  have h1:=sCnt_le fx (t.null && xu_ nul ver) (k:=4) hl (by omega)
  have h2:=sum_flat (sVal of false fx pt) (mxV of p) (xt_ (t.null && xu_ nul ver) t) fun x _=>sVal_mx false fx hp x
  have h3:=Nat.mul_le_mul_right (mxV of p) hl
  omega
 rw [if_neg h11,if_neg h11]
 by_cases h10:kind=10
 ·rw [if_pos h10]
  by_cases hn:kind=10/\0<=nul
  ·rw [if_pos hn]
   have:=hp t
   split <;> simp <;> omega
  ·rw [if_neg hn]
   have:=sVal_mx (kind:=kind) (t.null && xu_ nul ver) fx hp t
   have e:mxV kind p=p:=by subst h10;rfl
   omega
 ·rw [if_neg (fun h=>h10 h.1),if_neg h10]
  exact sVal_mx _ fx hp t
theorem tag_mx (p:Nat × Bs) (h:p.1 < 4294967296):(sTag (p.1,p.2.take ja_)).length<=10 + ja_:=by
 have h1:(uvar p.1).length<=5:=uvar_le5 (by omega)
 have h2:=take_most p.2
 have h3:(uvar (p.2.take ja_).length).length<=5:=uvar_le5 (by simp only [ja_] at h2 ⊢;omega)
 simp only [sTag,List.length_append]
 omega
theorem sTail_mx (fx:Bool) (n:Nat) (t:Tr):(sTail fx n [] t.tags).length<=TAIL:=by
 obtain ⟨_,h2,h3⟩:=sUnk_ok n t
 have hs:sSort n []=[]:=by simp [sSort]
 unfold sTail TAIL
 split
 ·rw [hs]
  simp only [List.length_append,List.length_nil,Nat.zero_add,sTags,List.map_nil,List.flatten_nil]
  have h4:(uvar (sUnk n t.tags).length).length<=5:=uvar_le5 (by simp only [ja_] at h3;omega)
  have h5:=sum_flat (fun p:Nat × Bs=>sTag (p.1,p.2.take ja_)) (10 + ja_) (sUnk n t.tags) fun x hx=>tag_mx x (h2 x hx)
  have h6:=Nat.mul_le_mul_right (10 + ja_) h3
  rw [List.map_map]
  have e:(sTag ∘ fun p:Nat × Bs=>(p.1,p.2.take ja_))=fun p:Nat × Bs=>sTag (p.1,p.2.take ja_):=rfl
  rw [e]
  omega
 ·simp
theorem sFds_mx (ver:Int) (fx:Bool):∀ (sf:SFs) (i:Nat) (t:Tr),sPlainD sf=true->(sFds ver fx sf i t).length<=mxFs sf
 | .nil,_,_,_=>by simp [sFds]
 | .cons kind lo hi nul tag df of sub r,i,t,h=>by
  simp only [sPlainD,Bool.and_eq_true,decide_eq_true_eq] at h
  have hr:=sFds_mx ver fx r (i + 1) t h.2
  have hsub:∀ t',(sFds ver fx sub 0 t'++sTail fx (q4_ sub) (sTgd ver fx sub 0 t') t'.tags).length<=mxFs sub + TAIL:=fun t'=>by
   rw [tgd_nil ver fx sub 0 t' (sPlainD_plain sub h.1.2).1,List.length_append]
   have h1:=sFds_mx ver fx sub 0 t' h.1.2
   have h2:=sTail_mx fx (q4_ sub) t'
   omega
  have hf:=sFld_mx (kind:=kind) (of:=of) nul ver fx hsub (t.at i)
  simp only [sFds,mxFs,List.length_append]
  split
  ·omega
  ·simp only [List.length_nil];omega
theorem sPart_mx {ver:Int} {fx:Bool} {sf:SFs} (h:sPlainD sf=true) (t:Tr):(jb_ ver fx sf t).length<=mxFs sf + TAIL:=by
 simp only [jb_]
 rw [tgd_nil ver fx sf 0 t (sPlainD_plain sf h).1,List.length_append]
 have h1:=sFds_mx ver fx sf 0 t h
 have h2:=sTail_mx fx (q4_ sf) t
 omega
def wtU:List (UInt32 × Bs)->Nat
 | []=>0
 | p :: r=>1 + p.2.length + wtU r
mutual
def Tr.wt:Tr->Nat
 | .mk _ s _ l u=>1 + s.length + wtL l + wtU u
def wtL:List Tr->Nat
 | []=>0
 | t :: r=>t.wt + wtL r
end
end Go.Proofs.YthjaecnbgfohmadDoor.Kx

namespace Go.Proofs.YthjaecnbgfohmadDoor.Kx
open Go Go.ChangeShapes Go.WideShapes Go.RowKit Go.Deep
def stN (P:Program) (t n:Nat):Bool:=match P.underlying t with
 | some (.struct fs)=>fs.size == n
 | _=>false
theorem stN_ok {P:Program} {t n:Nat} (h:stN P t n=true) {fs:Array Field} (hf:P.underlying t=some (.struct fs)):fs.size=n:=by
 unfold stN at h
 rw [hf] at h
 simpa using h
structure TreT (P:Program) (S:SN):Prop where
 tab:RefT P S
 cT:P.cellsOf S.tT=5
 cG:P.cellsOf S.tG=2
 cI:P.cellsOf S.tI64=1
 cSl:P.cellsOf S.tSl=1
 cB:P.cellsOf S.tB=1
 cTs:P.cellsOf S.tTs=1
 cGs:P.cellsOf S.tGs=1
 cU:P.cellsOf S.tU32=1
 c8:P.cellsOf S.tU8=1
 dB:P.underlying S.tB=some .bool
 nT:stN P S.tT 5=true
 nG:stN P S.tG 2=true
section
variable {H:Type} {enc:TypeId × Value->H} {P:Program} {S:SN} {W:World}
theorem spot_none {a:Addr} {v:Value} (h:W.cell? a=some v):a.spot=none/\a.block < W.heap.size:=by
 obtain ⟨b,o,s⟩:=a
 cases s with
 | none=>exact ⟨rfl,j8_ h⟩
 | some s=>
  simp [World.cell?] at h
  split at h <;> cases h
theorem bulk_pos (d:DataW H):1<=Rows.uptoBulk d:=by
 cases d with
 | lit l=>cases l <;> simp [Rows.uptoBulk]
 | _=>simp [Rows.uptoBulk]
theorem bulkAll_len:∀ l:List (DataW H),l.length<=Rows.uptoBulkAll l
 | []=>by simp
 | d :: r=>by
  have h1:=bulk_pos d
  have h2:=bulkAll_len r
  simp only [Rows.uptoBulkAll,List.length_cons]
  omega
theorem open_octs (T:TreT P S) {fuel:Nat} {v:Value} {x:DataW H × List MemPlace} (h:DataW.trod enc P W 0 (fun _=>true) true fuel S.tSl [v]=some x):∃ l:Bs,OcRp W v l/\l.length + 1<=Rows.uptoBulk x.1:=by
 rcases open_ints T.tab.oct.und T.tab.dU8 T.c8 h with ⟨hcs,rfl⟩ | ⟨a,len,cap,zs,hcs,_,hl,hm,hzl,rfl,hcell,hw⟩
 ·simp only [List.cons.injEq,and_true] at hcs
  exact ⟨[],.inl ⟨none,hcs,rfl⟩,by simp [Rows.uptoBulk]⟩
 ·simp only [List.cons.injEq,and_true] at hcs
  subst hcs
  have hzl:zs.length=cap:=by simpa using hzl
  have hlen:((zs.take len).map fun z=>UInt8.ofNat z.toNat).length=len:=by simp only [List.length_map,List.length_take];omega
  refine ⟨(zs.take len).map fun z=>UInt8.ofNat z.toNat,?_,?_⟩
  ·by_cases h0:cap=0
   ·obtain rfl:len=0:=by omega
    subst h0
    exact .inl ⟨_,rfl,by simp⟩
   ·have hc0:=hcell 0 (by omega)
    have e0:a.add 0=a:=rfl
    rw [e0] at hc0
    obtain ⟨hs,hlt⟩:=spot_none hc0
    obtain ⟨b,o,s⟩:=a
    simp only at hs
    subst hs
    refine .inr (.inr ⟨b,o,cap,by rw [hlen],id,hlt,by rw [hlen];exact hl,hm,fun i x hx=>?_⟩)
    simp only [List.getElem?_map,Option.map_eq_some_iff] at hx
    obtain ⟨z,hz,rfl⟩:=hx
    have hi:i < len:=by
     rcases Nat.lt_or_ge i len with h | h
     ·exact h
     ·rw [List.getElem?_take,if_neg (by omega)] at hz;cases hz
    rw [List.getElem?_take,if_pos hi] at hz
    have hzz:=hw z (List.mem_of_getElem? hz)
    have hzz:0<=z/\z < 256:=by simp [Lit.wf,IntKind.min,IntKind.max,IntKind.bits,IntKind.signed] at hzz;omega
    have hci:=hcell i (by omega)
    rw [add_plain] at hci
    rw [hci]
    have e1:zs.getD i 0=z:=by simp [List.getD,hz]
    have e2:(UInt8.ofNat z.toNat).toNat=z.toNat:=UInt8.toNat_ofNat_of_lt (by simpa using (by omega:z.toNat < 256))
    rw [e1,e2,Int.toNat_of_nonneg hzz.1]
  ·rw [hlen]
   have h1:=bulkAll_len (lits (H:=H) .u8 (zs.take len))
   have h2:(lits (H:=H) .u8 (zs.take len)).length=len:=by simp only [lits,List.length_map,List.length_take];omega
   simp only [Rows.uptoBulk]
   omega
theorem row_of {α:Type} {El:List Value->α->Prop} {sz len cap:Nat} {a:Addr} (hsz:0 < sz) (hl:len<=cap) (hm:cap<=maxLen) (wt:α->Nat) (D:Nat->Nat) (h:∀ i,i < cap->∃ cs',W.cells? 0 (a.add (i * sz)) sz=some cs'/\(i < len->∃ x,El cs' x/\wt x<=D i)) :
  ∃ xs:List α,RowRp W sz El (.slice (some a) len cap) xs/\xs.length=len/\∀ i x,xs[i]?=some x->wt x<=D i:=by
 by_cases h0:cap=0
 ·obtain rfl:len=0:=by omega
  subst h0
  exact ⟨[],.inl ⟨_,rfl,rfl⟩,rfl,fun i x hx=>by simp at hx⟩
 ·obtain ⟨cs0,hc0,_⟩:=h 0 (by omega)
  obtain ⟨_,hl0,hcell0⟩:=World.cells?_some hc0
  have h1:=hcell0 0 hsz
  rw [List.getElem?_eq_getElem (by omega)] at h1
  have e0:(a.add (0 * sz)).add 0=a:=by rw [Nat.zero_mul];rfl
  rw [e0] at h1
  obtain ⟨hs,hlt⟩:=spot_none h1
  obtain ⟨b,o,s⟩:=a
  simp only at hs
  subst hs
  have hex:∀ i:Fin len,∃ x,(∃ cs',W.cells? 0 ((⟨b,o,none⟩:Addr).add (i.val * sz)) sz=some cs'/\El cs' x)/\wt x<=D i.val:=fun i=>by
   obtain ⟨cs',e1,e2⟩:=h i.val (by omega)
   obtain ⟨x,e3,e4⟩:=e2 i.isLt
   exact ⟨x,⟨cs',e1,e3⟩,e4⟩
  let f:Fin len->α:=fun i=>Classical.choose (hex i)
  have hf:∀ i:Fin len,(∃ cs',W.cells? 0 ((⟨b,o,none⟩:Addr).add (i.val * sz)) sz=some cs'/\El cs' (f i))/\wt (f i)<=D i.val:=fun i=>Classical.choose_spec (hex i)
  have hget:∀ i x,(List.ofFn f)[i]?=some x->∃ hi:i < len,x=f ⟨i,hi⟩:=fun i x hx=>by
   obtain ⟨hi,e⟩:=List.getElem?_eq_some_iff.1 hx
   have hi':i < len:=by simpa using hi
   exact ⟨hi',by rw [<- e];simp⟩
  refine ⟨List.ofFn f,.inr ⟨b,o,cap,by rw [List.length_ofFn],by rw [List.length_ofFn];exact hl,hm,fun i x hx=>?_⟩,List.length_ofFn ..,fun i x hx=>?_⟩
  ·obtain ⟨hi,rfl⟩:=hget i x hx
   obtain ⟨⟨cs',e1,e2⟩,_⟩:=hf ⟨i,hi⟩
   obtain ⟨_,e3,e4⟩:=World.cells?_some e1
   refine ⟨cs',e3,fun j v hj=>?_,e2⟩
   have:=e4 j (by have:=(List.getElem?_eq_some_iff.1 hj).1;omega)
   rw [hj,add_plain,add_plain] at this
   rw [<- this]
  ·obtain ⟨hi,rfl⟩:=hget i x hx
   exact (hf ⟨i,hi⟩).2
theorem open_tag (T:TreT P S) {fuel:Nat} {cs:List Value} {x:DataW H × List MemPlace} (h:DataW.trod enc P W 0 (fun _=>true) true fuel S.tG cs=some x):∃ p,TagRp W cs p/\1 + p.2.length<=Rows.uptoBulk x.1:=by
 obtain ⟨fs,f0,hu,hf0,o0,ty0⟩:=T.tab.g0.fld
 obtain ⟨fs',f1,hu',hf1,o1,ty1⟩:=T.tab.g1.fld
 obtain rfl:fs=fs':=by rw [hu] at hu';simpa using hu'
 obtain ⟨xs,n,rfl,rfl,hcl,hxl,hfs⟩:=DataW.trod_struct hu h
 rw [T.cG] at hcl
 rw [stN_ok T.nG hu] at hxl
 match cs,hcl,xs,hxl with
 | [c0,c1],_,[y0,y1],_=>
  have h0:=hfs 0 f0 hf0
  have h1:=hfs 1 f1 hf1
  rw [o0,ty0,T.cU] at h0
  rw [o1,ty1,T.cSl] at h1
  simp only [List.drop_zero,List.take_succ_cons,List.take_zero,List.getElem?_cons_zero] at h0
  simp only [List.drop_succ_cons,List.drop_zero,List.take_succ_cons,List.take_zero,List.getElem?_cons_succ,List.getElem?_cons_zero] at h1
  obtain ⟨m,e0,_,hw⟩:=DataW.trod_int T.tab.dU32 h0
  obtain ⟨l,hl,hb⟩:=open_octs T h1
  simp only [List.cons.injEq,and_true] at e0
  have hm:0<=m/\m < 4294967296:=by simp [Lit.wf,IntKind.min,IntKind.max,IntKind.bits,IntKind.signed] at hw;omega
  refine ⟨(UInt32.ofNat m.toNat,l),⟨c1,?_,hl⟩,?_⟩
  ·have e2:(UInt32.ofNat m.toNat).toNat=m.toNat:=UInt32.toNat_ofNat_of_lt (by simpa using (by omega:m.toNat < 4294967296))
   simp only [e2,Int.toNat_of_nonneg hm.1]
   rw [e0]
  ·simp only [Rows.uptoBulk,List.map_cons,List.map_nil,Rows.uptoBulkAll]
   omega
theorem open_row {α:Type} {e t sz:Nat} (hund:P.underlying t=some (.slice e)) (hce:P.cellsOf e=sz) (hsz:0 < sz) {El:List Value->α->Prop} (wt:α->Nat) {fuel:Nat} {v:Value} {x:DataW H × List MemPlace} (h:DataW.trod enc P W 0 (fun _=>true) true fuel t [v]=some x)
  (hel:∀ (n:Nat) (cs:List Value) (y:DataW H × List MemPlace),n < fuel->DataW.trod enc P W 0 (fun _=>true) true n e cs=some y->∃ a,El cs a/\wt a<=Rows.uptoBulk y.1) :
  ∃ (xs:List α) (ds:List (DataW H)),RowRp W sz El v xs/\Rows.uptoBulkAll ds + 1<=Rows.uptoBulk x.1/\xs.length=ds.length/\∀ (i:Nat) (a:α) (d:DataW H),xs[i]?=some a->ds[i]?=some d->wt a<=Rows.uptoBulk d:=by
 rcases DataW.trod_slice hund h with ⟨e3,rfl⟩ | ⟨a,len,cap,elems,rest,n,rfl,e3,rfl,_,hl,hm,hlen,he,hsp,_⟩
 ·simp only [List.cons.injEq,and_true] at e3
  exact ⟨[],[],.inl ⟨none,e3,rfl⟩,by simp [Rows.uptoBulk,Rows.uptoBulkAll],rfl,fun i a d hi=>by simp at hi⟩
 simp only [List.cons.injEq,and_true] at e3
 subst e3
 obtain ⟨hrl,hr⟩:=hsp rfl
 rw [hce] at he hr
 obtain ⟨xs,hrow,hxl,hwt⟩:=row_of (W:=W) (El:=El) (sz:=sz) (a:=a) hsz hl hm wt (fun i=>match elems[i]? with | some y=>Rows.uptoBulk y.1 | none=>0) (fun i hi=>by
  by_cases hil:i < len
  ·have h1:=he i hil
   rw [List.getElem?_eq_getElem (by omega)] at h1
   obtain ⟨cs',h2,h3⟩:=Option.bind_eq_some_iff.1 h1
   obtain ⟨b,h4,h5⟩:=hel n cs' _ (Nat.lt_succ_self n) h3
   refine ⟨cs',h2,fun _=>⟨b,h4,?_⟩⟩
   rw [List.getElem?_eq_getElem (by omega)]
   exact h5
  ·have h1:=hr (i - len) (by omega)
   rw [List.getElem?_eq_getElem (by omega),show len + (i - len)=i by omega] at h1
   obtain ⟨cs',h2,_⟩:=Option.bind_eq_some_iff.1 h1
   exact ⟨cs',h2,fun h=>absurd h hil⟩)
 refine ⟨xs,elems.map (·.1),hrow,by simp only [Rows.uptoBulk];omega,by rw [hxl,List.length_map,hlen],fun i b d hb hd=>?_⟩
 have:=hwt i b hb
 rw [List.getElem?_map,Option.map_eq_some_iff] at hd
 obtain ⟨y,hy,rfl⟩:=hd
 simpa [hy] using this
theorem wtL_le:∀ (l:List Tr) (ds:List (DataW H)),l.length=ds.length->(∀ (i:Nat) (x:Tr) (d:DataW H),l[i]?=some x->ds[i]?=some d->x.wt<=Rows.uptoBulk d)->wtL l<=Rows.uptoBulkAll ds
 | [],_,_,_=>by simp [wtL]
 | t :: r,[],h,_=>by simp at h
 | t :: r,d :: ds,h,hh=>by
  have h0:=hh 0 t d rfl rfl
  have h1:=wtL_le r ds (by simpa using h) fun i x y hx hy=>hh (i + 1) x y (by simpa using hx) (by simpa using hy)
  simp only [wtL,Rows.uptoBulkAll]
  omega
theorem wtU_le:∀ (l:List (UInt32 × Bs)) (ds:List (DataW H)),l.length=ds.length->(∀ (i:Nat) (x:UInt32 × Bs) (d:DataW H),l[i]?=some x->ds[i]?=some d->1 + x.2.length<=Rows.uptoBulk d)->wtU l<=Rows.uptoBulkAll ds
 | [],_,_,_=>by simp [wtU]
 | t :: r,[],h,_=>by simp at h
 | t :: r,d :: ds,h,hh=>by
  have h0:=hh 0 t d rfl rfl
  have h1:=wtU_le r ds (by simpa using h) fun i x y hx hy=>hh (i + 1) x y (by simpa using hx) (by simpa using hy)
  simp only [wtU,Rows.uptoBulkAll]
  omega
theorem open_tree (T:TreT P S):∀ (fuel:Nat) (cs:List Value) (x:DataW H × List MemPlace),DataW.trod enc P W 0 (fun _=>true) true fuel S.tT cs=some x->∃ t,TrRp W fuel cs t/\t.wt<=Rows.uptoBulk x.1:=by
 intro fuel
 induction fuel using Nat.strongRecOn with
 | _ fuel ih=>
 intro cs x h
 obtain ⟨fs,f0,hu,hf0,o0,ty0⟩:=T.tab.t0.fld
 obtain ⟨fs1,f1,hu1,hf1,o1,ty1⟩:=T.tab.t1.fld
 obtain ⟨fs2,f2,hu2,hf2,o2,ty2⟩:=T.tab.t2.fld
 obtain ⟨fs3,f3,hu3,hf3,o3,ty3⟩:=T.tab.t3.fld
 obtain ⟨fs4,f4,hu4,hf4,o4,ty4⟩:=T.tab.t4.fld
 obtain rfl:fs=fs1:=by rw [hu] at hu1;simpa using hu1
 obtain rfl:fs=fs2:=by rw [hu] at hu2;simpa using hu2
 obtain rfl:fs=fs3:=by rw [hu] at hu3;simpa using hu3
 obtain rfl:fs=fs4:=by rw [hu] at hu4;simpa using hu4
 obtain ⟨xs,n,rfl,rfl,hcl,hxl,hfs⟩:=DataW.trod_struct hu h
 rw [T.cT] at hcl
 rw [stN_ok T.nT hu] at hxl
 match cs,hcl,xs,hxl with
 | [c0,c1,c2,c3,c4],_,[y0,y1,y2,y3,y4],_=>
  have h0:=hfs 0 f0 hf0
  have h1:=hfs 1 f1 hf1
  have h2:=hfs 2 f2 hf2
  have h3:=hfs 3 f3 hf3
  have h4:=hfs 4 f4 hf4
  rw [o0,ty0,T.cI] at h0
  rw [o1,ty1,T.cSl] at h1
  rw [o2,ty2,T.cB] at h2
  rw [o3,ty3,T.cTs] at h3
  rw [o4,ty4,T.cGs] at h4
  simp only [List.drop_zero,List.drop_succ_cons,List.take_succ_cons,List.take_zero,List.getElem?_cons_zero,List.getElem?_cons_succ] at h0 h1 h2 h3 h4
  obtain ⟨m,e0,ey0,_⟩:=DataW.trod_int T.tab.dI64 h0
  obtain ⟨l,hl,hb1⟩:=open_octs T h1
  obtain ⟨nl,e2,ey2⟩:=DataW.trod_bool T.dB h2
  simp only [List.cons.injEq,and_true] at e0 e2
  obtain ⟨ts,ds3,hts,hb3,hl3,hw3⟩:=open_row (El:=TrRp W n) T.tab.dTs T.cT (by omega) Tr.wt h3 fun n' cs y hn hy=>by
   obtain ⟨t,ht,hw⟩:=ih n' (by omega) cs y hy
   exact ⟨t,ht.up (by omega),hw⟩
  obtain ⟨us,ds4,hus,hb4,hl4,hw4⟩:=open_row (El:=TagRp W) T.tab.dGs T.cG (by omega) (fun p:UInt32 × Bs=>1 + p.2.length) h4 fun n' cs y _ hy=>open_tag T hy
  have hwL:=wtL_le ts ds3 hl3 hw3
  have hwU:=wtU_le us ds4 hl4 hw4
  refine ⟨.mk m l nl ts us,⟨c1,c3,c4,?_,hl,hts,hus⟩,?_⟩
  ·rw [e0,e2];rfl
  ·have b0:=bulk_pos y0.1
   have b2:=bulk_pos y2.1
   simp only [Tr.wt,Rows.uptoBulk,List.map_cons,List.map_nil,Rows.uptoBulkAll]
   omega
theorem arg_tree (T:TreT P S) {base:Nat} {v:Value} {d:DataW H} {p:List MemPlace} (hval:Value.okWide P W .any base S.tT v) (h:DataW.Trod enc P W 0 (fun _=>true) true S.tT v d p):∃ (k:Nat) (cs:List Value) (t:Tr),v=.agg cs.toArray/\TrRp W k cs t/\t.wt<=Rows.uptoBulk d:=by
 obtain ⟨fs,f0,hu,_⟩:=T.tab.t0.fld
 obtain ⟨cs,rfl,_⟩:=okWide_struct hu hval
 obtain ⟨fuel,hf⟩:=h
 obtain ⟨t,ht,hw⟩:=open_tree T fuel _ _ hf
 exact ⟨fuel,cs.toList,t,by simp,by simpa [Value.cells] using ht,hw⟩
theorem Keeps.below {W W':World} (h:Keeps (fun _=>False) W W'):Below W.heap.size W W':=⟨h.os,h.tape,h.output,h.size,fun i hi=>h.block i hi id⟩
theorem rowT (T:TreT P S) (hlo:laidOutB P=true) (hrr:P.readableRec S.tT=true) (hlt:S.tT < P.types.size) {f:FuncId} {fn:Func} {s:ChangeSpec} {tX tB:TypeId} (hpar:fn.params.toList=[tX,S.tT]) (hres:fn.resultTypes=#[tB]) (hX:P.underlying tX=some (.int .u8)) (hB:P.underlying tB=some .bool)
  (hv:s.vars=[]) (hs:∀ d1 d2:DataW H,s.fn H [d1,d2]={ results:=[.lit (.bool true)],args:=[d1,d2] }) {base:Nat} {args:Array Value} {ds gs:List (DataW H)} {before:List MemPlace}
  (hval:∀ (j:Nat) t v,fn.params[j]?=some t->args[j]?=some v->Value.okWide P W .any base t v) (hW:DataW.Whole enc P fn.params.toList s.vars false W args.toList ds gs before)
  (hcall:∀ (x0 k:Nat) (cs:List Value) (t:Tr),x0 < 256->TrRp W k cs t->t.wt<=Rows.uptoBulkAll (ds++gs)->Calls P f [.int .u8 (x0:Int),.agg cs.toArray].toArray W (TrueC W)) :
  Calls P f args W fun e W'=>∃ v,e=.returned v/\s.post enc P fn false true false false W args v W':=by
 have hW':=hW
 obtain ⟨p,q,hA0,hV,rfl,hfz,hnd⟩:=hW
 have hA:DataW.TrodAll enc P W 0 (fun _=>true) true fn.params.toList args.toList ds p:=hA0
 have hpj:∀ j,fn.params[j]?=([tX,S.tT]:List TypeId)[j]?:=fun j=>by rw [<- hpar,Array.getElem?_toList]
 rw [hpar] at hA
 obtain ⟨v0,v1,d0,d1,p0,p1,rfl,rfl,rfl,h0,h1⟩:=trodAll_two hA
 rw [hv] at hV
 obtain ⟨rfl,rfl⟩:=trodVars_none hV
 obtain ⟨n,rfl,rfl,rfl,hn⟩:=open_int hX (hval 0 tX v0 (by rw [hpj];rfl) rfl) h0
 obtain ⟨k,cs,t,rfl,ht,hwt⟩:=arg_tree T (hval 1 S.tT v1 (by rw [hpj];rfl) rfl) h1
 have hn':0<=n/\n < 256:=by
  simp [Lit.wf,IntKind.min,IntKind.max,IntKind.bits,IntKind.signed] at hn
  omega
 have e:n=((n.toNat:Nat):Int):=by omega
 have hcl:=hcall n.toNat k cs t (by omega) ht (by simp only [List.cons_append,List.nil_append,Rows.uptoBulkAll];omega)
 rw [<- e] at hcl
 refine hcl.mono fun e W' ⟨he,hk⟩=>?_
 subst he
 refine ⟨_,rfl,_,_,_,[],p1,[],hW',?_,?_,?_,hk.butNone _,fun h=>by cases h⟩
 ·rw [hres]
  simp only [List.append_nil,hs]
  exact trodAll_mk1 (shut_bool hB true)
 ·rw [hpar]
  simp only [List.append_nil,hs]
  have:=trodAll_mk2 (p:=[]) (shut_int (enc:=enc) (w:=W') (base:=0) (spare:=fun b=>decide (b < W.heap.size)) (held:=true) hX hn) (Below.trod hlo hrr hlt h1 hk.below fun x hx=>by
   have:=hW'.lt x (by simp [hx])
   simpa using this)
  simpa using this
 ·rw [hv]
  simp only [List.append_nil,hs]
  rfl
theorem rowU (T:TreT P S) (hlo:laidOutB P=true) (hrr:P.readableRec S.tT=true) (hlt:S.tT < P.types.size) {f:FuncId} {fn:Func} {s:ChangeSpec} {tX tY tB:TypeId} (hpar:fn.params.toList=[tX,S.tT,tY]) (hres:fn.resultTypes=#[tB]) (hX:P.underlying tX=some (.int .u8)) (hY:P.underlying tY=some (.int .u16)) (hB:P.underlying tB=some .bool)
  (hv:s.vars=[]) (hs:∀ d1 d2 d3:DataW H,s.fn H [d1,d2,d3]={ results:=[.lit (.bool true)],args:=[d1,d2,d3] }) {base:Nat} {args:Array Value} {ds gs:List (DataW H)} {before:List MemPlace}
  (hval:∀ (j:Nat) t v,fn.params[j]?=some t->args[j]?=some v->Value.okWide P W .any base t v) (hW:DataW.Whole enc P fn.params.toList s.vars false W args.toList ds gs before)
  (hcall:∀ (x0 x2 k:Nat) (cs:List Value) (t:Tr),x0 < 256->x2 < 65536->TrRp W k cs t->t.wt<=Rows.uptoBulkAll (ds++gs)->Calls P f [.int .u8 (x0:Int),.agg cs.toArray,.int .u16 (x2:Int)].toArray W (TrueC W)) :
  Calls P f args W fun e W'=>∃ v,e=.returned v/\s.post enc P fn false true false false W args v W':=by
 have hW':=hW
 obtain ⟨p,q,hA0,hV,rfl,hfz,hnd⟩:=hW
 have hA:DataW.TrodAll enc P W 0 (fun _=>true) true fn.params.toList args.toList ds p:=hA0
 have hpj:∀ j,fn.params[j]?=([tX,S.tT,tY]:List TypeId)[j]?:=fun j=>by rw [<- hpar,Array.getElem?_toList]
 rw [hpar] at hA
 obtain ⟨v0,v1,v2,d0,d1,d2,p0,p1,p2,rfl,rfl,rfl,h0,h1,h2⟩:=trodAll_three hA
 rw [hv] at hV
 obtain ⟨rfl,rfl⟩:=trodVars_none hV
 obtain ⟨n,rfl,rfl,rfl,hn⟩:=open_int hX (hval 0 tX v0 (by rw [hpj];rfl) rfl) h0
 obtain ⟨m,rfl,rfl,rfl,hm⟩:=open_int hY (hval 2 tY v2 (by rw [hpj];rfl) rfl) h2
 obtain ⟨k,cs,t,rfl,ht,hwt⟩:=arg_tree T (hval 1 S.tT v1 (by rw [hpj];rfl) rfl) h1
 have hn':0<=n/\n < 256:=by
  simp [Lit.wf,IntKind.min,IntKind.max,IntKind.bits,IntKind.signed] at hn
  omega
 have hm':0<=m/\m < 65536:=by
  simp [Lit.wf,IntKind.min,IntKind.max,IntKind.bits,IntKind.signed] at hm
  omega
 have e:n=((n.toNat:Nat):Int):=by omega
 have e':m=((m.toNat:Nat):Int):=by omega
 have hcl:=hcall n.toNat m.toNat k cs t (by omega) (by omega) ht (by simp only [List.cons_append,List.nil_append,Rows.uptoBulkAll];omega)
 rw [<- e,<- e'] at hcl
 refine hcl.mono fun e W' ⟨he,hk⟩=>?_
 subst he
 refine ⟨_,rfl,_,_,_,[],p1,[],hW',?_,?_,?_,hk.butNone _,fun h=>by cases h⟩
 ·rw [hres]
  simp only [List.append_nil,hs]
  exact trodAll_mk1 (shut_bool hB true)
 ·rw [hpar]
  simp only [List.append_nil,hs]
  have:=trodAll_mk3 (p:=[]) (p'':=[]) (shut_int (enc:=enc) (w:=W') (base:=0) (spare:=fun b=>decide (b < W.heap.size)) (held:=true) hX hn) (Below.trod hlo hrr hlt h1 hk.below fun x hx=>by
   have:=hW'.lt x (by simp [hx])
   simpa using this) (shut_int (enc:=enc) (w:=W') (base:=0) (spare:=fun b=>decide (b < W.heap.size)) (held:=true) hY hm)
  simpa using this
 ·rw [hv]
  simp only [List.append_nil,hs]
  rfl
end
end Go.Proofs.YthjaecnbgfohmadDoor.Kx
