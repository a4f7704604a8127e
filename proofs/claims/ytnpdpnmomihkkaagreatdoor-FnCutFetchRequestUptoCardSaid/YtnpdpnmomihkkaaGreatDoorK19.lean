import Derived.Test.YtnpdpnmomihkkaaGreatDoorK16

namespace Go.Proofs.YtnpdpnmomihkkaaGreatDoor.Kx
open Go
def sUn:SFs->SFs
 | .nil=>.nil
 | .cons k lo hi nul tag df of sub r=>if tag<0 then .cons k lo hi nul tag df of sub (sUn r)else sUn r
def sTa:SFs->SFs
 | .nil=>.nil
 | .cons k lo hi nul tag df of sub r=>if tag<0 then sTa r else .cons k lo hi nul tag df of sub (sTa r)
def sApp:SFs->SFs->SFs
 | .nil,b=>b
 | .cons k lo hi nul tag df of sub r,b=>.cons k lo hi nul tag df of sub (sApp r b)
def iUn:SFs->Nat->List Nat
 | .nil,_=>[]
 | .cons _ _ _ _ tag _ _ _ r,i=>if tag<0 then i::iUn r (i+1)else iUn r (i+1)
def iTa:SFs->Nat->List Nat
 | .nil,_=>[]
 | .cons _ _ _ _ tag _ _ _ r,i=>if tag<0 then iTa r (i+1)else i::iTa r (i+1)
def sPm (sf:SFs):SFs:=sApp (sUn sf) (sTa sf)
def trPm (sf:SFs):Tr->Tr
 | .mk n s b l u=>.mk n s b ((iUn sf 0++iTa sf 0).map (Tr.mk n s b l u).at) u
section
variable {ver:Int} {fx:Bool}
theorem pm_un:∀ (sf:SFs) (i j:Nat) (t t':Tr),(∀ m x,(iUn sf i)[m]?=some x->t'.at (j+m)=t.at x)->ea ver fx (sUn sf) j t'=ea ver fx sf i t/\sTgd ver fx (sUn sf) j t'=[]
 | .nil,_,_,_,_,_=>⟨by simp[sUn,ea],by simp[sUn,sTgd]⟩
 | .cons kind lo hi nul tag df of sub r,i,j,t,t',h=>by
  by_cases ht:tag<0
  ·have h0:t'.at j=t.at i:=by
    have:=h 0 i (by simp[iUn,ht])
    simpa using this
   have ih:=pm_un r (i+1) (j+1) t t' fun m x hx=>by
    have:=h (m+1) x (by simpa[iUn,ht]using hx)
    rw[show j+1+m=j+(m+1) by omega]
    exact this
   have hn:¬ (0<=tag):=by omega
   exact⟨by simp only[sUn,if_pos ht,ea,h0,ih.1],by simp only[sUn,if_pos ht,sTgd,ih.2,hn,false_and,if_false,List.append_nil]⟩
  ·have ih:=pm_un r (i+1) j t t' fun m x hx=>h m x (by simpa[iUn,ht]using hx)
   exact⟨by simp only[sUn,ea,ih.1,ht,false_and,if_false,List.nil_append],by simp only[sUn,if_neg ht,ih.2]⟩
theorem pm_ta:∀ (sf:SFs) (i j:Nat) (t t':Tr),(∀ m x,(iTa sf i)[m]?=some x->t'.at (j+m)=t.at x)->sTgd ver fx (sTa sf) j t'=sTgd ver fx sf i t/\ea ver fx (sTa sf) j t'=[]
 | .nil,_,_,_,_,_=>⟨by simp[sTa,sTgd],by simp[sTa,ea]⟩
 | .cons kind lo hi nul tag df of sub r,i,j,t,t',h=>by
  by_cases ht:tag<0
  ·have ih:=pm_ta r (i+1) j t t' fun m x hx=>h m x (by simpa[iTa,ht]using hx)
   have hn:¬ (0<=tag):=by omega
   exact⟨by simp only[sTa,if_pos ht,sTgd,ih.1,hn,false_and,if_false,List.nil_append],by simp only[sTa,if_pos ht,ih.2]⟩
  ·have h0:t'.at j=t.at i:=by
    have:=h 0 i (by simp[iTa,ht])
    simpa using this
   have ih:=pm_ta r (i+1) (j+1) t t' fun m x hx=>by
    have:=h (m+1) x (by simpa[iTa,ht]using hx)
    rw[show j+1+m=j+(m+1) by omega]
    exact this
   exact⟨by simp only[sTa,if_neg ht,sTgd,h0,ih.1],by simp only[sTa,ea,ih.2,ht,false_and,if_false,List.append_nil]⟩
theorem pm_app (t:Tr)(b:SFs):∀ (sf:SFs) (i j:Nat),ea ver fx (sApp (sUn sf) b) j t=ea ver fx (sUn sf) j t++ea ver fx b (j+(iUn sf i).length) t/\sTgd ver fx (sApp (sUn sf) b) j t=sTgd ver fx (sUn sf) j t++sTgd ver fx b (j+(iUn sf i).length) t
 | .nil,_,_=>⟨by simp[sUn,sApp,iUn,ea],by simp[sUn,sApp,iUn,sTgd]⟩
 | .cons kind lo hi nul tag df of sub r,i,j=>by
  by_cases ht:tag<0
  ·have ih:=pm_app t b r (i+1) (j+1)
   simp only[sUn,if_pos ht,sApp,iUn,ea,sTgd,List.length_cons]
   rw[ih.1,ih.2,show j+1+(iUn r (i+1)).length=j+((iUn r (i+1)).length+1) by omega]
   exact⟨by rw[List.append_assoc],by rw[List.append_assoc]⟩
  ·have ih:=pm_app t b r (i+1) j
   simp only[sUn,if_neg ht,iUn]
   exact ih
theorem pm_known (b:SFs):∀ sf:SFs,bH (sApp (sUn sf) b)=bH b/\bH (sTa sf)=bH sf
 | .nil=>⟨rfl,rfl⟩
 | .cons kind lo hi nul tag df of sub r=>by
  have ih:=pm_known b r
  by_cases ht:tag<0
  ·simp only[sUn,sTa,if_pos ht,sApp,bH]
   have hn:¬ (0<=tag):=by omega
   rw[if_neg hn,if_neg hn]
   exact ih
  ·simp only[sUn,sTa,if_neg ht,bH]
   rw[ih.2]
   exact⟨ih.1,rfl⟩
theorem pm_part (sf:SFs)(t:Tr):bU ver fx (sPm sf) (trPm sf t)=bU ver fx sf t:=by
 have JD:∀ m x,(iUn sf 0++iTa sf 0)[m]?=some x->(trPm sf t).at m=t.at x:=fun m x hx=>by
  cases t with
  | mk n s b l u=>
   unfold Tr.at
   rw[List.getD_eq_getElem?_getD]
   simp only[trPm,Tr.list,List.getElem?_map,hx,Option.map_some,Option.getD_some,Tr.at]
 have h1:=pm_un (ver:=ver) (fx:=fx) sf 0 0 t (trPm sf t) fun m x hx=>by
  rw[Nat.zero_add]
  have hl:m<(iUn sf 0).length:=(List.getElem?_eq_some_iff.1 hx).1
  exact JD m x (by rw[List.getElem?_append_left hl];exact hx)
 have h2:=pm_ta (ver:=ver) (fx:=fx) sf 0 (0+(iUn sf 0).length) t (trPm sf t) fun m x hx=>JD _ x (by
  rw[List.getElem?_append_right (by omega),show 0+(iUn sf 0).length+m-(iUn sf 0).length=m by omega]
  exact hx)
 have h3:=pm_app (ver:=ver) (fx:=fx) (trPm sf t) (sTa sf) sf 0 0
 have Kb:(trPm sf t).tags=t.tags:=by cases t with|mk n s b l u=>rfl
 unfold bU sPm
 rw[h3.1,h3.2,h1.1,h1.2,h2.1,h2.2,(pm_known _ sf).1,(pm_known .nil sf).2,Kb,List.append_nil,List.nil_append]
end
section
variable {P:Program} {S:SN} {N:LN} {gErr flexN:Nat} {hf:Bool} {fs:Fds} {most:Nat} {flex:Int} {sf:SFs}
theorem cut_lawGP (L:LawC P S N gErr most flex sf (fun x l=>againOut false hf flexN fs x l) (okInL hf flexN fs most))(KC:(sQ hf flexN most flex fs (sPm sf)&&Ik most fs)=true)(hU:(S.tU16 != 999999)=true){f:Nat}(hfn:FnIs P f 56 [6] (cLcu S N)){x0 x2:Nat}(hx:x0<256)(hx2:x2<65536){W:World}{k:Nat}{cs:List Value}{t:Tr}(ht:TrRp W k cs t)(herr:ErrAt gErr W)
  (IT:∀ v:Nat,(bU (v:Int) (oT flex (v:Int)) sf t).length<r5):Calls P f [.int .u8 (x0:Int),.agg cs.toArray,.int .u16 (x2:Int)].toArray W (TrueC W):=by
 simp only[Bool.and_eq_true,Ik]at KC
 obtain⟨KC,MS,Xb⟩:=KC
 have hv:x0%(most+1)<=most:=by have:=Nat.mod_lt x0 (show 0<most+1 by omega);omega
 have hh:=List.all_eq_true.1 Xb (x0%(most+1)) (by simp;omega)
 obtain⟨h1,h2⟩:=Dx KC hv
 have hl:=IT (x0%(most+1))
 have M7:(bU ((x0%(most+1):Nat):Int) (oT flex ((x0%(most+1):Nat):Int)) sf t).length<=fq:=by simp only[r5]at hl;simp only[fq];omega
 have e:=pm_part (ver:=((x0%(most+1):Nat):Int)) (fx:=oT flex ((x0%(most+1):Nat):Int)) sf t
 have Pe:=e.symm ▸ hl
 have ha:=e ▸ wX h2 h1 (trPm sf t) Pe
 refine ze L (by simpa using hU) hfn hx hx2 ht herr rfl M7 ⟨⟨_,hv,rfl⟩,M7,?_,fun bs MY=>?_⟩ ha fun j hj=>?_
 ·obtain⟨v,nl,e1,_⟩:=qk h2 h1 (trPm sf t) Pe
  rw[e]at e1
  rw[e1]
  intro hh
  cases hh
 ·rw[ha]at MY
  rw[<- Option.some.inj MY]
  exact M7
 ·obtain⟨c1,c2⟩:=e ▸ Cd h2 h1 MS hh (trPm sf t) Pe j (e.symm ▸ hj)
  refine⟨⟨⟨_,hv,rfl⟩,by rw[List.length_take];omega,c1,fun bs MY=>?_⟩,c2⟩
  rw[c2]at MY
  cases MY
end
end Go.Proofs.YtnpdpnmomihkkaaGreatDoor.Kx
