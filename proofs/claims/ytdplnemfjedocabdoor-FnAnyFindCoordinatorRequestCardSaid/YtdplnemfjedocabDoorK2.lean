/-
  PLAIN LAWS AND CONTRACTS of messages, part 2 of 14: how readers and writers are printed, what they do, what the reference writes, and that what is written is read as the same. Nothing of a statement stands here.
-/
import Derived.Test.YtdplnemfjedocabDoorK1

namespace Go.Proofs.YtdplnemfjedocabDoor.Kx
def BIG:Nat:=33554432
structure RW {α:Type} (f:RS->Out α) (w:α->Bs):Prop where
 bad:∀ r v r',f r=.ok v r'->r'.bad=false->r.bad=false
 le:∀ r v r',f r=.ok v r'->r'.src.length<=r.src.length
 len:∀ r v r',f r=.ok v r'->r'.bad=false->(w v).length + r'.src.length<=r.src.length
 again:∀ r v r',f r=.ok v r'->r'.bad=false->∀ rest nl,(nl=true->w v++rest=[])->(w v++rest).length<=BIG->∃ v',f ⟨w v++rest,false,nl⟩=.ok v' ⟨rest,false,nl⟩/\w v'=w v
 go:∀ r,r.src.length<=BIG->f r ≠ .stuck
theorem u8n {m:Nat} (h:m < 256):(UInt8.ofNat m).toNat=m:=UInt8.toNat_ofNat_of_lt (by simpa using h)
theorem qz_ (k:Nat) (x:Int):(be k x).length=k:=by
 induction k with
 | zero=>rfl
 | succ k ih=>simp only [be,List.length_cons,ih]
theorem foldl_unbe (l:Bs) (acc:Nat):l.foldl (fun a b=>a * 256 + b.toNat) acc=acc * 256 ^ l.length + unbe l:=by
 induction l generalizing acc with
 | nil=>simp [unbe]
 | cons b l ih=>
  simp only [List.foldl_cons,List.length_cons,unbe]
  rw [ih,ih (0 * 256 + b.toNat)]
  simp only [Nat.zero_mul,Nat.zero_add,Nat.pow_succ,Nat.add_mul]
  rw [Nat.mul_assoc,Nat.mul_comm 256,Nat.add_assoc]
theorem unbe_cons' (b:UInt8) (l:Bs):unbe (b :: l)=b.toNat * 256 ^ l.length + unbe l:=by
 show (b :: l).foldl (fun a b=>a * 256 + b.toNat) 0=_
 rw [List.foldl_cons,foldl_unbe]
 simp
theorem unbe_be (k:Nat) (x:Int):(unbe (be k x):Int)=x % 256 ^ k:=by
 induction k with
 | zero=>simp [be,unbe]
 | succ k ih=>
  simp only [be]
  rw [unbe_cons',qz_]
  have h0:(0:Int)<=x / 256 ^ k % 256:=Int.emod_nonneg _ (by omega)
  have h1:x / 256 ^ k % 256 < 256:=Int.emod_lt_of_pos _ (by omega)
  have e1:(UInt8.ofNat (x / 256 ^ k % 256).toNat).toNat=(x / 256 ^ k % 256).toNat:=u8n (by omega)
  rw [e1,Int.natCast_add,Int.natCast_mul,Int.natCast_pow,ih,Int.toNat_of_nonneg h0]
  show x / 256 ^ k % 256 * 256 ^ k + x % 256 ^ k=_
  have hp:(0:Int) < 256 ^ k:=Int.pow_pos (by omega)
  rw [Int.pow_succ]
  have e2:x % (256 ^ k * 256)=x - 256 ^ k * 256 * (x / (256 ^ k * 256)):=Int.emod_def _ _
  have e3:x / (256 ^ k * 256)=x / 256 ^ k / 256:=(Int.ediv_ediv_of_nonneg (by omega)).symm
  have e4:x / 256 ^ k % 256=x / 256 ^ k - 256 * (x / 256 ^ k / 256):=Int.emod_def _ _
  have e5:x % 256 ^ k=x - 256 ^ k * (x / 256 ^ k):=Int.emod_def _ _
  rw [e2,e3,e4,e5,Int.sub_mul]
  have:256 ^ k * 256 * (x / 256 ^ k / 256)=256 * (x / 256 ^ k / 256) * 256 ^ k:=by
   rw [Int.mul_comm (256 ^ k) 256,Int.mul_assoc,Int.mul_comm (256 ^ k),<- Int.mul_assoc]
  rw [this,Int.mul_comm (256 ^ k) (x / 256 ^ k)]
  omega
theorem rU_be {k:Nat} {x:Nat} (h:x < 256 ^ k) (rest:Bs) (nl:Bool):rU k ⟨be k x++rest,false,nl⟩=(x,⟨rest,false,nl⟩):=by
 have hl:¬ ((be k x++rest).length < k):=by rw [List.length_append,qz_];omega
 have h1:(be k x++rest).take k=be k x:=by rw [List.take_append_of_le_length (by rw [qz_];omega),List.take_of_length_le (by rw [qz_];omega)]
 have h2:(be k x++rest).drop k=rest:=by rw [List.drop_append_of_le_length (by rw [qz_];omega),List.drop_of_length_le (by rw [qz_];omega)];rfl
 simp only [rU,if_neg hl,h1,h2]
 have:=unbe_be k x
 have h3:((x:Nat):Int) % 256 ^ k=x:=Int.emod_eq_of_lt (by omega) (by have:=Int.ofNat_lt.2 h;rw [Int.natCast_pow] at this;exact this)
 rw [h3] at this
 congr 1
 omega
theorem rI_be {k:Nat} (hk:k=1 \/ k=2 \/ k=4 \/ k=8) {x:Int} (h:-(2 ^ (8 * k - 1):Int)<=x/\x < 2 ^ (8 * k - 1)) (rest:Bs) (nl:Bool):rI k ⟨be k x++rest,false,nl⟩=(x,⟨rest,false,nl⟩):=by
 have e:be k x=be k ((x % 256 ^ k).toNat:Nat):=by
  have h0:0<=x % 256 ^ k:=Int.emod_nonneg _ (by have:=Int.pow_pos (n:=256) (m:=k) (by omega);omega)
  rw [Int.toNat_of_nonneg h0]
  apply List.ext_getElem?
  intro i
  have key:∀ (m:Nat) (j:Nat),j<=m->be j (x % 256 ^ m)=be j x:=by
   intro m j
   induction j with
   | zero=>intro _;rfl
   | succ j ih=>
    intro hj
    simp only [be]
    rw [ih (by omega)]
    congr 2
    have hp:(256:Int) ^ m=256 ^ j * (256 * 256 ^ (m - j - 1)):=by
     rw [<- Int.pow_succ',<- Int.pow_add]
     congr 1;omega
    rw [hp]
    have hk:(0:Int) < 256 ^ j:=Int.pow_pos (by omega)
    have e1:x % (256 ^ j * (256 * 256 ^ (m - j - 1)))=x + 256 ^ j * (-(256 * (256 ^ (m - j - 1) * (x / (256 ^ j * (256 * 256 ^ (m - j - 1))))))):=by
     rw [Int.emod_def,Int.mul_neg,<- Int.sub_eq_add_neg]
     simp only [Int.mul_assoc]
    rw [e1,Int.add_mul_ediv_left _ _ (by omega)]
    generalize 256 ^ (m - j - 1) * (x / (256 ^ j * (256 * 256 ^ (m - j - 1))))=t
    generalize x / 256 ^ j=y
    congr 1
    omega
  rw [key k k (Nat.le_refl _)]
 have hlt:(x % 256 ^ k).toNat < 256 ^ k:=by
  have h0:0<=x % 256 ^ k:=Int.emod_nonneg _ (by have:=Int.pow_pos (n:=256) (m:=k) (by omega);omega)
  have h1:x % 256 ^ k < 256 ^ k:=Int.emod_lt_of_pos _ (Int.pow_pos (by omega))
  have:((x % 256 ^ k).toNat:Int) < ((256 ^ k:Nat):Int):=by rw [Int.toNat_of_nonneg h0,Int.natCast_pow];exact h1
  exact Int.ofNat_lt.1 this
 rw [e]
 simp only [rI,rU_be hlt]
 congr 1
 rcases hk with rfl | rfl | rfl | rfl <;> simp only [sgn,Nat.reduceMul,Nat.reduceSub,Int.reducePow,Nat.reducePow] at h ⊢ <;> split <;> omega
theorem uvarAux_read:∀ (x:Nat),x < 4294967296->∀ rest:Bs,qv_ (uvar x++rest)=(x,((uvar x).length:Int)):=by
 intro x hx rest
 have t:∀ m,m < 128->(UInt8.ofNat (m + 128)).toNat=m + 128:=fun m hm=>u8n (by omega)
 have s:∀ m,m < 128->(UInt8.ofNat m).toNat=m:=fun m hm=>u8n (by omega)
 simp only [uvar,uvarAux]
 by_cases c1:x < 128
 ·simp [c1,qv_,s x c1]
 by_cases c2:x / 128 < 128
 ·have n1:¬ (x % 128 + 128 < 128):=by omega
  simp only [c1,c2,if_true,if_false,List.cons_append,List.nil_append,qv_,t _ (Nat.mod_lt x (by omega)),n1,s _ c2]
  simp;omega
 by_cases c3:x / 128 / 128 < 128
 ·have n1:¬ (x % 128 + 128 < 128):=by omega
  have n2:¬ (x / 128 % 128 + 128 < 128):=by omega
  simp only [c1,c2,c3,if_true,if_false,List.cons_append,List.nil_append,qv_,t _ (Nat.mod_lt x (by omega)),t _ (Nat.mod_lt (x / 128) (by omega)),n1,n2,s _ c3]
  simp;omega
 by_cases c4:x / 128 / 128 / 128 < 128
 ·have n1:¬ (x % 128 + 128 < 128):=by omega
  have n2:¬ (x / 128 % 128 + 128 < 128):=by omega
  have n3:¬ (x / 128 / 128 % 128 + 128 < 128):=by omega
  simp only [c1,c2,c3,c4,if_true,if_false,List.cons_append,List.nil_append,qv_,t _ (Nat.mod_lt x (by omega)),t _ (Nat.mod_lt (x / 128) (by omega)),t _ (Nat.mod_lt (x / 128 / 128) (by omega)),n1,n2,n3,s _ c4]
  simp;omega
 have c5:x / 128 / 128 / 128 / 128 < 128:=by omega
 have c6:x / 128 / 128 / 128 / 128<=15:=by omega
 have n1:¬ (x % 128 + 128 < 128):=by omega
 have n2:¬ (x / 128 % 128 + 128 < 128):=by omega
 have n3:¬ (x / 128 / 128 % 128 + 128 < 128):=by omega
 have n4:¬ (x / 128 / 128 / 128 % 128 + 128 < 128):=by omega
 simp only [c1,c2,c3,c4,c5,if_true,if_false,List.cons_append,List.nil_append,qv_,t _ (Nat.mod_lt x (by omega)),t _ (Nat.mod_lt (x / 128) (by omega)),t _ (Nat.mod_lt (x / 128 / 128) (by omega)),t _ (Nat.mod_lt (x / 128 / 128 / 128) (by omega)),n1,n2,n3,n4,s _ c5,c6]
 simp;omega
theorem jl_ (x:Nat):0 < (uvar x).length:=by
 simp only [uvar,uvarAux]
 split <;> simp
theorem rUv_uvar {x:Nat} (h:x < 4294967296) (rest:Bs) (nl:Bool):rUv ⟨uvar x++rest,false,nl⟩=(x,⟨rest,false,nl⟩):=by
 have h1:=uvarAux_read x h rest
 have h2:=jl_ x
 have h3:¬ (((uvar x).length:Int)<=0):=by omega
 simp only [rUv,h1,if_neg h3,Int.toNat_natCast]
 rw [List.drop_append_of_le_length (Nat.le_refl _),List.drop_of_length_le (Nat.le_refl _)]
 rfl
theorem uvar_len (x:Nat) (h:x < 4294967296):(uvar x).length=if x < 128 then 1 else if x < 16384 then 2 else if x < 2097152 then 3 else if x < 268435456 then 4 else 5:=by
 simp only [uvar,uvarAux]
 by_cases c1:x < 128
 ·simp [c1]
 by_cases c2:x / 128 < 128
 ·have:x < 16384:=by omega
  simp [c1,c2,this]
 by_cases c3:x / 128 / 128 < 128
 ·have a:¬ x < 16384:=by omega
  have b:x < 2097152:=by omega
  simp [c1,c2,c3,a,b]
 by_cases c4:x / 128 / 128 / 128 < 128
 ·have a:¬ x < 16384:=by omega
  have b:¬ x < 2097152:=by omega
  have c:x < 268435456:=by omega
  simp [c1,c2,c3,c4,a,b,c]
 have a:¬ x < 16384:=by omega
 have b:¬ x < 2097152:=by omega
 have c:¬ x < 268435456:=by omega
 have c5:x / 128 / 128 / 128 / 128 < 128:=by omega
 simp [c1,c2,c3,c4,c5,a,b,c]
theorem uvar_mono {x y:Nat} (h:x<=y) (hy:y < 4294967296):(uvar x).length<=(uvar y).length:=by
 rw [uvar_len x (by omega),uvar_len y hy]
 repeat' split
 all_goals omega
theorem uvRead_spec (l:Bs):(qv_ l).2<=0 \/ ((qv_ l).1 < 4294967296/\((uvar (qv_ l).1).length:Int)<=(qv_ l).2/\(qv_ l).2<=l.length):=by
 have hb:∀ b:UInt8,b.toNat < 256:=fun b=>b.toNat_lt
 unfold qv_
 cases l with
 | nil=>left;simp
 | cons a l=>
  simp only
  have ha:=hb a
  split
  ·right;rw [uvar_len _ (by omega)];simp;split <;> omega
  ·cases l with
   | nil=>left;simp
   | cons b l=>
    simp only
    have hb':=hb b
    split
    ·right;rw [uvar_len _ (by omega)];refine ⟨by omega,?_,by simp;omega⟩;repeat' split
     all_goals simp
     all_goals omega
    ·cases l with
     | nil=>left;simp
     | cons c l=>
      simp only
      have hc:=hb c
      split
      ·right;rw [uvar_len _ (by omega)];refine ⟨by omega,?_,by simp;omega⟩;repeat' split
       all_goals simp
       all_goals omega
      ·cases l with
       | nil=>left;simp
       | cons d l=>
        simp only
        have hd:=hb d
        split
        ·right;rw [uvar_len _ (by omega)];refine ⟨by omega,?_,by simp;omega⟩;repeat' split
         all_goals simp
         all_goals omega
        ·cases l with
         | nil=>left;simp
         | cons e l=>
          simp only
          split
          ·right;rw [uvar_len _ (by omega)];refine ⟨by omega,?_,by simp;omega⟩;repeat' split
           all_goals simp
          ·left;simp
theorem rUv_spec (r:RS):(rUv r).1 < 4294967296/\(rUv r).2.src.length<=r.src.length/\((rUv r).2.bad=false->r.bad=false/\(uvar (rUv r).1).length + (rUv r).2.src.length<=r.src.length/\(rUv r).2.nl=r.nl):=by
 unfold rUv
 rcases uvRead_spec r.src with h | ⟨h1,h2,h3⟩
 ·rw [if_pos h];simp [RS.fail]
 ·have hp:=jl_ (qv_ r.src).1
  have hn:¬ (qv_ r.src).2<=0:=by omega
  rw [if_neg hn]
  simp only [List.length_drop]
  exact ⟨h1,by omega,fun hb=>⟨hb,by omega,trivial⟩⟩
theorem rU_spec (k:Nat) (r:RS):(rU k r).1 < 256 ^ k/\(rU k r).2.src.length<=r.src.length/\((rU k r).2.bad=false->r.bad=false/\k + (rU k r).2.src.length<=r.src.length/\(rU k r).2.nl=r.nl):=by
 unfold rU
 split
 ·refine ⟨?_,by simp [RS.fail],by simp [RS.fail]⟩
  exact Nat.pow_pos (by omega)
 ·rename_i h
  refine ⟨?_,by simp,fun hb=>⟨hb,by simp;omega,rfl⟩⟩
  have:∀ l:Bs,unbe l < 256 ^ l.length:=by
   intro l
   induction l with
   | nil=>simp [unbe]
   | cons b l ih=>
    rw [unbe_cons',List.length_cons,Nat.pow_succ]
    have hb:=b.toNat_lt
    have:b.toNat * 256 ^ l.length<=255 * 256 ^ l.length:=Nat.mul_le_mul_right _ (by omega)
    omega
  have h2:=this (r.src.take k)
  rwa [List.length_take,Nat.min_eq_left (by omega)] at h2
theorem rI_spec (k:Nat) (r:RS):(rI k r).2.src.length<=r.src.length/\((rI k r).2.bad=false->r.bad=false/\k + (rI k r).2.src.length<=r.src.length/\(rI k r).2.nl=r.nl):=(rU_spec k r).2
theorem rI_rng {k:Nat} (hk:k=1 \/ k=2 \/ k=4 \/ k=8) (r:RS):-(2 ^ (8 * k - 1):Int)<=(rI k r).1/\(rI k r).1 < 2 ^ (8 * k - 1):=by
 have h:=(rU_spec k r).1
 show -(2 ^ (8 * k - 1):Int)<=sgn (8 * k) (rU k r).1/\sgn (8 * k) (rU k r).1 < 2 ^ (8 * k - 1)
 rcases hk with rfl | rfl | rfl | rfl <;> simp only [sgn,Nat.reduceMul,Nat.reduceSub,Int.reducePow,Nat.reducePow] at h ⊢ <;> split <;> omega
theorem rSpan_spec (k:Int) (r:RS):(qp_ k r).2.src.length<=r.src.length/\((qp_ k r).2.bad=false->r.bad=false/\0<=k/\((qp_ k r).1.octets.length:Int)<=k/\(qp_ k r).1.octets.length + (qp_ k r).2.src.length<=r.src.length/\(qp_ k r).2.nl=r.nl/\((qp_ k r).1=.nul \/ (qp_ k r).1=.s (qp_ k r).1.octets)):=by
 unfold qp_
 split
 ·simp [RS.fail]
 ·rename_i h
  refine ⟨by simp,fun hb=>⟨hb,by omega,?_,?_,rfl,?_⟩⟩
  ·cases r.nl
   ·simp [V.octets];omega
   ·simp [V.octets];omega
  ·cases r.nl
   ·simp [V.octets];omega
   ·simp [V.octets]
  ·cases r.nl
   ·right;simp [V.octets]
   ·left;simp
theorem rSpan_app (l rest:Bs):qp_ (l.length:Nat) ⟨l++rest,false,false⟩=(.s l,⟨rest,false,false⟩):=by
 unfold qp_
 rw [if_neg (by simp;omega)]
 simp
end Go.Proofs.YtdplnemfjedocabDoor.Kx

namespace Go.Proofs.YtdplnemfjedocabDoor.Kx
def PfOk (p:PF):Prop:=∀ r v r',p.run r=(v,r')->r'.src.length<=r.src.length/\(r'.bad=false->r.bad=false/\0 < (p.wr v).length/\(p.wr v).length + r'.src.length<=r.src.length /\
 ∀ rest,∃ v',p.run ⟨p.wr v++rest,false,false⟩=(v',⟨rest,false,false⟩)/\p.wr v'=p.wr v)
theorem pf_num {p:PF} {k:Nat} (hk:k=1 \/ k=2 \/ k=4 \/ k=8) (hrun:∀ r,p.run r=(.n (rI k r).1,(rI k r).2)) (hwr:∀ x,p.wr (.n x)=be k x):PfOk p:=by
 intro r v r' hr
 rw [hrun,Prod.mk.injEq] at hr
 obtain ⟨rfl,rfl⟩:=hr
 have h:=rI_spec k r
 refine ⟨h.1,fun hb=>?_⟩
 obtain ⟨h1,h2,_⟩:=h.2 hb
 rw [hwr,qz_]
 refine ⟨h1,by omega,h2,fun rest=>⟨.n (rI k r).1,?_,hwr _⟩⟩
 rw [hrun,rI_be hk (rI_rng hk r)]
theorem txt_fix {kk:Nat} (hk:kk=2 \/ kk=4) (r:RS):(qp_ (rI kk r).1 (rI kk r).2).2.src.length<=r.src.length/\((qp_ (rI kk r).1 (rI kk r).2).2.bad=false->r.bad=false /\
  kk + (qp_ (rI kk r).1 (rI kk r).2).1.octets.length + (qp_ (rI kk r).1 (rI kk r).2).2.src.length<=r.src.length /\
  ∀ rest,rI kk ⟨be kk ((qp_ (rI kk r).1 (rI kk r).2).1.octets.length:Nat)++rest,false,false⟩=((((qp_ (rI kk r).1 (rI kk r).2).1.octets.length:Nat):Int),(⟨rest,false,false⟩:RS))):=by
 have h1:=rI_spec kk r
 have h2:=rSpan_spec (rI kk r).1 (rI kk r).2
 have hkk:kk=1 \/ kk=2 \/ kk=4 \/ kk=8:=by omega
 have h3:=rI_rng hkk r
 refine ⟨by omega,fun hb=>?_⟩
 obtain ⟨b1,k0,ol,os,_,_⟩:=h2.2 hb
 obtain ⟨b0,l0,_⟩:=h1.2 b1
 refine ⟨b0,by omega,fun rest=>rI_be hkk ?_ rest false⟩
 rcases hk with rfl | rfl <;> simp only [Nat.reduceMul,Nat.reduceSub,Int.reducePow] at h3 ⊢ <;> omega
theorem txt_uv (r:RS):(qp_ ((rUv r).1 - 1:Int) (rUv r).2).2.src.length<=r.src.length/\((qp_ ((rUv r).1 - 1:Int) (rUv r).2).2.bad=false->r.bad=false /\
  (uvar (w32 ((qp_ ((rUv r).1 - 1:Int) (rUv r).2).1.octets.length + 1))).length + (qp_ ((rUv r).1 - 1:Int) (rUv r).2).1.octets.length + (qp_ ((rUv r).1 - 1:Int) (rUv r).2).2.src.length<=r.src.length /\
  ∀ rest,rUv ⟨uvar (w32 ((qp_ ((rUv r).1 - 1:Int) (rUv r).2).1.octets.length + 1))++rest,false,false⟩=((qp_ ((rUv r).1 - 1:Int) (rUv r).2).1.octets.length + 1,⟨rest,false,false⟩)):=by
 have h1:=rUv_spec r
 have h2:=rSpan_spec ((rUv r).1 - 1:Int) (rUv r).2
 refine ⟨by omega,fun hb=>?_⟩
 obtain ⟨b1,k0,ol,os,_,_⟩:=h2.2 hb
 obtain ⟨b0,l0,_⟩:=h1.2.2 b1
 have hw:w32 ((qp_ ((rUv r).1 - 1:Int) (rUv r).2).1.octets.length + 1)=(qp_ ((rUv r).1 - 1:Int) (rUv r).2).1.octets.length + 1:=by simp only [w32];omega
 rw [hw]
 have hm:=uvar_mono (x:=(qp_ ((rUv r).1 - 1:Int) (rUv r).2).1.octets.length + 1) (y:=(rUv r).1) (by omega) h1.1
 exact ⟨b0,by omega,fun rest=>rUv_uvar (by omega) rest false⟩
theorem j7_ (l rest:Bs) (k:Int) (hk:k=(l.length:Nat)):qp_ k ⟨l++rest,false,false⟩=(.s l,⟨rest,false,false⟩):=by subst hk;exact rSpan_app l rest
theorem rI_m1 {k:Nat} (hk:k=2 \/ k=4) (rest:Bs):rI k ⟨be k (-1)++rest,false,false⟩=(-1,⟨rest,false,false⟩):=by
 refine rI_be (by omega) ?_ rest false
 rcases hk with rfl | rfl <;> simp only [Nat.reduceMul,Nat.reduceSub,Int.reducePow] <;> omega
theorem pf_txt {p:PF} (h4:p=.str \/ p=.cstr):PfOk p:=by
 intro r v r' hr
 rcases h4 with rfl | rfl
 ·have er:∀ r,PF.str.run r=(.s (qp_ (rI 2 r).1 (rI 2 r).2).1.octets,(qp_ (rI 2 r).1 (rI 2 r).2).2):=fun _=>rfl
  have e:∀ o,PF.str.wr (.s o)=be 2 (o.length:Nat)++o:=fun _=>rfl
  rw [er,Prod.mk.injEq] at hr
  obtain ⟨rfl,rfl⟩:=hr
  have h:=txt_fix (kk:=2) (.inl rfl) r
  refine ⟨h.1,fun hb=>?_⟩
  obtain ⟨h1,h2,h3⟩:=h.2 hb
  generalize (qp_ (rI 2 r).1 (rI 2 r).2).1.octets=o at h2 h3 ⊢
  have el:(PF.str.wr (.s o)).length=2 + o.length:=by rw [e,List.length_append,qz_]
  refine ⟨h1,by omega,by omega,fun rest=>⟨.s o,?_,rfl⟩⟩
  have ea:PF.str.wr (.s o)++rest=be 2 (o.length:Nat)++(o++rest):=by rw [e,List.append_assoc]
  rw [ea,er,h3 (o++rest),j7_ o rest _ rfl]
  rfl
 ·have er:∀ r,PF.cstr.run r=(.s (qp_ ((rUv r).1 - 1:Int) (rUv r).2).1.octets,(qp_ ((rUv r).1 - 1:Int) (rUv r).2).2):=fun _=>rfl
  have e:∀ o,PF.cstr.wr (.s o)=uvar (w32 (o.length + 1))++o:=fun _=>rfl
  rw [er,Prod.mk.injEq] at hr
  obtain ⟨rfl,rfl⟩:=hr
  have h:=txt_uv r
  refine ⟨h.1,fun hb=>?_⟩
  obtain ⟨h1,h2,h3⟩:=h.2 hb
  generalize (qp_ ((rUv r).1 - 1:Int) (rUv r).2).1.octets=o at h2 h3 ⊢
  have hp:=jl_ (w32 (o.length + 1))
  have el:(PF.cstr.wr (.s o)).length=(uvar (w32 (o.length + 1))).length + o.length:=by rw [e,List.length_append]
  refine ⟨h1,by omega,by omega,fun rest=>⟨.s o,?_,rfl⟩⟩
  have ea:PF.cstr.wr (.s o)++rest=uvar (w32 (o.length + 1))++(o++rest):=by rw [e,List.append_assoc]
  rw [ea,er,h3 (o++rest),j7_ o rest _ (by push_cast;omega)]
  rfl
theorem pf_nstr:PfOk .nstr:=by
 intro r v r' hr
 have er:∀ r,PF.nstr.run r=if (rI 2 r).1 < 0 then (.nul,(rI 2 r).2) else (.s (qp_ (rI 2 r).1 (rI 2 r).2).1.octets,(qp_ (rI 2 r).1 (rI 2 r).2).2):=fun _=>rfl
 have e:∀ o,PF.nstr.wr (.s o)=be 2 (o.length:Nat)++o:=fun _=>rfl
 have e0:PF.nstr.wr .nul=be 2 (-1):=rfl
 rw [er] at hr
 split at hr
 ·rw [Prod.mk.injEq] at hr
  obtain ⟨rfl,rfl⟩:=hr
  have hI:=rI_spec 2 r
  refine ⟨hI.1,fun hb=>?_⟩
  obtain ⟨h1,h2,_⟩:=hI.2 hb
  rw [e0,qz_]
  refine ⟨h1,by omega,h2,fun rest=>⟨.nul,?_,e0⟩⟩
  rw [er,rI_m1 (.inl rfl),if_pos (by show (-1:Int) < 0;omega)]
 ·rw [Prod.mk.injEq] at hr
  obtain ⟨rfl,rfl⟩:=hr
  have h:=txt_fix (kk:=2) (.inl rfl) r
  refine ⟨h.1,fun hb=>?_⟩
  obtain ⟨h1,h2,h3⟩:=h.2 hb
  generalize (qp_ (rI 2 r).1 (rI 2 r).2).1.octets=o at h2 h3 ⊢
  have el:(PF.nstr.wr (.s o)).length=2 + o.length:=by rw [e,List.length_append,qz_]
  refine ⟨h1,by omega,by omega,fun rest=>⟨.s o,?_,rfl⟩⟩
  have ea:PF.nstr.wr (.s o)++rest=be 2 (o.length:Nat)++(o++rest):=by rw [e,List.append_assoc]
  rw [ea,er,h3 (o++rest),if_neg (by show ¬ (((o.length:Nat):Int) < 0);omega),j7_ o rest _ rfl]
  rfl
theorem pf_cnstr:PfOk .cnstr:=by
 intro r v r' hr
 have er:∀ r,PF.cnstr.run r=if ((rUv r).1 - 1:Int) < 0 then (.nul,(rUv r).2) else (.s (qp_ ((rUv r).1 - 1:Int) (rUv r).2).1.octets,(qp_ ((rUv r).1 - 1:Int) (rUv r).2).2):=fun _=>rfl
 have e:∀ o,PF.cnstr.wr (.s o)=uvar (w32 (o.length + 1))++o:=fun _=>rfl
 have e0:PF.cnstr.wr .nul=uvar 0:=rfl
 have l0:(uvar 0).length=1:=rfl
 rw [er] at hr
 split at hr
 ·rw [Prod.mk.injEq] at hr
  obtain ⟨rfl,rfl⟩:=hr
  have hI:=rUv_spec r
  refine ⟨hI.2.1,fun hb=>?_⟩
  obtain ⟨h1,h2,_⟩:=hI.2.2 hb
  have hp:=jl_ (rUv r).1
  rw [e0]
  refine ⟨h1,by omega,by omega,fun rest=>⟨.nul,?_,e0⟩⟩
  rw [er,rUv_uvar (by omega),if_pos (by show (((0:Nat):Int) - 1) < 0;omega)]
 ·rw [Prod.mk.injEq] at hr
  obtain ⟨rfl,rfl⟩:=hr
  have h:=txt_uv r
  refine ⟨h.1,fun hb=>?_⟩
  obtain ⟨h1,h2,h3⟩:=h.2 hb
  generalize (qp_ ((rUv r).1 - 1:Int) (rUv r).2).1.octets=o at h2 h3 ⊢
  have hp:=jl_ (w32 (o.length + 1))
  have el:(PF.cnstr.wr (.s o)).length=(uvar (w32 (o.length + 1))).length + o.length:=by rw [e,List.length_append]
  refine ⟨h1,by omega,by omega,fun rest=>⟨.s o,?_,rfl⟩⟩
  have ea:PF.cnstr.wr (.s o)++rest=uvar (w32 (o.length + 1))++(o++rest):=by rw [e,List.append_assoc]
  rw [ea,er,h3 (o++rest),if_neg (by show ¬ ((((o.length + 1:Nat)):Int) - 1 < 0);omega),j7_ o rest _ (by push_cast;omega)]
  rfl
theorem pf_bytes:PfOk .bytes:=by
 intro r v r' hr
 have er:∀ r,PF.bytes.run r=if (rI 4 r).1=-1 then (.s [],(rI 4 r).2) else qp_ (rI 4 r).1 (rI 4 r).2:=fun _=>rfl
 have e:∀ v:V,PF.bytes.wr v=be 4 (v.octets.length:Nat)++v.octets:=fun _=>rfl
 have again:∀ (o rest:Bs),(∀ rest,rI 4 ⟨be 4 (o.length:Nat)++rest,false,false⟩=(((o.length:Nat):Int),(⟨rest,false,false⟩:RS)))->PF.bytes.run ⟨(be 4 (o.length:Nat)++o)++rest,false,false⟩=(.s o,⟨rest,false,false⟩):=by
  intro o rest h3
  rw [List.append_assoc,er,h3 (o++rest),if_neg (by show ¬ (((o.length:Nat):Int)=-1);omega),j7_ o rest _ rfl]
 rw [er] at hr
 split at hr
 ·rw [Prod.mk.injEq] at hr
  obtain ⟨rfl,rfl⟩:=hr
  have hI:=rI_spec 4 r
  refine ⟨hI.1,fun hb=>?_⟩
  obtain ⟨h1,h2,_⟩:=hI.2 hb
  have el:(PF.bytes.wr (.s [])).length=4:=by rw [e,List.length_append,qz_];rfl
  exact ⟨h1,by omega,by omega,fun rest=>⟨.s [],again [] rest (fun rest=>rI_be (k:=4) (x:=0) (by omega) (by simp only [Nat.reduceMul,Nat.reduceSub,Int.reducePow];omega) rest false),rfl⟩⟩
 ·have h:=txt_fix (kk:=4) (.inr rfl) r
  rw [hr] at h
  refine ⟨h.1,fun hb=>?_⟩
  obtain ⟨h1,h2,h3⟩:=h.2 hb
  simp only at h2 h3
  have el:(PF.bytes.wr v).length=4 + v.octets.length:=by rw [e,List.length_append,qz_]
  exact ⟨h1,by omega,by omega,fun rest=>⟨.s v.octets,by rw [e];exact again _ rest h3,rfl⟩⟩
theorem pf_cbytes:PfOk .cbytes:=by
 intro r v r' hr
 have er:∀ r,PF.cbytes.run r=if ((rUv r).1 - 1:Int)=-1 then (.s [],(rUv r).2) else qp_ ((rUv r).1 - 1:Int) (rUv r).2:=fun _=>rfl
 have e:∀ v:V,PF.cbytes.wr v=uvar (w32 (v.octets.length + 1))++v.octets:=fun _=>rfl
 have again:∀ (o rest:Bs),(∀ rest,rUv ⟨uvar (w32 (o.length + 1))++rest,false,false⟩=(o.length + 1,⟨rest,false,false⟩))->PF.cbytes.run ⟨(uvar (w32 (o.length + 1))++o)++rest,false,false⟩=(.s o,⟨rest,false,false⟩):=by
  intro o rest h3
  rw [List.append_assoc,er,h3 (o++rest),if_neg (by show ¬ ((((o.length + 1:Nat)):Int) - 1=-1);omega),j7_ o rest _ (by push_cast;omega)]
 rw [er] at hr
 split at hr
 ·rw [Prod.mk.injEq] at hr
  obtain ⟨rfl,rfl⟩:=hr
  have hI:=rUv_spec r
  refine ⟨hI.2.1,fun hb=>?_⟩
  obtain ⟨h1,h2,_⟩:=hI.2.2 hb
  have hp:=jl_ (rUv r).1
  have el:(PF.cbytes.wr (.s [])).length=1:=rfl
  exact ⟨h1,by omega,by omega,fun rest=>⟨.s [],again [] rest (fun rest=>rUv_uvar (x:=1) (by decide) rest false),rfl⟩⟩
 ·have h:=txt_uv r
  rw [hr] at h
  refine ⟨h.1,fun hb=>?_⟩
  obtain ⟨h1,h2,h3⟩:=h.2 hb
  simp only at h2 h3
  have hp:=jl_ (w32 (v.octets.length + 1))
  have el:(PF.cbytes.wr v).length=(uvar (w32 (v.octets.length + 1))).length + v.octets.length:=by rw [e,List.length_append]
  exact ⟨h1,by omega,by omega,fun rest=>⟨.s v.octets,by rw [e];exact again _ rest h3,rfl⟩⟩
theorem pf_nbytes:PfOk .nbytes:=by
 intro r v r' hr
 have er:∀ r,PF.nbytes.run r=if (rI 4 r).1 < 0 then (.nul,(rI 4 r).2) else qp_ (rI 4 r).1 (rI 4 r).2:=fun _=>rfl
 have e:∀ o,PF.nbytes.wr (.s o)=be 4 (o.length:Nat)++o:=fun _=>rfl
 have e0:PF.nbytes.wr .nul=be 4 (-1):=rfl
 have nul:∀ rest,PF.nbytes.run ⟨PF.nbytes.wr .nul++rest,false,false⟩=(.nul,⟨rest,false,false⟩):=fun rest=>by
  rw [e0,er,rI_m1 (.inr rfl),if_pos (by show (-1:Int) < 0;omega)]
 rw [er] at hr
 split at hr
 ·rw [Prod.mk.injEq] at hr
  obtain ⟨rfl,rfl⟩:=hr
  have hI:=rI_spec 4 r
  refine ⟨hI.1,fun hb=>?_⟩
  obtain ⟨h1,h2,_⟩:=hI.2 hb
  have el:(PF.nbytes.wr .nul).length=4:=by rw [e0,qz_]
  exact ⟨h1,by omega,by omega,fun rest=>⟨.nul,nul rest,rfl⟩⟩
 ·have h:=txt_fix (kk:=4) (.inr rfl) r
  have hS:=rSpan_spec (rI 4 r).1 (rI 4 r).2
  rw [hr] at h hS
  refine ⟨h.1,fun hb=>?_⟩
  obtain ⟨h1,h2,h3⟩:=h.2 hb
  obtain ⟨_,_,_,_,_,hform⟩:=hS.2 hb
  simp only at h2 h3 hform
  rcases hform with hf | hf
  ·rw [hf] at h2 ⊢
   have el:(PF.nbytes.wr .nul).length=4:=by rw [e0,qz_]
   exact ⟨h1,by omega,by omega,fun rest=>⟨.nul,nul rest,rfl⟩⟩
  ·generalize v.octets=o at h2 h3 hf
   subst hf
   have el:(PF.nbytes.wr (.s o)).length=4 + o.length:=by rw [e,List.length_append,qz_]
   refine ⟨h1,by omega,by omega,fun rest=>⟨.s o,?_,rfl⟩⟩
   have ea:PF.nbytes.wr (.s o)++rest=be 4 (o.length:Nat)++(o++rest):=by rw [e,List.append_assoc]
   rw [ea,er,h3 (o++rest),if_neg (by show ¬ (((o.length:Nat):Int) < 0);omega),j7_ o rest _ rfl]
theorem pf_cnbytes:PfOk .cnbytes:=by
 intro r v r' hr
 have er:∀ r,PF.cnbytes.run r=if ((rUv r).1 - 1:Int) < 0 then (.nul,(rUv r).2) else qp_ ((rUv r).1 - 1:Int) (rUv r).2:=fun _=>rfl
 have e:∀ o,PF.cnbytes.wr (.s o)=uvar (w32 (o.length + 1))++o:=fun _=>rfl
 have e0:PF.cnbytes.wr .nul=uvar 0:=rfl
 have l0:(uvar 0).length=1:=rfl
 have nul:∀ rest,PF.cnbytes.run ⟨PF.cnbytes.wr .nul++rest,false,false⟩=(.nul,⟨rest,false,false⟩):=fun rest=>by
  rw [e0,er,rUv_uvar (by omega),if_pos (by show (((0:Nat):Int) - 1) < 0;omega)]
 rw [er] at hr
 split at hr
 ·rw [Prod.mk.injEq] at hr
  obtain ⟨rfl,rfl⟩:=hr
  have hI:=rUv_spec r
  refine ⟨hI.2.1,fun hb=>?_⟩
  obtain ⟨h1,h2,_⟩:=hI.2.2 hb
  have hp:=jl_ (rUv r).1
  have el:(PF.cnbytes.wr .nul).length=1:=rfl
  exact ⟨h1,by omega,by omega,fun rest=>⟨.nul,nul rest,rfl⟩⟩
 ·have h:=txt_uv r
  have hS:=rSpan_spec ((rUv r).1 - 1:Int) (rUv r).2
  rw [hr] at h hS
  refine ⟨h.1,fun hb=>?_⟩
  obtain ⟨h1,h2,h3⟩:=h.2 hb
  obtain ⟨_,_,_,_,_,hform⟩:=hS.2 hb
  simp only at h2 h3 hform
  rcases hform with hf | hf
  ·have hp:=jl_ (w32 (v.octets.length + 1))
   have el:(PF.cnbytes.wr .nul).length=1:=rfl
   rw [hf] at h2 ⊢
   rw [hf] at hp
   exact ⟨h1,by omega,by omega,fun rest=>⟨.nul,nul rest,rfl⟩⟩
  ·generalize v.octets=o at h2 h3 hf
   subst hf
   have hp:=jl_ (w32 (o.length + 1))
   have el:(PF.cnbytes.wr (.s o)).length=(uvar (w32 (o.length + 1))).length + o.length:=by rw [e,List.length_append]
   refine ⟨h1,by omega,by omega,fun rest=>⟨.s o,?_,rfl⟩⟩
   have ea:PF.cnbytes.wr (.s o)++rest=uvar (w32 (o.length + 1))++(o++rest):=by rw [e,List.append_assoc]
   rw [ea,er,h3 (o++rest),if_neg (by show ¬ ((((o.length + 1:Nat)):Int) - 1 < 0);omega),j7_ o rest _ (by push_cast;omega)]
theorem pf_bool:PfOk .bool:=by
 intro r v r' hr
 obtain ⟨src,bad,nl⟩:=r
 have e:∀ x,PF.bool.wr (.n x)=[if x=0 then 0 else 1]:=fun _=>rfl
 cases src with
 | nil=>
  obtain rfl:RS.fail=r':=congrArg Prod.snd hr
  exact ⟨by simp [RS.fail],by simp [RS.fail]⟩
 | cons b t=>
  have er:PF.bool.run ⟨b :: t,bad,nl⟩=(.n (if b.toNat=0 then 0 else 1),⟨t,bad,nl⟩):=rfl
  rw [er,Prod.mk.injEq] at hr
  obtain ⟨rfl,rfl⟩:=hr
  refine ⟨by simp,fun hb=>⟨hb,by simp [e],by rw [e];simp;omega,fun rest=>?_⟩⟩
  by_cases h:b.toNat=0
  ·rw [if_pos h]
   exact ⟨.n 0,rfl,rfl⟩
  ·rw [if_neg h]
   exact ⟨.n 1,rfl,rfl⟩
theorem pf_u16:PfOk .u16:=by
 intro r v r' hr
 have er:∀ r,PF.u16.run r=(.n ((rU 2 r).1:Nat),(rU 2 r).2):=fun _=>rfl
 have e:∀ x,PF.u16.wr (.n x)=be 2 x:=fun _=>rfl
 rw [er,Prod.mk.injEq] at hr
 obtain ⟨rfl,rfl⟩:=hr
 have h:=rU_spec 2 r
 refine ⟨h.2.1,fun hb=>?_⟩
 obtain ⟨h1,h2,_⟩:=h.2.2 hb
 have el:(PF.u16.wr (.n ((rU 2 r).1:Nat))).length=2:=by rw [e,qz_]
 refine ⟨h1,by omega,by omega,fun rest=>⟨.n ((rU 2 r).1:Nat),?_,rfl⟩⟩
 rw [e,er,rU_be h.1]
theorem pf_uuid:PfOk .uuid:=by
 intro r v r' hr
 have er:∀ r,PF.uuid.run r=if r.src.length < 16 then (.s (List.replicate 16 0),.fail) else (.s (r.src.take 16),⟨r.src.drop 16,r.bad,r.nl⟩):=fun _=>rfl
 have e:∀ o,PF.uuid.wr (.s o)=o:=fun _=>rfl
 rw [er] at hr
 split at hr
 ·rw [Prod.mk.injEq] at hr
  obtain ⟨_,rfl⟩:=hr
  exact ⟨by simp [RS.fail],by simp [RS.fail]⟩
 ·rename_i hl
  rw [Prod.mk.injEq] at hr
  obtain ⟨rfl,rfl⟩:=hr
  have hlen:(r.src.take 16).length=16:=by rw [List.length_take];omega
  refine ⟨by simp,fun hb=>⟨hb,by rw [e];omega,by rw [e,hlen,List.length_drop];omega,fun rest=>⟨.s (r.src.take 16),?_,rfl⟩⟩⟩
  generalize r.src.take 16=o at hlen
  rw [e,er,if_neg (by rw [List.length_append];omega)]
  simp only
  rw [List.take_append_of_le_length (by omega),List.take_of_length_le (by omega),List.drop_append_of_le_length (by omega),List.drop_of_length_le (by omega)]
  rfl
theorem pf_ok:∀ p:PF,PfOk p
 | .bool=>pf_bool
 | .i8=>pf_num (k:=1) (by omega) (fun _=>rfl) (fun _=>rfl)
 | .i16=>pf_num (k:=2) (by omega) (fun _=>rfl) (fun _=>rfl)
 | .i32=>pf_num (k:=4) (by omega) (fun _=>rfl) (fun _=>rfl)
 | .i64=>pf_num (k:=8) (by omega) (fun _=>rfl) (fun _=>rfl)
 | .u16=>pf_u16
 | .uuid=>pf_uuid
 | .str=>pf_txt (.inl rfl)
 | .cstr=>pf_txt (.inr rfl)
 | .nstr=>pf_nstr
 | .cnstr=>pf_cnstr
 | .bytes=>pf_bytes
 | .cbytes=>pf_cbytes
 | .nbytes=>pf_nbytes
 | .cnbytes=>pf_cnbytes
theorem rw_pf (p:PF):RW (fun r=>.ok (p.run r).1 (p.run r).2) p.wr:=by
 have key:∀ r v r',Out.ok (p.run r).1 (p.run r).2=Out.ok v r'->r'.src.length<=r.src.length/\(r'.bad=false->r.bad=false/\0 < (p.wr v).length/\(p.wr v).length + r'.src.length<=r.src.length /\
   ∀ rest,∃ v',p.run ⟨p.wr v++rest,false,false⟩=(v',⟨rest,false,false⟩)/\p.wr v'=p.wr v):=fun r v r' h=>by
  injection h with h1 h2
  exact pf_ok p r v r' (Prod.ext h1 h2)
 refine ⟨fun r v r' h hb=>((key r v r' h).2 hb).1,fun r v r' h=>(key r v r' h).1,fun r v r' h hb=>((key r v r' h).2 hb).2.2.1,fun r v r' h hb rest nl hnl _=>?_,fun r _ h=>by cases h⟩
 obtain ⟨_,h1,_,h2⟩:=(key r v r' h).2 hb
 have hnl':nl=false:=by
  cases nl with
  | false=>rfl
  | true=>
   have:=hnl rfl
   rw [List.append_eq_nil_iff] at this
   rw [this.1] at h1
   simp at h1
 subst hnl'
 obtain ⟨v',h3,h4⟩:=h2 rest
 exact ⟨v',by simp only [h3],h4⟩
theorem pf_pos {p:PF} {r r':RS} {v:V} (h:p.run r=(v,r')) (hb:r'.bad=false):0 < (p.wr v).length:=((pf_ok p r v r' h).2 hb).2.1
end Go.Proofs.YtdplnemfjedocabDoor.Kx

namespace Go.Proofs.YtdplnemfjedocabDoor.Kx
def TagOk (p:Nat × Bs):Prop:=p.1 < 4294967296/\p.2.length < 4294967296
theorem wTags_cons (p:Nat × Bs) (t:List (Nat × Bs)):jy_ (p :: t)=wTag p++jy_ t:=rfl
theorem wTag_len (p:Nat × Bs):(wTag p).length=(uvar p.1).length + ((uvar (w32 p.2.length)).length + p.2.length):=by simp [wTag]
theorem setTag_mem (k:Nat) (v:Bs):∀ (t:List (Nat × Bs)),∀ y ∈ jd_ k v t,y=(k,v) \/ y ∈ t
 | [],y,hy=>by simp [jd_] at hy;exact .inl hy
 | (j,u) :: r,y,hy=>by
  unfold jd_ at hy
  split at hy
  ·rcases List.mem_cons.1 hy with rfl | hy
   ·exact .inl rfl
   ·exact .inr hy
  ·split at hy
   ·rcases List.mem_cons.1 hy with rfl | hy
    ·exact .inl rfl
    ·exact .inr (List.mem_cons_of_mem _ hy)
   ·rcases List.mem_cons.1 hy with rfl | hy
    ·exact .inr (List.mem_cons_self ..)
    ·rcases setTag_mem k v r y hy with h | h
     ·exact .inl h
     ·exact .inr (List.mem_cons_of_mem _ h)
theorem setTag_len (k:Nat) (v:Bs):∀ (t:List (Nat × Bs)),(jd_ k v t).length<=t.length + 1/\(jy_ (jd_ k v t)).length<=(jy_ t).length + (wTag (k,v)).length
 | []=>by simp [jd_,jy_]
 | (j,u) :: r=>by
  have ih:=setTag_len k v r
  unfold jd_
  split
  ·simp only [wTags_cons,List.length_append,List.length_cons];omega
  ·split
   ·simp only [wTags_cons,List.length_append,List.length_cons];omega
   ·simp only [wTags_cons,List.length_append,List.length_cons];omega
theorem setTag_last (k:Nat) (v:Bs):∀ (t:List (Nat × Bs)),(∀ y ∈ t,y.1 < k)->jd_ k v t=t++[(k,v)]
 | [],_=>rfl
 | (j,u) :: r,h=>by
  have hj:=h (j,u) (List.mem_cons_self ..)
  simp only at hj
  unfold jd_
  rw [if_neg (by omega),if_neg (by omega),setTag_last k v r fun y hy=>h y (List.mem_cons_of_mem _ hy)]
  rfl
theorem rTags_spec:∀ (n:Nat) (acc:List (Nat × Bs)) (r:RS),(jo_ n acc r).2.src.length<=r.src.length/\((jo_ n acc r).2.bad=false->r.bad=false/\(jy_ (jo_ n acc r).1).length + (jo_ n acc r).2.src.length<=(jy_ acc).length + r.src.length /\
  (jo_ n acc r).1.length<=acc.length + n/\(Rising acc->Rising (jo_ n acc r).1)/\((∀ y ∈ acc,TagOk y)->∀ y ∈ (jo_ n acc r).1,TagOk y))
 | 0,acc,r=>⟨Nat.le_refl _,fun hb=>⟨hb,Nat.le_refl _,Nat.le_refl _,id,id⟩⟩
 | n + 1,acc,r=>by
  have h1:=rUv_spec r
  have h2:=rUv_spec (rUv r).2
  have h3:=rSpan_spec (rUv (rUv r).2).1 (rUv (rUv r).2).2
  have ih:=rTags_spec n (jd_ (rUv r).1 (qp_ (rUv (rUv r).2).1 (rUv (rUv r).2).2).1.octets acc) (qp_ (rUv (rUv r).2).1 (rUv (rUv r).2).2).2
  simp only [jo_]
  refine ⟨by omega,fun hb=>?_⟩
  obtain ⟨b3,l3,n3,r3,t3⟩:=ih.2 hb
  obtain ⟨b2,k0,o1,o2,_,_⟩:=h3.2 b3
  obtain ⟨b1,c1,_⟩:=h2.2.2 b2
  obtain ⟨b0,c0,_⟩:=h1.2.2 b1
  have hset:=setTag_len (rUv r).1 (qp_ (rUv (rUv r).2).1 (rUv (rUv r).2).2).1.octets acc
  have hw:=wTag_len ((rUv r).1,(qp_ (rUv (rUv r).2).1 (rUv (rUv r).2).2).1.octets)
  have hw32:w32 (qp_ (rUv (rUv r).2).1 (rUv (rUv r).2).2).1.octets.length=(qp_ (rUv (rUv r).2).1 (rUv (rUv r).2).2).1.octets.length:=by simp only [w32];omega
  simp only [hw32] at hw
  have hm:=uvar_mono (x:=(qp_ (rUv (rUv r).2).1 (rUv (rUv r).2).2).1.octets.length) (y:=(rUv (rUv r).2).1) (by omega) h2.1
  refine ⟨b0,by omega,by omega,fun hr=>r3 (setTag_rising _ _ _ hr),fun ht=>t3 fun y hy=>?_⟩
  rcases setTag_mem _ _ _ y hy with rfl | hy
  ·exact ⟨h1.1,by show (qp_ (rUv (rUv r).2).1 (rUv (rUv r).2).2).1.octets.length < _;omega⟩
  ·exact ht y hy
theorem rising_pw:∀ {l:List (Nat × Bs)},Rising l->l.Pairwise fun a b=>a.1 < b.1
 | [],_=>List.Pairwise.nil
 | _x :: _l,h=>List.Pairwise.cons (rising_lt h) (rising_pw (rising_tail h))
theorem rTags_again:∀ (t acc:List (Nat × Bs)) (rest:Bs),(acc++t).Pairwise (fun a b=>a.1 < b.1)->(∀ y ∈ t,TagOk y)->jo_ t.length acc ⟨jy_ t++rest,false,false⟩=(acc++t,⟨rest,false,false⟩)
 | [],acc,rest,_,_=>by simp [jo_,jy_]
 | (k,v) :: t,acc,rest,hp,hok=>by
  have hkv:=hok (k,v) (List.mem_cons_self ..)
  have hv32:v.length < 4294967296:=hkv.2
  have hw32:w32 v.length=v.length:=by simp only [w32];omega
  have e1:jy_ ((k,v) :: t)++rest=uvar k++(uvar v.length++(v++(jy_ t++rest))):=by simp [wTags_cons,wTag,hw32,List.append_assoc]
  have hlast:jd_ k v acc=acc++[(k,v)]:=setTag_last k v acc fun y hy=>(List.pairwise_append.1 hp).2.2 y hy (k,v) (List.mem_cons_self ..)
  show jo_ (t.length + 1) acc _=_
  simp only [jo_]
  rw [e1,rUv_uvar hkv.1,rUv_uvar hkv.2,j7_ v _ _ rfl]
  show jo_ t.length (jd_ k v acc) ⟨jy_ t++rest,false,false⟩=_
  rw [hlast,rTags_again t (acc++[(k,v)]) rest (by simpa using hp) fun y hy=>hok y (List.mem_cons_of_mem _ hy)]
  simp
theorem wCnt_t (n:Nat):wCnt true n=uvar (w32 (n + 1)):=rfl
theorem rLen_spec (fx:Bool) (r:RS):(j1_ fx r).2.src.length<=r.src.length/\((j1_ fx r).2.bad=false->r.bad=false/\(j1_ fx r).1 < 2147483648/\(j1_ fx r).1<=(j1_ fx r).2.src.length/\(wNull fx 4).length + (j1_ fx r).2.src.length<=r.src.length/\(wCnt fx 0).length + (j1_ fx r).2.src.length<=r.src.length /\
  (0 < (j1_ fx r).1->(wCnt fx (j1_ fx r).1.toNat).length + (j1_ fx r).2.src.length<=r.src.length)):=by
 cases fx with
 | true=>
  have h:=rUv_spec r
  unfold j1_
  simp only [if_true]
  split
  ·simp [RS.fail]
  ·rename_i hn
   refine ⟨h.2.1,fun hb=>?_⟩
   obtain ⟨b0,c0,_⟩:=h.2.2 hb
   have hp:=jl_ (rUv r).1
   have e0:(wNull true 4).length=1:=rfl
   have e1:(wCnt true 0).length=1:=rfl
   simp only at hn ⊢
   have hlt:jh_ (jh_ ((rUv r).1:Int) - 1) < 2147483648:=by simp only [jh_];omega
   refine ⟨b0,hlt,by omega,by omega,by omega,fun hpos=>?_⟩
   have hu:(jh_ (jh_ ((rUv r).1:Int) - 1)).toNat + 1=(rUv r).1:=by
    have:=h.1
    simp only [jh_] at hpos ⊢
    omega
   have e2:wCnt true (jh_ (jh_ ((rUv r).1:Int) - 1)).toNat=uvar (rUv r).1:=by
    rw [wCnt_t,hu]
    have:w32 (rUv r).1=(rUv r).1:=by simp only [w32];have:=h.1;omega
    rw [this]
   rw [e2];exact c0
 | false=>
  have h:=rI_spec 4 r
  have hr:=rI_rng (k:=4) (by omega) r
  simp only [Nat.reduceMul,Nat.reduceSub,Int.reducePow] at hr
  unfold j1_
  simp only [Bool.false_eq_true,if_false]
  split
  ·simp [RS.fail]
  ·rename_i hn
   refine ⟨h.1,fun hb=>?_⟩
   obtain ⟨b0,c0,_⟩:=h.2 hb
   have e0:(wNull false 4).length=4:=qz_ 4 _
   have e1:∀ n,(wCnt false n).length=4:=fun n=>qz_ 4 _
   have e2:=e1 (rI 4 r).1.toNat
   have e3:=e1 0
   exact ⟨b0,hr.2,by omega,by omega,by omega,fun _=>by omega⟩
theorem rLen_cnt (fx:Bool) {n:Nat} (hn:n < 2147483648) (rest:Bs) (hr:n<=rest.length):j1_ fx ⟨wCnt fx n++rest,false,false⟩=((n:Int),⟨rest,false,false⟩):=by
 cases fx with
 | true=>
  have e:wCnt true n=uvar (n + 1):=by
   rw [wCnt_t]
   have:w32 (n + 1)=n + 1:=by simp only [w32];omega
   rw [this]
  have hw:jh_ (jh_ ((n + 1:Nat):Int) - 1)=(n:Int):=by simp only [jh_];omega
  unfold j1_
  simp only [if_true]
  rw [e,rUv_uvar (by omega)]
  simp only [hw]
  rw [if_neg (by omega)]
 | false=>
  unfold j1_
  simp only [Bool.false_eq_true,if_false]
  have e:wCnt false n=be 4 (n:Nat):=rfl
  rw [e,rI_be (k:=4) (by omega) (by simp only [Nat.reduceMul,Nat.reduceSub,Int.reducePow];omega)]
  simp only
  rw [if_neg (by omega)]
theorem rLen_null (fx:Bool) (rest:Bs):j1_ fx ⟨wNull fx 4++rest,false,false⟩=(-1,⟨rest,false,false⟩):=by
 cases fx with
 | true=>
  have e:wNull true 4=uvar 0:=rfl
  unfold j1_
  simp only [if_true]
  rw [e,rUv_uvar (by omega)]
  have hw:jh_ (jh_ ((0:Nat):Int) - 1)=-1:=by simp only [jh_];omega
  simp only [hw]
  rw [if_neg (by omega)]
 | false=>
  unfold j1_
  simp only [Bool.false_eq_true,if_false]
  have e:wNull false 4=be 4 (-1):=rfl
  rw [e,rI_m1 (.inr rfl)]
  simp only
  rw [if_neg (by omega)]
theorem wCnt_pos (fx:Bool) (n:Nat):0 < (wCnt fx n).length:=by
 cases fx with
 | true=>exact jl_ _
 | false=>rw [show wCnt false n=be 4 (n:Nat) from rfl,qz_];omega
theorem wNull_pos (fx:Bool):0 < (wNull fx 4).length:=by
 cases fx with
 | true=>exact jl_ 0
 | false=>rw [show wNull false 4=be 4 (-1) from rfl,qz_];omega
def Pos (f:RS->Out V) (w:V->Bs):Prop:=∀ r v r',f r=.ok v r'->r'.bad=false->0 < (w v).length
theorem bind_ok {α β:Type} {x:Out α} {f:α->RS->Out β} {b:β} {r':RS} (h:x.bind f=.ok b r'):∃ a r,x=.ok a r/\f a r=.ok b r':=by
 cases x with
 | ok a r=>exact ⟨a,r,rfl,h⟩
 | err=>cases h
 | stuck=>cases h
theorem rw_many {f:RS->Out V} {w:V->Bs} (hf:RW f w) (hp:Pos f w):∀ (n:Nat),RW (rMany f n) (wMany w)/\(∀ r vs r',rMany f n r=.ok vs r'->vs.length=n/\(r'.bad=false->n<=(wMany w vs).length))
 | 0=>by
  have key:∀ r vs r',rMany f 0 r=.ok vs r'->vs=[]/\r'=r:=fun r vs r' h=>by
   simp only [rMany,Out.ok.injEq] at h
   exact ⟨h.1.symm,h.2.symm⟩
  refine ⟨⟨fun r v r' h hb=>?_,fun r v r' h=>?_,fun r v r' h hb=>?_,fun r v r' h hb rest nl _ _=>?_,fun r _ h=>by cases h⟩,fun r vs r' h=>?_⟩ <;> obtain ⟨rfl,rfl⟩:=key _ _ _ h
  ·exact hb
  ·exact Nat.le_refl _
  ·simp [wMany]
  ·exact ⟨[],rfl,rfl⟩
  ·exact ⟨rfl,fun _=>by simp⟩
 | n + 1=>by
  obtain ⟨ih,ihl⟩:=rw_many hf hp n
  have key:∀ r vs r',rMany f (n + 1) r=.ok vs r'->∃ v r1 vs',f r=.ok v r1/\rMany f n r1=.ok vs' r'/\vs=v :: vs':=fun r vs r' h=>by
   simp only [rMany] at h
   obtain ⟨v,r1,h1,h2⟩:=bind_ok h
   obtain ⟨vs',r2,h3,h4⟩:=bind_ok h2
   simp only [Out.ok.injEq] at h4
   obtain ⟨rfl,rfl⟩:=h4
   exact ⟨v,r1,vs',h1,h3,rfl⟩
  have hw:∀ v vs',wMany w (v :: vs')=w v++wMany w vs':=fun _ _=>rfl
  refine ⟨⟨fun r vs r' h hb=>?_,fun r vs r' h=>?_,fun r vs r' h hb=>?_,fun r vs r' h hb rest nl hnl hbig=>?_,fun r hr h=>?_⟩,fun r vs r' h=>?_⟩
  ·obtain ⟨v,r1,vs',h1,h2,rfl⟩:=key _ _ _ h
   exact hf.bad _ _ _ h1 (ih.bad _ _ _ h2 hb)
  ·obtain ⟨v,r1,vs',h1,h2,rfl⟩:=key _ _ _ h
   exact Nat.le_trans (ih.le _ _ _ h2) (hf.le _ _ _ h1)
  ·obtain ⟨v,r1,vs',h1,h2,rfl⟩:=key _ _ _ h
   have a:=hf.len _ _ _ h1 (ih.bad _ _ _ h2 hb)
   have b:=ih.len _ _ _ h2 hb
   rw [hw,List.length_append];omega
  ·obtain ⟨v,r1,vs',h1,h2,rfl⟩:=key _ _ _ h
   rw [hw,List.append_assoc] at hnl hbig
   obtain ⟨v2,h3,h4⟩:=hf.again _ _ _ h1 (ih.bad _ _ _ h2 hb) (wMany w vs'++rest) nl hnl hbig
   rw [List.length_append] at hbig
   obtain ⟨vs2,h5,h6⟩:=ih.again _ _ _ h2 hb rest nl (fun hh=>(List.append_eq_nil_iff.1 (hnl hh)).2) (by omega)
   refine ⟨v2 :: vs2,?_,by rw [hw,hw,h4,h6]⟩
   rw [hw,List.append_assoc]
   simp only [rMany,h3,Out.bind,h5]
  ·simp only [rMany] at h
   cases hv:f r with
   | err=>rw [hv] at h;cases h
   | stuck=>exact hf.go r hr hv
   | ok v r1=>
    rw [hv] at h
    simp only [Out.bind] at h
    have:=hf.le _ _ _ hv
    cases hvs:rMany f n r1 with
    | err=>rw [hvs] at h;cases h
    | stuck=>exact ih.go r1 (by omega) hvs
    | ok vs r2=>rw [hvs] at h;cases h
  ·obtain ⟨v,r1,vs',h1,h2,rfl⟩:=key _ _ _ h
   have a:=ihl _ _ _ h2
   refine ⟨by simp [a.1],fun hb=>?_⟩
   have b:=a.2 hb
   have c:=hp _ _ _ h1 (ih.bad _ _ _ h2 hb)
   rw [hw,List.length_append];omega
end Go.Proofs.YtdplnemfjedocabDoor.Kx

namespace Go.Proofs.YtdplnemfjedocabDoor.Kx
theorem nl_false {l rest:Bs} {nl:Bool} (h:nl=true->l++rest=[]) (hl:0 < l.length):nl=false:=by
 cases nl with
 | false=>rfl
 | true=>
  have:=(List.append_eq_nil_iff.1 (h rfl)).1
  rw [this] at hl
  simp at hl
theorem rw_list {fx:Bool} {ver:Int} {nul:Option Nat} {esz:Nat} {e:Ty} {old:V} (hold:old.isNul=true) (hesz:esz<=10000) (he:RW (rdTy fx ver e (dfTy 0 e)) (wrTy fx ver e)) (hp:Pos (rdTy fx ver e (dfTy 0 e)) (wrTy fx ver e)) :
  RW (rdTy fx ver (.list nul esz e) old) (wrTy fx ver (.list nul esz e))/\Pos (rdTy fx ver (.list nul esz e) old) (wrTy fx ver (.list nul esz e)):=by
 have er:∀ r,rdTy fx ver (.list nul esz e) old r=if (j1_ fx r).2.bad then .err else if !roomy (j1_ fx r).1 esz then .stuck else
   if (j1_ fx r).1<=0 then .ok (if nul.isSome && (decide ((j1_ fx r).1=0) || !nullable nul ver) then .l [] else .nul) (j1_ fx r).2
   else (rMany (rdTy fx ver e (dfTy 0 e)) (j1_ fx r).1.toNat (j1_ fx r).2).bind fun vs r=>.ok (.l vs) r:=fun r=>by simp only [rdTy,hold,Bool.not_true,Bool.false_eq_true,if_false]
 have ew:∀ v,wrTy fx ver (.list nul esz e) v=(if nul.isSome && v.isNul then wNull fx 4 else wCnt fx v.list.length)++wMany (wrTy fx ver e) v.list:=fun v=>by simp only [wrTy]
 have ew0:wrTy fx ver (.list nul esz e) (.l [])=wCnt fx 0:=by rw [ew];simp [V.isNul,V.list,wMany]
 have ewn:wrTy fx ver (.list nul esz e) .nul=if nul.isSome then wNull fx 4 else wCnt fx 0:=by rw [ew];simp [V.isNul,V.list,wMany]
 have ewl:∀ vs,wrTy fx ver (.list nul esz e) (.l vs)=wCnt fx vs.length++wMany (wrTy fx ver e) vs:=fun vs=>by rw [ew];simp [V.isNul,V.list]
 have roomyB:∀ (L:Int),L<=BIG->roomy L esz=true:=fun L hL=>by
  simp only [roomy,decide_eq_true_eq]
  simp only [BIG] at hL
  have h1:(24 * (esz:Int) + 8)<=240008:=by omega
  by_cases h0:L<=0
  ·have:L * (24 * (esz:Int) + 8)<=0:=Int.mul_nonpos_of_nonpos_of_nonneg h0 (by omega)
   omega
  ·have h2:L * (24 * (esz:Int) + 8)<=33554432 * 240008:=Int.mul_le_mul hL h1 (by omega) (by omega)
   omega
 have key:∀ r v r',rdTy fx ver (.list nul esz e) old r=.ok v r'->(j1_ fx r).2.bad=false/\(((j1_ fx r).1<=0/\r'=(j1_ fx r).2/\v=if nul.isSome && (decide ((j1_ fx r).1=0) || !nullable nul ver) then .l [] else .nul) \/
   (0 < (j1_ fx r).1/\∃ vs,rMany (rdTy fx ver e (dfTy 0 e)) (j1_ fx r).1.toNat (j1_ fx r).2=.ok vs r'/\v=.l vs)):=fun r v r' h=>by
  rw [er] at h
  split at h
  ·cases h
  ·rename_i hb
   refine ⟨by simpa using hb,?_⟩
   split at h
   ·cases h
   ·split at h
    ·rename_i hL
     simp only [Out.ok.injEq] at h
     exact .inl ⟨hL,h.2.symm,h.1.symm⟩
    ·rename_i hL
     obtain ⟨vs,r1,h1,h2⟩:=bind_ok h
     simp only [Out.ok.injEq] at h2
     obtain ⟨rfl,rfl⟩:=h2
     exact .inr ⟨by omega,vs,h1,rfl⟩
 have pos:Pos (rdTy fx ver (.list nul esz e) old) (wrTy fx ver (.list nul esz e)):=fun r v r' h hb=>by
  rw [ew,List.length_append]
  have a:=wNull_pos fx
  have b:=wCnt_pos fx v.list.length
  split <;> omega
 refine ⟨⟨fun r v r' h hb=>?_,fun r v r' h=>?_,fun r v r' h hb=>?_,fun r v r' h hb rest nl hnl hbig=>?_,fun r hr h=>?_⟩,pos⟩
 ·obtain ⟨hb1,_⟩:=key _ _ _ h
  exact ((rLen_spec fx r).2 hb1).1
 ·obtain ⟨hb1,h1 | ⟨hL,vs,h1,rfl⟩⟩:=key _ _ _ h
  ·rw [h1.2.1];exact (rLen_spec fx r).1
  ·exact Nat.le_trans ((rw_many he hp _).1.le _ _ _ h1) (rLen_spec fx r).1
 ·obtain ⟨hb1,h1 | ⟨hL,vs,h1,rfl⟩⟩:=key _ _ _ h
  ·obtain ⟨_,rfl,rfl⟩:=h1
   obtain ⟨_,_,_,h4,h5,_⟩:=(rLen_spec fx r).2 hb1
   split
   ·rw [ew0];exact h5
   ·rw [ewn];split
    ·exact h4
    ·exact h5
  ·obtain ⟨_,_,_,_,_,h6⟩:=(rLen_spec fx r).2 hb1
   have a:=(rw_many he hp _).1.len _ _ _ h1 hb
   have b:=((rw_many he hp _).2 _ _ _ h1).1
   have c:=h6 hL
   rw [ewl,b,List.length_append];omega
 ·have hnlf:=nl_false hnl (pos r v r' h hb)
  subst hnlf
  obtain ⟨hb1,h1 | ⟨hL,vs,h1,rfl⟩⟩:=key _ _ _ h
  ·obtain ⟨hL,rfl,rfl⟩:=h1
   have cnt:rdTy fx ver (.list nul esz e) old ⟨wCnt fx 0++rest,false,false⟩=.ok (if nul.isSome then .l [] else .nul) ⟨rest,false,false⟩:=by
    rw [er,rLen_cnt fx (n:=0) (by omega) rest (by omega)]
    simp only [Bool.false_eq_true,if_false,roomyB ((0:Nat):Int) (by simp [BIG]),Bool.not_true]
    simp
   by_cases hc:(nul.isSome && (decide ((j1_ fx r).1=0) || !nullable nul ver))=true
   ·rw [if_pos hc]
    have hs:nul.isSome=true:=by
     simp only [Bool.and_eq_true] at hc
     exact hc.1
    exact ⟨.l [],by rw [ew0,cnt,if_pos hs],rfl⟩
   ·rw [if_neg hc]
    by_cases hs:nul.isSome=true
    ·have hc2:nullable nul ver=true/\(j1_ fx r).1 ≠ 0:=by
      simp only [hs,Bool.true_and,Bool.or_eq_true,decide_eq_true_eq,Bool.not_eq_true',not_or] at hc
      exact ⟨by simpa using hc.2,hc.1⟩
     refine ⟨.nul,?_,rfl⟩
     rw [ewn,if_pos hs,er,rLen_null fx rest]
     simp only [Bool.false_eq_true,if_false,roomyB (-1) (by simp [BIG]),Bool.not_true,hc2.1]
     simp
    ·exact ⟨.nul,by rw [ewn,if_neg hs,cnt,if_neg hs],rfl⟩
  ·obtain ⟨_,hlt,_,_,_,_⟩:=(rLen_spec fx r).2 hb1
   obtain ⟨hlen,hge⟩:=(rw_many he hp _).2 _ _ _ h1
   have hge':=hge hb
   rw [ewl,List.append_assoc,List.length_append] at hbig
   have hroom:vs.length<=(wMany (wrTy fx ver e) vs++rest).length:=by rw [List.length_append];omega
   obtain ⟨vs2,h2,h3⟩:=(rw_many he hp _).1.again _ _ _ h1 hb rest false (by simp) (by omega)
   have hlen2:=((rw_many he hp _).2 _ _ _ h2).1
   refine ⟨.l vs2,?_,by rw [ewl,ewl,h3,hlen,hlen2]⟩
   rw [ewl,List.append_assoc,er,rLen_cnt fx (n:=vs.length) (by omega) _ hroom]
   simp only [Bool.false_eq_true,if_false,roomyB ((vs.length:Nat):Int) (by omega),Bool.not_true]
   rw [if_neg (by omega)]
   simp only [Int.toNat_natCast]
   rw [hlen,h2]
   rfl
 ·rw [er] at h
  split at h
  ·cases h
  ·rename_i hb
   obtain ⟨_,_,hle,_⟩:=(rLen_spec fx r).2 (by simpa using hb)
   have hl2:=(rLen_spec fx r).1
   rw [roomyB _ (by omega)] at h
   simp only [Bool.not_true,Bool.false_eq_true,if_false] at h
   split at h
   ·cases h
   ·cases hv:rMany (rdTy fx ver e (dfTy 0 e)) (j1_ fx r).1.toNat (j1_ fx r).2 with
    | err=>rw [hv] at h;cases h
    | stuck=>exact (rw_many he hp _).1.go _ (by omega) hv
    | ok vs r2=>rw [hv] at h;cases h
theorem rw_st {fx:Bool} {fields:RS->Out (List V)} {tag:Nat->Option (List V->RS->Out (List V))} {wF:List V->Bs} (hf:RW fields wF):RW (zg_ fx false fields tag) (fun v=>wF v.fields++j0_ fx v.tags):=by
 have er:∀ r,zg_ fx false fields tag r=(fields r).bind fun vs r=>if fx then .ok (.st vs (jo_ (rUv r).1 [] (rUv r).2).1) (jo_ (rUv r).1 [] (rUv r).2).2 else .ok (.st vs []) r:=fun r=>by
  simp only [zg_,Bool.false_eq_true,if_false]
  cases fx <;> rfl
 cases fx with
 | false=>
  have key:∀ r v r',zg_ false false fields tag r=.ok v r'->∃ vs,fields r=.ok vs r'/\v=.st vs []:=fun r v r' h=>by
   rw [er] at h
   obtain ⟨vs,r1,h1,h2⟩:=bind_ok h
   simp only [Bool.false_eq_true,if_false,Out.ok.injEq] at h2
   obtain ⟨rfl,rfl⟩:=h2
   exact ⟨vs,h1,rfl⟩
  have ew:∀ vs,wF (V.st vs []).fields++j0_ false (V.st vs []).tags=wF vs:=fun vs=>by simp [V.fields,j0_]
  refine ⟨fun r v r' h hb=>?_,fun r v r' h=>?_,fun r v r' h hb=>?_,fun r v r' h hb rest nl hnl hbig=>?_,fun r hr h=>?_⟩
  ·obtain ⟨vs,h1,rfl⟩:=key _ _ _ h;exact hf.bad _ _ _ h1 hb
  ·obtain ⟨vs,h1,rfl⟩:=key _ _ _ h;exact hf.le _ _ _ h1
  ·obtain ⟨vs,h1,rfl⟩:=key _ _ _ h;simp only [ew];exact hf.len _ _ _ h1 hb
  ·obtain ⟨vs,h1,rfl⟩:=key _ _ _ h
   simp only [ew] at hnl hbig ⊢
   obtain ⟨vs2,h2,h3⟩:=hf.again _ _ _ h1 hb rest nl hnl hbig
   refine ⟨.st vs2 [],?_,by simp only [ew];exact h3⟩
   rw [er,h2]
   rfl
  ·rw [er] at h
   cases hv:fields r with
   | err=>rw [hv] at h;cases h
   | stuck=>exact hf.go r hr hv
   | ok vs r1=>rw [hv] at h;cases h
 | true=>
  have key:∀ r v r',zg_ true false fields tag r=.ok v r'->∃ vs r1,fields r=.ok vs r1/\v=.st vs (jo_ (rUv r1).1 [] (rUv r1).2).1/\r'=(jo_ (rUv r1).1 [] (rUv r1).2).2:=fun r v r' h=>by
   rw [er] at h
   obtain ⟨vs,r1,h1,h2⟩:=bind_ok h
   simp only [if_true,Out.ok.injEq] at h2
   obtain ⟨rfl,rfl⟩:=h2
   exact ⟨vs,r1,h1,rfl,rfl⟩
  have tg:∀ r1:RS,(jo_ (rUv r1).1 [] (rUv r1).2).2.bad=false->r1.bad=false/\(uvar (w32 (jo_ (rUv r1).1 [] (rUv r1).2).1.length)).length + (jy_ (jo_ (rUv r1).1 [] (rUv r1).2).1).length + (jo_ (rUv r1).1 [] (rUv r1).2).2.src.length<=r1.src.length /\
    w32 (jo_ (rUv r1).1 [] (rUv r1).2).1.length=(jo_ (rUv r1).1 [] (rUv r1).2).1.length/\(jo_ (rUv r1).1 [] (rUv r1).2).1.length < 4294967296/\Rising (jo_ (rUv r1).1 [] (rUv r1).2).1/\∀ y ∈ (jo_ (rUv r1).1 [] (rUv r1).2).1,TagOk y:=fun r1 hb=>by
   have h1:=rUv_spec r1
   obtain ⟨b1,l1,n1,r2,t2⟩:=(rTags_spec (rUv r1).1 [] (rUv r1).2).2 hb
   obtain ⟨b0,c0,_⟩:=h1.2.2 b1
   have hw:w32 (jo_ (rUv r1).1 [] (rUv r1).2).1.length=(jo_ (rUv r1).1 [] (rUv r1).2).1.length:=by
    simp only [List.length_nil] at n1
    simp only [w32];have:=h1.1;omega
   have hm:=uvar_mono (x:=(jo_ (rUv r1).1 [] (rUv r1).2).1.length) (y:=(rUv r1).1) (by simpa using n1) h1.1
   have e0:(jy_ []).length=0:=rfl
   simp only [List.length_nil] at n1
   exact ⟨b0,by rw [hw];omega,hw,by have:=h1.1;omega,r2 trivial,t2 (by simp)⟩
  have ew:∀ vs t,wF (V.st vs t).fields++j0_ true (V.st vs t).tags=wF vs++(uvar (w32 t.length)++jy_ t):=fun vs t=>by simp [V.fields,V.tags,j0_]
  refine ⟨fun r v r' h hb=>?_,fun r v r' h=>?_,fun r v r' h hb=>?_,fun r v r' h hb rest nl hnl hbig=>?_,fun r hr h=>?_⟩
  ·obtain ⟨vs,r1,h1,rfl,rfl⟩:=key _ _ _ h;exact hf.bad _ _ _ h1 (tg r1 hb).1
  ·obtain ⟨vs,r1,h1,rfl,rfl⟩:=key _ _ _ h
   exact Nat.le_trans (rTags_spec _ _ _).1 (Nat.le_trans (rUv_spec r1).2.1 (hf.le _ _ _ h1))
  ·obtain ⟨vs,r1,h1,rfl,rfl⟩:=key _ _ _ h
   obtain ⟨b1,c1,_⟩:=tg r1 hb
   have a:=hf.len _ _ _ h1 b1
   simp only [ew,List.length_append];omega
  ·obtain ⟨vs,r1,h1,rfl,rfl⟩:=key _ _ _ h
   obtain ⟨b1,c1,hw,hlt,hris,hok⟩:=tg r1 hb
   simp only [ew] at hnl hbig ⊢
   generalize (jo_ (rUv r1).1 [] (rUv r1).2).1=t at hw hlt hris hok hnl hbig ⊢
   have hnlf:nl=false:=by
    cases nl with
    | false=>rfl
    | true=>
     have:=hnl rfl
     simp only [List.append_eq_nil_iff] at this
     have hp:=jl_ (w32 t.length)
     rw [this.1.2.1] at hp
     simp at hp
   subst hnlf
   rw [List.append_assoc] at hbig
   obtain ⟨vs2,h2,h3⟩:=hf.again _ _ _ h1 b1 ((uvar (w32 t.length)++jy_ t)++rest) false (by simp) hbig
   refine ⟨.st vs2 t,?_,by simp only [ew];rw [h3]⟩
   rw [List.append_assoc,er,h2]
   simp only [Out.bind,if_true]
   rw [List.append_assoc,hw,rUv_uvar hlt,rTags_again t [] rest (by simpa using rising_pw hris) hok]
   rfl
  ·rw [er] at h
   cases hv:fields r with
   | err=>rw [hv] at h;cases h
   | stuck=>exact hf.go r hr hv
   | ok vs r1=>rw [hv] at h;cases h
mutual
def posTy (fx:Bool) (ver:Int):Ty->Bool
 | .struct none _ fs=>fx || posFds fx ver fs
 | _=>true
def posFds (fx:Bool) (ver:Int):Fds->Bool
 | .nil=>false
 | .cons lo hi tag _ _ ty r=>(tag.isNone && has lo hi ver && posTy fx ver ty) || posFds fx ver r
end
mutual
def lawTy (fx:Bool) (ver:Int):Ty->Bool
 | .prim _=>true
 | .str _=>true
 | .bytes nul=>nul == none || nul == some 0
 | .list _ esz e=>decide (esz<=10000) && posTy fx ver e && lawTy fx ver e
 | .struct _ _ fs=>lawFds fx ver fs
def lawFds (fx:Bool) (ver:Int):Fds->Bool
 | .nil=>true
 | .cons _ _ tag _ _ ty r=>tag.isNone && lawTy fx ver ty && lawFds fx ver r
end
theorem zm_ (fx:Bool) (ver:Int):∀ fs:Fds,lawFds fx ver fs=true->fs.tagged=false
 | .nil,_=>rfl
 | .cons _ _ tag _ _ ty r,h=>by
  simp only [lawFds,Bool.and_eq_true] at h
  have:=zm_ fx ver r h.2
  simp only [Fds.tagged,this,Bool.or_false]
  cases tag with
  | none=>rfl
  | some t=>have:=h.1.1;cases this
theorem null_ok {nul:Option Nat} (h:(nul == none || nul == some 0)=true) (ver:Int):nullS nul ver=nul.isSome:=by
 simp only [Bool.or_eq_true,beq_iff_eq] at h
 rcases h with rfl | rfl <;> simp [nullS]
mutual
theorem law_ty (fx:Bool) (ver:Int):∀ (ty:Ty) (df:Int),lawTy fx ver ty=true->RW (rdTy fx ver ty (dfTy df ty)) (wrTy fx ver ty)/\(posTy fx ver ty=true->Pos (rdTy fx ver ty (dfTy df ty)) (wrTy fx ver ty))
 | .prim p,df,_=>by
  have e1:rdTy fx ver (.prim p) (dfTy df (.prim p))=fun r=>.ok ((jv_ p).run r).1 ((jv_ p).run r).2:=by funext r;simp only [rdTy]
  have e2:wrTy fx ver (.prim p)=(jv_ p).wr:=by funext v;simp only [wrTy,leafPF]
  rw [e1,e2]
  exact ⟨rw_pf _,fun _ r v r' h hb=>by injection h with h1 h2;exact pf_pos (Prod.ext h1 h2) hb⟩
 | .str nul,df,_=>by
  have e1:rdTy fx ver (.str nul) (dfTy df (.str nul))=fun r=>.ok ((strPF (nullS nul ver) fx).run r).1 ((strPF (nullS nul ver) fx).run r).2:=by funext r;simp only [rdTy]
  have e2:wrTy fx ver (.str nul)=(strPF (nullS nul ver) fx).wr:=by funext v;simp only [wrTy,leafPF]
  rw [e1,e2]
  exact ⟨rw_pf _,fun _ r v r' h hb=>by injection h with h1 h2;exact pf_pos (Prod.ext h1 h2) hb⟩
 | .bytes nul,df,h=>by
  have e1:rdTy fx ver (.bytes nul) (dfTy df (.bytes nul))=fun r=>.ok ((jt_ nul.isSome fx).run r).1 ((jt_ nul.isSome fx).run r).2:=by funext r;simp only [rdTy,null_ok h]
  have e2:wrTy fx ver (.bytes nul)=(jt_ nul.isSome fx).wr:=by funext v;simp only [wrTy,leafPF]
  rw [e1,e2]
  exact ⟨rw_pf _,fun _ r v r' h hb=>by injection h with h1 h2;exact pf_pos (Prod.ext h1 h2) hb⟩
 | .list nul esz e,df,h=>by
  simp only [lawTy,Bool.and_eq_true,decide_eq_true_eq] at h
  obtain ⟨ih,ihp⟩:=law_ty fx ver e 0 h.2
  have:=rw_list (nul:=nul) (old:=dfTy df (.list nul esz e)) rfl h.1.1 ih (ihp h.1.2)
  exact ⟨this.1,fun _=>this.2⟩
 | .struct none toff fs,df,h=>by
  have hf:lawFds fx ver fs=true:=h
  obtain ⟨ih,ihp⟩:=law_fds fx ver fs hf
  have ht:=zm_ fx ver fs hf
  have e1:rdTy fx ver (.struct none toff fs) (dfTy df (.struct none toff fs))=zg_ fx false (rdFds fx ver fs) (rdTag fx ver fs):=by funext r;simp only [rdTy,ht]
  have e2:wrTy fx ver (.struct none toff fs)=fun v=>wrFds fx ver fs v.fields++j0_ fx v.tags:=by funext v;simp only [wrTy]
  rw [e1,e2]
  refine ⟨rw_st ih,fun hp r v r' h hb=>?_⟩
  simp only [posTy,Bool.or_eq_true] at hp
  rw [List.length_append]
  rcases hp with rfl | hp
  ·have:0 < (j0_ true v.tags).length:=by
    simp only [j0_,if_true,List.length_append]
    have:=jl_ (w32 v.tags.length);omega
   omega
  ·simp only [zg_] at h
   obtain ⟨vs,r1,h1,h2⟩:=bind_ok h
   have hb1:r1.bad=false/\v.fields=vs:=by
    cases fx with
    | false=>
     simp only [Bool.not_false,if_true,Out.ok.injEq] at h2
     obtain ⟨rfl,rfl⟩:=h2
     exact ⟨hb,rfl⟩
    | true=>
     simp only [Bool.not_true,Bool.false_eq_true,if_false,Out.ok.injEq] at h2
     obtain ⟨rfl,rfl⟩:=h2
     have a:=((rTags_spec (rUv r1).1 [] (rUv r1).2).2 hb).1
     exact ⟨((rUv_spec r1).2.2 a).1,rfl⟩
   rw [hb1.2]
   have:=ihp hp r vs r1 h1 hb1.1
   omega
 | .struct (some q) toff fs,df,h=>by
  have hf:lawFds fx ver fs=true:=h
  obtain ⟨ih,_⟩:=law_fds fx ver fs hf
  have ht:=zm_ fx ver fs hf
  have hst:=rw_st (fx:=fx) (tag:=rdTag fx ver fs) ih
  have e1:∀ r,rdTy fx ver (.struct (some q) toff fs) (dfTy df (.struct (some q) toff fs)) r=if (rI 1 r).1=-1 \/ (rI 1 r).2.bad=true then .ok .nul (rI 1 r).2 else zg_ fx false (rdFds fx ver fs) (rdTag fx ver fs) (rI 1 r).2:=fun r=>by
   simp only [rdTy,dfTy,V.isNul,Bool.not_true,Bool.false_eq_true,if_false,ht]
  have ewn:wrTy fx ver (.struct (some q) toff fs) .nul=[255]:=by simp [wrTy,V.isNul]
  have ews:∀ vs t,wrTy fx ver (.struct (some q) toff fs) (.st vs t)=1 :: (wrFds fx ver fs (V.st vs t).fields++j0_ fx (V.st vs t).tags):=fun vs t=>by simp [wrTy,V.isNul]
  have sts:∀ r v r',zg_ fx false (rdFds fx ver fs) (rdTag fx ver fs) r=.ok v r'->∃ vs t,v=.st vs t:=fun r v r' h=>by
   simp only [zg_] at h
   obtain ⟨vs,r1,_,h2⟩:=bind_ok h
   cases fx with
   | false=>simp only [Bool.not_false,if_true,Out.ok.injEq] at h2;exact ⟨_,_,h2.1.symm⟩
   | true=>simp only [Bool.not_true,Bool.false_eq_true,if_false,Out.ok.injEq] at h2;exact ⟨_,_,h2.1.symm⟩
  have pos:Pos (rdTy fx ver (.struct (some q) toff fs) (dfTy df (.struct (some q) toff fs))) (wrTy fx ver (.struct (some q) toff fs)):=fun r v r' h hb=>by
   rw [e1] at h
   split at h
   ·simp only [Out.ok.injEq] at h
    rw [<- h.1,ewn];simp
   ·obtain ⟨vs,t,rfl⟩:=sts _ _ _ h
    rw [ews];simp
  have hI:=fun r=>rI_spec 1 r
  have b255:∀ rest,rI 1 ⟨[255]++rest,false,false⟩=(-1,⟨rest,false,false⟩):=fun rest=>by
   have e:be 1 (-1)=[255]:=by decide
   rw [<- e]
   exact rI_be (k:=1) (x:=-1) (by omega) (by simp only [Nat.reduceMul,Nat.reduceSub,Int.reducePow];omega) rest false
  have b1:∀ rest,rI 1 ⟨1 :: rest,false,false⟩=(1,⟨rest,false,false⟩):=fun rest=>by
   have e:be 1 1=[1]:=by decide
   show rI 1 ⟨[1]++rest,false,false⟩=_
   rw [<- e]
   exact rI_be (k:=1) (x:=1) (by omega) (by simp only [Nat.reduceMul,Nat.reduceSub,Int.reducePow];omega) rest false
  refine ⟨⟨fun r v r' h hb=>?_,fun r v r' h=>?_,fun r v r' h hb=>?_,fun r v r' h hb rest nl hnl hbig=>?_,fun r hr h=>?_⟩,fun _=>pos⟩
  ·rw [e1] at h
   split at h
   ·simp only [Out.ok.injEq] at h
    obtain ⟨_,rfl⟩:=h
    exact ((hI r).2 hb).1
   ·exact ((hI r).2 (hst.bad _ _ _ h hb)).1
  ·rw [e1] at h
   split at h
   ·simp only [Out.ok.injEq] at h
    obtain ⟨_,rfl⟩:=h
    exact (hI r).1
   ·exact Nat.le_trans (hst.le _ _ _ h) (hI r).1
  ·rw [e1] at h
   split at h
   ·simp only [Out.ok.injEq] at h
    obtain ⟨rfl,rfl⟩:=h
    have:=((hI r).2 hb).2.1
    rw [ewn];simpa using this
   ·obtain ⟨vs,t,rfl⟩:=sts _ _ _ h
    have a:=hst.len _ _ _ h hb
    have b:=((hI r).2 (hst.bad _ _ _ h hb)).2.1
    rw [ews,List.length_cons]
    omega
  ·have hnlf:=nl_false hnl (pos r v r' h hb)
   subst hnlf
   rw [e1] at h
   split at h
   ·simp only [Out.ok.injEq] at h
    obtain ⟨rfl,rfl⟩:=h
    exact ⟨.nul,by rw [ewn,e1,b255,if_pos (.inl rfl)],rfl⟩
   ·obtain ⟨vs,t,rfl⟩:=sts _ _ _ h
    rw [ews,List.cons_append,List.length_cons] at hbig
    obtain ⟨v2,h2,h3⟩:=hst.again _ _ _ h hb rest false (by simp) (by omega)
    obtain ⟨vs2,t2,rfl⟩:=sts _ _ _ h2
    refine ⟨.st vs2 t2,?_,by rw [ews,ews,h3]⟩
    rw [ews,List.cons_append,e1,b1,if_neg (by simp)]
    exact h2
  ·rw [e1] at h
   split at h
   ·cases h
   ·exact hst.go _ (Nat.le_trans (hI r).1 hr) h
theorem law_fds (fx:Bool) (ver:Int):∀ (fs:Fds),lawFds fx ver fs=true->RW (rdFds fx ver fs) (wrFds fx ver fs)/\(posFds fx ver fs=true->∀ r vs r',rdFds fx ver fs r=.ok vs r'->r'.bad=false->0 < (wrFds fx ver fs vs).length)
 | .nil,_=>by
  have e1:rdFds fx ver .nil=fun r=>.ok [] r:=by funext r;simp only [rdFds]
  have e2:wrFds fx ver .nil=fun _=>[]:=by funext v;simp only [wrFds]
  rw [e1,e2]
  refine ⟨⟨fun r v r' h hb=>?_,fun r v r' h=>?_,fun r v r' h hb=>?_,fun r v r' h hb rest nl _ _=>?_,fun r _ h=>by cases h⟩,fun hp=>by cases hp⟩ <;> (simp only [Out.ok.injEq] at h;obtain ⟨rfl,rfl⟩:=h)
  ·exact hb
  ·exact Nat.le_refl _
  ·simp
  ·exact ⟨[],rfl,rfl⟩
 | .cons lo hi tag df off ty rest',h=>by
  simp only [lawFds,Bool.and_eq_true] at h
  obtain ⟨iht,ihtp⟩:=law_ty fx ver ty df h.1.2
  obtain ⟨ihr,ihrp⟩:=law_fds fx ver rest' h.2
  have htag:=h.1.1
  by_cases hh:has lo hi ver=true
  ·have e1:∀ r,rdFds fx ver (.cons lo hi tag df off ty rest') r=(rdTy fx ver ty (dfTy df ty) r).bind fun v r=>(rdFds fx ver rest' r).bind fun vs r=>.ok (v :: vs) r:=fun r=>by simp only [rdFds,htag,hh,Bool.and_self,if_true]
   have e2:∀ v vs,wrFds fx ver (.cons lo hi tag df off ty rest') (v :: vs)=wrTy fx ver ty v++wrFds fx ver rest' vs:=fun v vs=>by simp only [wrFds,htag,hh,Bool.and_self,if_true,List.headD_cons,List.tail_cons]
   have key:∀ r vs r',rdFds fx ver (.cons lo hi tag df off ty rest') r=.ok vs r'->∃ v r1 vs',rdTy fx ver ty (dfTy df ty) r=.ok v r1/\rdFds fx ver rest' r1=.ok vs' r'/\vs=v :: vs':=fun r vs r' h=>by
    rw [e1] at h
    obtain ⟨v,r1,h1,h2⟩:=bind_ok h
    obtain ⟨vs',r2,h3,h4⟩:=bind_ok h2
    simp only [Out.ok.injEq] at h4
    obtain ⟨rfl,rfl⟩:=h4
    exact ⟨v,r1,vs',h1,h3,rfl⟩
   refine ⟨⟨fun r vs r' h hb=>?_,fun r vs r' h=>?_,fun r vs r' h hb=>?_,fun r vs r' h hb rest nl hnl hbig=>?_,fun r hr h=>?_⟩,fun hp r vs r' h hb=>?_⟩
   ·obtain ⟨v,r1,vs',h1,h2,rfl⟩:=key _ _ _ h
    exact iht.bad _ _ _ h1 (ihr.bad _ _ _ h2 hb)
   ·obtain ⟨v,r1,vs',h1,h2,rfl⟩:=key _ _ _ h
    exact Nat.le_trans (ihr.le _ _ _ h2) (iht.le _ _ _ h1)
   ·obtain ⟨v,r1,vs',h1,h2,rfl⟩:=key _ _ _ h
    have a:=iht.len _ _ _ h1 (ihr.bad _ _ _ h2 hb)
    have b:=ihr.len _ _ _ h2 hb
    rw [e2,List.length_append];omega
   ·obtain ⟨v,r1,vs',h1,h2,rfl⟩:=key _ _ _ h
    rw [e2,List.append_assoc] at hnl hbig
    obtain ⟨v2,h3,h4⟩:=iht.again _ _ _ h1 (ihr.bad _ _ _ h2 hb) (wrFds fx ver rest' vs'++rest) nl hnl hbig
    rw [List.length_append] at hbig
    obtain ⟨vs2,h5,h6⟩:=ihr.again _ _ _ h2 hb rest nl (fun hh=>(List.append_eq_nil_iff.1 (hnl hh)).2) (by omega)
    refine ⟨v2 :: vs2,?_,by rw [e2,e2,h4,h6]⟩
    rw [e2,List.append_assoc,e1,h3]
    simp only [Out.bind,h5]
   ·rw [e1] at h
    cases hv:rdTy fx ver ty (dfTy df ty) r with
    | err=>rw [hv] at h;cases h
    | stuck=>exact iht.go r hr hv
    | ok v r1=>
     rw [hv] at h
     simp only [Out.bind] at h
     have:=iht.le _ _ _ hv
     cases hvs:rdFds fx ver rest' r1 with
     | err=>rw [hvs] at h;cases h
     | stuck=>exact ihr.go r1 (by omega) hvs
     | ok vs r2=>rw [hvs] at h;cases h
   ·obtain ⟨v,r1,vs',h1,h2,rfl⟩:=key _ _ _ h
    rw [e2,List.length_append]
    simp only [posFds,htag,hh,Bool.true_and,Bool.or_eq_true] at hp
    rcases hp with hp | hp
    ·have:=ihtp hp _ _ _ h1 (ihr.bad _ _ _ h2 hb);omega
    ·have:=ihrp hp _ _ _ h2 hb;omega
  ·have hh':has lo hi ver=false:=by simpa using hh
   have e1:∀ r,rdFds fx ver (.cons lo hi tag df off ty rest') r=(rdFds fx ver rest' r).bind fun vs r=>.ok (dfTy df ty :: vs) r:=fun r=>by simp only [rdFds,htag,hh',Bool.and_false,Bool.false_eq_true,if_false]
   have e2:∀ v vs,wrFds fx ver (.cons lo hi tag df off ty rest') (v :: vs)=wrFds fx ver rest' vs:=fun v vs=>by simp only [wrFds,htag,hh',Bool.and_false,Bool.false_eq_true,if_false,List.nil_append,List.tail_cons]
   have key:∀ r vs r',rdFds fx ver (.cons lo hi tag df off ty rest') r=.ok vs r'->∃ vs',rdFds fx ver rest' r=.ok vs' r'/\vs=dfTy df ty :: vs':=fun r vs r' h=>by
    rw [e1] at h
    obtain ⟨vs',r1,h1,h2⟩:=bind_ok h
    simp only [Out.ok.injEq] at h2
    obtain ⟨rfl,rfl⟩:=h2
    exact ⟨vs',h1,rfl⟩
   refine ⟨⟨fun r vs r' h hb=>?_,fun r vs r' h=>?_,fun r vs r' h hb=>?_,fun r vs r' h hb rest nl hnl hbig=>?_,fun r hr h=>?_⟩,fun hp r vs r' h hb=>?_⟩
   ·obtain ⟨vs',h2,rfl⟩:=key _ _ _ h;exact ihr.bad _ _ _ h2 hb
   ·obtain ⟨vs',h2,rfl⟩:=key _ _ _ h;exact ihr.le _ _ _ h2
   ·obtain ⟨vs',h2,rfl⟩:=key _ _ _ h;rw [e2];exact ihr.len _ _ _ h2 hb
   ·obtain ⟨vs',h2,rfl⟩:=key _ _ _ h
    rw [e2] at hnl hbig
    obtain ⟨vs2,h5,h6⟩:=ihr.again _ _ _ h2 hb rest nl hnl hbig
    refine ⟨dfTy df ty :: vs2,?_,by rw [e2,e2,h6]⟩
    rw [e2,e1,h5]
    rfl
   ·rw [e1] at h
    cases hv:rdFds fx ver rest' r with
    | err=>rw [hv] at h;cases h
    | stuck=>exact ihr.go r hr hv
    | ok v r1=>rw [hv] at h;cases h
   ·obtain ⟨vs',h2,rfl⟩:=key _ _ _ h
    rw [e2]
    simp only [posFds,hh',Bool.and_false,Bool.false_and,Bool.false_or] at hp
    exact ihrp hp _ _ _ h2 hb
end
end Go.Proofs.YtdplnemfjedocabDoor.Kx

namespace Go.Proofs.YtdplnemfjedocabDoor.Kx
inductive Tr where
 | mk (n:Int) (s:Bs) (null:Bool) (l:List Tr) (u:List (UInt32 × Bs))
def Tr.num:Tr->Int | .mk n _ _ _ _=>n
def Tr.octets:Tr->Bs | .mk _ s _ _ _=>s
def Tr.null:Tr->Bool | .mk _ _ b _ _=>b
def Tr.list:Tr->List Tr | .mk _ _ _ l _=>l
def Tr.tags:Tr->List (Nat × Bs) | .mk _ _ _ _ u=>u.map fun p=>(p.1.toNat,p.2)
def Tr.zero:Tr:=.mk 0 [] false [] []
def Tr.at (t:Tr) (i:Nat):Tr:=t.list.getD i .zero
inductive SFs where
 | nil
 | cons (kind:Nat) (lo hi nul tag df:Int) (of:Nat) (sub:SFs) (r:SFs)
end Go.Proofs.YtdplnemfjedocabDoor.Kx
