/-
  PLAIN LAWS AND CONTRACTS of messages, part 2 of 15: how readers and writers are printed, what they do, what the reference writes, and that what is written is read as the same. Nothing of a statement stands here.
-/
import Derived.Test.YtlmanancakaapaaGreatDoorK1
import Derived.Test.YtlmanancakaapaaGreatDoorK11

namespace Go.Proofs.YtlmanancakaapaaGreatDoor.Kx
def BIG:Nat:=33554432
structure RW {α:Type} (f:RS->Out α) (w:α->Bs):Prop where
 bad:∀ r v r',f r=.ok v r'->r'.bad=false->r.bad=false
 le:∀ r v r',f r=.ok v r'->r'.src.length<=r.src.length
 len:∀ r v r',f r=.ok v r'->r'.bad=false->(w v).length + r'.src.length<=r.src.length
 again:∀ r v r',f r=.ok v r'->r'.bad=false->∀ rest nl,(nl=true->w v++rest=[])->(w v++rest).length<=BIG->∃ v',f ⟨w v++rest,false,nl⟩=.ok v' ⟨rest,false,nl⟩/\w v'=w v
 go:∀ r,r.src.length<=BIG->f r ≠ .stuck
theorem u8n {m:Nat} (h:m < 256):(UInt8.ofNat m).toNat=m:=UInt8.toNat_ofNat_of_lt (by simpa using h)
theorem je_ (k:Nat) (x:Int):(be k x).length=k:=by
 induction k with
 | zero=>rfl
 | succ k ih=>simp only [be,List.length_cons,ih]
theorem foldl_unbe (l:Bs) (acc:Nat):l.foldl (fun a b=>a * 256 + b.toNat) acc=acc * 256 ^ l.length + unbe l:=by
 induction l generalizing acc with
 | nil=>simp [unbe]
 | cons b l ih=>
  simp only [List.foldl_cons,List.length_cons,unbe]
  rw [ih,ih (0 * 256 + b.toNat)]
  simp only [Nat.zero_mul,Nat.zero_add,Nat.pow_succ,Nat.add_mul]
  rw [Nat.mul_assoc,Nat.mul_comm 256,Nat.add_assoc]
theorem unbe_cons' (b:UInt8) (l:Bs):unbe (b :: l)=b.toNat * 256 ^ l.length + unbe l:=by
 show (b :: l).foldl (fun a b=>a * 256 + b.toNat) 0=_
 rw [List.foldl_cons,foldl_unbe]
 simp
theorem unbe_be (k:Nat) (x:Int):(unbe (be k x):Int)=x % 256 ^ k:=by
 induction k with
 | zero=>simp [be,unbe]
 | succ k ih=>
  simp only [be]
  rw [unbe_cons',je_]
  have h0:(0:Int)<=x / 256 ^ k % 256:=Int.emod_nonneg _ (by omega)
  have h1:x / 256 ^ k % 256 < 256:=Int.emod_lt_of_pos _ (by omega)
  have e1:(UInt8.ofNat (x / 256 ^ k % 256).toNat).toNat=(x / 256 ^ k % 256).toNat:=u8n (by omega)
  rw [e1,Int.natCast_add,Int.natCast_mul,Int.natCast_pow,ih,Int.toNat_of_nonneg h0]
  show x / 256 ^ k % 256 * 256 ^ k + x % 256 ^ k=_
  have hp:(0:Int) < 256 ^ k:=Int.pow_pos (by omega)
  rw [Int.pow_succ]
  have e2:x % (256 ^ k * 256)=x - 256 ^ k * 256 * (x / (256 ^ k * 256)):=Int.emod_def _ _
  have e3:x / (256 ^ k * 256)=x / 256 ^ k / 256:=(Int.ediv_ediv_of_nonneg (by omega)).symm
  have e4:x / 256 ^ k % 256=x / 256 ^ k - 256 * (x / 256 ^ k / 256):=Int.emod_def _ _
  have e5:x % 256 ^ k=x - 256 ^ k * (x / 256 ^ k):=Int.emod_def _ _
  rw [e2,e3,e4,e5,Int.sub_mul]
  have:256 ^ k * 256 * (x / 256 ^ k / 256)=256 * (x / 256 ^ k / 256) * 256 ^ k:=by
   rw [Int.mul_comm (256 ^ k) 256,Int.mul_assoc,Int.mul_comm (256 ^ k),<- Int.mul_assoc]
  rw [this,Int.mul_comm (256 ^ k) (x / 256 ^ k)]
  omega
theorem rU_be {k:Nat} {x:Nat} (h:x < 256 ^ k) (rest:Bs) (nl:Bool):rU k ⟨be k x++rest,false,nl⟩=(x,⟨rest,false,nl⟩):=by
 have hl:¬ ((be k x++rest).length < k):=by rw [List.length_append,je_];omega
 have h1:(be k x++rest).take k=be k x:=by rw [List.take_append_of_le_length (by rw [je_];omega),List.take_of_length_le (by rw [je_];omega)]
 have h2:(be k x++rest).drop k=rest:=by rw [List.drop_append_of_le_length (by rw [je_];omega),List.drop_of_length_le (by rw [je_];omega)];rfl
 simp only [rU,if_neg hl,h1,h2]
 have:=unbe_be k x
 have h3:((x:Nat):Int) % 256 ^ k=x:=Int.emod_eq_of_lt (by omega) (by have:=Int.ofNat_lt.2 h;rw [Int.natCast_pow] at this;exact this)
 rw [h3] at this
 congr 1
 omega
theorem rI_be {k:Nat} (hk:k=1 \/ k=2 \/ k=4 \/ k=8) {x:Int} (h:-(2 ^ (8 * k - 1):Int)<=x/\x < 2 ^ (8 * k - 1)) (rest:Bs) (nl:Bool):rI k ⟨be k x++rest,false,nl⟩=(x,⟨rest,false,nl⟩):=by
 have e:be k x=be k ((x % 256 ^ k).toNat:Nat):=by
  have h0:0<=x % 256 ^ k:=Int.emod_nonneg _ (by have:=Int.pow_pos (n:=256) (m:=k) (by omega);omega)
  rw [Int.toNat_of_nonneg h0]
  apply List.ext_getElem?
  intro i
  have key:∀ (m:Nat) (j:Nat),j<=m->be j (x % 256 ^ m)=be j x:=by
   intro m j
   induction j with
   | zero=>intro _;rfl
   | succ j ih=>
    intro hj
    simp only [be]
    rw [ih (by omega)]
    congr 2
    have hp:(256:Int) ^ m=256 ^ j * (256 * 256 ^ (m - j - 1)):=by
     rw [<- Int.pow_succ',<- Int.pow_add]
     congr 1;omega
    rw [hp]
    have hk:(0:Int) < 256 ^ j:=Int.pow_pos (by omega)
    have e1:x % (256 ^ j * (256 * 256 ^ (m - j - 1)))=x + 256 ^ j * (-(256 * (256 ^ (m - j - 1) * (x / (256 ^ j * (256 * 256 ^ (m - j - 1))))))):=by
     rw [Int.emod_def,Int.mul_neg,<- Int.sub_eq_add_neg]
     simp only [Int.mul_assoc]
    rw [e1,Int.add_mul_ediv_left _ _ (by omega)]
    generalize 256 ^ (m - j - 1) * (x / (256 ^ j * (256 * 256 ^ (m - j - 1))))=t
    generalize x / 256 ^ j=y
    congr 1
    omega
  rw [key k k (Nat.le_refl _)]
 have hlt:(x % 256 ^ k).toNat < 256 ^ k:=by
  have h0:0<=x % 256 ^ k:=Int.emod_nonneg _ (by have:=Int.pow_pos (n:=256) (m:=k) (by omega);omega)
  have h1:x % 256 ^ k < 256 ^ k:=Int.emod_lt_of_pos _ (Int.pow_pos (by omega))
  have:((x % 256 ^ k).toNat:Int) < ((256 ^ k:Nat):Int):=by rw [Int.toNat_of_nonneg h0,Int.natCast_pow];exact h1
  exact Int.ofNat_lt.1 this
 rw [e]
 simp only [rI,rU_be hlt]
 congr 1
 rcases hk with rfl | rfl | rfl | rfl <;> simp only [sgn,Nat.reduceMul,Nat.reduceSub,Int.reducePow,Nat.reducePow] at h ⊢ <;> split <;> omega
theorem uvarAux_read:∀ (x:Nat),x < 4294967296->∀ rest:Bs,q6_ (uvar x++rest)=(x,((uvar x).length:Int)):=by
 intro x hx rest
 have t:∀ m,m < 128->(UInt8.ofNat (m + 128)).toNat=m + 128:=fun m hm=>u8n (by omega)
 have s:∀ m,m < 128->(UInt8.ofNat m).toNat=m:=fun m hm=>u8n (by omega)
 simp only [uvar,uvarAux]
 by_cases c1:x < 128
 ·simp [c1,q6_,s x c1]
 by_cases c2:x / 128 < 128
 ·have n1:¬ (x % 128 + 128 < 128):=by omega
  simp only [c1,c2,if_true,if_false,List.cons_append,List.nil_append,q6_,t _ (Nat.mod_lt x (by omega)),n1,s _ c2]
  simp;omega
 by_cases c3:x / 128 / 128 < 128
 ·have n1:¬ (x % 128 + 128 < 128):=by omega
  have n2:¬ (x / 128 % 128 + 128 < 128):=by omega
  simp only [c1,c2,c3,if_true,if_false,List.cons_append,List.nil_append,q6_,t _ (Nat.mod_lt x (by omega)),t _ (Nat.mod_lt (x / 128) (by omega)),n1,n2,s _ c3]
  simp;omega
 by_cases c4:x / 128 / 128 / 128 < 128
 ·have n1:¬ (x % 128 + 128 < 128):=by omega
  have n2:¬ (x / 128 % 128 + 128 < 128):=by omega
  have n3:¬ (x / 128 / 128 % 128 + 128 < 128):=by omega
  simp only [c1,c2,c3,c4,if_true,if_false,List.cons_append,List.nil_append,q6_,t _ (Nat.mod_lt x (by omega)),t _ (Nat.mod_lt (x / 128) (by omega)),t _ (Nat.mod_lt (x / 128 / 128) (by omega)),n1,n2,n3,s _ c4]
  simp;omega
 have c5:x / 128 / 128 / 128 / 128 < 128:=by omega
 have c6:x / 128 / 128 / 128 / 128<=15:=by omega
 have n1:¬ (x % 128 + 128 < 128):=by omega
 have n2:¬ (x / 128 % 128 + 128 < 128):=by omega
 have n3:¬ (x / 128 / 128 % 128 + 128 < 128):=by omega
 have n4:¬ (x / 128 / 128 / 128 % 128 + 128 < 128):=by omega
 simp only [c1,c2,c3,c4,c5,if_true,if_false,List.cons_append,List.nil_append,q6_,t _ (Nat.mod_lt x (by omega)),t _ (Nat.mod_lt (x / 128) (by omega)),t _ (Nat.mod_lt (x / 128 / 128) (by omega)),t _ (Nat.mod_lt (x / 128 / 128 / 128) (by omega)),n1,n2,n3,n4,s _ c5,c6]
 simp;omega
theorem j5_ {x:Nat} (h:x < 4294967296) (rest:Bs) (nl:Bool):rUv ⟨uvar x++rest,false,nl⟩=(x,⟨rest,false,nl⟩):=by
 have h1:=uvarAux_read x h rest
 have h2:=jr_ x
 have h3:¬ (((uvar x).length:Int)<=0):=by omega
 simp only [rUv,h1,if_neg h3,Int.toNat_natCast]
 rw [List.drop_append_of_le_length (Nat.le_refl _),List.drop_of_length_le (Nat.le_refl _)]
 rfl
theorem uvar_len (x:Nat) (h:x < 4294967296):(uvar x).length=if x < 128 then 1 else if x < 16384 then 2 else if x < 2097152 then 3 else if x < 268435456 then 4 else 5:=by
 simp only [uvar,uvarAux]
 by_cases c1:x < 128
 ·simp [c1]
 by_cases c2:x / 128 < 128
 ·have:x < 16384:=by omega
  simp [c1,c2,this]
 by_cases c3:x / 128 / 128 < 128
 ·have a:¬ x < 16384:=by omega
  have b:x < 2097152:=by omega
  simp [c1,c2,c3,a,b]
 by_cases c4:x / 128 / 128 / 128 < 128
 ·have a:¬ x < 16384:=by omega
  have b:¬ x < 2097152:=by omega
  have c:x < 268435456:=by omega
  simp [c1,c2,c3,c4,a,b,c]
 have a:¬ x < 16384:=by omega
 have b:¬ x < 2097152:=by omega
 have c:¬ x < 268435456:=by omega
 have c5:x / 128 / 128 / 128 / 128 < 128:=by omega
 simp [c1,c2,c3,c4,c5,a,b,c]
theorem uvar_mono {x y:Nat} (h:x<=y) (hy:y < 4294967296):(uvar x).length<=(uvar y).length:=by
 rw [uvar_len x (by omega),uvar_len y hy]
 repeat' split
 all_goals omega
theorem uvRead_spec (l:Bs):(q6_ l).2<=0 \/ ((q6_ l).1 < 4294967296/\((uvar (q6_ l).1).length:Int)<=(q6_ l).2/\(q6_ l).2<=l.length):=by
 have hb:∀ b:UInt8,b.toNat < 256:=fun b=>b.toNat_lt
 unfold q6_
 cases l with
 | nil=>left;simp
 | cons a l=>
  simp only
  have ha:=hb a
  split
  ·right;rw [uvar_len _ (by omega)];simp;split <;> omega
  ·cases l with
   | nil=>left;simp
   | cons b l=>
    simp only
    have hb':=hb b
    split
    ·right;rw [uvar_len _ (by omega)];refine ⟨by omega,?_,by simp;omega⟩;repeat' split
     all_goals simp
     all_goals omega
    ·cases l with
     | nil=>left;simp
     | cons c l=>
      simp only
      have hc:=hb c
      split
      ·right;rw [uvar_len _ (by omega)];refine ⟨by omega,?_,by simp;omega⟩;repeat' split
       all_goals simp
       all_goals omega
      ·cases l with
       | nil=>left;simp
       | cons d l=>
        simp only
        have hd:=hb d
        split
        ·right;rw [uvar_len _ (by omega)];refine ⟨by omega,?_,by simp;omega⟩;repeat' split
         all_goals simp
         all_goals omega
        ·cases l with
         | nil=>left;simp
         | cons e l=>
          simp only
          split
          ·right;rw [uvar_len _ (by omega)];refine ⟨by omega,?_,by simp;omega⟩;repeat' split
           all_goals simp
          ·left;simp
theorem j6_ (r:RS):(rUv r).1 < 4294967296/\(rUv r).2.src.length<=r.src.length/\((rUv r).2.bad=false->r.bad=false/\(uvar (rUv r).1).length + (rUv r).2.src.length<=r.src.length/\(rUv r).2.nl=r.nl):=by
 unfold rUv
 rcases uvRead_spec r.src with h | ⟨h1,h2,h3⟩
 ·rw [if_pos h];simp [RS.fail]
 ·have hp:=jr_ (q6_ r.src).1
  have hn:¬ (q6_ r.src).2<=0:=by omega
  rw [if_neg hn]
  simp only [List.length_drop]
  exact ⟨h1,by omega,fun hb=>⟨hb,by omega,trivial⟩⟩
theorem rU_spec (k:Nat) (r:RS):(rU k r).1 < 256 ^ k/\(rU k r).2.src.length<=r.src.length/\((rU k r).2.bad=false->r.bad=false/\k + (rU k r).2.src.length<=r.src.length/\(rU k r).2.nl=r.nl):=by
 unfold rU
 split
 ·refine ⟨?_,by simp [RS.fail],by simp [RS.fail]⟩
  exact Nat.pow_pos (by omega)
 ·rename_i h
  refine ⟨?_,by simp,fun hb=>⟨hb,by simp;omega,rfl⟩⟩
  have:∀ l:Bs,unbe l < 256 ^ l.length:=by
   intro l
   induction l with
   | nil=>simp [unbe]
   | cons b l ih=>
    rw [unbe_cons',List.length_cons,Nat.pow_succ]
    have hb:=b.toNat_lt
    have:b.toNat * 256 ^ l.length<=255 * 256 ^ l.length:=Nat.mul_le_mul_right _ (by omega)
    omega
  have h2:=this (r.src.take k)
  rwa [List.length_take,Nat.min_eq_left (by omega)] at h2
theorem rI_spec (k:Nat) (r:RS):(rI k r).2.src.length<=r.src.length/\((rI k r).2.bad=false->r.bad=false/\k + (rI k r).2.src.length<=r.src.length/\(rI k r).2.nl=r.nl):=(rU_spec k r).2
theorem rI_rng {k:Nat} (hk:k=1 \/ k=2 \/ k=4 \/ k=8) (r:RS):-(2 ^ (8 * k - 1):Int)<=(rI k r).1/\(rI k r).1 < 2 ^ (8 * k - 1):=by
 have h:=(rU_spec k r).1
 show -(2 ^ (8 * k - 1):Int)<=sgn (8 * k) (rU k r).1/\sgn (8 * k) (rU k r).1 < 2 ^ (8 * k - 1)
 rcases hk with rfl | rfl | rfl | rfl <;> simp only [sgn,Nat.reduceMul,Nat.reduceSub,Int.reducePow,Nat.reducePow] at h ⊢ <;> split <;> omega
theorem rSpan_spec (k:Int) (r:RS):(qo_ k r).2.src.length<=r.src.length/\((qo_ k r).2.bad=false->r.bad=false/\0<=k/\((qo_ k r).1.octets.length:Int)<=k/\(qo_ k r).1.octets.length + (qo_ k r).2.src.length<=r.src.length/\(qo_ k r).2.nl=r.nl/\((qo_ k r).1=.nul \/ (qo_ k r).1=.s (qo_ k r).1.octets)):=by
 unfold qo_
 split
 ·simp [RS.fail]
 ·rename_i h
  refine ⟨by simp,fun hb=>⟨hb,by omega,?_,?_,rfl,?_⟩⟩
  ·cases r.nl
   ·simp [V.octets];omega
   ·simp [V.octets];omega
  ·cases r.nl
   ·simp [V.octets];omega
   ·simp [V.octets]
  ·cases r.nl
   ·right;simp [V.octets]
   ·left;simp
theorem rSpan_app (l rest:Bs):qo_ (l.length:Nat) ⟨l++rest,false,false⟩=(.s l,⟨rest,false,false⟩):=by
 unfold qo_
 rw [if_neg (by simp;omega)]
 simp
end Go.Proofs.YtlmanancakaapaaGreatDoor.Kx

namespace Go.Proofs.YtlmanancakaapaaGreatDoor.Kx
def PfOk (p:PF):Prop:=∀ r v r',p.run r=(v,r')->r'.src.length<=r.src.length/\(r'.bad=false->r.bad=false/\0 < (p.wr v).length/\(p.wr v).length + r'.src.length<=r.src.length /\
 ∀ rest,∃ v',p.run ⟨p.wr v++rest,false,false⟩=(v',⟨rest,false,false⟩)/\p.wr v'=p.wr v)
theorem pf_num {p:PF} {k:Nat} (hk:k=1 \/ k=2 \/ k=4 \/ k=8) (hrun:∀ r,p.run r=(.n (rI k r).1,(rI k r).2)) (hwr:∀ x,p.wr (.n x)=be k x):PfOk p:=by
 intro r v r' hr
 rw [hrun,Prod.mk.injEq] at hr
 obtain ⟨rfl,rfl⟩:=hr
 have h:=rI_spec k r
 refine ⟨h.1,fun hb=>?_⟩
 obtain ⟨h1,h2,_⟩:=h.2 hb
 rw [hwr,je_]
 refine ⟨h1,by omega,h2,fun rest=>⟨.n (rI k r).1,?_,hwr _⟩⟩
 rw [hrun,rI_be hk (rI_rng hk r)]
theorem txt_fix {kk:Nat} (hk:kk=2 \/ kk=4) (r:RS):(qo_ (rI kk r).1 (rI kk r).2).2.src.length<=r.src.length/\((qo_ (rI kk r).1 (rI kk r).2).2.bad=false->r.bad=false /\
  kk + (qo_ (rI kk r).1 (rI kk r).2).1.octets.length + (qo_ (rI kk r).1 (rI kk r).2).2.src.length<=r.src.length /\
  ∀ rest,rI kk ⟨be kk ((qo_ (rI kk r).1 (rI kk r).2).1.octets.length:Nat)++rest,false,false⟩=((((qo_ (rI kk r).1 (rI kk r).2).1.octets.length:Nat):Int),(⟨rest,false,false⟩:RS))):=by
 have h1:=rI_spec kk r
 have h2:=rSpan_spec (rI kk r).1 (rI kk r).2
 have hkk:kk=1 \/ kk=2 \/ kk=4 \/ kk=8:=by omega
 have h3:=rI_rng hkk r
 refine ⟨by omega,fun hb=>?_⟩
 obtain ⟨b1,k0,ol,os,_,_⟩:=h2.2 hb
 obtain ⟨b0,l0,_⟩:=h1.2 b1
 refine ⟨b0,by omega,fun rest=>rI_be hkk ?_ rest false⟩
 rcases hk with rfl | rfl <;> simp only [Nat.reduceMul,Nat.reduceSub,Int.reducePow] at h3 ⊢ <;> omega
theorem txt_uv (r:RS):(qo_ ((rUv r).1 - 1:Int) (rUv r).2).2.src.length<=r.src.length/\((qo_ ((rUv r).1 - 1:Int) (rUv r).2).2.bad=false->r.bad=false /\
  (uvar (w32 ((qo_ ((rUv r).1 - 1:Int) (rUv r).2).1.octets.length + 1))).length + (qo_ ((rUv r).1 - 1:Int) (rUv r).2).1.octets.length + (qo_ ((rUv r).1 - 1:Int) (rUv r).2).2.src.length<=r.src.length /\
  ∀ rest,rUv ⟨uvar (w32 ((qo_ ((rUv r).1 - 1:Int) (rUv r).2).1.octets.length + 1))++rest,false,false⟩=((qo_ ((rUv r).1 - 1:Int) (rUv r).2).1.octets.length + 1,⟨rest,false,false⟩)):=by
 have h1:=j6_ r
 have h2:=rSpan_spec ((rUv r).1 - 1:Int) (rUv r).2
 refine ⟨by omega,fun hb=>?_⟩
 obtain ⟨b1,k0,ol,os,_,_⟩:=h2.2 hb
 obtain ⟨b0,l0,_⟩:=h1.2.2 b1
 have hw:w32 ((qo_ ((rUv r).1 - 1:Int) (rUv r).2).1.octets.length + 1)=(qo_ ((rUv r).1 - 1:Int) (rUv r).2).1.octets.length + 1:=by simp only [w32];omega
 rw [hw]
 have hm:=uvar_mono (x:=(qo_ ((rUv r).1 - 1:Int) (rUv r).2).1.octets.length + 1) (y:=(rUv r).1) (by omega) h1.1
 exact ⟨b0,by omega,fun rest=>j5_ (by omega) rest false⟩
theorem ze_ (l rest:Bs) (k:Int) (hk:k=(l.length:Nat)):qo_ k ⟨l++rest,false,false⟩=(.s l,⟨rest,false,false⟩):=by subst hk;exact rSpan_app l rest
theorem rI_m1 {k:Nat} (hk:k=2 \/ k=4) (rest:Bs):rI k ⟨be k (-1)++rest,false,false⟩=(-1,⟨rest,false,false⟩):=by
 refine rI_be (by omega) ?_ rest false
 rcases hk with rfl | rfl <;> simp only [Nat.reduceMul,Nat.reduceSub,Int.reducePow] <;> omega
theorem pf_txt {p:PF} (h4:p=.str \/ p=.cstr):PfOk p:=by
 intro r v r' hr
 rcases h4 with rfl | rfl
 ·have er:∀ r,PF.str.run r=(.s (qo_ (rI 2 r).1 (rI 2 r).2).1.octets,(qo_ (rI 2 r).1 (rI 2 r).2).2):=fun _=>rfl
  have e:∀ o,PF.str.wr (.s o)=be 2 (o.length:Nat)++o:=fun _=>rfl
  rw [er,Prod.mk.injEq] at hr
  obtain ⟨rfl,rfl⟩:=hr
  have h:=txt_fix (kk:=2) (.inl rfl) r
  refine ⟨h.1,fun hb=>?_⟩
  obtain ⟨h1,h2,h3⟩:=h.2 hb
  generalize (qo_ (rI 2 r).1 (rI 2 r).2).1.octets=o at h2 h3 ⊢
  have el:(PF.str.wr (.s o)).length=2 + o.length:=by rw [e,List.length_append,je_]
  refine ⟨h1,by omega,by omega,fun rest=>⟨.s o,?_,rfl⟩⟩
  have ea:PF.str.wr (.s o)++rest=be 2 (o.length:Nat)++(o++rest):=by rw [e,List.append_assoc]
  rw [ea,er,h3 (o++rest),ze_ o rest _ rfl]
  rfl
 ·have er:∀ r,PF.cstr.run r=(.s (qo_ ((rUv r).1 - 1:Int) (rUv r).2).1.octets,(qo_ ((rUv r).1 - 1:Int) (rUv r).2).2):=fun _=>rfl
  have e:∀ o,PF.cstr.wr (.s o)=uvar (w32 (o.length + 1))++o:=fun _=>rfl
  rw [er,Prod.mk.injEq] at hr
  obtain ⟨rfl,rfl⟩:=hr
  have h:=txt_uv r
  refine ⟨h.1,fun hb=>?_⟩
  obtain ⟨h1,h2,h3⟩:=h.2 hb
  generalize (qo_ ((rUv r).1 - 1:Int) (rUv r).2).1.octets=o at h2 h3 ⊢
  have hp:=jr_ (w32 (o.length + 1))
  have el:(PF.cstr.wr (.s o)).length=(uvar (w32 (o.length + 1))).length + o.length:=by rw [e,List.length_append]
  refine ⟨h1,by omega,by omega,fun rest=>⟨.s o,?_,rfl⟩⟩
  have ea:PF.cstr.wr (.s o)++rest=uvar (w32 (o.length + 1))++(o++rest):=by rw [e,List.append_assoc]
  rw [ea,er,h3 (o++rest),ze_ o rest _ (by push_cast;omega)]
  rfl
theorem pf_nstr:PfOk .nstr:=by
 intro r v r' hr
 have er:∀ r,PF.nstr.run r=if (rI 2 r).1 < 0 then (.nul,(rI 2 r).2) else (.s (qo_ (rI 2 r).1 (rI 2 r).2).1.octets,(qo_ (rI 2 r).1 (rI 2 r).2).2):=fun _=>rfl
 have e:∀ o,PF.nstr.wr (.s o)=be 2 (o.length:Nat)++o:=fun _=>rfl
 have e0:PF.nstr.wr .nul=be 2 (-1):=rfl
 rw [er] at hr
 split at hr
 ·rw [Prod.mk.injEq] at hr
  obtain ⟨rfl,rfl⟩:=hr
  have hI:=rI_spec 2 r
  refine ⟨hI.1,fun hb=>?_⟩
  obtain ⟨h1,h2,_⟩:=hI.2 hb
  rw [e0,je_]
  refine ⟨h1,by omega,h2,fun rest=>⟨.nul,?_,e0⟩⟩
  rw [er,rI_m1 (.inl rfl),if_pos (by show (-1:Int) < 0;omega)]
 ·rw [Prod.mk.injEq] at hr
  obtain ⟨rfl,rfl⟩:=hr
  have h:=txt_fix (kk:=2) (.inl rfl) r
  refine ⟨h.1,fun hb=>?_⟩
  obtain ⟨h1,h2,h3⟩:=h.2 hb
  generalize (qo_ (rI 2 r).1 (rI 2 r).2).1.octets=o at h2 h3 ⊢
  have el:(PF.nstr.wr (.s o)).length=2 + o.length:=by rw [e,List.length_append,je_]
  refine ⟨h1,by omega,by omega,fun rest=>⟨.s o,?_,rfl⟩⟩
  have ea:PF.nstr.wr (.s o)++rest=be 2 (o.length:Nat)++(o++rest):=by rw [e,List.append_assoc]
  rw [ea,er,h3 (o++rest),if_neg (by show ¬ (((o.length:Nat):Int) < 0);omega),ze_ o rest _ rfl]
  rfl
theorem pf_cnstr:PfOk .cnstr:=by
 intro r v r' hr
 have er:∀ r,PF.cnstr.run r=if ((rUv r).1 - 1:Int) < 0 then (.nul,(rUv r).2) else (.s (qo_ ((rUv r).1 - 1:Int) (rUv r).2).1.octets,(qo_ ((rUv r).1 - 1:Int) (rUv r).2).2):=fun _=>rfl
 have e:∀ o,PF.cnstr.wr (.s o)=uvar (w32 (o.length + 1))++o:=fun _=>rfl
 have e0:PF.cnstr.wr .nul=uvar 0:=rfl
 have l0:(uvar 0).length=1:=rfl
 rw [er] at hr
 split at hr
 ·rw [Prod.mk.injEq] at hr
  obtain ⟨rfl,rfl⟩:=hr
  have hI:=j6_ r
  refine ⟨hI.2.1,fun hb=>?_⟩
  obtain ⟨h1,h2,_⟩:=hI.2.2 hb
  have hp:=jr_ (rUv r).1
  rw [e0]
  refine ⟨h1,by omega,by omega,fun rest=>⟨.nul,?_,e0⟩⟩
  rw [er,j5_ (by omega),if_pos (by show (((0:Nat):Int) - 1) < 0;omega)]
 ·rw [Prod.mk.injEq] at hr
  obtain ⟨rfl,rfl⟩:=hr
  have h:=txt_uv r
  refine ⟨h.1,fun hb=>?_⟩
  obtain ⟨h1,h2,h3⟩:=h.2 hb
  generalize (qo_ ((rUv r).1 - 1:Int) (rUv r).2).1.octets=o at h2 h3 ⊢
  have hp:=jr_ (w32 (o.length + 1))
  have el:(PF.cnstr.wr (.s o)).length=(uvar (w32 (o.length + 1))).length + o.length:=by rw [e,List.length_append]
  refine ⟨h1,by omega,by omega,fun rest=>⟨.s o,?_,rfl⟩⟩
  have ea:PF.cnstr.wr (.s o)++rest=uvar (w32 (o.length + 1))++(o++rest):=by rw [e,List.append_assoc]
  rw [ea,er,h3 (o++rest),if_neg (by show ¬ ((((o.length + 1:Nat)):Int) - 1 < 0);omega),ze_ o rest _ (by push_cast;omega)]
  rfl
theorem pf_bytes:PfOk .bytes:=by
 intro r v r' hr
 have er:∀ r,PF.bytes.run r=if (rI 4 r).1=-1 then (.s [],(rI 4 r).2) else qo_ (rI 4 r).1 (rI 4 r).2:=fun _=>rfl
 have e:∀ v:V,PF.bytes.wr v=be 4 (v.octets.length:Nat)++v.octets:=fun _=>rfl
 have again:∀ (o rest:Bs),(∀ rest,rI 4 ⟨be 4 (o.length:Nat)++rest,false,false⟩=(((o.length:Nat):Int),(⟨rest,false,false⟩:RS)))->PF.bytes.run ⟨(be 4 (o.length:Nat)++o)++rest,false,false⟩=(.s o,⟨rest,false,false⟩):=by
  intro o rest h3
  rw [List.append_assoc,er,h3 (o++rest),if_neg (by show ¬ (((o.length:Nat):Int)=-1);omega),ze_ o rest _ rfl]
 rw [er] at hr
 split at hr
 ·rw [Prod.mk.injEq] at hr
  obtain ⟨rfl,rfl⟩:=hr
  have hI:=rI_spec 4 r
  refine ⟨hI.1,fun hb=>?_⟩
  obtain ⟨h1,h2,_⟩:=hI.2 hb
  have el:(PF.bytes.wr (.s [])).length=4:=by rw [e,List.length_append,je_];rfl
  exact ⟨h1,by omega,by omega,fun rest=>⟨.s [],again [] rest (fun rest=>rI_be (k:=4) (x:=0) (by omega) (by simp only [Nat.reduceMul,Nat.reduceSub,Int.reducePow];omega) rest false),rfl⟩⟩
 ·have h:=txt_fix (kk:=4) (.inr rfl) r
  rw [hr] at h
  refine ⟨h.1,fun hb=>?_⟩
  obtain ⟨h1,h2,h3⟩:=h.2 hb
  simp only at h2 h3
  have el:(PF.bytes.wr v).length=4 + v.octets.length:=by rw [e,List.length_append,je_]
  exact ⟨h1,by omega,by omega,fun rest=>⟨.s v.octets,by rw [e];exact again _ rest h3,rfl⟩⟩
theorem pf_cbytes:PfOk .cbytes:=by
 intro r v r' hr
 have er:∀ r,PF.cbytes.run r=if ((rUv r).1 - 1:Int)=-1 then (.s [],(rUv r).2) else qo_ ((rUv r).1 - 1:Int) (rUv r).2:=fun _=>rfl
 have e:∀ v:V,PF.cbytes.wr v=uvar (w32 (v.octets.length + 1))++v.octets:=fun _=>rfl
 have again:∀ (o rest:Bs),(∀ rest,rUv ⟨uvar (w32 (o.length + 1))++rest,false,false⟩=(o.length + 1,⟨rest,false,false⟩))->PF.cbytes.run ⟨(uvar (w32 (o.length + 1))++o)++rest,false,false⟩=(.s o,⟨rest,false,false⟩):=by
  intro o rest h3
  rw [List.append_assoc,er,h3 (o++rest),if_neg (by show ¬ ((((o.length + 1:Nat)):Int) - 1=-1);omega),ze_ o rest _ (by push_cast;omega)]
 rw [er] at hr
 split at hr
 ·rw [Prod.mk.injEq] at hr
  obtain ⟨rfl,rfl⟩:=hr
  have hI:=j6_ r
  refine ⟨hI.2.1,fun hb=>?_⟩
  obtain ⟨h1,h2,_⟩:=hI.2.2 hb
  have hp:=jr_ (rUv r).1
  have el:(PF.cbytes.wr (.s [])).length=1:=rfl
  exact ⟨h1,by omega,by omega,fun rest=>⟨.s [],again [] rest (fun rest=>j5_ (x:=1) (by decide) rest false),rfl⟩⟩
 ·have h:=txt_uv r
  rw [hr] at h
  refine ⟨h.1,fun hb=>?_⟩
  obtain ⟨h1,h2,h3⟩:=h.2 hb
  simp only at h2 h3
  have hp:=jr_ (w32 (v.octets.length + 1))
  have el:(PF.cbytes.wr v).length=(uvar (w32 (v.octets.length + 1))).length + v.octets.length:=by rw [e,List.length_append]
  exact ⟨h1,by omega,by omega,fun rest=>⟨.s v.octets,by rw [e];exact again _ rest h3,rfl⟩⟩
theorem pf_nbytes:PfOk .nbytes:=by
 intro r v r' hr
 have er:∀ r,PF.nbytes.run r=if (rI 4 r).1 < 0 then (.nul,(rI 4 r).2) else qo_ (rI 4 r).1 (rI 4 r).2:=fun _=>rfl
 have e:∀ o,PF.nbytes.wr (.s o)=be 4 (o.length:Nat)++o:=fun _=>rfl
 have e0:PF.nbytes.wr .nul=be 4 (-1):=rfl
 have nul:∀ rest,PF.nbytes.run ⟨PF.nbytes.wr .nul++rest,false,false⟩=(.nul,⟨rest,false,false⟩):=fun rest=>by
  rw [e0,er,rI_m1 (.inr rfl),if_pos (by show (-1:Int) < 0;omega)]
 rw [er] at hr
 split at hr
 ·rw [Prod.mk.injEq] at hr
  obtain ⟨rfl,rfl⟩:=hr
  have hI:=rI_spec 4 r
  refine ⟨hI.1,fun hb=>?_⟩
  obtain ⟨h1,h2,_⟩:=hI.2 hb
  have el:(PF.nbytes.wr .nul).length=4:=by rw [e0,je_]
  exact ⟨h1,by omega,by omega,fun rest=>⟨.nul,nul rest,rfl⟩⟩
 ·have h:=txt_fix (kk:=4) (.inr rfl) r
  have hS:=rSpan_spec (rI 4 r).1 (rI 4 r).2
  rw [hr] at h hS
  refine ⟨h.1,fun hb=>?_⟩
  obtain ⟨h1,h2,h3⟩:=h.2 hb
  obtain ⟨_,_,_,_,_,hform⟩:=hS.2 hb
  simp only at h2 h3 hform
  rcases hform with hf | hf
  ·rw [hf] at h2 ⊢
   have el:(PF.nbytes.wr .nul).length=4:=by rw [e0,je_]
   exact ⟨h1,by omega,by omega,fun rest=>⟨.nul,nul rest,rfl⟩⟩
  ·generalize v.octets=o at h2 h3 hf
   subst hf
   have el:(PF.nbytes.wr (.s o)).length=4 + o.length:=by rw [e,List.length_append,je_]
   refine ⟨h1,by omega,by omega,fun rest=>⟨.s o,?_,rfl⟩⟩
   have ea:PF.nbytes.wr (.s o)++rest=be 4 (o.length:Nat)++(o++rest):=by rw [e,List.append_assoc]
   rw [ea,er,h3 (o++rest),if_neg (by show ¬ (((o.length:Nat):Int) < 0);omega),ze_ o rest _ rfl]
theorem pf_cnbytes:PfOk .cnbytes:=by
 intro r v r' hr
 have er:∀ r,PF.cnbytes.run r=if ((rUv r).1 - 1:Int) < 0 then (.nul,(rUv r).2) else qo_ ((rUv r).1 - 1:Int) (rUv r).2:=fun _=>rfl
 have e:∀ o,PF.cnbytes.wr (.s o)=uvar (w32 (o.length + 1))++o:=fun _=>rfl
 have e0:PF.cnbytes.wr .nul=uvar 0:=rfl
 have l0:(uvar 0).length=1:=rfl
 have nul:∀ rest,PF.cnbytes.run ⟨PF.cnbytes.wr .nul++rest,false,false⟩=(.nul,⟨rest,false,false⟩):=fun rest=>by
  rw [e0,er,j5_ (by omega),if_pos (by show (((0:Nat):Int) - 1) < 0;omega)]
 rw [er] at hr
 split at hr
 ·rw [Prod.mk.injEq] at hr
  obtain ⟨rfl,rfl⟩:=hr
  have hI:=j6_ r
  refine ⟨hI.2.1,fun hb=>?_⟩
  obtain ⟨h1,h2,_⟩:=hI.2.2 hb
  have hp:=jr_ (rUv r).1
  have el:(PF.cnbytes.wr .nul).length=1:=rfl
  exact ⟨h1,by omega,by omega,fun rest=>⟨.nul,nul rest,rfl⟩⟩
 ·have h:=txt_uv r
  have hS:=rSpan_spec ((rUv r).1 - 1:Int) (rUv r).2
  rw [hr] at h hS
  refine ⟨h.1,fun hb=>?_⟩
  obtain ⟨h1,h2,h3⟩:=h.2 hb
  obtain ⟨_,_,_,_,_,hform⟩:=hS.2 hb
  simp only at h2 h3 hform
  rcases hform with hf | hf
  ·have hp:=jr_ (w32 (v.octets.length + 1))
   have el:(PF.cnbytes.wr .nul).length=1:=rfl
   rw [hf] at h2 ⊢
   rw [hf] at hp
   exact ⟨h1,by omega,by omega,fun rest=>⟨.nul,nul rest,rfl⟩⟩
  ·generalize v.octets=o at h2 h3 hf
   subst hf
   have hp:=jr_ (w32 (o.length + 1))
   have el:(PF.cnbytes.wr (.s o)).length=(uvar (w32 (o.length + 1))).length + o.length:=by rw [e,List.length_append]
   refine ⟨h1,by omega,by omega,fun rest=>⟨.s o,?_,rfl⟩⟩
   have ea:PF.cnbytes.wr (.s o)++rest=uvar (w32 (o.length + 1))++(o++rest):=by rw [e,List.append_assoc]
   rw [ea,er,h3 (o++rest),if_neg (by show ¬ ((((o.length + 1:Nat)):Int) - 1 < 0);omega),ze_ o rest _ (by push_cast;omega)]
theorem pf_bool:PfOk .bool:=by
 intro r v r' hr
 obtain ⟨src,bad,nl⟩:=r
 have e:∀ x,PF.bool.wr (.n x)=[if x=0 then 0 else 1]:=fun _=>rfl
 cases src with
 | nil=>
  obtain rfl:RS.fail=r':=congrArg Prod.snd hr
  exact ⟨by simp [RS.fail],by simp [RS.fail]⟩
 | cons b t=>
  have er:PF.bool.run ⟨b :: t,bad,nl⟩=(.n (if b.toNat=0 then 0 else 1),⟨t,bad,nl⟩):=rfl
  rw [er,Prod.mk.injEq] at hr
  obtain ⟨rfl,rfl⟩:=hr
  refine ⟨by simp,fun hb=>⟨hb,by simp [e],by rw [e];simp;omega,fun rest=>?_⟩⟩
  by_cases h:b.toNat=0
  ·rw [if_pos h]
   exact ⟨.n 0,rfl,rfl⟩
  ·rw [if_neg h]
   exact ⟨.n 1,rfl,rfl⟩
theorem pf_u16:PfOk .u16:=by
 intro r v r' hr
 have er:∀ r,PF.u16.run r=(.n ((rU 2 r).1:Nat),(rU 2 r).2):=fun _=>rfl
 have e:∀ x,PF.u16.wr (.n x)=be 2 x:=fun _=>rfl
 rw [er,Prod.mk.injEq] at hr
 obtain ⟨rfl,rfl⟩:=hr
 have h:=rU_spec 2 r
 refine ⟨h.2.1,fun hb=>?_⟩
 obtain ⟨h1,h2,_⟩:=h.2.2 hb
 have el:(PF.u16.wr (.n ((rU 2 r).1:Nat))).length=2:=by rw [e,je_]
 refine ⟨h1,by omega,by omega,fun rest=>⟨.n ((rU 2 r).1:Nat),?_,rfl⟩⟩
 rw [e,er,rU_be h.1]
theorem pf_uuid:PfOk .uuid:=by
 intro r v r' hr
 have er:∀ r,PF.uuid.run r=if r.src.length < 16 then (.s (List.replicate 16 0),.fail) else (.s (r.src.take 16),⟨r.src.drop 16,r.bad,r.nl⟩):=fun _=>rfl
 have e:∀ o,PF.uuid.wr (.s o)=o:=fun _=>rfl
 rw [er] at hr
 split at hr
 ·rw [Prod.mk.injEq] at hr
  obtain ⟨_,rfl⟩:=hr
  exact ⟨by simp [RS.fail],by simp [RS.fail]⟩
 ·rename_i hl
  rw [Prod.mk.injEq] at hr
  obtain ⟨rfl,rfl⟩:=hr
  have hlen:(r.src.take 16).length=16:=by rw [List.length_take];omega
  refine ⟨by simp,fun hb=>⟨hb,by rw [e];omega,by rw [e,hlen,List.length_drop];omega,fun rest=>⟨.s (r.src.take 16),?_,rfl⟩⟩⟩
  generalize r.src.take 16=o at hlen
  rw [e,er,if_neg (by rw [List.length_append];omega)]
  simp only
  rw [List.take_append_of_le_length (by omega),List.take_of_length_le (by omega),List.drop_append_of_le_length (by omega),List.drop_of_length_le (by omega)]
  rfl
theorem pf_ok:∀ p:PF,PfOk p
 | .bool=>pf_bool
 | .i8=>pf_num (k:=1) (by omega) (fun _=>rfl) (fun _=>rfl)
 | .i16=>pf_num (k:=2) (by omega) (fun _=>rfl) (fun _=>rfl)
 | .i32=>pf_num (k:=4) (by omega) (fun _=>rfl) (fun _=>rfl)
 | .i64=>pf_num (k:=8) (by omega) (fun _=>rfl) (fun _=>rfl)
 | .u16=>pf_u16
 | .uuid=>pf_uuid
 | .str=>pf_txt (.inl rfl)
 | .cstr=>pf_txt (.inr rfl)
 | .nstr=>pf_nstr
 | .cnstr=>pf_cnstr
 | .bytes=>pf_bytes
 | .cbytes=>pf_cbytes
 | .nbytes=>pf_nbytes
 | .cnbytes=>pf_cnbytes
theorem rw_pf (p:PF):RW (fun r=>.ok (p.run r).1 (p.run r).2) p.wr:=by
 have key:∀ r v r',Out.ok (p.run r).1 (p.run r).2=Out.ok v r'->r'.src.length<=r.src.length/\(r'.bad=false->r.bad=false/\0 < (p.wr v).length/\(p.wr v).length + r'.src.length<=r.src.length /\
   ∀ rest,∃ v',p.run ⟨p.wr v++rest,false,false⟩=(v',⟨rest,false,false⟩)/\p.wr v'=p.wr v):=fun r v r' h=>by
  injection h with h1 h2
  exact pf_ok p r v r' (Prod.ext h1 h2)
 refine ⟨fun r v r' h hb=>((key r v r' h).2 hb).1,fun r v r' h=>(key r v r' h).1,fun r v r' h hb=>((key r v r' h).2 hb).2.2.1,fun r v r' h hb rest nl hnl _=>?_,fun r _ h=>by cases h⟩
 obtain ⟨_,h1,_,h2⟩:=(key r v r' h).2 hb
 have hnl':nl=false:=by
  cases nl with
  | false=>rfl
  | true=>
   have:=hnl rfl
   rw [List.append_eq_nil_iff] at this
   rw [this.1] at h1
   simp at h1
 subst hnl'
 obtain ⟨v',h3,h4⟩:=h2 rest
 exact ⟨v',by simp only [h3],h4⟩
theorem pf_pos {p:PF} {r r':RS} {v:V} (h:p.run r=(v,r')) (hb:r'.bad=false):0 < (p.wr v).length:=((pf_ok p r v r' h).2 hb).2.1
end Go.Proofs.YtlmanancakaapaaGreatDoor.Kx

namespace Go.Proofs.YtlmanancakaapaaGreatDoor.Kx
def TagOk (p:Nat × Bs):Prop:=p.1 < 4294967296/\p.2.length < 4294967296
theorem wTags_cons (p:Nat × Bs) (t:List (Nat × Bs)):qz_ (p :: t)=wTag p++qz_ t:=rfl
theorem wTag_len (p:Nat × Bs):(wTag p).length=(uvar p.1).length + ((uvar (w32 p.2.length)).length + p.2.length):=by simp [wTag]
theorem setTag_mem (k:Nat) (v:Bs):∀ (t:List (Nat × Bs)),∀ y ∈ jg_ k v t,y=(k,v) \/ y ∈ t
 | [],y,hy=>by simp [jg_] at hy;exact .inl hy
 | (j,u) :: r,y,hy=>by
  unfold jg_ at hy
  split at hy
  ·rcases List.mem_cons.1 hy with rfl | hy
   ·exact .inl rfl
   ·exact .inr hy
  ·split at hy
   ·rcases List.mem_cons.1 hy with rfl | hy
    ·exact .inl rfl
    ·exact .inr (List.mem_cons_of_mem _ hy)
   ·rcases List.mem_cons.1 hy with rfl | hy
    ·exact .inr (List.mem_cons_self ..)
    ·rcases setTag_mem k v r y hy with h | h
     ·exact .inl h
     ·exact .inr (List.mem_cons_of_mem _ h)
theorem setTag_len (k:Nat) (v:Bs):∀ (t:List (Nat × Bs)),(jg_ k v t).length<=t.length + 1/\(qz_ (jg_ k v t)).length<=(qz_ t).length + (wTag (k,v)).length
 | []=>by simp [jg_,qz_]
 | (j,u) :: r=>by
  have ih:=setTag_len k v r
  unfold jg_
  split
  ·simp only [wTags_cons,List.length_append,List.length_cons];omega
  ·split
   ·simp only [wTags_cons,List.length_append,List.length_cons];omega
   ·simp only [wTags_cons,List.length_append,List.length_cons];omega
theorem setTag_last (k:Nat) (v:Bs):∀ (t:List (Nat × Bs)),(∀ y ∈ t,y.1 < k)->jg_ k v t=t++[(k,v)]
 | [],_=>rfl
 | (j,u) :: r,h=>by
  have hj:=h (j,u) (List.mem_cons_self ..)
  simp only at hj
  unfold jg_
  rw [if_neg (by omega),if_neg (by omega),setTag_last k v r fun y hy=>h y (List.mem_cons_of_mem _ hy)]
  rfl
theorem rTags_spec:∀ (n:Nat) (acc:List (Nat × Bs)) (r:RS),(jq_ n acc r).2.src.length<=r.src.length/\((jq_ n acc r).2.bad=false->r.bad=false/\(qz_ (jq_ n acc r).1).length + (jq_ n acc r).2.src.length<=(qz_ acc).length + r.src.length /\
  (jq_ n acc r).1.length<=acc.length + n/\(xe_ acc->xe_ (jq_ n acc r).1)/\((∀ y ∈ acc,TagOk y)->∀ y ∈ (jq_ n acc r).1,TagOk y))
 | 0,acc,r=>⟨Nat.le_refl _,fun hb=>⟨hb,Nat.le_refl _,Nat.le_refl _,id,id⟩⟩
 | n + 1,acc,r=>by
  have h1:=j6_ r
  have h2:=j6_ (rUv r).2
  have h3:=rSpan_spec (rUv (rUv r).2).1 (rUv (rUv r).2).2
  have ih:=rTags_spec n (jg_ (rUv r).1 (qo_ (rUv (rUv r).2).1 (rUv (rUv r).2).2).1.octets acc) (qo_ (rUv (rUv r).2).1 (rUv (rUv r).2).2).2
  simp only [jq_]
  refine ⟨by omega,fun hb=>?_⟩
  obtain ⟨b3,l3,n3,r3,t3⟩:=ih.2 hb
  obtain ⟨b2,k0,o1,o2,_,_⟩:=h3.2 b3
  obtain ⟨b1,c1,_⟩:=h2.2.2 b2
  obtain ⟨b0,c0,_⟩:=h1.2.2 b1
  have hset:=setTag_len (rUv r).1 (qo_ (rUv (rUv r).2).1 (rUv (rUv r).2).2).1.octets acc
  have hw:=wTag_len ((rUv r).1,(qo_ (rUv (rUv r).2).1 (rUv (rUv r).2).2).1.octets)
  have hw32:w32 (qo_ (rUv (rUv r).2).1 (rUv (rUv r).2).2).1.octets.length=(qo_ (rUv (rUv r).2).1 (rUv (rUv r).2).2).1.octets.length:=by simp only [w32];omega
  simp only [hw32] at hw
  have hm:=uvar_mono (x:=(qo_ (rUv (rUv r).2).1 (rUv (rUv r).2).2).1.octets.length) (y:=(rUv (rUv r).2).1) (by omega) h2.1
  refine ⟨b0,by omega,by omega,fun hr=>r3 (xg_ _ _ _ hr),fun ht=>t3 fun y hy=>?_⟩
  rcases setTag_mem _ _ _ y hy with rfl | hy
  ·exact ⟨h1.1,by show (qo_ (rUv (rUv r).2).1 (rUv (rUv r).2).2).1.octets.length < _;omega⟩
  ·exact ht y hy
theorem rising_pw:∀ {l:List (Nat × Bs)},xe_ l->l.Pairwise fun a b=>a.1 < b.1
 | [],_=>List.Pairwise.nil
 | _x :: _l,h=>List.Pairwise.cons (rising_lt h) (rising_pw (rising_tail h))
theorem rTags_again:∀ (t acc:List (Nat × Bs)) (rest:Bs),(acc++t).Pairwise (fun a b=>a.1 < b.1)->(∀ y ∈ t,TagOk y)->jq_ t.length acc ⟨qz_ t++rest,false,false⟩=(acc++t,⟨rest,false,false⟩)
 | [],acc,rest,_,_=>by simp [jq_,qz_]
 | (k,v) :: t,acc,rest,hp,hok=>by
  have hkv:=hok (k,v) (List.mem_cons_self ..)
  have hv32:v.length < 4294967296:=hkv.2
  have hw32:w32 v.length=v.length:=by simp only [w32];omega
  have e1:qz_ ((k,v) :: t)++rest=uvar k++(uvar v.length++(v++(qz_ t++rest))):=by simp [wTags_cons,wTag,hw32,List.append_assoc]
  have hlast:jg_ k v acc=acc++[(k,v)]:=setTag_last k v acc fun y hy=>(List.pairwise_append.1 hp).2.2 y hy (k,v) (List.mem_cons_self ..)
  show jq_ (t.length + 1) acc _=_
  simp only [jq_]
  rw [e1,j5_ hkv.1,j5_ hkv.2,ze_ v _ _ rfl]
  show jq_ t.length (jg_ k v acc) ⟨qz_ t++rest,false,false⟩=_
  rw [hlast,rTags_again t (acc++[(k,v)]) rest (by simpa using hp) fun y hy=>hok y (List.mem_cons_of_mem _ hy)]
  simp
theorem wCnt_t (n:Nat):wCnt true n=uvar (w32 (n + 1)):=rfl
theorem rLen_spec (fx:Bool) (r:RS):(j0_ fx r).2.src.length<=r.src.length/\((j0_ fx r).2.bad=false->r.bad=false/\(j0_ fx r).1 < 2147483648/\(j0_ fx r).1<=(j0_ fx r).2.src.length/\(wNull fx 4).length + (j0_ fx r).2.src.length<=r.src.length/\(wCnt fx 0).length + (j0_ fx r).2.src.length<=r.src.length /\
  (0 < (j0_ fx r).1->(wCnt fx (j0_ fx r).1.toNat).length + (j0_ fx r).2.src.length<=r.src.length)):=by
 cases fx with
 | true=>
  have h:=j6_ r
  unfold j0_
  simp only [if_true]
  split
  ·simp [RS.fail]
  ·rename_i hn
   refine ⟨h.2.1,fun hb=>?_⟩
   obtain ⟨b0,c0,_⟩:=h.2.2 hb
   have hp:=jr_ (rUv r).1
   have e0:(wNull true 4).length=1:=rfl
   have e1:(wCnt true 0).length=1:=rfl
   simp only at hn ⊢
   have hlt:j1_ (j1_ ((rUv r).1:Int) - 1) < 2147483648:=by simp only [j1_];omega
   refine ⟨b0,hlt,by omega,by omega,by omega,fun hpos=>?_⟩
   have hu:(j1_ (j1_ ((rUv r).1:Int) - 1)).toNat + 1=(rUv r).1:=by
    have:=h.1
    simp only [j1_] at hpos ⊢
    omega
   have e2:wCnt true (j1_ (j1_ ((rUv r).1:Int) - 1)).toNat=uvar (rUv r).1:=by
    rw [wCnt_t,hu]
    have:w32 (rUv r).1=(rUv r).1:=by simp only [w32];have:=h.1;omega
    rw [this]
   rw [e2];exact c0
 | false=>
  have h:=rI_spec 4 r
  have hr:=rI_rng (k:=4) (by omega) r
  simp only [Nat.reduceMul,Nat.reduceSub,Int.reducePow] at hr
  unfold j0_
  simp only [Bool.false_eq_true,if_false]
  split
  ·simp [RS.fail]
  ·rename_i hn
   refine ⟨h.1,fun hb=>?_⟩
   obtain ⟨b0,c0,_⟩:=h.2 hb
   have e0:(wNull false 4).length=4:=je_ 4 _
   have e1:∀ n,(wCnt false n).length=4:=fun n=>je_ 4 _
   have e2:=e1 (rI 4 r).1.toNat
   have e3:=e1 0
   exact ⟨b0,hr.2,by omega,by omega,by omega,fun _=>by omega⟩
theorem rLen_cnt (fx:Bool) {n:Nat} (hn:n < 2147483648) (rest:Bs) (hr:n<=rest.length):j0_ fx ⟨wCnt fx n++rest,false,false⟩=((n:Int),⟨rest,false,false⟩):=by
 cases fx with
 | true=>
  have e:wCnt true n=uvar (n + 1):=by
   rw [wCnt_t]
   have:w32 (n + 1)=n + 1:=by simp only [w32];omega
   rw [this]
  have hw:j1_ (j1_ ((n + 1:Nat):Int) - 1)=(n:Int):=by simp only [j1_];omega
  unfold j0_
  simp only [if_true]
  rw [e,j5_ (by omega)]
  simp only [hw]
  rw [if_neg (by omega)]
 | false=>
  unfold j0_
  simp only [Bool.false_eq_true,if_false]
  have e:wCnt false n=be 4 (n:Nat):=rfl
  rw [e,rI_be (k:=4) (by omega) (by simp only [Nat.reduceMul,Nat.reduceSub,Int.reducePow];omega)]
  simp only
  rw [if_neg (by omega)]
theorem rLen_null (fx:Bool) (rest:Bs):j0_ fx ⟨wNull fx 4++rest,false,false⟩=(-1,⟨rest,false,false⟩):=by
 cases fx with
 | true=>
  have e:wNull true 4=uvar 0:=rfl
  unfold j0_
  simp only [if_true]
  rw [e,j5_ (by omega)]
  have hw:j1_ (j1_ ((0:Nat):Int) - 1)=-1:=by simp only [j1_];omega
  simp only [hw]
  rw [if_neg (by omega)]
 | false=>
  unfold j0_
  simp only [Bool.false_eq_true,if_false]
  have e:wNull false 4=be 4 (-1):=rfl
  rw [e,rI_m1 (.inr rfl)]
  simp only
  rw [if_neg (by omega)]
theorem wCnt_pos (fx:Bool) (n:Nat):0 < (wCnt fx n).length:=by
 cases fx with
 | true=>exact jr_ _
 | false=>rw [show wCnt false n=be 4 (n:Nat) from rfl,je_];omega
theorem wNull_pos (fx:Bool):0 < (wNull fx 4).length:=by
 cases fx with
 | true=>exact jr_ 0
 | false=>rw [show wNull false 4=be 4 (-1) from rfl,je_];omega
def Pos (f:RS->Out V) (w:V->Bs):Prop:=∀ r v r',f r=.ok v r'->r'.bad=false->0 < (w v).length
theorem jt_ {α β:Type} {x:Out α} {f:α->RS->Out β} {b:β} {r':RS} (h:x.bind f=.ok b r'):∃ a r,x=.ok a r/\f a r=.ok b r':=by
 cases x with
 | ok a r=>exact ⟨a,r,rfl,h⟩
 | err=>cases h
 | stuck=>cases h
theorem rw_many {f:RS->Out V} {w:V->Bs} (hf:RW f w) (hp:Pos f w):∀ (n:Nat),RW (xb_ f n) (wMany w)/\(∀ r vs r',xb_ f n r=.ok vs r'->vs.length=n/\(r'.bad=false->n<=(wMany w vs).length))
 | 0=>by
  have key:∀ r vs r',xb_ f 0 r=.ok vs r'->vs=[]/\r'=r:=fun r vs r' h=>by
   simp only [xb_,Out.ok.injEq] at h
   exact ⟨h.1.symm,h.2.symm⟩
  refine ⟨⟨fun r v r' h hb=>?_,fun r v r' h=>?_,fun r v r' h hb=>?_,fun r v r' h hb rest nl _ _=>?_,fun r _ h=>by cases h⟩,fun r vs r' h=>?_⟩ <;> obtain ⟨rfl,rfl⟩:=key _ _ _ h
  ·exact hb
  ·exact Nat.le_refl _
  ·simp [wMany]
  ·exact ⟨[],rfl,rfl⟩
  ·exact ⟨rfl,fun _=>by simp⟩
 | n + 1=>by
  obtain ⟨ih,ihl⟩:=rw_many hf hp n
  have key:∀ r vs r',xb_ f (n + 1) r=.ok vs r'->∃ v r1 vs',f r=.ok v r1/\xb_ f n r1=.ok vs' r'/\vs=v :: vs':=fun r vs r' h=>by
   simp only [xb_] at h
   obtain ⟨v,r1,h1,h2⟩:=jt_ h
   obtain ⟨vs',r2,h3,h4⟩:=jt_ h2
   simp only [Out.ok.injEq] at h4
   obtain ⟨rfl,rfl⟩:=h4
   exact ⟨v,r1,vs',h1,h3,rfl⟩
  have hw:∀ v vs',wMany w (v :: vs')=w v++wMany w vs':=fun _ _=>rfl
  refine ⟨⟨fun r vs r' h hb=>?_,fun r vs r' h=>?_,fun r vs r' h hb=>?_,fun r vs r' h hb rest nl hnl hbig=>?_,fun r hr h=>?_⟩,fun r vs r' h=>?_⟩
  ·obtain ⟨v,r1,vs',h1,h2,rfl⟩:=key _ _ _ h
   exact hf.bad _ _ _ h1 (ih.bad _ _ _ h2 hb)
  ·obtain ⟨v,r1,vs',h1,h2,rfl⟩:=key _ _ _ h
   exact Nat.le_trans (ih.le _ _ _ h2) (hf.le _ _ _ h1)
  ·obtain ⟨v,r1,vs',h1,h2,rfl⟩:=key _ _ _ h
   have a:=hf.len _ _ _ h1 (ih.bad _ _ _ h2 hb)
   have b:=ih.len _ _ _ h2 hb
   rw [hw,List.length_append];omega
  ·obtain ⟨v,r1,vs',h1,h2,rfl⟩:=key _ _ _ h
   rw [hw,List.append_assoc] at hnl hbig
   obtain ⟨v2,h3,h4⟩:=hf.again _ _ _ h1 (ih.bad _ _ _ h2 hb) (wMany w vs'++rest) nl hnl hbig
   rw [List.length_append] at hbig
   obtain ⟨vs2,h5,h6⟩:=ih.again _ _ _ h2 hb rest nl (fun hh=>(List.append_eq_nil_iff.1 (hnl hh)).2) (by omega)
   refine ⟨v2 :: vs2,?_,by rw [hw,hw,h4,h6]⟩
   rw [hw,List.append_assoc]
   simp only [xb_,h3,Out.bind,h5]
  ·simp only [xb_] at h
   cases hv:f r with
   | err=>rw [hv] at h;cases h
   | stuck=>exact hf.go r hr hv
   | ok v r1=>
    rw [hv] at h
    simp only [Out.bind] at h
    have:=hf.le _ _ _ hv
    cases hvs:xb_ f n r1 with
    | err=>rw [hvs] at h;cases h
    | stuck=>exact ih.go r1 (by omega) hvs
    | ok vs r2=>rw [hvs] at h;cases h
  ·obtain ⟨v,r1,vs',h1,h2,rfl⟩:=key _ _ _ h
   have a:=ihl _ _ _ h2
   refine ⟨by simp [a.1],fun hb=>?_⟩
   have b:=a.2 hb
   have c:=hp _ _ _ h1 (ih.bad _ _ _ h2 hb)
   rw [hw,List.length_append];omega
end Go.Proofs.YtlmanancakaapaaGreatDoor.Kx

namespace Go.Proofs.YtlmanancakaapaaGreatDoor.Kx
inductive Tr where
 | mk (n:Int) (s:Bs) (null:Bool) (l:List Tr) (u:List (UInt32 × Bs))
def Tr.num:Tr->Int | .mk n _ _ _ _=>n
def Tr.octets:Tr->Bs | .mk _ s _ _ _=>s
def Tr.null:Tr->Bool | .mk _ _ b _ _=>b
def Tr.list:Tr->List Tr | .mk _ _ _ l _=>l
def Tr.tags:Tr->List (Nat × Bs) | .mk _ _ _ _ u=>u.map fun p=>(p.1.toNat,p.2)
def Tr.zero:Tr:=.mk 0 [] false [] []
def Tr.at (t:Tr) (i:Nat):Tr:=t.list.getD i .zero
inductive SFs where
 | nil
 | cons (kind:Nat) (lo hi nul tag df:Int) (of:Nat) (sub:SFs) (r:SFs)
end Go.Proofs.YtlmanancakaapaaGreatDoor.Kx

namespace Go.Proofs.YtlmanancakaapaaGreatDoor.Kx
structure TagRW (f:V->RS->Out V) (w:V->Bs) (df:V) (isD:V->Bool):Prop where
 len:∀ old r v r',f old r=.ok v r'->r'.bad=false->(w v).length<=r.src.length
 again:∀ old r v r',f old r=.ok v r'->r'.bad=false->isD v=false->(w v).length<=BIG->∃ v',f df ⟨w v,false,false⟩=.ok v' ⟨[],false,false⟩/\w v'=w v/\isD v'=false
 dfD:isD df=true
 go:∀ old r,r.src.length<=BIG->f old r ≠ .stuck
structure OneTag (tag:Nat->Option (List V->RS->Out (List V))) (k:Nat) (G:List V->Prop) (get:List V->V) (set:List V->V->List V) (f:V->RS->Out V):Prop where
 yes:∃ g,tag k=some g/\∀ vs r,G vs->g vs r=(f (get vs) r).bind fun v r=>.ok (set vs v) r
 no:∀ j,j ≠ k->tag j=none
 gs:∀ vs v,get (set vs v)=v
 ss:∀ vs u v,set (set vs u) v=set vs v
 good:∀ vs v,G vs->G (set vs v)
def tgOne (k:Nat) (w:V->Bs) (isD:V->Bool) (v:V):List (Nat × Bs):=if isD v then [] else [(k,w v)]
section
variable {tag:Nat->Option (List V->RS->Out (List V))} {k:Nat} {G:List V->Prop} {get:List V->V} {set:List V->V->List V} {f:V->RS->Out V} {w:V->Bs} {df:V} {isD:V->Bool}
theorem loop_none {n:Nat} {vs:List V} {t:List (Nat × Bs)} {r:RS} (h:tag (rUv r).1=none):qq_ tag (n + 1) vs t r=qq_ tag n vs (jg_ (rUv r).1 (qo_ (rUv (rUv r).2).1 (rUv (rUv r).2).2).1.octets t) (qo_ (rUv (rUv r).2).1 (rUv (rUv r).2).2).2:=by
 simp only [qq_,h]
theorem loop_some {n:Nat} {vs:List V} {t:List (Nat × Bs)} {r:RS} {g:List V->RS->Out (List V)} {y:Out (List V)} (h:tag (rUv r).1=some g) (hy:g vs ⟨(qo_ (rUv (rUv r).2).1 (rUv (rUv r).2).2).1.octets,false,(qo_ (rUv (rUv r).2).1 (rUv (rUv r).2).2).1.isNul⟩=y) :
  (∀ vs' r',y=.ok vs' r'->r'.bad=false->qq_ tag (n + 1) vs t r=qq_ tag n vs' t (qo_ (rUv (rUv r).2).1 (rUv (rUv r).2).2).2)/\(∀ vs' r',y=.ok vs' r'->r'.bad=true->qq_ tag (n + 1) vs t r=.err)/\(y=.err->qq_ tag (n + 1) vs t r=.err)/\(y=.stuck->qq_ tag (n + 1) vs t r=.stuck):=by
 refine ⟨fun vs' r' he hb=>?_,fun vs' r' he hb=>?_,fun he=>?_,fun he=>?_⟩ <;> rw [he] at hy
 ·simp only [qq_,h,hy,hb,Bool.false_eq_true,if_false]
 ·simp only [qq_,h,hy,hb,if_true]
 ·simp only [qq_,h,hy]
 ·simp only [qq_,h,hy]
def Seen (f:V->RS->Out V) (v:V):Prop:=∃ old r r',f old r=.ok v r'/\r'.bad=false/\r.src.length < 4294967296
theorem wTags_tgOne (v:V):(qz_ (tgOne k w isD v)).length<=(wTag (k,w v)).length/\(tgOne k w isD v).length<=1:=by
 unfold tgOne
 split
 ·simp [qz_]
 ·simp [qz_]
theorem loop_spec (H:OneTag tag k G get set f) (F:TagRW f w df isD):∀ (n:Nat) (vs:List V) (t:List (Nat × Bs)) (r:RS) (v:V) (r':RS),G vs->qq_ tag n vs t r=.ok v r'->r'.src.length<=r.src.length/\(r'.bad=false->r.bad=false/\∃ vs' t',v=.st vs' t'/\(vs'=vs \/ ∃ u,vs'=set vs u/\Seen f u) /\
  (qz_ (tgOne k w isD (get vs'))).length + (qz_ t').length + r'.src.length<=(qz_ (tgOne k w isD (get vs))).length + (qz_ t).length + r.src.length/\(tgOne k w isD (get vs')).length + t'.length<=(tgOne k w isD (get vs)).length + t.length + n /\
  (xe_ t->xe_ t')/\((∀ y ∈ t,TagOk y/\y.1 ≠ k)->∀ y ∈ t',TagOk y/\y.1 ≠ k))
 | 0,vs,t,r,v,r',_,h=>by
  simp only [qq_,Out.ok.injEq] at h
  obtain ⟨rfl,rfl⟩:=h
  exact ⟨Nat.le_refl _,fun hb=>⟨hb,vs,t,rfl,.inl rfl,Nat.le_refl _,Nat.le_refl _,id,id⟩⟩
 | n + 1,vs,t,r,v,r',hG,h=>by
  have h1:=j6_ r
  have h2:=j6_ (rUv r).2
  have h3:=rSpan_spec (rUv (rUv r).2).1 (rUv (rUv r).2).2
  by_cases hk:(rUv r).1=k
  ·obtain ⟨g,hg,hgv⟩:=H.yes
   rw [<- hk] at hg
   have hy:=hgv vs ⟨(qo_ (rUv (rUv r).2).1 (rUv (rUv r).2).2).1.octets,false,(qo_ (rUv (rUv r).2).1 (rUv (rUv r).2).2).1.isNul⟩ hG
   obtain ⟨l1,l2,l3,l4⟩:=loop_some (n:=n) (t:=t) hg hy
   cases hf:f (get vs) ⟨(qo_ (rUv (rUv r).2).1 (rUv (rUv r).2).2).1.octets,false,(qo_ (rUv (rUv r).2).1 (rUv (rUv r).2).2).1.isNul⟩ with
   | err=>rw [l3 (by rw [hf];rfl)] at h;cases h
   | stuck=>rw [l4 (by rw [hf];rfl)] at h;cases h
   | ok u ru=>
    cases hub:ru.bad with
    | true=>rw [l2 _ ru (by rw [hf];rfl) hub] at h;cases h
    | false=>
     rw [l1 _ ru (by rw [hf];rfl) hub] at h
     obtain ⟨i1,i2⟩:=loop_spec H F n (set vs u) t _ v r' (H.good vs u hG) h
     refine ⟨by omega,fun hb=>?_⟩
     obtain ⟨b3,vs',t',rfl,hv,hl,hn,hr,ht⟩:=i2 hb
     obtain ⟨b2,k0,o1,o2,_,_⟩:=h3.2 b3
     obtain ⟨b1,c1,_⟩:=h2.2.2 b2
     obtain ⟨b0,c0,_⟩:=h1.2.2 b1
     have hlen:=F.len _ _ _ _ hf hub
     simp only at hlen
     have ho32:(qo_ (rUv (rUv r).2).1 (rUv (rUv r).2).2).1.octets.length < 4294967296:=by omega
     have hseen:Seen f u:=⟨_,_,_,hf,hub,ho32⟩
     have hm:=uvar_mono (x:=(w u).length) (y:=(rUv (rUv r).2).1) (by omega) h2.1
     have hw:=wTag_len (k,w u)
     have hw32:w32 (w u).length=(w u).length:=by simp only [w32];omega
     simp only [hw32] at hw
     have hu:=wTags_tgOne (k:=k) (w:=w) (isD:=isD) u
     rw [H.gs] at hl hn
     rw [hk] at c0
     refine ⟨b0,vs',t',rfl,?_,by omega,by omega,hr,ht⟩
     rcases hv with rfl | ⟨u',rfl,hs⟩
     ·exact .inr ⟨u,rfl,hseen⟩
     ·exact .inr ⟨u',by rw [H.ss],hs⟩
  ·rw [loop_none (H.no _ hk)] at h
   obtain ⟨i1,i2⟩:=loop_spec H F n vs _ _ v r' hG h
   refine ⟨by omega,fun hb=>?_⟩
   obtain ⟨b3,vs',t',rfl,hv,hl,hn,hr,ht⟩:=i2 hb
   obtain ⟨b2,k0,o1,o2,_,_⟩:=h3.2 b3
   obtain ⟨b1,c1,_⟩:=h2.2.2 b2
   obtain ⟨b0,c0,_⟩:=h1.2.2 b1
   have hset:=setTag_len (rUv r).1 (qo_ (rUv (rUv r).2).1 (rUv (rUv r).2).2).1.octets t
   have hw:=wTag_len ((rUv r).1,(qo_ (rUv (rUv r).2).1 (rUv (rUv r).2).2).1.octets)
   have hw32:w32 (qo_ (rUv (rUv r).2).1 (rUv (rUv r).2).2).1.octets.length=(qo_ (rUv (rUv r).2).1 (rUv (rUv r).2).2).1.octets.length:=by simp only [w32];omega
   simp only [hw32] at hw
   have hm:=uvar_mono (x:=(qo_ (rUv (rUv r).2).1 (rUv (rUv r).2).2).1.octets.length) (y:=(rUv (rUv r).2).1) (by omega) h2.1
   refine ⟨b0,vs',t',rfl,hv,by omega,by omega,fun hrt=>hr (xg_ _ _ _ hrt),fun htt=>ht fun y hy=>?_⟩
   rcases setTag_mem _ _ _ y hy with rfl | hy
   ·exact ⟨⟨h1.1,by show (qo_ (rUv (rUv r).2).1 (rUv (rUv r).2).2).1.octets.length < _;omega⟩,hk⟩
   ·exact htt y hy
theorem loop_go (H:OneTag tag k G get set f) (F:TagRW f w df isD):∀ (n:Nat) (vs:List V) (t:List (Nat × Bs)) (r:RS),G vs->r.src.length<=BIG->qq_ tag n vs t r ≠ .stuck
 | 0,vs,t,r,_,_=>by simp only [qq_];intro h;cases h
 | n + 1,vs,t,r,hG,hr=>by
  have h1:=j6_ r
  have h2:=j6_ (rUv r).2
  have h3:=rSpan_spec (rUv (rUv r).2).1 (rUv (rUv r).2).2
  have ho:(qo_ (rUv (rUv r).2).1 (rUv (rUv r).2).2).1.octets.length<=BIG:=by
   simp only [qo_]
   split
   ·simp [V.octets]
   ·split
    ·simp [V.octets]
    ·simp only [V.octets,List.length_take];omega
  by_cases hk:(rUv r).1=k
  ·obtain ⟨g,hg,hgv⟩:=H.yes
   rw [<- hk] at hg
   obtain ⟨l1,l2,l3,l4⟩:=loop_some (n:=n) (t:=t) hg (hgv vs ⟨(qo_ (rUv (rUv r).2).1 (rUv (rUv r).2).2).1.octets,false,(qo_ (rUv (rUv r).2).1 (rUv (rUv r).2).2).1.isNul⟩ hG)
   cases hf:f (get vs) ⟨(qo_ (rUv (rUv r).2).1 (rUv (rUv r).2).2).1.octets,false,(qo_ (rUv (rUv r).2).1 (rUv (rUv r).2).2).1.isNul⟩ with
   | err=>rw [l3 (by rw [hf];rfl)];intro h;cases h
   | stuck=>exact absurd hf (F.go _ _ ho)
   | ok u ru=>
    cases hub:ru.bad with
    | true=>rw [l2 _ ru (by rw [hf];rfl) hub];intro h;cases h
    | false=>
     rw [l1 _ ru (by rw [hf];rfl) hub]
     exact loop_go H F n _ t _ (H.good _ _ hG) (by omega)
  ·rw [loop_none (H.no _ hk)]
   exact loop_go H F n _ _ _ hG (by omega)
theorem loop_again (hno:∀ j,j ≠ k->tag j=none):∀ (t acc:List (Nat × Bs)) (vs:List V) (rest:Bs),(acc++t).Pairwise (fun a b=>a.1 < b.1)->(∀ y ∈ t,TagOk y/\y.1 ≠ k)->qq_ tag t.length vs acc ⟨qz_ t++rest,false,false⟩=.ok (.st vs (acc++t)) ⟨rest,false,false⟩
 | [],acc,vs,rest,_,_=>by simp [qq_,qz_]
 | (j,v) :: t,acc,vs,rest,hp,hok=>by
  have hkv:=hok (j,v) (List.mem_cons_self ..)
  have hv32:v.length < 4294967296:=hkv.1.2
  have hw32:w32 v.length=v.length:=by simp only [w32];omega
  have e1:qz_ ((j,v) :: t)++rest=uvar j++(uvar v.length++(v++(qz_ t++rest))):=by simp [wTags_cons,wTag,hw32,List.append_assoc]
  have hlast:jg_ j v acc=acc++[(j,v)]:=setTag_last j v acc fun y hy=>(List.pairwise_append.1 hp).2.2 y hy (j,v) (List.mem_cons_self ..)
  show qq_ tag (t.length + 1) vs acc _=_
  have hn:=hno j hkv.2
  rw [e1,loop_none (by rw [j5_ hkv.1.1];exact hn),j5_ hkv.1.1]
  simp only
  rw [j5_ hkv.1.2,ze_ v _ _ rfl]
  show qq_ tag t.length vs (jg_ j v acc) ⟨qz_ t++rest,false,false⟩=_
  rw [hlast,loop_again hno t (acc++[(j,v)]) vs rest (by simpa using hp) fun y hy=>hok y (List.mem_cons_of_mem _ hy)]
  simp
theorem rw_stT {fx:Bool} {fields:RS->Out (List V)} {wF:List V->Bs} {wT:List V->List (Nat × Bs)} (hk32:k < 4294967296) (H:OneTag tag k G get set f) (F:TagRW f w df isD) (hf:RW fields wF) (hG:∀ r vs r',fields r=.ok vs r'->G vs/\get vs=df)
  (hwF:∀ vs u,G vs->wF (set vs u)=wF vs) (hwT:∀ vs,G vs->wT vs=tgOne k w isD (get vs)):RW (jb_ fx true fields tag) (fun v=>wF v.fields++zy_ fx (wT v.fields) v.tags):=by
 cases fx with
 | false=>
  have er:∀ r,jb_ false true fields tag r=(fields r).bind fun vs r=>.ok (.st vs []) r:=fun r=>by simp only [jb_];rfl
  have key:∀ r v r',jb_ false true fields tag r=.ok v r'->∃ vs,fields r=.ok vs r'/\v=.st vs []:=fun r v r' h=>by
   rw [er] at h
   obtain ⟨vs,r1,h1,h2⟩:=jt_ h
   simp only [Out.ok.injEq] at h2
   obtain ⟨rfl,rfl⟩:=h2
   exact ⟨vs,h1,rfl⟩
  have ew:∀ vs,wF (V.st vs []).fields++zy_ false (wT (V.st vs []).fields) (V.st vs []).tags=wF vs:=fun vs=>by simp [V.fields,zy_]
  refine ⟨fun r v r' h hb=>?_,fun r v r' h=>?_,fun r v r' h hb=>?_,fun r v r' h hb rest nl hnl hbig=>?_,fun r hr h=>?_⟩
  ·obtain ⟨vs,h1,rfl⟩:=key _ _ _ h;exact hf.bad _ _ _ h1 hb
  ·obtain ⟨vs,h1,rfl⟩:=key _ _ _ h;exact hf.le _ _ _ h1
  ·obtain ⟨vs,h1,rfl⟩:=key _ _ _ h;simp only [ew];exact hf.len _ _ _ h1 hb
  ·obtain ⟨vs,h1,rfl⟩:=key _ _ _ h
   simp only [ew] at hnl hbig ⊢
   obtain ⟨vs2,h2,h3⟩:=hf.again _ _ _ h1 hb rest nl hnl hbig
   refine ⟨.st vs2 [],?_,by simp only [ew];exact h3⟩
   rw [er,h2]
   rfl
  ·rw [er] at h
   cases hv:fields r with
   | err=>rw [hv] at h;cases h
   | stuck=>exact hf.go r hr hv
   | ok vs r1=>rw [hv] at h;cases h
 | true=>
  have er:∀ r,jb_ true true fields tag r=(fields r).bind fun vs r=>qq_ tag (rUv r).1 vs [] (rUv r).2:=fun r=>by simp only [jb_];rfl
  have key:∀ r v r',jb_ true true fields tag r=.ok v r'->∃ vs r1,fields r=.ok vs r1/\qq_ tag (rUv r1).1 vs [] (rUv r1).2=.ok v r':=fun r v r' h=>by
   rw [er] at h
   exact jt_ h
  have tg:∀ r1 vs v r',G vs->get vs=df->qq_ tag (rUv r1).1 vs [] (rUv r1).2=.ok v r'->r'.bad=false->r1.bad=false/\∃ vs' t,v=.st vs' t/\(vs'=vs \/ ∃ u,vs'=set vs u/\Seen f u) /\
    (uvar (w32 ((wT vs').length + t.length))).length + ((qz_ (wT vs')).length + (qz_ t).length) + r'.src.length<=r1.src.length/\w32 ((wT vs').length + t.length)=(wT vs').length + t.length/\(wT vs').length + t.length < 4294967296/\xe_ t/\(∀ y ∈ t,TagOk y/\y.1 ≠ k)/\G vs':=fun r1 vs v r' hg hd h hb=>by
   have h1:=j6_ r1
   obtain ⟨b1,vs',t,rfl,hv,hl,hn,hr,ht⟩:=(loop_spec H F _ vs [] _ v r' hg h).2 hb
   obtain ⟨b0,c0,_⟩:=h1.2.2 b1
   have hG':G vs':=by
    rcases hv with rfl | ⟨u,rfl,_⟩
    ·exact hg
    ·exact H.good _ _ hg
   have e0:tgOne k w isD (get vs)=[]:=by rw [hd];simp only [tgOne,F.dfD,if_true]
   rw [e0,<- hwT vs' hG'] at hl hn
   have e1:(qz_ []).length=0:=rfl
   simp only [List.length_nil,e1] at hl hn
   have hw:w32 ((wT vs').length + t.length)=(wT vs').length + t.length:=by simp only [w32];have:=h1.1;omega
   have hm:=uvar_mono (x:=(wT vs').length + t.length) (y:=(rUv r1).1) (by omega) h1.1
   exact ⟨b0,vs',t,rfl,hv,by rw [hw];omega,hw,by have:=h1.1;omega,hr trivial,ht (by simp),hG'⟩
  have ew:∀ vs t,wF (V.st vs t).fields++zy_ true (wT (V.st vs t).fields) (V.st vs t).tags=wF vs++(uvar (w32 ((wT vs).length + t.length))++(qz_ (wT vs)++qz_ t)):=fun vs t=>by simp [V.fields,V.tags,zy_]
  have wFe:∀ vs vs',G vs->(vs'=vs \/ ∃ u,vs'=set vs u/\Seen f u)->wF vs'=wF vs:=fun vs vs' hg h=>by
   rcases h with rfl | ⟨u,rfl,_⟩
   ·rfl
   ·exact hwF _ _ hg
  refine ⟨fun r v r' h hb=>?_,fun r v r' h=>?_,fun r v r' h hb=>?_,fun r v r' h hb rest nl hnl hbig=>?_,fun r hr h=>?_⟩
  ·obtain ⟨vs,r1,h1,h2⟩:=key _ _ _ h
   obtain ⟨hg,hd⟩:=hG _ _ _ h1
   exact hf.bad _ _ _ h1 (tg r1 vs v r' hg hd h2 hb).1
  ·obtain ⟨vs,r1,h1,h2⟩:=key _ _ _ h
   obtain ⟨hg,hd⟩:=hG _ _ _ h1
   exact Nat.le_trans (loop_spec H F _ vs [] _ v r' hg h2).1 (Nat.le_trans (j6_ r1).2.1 (hf.le _ _ _ h1))
  ·obtain ⟨vs,r1,h1,h2⟩:=key _ _ _ h
   obtain ⟨hg,hd⟩:=hG _ _ _ h1
   obtain ⟨b1,vs',t,rfl,hv,c1,_⟩:=tg r1 vs v r' hg hd h2 hb
   have a:=hf.len _ _ _ h1 b1
   simp only [ew,List.length_append,wFe vs vs' hg hv];omega
  ·obtain ⟨vs,r1,h1,h2⟩:=key _ _ _ h
   obtain ⟨hg,hd⟩:=hG _ _ _ h1
   obtain ⟨b1,vs',t,rfl,hv,c1,hw,hlt,hris,hok,hG'⟩:=tg r1 vs v r' hg hd h2 hb
   simp only [ew] at hnl hbig ⊢
   rw [wFe vs vs' hg hv] at hnl hbig ⊢
   have hnlf:nl=false:=by
    cases nl with
    | false=>rfl
    | true=>
     have:=hnl rfl
     simp only [List.append_eq_nil_iff] at this
     have hp:=jr_ (w32 ((wT vs').length + t.length))
     rw [this.1.2.1] at hp
     simp at hp
   subst hnlf
   rw [List.append_assoc] at hbig
   obtain ⟨vs2,h3,h4⟩:=hf.again _ _ _ h1 b1 ((uvar (w32 ((wT vs').length + t.length))++(qz_ (wT vs')++qz_ t))++rest) false (by simp) hbig
   obtain ⟨hg2,hd2⟩:=hG _ _ _ h3
   have hpw:=rising_pw hris
   have hstart:jb_ true true fields tag ⟨wF vs++(uvar (w32 ((wT vs').length + t.length))++(qz_ (wT vs')++qz_ t))++rest,false,false⟩=qq_ tag ((wT vs').length + t.length) vs2 [] ⟨qz_ (wT vs')++(qz_ t++rest),false,false⟩:=by
    rw [List.append_assoc,er,h3]
    simp only [Out.bind]
    rw [List.append_assoc,hw,j5_ hlt,List.append_assoc]
   rw [hstart]
   have hT:=hwT vs' hG'
   cases hD:isD (get vs') with
   | true=>
    have hT0:wT vs'=[]:=by rw [hT];simp only [tgOne,hD,if_true]
    have e0:qz_ []=[]:=rfl
    rw [hT0,e0,List.nil_append,List.length_nil,Nat.zero_add]
    refine ⟨.st vs2 t,?_,?_⟩
    ·rw [loop_again H.no t [] vs2 rest (by simpa using hpw) hok,List.nil_append]
    ·have hT2:wT vs2=[]:=by rw [hwT vs2 hg2,hd2];simp only [tgOne,F.dfD,if_true]
     simp only [ew,h4,hT2,e0,List.length_nil,Nat.zero_add,List.nil_append]
   | false=>
    have hT1:wT vs'=[(k,w (get vs'))]:=by rw [hT];simp only [tgOne,hD,Bool.false_eq_true,if_false]
    obtain ⟨u,rfl,hseen⟩:∃ u,vs'=set vs u/\Seen f u:=by
     rcases hv with rfl | h
     ·rw [hd,F.dfD] at hD;cases hD
     ·exact h
    rw [H.gs] at hT1 hD
    obtain ⟨old,ru,ru',hfu,hfb,h32⟩:=hseen
    have hlen:=F.len _ _ _ _ hfu hfb
    have hw32:w32 (w u).length=(w u).length:=by simp only [w32];omega
    have hbigw:(w u).length<=BIG:=by
     rw [hT1] at hbig
     simp only [List.length_append,wTags_cons,wTag] at hbig
     omega
    obtain ⟨u2,h5,h6,h7⟩:=F.again _ _ _ _ hfu hfb hD hbigw
    have hset2:wT (set vs2 u2)=[(k,w u)]:=by rw [hwT _ (H.good _ _ hg2),H.gs];simp only [tgOne,h7,Bool.false_eq_true,if_false,h6]
    obtain ⟨g,hg',hgv⟩:=H.yes
    have e1:qz_ [(k,w u)]++(qz_ t++rest)=uvar k++(uvar (w u).length++(w u++(qz_ t++rest))):=by simp [qz_,wTag,hw32,List.append_assoc]
    refine ⟨.st (set vs2 u2) t,?_,?_⟩
    ·rw [hT1,List.length_singleton,Nat.add_comm,e1]
     obtain ⟨l1,_⟩:=loop_some (n:=t.length) (t:=[]) (tag:=tag) (vs:=vs2) (r:=⟨uvar k++(uvar (w u).length++(w u++(qz_ t++rest))),false,false⟩) (g:=g) (by rw [j5_ hk32];exact hg') rfl
     rw [j5_ hk32] at l1
     simp only at l1
     rw [j5_ (show (w u).length < 4294967296 by omega),ze_ (w u) _ _ rfl] at l1
     have hgu:g vs2 ⟨w u,false,false⟩=.ok (set vs2 u2) ⟨[],false,false⟩:=by
      rw [hgv _ _ hg2,hd2,h5]
      rfl
     rw [l1 (set vs2 u2) ⟨[],false,false⟩ hgu rfl,loop_again H.no t [] (set vs2 u2) rest (by simpa using hpw) hok,List.nil_append]
    ·simp only [ew,hwF vs2 u2 hg2,h4,hset2,hT1]
  ·rw [er] at h
   cases hv:fields r with
   | err=>rw [hv] at h;cases h
   | stuck=>exact hf.go r hr hv
   | ok vs r1=>
    rw [hv] at h
    simp only [Out.bind] at h
    obtain ⟨hg,_⟩:=hG _ _ _ hv
    have h1:=j6_ r1
    have h2:=hf.le _ _ _ hv
    exact loop_go H F _ vs [] _ hg (by omega) h
end
end Go.Proofs.YtlmanancakaapaaGreatDoor.Kx
