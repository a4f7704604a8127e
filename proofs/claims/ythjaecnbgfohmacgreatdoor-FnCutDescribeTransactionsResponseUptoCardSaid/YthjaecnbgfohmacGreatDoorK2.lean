/-
  PLAIN LAWS AND CONTRACTS of messages, part 2 of 15: how readers and writers are printed, what they do, what the reference writes, and that what is written is read as the same. Nothing of a statement stands here.
-/
import Derived.Test.YthjaecnbgfohmacGreatDoorK1
import Derived.Test.YthjaecnbgfohmacGreatDoorK3

namespace Go.Proofs.YthjaecnbgfohmacGreatDoor.Kx
theorem u8n {m:Nat} (h:m < 256):(UInt8.ofNat m).toNat=m:=UInt8.toNat_ofNat_of_lt (by simpa using h)
theorem ju_ (k:Nat) (x:Int):(be k x).length=k:=by
 induction k with
 | zero=>rfl
 | succ k ih=>simp only [be,List.length_cons,ih]
theorem foldl_unbe (l:Bs) (acc:Nat):l.foldl (fun a b=>a * 256 + b.toNat) acc=acc * 256 ^ l.length + unbe l:=by
 induction l generalizing acc with
 | nil=>simp [unbe]
 | cons b l ih=>
  simp only [List.foldl_cons,List.length_cons,unbe]
  rw [ih,ih (0 * 256 + b.toNat)]
  simp only [Nat.zero_mul,Nat.zero_add,Nat.pow_succ,Nat.add_mul]
  rw [Nat.mul_assoc,Nat.mul_comm 256,Nat.add_assoc]
theorem unbe_cons' (b:UInt8) (l:Bs):unbe (b :: l)=b.toNat * 256 ^ l.length + unbe l:=by
 show (b :: l).foldl (fun a b=>a * 256 + b.toNat) 0=_
 rw [List.foldl_cons,foldl_unbe]
 simp
theorem unbe_be (k:Nat) (x:Int):(unbe (be k x):Int)=x % 256 ^ k:=by
 induction k with
 | zero=>simp [be,unbe]
 | succ k ih=>
  simp only [be]
  rw [unbe_cons',ju_]
  have h0:(0:Int)<=x / 256 ^ k % 256:=Int.emod_nonneg _ (by omega)
  have h1:x / 256 ^ k % 256 < 256:=Int.emod_lt_of_pos _ (by omega)
  have e1:(UInt8.ofNat (x / 256 ^ k % 256).toNat).toNat=(x / 256 ^ k % 256).toNat:=u8n (by omega)
  rw [e1,Int.natCast_add,Int.natCast_mul,Int.natCast_pow,ih,Int.toNat_of_nonneg h0]
  show x / 256 ^ k % 256 * 256 ^ k + x % 256 ^ k=_
  have hp:(0:Int) < 256 ^ k:=Int.pow_pos (by omega)
  rw [Int.pow_succ]
  have e2:x % (256 ^ k * 256)=x - 256 ^ k * 256 * (x / (256 ^ k * 256)):=Int.emod_def _ _
  have e3:x / (256 ^ k * 256)=x / 256 ^ k / 256:=(Int.ediv_ediv_of_nonneg (by omega)).symm
  have e4:x / 256 ^ k % 256=x / 256 ^ k - 256 * (x / 256 ^ k / 256):=Int.emod_def _ _
  have e5:x % 256 ^ k=x - 256 ^ k * (x / 256 ^ k):=Int.emod_def _ _
  rw [e2,e3,e4,e5,Int.sub_mul]
  have:256 ^ k * 256 * (x / 256 ^ k / 256)=256 * (x / 256 ^ k / 256) * 256 ^ k:=by
   rw [Int.mul_comm (256 ^ k) 256,Int.mul_assoc,Int.mul_comm (256 ^ k),<- Int.mul_assoc]
  rw [this,Int.mul_comm (256 ^ k) (x / 256 ^ k)]
  omega
theorem rU_be {k:Nat} {x:Nat} (h:x < 256 ^ k) (rest:Bs) (nl:Bool):rU k ⟨be k x++rest,false,nl⟩=(x,⟨rest,false,nl⟩):=by
 have hl:¬ ((be k x++rest).length < k):=by rw [List.length_append,ju_];omega
 have h1:(be k x++rest).take k=be k x:=by rw [List.take_append_of_le_length (by rw [ju_];omega),List.take_of_length_le (by rw [ju_];omega)]
 have h2:(be k x++rest).drop k=rest:=by rw [List.drop_append_of_le_length (by rw [ju_];omega),List.drop_of_length_le (by rw [ju_];omega)];rfl
 simp only [rU,if_neg hl,h1,h2]
 have:=unbe_be k x
 have h3:((x:Nat):Int) % 256 ^ k=x:=Int.emod_eq_of_lt (by omega) (by have:=Int.ofNat_lt.2 h;rw [Int.natCast_pow] at this;exact this)
 rw [h3] at this
 congr 1
 omega
theorem rI_be {k:Nat} (hk:k=1 \/ k=2 \/ k=4 \/ k=8) {x:Int} (h:-(2 ^ (8 * k - 1):Int)<=x/\x < 2 ^ (8 * k - 1)) (rest:Bs) (nl:Bool):rI k ⟨be k x++rest,false,nl⟩=(x,⟨rest,false,nl⟩):=by
 have e:be k x=be k ((x % 256 ^ k).toNat:Nat):=by
  have h0:0<=x % 256 ^ k:=Int.emod_nonneg _ (by have:=Int.pow_pos (n:=256) (m:=k) (by omega);omega)
  rw [Int.toNat_of_nonneg h0]
  apply List.ext_getElem?
  intro i
  have key:∀ (m:Nat) (j:Nat),j<=m->be j (x % 256 ^ m)=be j x:=by
   intro m j
   induction j with
   | zero=>intro _;rfl
   | succ j ih=>
    intro hj
    simp only [be]
    rw [ih (by omega)]
    congr 2
    have hp:(256:Int) ^ m=256 ^ j * (256 * 256 ^ (m - j - 1)):=by
     rw [<- Int.pow_succ',<- Int.pow_add]
     congr 1;omega
    rw [hp]
    have hk:(0:Int) < 256 ^ j:=Int.pow_pos (by omega)
    have e1:x % (256 ^ j * (256 * 256 ^ (m - j - 1)))=x + 256 ^ j * (-(256 * (256 ^ (m - j - 1) * (x / (256 ^ j * (256 * 256 ^ (m - j - 1))))))):=by
     rw [Int.emod_def,Int.mul_neg,<- Int.sub_eq_add_neg]
     simp only [Int.mul_assoc]
    rw [e1,Int.add_mul_ediv_left _ _ (by omega)]
    generalize 256 ^ (m - j - 1) * (x / (256 ^ j * (256 * 256 ^ (m - j - 1))))=t
    generalize x / 256 ^ j=y
    congr 1
    omega
  rw [key k k (Nat.le_refl _)]
 have hlt:(x % 256 ^ k).toNat < 256 ^ k:=by
  have h0:0<=x % 256 ^ k:=Int.emod_nonneg _ (by have:=Int.pow_pos (n:=256) (m:=k) (by omega);omega)
  have h1:x % 256 ^ k < 256 ^ k:=Int.emod_lt_of_pos _ (Int.pow_pos (by omega))
  have:((x % 256 ^ k).toNat:Int) < ((256 ^ k:Nat):Int):=by rw [Int.toNat_of_nonneg h0,Int.natCast_pow];exact h1
  exact Int.ofNat_lt.1 this
 rw [e]
 simp only [rI,rU_be hlt]
 congr 1
 rcases hk with rfl | rfl | rfl | rfl <;> simp only [sgn,Nat.reduceMul,Nat.reduceSub,Int.reducePow,Nat.reducePow] at h ⊢ <;> split <;> omega
theorem uvarAux_read:∀ (x:Nat),x < 4294967296->∀ rest:Bs,q5_ (uvar x++rest)=(x,((uvar x).length:Int)):=by
 intro x hx rest
 have t:∀ m,m < 128->(UInt8.ofNat (m + 128)).toNat=m + 128:=fun m hm=>u8n (by omega)
 have s:∀ m,m < 128->(UInt8.ofNat m).toNat=m:=fun m hm=>u8n (by omega)
 simp only [uvar,zi_]
 by_cases c1:x < 128
 ·simp [c1,q5_,s x c1]
 by_cases c2:x / 128 < 128
 ·have n1:¬ (x % 128 + 128 < 128):=by omega
  simp only [c1,c2,if_true,if_false,List.cons_append,List.nil_append,q5_,t _ (Nat.mod_lt x (by omega)),n1,s _ c2]
  simp;omega
 by_cases c3:x / 128 / 128 < 128
 ·have n1:¬ (x % 128 + 128 < 128):=by omega
  have n2:¬ (x / 128 % 128 + 128 < 128):=by omega
  simp only [c1,c2,c3,if_true,if_false,List.cons_append,List.nil_append,q5_,t _ (Nat.mod_lt x (by omega)),t _ (Nat.mod_lt (x / 128) (by omega)),n1,n2,s _ c3]
  simp;omega
 by_cases c4:x / 128 / 128 / 128 < 128
 ·have n1:¬ (x % 128 + 128 < 128):=by omega
  have n2:¬ (x / 128 % 128 + 128 < 128):=by omega
  have n3:¬ (x / 128 / 128 % 128 + 128 < 128):=by omega
  simp only [c1,c2,c3,c4,if_true,if_false,List.cons_append,List.nil_append,q5_,t _ (Nat.mod_lt x (by omega)),t _ (Nat.mod_lt (x / 128) (by omega)),t _ (Nat.mod_lt (x / 128 / 128) (by omega)),n1,n2,n3,s _ c4]
  simp;omega
 have c5:x / 128 / 128 / 128 / 128 < 128:=by omega
 have c6:x / 128 / 128 / 128 / 128<=15:=by omega
 have n1:¬ (x % 128 + 128 < 128):=by omega
 have n2:¬ (x / 128 % 128 + 128 < 128):=by omega
 have n3:¬ (x / 128 / 128 % 128 + 128 < 128):=by omega
 have n4:¬ (x / 128 / 128 / 128 % 128 + 128 < 128):=by omega
 simp only [c1,c2,c3,c4,c5,if_true,if_false,List.cons_append,List.nil_append,q5_,t _ (Nat.mod_lt x (by omega)),t _ (Nat.mod_lt (x / 128) (by omega)),t _ (Nat.mod_lt (x / 128 / 128) (by omega)),t _ (Nat.mod_lt (x / 128 / 128 / 128) (by omega)),n1,n2,n3,n4,s _ c5,c6]
 simp;omega
theorem uvar_pos (x:Nat):0 < (uvar x).length:=by
 simp only [uvar,zi_]
 split <;> simp
theorem rUv_uvar {x:Nat} (h:x < 4294967296) (rest:Bs) (nl:Bool):rUv ⟨uvar x++rest,false,nl⟩=(x,⟨rest,false,nl⟩):=by
 have h1:=uvarAux_read x h rest
 have h2:=uvar_pos x
 have h3:¬ (((uvar x).length:Int)<=0):=by omega
 simp only [rUv,h1,if_neg h3,Int.toNat_natCast]
 rw [List.drop_append_of_le_length (Nat.le_refl _),List.drop_of_length_le (Nat.le_refl _)]
 rfl
theorem uvar_len (x:Nat) (h:x < 4294967296):(uvar x).length=if x < 128 then 1 else if x < 16384 then 2 else if x < 2097152 then 3 else if x < 268435456 then 4 else 5:=by
 simp only [uvar,zi_]
 by_cases c1:x < 128
 ·simp [c1]
 by_cases c2:x / 128 < 128
 ·have:x < 16384:=by omega
  simp [c1,c2,this]
 by_cases c3:x / 128 / 128 < 128
 ·have a:¬ x < 16384:=by omega
  have b:x < 2097152:=by omega
  simp [c1,c2,c3,a,b]
 by_cases c4:x / 128 / 128 / 128 < 128
 ·have a:¬ x < 16384:=by omega
  have b:¬ x < 2097152:=by omega
  have c:x < 268435456:=by omega
  simp [c1,c2,c3,c4,a,b,c]
 have a:¬ x < 16384:=by omega
 have b:¬ x < 2097152:=by omega
 have c:¬ x < 268435456:=by omega
 have c5:x / 128 / 128 / 128 / 128 < 128:=by omega
 simp [c1,c2,c3,c4,c5,a,b,c]
theorem uvRead_spec (l:Bs):(q5_ l).2<=0 \/ ((q5_ l).1 < 4294967296/\((uvar (q5_ l).1).length:Int)<=(q5_ l).2/\(q5_ l).2<=l.length):=by
 have hb:∀ b:UInt8,b.toNat < 256:=fun b=>b.toNat_lt
 unfold q5_
 cases l with
 | nil=>left;simp
 | cons a l=>
  simp only
  have ha:=hb a
  split
  ·right;rw [uvar_len _ (by omega)];simp;split <;> omega
  ·cases l with
   | nil=>left;simp
   | cons b l=>
    simp only
    have hb':=hb b
    split
    ·right;rw [uvar_len _ (by omega)];refine ⟨by omega,?_,by simp;omega⟩;repeat' split
     all_goals simp
     all_goals omega
    ·cases l with
     | nil=>left;simp
     | cons c l=>
      simp only
      have hc:=hb c
      split
      ·right;rw [uvar_len _ (by omega)];refine ⟨by omega,?_,by simp;omega⟩;repeat' split
       all_goals simp
       all_goals omega
      ·cases l with
       | nil=>left;simp
       | cons d l=>
        simp only
        have hd:=hb d
        split
        ·right;rw [uvar_len _ (by omega)];refine ⟨by omega,?_,by simp;omega⟩;repeat' split
         all_goals simp
         all_goals omega
        ·cases l with
         | nil=>left;simp
         | cons e l=>
          simp only
          split
          ·right;rw [uvar_len _ (by omega)];refine ⟨by omega,?_,by simp;omega⟩;repeat' split
           all_goals simp
          ·left;simp
theorem rSpan_app (l rest:Bs):q9_ (l.length:Nat) ⟨l++rest,false,false⟩=(.s l,⟨rest,false,false⟩):=by
 unfold q9_
 rw [if_neg (by simp;omega)]
 simp
end Go.Proofs.YthjaecnbgfohmacGreatDoor.Kx

namespace Go.Proofs.YthjaecnbgfohmacGreatDoor.Kx
theorem rSpan_app' (l rest:Bs) (k:Int) (hk:k=(l.length:Nat)):q9_ k ⟨l++rest,false,false⟩=(.s l,⟨rest,false,false⟩):=by subst hk;exact rSpan_app l rest
theorem rI_m1 {k:Nat} (hk:k=2 \/ k=4) (rest:Bs):rI k ⟨be k (-1)++rest,false,false⟩=(-1,⟨rest,false,false⟩):=by
 refine rI_be (by omega) ?_ rest false
 rcases hk with rfl | rfl <;> simp only [Nat.reduceMul,Nat.reduceSub,Int.reducePow] <;> omega
end Go.Proofs.YthjaecnbgfohmacGreatDoor.Kx

namespace Go.Proofs.YthjaecnbgfohmacGreatDoor.Kx
def TagOk (p:Nat × Bs):Prop:=p.1 < 4294967296/\p.2.length < 4294967296
theorem wTags_cons (p:Nat × Bs) (t:List (Nat × Bs)):xi_ (p :: t)=wTag p++xi_ t:=rfl
theorem wTag_len (p:Nat × Bs):(wTag p).length=(uvar p.1).length + ((uvar (w32 p.2.length)).length + p.2.length):=by simp [wTag]
theorem setTag_last (k:Nat) (v:Bs):∀ (t:List (Nat × Bs)),(∀ y ∈ t,y.1 < k)->zw_ k v t=t++[(k,v)]
 | [],_=>rfl
 | (j,u) :: r,h=>by
  have hj:=h (j,u) (List.mem_cons_self ..)
  simp only at hj
  unfold zw_
  rw [if_neg (by omega),if_neg (by omega),setTag_last k v r fun y hy=>h y (List.mem_cons_of_mem _ hy)]
  rfl
theorem rTags_again:∀ (t acc:List (Nat × Bs)) (rest:Bs),(acc++t).Pairwise (fun a b=>a.1 < b.1)->(∀ y ∈ t,TagOk y)->rTags t.length acc ⟨xi_ t++rest,false,false⟩=(acc++t,⟨rest,false,false⟩)
 | [],acc,rest,_,_=>by simp [rTags,xi_]
 | (k,v) :: t,acc,rest,hp,hok=>by
  have hkv:=hok (k,v) (List.mem_cons_self ..)
  have hv32:v.length < 4294967296:=hkv.2
  have hw32:w32 v.length=v.length:=by simp only [w32];omega
  have e1:xi_ ((k,v) :: t)++rest=uvar k++(uvar v.length++(v++(xi_ t++rest))):=by simp [wTags_cons,wTag,hw32,List.append_assoc]
  have hlast:zw_ k v acc=acc++[(k,v)]:=setTag_last k v acc fun y hy=>(List.pairwise_append.1 hp).2.2 y hy (k,v) (List.mem_cons_self ..)
  show rTags (t.length + 1) acc _=_
  simp only [rTags]
  rw [e1,rUv_uvar hkv.1,rUv_uvar hkv.2,rSpan_app' v _ _ rfl]
  show rTags t.length (zw_ k v acc) ⟨xi_ t++rest,false,false⟩=_
  rw [hlast,rTags_again t (acc++[(k,v)]) rest (by simpa using hp) fun y hy=>hok y (List.mem_cons_of_mem _ hy)]
  simp
theorem wCnt_t (n:Nat):wCnt true n=uvar (w32 (n + 1)):=rfl
theorem rLen_cnt (fx:Bool) {n:Nat} (hn:n < 2147483648) (rest:Bs) (hr:n<=rest.length):z2_ fx ⟨wCnt fx n++rest,false,false⟩=((n:Int),⟨rest,false,false⟩):=by
 cases fx with
 | true=>
  have e:wCnt true n=uvar (n + 1):=by
   rw [wCnt_t]
   have:w32 (n + 1)=n + 1:=by simp only [w32];omega
   rw [this]
  have hw:zu_ (zu_ ((n + 1:Nat):Int) - 1)=(n:Int):=by simp only [zu_];omega
  unfold z2_
  simp only [if_true]
  rw [e,rUv_uvar (by omega)]
  simp only [hw]
  rw [if_neg (by omega)]
 | false=>
  unfold z2_
  simp only [Bool.false_eq_true,if_false]
  have e:wCnt false n=be 4 (n:Nat):=rfl
  rw [e,rI_be (k:=4) (by omega) (by simp only [Nat.reduceMul,Nat.reduceSub,Int.reducePow];omega)]
  simp only
  rw [if_neg (by omega)]
theorem rLen_null (fx:Bool) (rest:Bs):z2_ fx ⟨zq_ fx 4++rest,false,false⟩=(-1,⟨rest,false,false⟩):=by
 cases fx with
 | true=>
  have e:zq_ true 4=uvar 0:=rfl
  unfold z2_
  simp only [if_true]
  rw [e,rUv_uvar (by omega)]
  have hw:zu_ (zu_ ((0:Nat):Int) - 1)=-1:=by simp only [zu_];omega
  simp only [hw]
  rw [if_neg (by omega)]
 | false=>
  unfold z2_
  simp only [Bool.false_eq_true,if_false]
  have e:zq_ false 4=be 4 (-1):=rfl
  rw [e,rI_m1 (.inr rfl)]
  simp only
  rw [if_neg (by omega)]
theorem wCnt_pos (fx:Bool) (n:Nat):0 < (wCnt fx n).length:=by
 cases fx with
 | true=>exact uvar_pos _
 | false=>rw [show wCnt false n=be 4 (n:Nat) from rfl,ju_];omega
theorem wNull_pos (fx:Bool):0 < (zq_ fx 4).length:=by
 cases fx with
 | true=>exact uvar_pos 0
 | false=>rw [show zq_ false 4=be 4 (-1) from rfl,ju_];omega
theorem bind_ok {α β:Type} {x:Out α} {f:α->RS->Out β} {b:β} {r':RS} (h:x.bind f=.ok b r'):∃ a r,x=.ok a r/\f a r=.ok b r':=by
 cases x with
 | ok a r=>exact ⟨a,r,rfl,h⟩
 | err=>cases h
 | stuck=>cases h
end Go.Proofs.YthjaecnbgfohmacGreatDoor.Kx

namespace Go.Proofs.YthjaecnbgfohmacGreatDoor.Kx
theorem nl_false {l rest:Bs} {nl:Bool} (h:nl=true->l++rest=[]) (hl:0 < l.length):nl=false:=by
 cases nl with
 | false=>rfl
 | true=>
  have:=(List.append_eq_nil_iff.1 (h rfl)).1
  rw [this] at hl
  simp at hl
mutual
def posTy (fx:Bool) (ver:Int):Ty->Bool
 | .struct none _ fs=>fx || posFds fx ver fs
 | _=>true
def posFds (fx:Bool) (ver:Int):Fds->Bool
 | .nil=>false
 | .cons lo hi tag _ _ ty r=>(tag.isNone && has lo hi ver && posTy fx ver ty) || posFds fx ver r
end
end Go.Proofs.YthjaecnbgfohmacGreatDoor.Kx

namespace Go.Proofs.YthjaecnbgfohmacGreatDoor.Kx
inductive Tr where
 | mk (n:Int) (s:Bs) (null:Bool) (l:List Tr) (u:List (UInt32 × Bs))
def Tr.num:Tr->Int | .mk n _ _ _ _=>n
def Tr.octets:Tr->Bs | .mk _ s _ _ _=>s
def Tr.null:Tr->Bool | .mk _ _ b _ _=>b
def Tr.list:Tr->List Tr | .mk _ _ _ l _=>l
def Tr.tags:Tr->List (Nat × Bs) | .mk _ _ _ _ u=>u.map fun p=>(p.1.toNat,p.2)
def Tr.zero:Tr:=.mk 0 [] false [] []
def Tr.at (t:Tr) (i:Nat):Tr:=t.list.getD i .zero
inductive SFs where
 | nil
 | cons (kind:Nat) (lo hi nul tag df:Int) (of:Nat) (sub:SFs) (r:SFs)
def q7_:Nat:=32767
def sHas (lo hi ver:Int):Bool:=decide (lo<=ver) && (decide (hi < 0) || decide (ver<=hi))
def z5_ (nul ver:Int):Bool:=decide (0<=nul) && decide (nul<=ver)
def zk_ (kind:Nat):Nat:=if kind=1 then 1 else if kind=2 \/ kind=5 then 2 else if kind=3 then 4 else 8
def sCnt (fx null:Bool) (n k:Nat):Bs:=if fx then (if null then [0] else uvar (n + 1)) else if null then be k (-1) else be k n
def sOcts (null:Bool) (l:Bs):Bs:=if null then [] else l.take q7_
def sText (fx null:Bool) (k:Nat) (l:Bs):Bs:=sCnt fx null (sOcts null l).length k++sOcts null l
def s16 (l:Bs):Bs:=l.take 16++List.replicate (16 - l.length) 0
def sVal (kind:Nat) (null fx:Bool) (pt:Tr->Bs) (t:Tr):Bs:=
 if kind=0 then [UInt8.ofNat (t.num % 2).toNat]
 else if kind=7 then s16 t.octets
 else if kind=8 then sText fx null 2 t.octets
 else if kind=9 then sText fx null 4 t.octets
 else if kind=10 then pt t
 else be (zk_ kind) t.num
def zr_ (null:Bool) (t:Tr):List Tr:=if null then [] else t.list.take q7_
def sFld (kind:Nat) (nul:Int) (of:Nat) (ver:Int) (fx:Bool) (pt:Tr->Bs) (t:Tr):Bs:=
 if kind=11 then sCnt fx (t.null && z5_ nul ver) (zr_ (t.null && z5_ nul ver) t).length 4++((zr_ (t.null && z5_ nul ver) t).map (sVal of false fx pt)).flatten
 else if kind=10/\0<=nul then (if (t.null && z5_ nul ver)=true then [255] else 1 :: pt t)
 else sVal kind (t.null && z5_ nul ver) fx pt t
def jn_ (k:Nat) (v:Bs):List (Nat × Bs)->List (Nat × Bs)
 | []=>[(k,v)]
 | (j,u) :: r=>if k < j then (k,v) :: (j,u) :: r else if k=j then (j,u) :: r else (j,u) :: jn_ k v r
def sUnkL (least:Nat):List (Nat × Bs)->List (Nat × Bs)->List (Nat × Bs)
 | [],acc=>acc
 | (k,v) :: r,acc=>sUnkL least r (if k < least then acc else jn_ k v acc)
def sUnk (least:Nat) (l:List (Nat × Bs)):List (Nat × Bs):=sUnkL least (l.take q7_) []
def q0_:SFs->Nat
 | .nil=>0
 | .cons _ _ _ _ tag _ _ _ r=>if 0<=tag then Nat.max (tag.toNat + 1) (q0_ r) else q0_ r
def sUsual1 (kind:Nat) (nul df:Int) (us:Tr->Bool) (t:Tr):Bool:=
 if kind=0 then decide (t.num % 2=df)
 else if kind=7 then (t.octets.take 16).all fun b=>b == 0
 else if kind=8 \/ kind=9 then (if 0<=nul then t.null else t.octets.isEmpty)
 else if kind=11 then t.list.isEmpty
 else if kind=10 then us t
 else decide (be (zk_ kind) t.num=be (zk_ kind) df)
def sUsual:SFs->Nat->Tr->Bool
 | .nil,_,_=>true
 | .cons kind _ _ nul _ df _ sub r,i,t=>sUsual1 kind nul df (fun t=>sUsual sub 0 t && (sUnk (q0_ sub) t.tags).isEmpty) (t.at i) && sUsual r (i + 1) t
def sTag (p:Nat × Bs):Bs:=uvar p.1++(uvar p.2.length++p.2)
def sTags (l:List (Nat × Bs)):Bs:=(l.map sTag).flatten
def sSort (n:Nat) (l:List (Nat × Bs)):List (Nat × Bs):=(List.range n).flatMap fun k=>l.filter fun p=>p.1 == k
def sTail (fx:Bool) (n:Nat) (tg:List (Nat × Bs)) (u:List (Nat × Bs)):Bs:=
 if fx then uvar ((sSort n tg).length + (sUnk n u).length)++(sTags (sSort n tg)++sTags ((sUnk n u).map fun p=>(p.1,p.2.take q7_))) else []
mutual
def sFds (ver:Int) (fx:Bool):SFs->Nat->Tr->Bs
 | .nil,_,_=>[]
 | .cons kind lo hi nul tag _ of sub r,i,t=>
  (if tag < 0/\sHas lo hi ver=true then sFld kind nul of ver fx (fun t=>sFds ver fx sub 0 t++sTail fx (q0_ sub) (sTgd ver fx sub 0 t) t.tags) (t.at i) else [])++sFds ver fx r (i + 1) t
def sTgd (ver:Int) (fx:Bool):SFs->Nat->Tr->List (Nat × Bs)
 | .nil,_,_=>[]
 | .cons kind _ _ nul tag df of sub r,i,t=>
  (if 0<=tag/\sUsual1 kind nul df (fun t=>sUsual sub 0 t && (sUnk (q0_ sub) t.tags).isEmpty) (t.at i)=false then
   [(tag.toNat,sFld kind nul of ver fx (fun t=>sFds ver fx sub 0 t++sTail fx (q0_ sub) (sTgd ver fx sub 0 t) t.tags) (t.at i))] else [])++sTgd ver fx r (i + 1) t
end
def qz_ (ver:Int) (fx:Bool) (fs:SFs) (t:Tr):Bs:=sFds ver fx fs 0 t++sTail fx (q0_ fs) (sTgd ver fx fs 0 t) t.tags
def pCode:Prim->Nat
 | .bool=>0 | .i8=>1 | .i16=>2 | .i32=>3 | .i64=>4 | .u16=>5 | .uuid=>7
def pNum:Prim->Int->Int
 | .bool,x=>x % 2
 | .u16,x=>x % 65536
 | .i8,x=>sgn 8 (x % 256).toNat
 | .i16,x=>sgn 16 (x % 65536).toNat
 | .i32,x=>sgn 32 (x % 4294967296).toNat
 | _,x=>sgn 64 (x % 18446744073709551616).toNat
def sUnkT (n:Nat) (t:Tr):List (Nat × Bs):=(sUnk n t.tags).map fun p=>(p.1,p.2.take q7_)
mutual
def vTy (ver:Int) (fx:Bool):Ty->SFs->Bool->Tr->V
 | .prim .uuid,_,_,t=>.s (s16 t.octets)
 | .prim p,_,_,t=>.n (pNum p t.num)
 | .str _,_,null,t=>if null then .nul else .s (t.octets.take q7_)
 | .bytes _,_,null,t=>if null then .nul else .s (t.octets.take q7_)
 | .list nul _ e,sub,null,t=>if null then .nul else if t.list.isEmpty then (if nul.isSome then .l [] else .nul) else .l ((t.list.take q7_).map fun t=>vTy ver fx e sub false t)
 | .struct _ _ fs,sub,null,t=>if null then .nul else .st (vFds ver fx fs sub 0 t) (if fx then sUnkT (q0_ sub) t else [])
def vFds (ver:Int) (fx:Bool):Fds->SFs->Nat->Tr->List V
 | .nil,_,_,_=>[]
 | .cons lo hi tag df _ ty r,sf,i,t=>
  match sf with
  | .nil=>dfTy df ty :: vFds ver fx r .nil (i + 1) t
  | .cons _ _ _ nul _ _ _ sub sr=>
   (if tag.isNone && has lo hi ver then vTy ver fx ty sub ((t.at i).null && z5_ nul ver) (t.at i) else dfTy df ty) :: vFds ver fx r sr (i + 1) t
end
def Ty.isList:Ty->Bool | .list _ _ _=>true | _=>false
mutual
def fitTy (ver:Int) (fx:Bool):Ty->Nat->Int->Nat->SFs->Bool
 | .prim p,kind,_,_,_=>kind == pCode p
 | .str nul,kind,n,_,_=>kind == 8 && (!z5_ n ver || nullS nul ver)
 | .bytes nul,kind,n,_,_=>kind == 9 && (!z5_ n ver || nullS nul ver)
 | .list nul esz e,kind,n,of,sub=>kind == 11 && (!z5_ n ver || (nul.isSome && nullable nul ver)) && decide (esz<=10000) && !e.isList && posTy fx ver e && fitTy ver fx e of (-1) 0 sub
 | .struct nul _ fs,kind,n,_,sub=>kind == 10 && (nul.isSome == decide (0<=n)) && fitFds ver fx fs sub
def fitFds (ver:Int) (fx:Bool):Fds->SFs->Bool
 | .nil,sf=>match sf with | .nil=>true | _=>false
 | .cons lo hi tag _ _ ty r,sf=>
  match sf with
  | .nil=>false
  | .cons kind slo shi nul stag _ of sub sr=>tag.isNone && decide (stag < 0) && (has lo hi ver == sHas slo shi ver) && (!has lo hi ver || fitTy ver fx ty kind nul of sub) && fitFds ver fx r sr
end
end Go.Proofs.YthjaecnbgfohmacGreatDoor.Kx

namespace Go.Proofs.YthjaecnbgfohmacGreatDoor.Kx
theorem be_modm (m:Nat) (x:Int):∀ j,j<=m->be j (x % 256 ^ m)=be j x:=by
 intro j
 induction j with
 | zero=>intro _;rfl
 | succ j ih=>
  intro hj
  simp only [be]
  rw [ih (by omega)]
  congr 2
  have hp:(256:Int) ^ m=256 ^ j * (256 * 256 ^ (m - j - 1)):=by
   rw [<- Int.pow_succ',<- Int.pow_add]
   congr 1;omega
  rw [hp]
  have hk:(0:Int) < 256 ^ j:=Int.pow_pos (by omega)
  have e1:x % (256 ^ j * (256 * 256 ^ (m - j - 1)))=x + 256 ^ j * (-(256 * (256 ^ (m - j - 1) * (x / (256 ^ j * (256 * 256 ^ (m - j - 1))))))):=by
   rw [Int.emod_def,Int.mul_neg,<- Int.sub_eq_add_neg]
   simp only [Int.mul_assoc]
  rw [e1,Int.add_mul_ediv_left _ _ (by omega)]
  generalize 256 ^ (m - j - 1) * (x / (256 ^ j * (256 * 256 ^ (m - j - 1))))=t
  generalize x / 256 ^ j=y
  congr 1
  omega
theorem be_congr (k:Nat) {x y:Int} (h:x % 256 ^ k=y % 256 ^ k):be k x=be k y:=by
 rw [<- be_modm k x k (Nat.le_refl _),h,be_modm k y k (Nat.le_refl _)]
def okPF:PF->V->Prop
 | .bool,v=>v=.n 0 \/ v=.n 1
 | .i8,v=>∃ x:Int,v=.n x/\-128<=x/\x < 128
 | .i16,v=>∃ x:Int,v=.n x/\-32768<=x/\x < 32768
 | .u16,v=>∃ x:Int,v=.n x/\0<=x/\x < 65536
 | .i32,v=>∃ x:Int,v=.n x/\-2147483648<=x/\x < 2147483648
 | .i64,v=>∃ x:Int,v=.n x/\-9223372036854775808<=x/\x < 9223372036854775808
 | .uuid,v=>∃ l:Bs,v=.s l/\l.length=16
 | .str,v=>∃ l:Bs,v=.s l/\l.length<=q7_
 | .cstr,v=>∃ l:Bs,v=.s l/\l.length<=q7_
 | .bytes,v=>∃ l:Bs,v=.s l/\l.length<=q7_
 | .cbytes,v=>∃ l:Bs,v=.s l/\l.length<=q7_
 | _,v=>v=.nul \/ ∃ l:Bs,v=.s l/\l.length<=q7_
theorem rText_app (l rest:Bs) (k:Int) (hk:k=(l.length:Nat)):rText k ⟨l++rest,false,false⟩=(.s l,⟨rest,false,false⟩):=by
 simp only [rText,rSpan_app' l rest k hk,V.octets]
theorem wText_f (l:Bs):wText false l=be 2 l.length++l:=rfl
theorem wText_t {l:Bs} (h:l.length<=q7_):wText true l=uvar (l.length + 1)++l:=by
 have:w32 (l.length + 1)=l.length + 1:=by simp only [w32,q7_] at *;omega
 simp only [wText,if_true,this]
theorem wBytes_f (l:Bs):wBytes false l=be 4 l.length++l:=rfl
theorem wBytes_t {l:Bs} (h:l.length<=q7_):wBytes true l=uvar (l.length + 1)++l:=by
 have:w32 (l.length + 1)=l.length + 1:=by simp only [w32,q7_] at *;omega
 simp only [wBytes,if_true,this]
theorem pf_rd (p:PF) (v:V) (h:okPF p v) (rest:Bs):p.run ⟨p.wr v++rest,false,false⟩=(v,⟨rest,false,false⟩):=by
 have i2:∀ {l:Bs},l.length<=q7_->∀ r:Bs,rI 2 ⟨be 2 (l.length:Nat)++r,false,false⟩=((l.length:Int),⟨r,false,false⟩):=fun {l} hl r=>
  rI_be (k:=2) (by omega) (by simp only [q7_] at hl;simp only [Nat.reduceMul,Nat.reduceSub,Int.reducePow];omega) r false
 have i4:∀ {l:Bs},l.length<=q7_->∀ r:Bs,rI 4 ⟨be 4 (l.length:Nat)++r,false,false⟩=((l.length:Int),⟨r,false,false⟩):=fun {l} hl r=>
  rI_be (k:=4) (by omega) (by simp only [q7_] at hl;simp only [Nat.reduceMul,Nat.reduceSub,Int.reducePow];omega) r false
 have u1:∀ {l:Bs},l.length<=q7_->∀ r:Bs,rUv ⟨uvar (l.length + 1)++r,false,false⟩=(l.length + 1,⟨r,false,false⟩):=fun {l} hl r=>
  rUv_uvar (by simp only [q7_] at hl;omega) r false
 cases p with
 | bool=>rcases h with rfl | rfl <;> simp [PF.run,PF.wr,rBool,V.num]
 | i8=>
  obtain ⟨x,rfl,h1,h2⟩:=h
  simp only [PF.run,PF.wr,V.num]
  rw [rI_be (k:=1) (by omega) (by simp only [Nat.reduceMul,Nat.reduceSub,Int.reducePow];omega)]
 | i16=>
  obtain ⟨x,rfl,h1,h2⟩:=h
  simp only [PF.run,PF.wr,V.num]
  rw [rI_be (k:=2) (by omega) (by simp only [Nat.reduceMul,Nat.reduceSub,Int.reducePow];omega)]
 | i32=>
  obtain ⟨x,rfl,h1,h2⟩:=h
  simp only [PF.run,PF.wr,V.num]
  rw [rI_be (k:=4) (by omega) (by simp only [Nat.reduceMul,Nat.reduceSub,Int.reducePow];omega)]
 | i64=>
  obtain ⟨x,rfl,h1,h2⟩:=h
  simp only [PF.run,PF.wr,V.num]
  rw [rI_be (k:=8) (by omega) (by simp only [Nat.reduceMul,Nat.reduceSub,Int.reducePow];omega)]
 | u16=>
  obtain ⟨x,rfl,h1,h2⟩:=h
  obtain ⟨n,rfl⟩:=Int.eq_ofNat_of_zero_le h1
  simp only [PF.run,PF.wr,V.num]
  rw [rU_be (k:=2) (by omega)]
 | uuid=>
  obtain ⟨l,rfl,h1⟩:=h
  show (if (l++rest).length < 16 then (V.s (List.replicate 16 0),RS.fail) else (V.s ((l++rest).take 16),(⟨(l++rest).drop 16,false,false⟩:RS)))=_
  rw [if_neg (by simp;omega)]
  rw [List.take_append_of_le_length (by omega),List.drop_append_of_le_length (by omega),List.take_of_length_le (by omega),List.drop_of_length_le (by omega)]
  rfl
 | str=>
  obtain ⟨l,rfl,hl⟩:=h
  simp only [PF.run,PF.wr,V.octets,wText_f,List.append_assoc,i2 hl,rText_app l rest _ rfl]
 | cstr=>
  obtain ⟨l,rfl,hl⟩:=h
  simp only [PF.run,PF.wr,V.octets,wText_t hl,List.append_assoc,u1 hl]
  rw [rText_app l rest _ (by omega)]
 | bytes=>
  obtain ⟨l,rfl,hl⟩:=h
  simp only [PF.run,PF.wr,V.octets,wBytes_f,List.append_assoc,i4 hl]
  rw [if_neg (by omega),rSpan_app' l rest _ rfl]
 | cbytes=>
  obtain ⟨l,rfl,hl⟩:=h
  simp only [PF.run,PF.wr,V.octets,wBytes_t hl,List.append_assoc,u1 hl]
  rw [if_neg (by omega),rSpan_app' l rest _ (by omega)]
 | nstr=>
  rcases h with rfl | ⟨l,rfl,hl⟩
  ·simp only [PF.run,PF.wr,V.isNul,if_true]
   rw [show zq_ false 2=be 2 (-1) from rfl,rI_m1 (.inl rfl)]
   rfl
  ·simp only [PF.run,PF.wr,V.octets,V.isNul,Bool.false_eq_true,if_false,wText_f,List.append_assoc,i2 hl]
   rw [if_neg (by omega),rText_app l rest _ rfl]
 | cnstr=>
  rcases h with rfl | ⟨l,rfl,hl⟩
  ·simp only [PF.run,PF.wr,V.isNul,if_true]
   rw [show zq_ true 2=uvar 0 from rfl,rUv_uvar (by omega)]
   rfl
  ·simp only [PF.run,PF.wr,V.octets,V.isNul,Bool.false_eq_true,if_false,wText_t hl,List.append_assoc,u1 hl]
   rw [if_neg (by omega),rText_app l rest _ (by omega)]
 | nbytes=>
  rcases h with rfl | ⟨l,rfl,hl⟩
  ·simp only [PF.run,PF.wr,V.isNul,if_true]
   rw [show zq_ false 4=be 4 (-1) from rfl,rI_m1 (.inr rfl)]
   rfl
  ·simp only [PF.run,PF.wr,V.octets,V.isNul,Bool.false_eq_true,if_false,wBytes_f,List.append_assoc,i4 hl]
   rw [if_neg (by omega),rSpan_app' l rest _ rfl]
 | cnbytes=>
  rcases h with rfl | ⟨l,rfl,hl⟩
  ·simp only [PF.run,PF.wr,V.isNul,if_true]
   rw [show zq_ true 4=uvar 0 from rfl,rUv_uvar (by omega)]
   rfl
  ·simp only [PF.run,PF.wr,V.octets,V.isNul,Bool.false_eq_true,if_false,wBytes_t hl,List.append_assoc,u1 hl]
   rw [if_neg (by omega),rSpan_app' l rest _ (by omega)]
theorem wr_pos (p:PF) (v:V) (h:okPF p v):0 < (p.wr v).length:=by
 have a:∀ fx k,0 < k->0 < (zq_ fx k).length:=fun fx k hk=>by
  cases fx with
  | true=>exact uvar_pos 0
  | false=>simp only [zq_,Bool.false_eq_true,if_false,ju_];exact hk
 have b:∀ fx l,0 < (wText fx l).length:=fun fx l=>by
  cases fx with
  | true=>simp only [wText,if_true,List.length_append];have:=uvar_pos (w32 (l.length + 1));omega
  | false=>rw [wText_f,List.length_append,ju_];omega
 have c:∀ fx l,0 < (wBytes fx l).length:=fun fx l=>by
  cases fx with
  | true=>simp only [wBytes,if_true,List.length_append];have:=uvar_pos (w32 (l.length + 1));omega
  | false=>rw [wBytes_f,List.length_append,ju_];omega
 cases p with
 | uuid=>obtain ⟨l,rfl,hl⟩:=h;simp only [PF.wr,V.octets];omega
 | bool=>simp [PF.wr]
 | _=>
  simp only [PF.wr]
  first
   | exact b _ _
   | exact c _ _
   | (rw [ju_];omega)
   | (split;exact a _ _ (by omega);exact b _ _)
   | (split;exact a _ _ (by omega);exact c _ _)
def vOct (null:Bool) (l:Bs):V:=if null then .nul else .s (l.take q7_)
theorem take_most (l:Bs):(l.take q7_).length<=q7_:=by rw [List.length_take];exact Nat.min_le_left ..
theorem wr_str (b fx null:Bool) (h:null=true->b=true) (l:Bs):(xl_ b fx).wr (vOct null l)=sText fx null 2 l/\okPF (xl_ b fx) (vOct null l):=by
 have hl:=take_most l
 cases null with
 | true=>
  obtain rfl:=h rfl
  cases fx <;> exact ⟨by simp [xl_,vOct,PF.wr,V.isNul,zq_,sText,sCnt,sOcts] <;> rfl,.inl rfl⟩
 | false=>
  cases b <;> cases fx
  ·exact ⟨by simp [xl_,vOct,PF.wr,V.octets,wText_f,sText,sCnt,sOcts],⟨_,rfl,hl⟩⟩
  ·exact ⟨by simp only [xl_,vOct,PF.wr,V.octets,Bool.false_eq_true,if_false,if_true,wText_t hl,sText,sCnt,sOcts],⟨_,rfl,hl⟩⟩
  ·exact ⟨by simp [xl_,vOct,PF.wr,V.isNul,V.octets,wText_f,sText,sCnt,sOcts],.inr ⟨_,rfl,hl⟩⟩
  ·exact ⟨by simp only [xl_,vOct,PF.wr,V.isNul,V.octets,Bool.false_eq_true,if_false,if_true,wText_t hl,sText,sCnt,sOcts],.inr ⟨_,rfl,hl⟩⟩
theorem wr_bytes (b fx null:Bool) (h:null=true->b=true) (l:Bs):(jl_ b fx).wr (vOct null l)=sText fx null 4 l/\okPF (jl_ b fx) (vOct null l):=by
 have hl:=take_most l
 cases null with
 | true=>
  obtain rfl:=h rfl
  cases fx <;> exact ⟨by simp [jl_,vOct,PF.wr,V.isNul,zq_,sText,sCnt,sOcts] <;> rfl,.inl rfl⟩
 | false=>
  cases b <;> cases fx
  ·exact ⟨by simp [jl_,vOct,PF.wr,V.octets,wBytes_f,sText,sCnt,sOcts],⟨_,rfl,hl⟩⟩
  ·exact ⟨by simp only [jl_,vOct,PF.wr,V.octets,Bool.false_eq_true,if_false,if_true,wBytes_t hl,sText,sCnt,sOcts],⟨_,rfl,hl⟩⟩
  ·exact ⟨by simp [jl_,vOct,PF.wr,V.isNul,V.octets,wBytes_f,sText,sCnt,sOcts],.inr ⟨_,rfl,hl⟩⟩
  ·exact ⟨by simp only [jl_,vOct,PF.wr,V.isNul,V.octets,Bool.false_eq_true,if_false,if_true,wBytes_t hl,sText,sCnt,sOcts],.inr ⟨_,rfl,hl⟩⟩
def vPrim:Prim->Tr->V
 | .uuid,t=>.s (s16 t.octets)
 | p,t=>.n (pNum p t.num)
theorem s16_len (l:Bs):(s16 l).length=16:=by simp only [s16,List.length_append,List.length_take,List.length_replicate];omega
theorem wr_prim (p:Prim) (null fx:Bool) (pt:Tr->Bs) (t:Tr):(jx_ p).wr (vPrim p t)=sVal (pCode p) null fx pt t/\okPF (jx_ p) (vPrim p t):=by
 have sg:∀ (bits:Nat) (x:Int),bits=8 \/ bits=16 \/ bits=32 \/ bits=64->sgn bits (x % 2 ^ bits).toNat % 2 ^ bits=x % 2 ^ bits/\-(2 ^ (bits - 1):Int)<=sgn bits (x % 2 ^ bits).toNat/\sgn bits (x % 2 ^ bits).toNat < 2 ^ (bits - 1):=by
  intro bits x hb
  rcases hb with rfl | rfl | rfl | rfl <;> simp only [sgn,Nat.reduceSub,Nat.reducePow,Int.reducePow] <;> split <;> omega
 cases p with
 | bool=>
  have h:t.num % 2=0 \/ t.num % 2=1:=by omega
  rcases h with h | h
  ·exact ⟨by simp [jx_,vPrim,pNum,PF.wr,V.num,sVal,pCode,h],.inl (by simp [vPrim,pNum,h])⟩
  ·exact ⟨by simp [jx_,vPrim,pNum,PF.wr,V.num,sVal,pCode,h],.inr (by simp [vPrim,pNum,h])⟩
 | uuid=>exact ⟨by simp [jx_,vPrim,PF.wr,V.octets,sVal,pCode],⟨_,rfl,s16_len _⟩⟩
 | u16=>
  refine ⟨?_,⟨_,rfl,by simp only [pNum];omega,by simp only [pNum];omega⟩⟩
  simp only [jx_,vPrim,PF.wr,V.num,pNum,sVal,pCode,zk_]
  exact be_modm 2 t.num 2 (Nat.le_refl _)
 | i8=>
  have h:=sg 8 t.num (by omega)
  refine ⟨?_,⟨_,rfl,by simpa [pNum] using h.2⟩⟩
  exact be_congr 1 (by simpa [V.num,vPrim,pNum] using h.1)
 | i16=>
  have h:=sg 16 t.num (by omega)
  refine ⟨?_,⟨_,rfl,by simpa [pNum] using h.2⟩⟩
  exact be_congr 2 (by simpa [V.num,vPrim,pNum] using h.1)
 | i32=>
  have h:=sg 32 t.num (by omega)
  refine ⟨?_,⟨_,rfl,by simpa [pNum] using h.2⟩⟩
  exact be_congr 4 (by simpa [V.num,vPrim,pNum] using h.1)
 | i64=>
  have h:=sg 64 t.num (by omega)
  refine ⟨?_,⟨_,rfl,by simpa [pNum] using h.2⟩⟩
  exact be_congr 8 (by simpa [V.num,vPrim,pNum] using h.1)
end Go.Proofs.YthjaecnbgfohmacGreatDoor.Kx
