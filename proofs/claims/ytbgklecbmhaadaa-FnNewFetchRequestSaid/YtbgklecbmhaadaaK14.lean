/-
  PLAIN LAWS AND CONTRACTS of messages, part 14 of 18: how readers and writers are printed, what they do, what the reference writes, and that what is written is read as the same. Nothing of a statement stands here.
-/
import Derived.Test.YtbgklecbmhaadaaK1
import Derived.Test.YtbgklecbmhaadaaK2
import Derived.KernelRfl
import Derived.Laws.IdiomStrings

namespace Go.Proofs.Ytbgklecbmhaadaa.Kx
theorem mem_insFirst (k:Nat) (v:Bs):∀ (l:List (Nat × Bs)) (y:Nat × Bs),y ∈ jq_ k v l->y=(k,v) \/ y ∈ l
 | [],y,h=>by simpa [jq_] using h
 | (j,u) :: r,y,h=>by
  simp only [jq_] at h
  split at h
  ·simpa using h
  ·split at h
   ·exact .inr h
   ·rcases List.mem_cons.1 h with h | h
    ·exact .inr (h ▸ List.mem_cons_self ..)
    ·rcases mem_insFirst k v r y h with h | h
     ·exact .inl h
     ·exact .inr (List.mem_cons_of_mem _ h)
theorem insFirst_pw (k:Nat) (v:Bs):∀ (l:List (Nat × Bs)),l.Pairwise (fun a b=>a.1 < b.1)->(jq_ k v l).Pairwise (fun a b=>a.1 < b.1)
 | [],_=>by simp [jq_]
 | (j,u) :: r,h=>by
  obtain ⟨h1,h2⟩:=List.pairwise_cons.1 h
  simp only [jq_]
  split
  ·rename_i hk
   refine List.pairwise_cons.2 ⟨fun y hy=>?_,h⟩
   rcases List.mem_cons.1 hy with rfl | hy
   ·exact hk
   ·exact Nat.lt_trans hk (h1 y hy)
  ·split
   ·exact h
   ·refine List.pairwise_cons.2 ⟨fun y hy=>?_,insFirst_pw k v r h2⟩
    rcases mem_insFirst k v r y hy with rfl | hy
    ·show j < k;omega
    ·exact h1 y hy
theorem insFirst_len (k:Nat) (v:Bs):∀ (l:List (Nat × Bs)),(jq_ k v l).length<=l.length + 1
 | []=>by simp [jq_]
 | (j,u) :: r=>by
  have:=insFirst_len k v r
  simp only [jq_]
  split
  ·simp
  ·split <;> simp <;> omega
theorem sUnkL_ok (n:Nat):∀ (l acc:List (Nat × Bs)),acc.Pairwise (fun a b=>a.1 < b.1)->(sUnkL n l acc).Pairwise (fun a b=>a.1 < b.1)/\(∀ y ∈ sUnkL n l acc,y ∈ l \/ y ∈ acc)/\(sUnkL n l acc).length<=l.length + acc.length
 | [],acc,h=>⟨h,fun y hy=>.inr hy,by simp [sUnkL]⟩
 | (k,v) :: r,acc,h=>by
  simp only [sUnkL]
  split
  ·obtain ⟨a,b,c⟩:=sUnkL_ok n r acc h
   refine ⟨a,fun y hy=>(b y hy).imp (List.mem_cons_of_mem _) id,?_⟩
   simp only [List.length_cons];omega
  ·obtain ⟨a,b,c⟩:=sUnkL_ok n r (jq_ k v acc) (insFirst_pw k v acc h)
   have hl:=insFirst_len k v acc
   refine ⟨a,fun y hy=>?_,by simp only [List.length_cons];omega⟩
   rcases b y hy with h1 | h1
   ·exact .inl (List.mem_cons_of_mem _ h1)
   ·rcases mem_insFirst k v acc y h1 with rfl | h1
    ·exact .inl (List.mem_cons_self ..)
    ·exact .inr h1
theorem tags_lt (t:Tr):∀ y ∈ t.tags,y.1 < 4294967296:=by
 obtain ⟨_,_,_,_,u⟩:=t
 intro y hy
 simp only [Tr.tags,List.mem_map] at hy
 obtain ⟨p,_,rfl⟩:=hy
 exact p.1.toNat_lt
theorem sUnk_ok (n:Nat) (t:Tr):(sUnk n t.tags).Pairwise (fun a b=>a.1 < b.1)/\(∀ y ∈ sUnk n t.tags,y.1 < 4294967296)/\(sUnk n t.tags).length<=zh_:=by
 obtain ⟨a,b,c⟩:=sUnkL_ok n (t.tags.take zh_) [] List.Pairwise.nil
 refine ⟨a,fun y hy=>tags_lt t y ?_,?_⟩
 ·rcases b y hy with h | h
  ·exact List.mem_of_mem_take h
  ·cases h
 ·have:(t.tags.take zh_).length<=zh_:=by rw [List.length_take];exact Nat.min_le_left ..
  simp only [List.length_nil] at c
  exact Nat.le_trans c (by omega)
def FitT (ver:Int) (fx:Bool) (ty:Ty) (F:Tr->Bs) (v:Tr->V):Prop:=
 ∀ t,(∀ (df:Int) rest nl,(nl=true->F t++rest=[])->rdTy fx ver ty (dfTy df ty) ⟨F t++rest,false,nl⟩=.ok (v t) ⟨rest,false,nl⟩)/\wrTy fx ver ty (v t)=F t/\(posTy fx ver ty=true->0 < (F t).length)
end Go.Proofs.Ytbgklecbmhaadaa.Kx

namespace Go.Proofs.Ytbgklecbmhaadaa.Kx
def N32:Nat:=4294967296
def us (sub:SFs) (t:Tr):Bool:=zm_ sub 0 t && (sUnk (qn_ sub) t.tags).isEmpty
end Go.Proofs.Ytbgklecbmhaadaa.Kx

namespace Go.Proofs.Ytbgklecbmhaadaa.Kx
def FitG (ver:Int) (fx:Bool) (ty:Ty) (F:Tr->Bs) (v:Tr->V):Prop:=
 ∀ t,(F t).length < N32->(∀ (df:Int) rest nl,(nl=true->F t++rest=[])->rdTy fx ver ty (dfTy df ty) ⟨F t++rest,false,nl⟩=.ok (v t) ⟨rest,false,nl⟩)/\wrTy fx ver ty (v t)=F t/\(posTy fx ver ty=true->0 < (F t).length)
theorem FitT.g {ver:Int} {fx:Bool} {ty:Ty} {F:Tr->Bs} {v:Tr->V} (h:FitT ver fx ty F v):FitG ver fx ty F v:=fun t _=>h t
end Go.Proofs.Ytbgklecbmhaadaa.Kx
