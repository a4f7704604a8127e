/-
  PLAIN LAWS AND CONTRACTS of messages, part 13 of 15: how readers and writers are printed, what they do, what the reference writes, and that what is written is read as the same. Nothing of a statement stands here.
-/
import Derived.Test.YtjfelbjkmpgbgabK1
import Derived.Test.YtjfelbjkmpgbgabK2
import Derived.KernelRfl
import Derived.Laws.IdiomStrings

namespace Go.Proofs.Ytjfelbjkmpgbgab.Kx
theorem mem_insFirst (k:Nat) (v:Bs):∀ (l:List (Nat × Bs)) (y:Nat × Bs),y ∈ jd_ k v l->y=(k,v) \/ y ∈ l
 | [],y,h=>by simpa [jd_] using h
 | (j,u) :: r,y,h=>by
  simp only [jd_] at h
  split at h
  ·simpa using h
  ·split at h
   ·exact .inr h
   ·rcases List.mem_cons.1 h with h | h
    ·exact .inr (h ▸ List.mem_cons_self ..)
    ·rcases mem_insFirst k v r y h with h | h
     ·exact .inl h
     ·exact .inr (List.mem_cons_of_mem _ h)
theorem insFirst_pw (k:Nat) (v:Bs):∀ (l:List (Nat × Bs)),l.Pairwise (fun a b=>a.1 < b.1)->(jd_ k v l).Pairwise (fun a b=>a.1 < b.1)
 | [],_=>by simp [jd_]
 | (j,u) :: r,h=>by
  obtain ⟨h1,h2⟩:=List.pairwise_cons.1 h
  simp only [jd_]
  split
  ·rename_i hk
   refine List.pairwise_cons.2 ⟨fun y hy=>?_,h⟩
   rcases List.mem_cons.1 hy with rfl | hy
   ·exact hk
   ·exact Nat.lt_trans hk (h1 y hy)
  ·split
   ·exact h
   ·refine List.pairwise_cons.2 ⟨fun y hy=>?_,insFirst_pw k v r h2⟩
    rcases mem_insFirst k v r y hy with rfl | hy
    ·show j < k;omega
    ·exact h1 y hy
theorem insFirst_len (k:Nat) (v:Bs):∀ (l:List (Nat × Bs)),(jd_ k v l).length<=l.length + 1
 | []=>by simp [jd_]
 | (j,u) :: r=>by
  have:=insFirst_len k v r
  simp only [jd_]
  split
  ·simp
  ·split <;> simp <;> omega
theorem sUnkL_ok (n:Nat):∀ (l acc:List (Nat × Bs)),acc.Pairwise (fun a b=>a.1 < b.1)->(sUnkL n l acc).Pairwise (fun a b=>a.1 < b.1)/\(∀ y ∈ sUnkL n l acc,y ∈ l \/ y ∈ acc)/\(sUnkL n l acc).length<=l.length + acc.length
 | [],acc,h=>⟨h,fun y hy=>.inr hy,by simp [sUnkL]⟩
 | (k,v) :: r,acc,h=>by
  simp only [sUnkL]
  split
  ·obtain ⟨a,b,c⟩:=sUnkL_ok n r acc h
   refine ⟨a,fun y hy=>(b y hy).imp (List.mem_cons_of_mem _) id,?_⟩
   simp only [List.length_cons];omega
  ·obtain ⟨a,b,c⟩:=sUnkL_ok n r (jd_ k v acc) (insFirst_pw k v acc h)
   have hl:=insFirst_len k v acc
   refine ⟨a,fun y hy=>?_,by simp only [List.length_cons];omega⟩
   rcases b y hy with h1 | h1
   ·exact .inl (List.mem_cons_of_mem _ h1)
   ·rcases mem_insFirst k v acc y h1 with rfl | h1
    ·exact .inl (List.mem_cons_self ..)
    ·exact .inr h1
theorem tags_lt (t:Tr):∀ y ∈ t.tags,y.1 < 4294967296:=by
 obtain ⟨_,_,_,_,u⟩:=t
 intro y hy
 simp only [Tr.tags,List.mem_map] at hy
 obtain ⟨p,_,rfl⟩:=hy
 exact p.1.toNat_lt
theorem sUnk_ok (n:Nat) (t:Tr):(sUnk n t.tags).Pairwise (fun a b=>a.1 < b.1)/\(∀ y ∈ sUnk n t.tags,y.1 < 4294967296)/\(sUnk n t.tags).length<=ju_:=by
 obtain ⟨a,b,c⟩:=sUnkL_ok n (t.tags.take ju_) [] List.Pairwise.nil
 refine ⟨a,fun y hy=>tags_lt t y ?_,?_⟩
 ·rcases b y hy with h | h
  ·exact List.mem_of_mem_take h
  ·cases h
 ·have:(t.tags.take ju_).length<=ju_:=by rw [List.length_take];exact Nat.min_le_left ..
  simp only [List.length_nil] at c
  exact Nat.le_trans c (by omega)
def sPlain:SFs->Bool
 | .nil=>true
 | .cons _ _ _ _ tag _ _ _ r=>decide (tag < 0) && sPlain r
theorem known_zero:∀ sf:SFs,sPlain sf=true->qv_ sf=0
 | .nil,_=>rfl
 | .cons _ _ _ _ tag _ _ _ r,h=>by
  simp only [sPlain,Bool.and_eq_true,decide_eq_true_eq] at h
  simp only [qv_,known_zero r h.2]
  rw [if_neg (by omega)]
theorem tgd_nil (ver:Int) (fx:Bool):∀ (sf:SFs) (i:Nat) (t:Tr),sPlain sf=true->sTgd ver fx sf i t=[]
 | .nil,_,_,_=>by simp [sTgd]
 | .cons _ _ _ _ tag _ _ _ r,i,t,h=>by
  simp only [sPlain,Bool.and_eq_true,decide_eq_true_eq] at h
  simp only [sTgd,tgd_nil ver fx r (i + 1) t h.2,List.append_nil]
  rw [if_neg (by omega)]
end Go.Proofs.Ytjfelbjkmpgbgab.Kx
