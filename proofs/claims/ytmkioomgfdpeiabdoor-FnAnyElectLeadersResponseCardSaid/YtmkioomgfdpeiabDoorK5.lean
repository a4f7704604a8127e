/-
  PLAIN LAWS AND CONTRACTS of messages, part 5 of 5: how readers and writers are printed, what they do, and that what is read is written as the same. Nothing of a statement stands here.
-/
import Derived.Test.YtmkioomgfdpeiabDoorK4
import Derived.OpenShut
import Derived.ChangeSlices
import Derived.Laws.MakeOwn
import Derived.Maps.RangeRun
import Derived.Shelf.GgSortFunc.Whole
import Derived.Shelf.GgSortFunc.Tiny
import Derived.Sort.LotA

/-
  THE PLAIN LAW, 2: each function that reads one value, and the one that writes it.
-/
namespace Go.Proofs.YtmkioomgfdpeiabDoor.Kx

/-- one function -/
def PfOk (p : PF) : Prop := ∀ r v r', p.run r = (v, r') → r'.src.length ≤ r.src.length ∧ (r'.bad = false → r.bad = false ∧ 0 < (p.wr v).length ∧ (p.wr v).length + r'.src.length ≤ r.src.length ∧
  ∀ rest, ∃ v', p.run ⟨p.wr v ++ rest, false, false⟩ = (v', ⟨rest, false, false⟩) ∧ p.wr v' = p.wr v)

theorem pf_num {p : PF} {k : Nat} (hk : k = 1 ∨ k = 2 ∨ k = 4 ∨ k = 8) (hrun : ∀ r, p.run r = (.n (rI k r).1, (rI k r).2)) (hwr : ∀ x, p.wr (.n x) = be k x) : PfOk p := by
  intro r v r' hr
  rw [hrun, Prod.mk.injEq] at hr
  obtain ⟨rfl, rfl⟩ := hr
  have h := rI_spec k r
  refine ⟨h.1, fun hb => ?_⟩
  obtain ⟨h1, h2, _⟩ := h.2 hb
  rw [hwr, be_length]
  refine ⟨h1, by omega, h2, fun rest => ⟨.n (rI k r).1, ?_, hwr _⟩⟩
  rw [hrun, rI_be hk (rI_rng hk r)]

theorem txt_fix {kk : Nat} (hk : kk = 2 ∨ kk = 4) (r : RS) : (rSpan (rI kk r).1 (rI kk r).2).2.src.length ≤ r.src.length ∧ ((rSpan (rI kk r).1 (rI kk r).2).2.bad = false → r.bad = false ∧
    kk + (rSpan (rI kk r).1 (rI kk r).2).1.octets.length + (rSpan (rI kk r).1 (rI kk r).2).2.src.length ≤ r.src.length ∧
    ∀ rest, rI kk ⟨be kk ((rSpan (rI kk r).1 (rI kk r).2).1.octets.length : Nat) ++ rest, false, false⟩ = ((((rSpan (rI kk r).1 (rI kk r).2).1.octets.length : Nat) : Int), (⟨rest, false, false⟩ : RS))) := by
  have h1 := rI_spec kk r
  have h2 := rSpan_spec (rI kk r).1 (rI kk r).2
  have hkk : kk = 1 ∨ kk = 2 ∨ kk = 4 ∨ kk = 8 := by omega
  have h3 := rI_rng hkk r
  refine ⟨by omega, fun hb => ?_⟩
  obtain ⟨b1, k0, ol, os, _, _⟩ := h2.2 hb
  obtain ⟨b0, l0, _⟩ := h1.2 b1
  refine ⟨b0, by omega, fun rest => rI_be hkk ?_ rest false⟩
  rcases hk with rfl | rfl <;> simp only [Nat.reduceMul, Nat.reduceSub, Int.reducePow] at h3 ⊢ <;> omega
theorem txt_uv (r : RS) : (rSpan ((rUv r).1 - 1 : Int) (rUv r).2).2.src.length ≤ r.src.length ∧ ((rSpan ((rUv r).1 - 1 : Int) (rUv r).2).2.bad = false → r.bad = false ∧
    (uvar (w32 ((rSpan ((rUv r).1 - 1 : Int) (rUv r).2).1.octets.length + 1))).length + (rSpan ((rUv r).1 - 1 : Int) (rUv r).2).1.octets.length + (rSpan ((rUv r).1 - 1 : Int) (rUv r).2).2.src.length ≤ r.src.length ∧
    ∀ rest, rUv ⟨uvar (w32 ((rSpan ((rUv r).1 - 1 : Int) (rUv r).2).1.octets.length + 1)) ++ rest, false, false⟩ = ((rSpan ((rUv r).1 - 1 : Int) (rUv r).2).1.octets.length + 1, ⟨rest, false, false⟩)) := by
  have h1 := rUv_spec r
  have h2 := rSpan_spec ((rUv r).1 - 1 : Int) (rUv r).2
  refine ⟨by omega, fun hb => ?_⟩
  obtain ⟨b1, k0, ol, os, _, _⟩ := h2.2 hb
  obtain ⟨b0, l0, _⟩ := h1.2.2 b1
  have hw : w32 ((rSpan ((rUv r).1 - 1 : Int) (rUv r).2).1.octets.length + 1) = (rSpan ((rUv r).1 - 1 : Int) (rUv r).2).1.octets.length + 1 := by simp only [w32]; omega
  rw [hw]
  have hm := uvar_mono (x := (rSpan ((rUv r).1 - 1 : Int) (rUv r).2).1.octets.length + 1) (y := (rUv r).1) (by omega) h1.1
  exact ⟨b0, by omega, fun rest => rUv_uvar (by omega) rest false⟩

theorem rSpan_app' (l rest : Bs) (k : Int) (hk : k = (l.length : Nat)) : rSpan k ⟨l ++ rest, false, false⟩ = (.s l, ⟨rest, false, false⟩) := by subst hk; exact rSpan_app l rest
theorem rI_m1 {k : Nat} (hk : k = 2 ∨ k = 4) (rest : Bs) : rI k ⟨be k (-1) ++ rest, false, false⟩ = (-1, ⟨rest, false, false⟩) := by
  refine rI_be (by omega) ?_ rest false
  rcases hk with rfl | rfl <;> simp only [Nat.reduceMul, Nat.reduceSub, Int.reducePow] <;> omega

theorem pf_txt {p : PF} (h4 : p = .str ∨ p = .cstr) : PfOk p := by
  intro r v r' hr
  rcases h4 with rfl | rfl
  · have er : ∀ r, PF.str.run r = (.s (rSpan (rI 2 r).1 (rI 2 r).2).1.octets, (rSpan (rI 2 r).1 (rI 2 r).2).2) := fun _ => rfl
    have e : ∀ o, PF.str.wr (.s o) = be 2 (o.length : Nat) ++ o := fun _ => rfl
    rw [er, Prod.mk.injEq] at hr
    obtain ⟨rfl, rfl⟩ := hr
    have h := txt_fix (kk := 2) (.inl rfl) r
    refine ⟨h.1, fun hb => ?_⟩
    obtain ⟨h1, h2, h3⟩ := h.2 hb
    generalize (rSpan (rI 2 r).1 (rI 2 r).2).1.octets = o at h2 h3 ⊢
    have el : (PF.str.wr (.s o)).length = 2 + o.length := by rw [e, List.length_append, be_length]
    refine ⟨h1, by omega, by omega, fun rest => ⟨.s o, ?_, rfl⟩⟩
    have ea : PF.str.wr (.s o) ++ rest = be 2 (o.length : Nat) ++ (o ++ rest) := by rw [e, List.append_assoc]
    rw [ea, er, h3 (o ++ rest), rSpan_app' o rest _ rfl]
    rfl
  · have er : ∀ r, PF.cstr.run r = (.s (rSpan ((rUv r).1 - 1 : Int) (rUv r).2).1.octets, (rSpan ((rUv r).1 - 1 : Int) (rUv r).2).2) := fun _ => rfl
    have e : ∀ o, PF.cstr.wr (.s o) = uvar (w32 (o.length + 1)) ++ o := fun _ => rfl
    rw [er, Prod.mk.injEq] at hr
    obtain ⟨rfl, rfl⟩ := hr
    have h := txt_uv r
    refine ⟨h.1, fun hb => ?_⟩
    obtain ⟨h1, h2, h3⟩ := h.2 hb
    generalize (rSpan ((rUv r).1 - 1 : Int) (rUv r).2).1.octets = o at h2 h3 ⊢
    have hp := uvar_pos (w32 (o.length + 1))
    have el : (PF.cstr.wr (.s o)).length = (uvar (w32 (o.length + 1))).length + o.length := by rw [e, List.length_append]
    refine ⟨h1, by omega, by omega, fun rest => ⟨.s o, ?_, rfl⟩⟩
    have ea : PF.cstr.wr (.s o) ++ rest = uvar (w32 (o.length + 1)) ++ (o ++ rest) := by rw [e, List.append_assoc]
    rw [ea, er, h3 (o ++ rest), rSpan_app' o rest _ (by push_cast; omega)]
    rfl
theorem pf_nstr : PfOk .nstr := by
  intro r v r' hr
  have er : ∀ r, PF.nstr.run r = if (rI 2 r).1 < 0 then (.nul, (rI 2 r).2) else (.s (rSpan (rI 2 r).1 (rI 2 r).2).1.octets, (rSpan (rI 2 r).1 (rI 2 r).2).2) := fun _ => rfl
  have e : ∀ o, PF.nstr.wr (.s o) = be 2 (o.length : Nat) ++ o := fun _ => rfl
  have e0 : PF.nstr.wr .nul = be 2 (-1) := rfl
  rw [er] at hr
  split at hr
  · rw [Prod.mk.injEq] at hr
    obtain ⟨rfl, rfl⟩ := hr
    have hI := rI_spec 2 r
    refine ⟨hI.1, fun hb => ?_⟩
    obtain ⟨h1, h2, _⟩ := hI.2 hb
    rw [e0, be_length]
    refine ⟨h1, by omega, h2, fun rest => ⟨.nul, ?_, e0⟩⟩
    rw [er, rI_m1 (.inl rfl), if_pos (by show (-1 : Int) < 0; omega)]
  · rw [Prod.mk.injEq] at hr
    obtain ⟨rfl, rfl⟩ := hr
    have h := txt_fix (kk := 2) (.inl rfl) r
    refine ⟨h.1, fun hb => ?_⟩
    obtain ⟨h1, h2, h3⟩ := h.2 hb
    generalize (rSpan (rI 2 r).1 (rI 2 r).2).1.octets = o at h2 h3 ⊢
    have el : (PF.nstr.wr (.s o)).length = 2 + o.length := by rw [e, List.length_append, be_length]
    refine ⟨h1, by omega, by omega, fun rest => ⟨.s o, ?_, rfl⟩⟩
    have ea : PF.nstr.wr (.s o) ++ rest = be 2 (o.length : Nat) ++ (o ++ rest) := by rw [e, List.append_assoc]
    rw [ea, er, h3 (o ++ rest), if_neg (by show ¬ (((o.length : Nat) : Int) < 0); omega), rSpan_app' o rest _ rfl]
    rfl
theorem pf_cnstr : PfOk .cnstr := by
  intro r v r' hr
  have er : ∀ r, PF.cnstr.run r = if ((rUv r).1 - 1 : Int) < 0 then (.nul, (rUv r).2) else (.s (rSpan ((rUv r).1 - 1 : Int) (rUv r).2).1.octets, (rSpan ((rUv r).1 - 1 : Int) (rUv r).2).2) := fun _ => rfl
  have e : ∀ o, PF.cnstr.wr (.s o) = uvar (w32 (o.length + 1)) ++ o := fun _ => rfl
  have e0 : PF.cnstr.wr .nul = uvar 0 := rfl
  have l0 : (uvar 0).length = 1 := rfl
  rw [er] at hr
  split at hr
  · rw [Prod.mk.injEq] at hr
    obtain ⟨rfl, rfl⟩ := hr
    have hI := rUv_spec r
    refine ⟨hI.2.1, fun hb => ?_⟩
    obtain ⟨h1, h2, _⟩ := hI.2.2 hb
    have hp := uvar_pos (rUv r).1
    rw [e0]
    refine ⟨h1, by omega, by omega, fun rest => ⟨.nul, ?_, e0⟩⟩
    rw [er, rUv_uvar (by omega), if_pos (by show (((0 : Nat) : Int) - 1) < 0; omega)]
  · rw [Prod.mk.injEq] at hr
    obtain ⟨rfl, rfl⟩ := hr
    have h := txt_uv r
    refine ⟨h.1, fun hb => ?_⟩
    obtain ⟨h1, h2, h3⟩ := h.2 hb
    generalize (rSpan ((rUv r).1 - 1 : Int) (rUv r).2).1.octets = o at h2 h3 ⊢
    have hp := uvar_pos (w32 (o.length + 1))
    have el : (PF.cnstr.wr (.s o)).length = (uvar (w32 (o.length + 1))).length + o.length := by rw [e, List.length_append]
    refine ⟨h1, by omega, by omega, fun rest => ⟨.s o, ?_, rfl⟩⟩
    have ea : PF.cnstr.wr (.s o) ++ rest = uvar (w32 (o.length + 1)) ++ (o ++ rest) := by rw [e, List.append_assoc]
    rw [ea, er, h3 (o ++ rest), if_neg (by show ¬ ((((o.length + 1 : Nat)) : Int) - 1 < 0); omega), rSpan_app' o rest _ (by push_cast; omega)]
    rfl
theorem pf_bytes : PfOk .bytes := by
  intro r v r' hr
  have er : ∀ r, PF.bytes.run r = if (rI 4 r).1 = -1 then (.s [], (rI 4 r).2) else rSpan (rI 4 r).1 (rI 4 r).2 := fun _ => rfl
  have e : ∀ v : V, PF.bytes.wr v = be 4 (v.octets.length : Nat) ++ v.octets := fun _ => rfl
  have again : ∀ (o rest : Bs), (∀ rest, rI 4 ⟨be 4 (o.length : Nat) ++ rest, false, false⟩ = (((o.length : Nat) : Int), (⟨rest, false, false⟩ : RS))) → PF.bytes.run ⟨(be 4 (o.length : Nat) ++ o) ++ rest, false, false⟩ = (.s o, ⟨rest, false, false⟩) := by
    intro o rest h3
    rw [List.append_assoc, er, h3 (o ++ rest), if_neg (by show ¬ (((o.length : Nat) : Int) = -1); omega), rSpan_app' o rest _ rfl]
  rw [er] at hr
  split at hr
  · rw [Prod.mk.injEq] at hr
    obtain ⟨rfl, rfl⟩ := hr
    have hI := rI_spec 4 r
    refine ⟨hI.1, fun hb => ?_⟩
    obtain ⟨h1, h2, _⟩ := hI.2 hb
    have el : (PF.bytes.wr (.s [])).length = 4 := by rw [e, List.length_append, be_length]; rfl
    exact ⟨h1, by omega, by omega, fun rest => ⟨.s [], again [] rest (fun rest => rI_be (k := 4) (x := 0) (by omega) (by simp only [Nat.reduceMul, Nat.reduceSub, Int.reducePow]; omega) rest false), rfl⟩⟩
  · have h := txt_fix (kk := 4) (.inr rfl) r
    rw [hr] at h
    refine ⟨h.1, fun hb => ?_⟩
    obtain ⟨h1, h2, h3⟩ := h.2 hb
    simp only at h2 h3
    have el : (PF.bytes.wr v).length = 4 + v.octets.length := by rw [e, List.length_append, be_length]
    exact ⟨h1, by omega, by omega, fun rest => ⟨.s v.octets, by rw [e]; exact again _ rest h3, rfl⟩⟩
theorem pf_cbytes : PfOk .cbytes := by
  intro r v r' hr
  have er : ∀ r, PF.cbytes.run r = if ((rUv r).1 - 1 : Int) = -1 then (.s [], (rUv r).2) else rSpan ((rUv r).1 - 1 : Int) (rUv r).2 := fun _ => rfl
  have e : ∀ v : V, PF.cbytes.wr v = uvar (w32 (v.octets.length + 1)) ++ v.octets := fun _ => rfl
  have again : ∀ (o rest : Bs), (∀ rest, rUv ⟨uvar (w32 (o.length + 1)) ++ rest, false, false⟩ = (o.length + 1, ⟨rest, false, false⟩)) → PF.cbytes.run ⟨(uvar (w32 (o.length + 1)) ++ o) ++ rest, false, false⟩ = (.s o, ⟨rest, false, false⟩) := by
    intro o rest h3
    rw [List.append_assoc, er, h3 (o ++ rest), if_neg (by show ¬ ((((o.length + 1 : Nat)) : Int) - 1 = -1); omega), rSpan_app' o rest _ (by push_cast; omega)]
  rw [er] at hr
  split at hr
  · rw [Prod.mk.injEq] at hr
    obtain ⟨rfl, rfl⟩ := hr
    have hI := rUv_spec r
    refine ⟨hI.2.1, fun hb => ?_⟩
    obtain ⟨h1, h2, _⟩ := hI.2.2 hb
    have hp := uvar_pos (rUv r).1
    have el : (PF.cbytes.wr (.s [])).length = 1 := rfl
    exact ⟨h1, by omega, by omega, fun rest => ⟨.s [], again [] rest (fun rest => rUv_uvar (x := 1) (by decide) rest false), rfl⟩⟩
  · have h := txt_uv r
    rw [hr] at h
    refine ⟨h.1, fun hb => ?_⟩
    obtain ⟨h1, h2, h3⟩ := h.2 hb
    simp only at h2 h3
    have hp := uvar_pos (w32 (v.octets.length + 1))
    have el : (PF.cbytes.wr v).length = (uvar (w32 (v.octets.length + 1))).length + v.octets.length := by rw [e, List.length_append]
    exact ⟨h1, by omega, by omega, fun rest => ⟨.s v.octets, by rw [e]; exact again _ rest h3, rfl⟩⟩
theorem pf_nbytes : PfOk .nbytes := by
  intro r v r' hr
  have er : ∀ r, PF.nbytes.run r = if (rI 4 r).1 < 0 then (.nul, (rI 4 r).2) else rSpan (rI 4 r).1 (rI 4 r).2 := fun _ => rfl
  have e : ∀ o, PF.nbytes.wr (.s o) = be 4 (o.length : Nat) ++ o := fun _ => rfl
  have e0 : PF.nbytes.wr .nul = be 4 (-1) := rfl
  have nul : ∀ rest, PF.nbytes.run ⟨PF.nbytes.wr .nul ++ rest, false, false⟩ = (.nul, ⟨rest, false, false⟩) := fun rest => by
    rw [e0, er, rI_m1 (.inr rfl), if_pos (by show (-1 : Int) < 0; omega)]
  rw [er] at hr
  split at hr
  · rw [Prod.mk.injEq] at hr
    obtain ⟨rfl, rfl⟩ := hr
    have hI := rI_spec 4 r
    refine ⟨hI.1, fun hb => ?_⟩
    obtain ⟨h1, h2, _⟩ := hI.2 hb
    have el : (PF.nbytes.wr .nul).length = 4 := by rw [e0, be_length]
    exact ⟨h1, by omega, by omega, fun rest => ⟨.nul, nul rest, rfl⟩⟩
  · have h := txt_fix (kk := 4) (.inr rfl) r
    have hS := rSpan_spec (rI 4 r).1 (rI 4 r).2
    rw [hr] at h hS
    refine ⟨h.1, fun hb => ?_⟩
    obtain ⟨h1, h2, h3⟩ := h.2 hb
    obtain ⟨_, _, _, _, _, hform⟩ := hS.2 hb
    simp only at h2 h3 hform
    rcases hform with hf | hf
    · rw [hf] at h2 ⊢
      have el : (PF.nbytes.wr .nul).length = 4 := by rw [e0, be_length]
      exact ⟨h1, by omega, by omega, fun rest => ⟨.nul, nul rest, rfl⟩⟩
    · generalize v.octets = o at h2 h3 hf
      subst hf
      have el : (PF.nbytes.wr (.s o)).length = 4 + o.length := by rw [e, List.length_append, be_length]
      refine ⟨h1, by omega, by omega, fun rest => ⟨.s o, ?_, rfl⟩⟩
      have ea : PF.nbytes.wr (.s o) ++ rest = be 4 (o.length : Nat) ++ (o ++ rest) := by rw [e, List.append_assoc]
      rw [ea, er, h3 (o ++ rest), if_neg (by show ¬ (((o.length : Nat) : Int) < 0); omega), rSpan_app' o rest _ rfl]
theorem pf_cnbytes : PfOk .cnbytes := by
  intro r v r' hr
  have er : ∀ r, PF.cnbytes.run r = if ((rUv r).1 - 1 : Int) < 0 then (.nul, (rUv r).2) else rSpan ((rUv r).1 - 1 : Int) (rUv r).2 := fun _ => rfl
  have e : ∀ o, PF.cnbytes.wr (.s o) = uvar (w32 (o.length + 1)) ++ o := fun _ => rfl
  have e0 : PF.cnbytes.wr .nul = uvar 0 := rfl
  have l0 : (uvar 0).length = 1 := rfl
  have nul : ∀ rest, PF.cnbytes.run ⟨PF.cnbytes.wr .nul ++ rest, false, false⟩ = (.nul, ⟨rest, false, false⟩) := fun rest => by
    rw [e0, er, rUv_uvar (by omega), if_pos (by show (((0 : Nat) : Int) - 1) < 0; omega)]
  rw [er] at hr
  split at hr
  · rw [Prod.mk.injEq] at hr
    obtain ⟨rfl, rfl⟩ := hr
    have hI := rUv_spec r
    refine ⟨hI.2.1, fun hb => ?_⟩
    obtain ⟨h1, h2, _⟩ := hI.2.2 hb
    have hp := uvar_pos (rUv r).1
    have el : (PF.cnbytes.wr .nul).length = 1 := rfl
    exact ⟨h1, by omega, by omega, fun rest => ⟨.nul, nul rest, rfl⟩⟩
  · have h := txt_uv r
    have hS := rSpan_spec ((rUv r).1 - 1 : Int) (rUv r).2
    rw [hr] at h hS
    refine ⟨h.1, fun hb => ?_⟩
    obtain ⟨h1, h2, h3⟩ := h.2 hb
    obtain ⟨_, _, _, _, _, hform⟩ := hS.2 hb
    simp only at h2 h3 hform
    rcases hform with hf | hf
    · have hp := uvar_pos (w32 (v.octets.length + 1))
      have el : (PF.cnbytes.wr .nul).length = 1 := rfl
      rw [hf] at h2 ⊢
      rw [hf] at hp
      exact ⟨h1, by omega, by omega, fun rest => ⟨.nul, nul rest, rfl⟩⟩
    · generalize v.octets = o at h2 h3 hf
      subst hf
      have hp := uvar_pos (w32 (o.length + 1))
      have el : (PF.cnbytes.wr (.s o)).length = (uvar (w32 (o.length + 1))).length + o.length := by rw [e, List.length_append]
      refine ⟨h1, by omega, by omega, fun rest => ⟨.s o, ?_, rfl⟩⟩
      have ea : PF.cnbytes.wr (.s o) ++ rest = uvar (w32 (o.length + 1)) ++ (o ++ rest) := by rw [e, List.append_assoc]
      rw [ea, er, h3 (o ++ rest), if_neg (by show ¬ ((((o.length + 1 : Nat)) : Int) - 1 < 0); omega), rSpan_app' o rest _ (by push_cast; omega)]
theorem pf_bool : PfOk .bool := by
  intro r v r' hr
  obtain ⟨src, bad, nl⟩ := r
  have e : ∀ x, PF.bool.wr (.n x) = [if x = 0 then 0 else 1] := fun _ => rfl
  cases src with
  | nil =>
    obtain rfl : RS.fail = r' := congrArg Prod.snd hr
    exact ⟨by simp [RS.fail], by simp [RS.fail]⟩
  | cons b t =>
    have er : PF.bool.run ⟨b :: t, bad, nl⟩ = (.n (if b.toNat = 0 then 0 else 1), ⟨t, bad, nl⟩) := rfl
    rw [er, Prod.mk.injEq] at hr
    obtain ⟨rfl, rfl⟩ := hr
    refine ⟨by simp, fun hb => ⟨hb, by simp [e], by rw [e]; simp; omega, fun rest => ?_⟩⟩
    by_cases h : b.toNat = 0
    · rw [if_pos h]
      exact ⟨.n 0, rfl, rfl⟩
    · rw [if_neg h]
      exact ⟨.n 1, rfl, rfl⟩
theorem pf_u16 : PfOk .u16 := by
  intro r v r' hr
  have er : ∀ r, PF.u16.run r = (.n ((rU 2 r).1 : Nat), (rU 2 r).2) := fun _ => rfl
  have e : ∀ x, PF.u16.wr (.n x) = be 2 x := fun _ => rfl
  rw [er, Prod.mk.injEq] at hr
  obtain ⟨rfl, rfl⟩ := hr
  have h := rU_spec 2 r
  refine ⟨h.2.1, fun hb => ?_⟩
  obtain ⟨h1, h2, _⟩ := h.2.2 hb
  have el : (PF.u16.wr (.n ((rU 2 r).1 : Nat))).length = 2 := by rw [e, be_length]
  refine ⟨h1, by omega, by omega, fun rest => ⟨.n ((rU 2 r).1 : Nat), ?_, rfl⟩⟩
  rw [e, er, rU_be h.1]
theorem pf_uuid : PfOk .uuid := by
  intro r v r' hr
  have er : ∀ r, PF.uuid.run r = if r.src.length < 16 then (.s (List.replicate 16 0), .fail) else (.s (r.src.take 16), ⟨r.src.drop 16, r.bad, r.nl⟩) := fun _ => rfl
  have e : ∀ o, PF.uuid.wr (.s o) = o := fun _ => rfl
  rw [er] at hr
  split at hr
  · rw [Prod.mk.injEq] at hr
    obtain ⟨_, rfl⟩ := hr
    exact ⟨by simp [RS.fail], by simp [RS.fail]⟩
  · rename_i hl
    rw [Prod.mk.injEq] at hr
    obtain ⟨rfl, rfl⟩ := hr
    have hlen : (r.src.take 16).length = 16 := by rw [List.length_take]; omega
    refine ⟨by simp, fun hb => ⟨hb, by rw [e]; omega, by rw [e, hlen, List.length_drop]; omega, fun rest => ⟨.s (r.src.take 16), ?_, rfl⟩⟩⟩
    generalize r.src.take 16 = o at hlen
    rw [e, er, if_neg (by rw [List.length_append]; omega)]
    simp only
    rw [List.take_append_of_le_length (by omega), List.take_of_length_le (by omega), List.drop_append_of_le_length (by omega), List.drop_of_length_le (by omega)]
    rfl

theorem pf_ok : ∀ p : PF, PfOk p
  | .bool => pf_bool
  | .i8 => pf_num (k := 1) (by omega) (fun _ => rfl) (fun _ => rfl)
  | .i16 => pf_num (k := 2) (by omega) (fun _ => rfl) (fun _ => rfl)
  | .i32 => pf_num (k := 4) (by omega) (fun _ => rfl) (fun _ => rfl)
  | .i64 => pf_num (k := 8) (by omega) (fun _ => rfl) (fun _ => rfl)
  | .u16 => pf_u16
  | .uuid => pf_uuid
  | .str => pf_txt (.inl rfl)
  | .cstr => pf_txt (.inr rfl)
  | .nstr => pf_nstr
  | .cnstr => pf_cnstr
  | .bytes => pf_bytes
  | .cbytes => pf_cbytes
  | .nbytes => pf_nbytes
  | .cnbytes => pf_cnbytes

theorem rw_pf (p : PF) : RW (fun r => .ok (p.run r).1 (p.run r).2) p.wr := by
  have key : ∀ r v r', Out.ok (p.run r).1 (p.run r).2 = Out.ok v r' → r'.src.length ≤ r.src.length ∧ (r'.bad = false → r.bad = false ∧ 0 < (p.wr v).length ∧ (p.wr v).length + r'.src.length ≤ r.src.length ∧
      ∀ rest, ∃ v', p.run ⟨p.wr v ++ rest, false, false⟩ = (v', ⟨rest, false, false⟩) ∧ p.wr v' = p.wr v) := fun r v r' h => by
    injection h with h1 h2
    exact pf_ok p r v r' (Prod.ext h1 h2)
  refine ⟨fun r v r' h hb => ((key r v r' h).2 hb).1, fun r v r' h => (key r v r' h).1, fun r v r' h hb => ((key r v r' h).2 hb).2.2.1, fun r v r' h hb rest nl hnl _ => ?_, fun r _ h => by cases h⟩
  obtain ⟨_, h1, _, h2⟩ := (key r v r' h).2 hb
  have hnl' : nl = false := by
    cases nl with
    | false => rfl
    | true =>
      have := hnl rfl
      rw [List.append_eq_nil_iff] at this
      rw [this.1] at h1
      simp at h1
  subst hnl'
  obtain ⟨v', h3, h4⟩ := h2 rest
  exact ⟨v', by simp only [h3], h4⟩
/-- each value of such a kind takes an octet -/
theorem pf_pos {p : PF} {r r' : RS} {v : V} (h : p.run r = (v, r')) (hb : r'.bad = false) : 0 < (p.wr v).length := ((pf_ok p r v r' h).2 hb).2.1

end Go.Proofs.YtmkioomgfdpeiabDoor.Kx

/-
  THE PLAIN LAW, 3: tags, counts, lists, parts, whole messages.
-/
namespace Go.Proofs.YtmkioomgfdpeiabDoor.Kx

/-! ## Tags -/
def TagOk (p : Nat × Bs) : Prop := p.1 < 4294967296 ∧ p.2.length < 4294967296
theorem wTags_cons (p : Nat × Bs) (t : List (Nat × Bs)) : wTags (p :: t) = wTag p ++ wTags t := rfl
theorem wTag_len (p : Nat × Bs) : (wTag p).length = (uvar p.1).length + ((uvar (w32 p.2.length)).length + p.2.length) := by simp [wTag]
theorem setTag_mem (k : Nat) (v : Bs) : ∀ (t : List (Nat × Bs)), ∀ y ∈ setTag k v t, y = (k, v) ∨ y ∈ t
  | [], y, hy => by simp [setTag] at hy; exact .inl hy
  | (j, u) :: r, y, hy => by
    unfold setTag at hy
    split at hy
    · rcases List.mem_cons.1 hy with rfl | hy
      · exact .inl rfl
      · exact .inr hy
    · split at hy
      · rcases List.mem_cons.1 hy with rfl | hy
        · exact .inl rfl
        · exact .inr (List.mem_cons_of_mem _ hy)
      · rcases List.mem_cons.1 hy with rfl | hy
        · exact .inr (List.mem_cons_self ..)
        · rcases setTag_mem k v r y hy with h | h
          · exact .inl h
          · exact .inr (List.mem_cons_of_mem _ h)
theorem setTag_len (k : Nat) (v : Bs) : ∀ (t : List (Nat × Bs)), (setTag k v t).length ≤ t.length + 1 ∧ (wTags (setTag k v t)).length ≤ (wTags t).length + (wTag (k, v)).length
  | [] => by simp [setTag, wTags]
  | (j, u) :: r => by
    have ih := setTag_len k v r
    unfold setTag
    split
    · simp only [wTags_cons, List.length_append, List.length_cons]; omega
    · split
      · simp only [wTags_cons, List.length_append, List.length_cons]; omega
      · simp only [wTags_cons, List.length_append, List.length_cons]; omega
theorem setTag_last (k : Nat) (v : Bs) : ∀ (t : List (Nat × Bs)), (∀ y ∈ t, y.1 < k) → setTag k v t = t ++ [(k, v)]
  | [], _ => rfl
  | (j, u) :: r, h => by
    have hj := h (j, u) (List.mem_cons_self ..)
    simp only at hj
    unfold setTag
    rw [if_neg (by omega), if_neg (by omega), setTag_last k v r fun y hy => h y (List.mem_cons_of_mem _ hy)]
    rfl

theorem rTags_spec : ∀ (n : Nat) (acc : List (Nat × Bs)) (r : RS), (rTags n acc r).2.src.length ≤ r.src.length ∧ ((rTags n acc r).2.bad = false → r.bad = false ∧ (wTags (rTags n acc r).1).length + (rTags n acc r).2.src.length ≤ (wTags acc).length + r.src.length ∧
    (rTags n acc r).1.length ≤ acc.length + n ∧ (Rising acc → Rising (rTags n acc r).1) ∧ ((∀ y ∈ acc, TagOk y) → ∀ y ∈ (rTags n acc r).1, TagOk y))
  | 0, acc, r => ⟨Nat.le_refl _, fun hb => ⟨hb, Nat.le_refl _, Nat.le_refl _, id, id⟩⟩
  | n + 1, acc, r => by
    have h1 := rUv_spec r
    have h2 := rUv_spec (rUv r).2
    have h3 := rSpan_spec (rUv (rUv r).2).1 (rUv (rUv r).2).2
    have ih := rTags_spec n (setTag (rUv r).1 (rSpan (rUv (rUv r).2).1 (rUv (rUv r).2).2).1.octets acc) (rSpan (rUv (rUv r).2).1 (rUv (rUv r).2).2).2
    simp only [rTags]
    refine ⟨by omega, fun hb => ?_⟩
    obtain ⟨b3, l3, n3, r3, t3⟩ := ih.2 hb
    obtain ⟨b2, k0, o1, o2, _, _⟩ := h3.2 b3
    obtain ⟨b1, c1, _⟩ := h2.2.2 b2
    obtain ⟨b0, c0, _⟩ := h1.2.2 b1
    have hset := setTag_len (rUv r).1 (rSpan (rUv (rUv r).2).1 (rUv (rUv r).2).2).1.octets acc
    have hw := wTag_len ((rUv r).1, (rSpan (rUv (rUv r).2).1 (rUv (rUv r).2).2).1.octets)
    have hw32 : w32 (rSpan (rUv (rUv r).2).1 (rUv (rUv r).2).2).1.octets.length = (rSpan (rUv (rUv r).2).1 (rUv (rUv r).2).2).1.octets.length := by simp only [w32]; omega
    simp only [hw32] at hw
    have hm := uvar_mono (x := (rSpan (rUv (rUv r).2).1 (rUv (rUv r).2).2).1.octets.length) (y := (rUv (rUv r).2).1) (by omega) h2.1
    refine ⟨b0, by omega, by omega, fun hr => r3 (setTag_rising _ _ _ hr), fun ht => t3 fun y hy => ?_⟩
    rcases setTag_mem _ _ _ y hy with rfl | hy
    · exact ⟨h1.1, by show (rSpan (rUv (rUv r).2).1 (rUv (rUv r).2).2).1.octets.length < _; omega⟩
    · exact ht y hy

theorem rising_pw : ∀ {l : List (Nat × Bs)}, Rising l → l.Pairwise fun a b => a.1 < b.1
  | [], _ => List.Pairwise.nil
  | _x :: _l, h => List.Pairwise.cons (rising_lt h) (rising_pw (rising_tail h))
theorem rTags_again : ∀ (t acc : List (Nat × Bs)) (rest : Bs), (acc ++ t).Pairwise (fun a b => a.1 < b.1) → (∀ y ∈ t, TagOk y) → rTags t.length acc ⟨wTags t ++ rest, false, false⟩ = (acc ++ t, ⟨rest, false, false⟩)
  | [], acc, rest, _, _ => by simp [rTags, wTags]
  | (k, v) :: t, acc, rest, hp, hok => by
    have hkv := hok (k, v) (List.mem_cons_self ..)
    have hv32 : v.length < 4294967296 := hkv.2
    have hw32 : w32 v.length = v.length := by simp only [w32]; omega
    have e1 : wTags ((k, v) :: t) ++ rest = uvar k ++ (uvar v.length ++ (v ++ (wTags t ++ rest))) := by simp [wTags_cons, wTag, hw32, List.append_assoc]
    have hlast : setTag k v acc = acc ++ [(k, v)] := setTag_last k v acc fun y hy => (List.pairwise_append.1 hp).2.2 y hy (k, v) (List.mem_cons_self ..)
    show rTags (t.length + 1) acc _ = _
    simp only [rTags]
    rw [e1, rUv_uvar hkv.1, rUv_uvar hkv.2, rSpan_app' v _ _ rfl]
    show rTags t.length (setTag k v acc) ⟨wTags t ++ rest, false, false⟩ = _
    rw [hlast, rTags_again t (acc ++ [(k, v)]) rest (by simpa using hp) fun y hy => hok y (List.mem_cons_of_mem _ hy)]
    simp

/-! ## Counts -/
theorem wCnt_t (n : Nat) : wCnt true n = uvar (w32 (n + 1)) := rfl
theorem rLen_spec (fx : Bool) (r : RS) : (rLen fx r).2.src.length ≤ r.src.length ∧ ((rLen fx r).2.bad = false → r.bad = false ∧ (rLen fx r).1 < 2147483648 ∧ (rLen fx r).1 ≤ (rLen fx r).2.src.length ∧ (wNull fx 4).length + (rLen fx r).2.src.length ≤ r.src.length ∧ (wCnt fx 0).length + (rLen fx r).2.src.length ≤ r.src.length ∧
    (0 < (rLen fx r).1 → (wCnt fx (rLen fx r).1.toNat).length + (rLen fx r).2.src.length ≤ r.src.length)) := by
  cases fx with
  | true =>
    have h := rUv_spec r
    unfold rLen
    simp only [if_true]
    split
    · simp [RS.fail]
    · rename_i hn
      refine ⟨h.2.1, fun hb => ?_⟩
      obtain ⟨b0, c0, _⟩ := h.2.2 hb
      have hp := uvar_pos (rUv r).1
      have e0 : (wNull true 4).length = 1 := rfl
      have e1 : (wCnt true 0).length = 1 := rfl
      simp only at hn ⊢
      have hlt : wrap32 (wrap32 ((rUv r).1 : Int) - 1) < 2147483648 := by simp only [wrap32]; omega
      refine ⟨b0, hlt, by omega, by omega, by omega, fun hpos => ?_⟩
      have hu : (wrap32 (wrap32 ((rUv r).1 : Int) - 1)).toNat + 1 = (rUv r).1 := by
        have := h.1
        simp only [wrap32] at hpos ⊢
        omega
      have e2 : wCnt true (wrap32 (wrap32 ((rUv r).1 : Int) - 1)).toNat = uvar (rUv r).1 := by
        rw [wCnt_t, hu]
        have : w32 (rUv r).1 = (rUv r).1 := by simp only [w32]; have := h.1; omega
        rw [this]
      rw [e2]; exact c0
  | false =>
    have h := rI_spec 4 r
    have hr := rI_rng (k := 4) (by omega) r
    simp only [Nat.reduceMul, Nat.reduceSub, Int.reducePow] at hr
    unfold rLen
    simp only [Bool.false_eq_true, if_false]
    split
    · simp [RS.fail]
    · rename_i hn
      refine ⟨h.1, fun hb => ?_⟩
      obtain ⟨b0, c0, _⟩ := h.2 hb
      have e0 : (wNull false 4).length = 4 := be_length 4 _
      have e1 : ∀ n, (wCnt false n).length = 4 := fun n => be_length 4 _
      have e2 := e1 (rI 4 r).1.toNat
      have e3 := e1 0
      exact ⟨b0, hr.2, by omega, by omega, by omega, fun _ => by omega⟩
theorem rLen_cnt (fx : Bool) {n : Nat} (hn : n < 2147483648) (rest : Bs) (hr : n ≤ rest.length) : rLen fx ⟨wCnt fx n ++ rest, false, false⟩ = ((n : Int), ⟨rest, false, false⟩) := by
  cases fx with
  | true =>
    have e : wCnt true n = uvar (n + 1) := by
      rw [wCnt_t]
      have : w32 (n + 1) = n + 1 := by simp only [w32]; omega
      rw [this]
    have hw : wrap32 (wrap32 ((n + 1 : Nat) : Int) - 1) = (n : Int) := by simp only [wrap32]; omega
    unfold rLen
    simp only [if_true]
    rw [e, rUv_uvar (by omega)]
    simp only [hw]
    rw [if_neg (by omega)]
  | false =>
    unfold rLen
    simp only [Bool.false_eq_true, if_false]
    have e : wCnt false n = be 4 (n : Nat) := rfl
    rw [e, rI_be (k := 4) (by omega) (by simp only [Nat.reduceMul, Nat.reduceSub, Int.reducePow]; omega)]
    simp only
    rw [if_neg (by omega)]
theorem rLen_null (fx : Bool) (rest : Bs) : rLen fx ⟨wNull fx 4 ++ rest, false, false⟩ = (-1, ⟨rest, false, false⟩) := by
  cases fx with
  | true =>
    have e : wNull true 4 = uvar 0 := rfl
    unfold rLen
    simp only [if_true]
    rw [e, rUv_uvar (by omega)]
    have hw : wrap32 (wrap32 ((0 : Nat) : Int) - 1) = -1 := by simp only [wrap32]; omega
    simp only [hw]
    rw [if_neg (by omega)]
  | false =>
    unfold rLen
    simp only [Bool.false_eq_true, if_false]
    have e : wNull false 4 = be 4 (-1) := rfl
    rw [e, rI_m1 (.inr rfl)]
    simp only
    rw [if_neg (by omega)]
theorem wCnt_pos (fx : Bool) (n : Nat) : 0 < (wCnt fx n).length := by
  cases fx with
  | true => exact uvar_pos _
  | false => rw [show wCnt false n = be 4 (n : Nat) from rfl, be_length]; omega
theorem wNull_pos (fx : Bool) : 0 < (wNull fx 4).length := by
  cases fx with
  | true => exact uvar_pos 0
  | false => rw [show wNull false 4 = be 4 (-1) from rfl, be_length]; omega

/-! ## So many things -/
def Pos (f : RS → Out V) (w : V → Bs) : Prop := ∀ r v r', f r = .ok v r' → r'.bad = false → 0 < (w v).length
theorem bind_ok {α β : Type} {x : Out α} {f : α → RS → Out β} {b : β} {r' : RS} (h : x.bind f = .ok b r') : ∃ a r, x = .ok a r ∧ f a r = .ok b r' := by
  cases x with
  | ok a r => exact ⟨a, r, rfl, h⟩
  | err => cases h
  | stuck => cases h
theorem rw_many {f : RS → Out V} {w : V → Bs} (hf : RW f w) (hp : Pos f w) : ∀ (n : Nat), RW (rMany f n) (wMany w) ∧ (∀ r vs r', rMany f n r = .ok vs r' → vs.length = n ∧ (r'.bad = false → n ≤ (wMany w vs).length))
  | 0 => by
    have key : ∀ r vs r', rMany f 0 r = .ok vs r' → vs = [] ∧ r' = r := fun r vs r' h => by
      simp only [rMany, Out.ok.injEq] at h
      exact ⟨h.1.symm, h.2.symm⟩
    refine ⟨⟨fun r v r' h hb => ?_, fun r v r' h => ?_, fun r v r' h hb => ?_, fun r v r' h hb rest nl _ _ => ?_, fun r _ h => by cases h⟩, fun r vs r' h => ?_⟩ <;> obtain ⟨rfl, rfl⟩ := key _ _ _ h
    · exact hb
    · exact Nat.le_refl _
    · simp [wMany]
    · exact ⟨[], rfl, rfl⟩
    · exact ⟨rfl, fun _ => by simp⟩
  | n + 1 => by
    obtain ⟨ih, ihl⟩ := rw_many hf hp n
    have key : ∀ r vs r', rMany f (n + 1) r = .ok vs r' → ∃ v r1 vs', f r = .ok v r1 ∧ rMany f n r1 = .ok vs' r' ∧ vs = v :: vs' := fun r vs r' h => by
      simp only [rMany] at h
      obtain ⟨v, r1, h1, h2⟩ := bind_ok h
      obtain ⟨vs', r2, h3, h4⟩ := bind_ok h2
      simp only [Out.ok.injEq] at h4
      obtain ⟨rfl, rfl⟩ := h4
      exact ⟨v, r1, vs', h1, h3, rfl⟩
    have hw : ∀ v vs', wMany w (v :: vs') = w v ++ wMany w vs' := fun _ _ => rfl
    refine ⟨⟨fun r vs r' h hb => ?_, fun r vs r' h => ?_, fun r vs r' h hb => ?_, fun r vs r' h hb rest nl hnl hbig => ?_, fun r hr h => ?_⟩, fun r vs r' h => ?_⟩
    · obtain ⟨v, r1, vs', h1, h2, rfl⟩ := key _ _ _ h
      exact hf.bad _ _ _ h1 (ih.bad _ _ _ h2 hb)
    · obtain ⟨v, r1, vs', h1, h2, rfl⟩ := key _ _ _ h
      exact Nat.le_trans (ih.le _ _ _ h2) (hf.le _ _ _ h1)
    · obtain ⟨v, r1, vs', h1, h2, rfl⟩ := key _ _ _ h
      have a := hf.len _ _ _ h1 (ih.bad _ _ _ h2 hb)
      have b := ih.len _ _ _ h2 hb
      rw [hw, List.length_append]; omega
    · obtain ⟨v, r1, vs', h1, h2, rfl⟩ := key _ _ _ h
      rw [hw, List.append_assoc] at hnl hbig
      obtain ⟨v2, h3, h4⟩ := hf.again _ _ _ h1 (ih.bad _ _ _ h2 hb) (wMany w vs' ++ rest) nl hnl hbig
      rw [List.length_append] at hbig
      obtain ⟨vs2, h5, h6⟩ := ih.again _ _ _ h2 hb rest nl (fun hh => (List.append_eq_nil_iff.1 (hnl hh)).2) (by omega)
      refine ⟨v2 :: vs2, ?_, by rw [hw, hw, h4, h6]⟩
      rw [hw, List.append_assoc]
      simp only [rMany, h3, Out.bind, h5]
    · simp only [rMany] at h
      cases hv : f r with
      | err => rw [hv] at h; cases h
      | stuck => exact hf.go r hr hv
      | ok v r1 =>
        rw [hv] at h
        simp only [Out.bind] at h
        have := hf.le _ _ _ hv
        cases hvs : rMany f n r1 with
        | err => rw [hvs] at h; cases h
        | stuck => exact ih.go r1 (by omega) hvs
        | ok vs r2 => rw [hvs] at h; cases h
    · obtain ⟨v, r1, vs', h1, h2, rfl⟩ := key _ _ _ h
      have a := ihl _ _ _ h2
      refine ⟨by simp [a.1], fun hb => ?_⟩
      have b := a.2 hb
      have c := hp _ _ _ h1 (ih.bad _ _ _ h2 hb)
      rw [hw, List.length_append]; omega

end Go.Proofs.YtmkioomgfdpeiabDoor.Kx

/-
  THE PLAIN LAW, 4: lists, parts, every plan without known tags; whole messages.
-/
namespace Go.Proofs.YtmkioomgfdpeiabDoor.Kx

theorem nl_false {l rest : Bs} {nl : Bool} (h : nl = true → l ++ rest = []) (hl : 0 < l.length) : nl = false := by
  cases nl with
  | false => rfl
  | true =>
    have := (List.append_eq_nil_iff.1 (h rfl)).1
    rw [this] at hl
    simp at hl

theorem rw_list {fx : Bool} {ver : Int} {nul : Option Nat} {esz : Nat} {e : Ty} {old : V} (hold : old.isNul = true) (hesz : esz ≤ 10000) (he : RW (rdTy fx ver e (dfTy 0 e)) (wrTy fx ver e)) (hp : Pos (rdTy fx ver e (dfTy 0 e)) (wrTy fx ver e)) :
    RW (rdTy fx ver (.list nul esz e) old) (wrTy fx ver (.list nul esz e)) ∧ Pos (rdTy fx ver (.list nul esz e) old) (wrTy fx ver (.list nul esz e)) := by
  have er : ∀ r, rdTy fx ver (.list nul esz e) old r = if (rLen fx r).2.bad then .err else if !roomy (rLen fx r).1 esz then .stuck else
      if (rLen fx r).1 ≤ 0 then .ok (if nul.isSome && (decide ((rLen fx r).1 = 0) || !nullable nul ver) then .l [] else .nul) (rLen fx r).2
      else (rMany (rdTy fx ver e (dfTy 0 e)) (rLen fx r).1.toNat (rLen fx r).2).bind fun vs r => .ok (.l vs) r := fun r => by simp only [rdTy, hold, Bool.not_true, Bool.false_eq_true, if_false]
  have ew : ∀ v, wrTy fx ver (.list nul esz e) v = (if nul.isSome && v.isNul then wNull fx 4 else wCnt fx v.list.length) ++ wMany (wrTy fx ver e) v.list := fun v => by simp only [wrTy]
  have ew0 : wrTy fx ver (.list nul esz e) (.l []) = wCnt fx 0 := by rw [ew]; simp [V.isNul, V.list, wMany]
  have ewn : wrTy fx ver (.list nul esz e) .nul = if nul.isSome then wNull fx 4 else wCnt fx 0 := by rw [ew]; simp [V.isNul, V.list, wMany]
  have ewl : ∀ vs, wrTy fx ver (.list nul esz e) (.l vs) = wCnt fx vs.length ++ wMany (wrTy fx ver e) vs := fun vs => by rw [ew]; simp [V.isNul, V.list]
  have roomyB : ∀ (L : Int), L ≤ BIG → roomy L esz = true := fun L hL => by
    simp only [roomy, decide_eq_true_eq]
    simp only [BIG] at hL
    have h1 : (24 * (esz : Int) + 8) ≤ 240008 := by omega
    by_cases h0 : L ≤ 0
    · have : L * (24 * (esz : Int) + 8) ≤ 0 := Int.mul_nonpos_of_nonpos_of_nonneg h0 (by omega)
      omega
    · have h2 : L * (24 * (esz : Int) + 8) ≤ 33554432 * 240008 := Int.mul_le_mul hL h1 (by omega) (by omega)
      omega
  have key : ∀ r v r', rdTy fx ver (.list nul esz e) old r = .ok v r' → (rLen fx r).2.bad = false ∧ (((rLen fx r).1 ≤ 0 ∧ r' = (rLen fx r).2 ∧ v = if nul.isSome && (decide ((rLen fx r).1 = 0) || !nullable nul ver) then .l [] else .nul) ∨
      (0 < (rLen fx r).1 ∧ ∃ vs, rMany (rdTy fx ver e (dfTy 0 e)) (rLen fx r).1.toNat (rLen fx r).2 = .ok vs r' ∧ v = .l vs)) := fun r v r' h => by
    rw [er] at h
    split at h
    · cases h
    · rename_i hb
      refine ⟨by simpa using hb, ?_⟩
      split at h
      · cases h
      · split at h
        · rename_i hL
          simp only [Out.ok.injEq] at h
          exact .inl ⟨hL, h.2.symm, h.1.symm⟩
        · rename_i hL
          obtain ⟨vs, r1, h1, h2⟩ := bind_ok h
          simp only [Out.ok.injEq] at h2
          obtain ⟨rfl, rfl⟩ := h2
          exact .inr ⟨by omega, vs, h1, rfl⟩
  have pos : Pos (rdTy fx ver (.list nul esz e) old) (wrTy fx ver (.list nul esz e)) := fun r v r' h hb => by
    rw [ew, List.length_append]
    have a := wNull_pos fx
    have b := wCnt_pos fx v.list.length
    split <;> omega
  refine ⟨⟨fun r v r' h hb => ?_, fun r v r' h => ?_, fun r v r' h hb => ?_, fun r v r' h hb rest nl hnl hbig => ?_, fun r hr h => ?_⟩, pos⟩
  · obtain ⟨hb1, _⟩ := key _ _ _ h
    exact ((rLen_spec fx r).2 hb1).1
  · obtain ⟨hb1, h1 | ⟨hL, vs, h1, rfl⟩⟩ := key _ _ _ h
    · rw [h1.2.1]; exact (rLen_spec fx r).1
    · exact Nat.le_trans ((rw_many he hp _).1.le _ _ _ h1) (rLen_spec fx r).1
  · obtain ⟨hb1, h1 | ⟨hL, vs, h1, rfl⟩⟩ := key _ _ _ h
    · obtain ⟨_, rfl, rfl⟩ := h1
      obtain ⟨_, _, _, h4, h5, _⟩ := (rLen_spec fx r).2 hb1
      split
      · rw [ew0]; exact h5
      · rw [ewn]; split
        · exact h4
        · exact h5
    · obtain ⟨_, _, _, _, _, h6⟩ := (rLen_spec fx r).2 hb1
      have a := (rw_many he hp _).1.len _ _ _ h1 hb
      have b := ((rw_many he hp _).2 _ _ _ h1).1
      have c := h6 hL
      rw [ewl, b, List.length_append]; omega
  · have hnlf := nl_false hnl (pos r v r' h hb)
    subst hnlf
    obtain ⟨hb1, h1 | ⟨hL, vs, h1, rfl⟩⟩ := key _ _ _ h
    · obtain ⟨hL, rfl, rfl⟩ := h1
      have cnt : rdTy fx ver (.list nul esz e) old ⟨wCnt fx 0 ++ rest, false, false⟩ = .ok (if nul.isSome then .l [] else .nul) ⟨rest, false, false⟩ := by
        rw [er, rLen_cnt fx (n := 0) (by omega) rest (by omega)]
        simp only [Bool.false_eq_true, if_false, roomyB ((0 : Nat) : Int) (by simp [BIG]), Bool.not_true]
        simp
      by_cases hc : (nul.isSome && (decide ((rLen fx r).1 = 0) || !nullable nul ver)) = true
      · rw [if_pos hc]
        have hs : nul.isSome = true := by
          simp only [Bool.and_eq_true] at hc
          exact hc.1
        exact ⟨.l [], by rw [ew0, cnt, if_pos hs], rfl⟩
      · rw [if_neg hc]
        by_cases hs : nul.isSome = true
        · have hc2 : nullable nul ver = true ∧ (rLen fx r).1 ≠ 0 := by
            simp only [hs, Bool.true_and, Bool.or_eq_true, decide_eq_true_eq, Bool.not_eq_true', not_or] at hc
            exact ⟨by simpa using hc.2, hc.1⟩
          refine ⟨.nul, ?_, rfl⟩
          rw [ewn, if_pos hs, er, rLen_null fx rest]
          simp only [Bool.false_eq_true, if_false, roomyB (-1) (by simp [BIG]), Bool.not_true, hc2.1]
          simp
        · exact ⟨.nul, by rw [ewn, if_neg hs, cnt, if_neg hs], rfl⟩
    · obtain ⟨_, hlt, _, _, _, _⟩ := (rLen_spec fx r).2 hb1
      obtain ⟨hlen, hge⟩ := (rw_many he hp _).2 _ _ _ h1
      have hge' := hge hb
      rw [ewl, List.append_assoc, List.length_append] at hbig
      have hroom : vs.length ≤ (wMany (wrTy fx ver e) vs ++ rest).length := by rw [List.length_append]; omega
      obtain ⟨vs2, h2, h3⟩ := (rw_many he hp _).1.again _ _ _ h1 hb rest false (by simp) (by omega)
      have hlen2 := ((rw_many he hp _).2 _ _ _ h2).1
      refine ⟨.l vs2, ?_, by rw [ewl, ewl, h3, hlen, hlen2]⟩
      rw [ewl, List.append_assoc, er, rLen_cnt fx (n := vs.length) (by omega) _ hroom]
      simp only [Bool.false_eq_true, if_false, roomyB ((vs.length : Nat) : Int) (by omega), Bool.not_true]
      rw [if_neg (by omega)]
      simp only [Int.toNat_natCast]
      rw [hlen, h2]
      rfl
  · rw [er] at h
    split at h
    · cases h
    · rename_i hb
      obtain ⟨_, _, hle, _⟩ := (rLen_spec fx r).2 (by simpa using hb)
      have hl2 := (rLen_spec fx r).1
      rw [roomyB _ (by omega)] at h
      simp only [Bool.not_true, Bool.false_eq_true, if_false] at h
      split at h
      · cases h
      · cases hv : rMany (rdTy fx ver e (dfTy 0 e)) (rLen fx r).1.toNat (rLen fx r).2 with
        | err => rw [hv] at h; cases h
        | stuck => exact (rw_many he hp _).1.go _ (by omega) hv
        | ok vs r2 => rw [hv] at h; cases h

/-- a part without known tags -/
theorem rw_st {fx : Bool} {fields : RS → Out (List V)} {tag : Nat → Option (List V → RS → Out (List V))} {wF : List V → Bs} (hf : RW fields wF) : RW (rdStOf fx false fields tag) (fun v => wF v.fields ++ wTagsC fx v.tags) := by
  have er : ∀ r, rdStOf fx false fields tag r = (fields r).bind fun vs r => if fx then .ok (.st vs (rTags (rUv r).1 [] (rUv r).2).1) (rTags (rUv r).1 [] (rUv r).2).2 else .ok (.st vs []) r := fun r => by
    simp only [rdStOf, Bool.false_eq_true, if_false]
    cases fx <;> rfl
  cases fx with
  | false =>
    have key : ∀ r v r', rdStOf false false fields tag r = .ok v r' → ∃ vs, fields r = .ok vs r' ∧ v = .st vs [] := fun r v r' h => by
      rw [er] at h
      obtain ⟨vs, r1, h1, h2⟩ := bind_ok h
      simp only [Bool.false_eq_true, if_false, Out.ok.injEq] at h2
      obtain ⟨rfl, rfl⟩ := h2
      exact ⟨vs, h1, rfl⟩
    have ew : ∀ vs, wF (V.st vs []).fields ++ wTagsC false (V.st vs []).tags = wF vs := fun vs => by simp [V.fields, wTagsC]
    refine ⟨fun r v r' h hb => ?_, fun r v r' h => ?_, fun r v r' h hb => ?_, fun r v r' h hb rest nl hnl hbig => ?_, fun r hr h => ?_⟩
    · obtain ⟨vs, h1, rfl⟩ := key _ _ _ h; exact hf.bad _ _ _ h1 hb
    · obtain ⟨vs, h1, rfl⟩ := key _ _ _ h; exact hf.le _ _ _ h1
    · obtain ⟨vs, h1, rfl⟩ := key _ _ _ h; simp only [ew]; exact hf.len _ _ _ h1 hb
    · obtain ⟨vs, h1, rfl⟩ := key _ _ _ h
      simp only [ew] at hnl hbig ⊢
      obtain ⟨vs2, h2, h3⟩ := hf.again _ _ _ h1 hb rest nl hnl hbig
      refine ⟨.st vs2 [], ?_, by simp only [ew]; exact h3⟩
      rw [er, h2]
      rfl
    · rw [er] at h
      cases hv : fields r with
      | err => rw [hv] at h; cases h
      | stuck => exact hf.go r hr hv
      | ok vs r1 => rw [hv] at h; cases h
  | true =>
    have key : ∀ r v r', rdStOf true false fields tag r = .ok v r' → ∃ vs r1, fields r = .ok vs r1 ∧ v = .st vs (rTags (rUv r1).1 [] (rUv r1).2).1 ∧ r' = (rTags (rUv r1).1 [] (rUv r1).2).2 := fun r v r' h => by
      rw [er] at h
      obtain ⟨vs, r1, h1, h2⟩ := bind_ok h
      simp only [if_true, Out.ok.injEq] at h2
      obtain ⟨rfl, rfl⟩ := h2
      exact ⟨vs, r1, h1, rfl, rfl⟩
    have tg : ∀ r1 : RS, (rTags (rUv r1).1 [] (rUv r1).2).2.bad = false → r1.bad = false ∧ (uvar (w32 (rTags (rUv r1).1 [] (rUv r1).2).1.length)).length + (wTags (rTags (rUv r1).1 [] (rUv r1).2).1).length + (rTags (rUv r1).1 [] (rUv r1).2).2.src.length ≤ r1.src.length ∧
        w32 (rTags (rUv r1).1 [] (rUv r1).2).1.length = (rTags (rUv r1).1 [] (rUv r1).2).1.length ∧ (rTags (rUv r1).1 [] (rUv r1).2).1.length < 4294967296 ∧ Rising (rTags (rUv r1).1 [] (rUv r1).2).1 ∧ ∀ y ∈ (rTags (rUv r1).1 [] (rUv r1).2).1, TagOk y := fun r1 hb => by
      have h1 := rUv_spec r1
      obtain ⟨b1, l1, n1, r2, t2⟩ := (rTags_spec (rUv r1).1 [] (rUv r1).2).2 hb
      obtain ⟨b0, c0, _⟩ := h1.2.2 b1
      have hw : w32 (rTags (rUv r1).1 [] (rUv r1).2).1.length = (rTags (rUv r1).1 [] (rUv r1).2).1.length := by
        simp only [List.length_nil] at n1
        simp only [w32]; have := h1.1; omega
      have hm := uvar_mono (x := (rTags (rUv r1).1 [] (rUv r1).2).1.length) (y := (rUv r1).1) (by simpa using n1) h1.1
      have e0 : (wTags []).length = 0 := rfl
      simp only [List.length_nil] at n1
      exact ⟨b0, by rw [hw]; omega, hw, by have := h1.1; omega, r2 trivial, t2 (by simp)⟩
    have ew : ∀ vs t, wF (V.st vs t).fields ++ wTagsC true (V.st vs t).tags = wF vs ++ (uvar (w32 t.length) ++ wTags t) := fun vs t => by simp [V.fields, V.tags, wTagsC]
    refine ⟨fun r v r' h hb => ?_, fun r v r' h => ?_, fun r v r' h hb => ?_, fun r v r' h hb rest nl hnl hbig => ?_, fun r hr h => ?_⟩
    · obtain ⟨vs, r1, h1, rfl, rfl⟩ := key _ _ _ h; exact hf.bad _ _ _ h1 (tg r1 hb).1
    · obtain ⟨vs, r1, h1, rfl, rfl⟩ := key _ _ _ h
      exact Nat.le_trans (rTags_spec _ _ _).1 (Nat.le_trans (rUv_spec r1).2.1 (hf.le _ _ _ h1))
    · obtain ⟨vs, r1, h1, rfl, rfl⟩ := key _ _ _ h
      obtain ⟨b1, c1, _⟩ := tg r1 hb
      have a := hf.len _ _ _ h1 b1
      simp only [ew, List.length_append]; omega
    · obtain ⟨vs, r1, h1, rfl, rfl⟩ := key _ _ _ h
      obtain ⟨b1, c1, hw, hlt, hris, hok⟩ := tg r1 hb
      simp only [ew] at hnl hbig ⊢
      generalize (rTags (rUv r1).1 [] (rUv r1).2).1 = t at hw hlt hris hok hnl hbig ⊢
      have hnlf : nl = false := by
        cases nl with
        | false => rfl
        | true =>
          have := hnl rfl
          simp only [List.append_eq_nil_iff] at this
          have hp := uvar_pos (w32 t.length)
          rw [this.1.2.1] at hp
          simp at hp
      subst hnlf
      rw [List.append_assoc] at hbig
      obtain ⟨vs2, h2, h3⟩ := hf.again _ _ _ h1 b1 ((uvar (w32 t.length) ++ wTags t) ++ rest) false (by simp) hbig
      refine ⟨.st vs2 t, ?_, by simp only [ew]; rw [h3]⟩
      rw [List.append_assoc, er, h2]
      simp only [Out.bind, if_true]
      rw [List.append_assoc, hw, rUv_uvar hlt, rTags_again t [] rest (by simpa using rising_pw hris) hok]
      rfl
    · rw [er] at h
      cases hv : fields r with
      | err => rw [hv] at h; cases h
      | stuck => exact hf.go r hr hv
      | ok vs r1 => rw [hv] at h; cases h

/-! ## Plans -/
mutual
/-- each thing of the type takes an octet -/
def posTy (fx : Bool) (ver : Int) : Ty → Bool
  | .struct none _ fs => fx || posFds fx ver fs
  | _ => true
def posFds (fx : Bool) (ver : Int) : Fds → Bool
  | .nil => false
  | .cons lo hi tag _ _ ty r => (tag.isNone && has lo hi ver && posTy fx ver ty) || posFds fx ver r
end
mutual
def lawTy (fx : Bool) (ver : Int) : Ty → Bool
  | .prim _ => true
  | .str nul => nul == none || nul == some 0
  | .bytes nul => nul == none || nul == some 0
  | .list _ esz e => decide (esz ≤ 10000) && posTy fx ver e && lawTy fx ver e
  | .struct _ _ fs => lawFds fx ver fs
def lawFds (fx : Bool) (ver : Int) : Fds → Bool
  | .nil => true
  | .cons _ _ tag _ _ ty r => tag.isNone && lawTy fx ver ty && lawFds fx ver r
end
theorem lawFds_untagged (fx : Bool) (ver : Int) : ∀ fs : Fds, lawFds fx ver fs = true → fs.tagged = false
  | .nil, _ => rfl
  | .cons _ _ tag _ _ ty r, h => by
    simp only [lawFds, Bool.and_eq_true] at h
    have := lawFds_untagged fx ver r h.2
    simp only [Fds.tagged, this, Bool.or_false]
    cases tag with
    | none => rfl
    | some t => have := h.1.1; cases this
theorem null_ok {nul : Option Nat} (h : (nul == none || nul == some 0) = true) (ver : Int) : nullS nul ver = nul.isSome := by
  simp only [Bool.or_eq_true, beq_iff_eq] at h
  rcases h with rfl | rfl <;> simp [nullS]
theorem dfTy_nul (df : Int) (ty : Ty) : (dfTy df ty).isNul = true ∨ ty.leaf = true ∨ (∃ t fs, ty = .struct none t fs) := by
  cases ty with
  | prim p => exact .inr (.inl rfl)
  | str p => exact .inr (.inl rfl)
  | bytes p => exact .inr (.inl rfl)
  | list _ _ _ => exact .inl rfl
  | struct n t fs => cases n with
    | none => exact .inr (.inr ⟨t, fs, rfl⟩)
    | some _ => exact .inl rfl

mutual
theorem law_ty (fx : Bool) (ver : Int) : ∀ (ty : Ty) (df : Int), lawTy fx ver ty = true → RW (rdTy fx ver ty (dfTy df ty)) (wrTy fx ver ty) ∧ (posTy fx ver ty = true → Pos (rdTy fx ver ty (dfTy df ty)) (wrTy fx ver ty))
  | .prim p, df, _ => by
    have e1 : rdTy fx ver (.prim p) (dfTy df (.prim p)) = fun r => .ok ((primPF p).run r).1 ((primPF p).run r).2 := by funext r; simp only [rdTy]
    have e2 : wrTy fx ver (.prim p) = (primPF p).wr := by funext v; simp only [wrTy, leafPF]
    rw [e1, e2]
    exact ⟨rw_pf _, fun _ r v r' h hb => by injection h with h1 h2; exact pf_pos (Prod.ext h1 h2) hb⟩
  | .str nul, df, h => by
    have e1 : rdTy fx ver (.str nul) (dfTy df (.str nul)) = fun r => .ok ((strPF nul.isSome fx).run r).1 ((strPF nul.isSome fx).run r).2 := by funext r; simp only [rdTy, null_ok h]
    have e2 : wrTy fx ver (.str nul) = (strPF nul.isSome fx).wr := by funext v; simp only [wrTy, leafPF]
    rw [e1, e2]
    exact ⟨rw_pf _, fun _ r v r' h hb => by injection h with h1 h2; exact pf_pos (Prod.ext h1 h2) hb⟩
  | .bytes nul, df, h => by
    have e1 : rdTy fx ver (.bytes nul) (dfTy df (.bytes nul)) = fun r => .ok ((bytesPF nul.isSome fx).run r).1 ((bytesPF nul.isSome fx).run r).2 := by funext r; simp only [rdTy, null_ok h]
    have e2 : wrTy fx ver (.bytes nul) = (bytesPF nul.isSome fx).wr := by funext v; simp only [wrTy, leafPF]
    rw [e1, e2]
    exact ⟨rw_pf _, fun _ r v r' h hb => by injection h with h1 h2; exact pf_pos (Prod.ext h1 h2) hb⟩
  | .list nul esz e, df, h => by
    simp only [lawTy, Bool.and_eq_true, decide_eq_true_eq] at h
    obtain ⟨ih, ihp⟩ := law_ty fx ver e 0 h.2
    have := rw_list (nul := nul) (old := dfTy df (.list nul esz e)) rfl h.1.1 ih (ihp h.1.2)
    exact ⟨this.1, fun _ => this.2⟩
  | .struct none toff fs, df, h => by
    have hf : lawFds fx ver fs = true := h
    obtain ⟨ih, ihp⟩ := law_fds fx ver fs hf
    have ht := lawFds_untagged fx ver fs hf
    have e1 : rdTy fx ver (.struct none toff fs) (dfTy df (.struct none toff fs)) = rdStOf fx false (rdFds fx ver fs) (rdTag fx ver fs) := by funext r; simp only [rdTy, ht]
    have e2 : wrTy fx ver (.struct none toff fs) = fun v => wrFds fx ver fs v.fields ++ wTagsC fx v.tags := by funext v; simp only [wrTy]
    rw [e1, e2]
    refine ⟨rw_st ih, fun hp r v r' h hb => ?_⟩
    simp only [posTy, Bool.or_eq_true] at hp
    rw [List.length_append]
    rcases hp with rfl | hp
    · have : 0 < (wTagsC true v.tags).length := by
        simp only [wTagsC, if_true, List.length_append]
        have := uvar_pos (w32 v.tags.length); omega
      omega
    · simp only [rdStOf] at h
      obtain ⟨vs, r1, h1, h2⟩ := bind_ok h
      have hb1 : r1.bad = false ∧ v.fields = vs := by
        cases fx with
        | false =>
          simp only [Bool.not_false, if_true, Out.ok.injEq] at h2
          obtain ⟨rfl, rfl⟩ := h2
          exact ⟨hb, rfl⟩
        | true =>
          simp only [Bool.not_true, Bool.false_eq_true, if_false, Out.ok.injEq] at h2
          obtain ⟨rfl, rfl⟩ := h2
          have a := ((rTags_spec (rUv r1).1 [] (rUv r1).2).2 hb).1
          exact ⟨((rUv_spec r1).2.2 a).1, rfl⟩
      rw [hb1.2]
      have := ihp hp r vs r1 h1 hb1.1
      omega
  | .struct (some q) toff fs, df, h => by
    have hf : lawFds fx ver fs = true := h
    obtain ⟨ih, _⟩ := law_fds fx ver fs hf
    have ht := lawFds_untagged fx ver fs hf
    have hst := rw_st (fx := fx) (tag := rdTag fx ver fs) ih
    have e1 : ∀ r, rdTy fx ver (.struct (some q) toff fs) (dfTy df (.struct (some q) toff fs)) r = if (rI 1 r).1 = -1 ∨ (rI 1 r).2.bad = true then .ok .nul (rI 1 r).2 else rdStOf fx false (rdFds fx ver fs) (rdTag fx ver fs) (rI 1 r).2 := fun r => by
      simp only [rdTy, dfTy, V.isNul, Bool.not_true, Bool.false_eq_true, if_false, ht]
    have ewn : wrTy fx ver (.struct (some q) toff fs) .nul = [255] := by simp [wrTy, V.isNul]
    have ews : ∀ vs t, wrTy fx ver (.struct (some q) toff fs) (.st vs t) = 1 :: (wrFds fx ver fs (V.st vs t).fields ++ wTagsC fx (V.st vs t).tags) := fun vs t => by simp [wrTy, V.isNul]
    have sts : ∀ r v r', rdStOf fx false (rdFds fx ver fs) (rdTag fx ver fs) r = .ok v r' → ∃ vs t, v = .st vs t := fun r v r' h => by
      simp only [rdStOf] at h
      obtain ⟨vs, r1, _, h2⟩ := bind_ok h
      cases fx with
      | false => simp only [Bool.not_false, if_true, Out.ok.injEq] at h2; exact ⟨_, _, h2.1.symm⟩
      | true => simp only [Bool.not_true, Bool.false_eq_true, if_false, Out.ok.injEq] at h2; exact ⟨_, _, h2.1.symm⟩
    have pos : Pos (rdTy fx ver (.struct (some q) toff fs) (dfTy df (.struct (some q) toff fs))) (wrTy fx ver (.struct (some q) toff fs)) := fun r v r' h hb => by
      rw [e1] at h
      split at h
      · simp only [Out.ok.injEq] at h
        rw [← h.1, ewn]; simp
      · obtain ⟨vs, t, rfl⟩ := sts _ _ _ h
        rw [ews]; simp
    have hI := fun r => rI_spec 1 r
    have b255 : ∀ rest, rI 1 ⟨[255] ++ rest, false, false⟩ = (-1, ⟨rest, false, false⟩) := fun rest => by
      have e : be 1 (-1) = [255] := by decide
      rw [← e]
      exact rI_be (k := 1) (x := -1) (by omega) (by simp only [Nat.reduceMul, Nat.reduceSub, Int.reducePow]; omega) rest false
    have b1 : ∀ rest, rI 1 ⟨1 :: rest, false, false⟩ = (1, ⟨rest, false, false⟩) := fun rest => by
      have e : be 1 1 = [1] := by decide
      show rI 1 ⟨[1] ++ rest, false, false⟩ = _
      rw [← e]
      exact rI_be (k := 1) (x := 1) (by omega) (by simp only [Nat.reduceMul, Nat.reduceSub, Int.reducePow]; omega) rest false
    refine ⟨⟨fun r v r' h hb => ?_, fun r v r' h => ?_, fun r v r' h hb => ?_, fun r v r' h hb rest nl hnl hbig => ?_, fun r hr h => ?_⟩, fun _ => pos⟩
    · rw [e1] at h
      split at h
      · simp only [Out.ok.injEq] at h
        obtain ⟨_, rfl⟩ := h
        exact ((hI r).2 hb).1
      · exact ((hI r).2 (hst.bad _ _ _ h hb)).1
    · rw [e1] at h
      split at h
      · simp only [Out.ok.injEq] at h
        obtain ⟨_, rfl⟩ := h
        exact (hI r).1
      · exact Nat.le_trans (hst.le _ _ _ h) (hI r).1
    · rw [e1] at h
      split at h
      · simp only [Out.ok.injEq] at h
        obtain ⟨rfl, rfl⟩ := h
        have := ((hI r).2 hb).2.1
        rw [ewn]; simpa using this
      · obtain ⟨vs, t, rfl⟩ := sts _ _ _ h
        have a := hst.len _ _ _ h hb
        have b := ((hI r).2 (hst.bad _ _ _ h hb)).2.1
        rw [ews, List.length_cons]
        omega
    · have hnlf := nl_false hnl (pos r v r' h hb)
      subst hnlf
      rw [e1] at h
      split at h
      · simp only [Out.ok.injEq] at h
        obtain ⟨rfl, rfl⟩ := h
        exact ⟨.nul, by rw [ewn, e1, b255, if_pos (.inl rfl)], rfl⟩
      · obtain ⟨vs, t, rfl⟩ := sts _ _ _ h
        rw [ews, List.cons_append, List.length_cons] at hbig
        obtain ⟨v2, h2, h3⟩ := hst.again _ _ _ h hb rest false (by simp) (by omega)
        obtain ⟨vs2, t2, rfl⟩ := sts _ _ _ h2
        refine ⟨.st vs2 t2, ?_, by rw [ews, ews, h3]⟩
        rw [ews, List.cons_append, e1, b1, if_neg (by simp)]
        exact h2
    · rw [e1] at h
      split at h
      · cases h
      · exact hst.go _ (Nat.le_trans (hI r).1 hr) h
theorem law_fds (fx : Bool) (ver : Int) : ∀ (fs : Fds), lawFds fx ver fs = true → RW (rdFds fx ver fs) (wrFds fx ver fs) ∧ (posFds fx ver fs = true → ∀ r vs r', rdFds fx ver fs r = .ok vs r' → r'.bad = false → 0 < (wrFds fx ver fs vs).length)
  | .nil, _ => by
    have e1 : rdFds fx ver .nil = fun r => .ok [] r := by funext r; simp only [rdFds]
    have e2 : wrFds fx ver .nil = fun _ => [] := by funext v; simp only [wrFds]
    rw [e1, e2]
    refine ⟨⟨fun r v r' h hb => ?_, fun r v r' h => ?_, fun r v r' h hb => ?_, fun r v r' h hb rest nl _ _ => ?_, fun r _ h => by cases h⟩, fun hp => by cases hp⟩ <;> (simp only [Out.ok.injEq] at h; obtain ⟨rfl, rfl⟩ := h)
    · exact hb
    · exact Nat.le_refl _
    · simp
    · exact ⟨[], rfl, rfl⟩
  | .cons lo hi tag df off ty rest', h => by
    simp only [lawFds, Bool.and_eq_true] at h
    obtain ⟨iht, ihtp⟩ := law_ty fx ver ty df h.1.2
    obtain ⟨ihr, ihrp⟩ := law_fds fx ver rest' h.2
    have htag := h.1.1
    by_cases hh : has lo hi ver = true
    · have e1 : ∀ r, rdFds fx ver (.cons lo hi tag df off ty rest') r = (rdTy fx ver ty (dfTy df ty) r).bind fun v r => (rdFds fx ver rest' r).bind fun vs r => .ok (v :: vs) r := fun r => by simp only [rdFds, htag, hh, Bool.and_self, if_true]
      have e2 : ∀ v vs, wrFds fx ver (.cons lo hi tag df off ty rest') (v :: vs) = wrTy fx ver ty v ++ wrFds fx ver rest' vs := fun v vs => by simp only [wrFds, htag, hh, Bool.and_self, if_true, List.headD_cons, List.tail_cons]
      have key : ∀ r vs r', rdFds fx ver (.cons lo hi tag df off ty rest') r = .ok vs r' → ∃ v r1 vs', rdTy fx ver ty (dfTy df ty) r = .ok v r1 ∧ rdFds fx ver rest' r1 = .ok vs' r' ∧ vs = v :: vs' := fun r vs r' h => by
        rw [e1] at h
        obtain ⟨v, r1, h1, h2⟩ := bind_ok h
        obtain ⟨vs', r2, h3, h4⟩ := bind_ok h2
        simp only [Out.ok.injEq] at h4
        obtain ⟨rfl, rfl⟩ := h4
        exact ⟨v, r1, vs', h1, h3, rfl⟩
      refine ⟨⟨fun r vs r' h hb => ?_, fun r vs r' h => ?_, fun r vs r' h hb => ?_, fun r vs r' h hb rest nl hnl hbig => ?_, fun r hr h => ?_⟩, fun hp r vs r' h hb => ?_⟩
      · obtain ⟨v, r1, vs', h1, h2, rfl⟩ := key _ _ _ h
        exact iht.bad _ _ _ h1 (ihr.bad _ _ _ h2 hb)
      · obtain ⟨v, r1, vs', h1, h2, rfl⟩ := key _ _ _ h
        exact Nat.le_trans (ihr.le _ _ _ h2) (iht.le _ _ _ h1)
      · obtain ⟨v, r1, vs', h1, h2, rfl⟩ := key _ _ _ h
        have a := iht.len _ _ _ h1 (ihr.bad _ _ _ h2 hb)
        have b := ihr.len _ _ _ h2 hb
        rw [e2, List.length_append]; omega
      · obtain ⟨v, r1, vs', h1, h2, rfl⟩ := key _ _ _ h
        rw [e2, List.append_assoc] at hnl hbig
        obtain ⟨v2, h3, h4⟩ := iht.again _ _ _ h1 (ihr.bad _ _ _ h2 hb) (wrFds fx ver rest' vs' ++ rest) nl hnl hbig
        rw [List.length_append] at hbig
        obtain ⟨vs2, h5, h6⟩ := ihr.again _ _ _ h2 hb rest nl (fun hh => (List.append_eq_nil_iff.1 (hnl hh)).2) (by omega)
        refine ⟨v2 :: vs2, ?_, by rw [e2, e2, h4, h6]⟩
        rw [e2, List.append_assoc, e1, h3]
        simp only [Out.bind, h5]
      · rw [e1] at h
        cases hv : rdTy fx ver ty (dfTy df ty) r with
        | err => rw [hv] at h; cases h
        | stuck => exact iht.go r hr hv
        | ok v r1 =>
          rw [hv] at h
          simp only [Out.bind] at h
          have := iht.le _ _ _ hv
          cases hvs : rdFds fx ver rest' r1 with
          | err => rw [hvs] at h; cases h
          | stuck => exact ihr.go r1 (by omega) hvs
          | ok vs r2 => rw [hvs] at h; cases h
      · obtain ⟨v, r1, vs', h1, h2, rfl⟩ := key _ _ _ h
        rw [e2, List.length_append]
        simp only [posFds, htag, hh, Bool.true_and, Bool.or_eq_true] at hp
        rcases hp with hp | hp
        · have := ihtp hp _ _ _ h1 (ihr.bad _ _ _ h2 hb); omega
        · have := ihrp hp _ _ _ h2 hb; omega
    · have hh' : has lo hi ver = false := by simpa using hh
      have e1 : ∀ r, rdFds fx ver (.cons lo hi tag df off ty rest') r = (rdFds fx ver rest' r).bind fun vs r => .ok (dfTy df ty :: vs) r := fun r => by simp only [rdFds, htag, hh', Bool.and_false, Bool.false_eq_true, if_false]
      have e2 : ∀ v vs, wrFds fx ver (.cons lo hi tag df off ty rest') (v :: vs) = wrFds fx ver rest' vs := fun v vs => by simp only [wrFds, htag, hh', Bool.and_false, Bool.false_eq_true, if_false, List.nil_append, List.tail_cons]
      have key : ∀ r vs r', rdFds fx ver (.cons lo hi tag df off ty rest') r = .ok vs r' → ∃ vs', rdFds fx ver rest' r = .ok vs' r' ∧ vs = dfTy df ty :: vs' := fun r vs r' h => by
        rw [e1] at h
        obtain ⟨vs', r1, h1, h2⟩ := bind_ok h
        simp only [Out.ok.injEq] at h2
        obtain ⟨rfl, rfl⟩ := h2
        exact ⟨vs', h1, rfl⟩
      refine ⟨⟨fun r vs r' h hb => ?_, fun r vs r' h => ?_, fun r vs r' h hb => ?_, fun r vs r' h hb rest nl hnl hbig => ?_, fun r hr h => ?_⟩, fun hp r vs r' h hb => ?_⟩
      · obtain ⟨vs', h2, rfl⟩ := key _ _ _ h; exact ihr.bad _ _ _ h2 hb
      · obtain ⟨vs', h2, rfl⟩ := key _ _ _ h; exact ihr.le _ _ _ h2
      · obtain ⟨vs', h2, rfl⟩ := key _ _ _ h; rw [e2]; exact ihr.len _ _ _ h2 hb
      · obtain ⟨vs', h2, rfl⟩ := key _ _ _ h
        rw [e2] at hnl hbig
        obtain ⟨vs2, h5, h6⟩ := ihr.again _ _ _ h2 hb rest nl hnl hbig
        refine ⟨dfTy df ty :: vs2, ?_, by rw [e2, e2, h6]⟩
        rw [e2, e1, h5]
        rfl
      · rw [e1] at h
        cases hv : rdFds fx ver rest' r with
        | err => rw [hv] at h; cases h
        | stuck => exact ihr.go r hr hv
        | ok v r1 => rw [hv] at h; cases h
      · obtain ⟨vs', h2, rfl⟩ := key _ _ _ h
        rw [e2]
        simp only [posFds, hh', Bool.and_false, Bool.false_and, Bool.false_or] at hp
        exact ihrp hp _ _ _ h2 hb
end

end Go.Proofs.YtmkioomgfdpeiabDoor.Kx

/-
  THE PLAIN LAW, 5: whole messages without a kept version and without known tags: what is read of few octets is written as no more octets, that are read again, and written as the same.
-/
namespace Go.Proofs.YtmkioomgfdpeiabDoor.Kx

/-- the plan of a message is one of the law's, at a version -/
def lawMsg (hf : Bool) (flex : Nat) (fs : Fds) (ver : Int) : Bool := lawFds (hf && decide ((flex : Int) ≤ ver)) ver fs

theorem rw_msg {hf : Bool} {flex : Nat} {fs : Fds} {ver : Int} (h : lawMsg hf flex fs ver = true) : RW (rdMsg hf flex fs ver) (wrMsg false hf flex fs ver) := by
  have hl : lawFds (hf && decide ((flex : Int) ≤ ver)) ver fs = true := h
  have ht := lawFds_untagged _ _ _ hl
  have e1 : rdMsg hf flex fs ver = rdStOf (hf && decide ((flex : Int) ≤ ver)) false (rdFds (hf && decide ((flex : Int) ≤ ver)) ver fs) (rdTag (hf && decide ((flex : Int) ≤ ver)) ver fs) := by
    funext r
    rw [rdMsg, ht]
  have e2 : wrMsg false hf flex fs ver = fun v => wrFds (hf && decide ((flex : Int) ≤ ver)) ver fs v.fields ++ wTagsC (hf && decide ((flex : Int) ≤ ver)) v.tags := by
    funext v
    simp only [wrMsg, Bool.false_eq_true, if_false, List.nil_append]
  rw [e1, e2]
  exact rw_st (law_fds _ _ fs hl).1

theorem go_msg {hf : Bool} {flex : Nat} {fs : Fds} {ver : Int} (h : lawMsg hf flex fs ver = true) (l : Bs) (hl : l.length ≤ BIG) : rdMsg hf flex fs ver (src0 l) ≠ .stuck := (rw_msg h).go _ hl

theorem againOut_some {hf : Bool} {flex : Nat} {fs : Fds} {ver : Int} {l bs : Bs} (h : againOut false hf flex fs ver l = some bs) : ∃ v r, rdMsg hf flex fs ver (src0 l) = .ok v r ∧ r.bad = false ∧ bs = wrMsg false hf flex fs ver v := by
  simp only [againOut, vread, Bool.false_eq_true, if_false] at h
  split at h
  · rename_i v r hv
    by_cases hb : r.bad = true
    · rw [if_pos hb] at h; cases h
    · rw [if_neg hb] at h
      exact ⟨v, r, hv, by simpa using hb, (Option.some.inj h).symm⟩
  · cases h

theorem again_len {hf : Bool} {flex : Nat} {fs : Fds} {ver : Int} (hm : lawMsg hf flex fs ver = true) {l bs : Bs} (h : againOut false hf flex fs ver l = some bs) : bs.length ≤ l.length := by
  obtain ⟨v, r, hv, hb, rfl⟩ := againOut_some h
  have := (rw_msg hm).len _ _ _ hv hb
  simp only [src0] at this
  omega

theorem again_same {hf : Bool} {flex : Nat} {fs : Fds} {ver : Int} (hm : lawMsg hf flex fs ver = true) {l bs : Bs} (hl : l.length ≤ BIG) (h : againOut false hf flex fs ver l = some bs) : againOut false hf flex fs ver bs = some bs := by
  have hlen := again_len hm h
  obtain ⟨v, r, hv, hb, rfl⟩ := againOut_some h
  obtain ⟨v2, h2, h3⟩ := (rw_msg hm).again _ _ _ hv hb [] (wrMsg false hf flex fs ver v).isEmpty (fun hh => by simpa using hh) (by simpa using Nat.le_trans hlen hl)
  rw [List.append_nil] at h2
  have e : rdMsg hf flex fs ver (src0 (wrMsg false hf flex fs ver v)) = .ok v2 ⟨[], false, (wrMsg false hf flex fs ver v).isEmpty⟩ := h2
  simp only [againOut, vread, Bool.false_eq_true, if_false, e, h3]

end Go.Proofs.YtmkioomgfdpeiabDoor.Kx

/-
  THE ROWS: an argument of octets opened and read again; a law of a number and octets, by what its call does.
-/
namespace Go.Proofs.YtmkioomgfdpeiabDoor.Kx
open Go Go.ChangeShapes Go.WideShapes Go.RowKit

section
variable {H : Type} {enc : TypeId × Value → H} {P : Program}

theorem shape_lt {w : World} {b : Nat} {x : TypeId × Nat} (h : w.shape? b = some x) : b < w.heap.size := by
  simp only [World.shape?] at h
  rcases Nat.lt_or_ge b w.heap.size with hb | hb
  · exact hb
  · rw [Array.getElem?_eq_none hb] at h
    cases h

theorem row_mem (a : Addr) {n : Nat} (h : 0 < n) : MemPlace.cell a.block a.off ∈ MemPlace.row a n := by
  simp only [MemPlace.row, List.mem_map, List.mem_range]
  exact ⟨0, h, by simp⟩

/-- an argument of octets -/
theorem arg_octs {tSl tU8 : TypeId} (hS : P.underlying tSl = some (.slice tU8)) (hE : P.underlying tU8 = some (.int .u8)) (hc : P.cellsOf tU8 = 1) {W : World} {base : Nat} {v : Value} {d : DataW H} {p : List MemPlace}
    (hval : Value.okWide P W .any base tSl v) (h : DataW.Trod enc P W 0 (fun _ => true) true tSl v d p) :
    ∃ l : Bs, SlRp W (fun _ => False) v l ∧ ∀ (W' : World) (sp : Nat → Bool), Keeps (fun _ => False) W W' → (∀ x ∈ p, sp x.block = true) → DataW.Trod enc P W' 0 sp true tSl v d p := by
  obtain ⟨a0, len0, cap0, rfl⟩ := okWide_slice hS hval
  obtain ⟨fuel, hf⟩ := h
  rcases open_ints hS hE hc hf with ⟨hcs, hx⟩ | ⟨a, len, cap, zs, hcs, hb, hl, hm, hzl, hx, hcell, hw⟩
  · simp only [Value.cells, List.cons.injEq, and_true] at hcs
    simp only [Prod.mk.injEq] at hx
    obtain ⟨rfl, rfl⟩ := hx
    rw [hcs]
    exact ⟨[], .inl ⟨rfl, rfl⟩, fun W' sp _ _ => shut_slice_nil hS⟩
  · simp only [Value.cells, List.cons.injEq, and_true] at hcs
    simp only [Prod.mk.injEq] at hx
    obtain ⟨rfl, rfl⟩ := hx
    rw [hcs] at hval ⊢
    have hzl : zs.length = cap := by simpa using hzl
    have hhas : W.has P .any base a tU8 cap := by
      simp only [Value.okWide, hS, Cell.okWide, Cell.ok] at hval
      exact hval.2.2
    obtain ⟨_, hspot, row, cells, hsh, _⟩ := hhas
    have hlt := shape_lt hsh
    obtain ⟨b, o, spot⟩ := a
    have hspot : spot = none := hspot
    subst hspot
    have hlt : b < W.heap.size := hlt
    have hr : ∀ z ∈ zs, 0 ≤ z ∧ z < 256 := fun z hz => by
      have := hw z hz
      simp [Lit.wf, IntKind.min, IntKind.max, IntKind.bits, IntKind.signed] at this
      omega
    refine ⟨(zs.take len).map fun z => UInt8.ofNat z.toNat, .inr ⟨b, o, cap, ?_, id, hlt, ?_, hm, fun i x hx => ?_⟩, fun W' sp hk hsp => ?_⟩
    · simp only [List.length_map, List.length_take]
      congr 1
      omega
    · simp only [List.length_map, List.length_take]
      omega
    · simp only [List.getElem?_map, Option.map_eq_some_iff] at hx
      obtain ⟨z, hz, rfl⟩ := hx
      have hi : i < len := by
        rcases Nat.lt_or_ge i len with h | h
        · exact h
        · rw [List.getElem?_take, if_neg (by omega)] at hz; cases hz
      rw [List.getElem?_take, if_pos hi] at hz
      have hzm : z ∈ zs := List.mem_of_getElem? hz
      have hzz := hr z hzm
      have := hcell i (by omega)
      rw [add_plain] at this
      rw [this]
      have e1 : zs.getD i 0 = z := by simp [List.getD, hz]
      have e2 : (UInt8.ofNat z.toNat).toNat = z.toNat := UInt8.toNat_ofNat_of_lt (by simpa using (by omega : z.toNat < 256))
      rw [e1, e2, Int.toNat_of_nonneg hzz.1]
    · have hz : zs.length = (if sp b then cap else len) := by
        by_cases h0 : zs.length = 0
        · rw [h0]; split <;> omega
        · have := hsp _ (row_mem ⟨b, o, none⟩ (n := zs.length) (by omega))
          have hspb : sp b = true := this
          rw [hspb, if_pos rfl]; exact hzl
      exact ⟨2, shut_ints' 0 hS hE hc (Nat.zero_le _) hl hm hz (fun i hi => by
        have := hcell i hi
        rw [add_plain] at this
        exact hk.cell id this) hw⟩

theorem Keeps.butNone {w w' : World} (h : Keeps (fun _ => False) w w') (may : MemPlace → Prop) : w.keptBut w' may :=
  World.keptBut_mono (fun _ h => h.elim) (World.keptBut_none_iff.2 ⟨h.os, h.output, fun i hi => h.block i hi id⟩)

/-- a law of a number and octets -/
theorem row2 {f : FuncId} {fn : Func} {s : ChangeSpec} {tX tSl tU8 tB : TypeId} (hpar : fn.params.toList = [tX, tSl]) (hres : fn.resultTypes = #[tB]) (hX : P.underlying tX = some (.int .u8)) (hS : P.underlying tSl = some (.slice tU8)) (hE : P.underlying tU8 = some (.int .u8)) (hc : P.cellsOf tU8 = 1) (hB : P.underlying tB = some .bool)
    (hv : s.vars = []) (hs : ∀ d1 d2 : DataW H, s.fn H [d1, d2] = { results := [.lit (.bool true)], args := [d1, d2] }) {W : World} {base : Nat} {args : Array Value} {ds gs : List (DataW H)} {before : List MemPlace}
    (hval : ∀ (j : Nat) t v, fn.params[j]? = some t → args[j]? = some v → Value.okWide P W .any base t v) (hW : DataW.Whole enc P fn.params.toList s.vars false W args.toList ds gs before)
    (hcall : ∀ (x0 : Nat) (srcv : Value) (l : Bs), x0 < 256 → SlRp W (fun _ => False) srcv l → Calls P f #[.int .u8 x0, srcv] W fun e w' => e = .returned (.bool true) ∧ Keeps (fun _ => False) W w') :
    Calls P f args W fun e W' => ∃ v, e = .returned v ∧ s.post enc P fn false true false false W args v W' := by
  have hW' := hW
  obtain ⟨p, q, hA0, hV, rfl, hfz, hnd⟩ := hW
  have hA : DataW.TrodAll enc P W 0 (fun _ => true) true fn.params.toList args.toList ds p := hA0
  have hpj : ∀ j, fn.params[j]? = ([tX, tSl] : List TypeId)[j]? := fun j => by rw [← hpar, Array.getElem?_toList]
  rw [hpar] at hA
  obtain ⟨v0, v1, d0, d1, p0, p1, rfl, rfl, rfl, h0, h1⟩ := trodAll_two hA
  rw [hv] at hV
  obtain ⟨rfl, rfl⟩ := trodVars_none hV
  obtain ⟨n, rfl, rfl, rfl, hn⟩ := open_int hX (hval 0 tX v0 (by rw [hpj]; rfl) rfl) h0
  obtain ⟨l, hsl, hagain⟩ := arg_octs hS hE hc (hval 1 tSl v1 (by rw [hpj]; rfl) rfl) h1
  have hn' : 0 ≤ n ∧ n < 256 := by
    simp [Lit.wf, IntKind.min, IntKind.max, IntKind.bits, IntKind.signed] at hn
    omega
  have e : n = ((n.toNat : Nat) : Int) := by omega
  have hcl := hcall n.toNat v1 l (by omega) hsl
  rw [← e] at hcl
  refine hcl.mono fun e W' ⟨he, hk⟩ => ?_
  subst he
  refine ⟨_, rfl, _, _, _, [], p1, [], hW', ?_, ?_, ?_, hk.butNone _, fun h => by cases h⟩
  · rw [hres]
    simp only [List.append_nil, hs]
    exact trodAll_mk1 (shut_bool hB true)
  · rw [hpar]
    simp only [List.append_nil, hs]
    have := trodAll_mk2 (p := []) (shut_int (enc := enc) (w := W') (base := 0) (spare := fun b => decide (b < W.heap.size)) (held := true) hX hn) (hagain W' (fun b => decide (b < W.heap.size)) hk fun x hx => by
      have := hW'.lt x (by simp [hx])
      simpa using this)
    simpa using this
  · rw [hv]
    simp only [List.append_nil, hs]
    rfl

/-- the row's list: the error is there -/
theorem errAt_of_var {n : String} {W : World} {g : Nat} {t : TypeId} {x : Value} (hg : P.globalNamed n = some g) (h : W.var? P n = some #[.iface t x]) : ErrAt g W :=
  ⟨t, x, by simpa using World.var?_cell hg h 0⟩

end
end Go.Proofs.YtmkioomgfdpeiabDoor.Kx

/-
  KBIN's APPENDING FUNCTIONS, as the writer of a message asks for them: one by one.
-/
namespace Go.Proofs.YtmkioomgfdpeiabDoor.Kx
open Go

section
variable {P : Program} {K : Kn}

/-- small facts of a program's tables, by computation -/
def ifaceB (P : Program) (T : Nat) : Bool := match P.underlying T with | some (.interface _) => true | _ => false
theorem ifaceB_ok {T : Nat} (h : ifaceB P T = true) : ∃ ms, P.underlying T = some (.interface ms) := by
  unfold ifaceB at h
  split at h
  · rename_i ms hms
    exact ⟨ms, hms⟩
  · cases h
def twoB (P : Program) (T : Nat) : Bool :=
  match P.underlying T with
  | some (.struct fs) => (match fs.toList with | [f0, f1] => f0.offset == 0 && f1.offset == 1 && varB P f0.type false 1 && varB P f1.type false 1 | _ => false)
  | _ => false
theorem twoB_ok {T : Nat} (h : twoB P T = true) : ∃ fs f0 f1, P.underlying T = some (.struct fs) ∧ fs.toList = [f0, f1] ∧ f0.offset = 0 ∧ f1.offset = 1 ∧ VarIs P f0.type false 1 ∧ VarIs P f1.type false 1 := by
  unfold twoB at h
  split at h
  · rename_i fs hfs
    split at h
    · rename_i f0 f1 hl
      simp only [Bool.and_eq_true, beq_iff_eq] at h
      exact ⟨fs, f0, f1, hfs, hl, h.1.1.1, h.1.1.2, varB_ok h.1.2, varB_ok h.2⟩
    · cases h
  · cases h
def octB (P : Program) (S U : Nat) : Bool :=
  (match P.underlying S with | some (.slice e) => e == U | _ => false) && (match P.info? U with | some i => (match i.zero with | some z => i.size == 1 && i.bytes == 1 && z.cells.size == 1 | none => false) | none => false)
theorem octB_ok {S U : Nat} (h : octB P S U = true) : OctT P S U := by
  simp only [octB, Bool.and_eq_true] at h
  obtain ⟨h1, h2⟩ := h
  refine ⟨?_, ?_⟩
  · split at h1
    · rename_i e he
      rw [he, beq_iff_eq.1 h1]
    · cases h1
  · split at h2
    · rename_i i hi
      split at h2
      · rename_i z hz
        simp only [Bool.and_eq_true, beq_iff_eq] at h2
        exact ⟨i, z, hi, hz, h2.1.1, h2.1.2, h2.2⟩
      · cases h2
    · cases h2
/-- the one field of a struct -/
def oneF (P : Program) (T : Nat) : Option Field := match P.underlying T with | some (.struct fs) => (match fs.toList with | [f] => some f | _ => none) | _ => none
theorem oneF_ok {T : Nat} {f : Field} (h : oneF P T = some f) : P.underlying T = some (.struct #[f]) := by
  unfold oneF at h
  split at h
  · rename_i fs hfs
    split at h
    · rename_i f' hl
      obtain rfl := Option.some.inj h
      rw [hfs, ← hl]
    · cases h
  · cases h

def AppOk (P : Program) (te : Nat) (p : PF) (f : Nat) : Prop :=
  Ent P f ∧ ∀ (w : World) (L : Nat) (cs : List Value) (val : Value) (v : V), LRp w (fun k => L ≤ k) (pfTy p) cs v → ValOf p cs val → ApL P te f val (p.wr v) w L

theorem valOf_ne {p : PF} (hp : p ≠ .uuid) {x val : Value} (h : ValOf p [x] val) : val = x := by
  unfold ValOf at h
  rw [if_neg hp] at h
  simpa using h.symm

theorem app_bool (wt : WT P K) {f ntmps : Nat} (hfn : FnIs P f ntmps [4] (cABool K)) (hnt : 12 ≤ ntmps) : AppOk P K.tU8 .bool f := by
  refine ⟨hfn.ent, fun w L cs val v hl hv => ?_⟩
  obtain ⟨b, rfl, rfl⟩ := hl
  obtain rfl : val = .bool b := valOf_ne (by simp) hv
  have e : PF.wr .bool (.n (if b then 1 else 0)) = [if b then 1 else 0] := by cases b <;> rfl
  rw [e]
  exact ap_bool wt hfn hnt b w L
theorem app_num {p : PF} {k : IntKind} {m f : Nat} (hp : ∀ w X cs v, LRp w X (pfTy p) cs v → ∃ x : Int, cs = [.int k x] ∧ v = .n x ∧ (p = .u16 → 0 ≤ x ∧ x < 65536)) (hu : p ≠ .uuid) (hw : ∀ x, p.wr (.n x) = be m x) (hE : Ent P f) (hc : ∀ (x : Int) (w : World), (p = .u16 → 0 ≤ x ∧ x < 65536) → ApC P K.tU8 f (.int k x) (be m x) w) : AppOk P K.tU8 p f := by
  refine ⟨hE, fun w L cs val v hl hv => ?_⟩
  obtain ⟨x, rfl, rfl, hx⟩ := hp _ _ _ _ hl
  obtain rfl : val = .int k x := valOf_ne hu hv
  rw [hw]
  exact hc x w hx L
theorem app_i8 (wt : WT P K) (hF : hasF K.tI8 = true) {f ntmps : Nat} (hfn : FnIs P f ntmps [4] (cAI8 K)) (hnt : 10 ≤ ntmps) : AppOk P K.tU8 .i8 f :=
  app_num (k := .i8) (m := 1) (fun w X cs v h => by obtain ⟨x, h1, h2, _⟩ := h; exact ⟨x, h1, h2, fun h => by cases h⟩) (by simp) (fun _ => rfl) hfn.ent fun x w _ => ap_i8 wt hF hfn hnt x w
theorem app_u16 (wt : WT P K) {f ntmps : Nat} (hfn : FnIs P f ntmps [4] (cAU16 K)) (hnt : 13 ≤ ntmps) : AppOk P K.tU8 .u16 f :=
  app_num (k := .u16) (m := 2) (fun w X cs v h => by
    obtain ⟨x, h1, h2, h3⟩ := h
    refine ⟨x, h1, h2, fun _ => ?_⟩
    simp [Prim.fits] at h3
    omega) (by simp) (fun _ => rfl) hfn.ent fun x w h => ap_u16 wt hfn hnt (h rfl) w
theorem app_i16 (wt : WT P K) {f f2 ntmps nt2 : Nat} (hfn2 : FnIs P f2 nt2 [4] (cAU16 K)) (hnt2 : 13 ≤ nt2) (hfn : FnIs P f ntmps [4] (cACv K.tI16 K.tU16 f2)) (hnt : 9 ≤ ntmps) : AppOk P K.tU8 .i16 f :=
  app_num (k := .i16) (m := 2) (fun w X cs v h => by obtain ⟨x, h1, h2, _⟩ := h; exact ⟨x, h1, h2, fun h => by cases h⟩) (by simp) (fun _ => rfl) hfn.ent fun x w _ => ap_i16 wt hfn2 hnt2 hfn hnt x w
theorem app_i32 (wt : WT P K) {f f2 ntmps nt2 : Nat} (hfn2 : FnIs P f2 nt2 [4] (cAU32 K)) (hnt2 : 19 ≤ nt2) (hfn : FnIs P f ntmps [4] (cACv K.tI32 K.tU32 f2)) (hnt : 9 ≤ ntmps) : AppOk P K.tU8 .i32 f :=
  app_num (k := .i32) (m := 4) (fun w X cs v h => by obtain ⟨x, h1, h2, _⟩ := h; exact ⟨x, h1, h2, fun h => by cases h⟩) (by simp) (fun _ => rfl) hfn.ent fun x w _ => ap_i32 wt hfn2 hnt2 hfn hnt x w
theorem app_i64 (wt : WT P K) (hF : hasF K.tU64 = true) (hF2 : hasF K.tI64 = true) {f f2 ntmps nt2 : Nat} (hfn2 : FnIs P f2 nt2 [4] (cAU64 K)) (hnt2 : 31 ≤ nt2) (hfn : FnIs P f ntmps [4] (cACv K.tI64 K.tU64 f2)) (hnt : 9 ≤ ntmps) : AppOk P K.tU8 .i64 f :=
  app_num (k := .i64) (m := 8) (fun w X cs v h => by obtain ⟨x, h1, h2, _⟩ := h; exact ⟨x, h1, h2, fun h => by cases h⟩) (by simp) (fun _ => rfl) hfn.ent fun x w _ => ap_i64 wt hF hF2 hfn2 hnt2 hfn hnt x w
theorem app_uuid (wt : WT P K) (hV : VarIs P K.tUuid true 16) (hA : P.underlying K.tUuid = some (.array 16 K.tU8)) {f ntmps : Nat} (hfn : FnIs P f ntmps [4] (cAUuid K)) (hnt : 8 ≤ ntmps) : AppOk P K.tU8 .uuid f := by
  refine ⟨hfn.ent, fun w L cs val v hl hv => ?_⟩
  obtain ⟨l, hl16, rfl, rfl⟩ := hl
  obtain rfl : val = .agg (l.map octv).toArray := by
    unfold ValOf at hv
    rw [if_pos rfl] at hv
    exact hv
  exact ap_uuid wt hV hA hfn hnt hl16 w L
theorem app_str (wt : WT P K) {f f2 ntmps : Nat} (hA : AppOk P K.tU8 .i16 f2) (hc : ∀ (x : Int) (w : World), ApC P K.tU8 f2 (.int .i16 x) (be 2 x) w) (hfn : FnIs P f ntmps [4] (cAStr K K.tStr K.tI16 f2)) (hnt : 13 ≤ ntmps) : AppOk P K.tU8 .str f := by
  refine ⟨hfn.ent, fun w L cs val v hl hv => ?_⟩
  obtain ⟨l, rfl, rfl, _⟩ := hl
  obtain rfl : val = .string ⟨l.toArray⟩ := valOf_ne (by simp) hv
  have h := hc (IntKind.i16.wrap (l.length : Int)) w
  rw [be_wrap (.inr (.inl ⟨.inl rfl, rfl⟩))] at h
  exact ap_txt wt wt.dI16 (txt_str wt.dStr l L w) hA.1 h hfn hnt
theorem app_cstr (wt : WT P K) {f f2 ntmps : Nat} (hE : Ent P f2) (hc : ∀ x w, x < 4294967296 → ApC P K.tU8 f2 (.int .u32 (x : Nat)) (uvar x) w) (hfn : FnIs P f ntmps [4] (cACStr K K.tStr f2)) (hnt : 14 ≤ ntmps) : AppOk P K.tU8 .cstr f := by
  refine ⟨hfn.ent, fun w L cs val v hl hv => ?_⟩
  obtain ⟨l, rfl, rfl, _⟩ := hl
  obtain rfl : val = .string ⟨l.toArray⟩ := valOf_ne (by simp) hv
  exact ap_ctxt wt (txt_str wt.dStr l L w) hE hc hfn hnt
theorem app_nstr (wt : WT P K) {p : PF} {fx : Bool} (hp : p = strPF true fx) {f f1 f2 ntmps tP : Nat} {c : Value} (hP : P.underlying tP = some (.pointer K.tStr)) (hE : Ent P f1) (hc : ∀ w, ApC P K.tU8 f1 c (wNull fx 2) w) (h2 : AppOk P K.tU8 (strPF false fx) f2) (hfn : FnIs P f ntmps [4] (cANStr K tP c f1 f2)) (hnt : 14 ≤ ntmps) : AppOk P K.tU8 p f := by
  refine ⟨hfn.ent, fun w L cs val v hl hv => ?_⟩
  have e0 : pfTy p = .str (some 0) := by rw [hp]; cases fx <;> rfl
  have e1 : p.wr .nul = wNull fx 2 := by rw [hp]; cases fx <;> rfl
  have e2 : ∀ l, p.wr (.s l) = (strPF false fx).wr (.s l) := fun l => by rw [hp]; cases fx <;> rfl
  have e3 : p ≠ .uuid := by rw [hp]; cases fx <;> simp [strPF]
  have e4 : pfTy (strPF false fx) = .str none := by cases fx <;> rfl
  have e5 : strPF false fx ≠ .uuid := by cases fx <;> simp [strPF]
  rw [e0] at hl
  rcases hl with ⟨rfl, rfl⟩ | ⟨l, b, o, rfl, hX, hcell, rfl, hlen⟩
  · obtain rfl : val = .pointer none := valOf_ne e3 hv
    rw [e1]
    exact ap_nstr0 wt hP hE (hc w) hfn hnt L
  · obtain rfl : val = .pointer (some ⟨b, o, none⟩) := valOf_ne e3 hv
    rw [e2]
    refine ap_nstr1 wt hP hcell h2.1 (fun L' => h2.2 w L' [.string ⟨l.toArray⟩] _ _ ?_ ?_) hfn hnt L
    · rw [e4]; exact ⟨l, rfl, rfl, by omega⟩
    · simp [ValOf, e5]
theorem app_oct (_wt : WT P K) {fx : Bool} {f : Nat} (hE : Ent P f) (h : ∀ (x : Value) (l : Bs) (L : Nat) (w : World), SlRp w (fun k => L ≤ k) x l → ApL P K.tU8 f x (wBytes fx l) w L) : AppOk P K.tU8 (bytesPF false fx) f := by
  refine ⟨hE, fun w L cs val v hl hv => ?_⟩
  have e0 : pfTy (bytesPF false fx) = .bytes none := by cases fx <;> rfl
  have e1 : ∀ v, (bytesPF false fx).wr v = wBytes fx v.octets := fun v => by cases fx <;> rfl
  have e3 : bytesPF false fx ≠ .uuid := by cases fx <;> simp [bytesPF]
  rw [e0] at hl
  rw [e1]
  rcases hl with ⟨rfl, rfl⟩ | ⟨l, b, o, c, rfl, hX, hlt, hc, hm, ho, rfl⟩
  · obtain rfl : val = .slice none 0 0 := valOf_ne e3 hv
    exact h _ [] L w (.inl ⟨rfl, rfl⟩)
  · obtain rfl : val = .slice (some ⟨b, o, none⟩) l.length c := valOf_ne e3 hv
    exact h _ l L w (.inr ⟨b, o, c, rfl, hX, hlt, hc, hm, ho⟩)
theorem app_bytes (wt : WT P K) {f f2 ntmps : Nat} (hE : Ent P f2) (hc : ∀ (x : Int) (w : World), ApC P K.tU8 f2 (.int .i32 x) (be 4 x) w) (hfn : FnIs P f ntmps [4] (cAStr K K.tSl K.tI32 f2)) (hnt : 13 ≤ ntmps) : AppOk P K.tU8 .bytes f :=
  app_oct (fx := false) wt hfn.ent fun x l L w hx => by
    have h := hc (IntKind.i32.wrap (l.length : Int)) w
    rw [be_wrap (.inr (.inr (.inl ⟨.inl rfl, rfl⟩)))] at h
    exact ap_txt wt wt.dI32 (txt_oct wt.oct hx) hE h hfn hnt
theorem app_cbytes (wt : WT P K) {f f2 ntmps : Nat} (hE : Ent P f2) (hc : ∀ x w, x < 4294967296 → ApC P K.tU8 f2 (.int .u32 (x : Nat)) (uvar x) w) (hfn : FnIs P f ntmps [4] (cACStr K K.tSl f2)) (hnt : 14 ≤ ntmps) : AppOk P K.tU8 .cbytes f :=
  app_oct (fx := true) wt hfn.ent fun _x _l _L _w hx => ap_ctxt wt (txt_oct wt.oct hx) hE hc hfn hnt
theorem app_nbytes (wt : WT P K) {p : PF} {fx : Bool} (hp : p = bytesPF true fx) {f f1 f2 ntmps : Nat} {c : Value} (hE : Ent P f1) (hc : ∀ w, ApC P K.tU8 f1 c (wNull fx 4) w) (h2 : AppOk P K.tU8 (bytesPF false fx) f2) (hfn : FnIs P f ntmps [4] (cANBytes K c f1 f2)) (hnt : 12 ≤ ntmps) : AppOk P K.tU8 p f := by
  refine ⟨hfn.ent, fun w L cs val v hl hv => ?_⟩
  have e0 : pfTy p = .bytes (some 0) := by rw [hp]; cases fx <;> rfl
  have e1 : p.wr .nul = wNull fx 4 := by rw [hp]; cases fx <;> rfl
  have e2 : ∀ l, p.wr (.s l) = (bytesPF false fx).wr (.s l) := fun l => by rw [hp]; cases fx <;> rfl
  have e3 : p ≠ .uuid := by rw [hp]; cases fx <;> simp [bytesPF]
  have e4 : pfTy (bytesPF false fx) = .bytes none := by cases fx <;> rfl
  have e5 : bytesPF false fx ≠ .uuid := by cases fx <;> simp [bytesPF]
  rw [e0] at hl
  rcases hl with ⟨rfl, rfl⟩ | ⟨l, b, o, c, rfl, hX, hlt, hc', hm, ho, rfl⟩
  · obtain rfl : val = .slice none 0 0 := valOf_ne e3 hv
    rw [e1]
    exact ap_nbytes0 wt hE (hc w) hfn hnt L
  · obtain rfl : val = .slice (some ⟨b, o, none⟩) l.length c := valOf_ne e3 hv
    rw [e2]
    refine ap_nbytes1 wt h2.1 (h2.2 w L [.slice (some ⟨b, o, none⟩) l.length c] _ _ ?_ ?_) hfn hnt
    · rw [e4]; exact .inr ⟨l, b, o, c, rfl, hX, hlt, hc', hm, ho, rfl⟩
    · simp [ValOf, e5]

end
end Go.Proofs.YtmkioomgfdpeiabDoor.Kx

/-
  FnAnyX, whole: out of the contracts of a message's functions and the law of its plan.
-/
namespace Go.Proofs.YtmkioomgfdpeiabDoor.Kx
open Go

section
variable {P : Program} {gErr te T : Nat} {hf : Bool} {flex : Nat} {fs : Fds} {toff : Option Nat} {z : Array Value} {fN fS fR fA : Nat}

theorem any_law (hm : P.follows .mixedOrders = true) (M : MsgC P gErr te false hf flex fs toff T z fN fS fR fA) {tI16 tInt tSl tErr tB fAg fV fSm fM fMV f ntAg ntV ntSm ntM ntMV nt most : Nat}
    (ot : OctT P tSl te) (h8 : VarIs P te false 1) (hI : P.underlying tI16 = some (.int .i16)) (hInt : P.underlying tInt = some (.int .i64)) (hU8 : P.underlying te = some (.int .u8)) (hErr : ∃ ms, P.underlying tErr = some (.interface ms))
    (hAg : FnIs P fAg ntAg [4, 5] (cAgain tI16 tInt tSl tErr fN fS fR fA)) (hnAg : 19 ≤ ntAg) (hV : FnIs P fV ntV [4] (cVer te tInt)) (hnV : 10 ≤ ntV) (hSm : FnIs P fSm ntSm [4] (cSame tSl te tInt)) (hnSm : 26 ≤ ntSm)
    (hM : FnIs P fM ntM [0] (cMax tI16 tInt fN fMV)) (hnM : 4 ≤ ntM) (hMV : FnIs P fMV ntMV [2] (cMaxV (most : Int))) (hnMV : 3 ≤ ntMV) (hmost : most < 32768) (hf0 : FnIs P f nt [4] (cAny tSl tInt tB fM fV fAg fSm)) (hnt : 43 ≤ nt)
    (hlaw : ((List.range (most + 1)).all fun v => lawMsg hf flex fs (v : Int)) = true) {w : World} {x0 : Nat} {srcv : Value} {l : Bs} (hx : x0 < 256) (hsrc : SlRp w (fun _ => False) srcv l) (herr : ErrAt gErr w) :
    Calls P f #[.int .u8 x0, srcv] w fun e w' => e = .returned (.bool true) ∧ Keeps (fun _ => False) w w' := by
  obtain ⟨ms, hErr⟩ := hErr
  have hl : ∀ v : Nat, v ≤ most → lawMsg hf flex fs (v : Int) = true := fun v hv => by
    have := List.all_eq_true.1 hlaw v (by simp; omega)
    simpa using this
  refine any_calls hm (most := most) (out := fun x l => againOut false hf flex fs x l) (okIn := fun x l => (∃ v : Nat, v ≤ most ∧ x = (v : Int)) ∧ l.length ≤ 1000) ot hInt hf0 hnt hM.ent (fun w => ?_) hV.ent (fun w => ver_calls hm hU8 hInt hx hmost hV hnV) hAg.ent ?_ hSm.ent (fun w va vb la lb ha hb hla => same_calls hm ot h8 hSm hnSm ha hb hla) hsrc herr fun hl0 => ?_
  · exact max_calls hm hI hInt hmost hM hnM M.newE ((M.newC w).mono fun e w' h => ⟨h.1, h.2.1⟩) hMV.ent fun w => maxV_calls hm hMV hnMV
  · intro w x srcv l hs he hok
    obtain ⟨⟨v, hv, rfl⟩, hlen⟩ := hok
    have hw : IntKind.i16.wrap (v : Int) = v := by simp [IntKind.wrap, IntKind.bits, IntKind.signed]; omega
    have hgo := go_msg (hl v hv) l (by simp only [BIG]; omega)
    have := again_calls hm M ot hI hInt hErr hAg hnAg (x := (v : Int)) hs (by simp only [LIM]; omega) he (by rw [hw]; exact hgo) (by
      rw [hw]
      intro bs hbs
      have := again_len (hl v hv) hbs
      simp only [LIM]; omega)
    rw [hw] at this
    exact this
  · have hv : x0 % (most + 1) ≤ most := by have := Nat.mod_lt x0 (show 0 < most + 1 by omega); omega
    refine ⟨⟨⟨_, hv, rfl⟩, hl0⟩, fun bs hbs => ?_⟩
    have hlen := again_len (hl _ hv) hbs
    refine ⟨by simp only [maxLen]; omega, ⟨⟨_, hv, rfl⟩, by omega⟩, again_same (hl _ hv) (by simp only [BIG]; omega) hbs⟩

/-- the contracts of a message, out of its functions -/
theorem msgC_of {g : G} {gw : GW} {av avw : PF → Bool} {fl flw nl : Bool} {D : Nat → Option (List (Nat × Value))} (En : Env P g av fl D) (K0 : KW P gw avw flw nl te) {cx cw : Cx} {fD fRf kt ktw n0 n0w ntN ntS ntR ntRf ntA v6 tI16 : Nat} {nm : Nm} {ms : List Nm} {zv : Value} {wr : List (Nat × Value)}
    (hfl : cx.hf = true → fl = true) (hflw : cw.hf = true → flw = true) (hcx : cx.hf = hf) (hcw : cw.hf = hf) (hN : FnIs P fN ntN [0] (cNewPtr T fD)) (hnN : 3 ≤ ntN) (hS : FnIs P fS ntS [] (cSetV T tI16)) (hnS : 8 ≤ ntS) (hR : FnIs P fR ntR [4] (cRdF fRf)) (hnR : 8 ≤ ntR)
    (hRf : FnIs P fRf ntRf [6] (gRead g cx.hf false cx fs fD T kt flex n0 nm)) (h17 : n0 + 17 ≤ ntRf) (hA : FnIs P fA ntA [4] (gWrite gw false cw fs T ktw flex v6 n0w ms)) (hzv : zeroOf P T = some zv) (hD : D fD = some wr) (hz : z = applyWr zv.cells 0 wr) (hz0 : 0 < z.size) (hwr : (wr.all fun p => decide (p.1 < zv.cells.size)) = true)
    (hF : fldB P T 0 tI16 0 false 1 = true) (hg : g.gErr = gErr) (hchk : topOk ⟨P, g, av, D⟩ false cx fs fD T kt toff n0 ntRf nm z (topUsed g false cx fs fD T kt flex n0 nm) = true)
    (hchkW : topOkW ⟨P, gw, avw, nl⟩ false cw fs T ktw toff v6 n0w ntA ms (topUsedW gw false cw fs T ktw flex v6 n0w ms) = true) : MsgC P gErr te false hf flex fs toff T z fN fS fR fA where
  zpos := hz0
  newE := hN.ent
  newC w := by
    obtain ⟨hE, hDf⟩ := En.df _ _ hD
    rw [hz]
    exact newPtr_calls En.kb.mixed hN hnN hzv hE hDf (fun p hp => by simpa using List.all_eq_true.1 hwr p hp) w
  setE := hS.ent
  setC w B cur x hB h0 := setV_calls En.kb.mixed hS hnS (fldB_ok hF) hB h0
  rdE := hR.ent
  rdC w B S ver srcv r0 hB hsrc hbad herr hSl hBS hgB hgo := by
    subst hcx hg
    exact rdF_calls En.kb.mixed hR hnR hRf.ent (read_fn En hfl hRf hchk h17 hB hsrc hbad herr hSl hBS hgB hgo)
  apE := hA.ent
  apC w B ver vs t hver hB hcell hr ht hlim := by
    subst hcw
    exact write_fn K0 hflw hA hchkW hver hB hcell hr ht hlim

end
end Go.Proofs.YtmkioomgfdpeiabDoor.Kx

/-
  TAGS, 1: how many tags there are (Tags.Len); small operations on maps.
-/
namespace Go.Proofs.YtmkioomgfdpeiabDoor.Kx
open Go

section
variable {P : Program}

theorem TgRp.len {w : World} {X : Nat → Prop} {m : Value} {t : List (Nat × Bs)} (h : TgRp w X m t) : (m = .map none ∧ t = []) ∨ ∃ (r clock : Nat) (es : List Ent1), m = .map (some r) ∧ w.heap[r]? = some (.map (es.map Ent1.entry).toArray clock) ∧ es.length = t.length := by
  rcases h with h | ⟨r, rfl, _, _, es, clock, f, hb, _, _, _, hp, _⟩
  · exact .inl h
  · refine .inr ⟨r, clock, es, rfl, hb, ?_⟩
    have := hp.length_eq
    simpa using this

theorem wl_lenMap {tM kt et : Nat} (hM : P.underlying tM = some (.map kt et)) {ops : Array Oper} {Q : Exit → Act → World → Prop} {r : List Oper} {a : Act} {w : World} {d : Option Nat} {y : Operand} {ty : Nat} {m : Value} {X : Nat → Prop} {t : List (Nat × Bs)} (hy : a.eval y = m) (ht : TgRp w X m t)
    (h : wpList P ops Q r (a.put d (.int .i64 t.length)) w) : wpList P ops Q (bi d .len [y] [tM] ty :: r) a w := by
  refine wpList_plain rfl fun _ hK => ?_
  unfold Oper.wp
  have hx : (execOp a.eval (bi d .len [y] [tM] ty)).run P w = .ok (.value (.int .i64 t.length)) w := by
    rcases ht.len with ⟨rfl, rfl⟩ | ⟨q, clock, es, rfl, hb, hl⟩
    · simp [execOp, bi, resolve, invoke, hy, builtin, Builtin.len_, run_underlying hM, goInt]
    · simp [execOp, bi, resolve, invoke, hy, builtin, Builtin.len_, run_underlying hM, goInt, getObj, Sem.run, hb, hl]
  rw [hx]
  exact hK _ _ h

/-- Tags.Len -/
theorem tlen_calls (hm : P.follows .mixedOrders = true) {K : Kn} {f ntmps tTags tM kt et : Nat} (hM : P.underlying tM = some (.map kt et)) (hF : FldIs P tTags 0 tM 0 false 1) (hfn : FnIs P f ntmps [2] (cTLen K tTags tM)) (hnt : 8 ≤ ntmps)
    {w : World} {b o : Nat} {m : Value} {X : Nat → Prop} {t : List (Nat × Bs)} (hc : w.cell? ⟨b, o, none⟩ = some m) (ht : TgRp w X m t) : Calls P f #[pt b o] w fun e w' => e = .returned (.int .i64 t.length) ∧ Keeps (fun _ => False) w w' := by
  refine callsA hm hfn (by simp) [pt b o] (by simp; omega) fun a harg hs hd => ?_
  have g0 := harg 0 _ rfl
  refine nwp_gS (LW_cons (nwp_rg (wl_assign (wpList_nil ?_))))
  rw [show (gSet 2 (.int .i64 0) 3).2 = 3 from rfl]
  refine LW_cons (nwp_rg (wl_move ?_))
  rw [eval_tm, get_put_ne _ _ _ _ (by omega), g0]
  refine wl_nilCheck (p := ⟨b, o, none⟩) (by rw [eval_tm, get_put _ _ _ (by simp only [put_size]; omega)]; rfl) ?_
  refine wl_fld (by rw [eval_tm, get_put _ _ _ (by simp only [put_size]; omega)]) hF ?_
  refine wl_load1 (p := ⟨b, o + 0, none⟩) (v := m) (by rw [eval_tm, get_put _ _ _ (by simp only [put_size]; omega)]) (hF.var.agg _) hc ?_
  refine wl_lenMap hM (by rw [eval_tm, get_put _ _ _ (by simp only [put_size]; omega)]) ht (wl_assign (wpList_nil (LW_cons (.ret ⟨?_, ?_, Keeps.refl _ _⟩))))
  · simp only [put_defers]; exact hd
  · rw [show retOf [2] _ = Act.get _ 2 from rfl, get_put _ _ _ (by simp only [put_size]; omega), eval_tm, get_put _ _ _ (by simp only [put_size]; omega)]

end
end Go.Proofs.YtmkioomgfdpeiabDoor.Kx

/-
  TAGS, 2: operations: a map's iterator, a look into a map, a row that is filled, a closure.
-/
namespace Go.Proofs.YtmkioomgfdpeiabDoor.Kx
open Go Go.MapKept

section
variable {P : Program} {w : World}

def u32v (k : Nat) : Value := .int .u32 (k : Int)

/-- a look at a key that is there -/
theorem run_mapGet {mty kt et r clock key j : Nat} {es : List Ent1} {e : Ent1} (hm : P.underlying mty = some (.map kt et)) (hd : P.underlying kt = some (.int .u32)) (hb : w.heap[r]? = some (.map (es.map Ent1.entry).toArray clock)) (hn : (es.map Ent1.key).Nodup) (hj : es[j]? = some e) (hk : e.key = key) :
    (Instr.lookup mty (.map (some r)) (u32v key) false).run P w = .ok e.val w := by
  have hks : ∀ x ∈ (es.map Ent1.entry).toArray.toList, IsKey (.int .u32) x.key := by
    intro x hx
    simp only [List.mem_map] at hx
    obtain ⟨e, _, rfl⟩ := hx
    exact isKey_u32 e.key
  rcases findNow_spec (isKey_u32 key) (es.map Ent1.entry).toArray.toList 0 hks with ⟨h1, h2⟩ | ⟨j', e', h1, h2, h3⟩
  · have := h2 e.entry (by simp; exact ⟨e, List.mem_of_getElem? hj, rfl⟩)
    simp [Ent1.entry, hk] at this
  · have h2' : (es[j']?).map Ent1.entry = some e' := by simpa using h2
    obtain ⟨e1, he1, rfl⟩ := Option.map_eq_some_iff.1 h2'
    have hk1 : e1.key = key := by
      simp only [Ent1.entry, Value.int.injEq, true_and] at h3
      omega
    have hje : j' = j := by
      have a1 : (es.map Ent1.key)[j']? = some key := by rw [List.getElem?_map, he1]; simp [hk1]
      have a2 : (es.map Ent1.key)[j]? = some key := by rw [List.getElem?_map, hj]; simp [hk]
      have hlt := (List.getElem?_eq_some_iff.1 a1).1
      exact (List.getElem?_inj hlt hn).1 (a1.trans a2.symm)
    subst hje
    obtain rfl := Option.some.inj (he1.symm.trans hj)
    have h1' : Instr.findNow (.int .u32) (.int .u32 (key : Int)) (es.map Ent1.entry).toArray.toList 0 = some (some (0 + j', e1.entry.val)) := h1
    simp [Instr.lookup, u32v, run_underlying hm, MapKept.run_getObj_map hb, MapKept.run_checkKey hd (isKey_u32 key), MapKept.run_findKey hd h1', Ent1.entry]

/-- a number laid into a row that has room -/
theorem run_append_room {tS te G n : Nat} {cur : Array Value} {v : Value} {X c x : Nat} {ty : TypeId} (hS : P.underlying tS = some (.slice te)) (hi : ∃ i, P.info? te = some i ∧ i.size = 1) (hG : w.heap[G]? = some (.cells cur te (0, 0))) (hcs : cur.size = n) (hx : x < n) (hX : w.cell? ⟨X, 0, none⟩ = some v) (hv : v.oneCell' = true) :
    (Builtin.append_ #[tS, tS] ty #[.slice (some ⟨G, 0, none⟩) x n, .slice (some ⟨X, 0, none⟩) 1 c]).run P w = .ok (.slice (some ⟨G, 0, none⟩) (x + 1) n) (w.setRow G (cur.setIfInBounds x v)) := by
  obtain ⟨i, hi, hsz⟩ := hi
  have hs : Src P 1 tS (.slice (some ⟨X, 0, none⟩) 1 c) 1 [v] w := Src.ofSlice w hS ⟨X, 0, none⟩ 1 c [v] (by simp) (fun j u hj => by
    cases j with
    | zero => simp at hj; subst hj; simpa [Addr.add_lit] using hX
    | succ j => simp at hj) (by simpa using hv)
  have hst := run_storeCells_at P G x te [v] 0 cur w hG (by simp; omega) hs.one
  simp only [Nat.add_zero] at hst
  have hroom : x + 1 ≤ n := by omega
  have e1 : splice cur x [v] = cur.setIfInBounds x v := splice_one (by omega)
  rw [← e1]
  simp [Builtin.append_, run_underlying hS, sizeOf, typeInfo, hi, hsz, hs.len, hroom, hs.cells, Addr.add_lit, hst, splice]

theorem wl_run {ops : Array Oper} {Q : Exit → Act → World → Prop} {r : List Oper} {a : Act} {d : Option Nat} {op : Op} {v : Value} {w' : World} (h : (execOp a.eval (mk d op)).run P w = .ok (.value v) w') (hk : wpList P ops Q r (a.put d v) w') : wpList P ops Q (mk d op :: r) a w := wl_value h hk

/-- a function value that holds one thing of its own is called -/
theorem wl_callFn {ops : Array Oper} {Q : Exit → Act → World → Prop} {r : List Oper} {a : Act} {d : Option Nat} {f : Nat} {y : Operand} {args : List Operand} {vs cap : Array Value} {R : Ending → World → Prop} (hf : Ent P f) (hy : a.eval y = .func (.func f) #[] cap) (hargs : (args.map a.eval).toArray = vs)
    (hc : Calls P f (vs ++ cap) w R) (h : ∀ e w', R e w' → ∃ v, e = .returned v ∧ wpList P ops Q r (a.put d v) w') : wpList P ops Q (mk d (.call ⟨.value y, args.toArray, #[]⟩) :: r) a w := by
  refine wl_intro ?_
  unfold Oper.wp
  have : (execOp a.eval (mk d (.call ⟨.value y, args.toArray, #[]⟩))).run P w = .ok (.enter f (vs ++ cap)) w := by
    simp only [execOp, mk, resolve, hy, Deferred.ofValue, invoke, Sem.run_bind, Sem.run_pure, Result.andThen_ok, Array.empty_append, List.map_toArray, hargs]
    exact hf _ _
  rw [this]
  exact hc.mono fun e w' hR => by
    obtain ⟨v, rfl, hh⟩ := h e w' hR
    exact hh

end
end Go.Proofs.YtmkioomgfdpeiabDoor.Kx

/-
  TAGS, 3: the code of Tags.Each, of its closure, of Tags.AppendEach and of its closure.
-/
namespace Go.Proofs.YtmkioomgfdpeiabDoor.Kx
open Go

/-- tTags: the tags' struct; tM: its map; tKs: a slice of numbers -/
structure TN where
  tTags : Nat
  tM : Nat
  tKs : Nat
  tU32 : Nat
  tInt : Nat
  tSl : Nat
  fSort : Nat
  fLess : Nat
  fEach : Nat
  fOne : Nat
  fUv : Nat

def ldMap (T : TN) (n : Nat) : List Oper := [mk (some n) (.move (tm 0)), mk (some (n + 1)) (.nilCheck (tm n)), mk (some (n + 2)) (.fieldAddr T.tTags (tm (n + 1)) 0), mk (some (n + 3)) (.load T.tM (tm (n + 2)))]

def eachBody (T : TN) : Code := sq [rg [mk (some 27) (.entry (tm 24)), mk (some 28) (.extract (tm 27) 0), mk (some 5) (.assign (tm 28))],
  rg [mk (some 29) (.load T.tKs (tm 4)), mk (some 30) (.move (tm 5)), mk (some 31) (.buildSlice T.tKs 1 #[(0, tm 30)]), bi (some 32) .append [tm 29, tm 31] [T.tKs, T.tKs] T.tKs, mk none (.store T.tKs (tm 4) (tm 32))]]
def eachLoop (T : TN) : Code := .loop (.seq (rg [mk (some 25) (.next (tm 24) false), mk (some 26) (.extract (tm 25) 0)]) (.seq (.cond (tm 26) .skip (.exit 0)) (.block 1 (eachBody T))))
def eachCall (T : TN) : Code := sq [rg [mk (some 41) (.indexAddr T.tKs (tm 37) (tm 39)), mk (some 42) (.load T.tU32 (tm 41)), mk (some 7) (.assign (tm 42))],
  rg ([mk (some 43) (.move (tm 1)), mk (some 44) (.move (tm 7))] ++ ldMap T 45 ++ [mk (some 49) (.move (tm 7)), mk (some 50) (.lookup T.tM (tm 48) (tm 49) false), mk (some 51) (.call ⟨.value (tm 43), #[tm 44, tm 50], #[]⟩)])]
def eachLoop2 (T : TN) : Code := .loop (.seq (rg [mk (some 40) (.binOp .lss T.tInt (tm 39) (tm 38) 0)]) (.seq (.cond (tm 40) .skip (.exit 2)) (.seq (.block 3 (eachCall T)) (rg [mk (some 52) (.binOp .add T.tInt (tm 39) (ki .i64 1) 0), mk (some 39) (.move (tm 52))]))))
def cEach (T : TN) : Code :=
  .seq (.seq (rg (ldMap T 8 ++ [bi (some 12) .len [tm 11] [T.tM] T.tInt, mk (some 13) (.binOp .eql T.tInt (tm 12) (ki .i64 0) 0)])) (.cond (tm 13) .ret .skip))
  (.seq (rg (ldMap T 14 ++ [bi (some 18) .len [tm 17] [T.tM] T.tInt, mk (some 19) (.makeSlice T.tKs (ki .i64 0) (tm 18)), mk (some 4) (.alloc T.tKs), mk none (.store T.tKs (tm 4) (tm 19))]))
  (.seq (.seq (rg (ldMap T 20 ++ [mk (some 24) (.range T.tM (tm 23))])) (.block 0 (eachLoop T)))
  (.seq (rg [mk (some 33) (.load T.tKs (tm 4)), mk (some 34) (.makeInterface T.tKs (tm 33)), mk (some 35) (.makeFunc (.func T.fLess) #[] #[tm 4]), cl (some 36) T.fSort [tm 34, tm 35]])
  (.seq (rg [mk (some 37) (.load T.tKs (tm 4)), bi (some 38) .len [tm 37] [T.tKs] T.tInt, mk (some 39) (.move (ki .i64 0))]) (.block 2 (eachLoop2 T))))))

def cTEach (T : TN) : Code := sq [rg [mk (some 3) (.box T.tSl (tm 1)), mk (some 4) (.assign (.const nilS))], rg [mk (some 5) (.move (tm 0)), mk (some 6) (.makeFunc (.func T.fOne) #[] #[tm 3]), cl (some 7) T.fEach [tm 5, tm 6]],
  rg [mk (some 8) (.load T.tSl (tm 3)), mk (some 4) (.assign (tm 8))], .ret]
def cTOne (T : TN) : Code := sq [rg [mk (some 5) (.load T.tSl (tm 2)), mk (some 6) (.move (tm 0)), cl (some 7) T.fUv [tm 5, tm 6], mk none (.store T.tSl (tm 2) (tm 7))],
  rg [mk (some 8) (.load T.tSl (tm 2)), mk (some 9) (.move (tm 1)), bi (some 10) .len [tm 9] [T.tSl] T.tInt, mk (some 11) (.convert T.tInt T.tU32 (tm 10)), cl (some 12) T.fUv [tm 8, tm 11], mk none (.store T.tSl (tm 2) (tm 12))],
  rg [mk (some 13) (.load T.tSl (tm 2)), mk (some 14) (.move (tm 1)), bi (some 15) .append [tm 13, tm 14] [T.tSl, T.tSl] T.tSl, mk none (.store T.tSl (tm 2) (tm 15))]]

end Go.Proofs.YtmkioomgfdpeiabDoor.Kx

/-
  TAGS, 4: Tags.Each: the keys gathered.
-/
namespace Go.Proofs.YtmkioomgfdpeiabDoor.Kx
open Go Go.ChangeMaps

section
variable {P : Program}

theorem gp {a : Act} {d i : Nat} {v : Value} (h : d < a.tmps.size) : (a.put (some d) v).get i = if i = d then v else a.get i := by
  by_cases hi : i = d
  · rw [if_pos hi, hi]; exact get_put _ _ _ h
  · rw [if_neg hi]; exact get_put_ne _ _ _ _ hi

/-- the facts on the types -/
structure TF (P : Program) (T : TN) : Prop where
  map : ∃ kt et, P.underlying T.tM = some (.map kt et) ∧ P.underlying kt = some (.int .u32)
  fld : FldIs P T.tTags 0 T.tM 0 false 1
  sl : P.underlying T.tKs = some (.slice T.tU32)
  info : ∃ i z, P.info? T.tU32 = some i ∧ i.zero = some z ∧ i.size = 1 ∧ i.bytes = 4
  vU : VarIs P T.tU32 false 1
  vK : VarIs P T.tKs false 1
  zK : ∀ w, (zeroValue T.tKs).run P w = .ok (.slice none 0 0) w
  dInt : P.underlying T.tInt = some (.int .i64)
  dU32 : P.underlying T.tU32 = some (.int .u32)

/-- what holds while the keys are gathered: L: the entries that have come -/
structure Gath (T : TN) (w0 : World) (q it V G clock : Nat) (es L : List Ent1) (w : World) : Prop where
  keeps : Keeps (fun _ => False) w0 w
  mp : w.heap[q]? = some (.map (es.map Ent1.entry).toArray clock)
  iter : w.heap[it]? = some (.mapIter (some q) clock (L.map Ent1.born).toArray clock)
  box : w.heap[V]? = some (.cells #[.slice (some ⟨G, 0, none⟩) L.length es.length] T.tKs (0, 0))
  row : ∃ cur, w.heap[G]? = some (.cells cur T.tU32 (0, 0)) ∧ cur.size = es.length ∧ ∀ (i : Nat) (e : Ent1), L[i]? = some e → cur[i]? = some (u32v e.key)
  sub : ∀ e ∈ L, e ∈ es
  nod : (L.map Ent1.born).Nodup
  new : w0.heap.size ≤ V ∧ w0.heap.size ≤ G ∧ w0.heap.size ≤ it ∧ V ≠ G ∧ V ≠ it ∧ G ≠ it ∧ q < w0.heap.size

theorem heap_set_self {w : World} {b : Nat} {o : Obj} (h : b < w.heap.size) : (setBlock w b o).heap[b]? = some o := by
  show (w.heap.setIfInBounds b o)[b]? = some o
  rw [Array.getElem?_setIfInBounds, if_pos rfl, if_pos h]
theorem heap_set_ne {w : World} {b k : Nat} {o : Obj} (h : k ≠ b) : (setBlock w b o).heap[k]? = w.heap[k]? := by
  show (w.heap.setIfInBounds b o)[k]? = _
  rw [Array.getElem?_setIfInBounds, if_neg (fun e => h e.symm)]
theorem keeps_set {X : Nat → Prop} {w : World} {b : Nat} {o : Obj} (h : X b) : Keeps X w (setBlock w b o) :=
  ⟨rfl, rfl, rfl, by show w.heap.size ≤ (w.heap.setIfInBounds b o).size; simp, fun _ _ hx => heap_set_ne fun e => hx (e ▸ h)⟩

theorem Gath.le {T : TN} {w0 : World} {q it V G clock : Nat} {es L : List Ent1} {w : World} (h : Gath T w0 q it V G clock es L w)     : L.length ≤ es.length := by
  have key : ∀ (l m : List Nat), l.Nodup → (∀ x ∈ l, x ∈ m) → l.length ≤ m.length := by
    intro l
    induction l with
    | nil => intro m _ _; simp
    | cons a l ih =>
      intro m hl hs
      obtain ⟨h1, h2⟩ := List.nodup_cons.1 hl
      have hm : a ∈ m := hs a (by simp)
      have := ih (m.erase a) h2 fun x hx => (List.mem_erase_of_ne (fun e => h1 (by rw [← e]; exact hx))).2 (hs x (by simp [hx]))
      rw [List.length_erase_of_mem hm] at this
      have := List.length_pos_of_mem hm
      simp only [List.length_cons]
      omega
  have h1 := key (L.map Ent1.born) (es.map Ent1.born) h.nod fun x hx => by
    obtain ⟨e, he, rfl⟩ := List.mem_map.1 hx
    exact List.mem_map.2 ⟨e, h.sub e he, rfl⟩
  simpa using h1

/-- one step of the gathering: there is one more, or all have come -/
theorem Gath.next {T : TN} {w0 : World} {q it V G clock : Nat} {es L : List Ent1} {w : World} (h : Gath T w0 q it V G clock es L w) (hb : ∀ e ∈ es, e.born < clock) (ty : TypeId) :
    ((∀ e ∈ es, e.born ∈ L.map Ent1.born) ∧ (Instr.next (pt it 0) false ty).run P w = .ok (.tuple #[.bool false]) w) ∨
    ∃ e ∈ es, e.born ∉ L.map Ent1.born ∧ ∃ w1, (w1 = w ∨ w1 = w.drew) ∧ (Instr.next (pt it 0) false ty).run P w = .ok (.tuple #[.bool true, u32v e.key, e.val]) (setBlock w1 it (.mapIter (some q) clock ((L ++ [e]).map Ent1.born).toArray clock)) := by
  rcases run_next_at (P := P) w ty it q clock clock _ _ clock h.iter h.mp (fun x hx => by
    simp only [List.mem_map] at hx
    obtain ⟨e, he, rfl⟩ := hx
    exact hb e he) (Nat.le_refl _) with ⟨h0, hr⟩ | ⟨e, he, w1, hw1, hr⟩
  · refine .inl ⟨fun e he => ?_, hr⟩
    have h1 : leftOf (es.map Ent1.entry).toArray (L.map Ent1.born).toArray = #[] := Array.eq_empty_of_size_eq_zero h0
    unfold leftOf at h1
    rw [Array.filter_eq_empty_iff] at h1
    have := h1 e.entry (by simpa using ⟨e, he, rfl⟩)
    simpa [Ent1.entry] using this
  · unfold leftOf at he
    have he' : e ∈ (es.map Ent1.entry).toArray ∧ (!(L.map Ent1.born).toArray.contains e.born) = true := by
      have := Array.mem_def.2 he
      simpa using this
    obtain ⟨hm, hc⟩ := he'
    simp only [List.mem_toArray, List.mem_map] at hm
    obtain ⟨e1, he1, rfl⟩ := hm
    refine .inr ⟨e1, he1, ?_, w1, hw1, ?_⟩
    · simpa [Ent1.entry] using hc
    · rw [show pt it 0 = .pointer (some ⟨it, 0, none⟩) from rfl, hr]
      simp [Ent1.entry, u32v]

end
end Go.Proofs.YtmkioomgfdpeiabDoor.Kx

/-
  TAGS, 5: Tags.Each: the loop that gathers the keys.
-/
namespace Go.Proofs.YtmkioomgfdpeiabDoor.Kx
open Go Go.ChangeMaps

section
variable {P : Program}

theorem wl_buildOne {tS te : Nat} (hS : P.underlying tS = some (.slice te)) (hi : ∃ i z, P.info? te = some i ∧ i.zero = some z ∧ i.size = 1 ∧ i.bytes = 4) {ops : Array Oper} {Q : Exit → Act → World → Prop} {r : List Oper} {a : Act} {w : World} {d : Option Nat} {y : Operand} {k : Nat} (hy : a.eval y = u32v k)
    (h : wpList P ops Q r (a.put d (.slice (some ⟨w.heap.size, 0, none⟩) 1 1)) (w.alloc (.cells #[u32v k] te (0, 0)))) : wpList P ops Q (mk d (.buildSlice tS 1 #[(0, y)]) :: r) a w := by
  obtain ⟨i, z, hi, hz, hsz, _⟩ := hi
  refine wl_value (w' := w.alloc (.cells #[u32v k] te (0, 0))) ?_ h
  have hfill := fill_one [u32v k] 0 ((Array.range 1).map fun k => z.cells[k % z.cells.size]!) (fun v hv => by
    simp only [List.mem_singleton] at hv
    subst hv
    rfl) (by simp)
  rw [splice_whole (by simp)] at hfill
  simp [prs] at hfill
  simp [execOp, mk, Instr.buildSlice, run_underlying hS, sizeOf, typeInfo, zeroValue, hi, hz, hsz, hy, hfill, newRow, newObj, Sem.run]

theorem wl_bi {ops : Array Oper} {Q : Exit → Act → World → Prop} {r : List Oper} {a : Act} {w w' : World} {d : Option Nat} {b : Builtin} {args : List Operand} {tys : List Nat} {ty : Nat} {v : Value} (h : (execOp a.eval (bi d b args tys ty)).run P w = .ok (.value v) w') (hk : wpList P ops Q r (a.put d v) w') : wpList P ops Q (bi d b args tys ty :: r) a w := by
  refine wpList_plain rfl fun _ hK => ?_
  unfold Oper.wp
  rw [h]
  exact hK _ _ hk

/-- how many keys are there -/
def boxLen (w : World) (V : Nat) : Nat := match w.heap[V]? with | some (.cells cs _ _) => (match (cs[0]? : Option Value) with | some (.slice _ n _) => n | _ => 0) | _ => 0

theorem s_gather {T : TN} (tf : TF P T) {w0 w : World} {q it V G clock : Nat} {es : List Ent1} {a : Act} {K E : Act → World → Prop} (h24 : a.get 24 = pt it 0) (h4 : a.get 4 = pt V 0) (hs : 53 ≤ a.tmps.size) (hg : Gath T w0 q it V G clock es [] w) (hb : ∀ e ∈ es, e.born < clock) (hn : (es.map Ent1.born).Nodup)
    (h : ∀ a' w' L, (∀ i, i < 4 → a'.get i = a.get i) → a'.get 4 = pt V 0 → a'.tmps.size = a.tmps.size → a'.defers = a.defers → Gath T w0 q it V G clock es L w' → (∀ e ∈ es, e.born ∈ L.map Ent1.born) → K a' w') : NWP P (.block 0 (eachLoop T)) (Rt K E) a w := by
  have hgle : ∀ L w1, Gath T w0 q it V G clock es L w1 → boxLen w1 V = L.length := fun L w1 hg1 => by simp [boxLen, hg1.box]
  refine .block (.loop (fun a1 w1 => ∃ L, Gath T w0 q it V G clock es L w1 ∧ (∀ i, i < 4 → a1.get i = a.get i) ∧ a1.get 4 = pt V 0 ∧ a1.get 24 = pt it 0 ∧ a1.tmps.size = a.tmps.size ∧ a1.defers = a.defers) (fun _ w1 => es.length - boxLen w1 V) ⟨[], hg, fun _ _ => rfl, h4, h24, rfl, rfl⟩ ?_)
  rintro a1 w1 ⟨L, hg1, hlow, e4, e24, hs1, hd1⟩
  have lt : ∀ d, d < 53 → d < a1.tmps.size := fun d hd => by omega
  have hle := hg1.le
  rcases hg1.next (P := P) hb 0 with ⟨hall, hr⟩ | ⟨e, he, hnew, w2, hw2, hr⟩
  · -- all have come
    refine .seq (R := Rt (fun a2 w3 => a2 = (a1.put (some 25) (.tuple #[.bool false])).put (some 26) (.bool false) ∧ w3 = w1) fun _ _ => False) (.reg ?_) (fun a2 w3 hh => ?_) (fun e a w he hq => by cases e <;> first | exact absurd rfl he | exact hq.elim)
    · refine wl_value (v := .tuple #[.bool false]) (w' := w1) (by simp [execOp, mk, eval_tm, e24, hr]) ?_
      refine wl_extract (vs := #[.bool false]) (v := .bool false) (by rw [eval_tm, get_put _ _ _ (lt _ (by omega))]) rfl (wpList_nil ⟨rfl, rfl⟩)
    obtain ⟨rfl, rfl⟩ := hh
    refine .seq (R := Exit.then (fun _ _ => False) (Exit.inBlock 0 (Rt K E))) (.condF (by rw [eval_tm, get_put _ _ _ (by simp only [put_size]; exact lt _ (by omega))]) (.exit ?_)) (fun _ _ hh => hh.elim) (fun e a w he hq => by rw [then_ne he] at hq ⊢; exact hq)
    show K _ _
    refine h _ _ L (fun i hi => ?_) ?_ ?_ ?_ hg1 hall
    · rw [get_put_ne _ _ _ _ (by omega), get_put_ne _ _ _ _ (by omega)]; exact hlow i hi
    · rw [get_put_ne _ _ _ _ (by omega), get_put_ne _ _ _ _ (by omega)]; exact e4
    · simp only [put_size]; exact hs1
    · simp only [put_defers]; exact hd1
  · -- one more
    have hseen : ((L ++ [e]).map Ent1.born).toArray = (L.map Ent1.born).toArray.push e.born := by simp
    have hw2h : w2.heap = w1.heap := by rcases hw2 with rfl | rfl <;> rfl
    have hk12 : Keeps (fun _ => False) w1 w2 := by
      rcases hw2 with rfl | rfl
      · exact Keeps.refl _ _
      · exact Keeps.drew _ _
    obtain ⟨n1, n2, n3, n4, n5, n6, n7⟩ := hg1.new
    have hlt : ∀ k, w1.heap[k]? ≠ none → k < w1.heap.size := fun k hk => by
      rcases Nat.lt_or_ge k w1.heap.size with h | h
      · exact h
      · exact absurd (Array.getElem?_eq_none h) hk
    have hitl : it < w2.heap.size := by rw [hw2h]; exact hlt it (by rw [hg1.iter]; simp)
    generalize hW : setBlock w2 it (.mapIter (some q) clock ((L ++ [e]).map Ent1.born).toArray clock) = W at hr
    have hWit : W.heap[it]? = some (.mapIter (some q) clock ((L ++ [e]).map Ent1.born).toArray clock) := by rw [← hW]; exact heap_set_self hitl
    have hWne : ∀ k, k ≠ it → W.heap[k]? = w1.heap[k]? := fun k hk => by rw [← hW, heap_set_ne hk, hw2h]
    have hWs : W.heap.size = w1.heap.size := by rw [← hW, ← hw2h]; show (w2.heap.setIfInBounds it _).size = _; simp
    have hKW : Keeps (fun k => k = it) w1 W := by
      rw [← hW]
      exact (hk12.mono fun _ _ h => h.elim).trans (keeps_set (X := fun k => k = it) rfl)
    have hq : W.heap[q]? = some (.map (es.map Ent1.entry).toArray clock) := by rw [hWne q (by omega)]; exact hg1.mp
    obtain ⟨cur, hrow, hcs, hat⟩ := hg1.row
    have hGW : W.heap[G]? = some (.cells cur T.tU32 (0, 0)) := by rw [hWne G n6]; exact hrow
    have hVW : W.heap[V]? = some (.cells #[.slice (some ⟨G, 0, none⟩) L.length es.length] T.tKs (0, 0)) := by rw [hWne V n5]; exact hg1.box
    have hGl : G < W.heap.size := by rw [hWs]; exact hlt G (by rw [hrow]; simp)
    have hVl : V < W.heap.size := by rw [hWs]; exact hlt V (by rw [hg1.box]; simp)
    have hnod : ((L ++ [e]).map Ent1.born).Nodup := by
      rw [List.map_append, List.nodup_append]
      refine ⟨hg1.nod, by simp, fun x hx y hy => ?_⟩
      simp only [List.map_cons, List.map_nil, List.mem_singleton] at hy
      subst hy
      exact fun hxy => hnew (hxy ▸ hx)
    have hsub : ∀ x ∈ L ++ [e], x ∈ es := fun x hx => by
      rcases List.mem_append.1 hx with hx | hx
      · exact hg1.sub x hx
      · simp only [List.mem_singleton] at hx; subst hx; exact he
    have hlen : L.length + 1 ≤ es.length := by
      have hg' : Gath T w0 q it V G clock es [] w := hg
      have := Gath.le (T := T) (w0 := w) (q := q) (it := it) (V := V) (G := G) (clock := clock) (es := es) (L := L ++ [e])
        (w := setBlock (setBlock w2 it (.mapIter (some q) clock ((L ++ [e]).map Ent1.born).toArray clock)) V (.cells #[.slice (some ⟨G, 0, none⟩) (L ++ [e]).length es.length] T.tKs (0, 0)))
      clear this hg'
      have key : ∀ (l m : List Nat), l.Nodup → (∀ x ∈ l, x ∈ m) → l.length ≤ m.length := by
        intro l
        induction l with
        | nil => intro m _ _; simp
        | cons a l ih =>
          intro m hl hs
          obtain ⟨h1, h2⟩ := List.nodup_cons.1 hl
          have hm : a ∈ m := hs a (by simp)
          have := ih (m.erase a) h2 fun x hx => (List.mem_erase_of_ne (fun e => h1 (by rw [← e]; exact hx))).2 (hs x (by simp [hx]))
          rw [List.length_erase_of_mem hm] at this
          have := List.length_pos_of_mem hm
          simp only [List.length_cons]
          omega
      have := key ((L ++ [e]).map Ent1.born) (es.map Ent1.born) hnod fun x hx => by
        obtain ⟨y, hy, rfl⟩ := List.mem_map.1 hx
        exact List.mem_map.2 ⟨y, hsub y hy, rfl⟩
      simpa using this
    refine .seq (R := Rt (fun a2 w3 => a2 = (a1.put (some 25) (.tuple #[.bool true, u32v e.key, e.val])).put (some 26) (.bool true) ∧ w3 = W) fun _ _ => False) (.reg ?_) (fun a2 w3 hh => ?_) (fun e a w he hq => by cases e <;> first | exact absurd rfl he | exact hq.elim)
    · refine wl_value (v := .tuple #[.bool true, u32v e.key, e.val]) (w' := W) (by simp [execOp, mk, eval_tm, e24, hr]) ?_
      refine wl_extract (vs := #[.bool true, u32v e.key, e.val]) (v := .bool true) (by rw [eval_tm, get_put _ _ _ (lt _ (by omega))]) rfl (wpList_nil ⟨rfl, rfl⟩)
    obtain ⟨rfl, rfl⟩ := hh
    refine .seq (R := Rt (fun a' w' => a' = (a1.put (some 25) (.tuple #[.bool true, u32v e.key, e.val])).put (some 26) (.bool true) ∧ w' = w3) fun _ _ => False) (.condT (by rw [eval_tm, get_put _ _ _ (by simp only [put_size]; exact lt _ (by omega))]) (.skip ⟨rfl, rfl⟩)) (fun a2 w4 hh => ?_) (fun e a w he hq => by cases e <;> first | exact absurd rfl he | exact hq.elim)
    obtain ⟨rfl, rfl⟩ := hh
    refine .block ?_
    -- the round
    unfold eachBody
    have hent : (Instr.entry (pt it 0)).run P w4 = .ok (.tuple #[u32v e.key, e.val]) w4 := by
      have := run_entry_at (P := P) w4 it q clock (L.map Ent1.born).toArray (es.map Ent1.entry).toArray clock e.entry (by rw [hWit, hseen]; rfl) hq (by simpa using ⟨e, he, rfl⟩) (by
        have e1 : ((es.map Ent1.entry).toArray.toList.map (·.born)) = es.map Ent1.born := by simp [Ent1.entry, Function.comp_def]
        rw [e1]; exact hn)
      simpa [pt, Ent1.entry, u32v] using this
    refine .seq (R := Rt (fun a3 w5 => (∀ i, i < 4 → a3.get i = a.get i) ∧ a3.get 4 = pt V 0 ∧ a3.get 24 = pt it 0 ∧ a3.get 5 = u32v e.key ∧ a3.tmps.size = a.tmps.size ∧ a3.defers = a.defers ∧ w5 = w4) fun _ _ => False) (.reg ?_) (fun a3 w5 hh => ?_) (fun e a w he hq => by cases e <;> first | exact absurd rfl he | exact hq.elim)
    · refine wl_value (v := .tuple #[u32v e.key, e.val]) (w' := w4) (by simp [execOp, mk, eval_tm, gp, lt, put_size, e24, hent]) ?_
      refine wl_extract (vs := #[u32v e.key, e.val]) (v := u32v e.key) (by simp [eval_tm, gp, lt, put_size]) rfl (wl_assign (wpList_nil ⟨fun i hi => ?_, ?_, ?_, ?_, ?_, ?_, rfl⟩))
      · iterate 5 rw [get_put_ne _ _ _ _ (by omega)]
        exact hlow i hi
      · iterate 5 rw [get_put_ne _ _ _ _ (by omega)]
        exact e4
      · iterate 5 rw [get_put_ne _ _ _ _ (by omega)]
        exact e24
      · simp [eval_tm, gp, lt, put_size]
      · simp only [put_size]; exact hs1
      · simp only [put_defers]; exact hd1
    obtain ⟨f0, f4, f24, f5, fs, fd, rfl⟩ := hh
    have lt3 : ∀ d, d < 53 → d < a3.tmps.size := fun d hd => by omega
    refine .reg ?_
    refine wl_load1 (p := ⟨V, 0, none⟩) (v := .slice (some ⟨G, 0, none⟩) L.length es.length) (by rw [eval_tm, f4]; rfl) (tf.vK.agg _) (by simp [World.cell?, hVW]) (wl_move ?_)
    rw [eval_tm, get_put_ne _ _ _ _ (by omega), f5]
    refine wl_buildOne tf.sl tf.info (k := e.key) (by simp [eval_tm, gp, lt3, put_size]) ?_
    have hWal : ∀ k, k < w5.heap.size → (w5.alloc (.cells #[u32v e.key] T.tU32 (0, 0))).heap[k]? = w5.heap[k]? := fun k hk => heap_alloc_old hk
    have happ := run_append_room (P := P) (w := w5.alloc (.cells #[u32v e.key] T.tU32 (0, 0))) (tS := T.tKs) (te := T.tU32) (G := G) (n := es.length) (cur := cur) (v := u32v e.key) (X := w5.heap.size) (c := 1) (x := L.length) (ty := T.tKs) tf.sl
      (by obtain ⟨i, _, h1, _, h2, _⟩ := tf.info; exact ⟨i, h1, h2⟩) (by rw [hWal G hGl]; exact hGW) hcs (by omega) (by
        have hn := heap_alloc_new' w5 (.cells #[u32v e.key] T.tU32 (0, 0))
        simp only [World.cell?, hn]
        rfl) rfl
    refine wl_bi (v := .slice (some ⟨G, 0, none⟩) (L.length + 1) es.length) (w' := (w5.alloc (.cells #[u32v e.key] T.tU32 (0, 0))).setRow G (cur.setIfInBounds L.length (u32v e.key))) ?_ ?_
    · have e29 : Act.eval ((((a3.put (some 29) (.slice (some ⟨G, 0, none⟩) L.length es.length)).put (some 30) (u32v e.key)).put (some 31) (.slice (some ⟨w5.heap.size, 0, none⟩) 1 1))) (tm 29) = .slice (some ⟨G, 0, none⟩) L.length es.length := by simp [eval_tm, gp, lt3, put_size]
      have e31 : Act.eval ((((a3.put (some 29) (.slice (some ⟨G, 0, none⟩) L.length es.length)).put (some 30) (u32v e.key)).put (some 31) (.slice (some ⟨w5.heap.size, 0, none⟩) 1 1))) (tm 31) = .slice (some ⟨w5.heap.size, 0, none⟩) 1 1 := by simp [eval_tm, gp, lt3, put_size]
      simp [execOp, bi, mk, resolve, invoke, e29, e31, builtin, happ]
    generalize hW5 : (w5.alloc (.cells #[u32v e.key] T.tU32 (0, 0))).setRow G (cur.setIfInBounds L.length (u32v e.key)) = W5
    have hK5 : Keeps (fun k => k = G) w5 W5 := by
      rw [← hW5]
      exact (Keeps.alloc _ _ _).trans (Keeps.setRow _ _ _ _ rfl)
    have hV5 : W5.heap[V]? = some (.cells #[.slice (some ⟨G, 0, none⟩) L.length es.length] T.tKs (0, 0)) := by rw [hK5.block V hVl n4]; exact hVW
    have hG5 : W5.heap[G]? = some (.cells (cur.setIfInBounds L.length (u32v e.key)) T.tU32 (0, 0)) := by
      rw [← hW5]
      exact setRow_heap _ _ _ _ _ _ (by rw [hWal G hGl]; exact hGW)
    refine wl_store (g := V) (o := 0) (cur := #[.slice (some ⟨G, 0, none⟩) L.length es.length]) (t := T.tKs) (v := .slice (some ⟨G, 0, none⟩) (L.length + 1) es.length) (vs := [.slice (some ⟨G, 0, none⟩) (L.length + 1) es.length]) (by simp [eval_tm, gp, lt3, put_size, f4, pt]) (by simp [eval_tm, gp, lt3, put_size]) rfl (tf.vK.size _) hV5 (by simp) (by simp [Value.oneCell']) (wpList_nil ?_)
    have e1 : splice #[.slice (some ⟨G, 0, none⟩) L.length es.length] 0 [.slice (some ⟨G, 0, none⟩) (L.length + 1) es.length] = #[.slice (some ⟨G, 0, none⟩) (L.length + 1) es.length] := by simp [splice]
    rw [e1]
    have hK6 : Keeps (fun k => k = V) W5 (W5.setRow V #[.slice (some ⟨G, 0, none⟩) (L.length + 1) es.length]) := Keeps.setRow _ _ _ _ rfl
    have hs5 := hK5.size
    have hgn : Gath T w0 q it V G clock es (L ++ [e]) (W5.setRow V #[.slice (some ⟨G, 0, none⟩) (L.length + 1) es.length]) := by
      refine ⟨?_, ?_, ?_, ?_, ⟨cur.setIfInBounds L.length (u32v e.key), ?_, by simp [hcs], fun i x hx => ?_⟩, hsub, hnod, hg1.new⟩
      · have h3 : Keeps (fun k => w0.heap.size ≤ k) w0 w1 := hg1.keeps.mono fun _ _ h => h.elim
        have h4 : Keeps (fun k => w0.heap.size ≤ k) w1 (W5.setRow V #[.slice (some ⟨G, 0, none⟩) (L.length + 1) es.length]) := ((hKW.mono fun k _ hk => by omega).trans (hK5.mono fun k _ hk => by omega)).trans (hK6.mono fun k _ hk => by omega)
        exact (h3.trans h4).mono fun k hk hX => by omega
      · rw [hK6.block q (by omega) (by omega), hK5.block q (by omega) (by omega)]; exact hq
      · have : it < w5.heap.size := by rw [hWs, ← hw2h]; exact hitl
        rw [hK6.block it (by omega) (fun h => n5 h.symm), hK5.block it this (fun h => n6 h.symm)]; exact hWit
      · rw [List.length_append]; exact setRow_heap _ _ _ _ _ _ hV5
      · rw [hK6.block G (by omega) (fun h => n4 h.symm)]; exact hG5
      · by_cases hi : i < L.length
        · rw [Array.getElem?_setIfInBounds, if_neg (by omega)]
          rw [List.getElem?_append_left hi] at hx
          exact hat i x hx
        · rw [List.getElem?_append_right (by omega)] at hx
          have hi0 : i - L.length = 0 := by
            have := (List.getElem?_eq_some_iff.1 hx).1
            simp at this
            omega
          rw [hi0] at hx
          obtain rfl : e = x := by simpa using hx
          rw [show i = L.length by omega, Array.getElem?_setIfInBounds, if_pos rfl, if_pos (by omega)]
    show (∃ L, _) ∧ _
    refine ⟨⟨L ++ [e], hgn, fun i hi => ?_, ?_, ?_, ?_, ?_⟩, ?_⟩
    · iterate 4 rw [get_put_ne _ _ _ _ (by omega)]
      exact f0 i hi
    · iterate 4 rw [get_put_ne _ _ _ _ (by omega)]
      exact f4
    · iterate 4 rw [get_put_ne _ _ _ _ (by omega)]
      exact f24
    · simp only [put_size]; exact fs
    · simp only [put_defers]; exact fd
    · show es.length - boxLen _ V < es.length - boxLen w1 V
      rw [hgle _ _ hgn, hgle _ _ hg1, List.length_append]
      simp only [List.length_cons, List.length_nil]
      omega

end
end Go.Proofs.YtmkioomgfdpeiabDoor.Kx

/-
  TAGS, 6: Tags.Each: the loop that hands each tag on; Tags.Each whole.
-/
namespace Go.Proofs.YtmkioomgfdpeiabDoor.Kx
open Go Go.ChangeMaps

section
variable {P : Program}

theorem s_visit {T : TN} (tf : TF P T) {a : Act} {w : World} {b o n G L sz0 s1 fC : Nat} {cap : Array Value} {m : Value} {t : List (Nat × Bs)} {I : Nat → World → Prop} {K E : Act → World → Prop} (h0 : a.get 0 = pt b o) (h1 : a.get 1 = .func (.func fC) #[] cap) (h37 : a.get 37 = .slice (some ⟨G, 0, none⟩) n n)
    (h38 : a.get 38 = .int .i64 (n : Int)) (h39 : a.get 39 = .int .i64 ((0 : Nat) : Int)) (hs : 53 ≤ a.tmps.size) (hn : n = t.length) (hn63 : n < 4611686018427387904) (hG : ∃ cur, w.heap[G]? = some (.cells cur T.tU32 (0, 0)) ∧ ∀ (i : Nat) (p : Nat × Bs), t[i]? = some p → cur[i]? = some (u32v p.1)) (hGs : sz0 ≤ G ∧ G < s1)
    (hbL : b < L) (hLs : L ≤ sz0) (hs1 : sz0 ≤ s1) (hcell : w.cell? ⟨b, o, none⟩ = some m) (ht : TgRp w (fun k => L ≤ k) m t) (hI : I 0 w) (hCE : Ent P fC)
    (hC : ∀ (j : Nat) (w1 : World) (k : Nat) (l : Bs) (v : Value), t[j]? = some (k, l) → I j w1 → SlRp w1 (fun x => L ≤ x) v l → Calls P fC (#[.int .u32 (k : Int), v] ++ cap) w1 fun e w2 => e = .returned (.tuple #[]) ∧ I (j + 1) w2 ∧ Keeps (fun x => (L ≤ x ∧ x < sz0) ∨ s1 ≤ x) w1 w2)
    (h : ∀ a' w', a'.tmps.size = a.tmps.size → a'.defers = a.defers → I n w' → K a' w') : NWP P (.block 2 (eachLoop2 T)) (Rt K E) a w := by
  obtain ⟨cur, hG, hat⟩ := hG
  refine .block (.loop (fun a1 w1 => ∃ j : Nat, j ≤ n ∧ a1.get 0 = pt b o ∧ a1.get 1 = .func (.func fC) #[] cap ∧ a1.get 37 = .slice (some ⟨G, 0, none⟩) n n ∧ a1.get 38 = .int .i64 (n : Int) ∧ a1.get 39 = .int .i64 (j : Int) ∧ a1.tmps.size = a.tmps.size ∧ a1.defers = a.defers ∧
      w1.heap[G]? = some (.cells cur T.tU32 (0, 0)) ∧ w1.cell? ⟨b, o, none⟩ = some m ∧ TgRp w1 (fun k => L ≤ k) m t ∧ I j w1) (fun a1 _ => ((n : Int) - (match a1.get 39 with | .int _ q => q | _ => 0)).toNat) ⟨0, by omega, h0, h1, h37, h38, h39, rfl, rfl, hG, hcell, ht, hI⟩ ?_)
  rintro a1 w1 ⟨j, hj, e0, e1, e37, e38, e39, es, ed, eG, ec, et, eI⟩
  have lt : ∀ d, d < 53 → d < a1.tmps.size := fun d hd => by omega
  have htest : ∀ (bb : Bool) (Q : Act → World → Prop), bb = decide ((j : Int) < (n : Int)) → NWP P (rg [mk (some 40) (.binOp .lss T.tInt (tm 39) (tm 38) 0)]) (Rt (fun a' w' => a' = a1.put (some 40) (.bool bb) ∧ w' = w1) Q) a1 w1 := by
    intro bb Q hbb
    exact .reg (wl_cmp (b := bb) (p := j) (q := n) (k := .i64) e39 e38 (.inr (.inr (.inl ⟨rfl, hbb⟩))) (wpList_nil ⟨rfl, rfl⟩))
  by_cases hlt : j < n
  · refine .seq (htest true (fun _ _ => False) (by simp [hlt])) (fun a2 w2 hh => ?_) (fun e a w he hq => by cases e <;> first | exact absurd rfl he | exact hq.elim)
    obtain ⟨rfl, rfl⟩ := hh
    refine .seq (R := Rt (fun a' w' => a' = a1.put (some 40) (.bool true) ∧ w' = w2) fun _ _ => False) (.condT (by rw [eval_tm, get_put _ _ _ (lt _ (by omega))]) (.skip ⟨rfl, rfl⟩)) (fun a3 w3 hh => ?_) (fun e a w he hq => by cases e <;> first | exact absurd rfl he | exact hq.elim)
    obtain ⟨rfl, rfl⟩ := hh
    obtain ⟨p, hp⟩ : ∃ p, t[j]? = some p := ⟨t[j]'(by omega), List.getElem?_eq_getElem (by omega)⟩
    obtain ⟨k, l⟩ := p
    refine .seq (R := Rt (fun a' w' => a'.get 0 = pt b o ∧ a'.get 1 = .func (.func fC) #[] cap ∧ a'.get 37 = .slice (some ⟨G, 0, none⟩) n n ∧ a'.get 38 = .int .i64 (n : Int) ∧ a'.get 39 = .int .i64 (j : Int) ∧ a'.tmps.size = a.tmps.size ∧ a'.defers = a.defers ∧
        w'.heap[G]? = some (.cells cur T.tU32 (0, 0)) ∧ w'.cell? ⟨b, o, none⟩ = some m ∧ TgRp w' (fun k => L ≤ k) m t ∧ I (j + 1) w') fun _ _ => False) (.block ?_) (fun a4 w4 hh => ?_) (fun e a w he hq => by cases e <;> first | exact absurd rfl he | exact hq.elim)
    · unfold eachCall
      refine .seq (R := Rt (fun a' w' => a'.get 0 = pt b o ∧ a'.get 1 = .func (.func fC) #[] cap ∧ a'.get 37 = .slice (some ⟨G, 0, none⟩) n n ∧ a'.get 38 = .int .i64 (n : Int) ∧ a'.get 39 = .int .i64 (j : Int) ∧ a'.get 7 = u32v k ∧ a'.tmps.size = a.tmps.size ∧ a'.defers = a.defers ∧ w' = w3) fun _ _ => False) (.reg ?_) (fun a5 w5 hh => ?_) (fun e a w he hq => by cases e <;> first | exact absurd rfl he | exact hq.elim)
      · refine wl_indexAddr (b := G) (o := 0) (n := n) (c := n) (i := j) (k := .i64) (sz := 1) (by simp [eval_tm, gp, lt, e37]) (by simp [eval_tm, gp, lt, e39]) hlt tf.sl (tf.vU.size _) ?_
        refine wl_load1 (p := ⟨G, 0 + j * 1, none⟩) (v := u32v k) (by simp [eval_tm, gp, lt, put_size]) (tf.vU.agg _) (by
          have := hat j _ hp
          simp [World.cell?, eG, this]) (wl_assign (wpList_nil ⟨?_, ?_, ?_, ?_, ?_, ?_, ?_, ?_, rfl⟩))
        · simp [gp, lt, put_size, e0]
        · simp [gp, lt, put_size, e1]
        · simp [gp, lt, put_size, e37]
        · simp [gp, lt, put_size, e38]
        · simp [gp, lt, put_size, e39]
        · simp [eval_tm, gp, lt, put_size]
        · simp only [put_size]; exact es
        · simp only [put_defers]; exact ed
      obtain ⟨f0, f1, f37, f38, f39, f7, fs, fd, rfl⟩ := hh
      have lt5 : ∀ d, d < 53 → d < a5.tmps.size := fun d hd => by omega
      -- the map's entry
      have hmem : ∃ (q clock jj : Nat) (es : List Ent1) (e : Ent1), m = .map (some q) ∧ w5.heap[q]? = some (.map (es.map Ent1.entry).toArray clock) ∧ (es.map Ent1.key).Nodup ∧ es[jj]? = some e ∧ e.key = k ∧ SlRp w5 (fun x => L ≤ x) e.val l := by
        rcases et with ⟨_, rfl⟩ | ⟨q, rfl, _, _, es, clock, f, hb1, hs1, _, hk1, hp1, _⟩
        · simp at hp
        · have hm : (k, l) ∈ es.map fun e => (e.key, f e) := hp1.mem_iff.2 (List.mem_of_getElem? hp)
          obtain ⟨e, he, hee⟩ := List.mem_map.1 hm
          simp only [Prod.mk.injEq] at hee
          obtain ⟨jj, hjj⟩ := List.getElem?_of_mem he
          exact ⟨q, clock, jj, es, e, rfl, hb1, hk1, hjj, hee.1, by rw [← hee.2]; exact (hs1 e he).2.2.mono fun _ _ h => .inl h⟩
      obtain ⟨q, clock, jj, es', ev, rfl, hb1, hk1, hjj, rfl, hsl⟩ := hmem
      obtain ⟨kt, et', hM, hKt⟩ := tf.map
      refine .reg (wl_move (wl_move (wl_move ?_)))
      rw [eval_tm, f1, eval_tm, get_put_ne _ _ _ _ (by omega), f7, eval_tm, get_put_ne _ _ _ _ (by omega), get_put_ne _ _ _ _ (by omega), f0]
      refine wl_nilCheck (p := ⟨b, o, none⟩) (by simp [eval_tm, gp, lt5, put_size, pt]) ?_
      refine wl_fld (B := b) (O := o) (by simp [eval_tm, gp, lt5, put_size]) tf.fld ?_
      refine wl_load1 (p := ⟨b, o + 0, none⟩) (v := .map (some q)) (by simp [eval_tm, gp, lt5, put_size]) (tf.fld.var.agg _) ec (wl_move ?_)
      refine wl_value (v := ev.val) (w' := w5) ?_ ?_
      · have hget := run_mapGet (w := w5) hM hKt hb1 hk1 hjj rfl
        have e48 : ∀ (A : Act), A = A → A.eval (tm 48) = .map (some q) → A.eval (tm 49) = u32v ev.key → (execOp A.eval (mk (some 50) (.lookup T.tM (tm 48) (tm 49) false))).run P w5 = .ok (.value ev.val) w5 := fun A _ h1 h2 => by
          simp [execOp, mk, h1, h2, hget]
        refine e48 _ rfl ?_ ?_
        · simp [eval_tm, gp, lt5, put_size]
        · simp [eval_tm, gp, lt5, put_size, f7]
      refine wl_callFn (f := fC) (cap := cap) (vs := #[.int .u32 (ev.key : Int), ev.val]) (args := [tm 44, tm 50]) hCE (by simp [eval_tm, gp, lt5, put_size]) (by simp [eval_tm, gp, lt5, put_size, u32v]) (hC j w5 ev.key l ev.val hp eI hsl) fun e w6 hR => ?_
      obtain ⟨he, hI6, hk6⟩ := hR
      refine ⟨_, he, wpList_nil ⟨?_, ?_, ?_, ?_, ?_, ?_, ?_, ?_, ?_, ?_, hI6⟩⟩
      · simp [gp, lt5, put_size, f0]
      · simp [gp, lt5, put_size, f1]
      · simp [gp, lt5, put_size, f37]
      · simp [gp, lt5, put_size, f38]
      · simp [gp, lt5, put_size, f39]
      · simp only [put_size]; exact fs
      · simp only [put_defers]; exact fd
      · have hGl : G < w5.heap.size := (Array.getElem?_eq_some_iff.1 eG).1
        rw [hk6.block G hGl (by omega)]; exact eG
      · exact hk6.cell (by omega) ec
      · exact et.keep (hk6.mono fun k _ hk => by omega)
    obtain ⟨g0, g1, g37, g38, g39, gs, gd, gG, gc, gt, gI⟩ := hh
    have lt4 : ∀ d, d < 53 → d < a4.tmps.size := fun d hd => by omega
    refine .reg ?_
    refine wl_bin (k := .i64) (m := (j : Int)) (n := 1) (v := .int .i64 ((j + 1 : Nat) : Int)) (by rw [eval_tm]; exact g39) rfl (by simp) (by
      have : IntKind.i64.wrap ((j : Int) + 1) = ((j + 1 : Nat) : Int) := by simp [IntKind.wrap, IntKind.bits, IntKind.signed]; omega
      simp [binOp, Op.intArith, this]) (wl_move (wpList_nil ?_))
    show (∃ j', _) ∧ _
    refine ⟨⟨j + 1, by omega, ?_, ?_, ?_, ?_, ?_, ?_, ?_, gG, gc, gt, gI⟩, ?_⟩
    · simp [gp, lt4, put_size, g0]
    · simp [gp, lt4, put_size, g1]
    · simp [gp, lt4, put_size, g37]
    · simp [gp, lt4, put_size, g38]
    · simp [eval_tm, gp, lt4, put_size]
    · simp only [put_size]; exact gs
    · simp only [put_defers]; exact gd
    · show ((n : Int) - (match Act.get _ 39 with | .int _ q => q | _ => 0)).toNat < ((n : Int) - (match a1.get 39 with | .int _ q => q | _ => 0)).toNat
      rw [e39, get_put _ _ _ (by simp only [put_size]; exact lt4 _ (by omega)), eval_tm, get_put _ _ _ (lt4 _ (by omega))]
      simp only
      omega
  · have hjn : j = n := by omega
    refine .seq (htest false (fun _ _ => False) (by simp; omega)) (fun a2 w2 hh => ?_) (fun e a w he hq => by cases e <;> first | exact absurd rfl he | exact hq.elim)
    obtain ⟨rfl, rfl⟩ := hh
    refine .seq (R := Exit.then (fun _ _ => False) (Exit.inBlock 2 (Rt K E))) (.condF (by rw [eval_tm, get_put _ _ _ (lt _ (by omega))]) (.exit ?_)) (fun _ _ hh => hh.elim) (fun e a w he hq => by rw [then_ne he] at hq ⊢; exact hq)
    show K _ _
    exact h _ _ (by simp only [put_size]; exact es) (by simp only [put_defers]; exact ed) (hjn ▸ eI)

end
end Go.Proofs.YtmkioomgfdpeiabDoor.Kx

/-
  TAGS, 7: Tags.Each whole, by what the sort does.
-/
namespace Go.Proofs.YtmkioomgfdpeiabDoor.Kx
open Go Go.ChangeMaps

section
variable {P : Program}

/-- the keys are sorted -/
def SortOk (P : Program) (T : TN) : Prop :=
  Ent P T.fSort ∧ ∀ (w : World) (V G n : Nat) (ks : List Nat) (cur : Array Value), ks.length = n → n < 4611686018427387904 → (∀ x ∈ ks, x < 4294967296) → w.heap[V]? = some (.cells #[.slice (some ⟨G, 0, none⟩) n n] T.tKs (0, 0)) → w.heap[G]? = some (.cells cur T.tU32 (0, 0)) → cur.size = n → V ≠ G →
    (∀ (i : Nat) (x : Nat), ks[i]? = some x → cur[i]? = some (u32v x)) →
    Calls P T.fSort #[.iface T.tKs (.slice (some ⟨G, 0, none⟩) n n), .func (.func T.fLess) #[] #[pt V 0]] w fun e w' => e = .returned (.tuple #[]) ∧ Keeps (fun k => k = G) w w' ∧
      ∃ (cur' : Array Value) (ks' : List Nat), w'.heap[G]? = some (.cells cur' T.tU32 (0, 0)) ∧ ks'.Perm ks ∧ ks'.Pairwise (· ≤ ·) ∧ ∀ (i : Nat) (x : Nat), ks'[i]? = some x → cur'[i]? = some (u32v x)

theorem len_le_of_sub : ∀ (l m : List Nat), l.Nodup → (∀ x ∈ l, x ∈ m) → l.length ≤ m.length := by
  intro l
  induction l with
  | nil => intro m _ _; simp
  | cons a l ih =>
    intro m hl hs
    obtain ⟨h1, h2⟩ := List.nodup_cons.1 hl
    have hm : a ∈ m := hs a (by simp)
    have := ih (m.erase a) h2 fun x hx => (List.mem_erase_of_ne (fun e => h1 (by rw [← e]; exact hx))).2 (hs x (by simp [hx]))
    rw [List.length_erase_of_mem hm] at this
    have := List.length_pos_of_mem hm
    simp only [List.length_cons]
    omega

theorem born_one : ∀ {es : List Ent1}, (es.map Ent1.born).Nodup → ∀ x ∈ es, ∀ y ∈ es, x.born = y.born → x = y
  | [], _, _, hx, _, _, _ => by simp at hx
  | a :: r, hn, x, hx, y, hy, h => by
    simp only [List.map_cons, List.nodup_cons, List.mem_map, not_exists, not_and] at hn
    rcases List.mem_cons.1 hx with ex | hx'
    · rcases List.mem_cons.1 hy with ey | hy'
      · rw [ex, ey]
      · exact absurd (by rw [← h, ex]) (hn.1 y hy')
    · rcases List.mem_cons.1 hy with ey | hy'
      · exact absurd (by rw [h, ey]) (hn.1 x hx')
      · exact born_one hn.2 x hx' y hy' h

theorem perm_of_sub : ∀ (l m : List Ent1), (l.map Ent1.born).Nodup → (m.map Ent1.born).Nodup → (∀ x ∈ l, x ∈ m) → (∀ x ∈ m, x.born ∈ l.map Ent1.born) → (l.map Ent1.key).Perm (m.map Ent1.key) := by
  intro l
  induction l with
  | nil =>
    intro m _ _ _ hm
    cases m with
    | nil => exact .refl _
    | cons a r => have := hm a (by simp); simp at this
  | cons a l ih =>
    intro m hl hmn hs hm
    simp only [List.map_cons, List.nodup_cons] at hl
    have ha : a ∈ m := hs a (by simp)
    obtain ⟨m1, m2, rfl⟩ := List.append_of_mem ha
    have hp : (m1 ++ a :: m2).Perm (a :: (m1 ++ m2)) := List.perm_middle
    have hmn' : ((a :: (m1 ++ m2)).map Ent1.born).Nodup := (hp.map Ent1.born).nodup_iff.1 hmn
    simp only [List.map_cons, List.nodup_cons] at hmn'
    refine .trans ?_ (hp.map Ent1.key).symm
    simp only [List.map_cons]
    refine List.Perm.cons _ (ih (m1 ++ m2) hl.2 hmn'.2 (fun x hx => ?_) fun x hx => ?_)
    · have := (hp.mem_iff).1 (hs x (by simp [hx]))
      rcases List.mem_cons.1 this with e | h
      · exact absurd (List.mem_map.2 ⟨x, hx, by rw [e]⟩) hl.1
      · exact h
    · have := hm x (hp.mem_iff.2 (by simp only [List.mem_cons]; exact .inr hx))
      simp only [List.map_cons, List.mem_cons] at this
      rcases this with e | h
      · exact absurd (List.mem_map.2 ⟨x, hx, e⟩) hmn'.1
      · exact h

theorem rising_le {l : List (Nat × Bs)} (h : Rising l) : (l.map (·.1)).Pairwise (· ≤ ·) := by
  induction l with
  | nil => simp
  | cons a r ih =>
    cases r with
    | nil => simp
    | cons b r =>
      simp only [Rising] at h
      have hr := ih h.2
      simp only [List.map_cons, List.pairwise_cons] at hr ⊢
      refine ⟨fun x hx => ?_, hr⟩
      simp only [List.mem_cons] at hx
      rcases hx with rfl | hx
      · omega
      · have := hr.1 x hx; omega

theorem sorted_same {l m : List Nat} (hp : l.Perm m) (hl : l.Pairwise (· ≤ ·)) (hm : m.Pairwise (· ≤ ·)) : l = m :=
  List.Perm.eq_of_pairwise (le := (· ≤ ·)) (fun _ _ _ _ h1 h2 => Nat.le_antisymm h1 h2) hl hm hp

theorem wl_ldMap {T : TN} (tf : TF P T) {ops : Array Oper} {Q : Exit → Act → World → Prop} {r : List Oper} {a : Act} {w : World} {b o n : Nat} {m : Value} (h0 : a.get 0 = pt b o) (hc : w.cell? ⟨b, o, none⟩ = some m) (hn : 0 < n) (hs : n + 3 < a.tmps.size)
    (h : ∀ a', (∀ i, i < n → a'.get i = a.get i) → a'.get (n + 3) = m → a'.tmps.size = a.tmps.size → a'.defers = a.defers → wpList P ops Q r a' w) : wpList P ops Q (ldMap T n ++ r) a w := by
  show wpList P ops Q (mk (some n) (.move (tm 0)) :: mk (some (n + 1)) (.nilCheck (tm n)) :: mk (some (n + 2)) (.fieldAddr T.tTags (tm (n + 1)) 0) :: mk (some (n + 3)) (.load T.tM (tm (n + 2))) :: r) a w
  refine wl_move ?_
  rw [eval_tm, h0]
  refine wl_nilCheck (p := ⟨b, o, none⟩) (by rw [eval_tm, get_put _ _ _ (by omega)]; rfl) ?_
  refine wl_fld (B := b) (O := o) (by rw [eval_tm, get_put _ _ _ (by simp only [put_size]; omega)]) tf.fld ?_
  refine wl_load1 (p := ⟨b, o + 0, none⟩) (v := m) (by rw [eval_tm, get_put _ _ _ (by simp only [put_size]; omega)]) (tf.fld.var.agg _) hc (h _ (fun i hi => ?_) ?_ ?_ ?_)
  · iterate 4 rw [get_put_ne _ _ _ _ (by omega)]
  · rw [get_put _ _ _ (by simp only [put_size]; omega)]
  · simp only [put_size]
  · simp only [put_defers]

end
end Go.Proofs.YtmkioomgfdpeiabDoor.Kx

/-
  TAGS, 8: what Tags.Each does: each tag, by rising numbers, is handed on.
-/
namespace Go.Proofs.YtmkioomgfdpeiabDoor.Kx
open Go Go.ChangeMaps

section
variable {P : Program}

theorem each_calls (hm : P.follows .mixedOrders = true) {T : TN} (tf : TF P T) (hso : SortOk P T) {f nt : Nat} (hfn : FnIs P f nt [] (cEach T)) (hnt : 53 ≤ nt) {w : World} {b o L fC : Nat} {m : Value} {t : List (Nat × Bs)} {cap : Array Value} {I : Nat → Nat → World → Prop} (hc : w.cell? ⟨b, o, none⟩ = some m) (hb : b < L) (hL : L ≤ w.heap.size)
    (ht : TgRp w (fun k => L ≤ k) m t) (hn : t.length ≤ 35184372088832) (hCE : Ent P fC) (hI0 : ∀ w1, Keeps (fun _ => False) w w1 → I w1.heap.size 0 w1)
    (hC : ∀ (s1 j : Nat) (w1 : World) (k : Nat) (l : Bs) (v : Value), w.heap.size ≤ s1 → t[j]? = some (k, l) → I s1 j w1 → SlRp w1 (fun x => L ≤ x) v l → Calls P fC (#[.int .u32 (k : Int), v] ++ cap) w1 fun e w2 => e = .returned (.tuple #[]) ∧ I s1 (j + 1) w2 ∧ Keeps (fun x => (L ≤ x ∧ x < w.heap.size) ∨ s1 ≤ x) w1 w2) :
    Calls P f #[pt b o, .func (.func fC) #[] cap] w fun e w' => e = .returned (.tuple #[]) ∧ ∃ s1, w.heap.size ≤ s1 ∧ I s1 t.length w' := by
  refine callsA hm hfn (by simp) [pt b o, .func (.func fC) #[] cap] (by simp; omega) fun a harg hs hd => ?_
  have g0 := harg 0 _ rfl
  have g1 := harg 1 _ rfl
  obtain ⟨kt, et, hM, hKt⟩ := tf.map
  have hbl : b < w.heap.size := by omega
  unfold cEach
  -- none at all
  have head : ∀ (bb : Bool) (Y : Act → World → Prop), bb = decide (t.length = 0) → (∀ a2, a2.get 13 = .bool bb → a2.get 0 = pt b o → a2.get 1 = .func (.func fC) #[] cap → a2.tmps.size = nt → a2.defers = [] → Y a2 w) →
      NWP P (rg (ldMap T 8 ++ [bi (some 12) .len [tm 11] [T.tM] T.tInt, mk (some 13) (.binOp .eql T.tInt (tm 12) (ki .i64 0) 0)])) (Rt Y fun _ _ => False) a w := by
    intro bb Y hbb hY
    refine .reg (wl_ldMap tf g0 hc (by omega) (by omega) fun a1 hlow h11 hs1 hd1 => ?_)
    refine wl_lenMap hM (by rw [eval_tm]; exact h11) ht ?_
    refine wl_cmp (b := bb) (p := (t.length : Int)) (q := 0) (k := .i64) (by rw [eval_tm, get_put _ _ _ (by omega)]) rfl (.inr (.inr (.inr (.inr (.inl ⟨rfl, by rw [hbb]; exact decide_eq_decide.2 (by omega)⟩))))) (wpList_nil (hY _ ?_ ?_ ?_ ?_ ?_))
    · rw [get_put _ _ _ (by simp only [put_size]; omega)]
    · rw [get_put_ne _ _ _ _ (by omega), get_put_ne _ _ _ _ (by omega), hlow 0 (by omega)]; exact g0
    · rw [get_put_ne _ _ _ _ (by omega), get_put_ne _ _ _ _ (by omega), hlow 1 (by omega)]; exact g1
    · simp only [put_size]; omega
    · simp only [put_defers]; exact hd1.trans hd
  by_cases h0 : t.length = 0
  · refine .seq (R := Rt (fun _ _ => False) (fun a' w' => a'.defers = [] ∧ (Ending.returned (retOf [] a') = .returned (.tuple #[]) ∧ ∃ s1, w.heap.size ≤ s1 ∧ I s1 t.length w'))) (.seq (head true _ (by simp [h0]) fun a2 h13 _ _ _ hd2 => ?_) (fun a1 w1 hh => hh) (fun e a w he hq => by cases e <;> first | exact absurd rfl he | exact hq.elim)) (fun _ _ hh => hh.elim) (fun e a w he hq => by cases e <;> first | exact absurd rfl he | exact hq)
    exact .condT h13 (.ret ⟨hd2, rfl, w.heap.size, Nat.le_refl _, h0 ▸ hI0 w (Keeps.refl _ _)⟩)
  refine .seq (R := Rt (fun a2 w2 => a2.get 0 = pt b o ∧ a2.get 1 = .func (.func fC) #[] cap ∧ a2.tmps.size = nt ∧ a2.defers = [] ∧ w2 = w) fun _ _ => False) (.seq (head false _ (by simp [h0]) fun a2 h13 e0 e1 hs2 hd2 => ?_) (fun a1 w1 hh => hh) (fun e a w he hq => by cases e <;> first | exact absurd rfl he | exact hq.elim)) (fun a2 w2 hh => ?_) (fun e a w he hq => by cases e <;> first | exact absurd rfl he | exact hq.elim)
  · exact .condF h13 (.skip ⟨e0, e1, hs2, hd2, rfl⟩)
  obtain ⟨e0, e1, hs2, hd2, rfl⟩ := hh
  obtain ⟨q, rfl, hqL, hql, es, clock, ff, hq, hes, hborn, hkeys, hperm, hris⟩ : ∃ r, m = .map (some r) ∧ ¬ L ≤ r ∧ r < w2.heap.size ∧ MapIs w2 (fun k => L ≤ k) r t := by
    rcases ht with ⟨_, rfl⟩ | h
    · exact absurd rfl h0
    · exact h
  have hlen : es.length = t.length := by simpa using hperm.length_eq
  have lt2 : ∀ d, d < 53 → d < a2.tmps.size := fun d hd => by omega
  obtain ⟨i, z, hi, hz, hsz, hby⟩ := tf.info
  -- the row and its box
  refine .seq (R := Rt (fun a3 w3 => a3.get 0 = pt b o ∧ a3.get 1 = .func (.func fC) #[] cap ∧ a3.get 4 = pt (w2.heap.size + 1) 0 ∧ a3.tmps.size = nt ∧ a3.defers = [] ∧ Keeps (fun _ => False) w2 w3 ∧ w3.heap.size = w2.heap.size + 2 ∧
      w3.heap[w2.heap.size + 1]? = some (.cells #[.slice (some ⟨w2.heap.size, 0, none⟩) 0 es.length] T.tKs (0, 0)) ∧ ∃ cur, w3.heap[w2.heap.size]? = some (.cells cur T.tU32 (0, 0)) ∧ cur.size = es.length) fun _ _ => False) (.reg ?_) (fun a3 w3 hh => ?_) (fun e a w he hq => by cases e <;> first | exact absurd rfl he | exact hq.elim)
  · refine wl_ldMap tf e0 hc (by omega) (by omega) fun a3 hlow h17 hs3 hd3 => ?_
    refine wl_lenMap hM (by rw [eval_tm]; exact h17) ht ?_
    have hmk := run_makeSlice (P := P) (w := w2) T.tKs T.tU32 i z tf.sl hi hz .i64 .i64 0 (t.length : Int) (by omega) (by omega)
    have hmk2 : (Instr.makeSlice T.tKs (.int .i64 0) (.int .i64 (t.length : Int))).run P w2 = .ok (.slice (some ⟨w2.heap.size, 0, none⟩) 0 t.length) (w2.alloc (.cells (madeCells z.cells (t.length * i.size)) T.tU32)) := by
      have := run_make (P := P) w2 T.tKs T.tU32 i z tf.sl hi hz .i64 .i64 0 (t.length : Int) (by omega) (by omega) (by rw [hby]; omega) (by omega)
      simpa using this
    clear hmk
    refine wl_value (v := .slice (some ⟨w2.heap.size, 0, none⟩) 0 t.length) (w' := w2.alloc (.cells (madeCells z.cells (t.length * i.size)) T.tU32)) (by
      have e18 : (a3.put (some 18) (.int .i64 (t.length : Int))).eval (tm 18) = .int .i64 (t.length : Int) := by rw [eval_tm, get_put _ _ _ (by omega)]
      have e0' : (a3.put (some 18) (.int .i64 (t.length : Int))).eval (ki .i64 0) = .int .i64 0 := rfl
      simp [execOp, mk, e18, e0', hmk2]) ?_
    refine wl_alloc (z := .slice none 0 0) (tf.zK _) ?_
    have hsz1 : (w2.alloc (.cells (madeCells z.cells (t.length * i.size)) T.tU32)).heap.size = w2.heap.size + 1 := by simp
    generalize hw3 : w2.alloc (.cells (madeCells z.cells (t.length * i.size)) T.tU32) = w3 at hsz1 ⊢
    have hG3 : w3.heap[w2.heap.size]? = some (.cells (madeCells z.cells (t.length * i.size)) T.tU32 (0, 0)) := by rw [← hw3]; exact heap_alloc_new' _ _
    have hk3 : Keeps (fun _ => False) w2 w3 := by rw [← hw3]; exact Keeps.alloc _ _ _
    have hV4 := heap_alloc_new' w3 (.cells (Value.cells (.slice none 0 0)) T.tKs (0, 0))
    rw [hsz1] at hV4 ⊢
    refine wl_store (g := w2.heap.size + 1) (o := 0) (cur := Value.cells (.slice none 0 0)) (t := T.tKs) (v := .slice (some ⟨w2.heap.size, 0, none⟩) 0 t.length) (vs := [.slice (some ⟨w2.heap.size, 0, none⟩) 0 t.length]) (by rw [eval_tm, get_put _ _ _ (by simp only [put_size]; omega)]) (by rw [eval_tm, get_put_ne _ _ _ _ (by omega), get_put _ _ _ (by simp only [put_size]; omega)]) rfl (tf.vK.size _) hV4 (by simp [Value.cells]) (by simp [Value.oneCell']) (wpList_nil ⟨?_, ?_, ?_, ?_, ?_, ?_, ?_, ?_, madeCells z.cells (t.length * i.size), ?_, ?_⟩)
    · iterate 3 rw [get_put_ne _ _ _ _ (by omega)]
      rw [hlow 0 (by omega)]; exact e0
    · iterate 3 rw [get_put_ne _ _ _ _ (by omega)]
      rw [hlow 1 (by omega)]; exact e1
    · rw [get_put _ _ _ (by simp only [put_size]; omega)]; rfl
    · simp only [put_size]; omega
    · simp only [put_defers]; exact hd3.trans hd2
    · have h4 : Keeps (fun k => w2.heap.size ≤ k) w2 ((w3.alloc (.cells (Value.cells (.slice none 0 0)) T.tKs (0, 0))).setRow (w2.heap.size + 1) (splice (Value.cells (.slice none 0 0)) 0 [.slice (some ⟨w2.heap.size, 0, none⟩) 0 t.length])) :=
        ((hk3.mono fun _ _ h => h.elim).trans (Keeps.alloc _ _ _)).trans (Keeps.setRow _ _ _ _ (by omega))
      exact h4.mono fun k hk hX => by omega
    · simp [hsz1]
    · rw [setRow_heap _ _ _ _ _ _ hV4, hlen]
      simp [splice, Value.cells]
    · rw [setRow_other _ _ _ _ (by omega), heap_alloc_old (by omega)]; exact hG3
    · rw [size_madeCells, hsz, hlen]; omega
  obtain ⟨k0, k1, k4, hs3, hd3, hk3, hz3, hV3, cur, hG3, hcs⟩ := hh
  -- the iterator; the keys
  refine .seq (R := Rt (fun a4 w4 => ∃ Ls, a4.get 0 = pt b o ∧ a4.get 1 = .func (.func fC) #[] cap ∧ a4.get 4 = pt (w2.heap.size + 1) 0 ∧ a4.tmps.size = nt ∧ a4.defers = [] ∧ Gath T w2 q (w2.heap.size + 2) (w2.heap.size + 1) w2.heap.size clock es Ls w4 ∧ (∀ e ∈ es, e.born ∈ Ls.map Ent1.born)) fun _ _ => False) (.seq (R := Rt (fun a4 w4 => a4.get 0 = pt b o ∧ a4.get 1 = .func (.func fC) #[] cap ∧ a4.get 4 = pt (w2.heap.size + 1) 0 ∧ a4.get 24 = pt (w2.heap.size + 2) 0 ∧ a4.tmps.size = nt ∧ a4.defers = [] ∧ Gath T w2 q (w2.heap.size + 2) (w2.heap.size + 1) w2.heap.size clock es [] w4) fun _ _ => False) (.reg ?_) (fun a4 w4 hh => ?_) (fun e a w he hq => by cases e <;> first | exact absurd rfl he | exact hq.elim)) (fun a4 w4 hh => ?_) (fun e a w he hq => by cases e <;> first | exact absurd rfl he | exact hq.elim)
  · refine wl_ldMap tf k0 (hk3.cell id hc) (by omega) (by omega) fun a4 hlow h23 hs4 hd4 => ?_
    have hq3 : w3.heap[q]? = some (.map (es.map Ent1.entry).toArray clock) := by rw [hk3.block q hql id]; exact hq
    have hr := run_range_map w3 T.tM kt et q (es.map Ent1.entry).toArray clock hM hq3
    refine wl_value (v := pt w3.heap.size 0) (w' := w3.alloc (.mapIter (some q) clock #[] clock)) (by
      have e23 : a4.eval (tm 23) = .map (some q) := h23
      simp [execOp, mk, e23, hr, pt]) (wpList_nil ⟨?_, ?_, ?_, ?_, ?_, ?_, ?_⟩)
    · rw [get_put_ne _ _ _ _ (by omega), hlow 0 (by omega)]; exact k0
    · rw [get_put_ne _ _ _ _ (by omega), hlow 1 (by omega)]; exact k1
    · rw [get_put_ne _ _ _ _ (by omega), hlow 4 (by omega)]; exact k4
    · rw [get_put _ _ _ (by omega), hz3]
    · simp only [put_size]; omega
    · simp only [put_defers]; exact hd4.trans hd3
    · refine ⟨hk3.trans (Keeps.alloc _ _ _), ?_, ?_, ?_, ⟨cur, ?_, hcs, fun i e h => by simp at h⟩, fun _ h => by simp at h, by simp, by omega⟩
      · rw [heap_alloc_old (by omega)]; exact hq3
      · have := heap_alloc_new' w3 (.mapIter (some q) clock #[] clock)
        rw [hz3] at this
        simpa using this
      · rw [heap_alloc_old (by omega)]; exact hV3
      · rw [heap_alloc_old (by omega)]; exact hG3
  · obtain ⟨f0, f1, f4, f24, fs, fd, hg⟩ := hh
    refine s_gather tf f24 f4 (by omega) hg (fun e he => (hes e he).2.1) hborn fun a' w' Ls hlow h4 hs' hd' hg' hall => ⟨Ls, ?_, ?_, h4, by omega, hd'.trans fd, hg', hall⟩
    · rw [hlow 0 (by omega)]; exact f0
    · rw [hlow 1 (by omega)]; exact f1
  obtain ⟨Ls, f0, f1, f4, fs, fd, hg, hall⟩ := hh
  have hpk := perm_of_sub Ls es hg.nod hborn hg.sub hall
  have hLl : Ls.length = es.length := by simpa using hpk.length_eq
  have lt4 : ∀ d, d < 53 → d < a4.tmps.size := fun d hd => by omega
  obtain ⟨cur4, hG4, hcs4, hat4⟩ := hg.row
  have hbox := hg.box
  rw [hLl] at hbox
  -- the sort
  refine .seq (R := Rt (fun a5 w5 => a5.get 0 = pt b o ∧ a5.get 1 = .func (.func fC) #[] cap ∧ a5.get 4 = pt (w2.heap.size + 1) 0 ∧ a5.tmps.size = nt ∧ a5.defers = [] ∧ Keeps (fun k => k = w2.heap.size) w4 w5 ∧
      ∃ (cur' : Array Value) (ks' : List Nat), w5.heap[w2.heap.size]? = some (.cells cur' T.tU32 (0, 0)) ∧ ks'.Perm (Ls.map Ent1.key) ∧ ks'.Pairwise (· ≤ ·) ∧ ∀ (i : Nat) (x : Nat), ks'[i]? = some x → cur'[i]? = some (u32v x)) fun _ _ => False) (.reg ?_) (fun a5 w5 hh => ?_) (fun e a w he hq => by cases e <;> first | exact absurd rfl he | exact hq.elim)
  · refine wl_load1 (p := ⟨w2.heap.size + 1, 0, none⟩) (v := .slice (some ⟨w2.heap.size, 0, none⟩) es.length es.length) (by rw [eval_tm]; exact f4) (tf.vK.agg _) (by simp [World.cell?, hbox]) ?_
    refine wl_value (v := .iface T.tKs (.slice (some ⟨w2.heap.size, 0, none⟩) es.length es.length)) (w' := w4) (by
      have e33 : (a4.put (some 33) (.slice (some ⟨w2.heap.size, 0, none⟩) es.length es.length)).eval (tm 33) = .slice (some ⟨w2.heap.size, 0, none⟩) es.length es.length := by rw [eval_tm, get_put _ _ _ (lt4 _ (by omega))]
      simp [execOp, mk, e33, Instr.makeInterface, run_underlying tf.sl]) ?_
    refine wl_value (v := .func (.func T.fLess) #[] #[pt (w2.heap.size + 1) 0]) (w' := w4) (by
      have e4' : ∀ A : Act, A.eval (tm 4) = pt (w2.heap.size + 1) 0 → (execOp A.eval (mk (some 35) (.makeFunc (.func T.fLess) #[] #[tm 4]))).run P w4 = .ok (.value (.func (.func T.fLess) #[] #[pt (w2.heap.size + 1) 0])) w4 := fun A h => by
        simp [execOp, mk, Instr.makeFunc, h]
      exact e4' _ (by simp [eval_tm, gp, lt4, put_size, f4])) ?_
    refine wl_call (vs := #[.iface T.tKs (.slice (some ⟨w2.heap.size, 0, none⟩) es.length es.length), .func (.func T.fLess) #[] #[pt (w2.heap.size + 1) 0]]) hso.1 (by simp [eval_tm, gp, lt4, put_size])
      (hso.2 w4 (w2.heap.size + 1) w2.heap.size es.length (Ls.map Ent1.key) cur4 (by simpa using hLl) (by omega) (fun x hx => by
        obtain ⟨e, he, rfl⟩ := List.mem_map.1 hx
        exact (hes e (hg.sub e he)).1) hbox hG4 hcs4 (by omega) fun i x hx => by
          rw [List.getElem?_map, Option.map_eq_some_iff] at hx
          obtain ⟨e, he, rfl⟩ := hx
          exact hat4 i e he) fun e w5 hR => ⟨_, hR.1, wpList_nil ⟨?_, ?_, ?_, ?_, ?_, hR.2.1, hR.2.2⟩⟩
    · simp [gp, lt4, put_size, f0]
    · simp [gp, lt4, put_size, f1]
    · simp [gp, lt4, put_size, f4]
    · simp only [put_size]; exact fs
    · simp only [put_defers]; exact fd
  obtain ⟨p0, p1, p4, ps, pd, hk5, cur5, ks, hG5, hp5, hso5, hat5⟩ := hh
  have hks : ks = t.map (·.1) := by
    refine sorted_same ?_ hso5 (rising_le hris)
    have h1 : (es.map Ent1.key).Perm (t.map (·.1)) := by
      have := hperm.map (·.1)
      simpa [Function.comp_def] using this
    exact hp5.trans (hpk.trans h1)
  have lt5 : ∀ d, d < 53 → d < a5.tmps.size := fun d hd => by omega
  have hk25 : Keeps (fun _ => False) w2 w5 := by
    have : Keeps (fun k => w2.heap.size ≤ k) w2 w5 := (hg.keeps.mono fun _ _ h => h.elim).trans (hk5.mono fun k _ hk => by omega)
    exact this.mono fun k hk hX => by omega
  have hV4l : w2.heap.size + 1 < w4.heap.size := (Array.getElem?_eq_some_iff.1 hbox).1
  have hs45 := hk5.size
  -- the round over the keys
  refine .seq (R := Rt (fun a6 w6 => a6 = ((a5.put (some 37) (.slice (some ⟨w2.heap.size, 0, none⟩) es.length es.length)).put (some 38) (.int .i64 (es.length : Int))).put (some 39) (.int .i64 ((0 : Nat) : Int)) ∧ w6 = w5) fun _ _ => False) (.reg ?_) (fun a6 w6 hh => ?_) (fun e a w he hq => by cases e <;> first | exact absurd rfl he | exact hq.elim)
  · refine wl_load1 (p := ⟨w2.heap.size + 1, 0, none⟩) (v := .slice (some ⟨w2.heap.size, 0, none⟩) es.length es.length) (by rw [eval_tm]; exact p4) (tf.vK.agg _) (by
      have : w5.heap[w2.heap.size + 1]? = some (.cells #[.slice (some ⟨w2.heap.size, 0, none⟩) es.length es.length] T.tKs (0, 0)) := by rw [hk5.block _ hV4l (by omega)]; exact hbox
      simp [World.cell?, this]) ?_
    exact wl_len (base := some ⟨w2.heap.size, 0, none⟩) (n := es.length) (c := es.length) (by rw [eval_tm, get_put _ _ _ (lt5 _ (by omega))]) tf.sl (wl_move (wpList_nil ⟨rfl, rfl⟩))
  obtain ⟨rfl, rfl⟩ := hh
  refine s_visit (b := b) (o := o) (n := es.length) (G := w2.heap.size) (L := L) (sz0 := w2.heap.size) (s1 := w6.heap.size) (fC := fC) (cap := cap) (m := .map (some q)) (t := t) (I := I w6.heap.size) tf ?_ ?_ ?_ ?_ ?_ ?_ hlen (by omega) ⟨cur5, hG5, fun i p hp => ?_⟩ (by omega) hb hL (by omega) (hk25.cell id hc) (ht.keep (hk25.mono fun _ _ h => h.elim)) (hI0 w6 hk25) hCE (fun j w1 k l v h1 h2 h3 => hC w6.heap.size j w1 k l v (by omega) h1 h2 h3) fun a' w' h1 h2 h3 => ⟨?_, rfl, w6.heap.size, by omega, hlen ▸ h3⟩
  · simp [gp, lt5, put_size, p0]
  · simp [gp, lt5, put_size, p1]
  · simp [gp, lt5, put_size]
  · simp [gp, lt5, put_size]
  · simp [gp, lt5, put_size]
  · simp only [put_size]; omega
  · refine hat5 i p.1 ?_
    rw [hks, List.getElem?_map, hp]
    rfl
  · rw [h2]
    simp only [put_defers]
    exact pd

end
end Go.Proofs.YtmkioomgfdpeiabDoor.Kx

/-
  TAGS, 9: Tags.AppendEach: its closure, and the whole.
-/
namespace Go.Proofs.YtmkioomgfdpeiabDoor.Kx
open Go Go.ChangeMaps

section
variable {P : Program}

/-- the closure's box holds what has been written -/
structure Bx (tSl te L D : Nat) (d0 : Value) (w0 : World) (s1 : Nat) (bs : Bs) (w : World) (d' : Value) : Prop where
  box : w.heap[D]? = some (.cells #[d'] tSl (0, 0))
  gr : Gr L te d0 w0 d' bs w
  own : ∀ k, d'.ownBlock = some k → k < D ∨ s1 ≤ k
  s1 : D < s1 ∧ s1 ≤ w.heap.size
  D0 : w0.heap.size ≤ D ∧ L ≤ D

theorem Bx.dst {tSl te L D s1 : Nat} {d0 d' : Value} {w0 w : World} {bs : Bs} (h : Bx tSl te L D d0 w0 s1 bs w d') : DstAt w L te d' bs := h.gr.dst

theorem Bx.step {tSl te L D s1 : Nat} {d0 d' d'' : Value} {w0 w w1 : World} {bs bs' : Bs} (h : Bx tSl te L D d0 w0 s1 bs w d') (hg : Gr L te d' w d'' bs' w1) :
    w1.heap[D]? = some (.cells #[d'] tSl (0, 0)) ∧ Bx tSl te L D d0 w0 s1 bs' (w1.setRow D #[d'']) d'' ∧ Keeps (fun x => (L ≤ x ∧ x < D + 1) ∨ s1 ≤ x) w (w1.setRow D #[d'']) := by
  have hDl : D < w.heap.size := by have := h.s1; omega
  have hno : d'.ownBlock ≠ some D := fun hh => by have := h.own D hh; have := h.s1; omega
  have hsz := hg.keeps.size
  have hb1 : w1.heap[D]? = some (.cells #[d'] tSl (0, 0)) := by rw [hg.keeps.block D hDl hno]; exact h.box
  have hown : ∀ k, d''.ownBlock = some k → k < D ∨ s1 ≤ k := fun k hk => by
    rcases hg.own k hk with h1 | h1
    · exact h.own k h1
    · have := h.s1; exact .inr (by omega)
  have hno2 : d''.ownBlock ≠ some D := fun hh => by have := hown D hh; have := h.s1; omega
  have hks : Keeps (fun k => k = D) w1 (w1.setRow D #[d'']) := Keeps.setRow _ _ _ _ rfl
  refine ⟨hb1, ⟨setRow_heap _ _ _ _ _ _ hb1, (h.gr.trans hg).post hks fun k hk => ?_, hown, ⟨h.s1.1, by have := hks.size; have := h.s1; omega⟩, h.D0⟩, ?_⟩
  · subst hk; exact ⟨h.D0.1, hno2⟩
  · refine (hg.keeps.mono fun k _ hk => ?_).trans (hks.mono fun k _ hk => ?_)
    · have h1 := h.dst.own hk
      rcases h.own k hk with h2 | h2
      · exact .inl ⟨h1.1, by omega⟩
      · exact .inr h2
    · subst hk; exact .inl ⟨h.D0.2, by omega⟩

theorem Bx.lim {tSl te L D s1 : Nat} {d0 d' : Value} {w0 w : World} {bs : Bs} (h : Bx tSl te L D d0 w0 s1 bs w d') : L ≤ w.heap.size := by have := h.s1; have := h.D0; omega

/-- the closure: one tag -/
theorem tone_calls (hm : P.follows .mixedOrders = true) {T : TN} {te L D s1 : Nat} (ot : OctT P T.tSl te) (hV : VarIs P T.tSl false 1) (hInt : P.underlying T.tInt = some (.int .i64)) (hU32 : P.underlying T.tU32 = some (.int .u32)) (hUE : Ent P T.fUv) (hUc : ∀ (x : Nat) (w : World), x < 4294967296 → ApC P te T.fUv (.int .u32 x) (uvar x) w)
    {f nt : Nat} (hfn : FnIs P f nt [] (cTOne T)) (hnt : 16 ≤ nt) {w0 w : World} {d0 d' v : Value} {bs l : Bs} {k : Nat} (hb : Bx T.tSl te L D d0 w0 s1 bs w d') (hk : k < 4294967296) (hv : SlRp w (fun x => L ≤ x) v l) (hlim : bs.length + (wTag (k, l)).length ≤ LIM) :
    Calls P f #[.int .u32 (k : Int), v, pt D 0] w fun e w' => e = .returned (.tuple #[]) ∧ (∃ d'', Bx T.tSl te L D d0 w0 s1 (bs ++ wTag (k, l)) w' d'') ∧ Keeps (fun x => (L ≤ x ∧ x < D + 1) ∨ s1 ≤ x) w w' := by
  refine callsA hm hfn (by simp) [.int .u32 (k : Int), v, pt D 0] (by simp; omega) fun a harg hs hd => ?_
  have g0 := harg 0 _ rfl
  have g1 := harg 1 _ rfl
  have g2 := harg 2 _ rfl
  have hYL : ∀ {wa wb : World}, Keeps (fun x => (L ≤ x ∧ x < D + 1) ∨ s1 ≤ x) wa wb → Keeps (fun x => L ≤ x) wa wb := fun hh => hh.mono fun x _ hx => by have := hb.D0; have := hb.s1; omega
  simp only [wTag, List.length_append] at hlim
  have e1 : ∀ (x y : Value), splice #[x] 0 [y] = #[y] := fun x y => by simp [splice]
  have cell : ∀ {ww : World} {dd : Value}, ww.heap[D]? = some (.cells #[dd] T.tSl (0, 0)) → ww.cell? ⟨D, 0, none⟩ = some dd := fun hh => by simp [World.cell?, hh]
  have one : ∀ {dd : Value} {bb : Bs} {ww : World}, DstAt ww L te dd bb → dd.oneCell' = true ∧ dd.cells = #[dd] := fun hh => by
    rcases hh with ⟨rfl, _⟩ | ⟨_, _, _, rfl, _⟩ <;> exact ⟨rfl, rfl⟩
  unfold cTOne
  -- the number
  refine .seq (R := Rt (fun a1 w1 => a1.get 0 = .int .u32 (k : Int) ∧ a1.get 1 = v ∧ a1.get 2 = pt D 0 ∧ a1.tmps.size = nt ∧ a1.defers = [] ∧ (∃ d1, Bx T.tSl te L D d0 w0 s1 (bs ++ uvar k) w1 d1) ∧ Keeps (fun x => (L ≤ x ∧ x < D + 1) ∨ s1 ≤ x) w w1) fun _ _ => False) (.reg ?_) (fun a1 w1 hh => ?_) (fun e a w he hq => by cases e <;> first | exact absurd rfl he | exact hq.elim)
  · refine wl_load1 (p := ⟨D, 0, none⟩) (v := d') (by rw [eval_tm]; exact g2) (hV.agg _) (cell hb.box) (wl_move ?_)
    rw [eval_tm, get_put_ne _ _ _ _ (by omega), g0]
    refine wl_call (vs := #[d', .int .u32 (k : Int)]) hUE ?_ (hUc k w hk L d' bs hb.dst hb.lim (by omega)) fun e w1 hR => ?_
    · simp only [List.map_cons, List.map_nil, eval_tm]
      rw [get_put_ne _ _ _ _ (by omega), get_put _ _ _ (by omega), get_put _ _ _ (by simp only [put_size]; omega)]
    obtain ⟨d1, he, hg⟩ := hR
    obtain ⟨hb1, hbx, hkk⟩ := hb.step hg
    refine ⟨d1, he, wl_store (g := D) (o := 0) (cur := #[d']) (t := T.tSl) (v := d1) (vs := [d1]) ?_ ?_ (by rw [(one hg.dst).2]) (hV.size _) hb1 (by simp) (by simpa using (one hg.dst).1) (wpList_nil ⟨?_, ?_, ?_, ?_, ?_, ⟨d1, by rw [e1]; exact hbx⟩, by rw [e1]; exact hkk⟩)⟩
    · rw [eval_tm, get_put_ne _ _ _ _ (by omega), get_put_ne _ _ _ _ (by omega), get_put_ne _ _ _ _ (by omega)]; exact g2
    · rw [eval_tm, get_put _ _ _ (by simp only [put_size]; omega)]
    · rw [get_put_ne _ _ _ _ (by omega), get_put_ne _ _ _ _ (by omega), get_put_ne _ _ _ _ (by omega)]; exact g0
    · rw [get_put_ne _ _ _ _ (by omega), get_put_ne _ _ _ _ (by omega), get_put_ne _ _ _ _ (by omega)]; exact g1
    · rw [get_put_ne _ _ _ _ (by omega), get_put_ne _ _ _ _ (by omega), get_put_ne _ _ _ _ (by omega)]; exact g2
    · simp only [put_size]; exact hs
    · simp only [put_defers]; exact hd
  obtain ⟨f0, f1, f2, fs, fd, ⟨d1, hb1⟩, hk1⟩ := hh
  -- the length
  have hv1 := hv.keep (hYL hk1)
  obtain ⟨vb, vc, hvf, _⟩ := hv1.form
  refine .seq (R := Rt (fun a2 w2 => a2.get 1 = v ∧ a2.get 2 = pt D 0 ∧ a2.tmps.size = nt ∧ a2.defers = [] ∧ (∃ d2, Bx T.tSl te L D d0 w0 s1 (bs ++ uvar k ++ uvar (w32 l.length)) w2 d2) ∧ Keeps (fun x => (L ≤ x ∧ x < D + 1) ∨ s1 ≤ x) w w2) fun _ _ => False) (.reg ?_) (fun a2 w2 hh => ?_) (fun e a w he hq => by cases e <;> first | exact absurd rfl he | exact hq.elim)
  · refine wl_load1 (p := ⟨D, 0, none⟩) (v := d1) (by rw [eval_tm]; exact f2) (hV.agg _) (cell hb1.box) (wl_move ?_)
    rw [eval_tm, get_put_ne _ _ _ _ (by omega), f1]
    refine wl_len (base := vb) (n := l.length) (c := vc) (by rw [eval_tm, get_put _ _ _ (by simp only [put_size]; omega)]; exact hvf) ot.und ?_
    refine wl_convInt (k := .i64) (k' := .u32) (m := (l.length : Int)) (by rw [eval_tm, get_put _ _ _ (by simp only [put_size]; omega)]) hInt hU32 ?_
    have ew : IntKind.u32.wrap (l.length : Int) = ((w32 l.length : Nat) : Int) := by simp [IntKind.wrap, IntKind.bits, IntKind.signed, w32]
    rw [ew]
    have hw32 : w32 l.length < 4294967296 := by simp only [w32]; omega
    refine wl_call (vs := #[d1, .int .u32 ((w32 l.length : Nat) : Int)]) hUE ?_ (hUc (w32 l.length) w1 hw32 L d1 _ hb1.dst hb1.lim (by rw [List.length_append]; omega)) fun e w2 hR => ?_
    · simp only [List.map_cons, List.map_nil, eval_tm]
      rw [get_put_ne _ _ _ _ (by omega), get_put_ne _ _ _ _ (by omega), get_put_ne _ _ _ _ (by omega), get_put _ _ _ (by omega), get_put _ _ _ (by simp only [put_size]; omega)]
    obtain ⟨d2, he, hg⟩ := hR
    obtain ⟨hb2, hbx, hkk⟩ := hb1.step hg
    refine ⟨d2, he, wl_store (g := D) (o := 0) (cur := #[d1]) (t := T.tSl) (v := d2) (vs := [d2]) ?_ ?_ (by rw [(one hg.dst).2]) (hV.size _) hb2 (by simp) (by simpa using (one hg.dst).1) (wpList_nil ⟨?_, ?_, ?_, ?_, ⟨d2, by rw [e1]; exact hbx⟩, by rw [e1]; exact hk1.trans hkk⟩)⟩
    · rw [eval_tm]; iterate 5 rw [get_put_ne _ _ _ _ (by omega)]
      exact f2
    · rw [eval_tm, get_put _ _ _ (by simp only [put_size]; omega)]
    · iterate 5 rw [get_put_ne _ _ _ _ (by omega)]
      exact f1
    · iterate 5 rw [get_put_ne _ _ _ _ (by omega)]
      exact f2
    · simp only [put_size]; exact fs
    · simp only [put_defers]; exact fd
  obtain ⟨p1, p2, ps, pd, ⟨d2, hb2⟩, hk2⟩ := hh
  -- the octets
  have hv2 := hv.keep (hYL hk2)
  have hsrc : Src P 1 T.tSl v l.length (l.map octv) w2 := by
    rcases hv2 with ⟨rfl, rfl⟩ | ⟨b, o, c, rfl, _, _, _, _, ho⟩
    · exact src_nil ot w2 0
    · exact src_oct ot ho
  refine .reg ?_
  refine wl_load1 (p := ⟨D, 0, none⟩) (v := d2) (by rw [eval_tm]; exact p2) (hV.agg _) (cell hb2.box) (wl_move ?_)
  rw [eval_tm, get_put_ne _ _ _ _ (by omega), p1]
  refine wl_appendDst ot (L := L) (d := d2) (x := v) (l := l) (by rw [eval_tm, get_put_ne _ _ _ _ (by omega), get_put _ _ _ (by omega)]) (by rw [eval_tm, get_put _ _ _ (by simp only [put_size]; omega)]) hb2.dst hsrc hb2.lim (by simp only [List.length_append]; omega) fun d3 w3 hg => ?_
  obtain ⟨hb3, hbx, hkk⟩ := hb2.step hg
  refine wl_store (g := D) (o := 0) (cur := #[d2]) (t := T.tSl) (v := d3) (vs := [d3]) ?_ ?_ (by rw [(one hg.dst).2]) (hV.size _) hb3 (by simp) (by simpa using (one hg.dst).1) (wpList_nil ⟨?_, rfl, ⟨d3, ?_⟩, by rw [e1]; exact hk2.trans hkk⟩)
  · rw [eval_tm]; iterate 3 rw [get_put_ne _ _ _ _ (by omega)]
    exact p2
  · rw [eval_tm, get_put _ _ _ (by simp only [put_size]; omega)]
  · simp only [put_defers]; exact pd
  · rw [e1]
    simpa [wTag, List.append_assoc] using hbx

end
end Go.Proofs.YtmkioomgfdpeiabDoor.Kx

/-
  TAGS, 10: Tags.AppendEach whole.
-/
namespace Go.Proofs.YtmkioomgfdpeiabDoor.Kx
open Go Go.ChangeMaps

section
variable {P : Program}

theorem wTags_two (t : List (Nat × Bs)) : 2 * t.length ≤ (wTags t).length := by
  induction t with
  | nil => simp [wTags]
  | cons p t ih =>
    rw [wTags_cons, List.length_append, wTag_len, List.length_cons]
    have h1 := uvar_pos p.1
    have h2 := uvar_pos (w32 p.2.length)
    omega
theorem wTags_take {t : List (Nat × Bs)} {j : Nat} {p : Nat × Bs} (h : t[j]? = some p) : wTags (t.take (j + 1)) = wTags (t.take j) ++ wTag p := by
  rw [List.take_add_one, h]
  simp [wTags]
theorem wTags_take_le (t : List (Nat × Bs)) (j : Nat) : (wTags (t.take j)).length ≤ (wTags t).length := by
  have : wTags t = wTags (t.take j) ++ wTags (t.drop j) := by
    simp only [wTags, ← List.flatten_append, ← List.map_append, List.take_append_drop]
  rw [this, List.length_append]
  omega

theorem tg_keys {w : World} {X : Nat → Prop} {m : Value} {t : List (Nat × Bs)} (h : TgRp w X m t) : ∀ p ∈ t, p.1 < 4294967296 := fun p hp => by
  rcases h with ⟨_, rfl⟩ | ⟨r, _, _, _, es, c, f, _, hes, _, _, hpm, _⟩
  · simp at hp
  · obtain ⟨e, he, rfl⟩ := List.mem_map.1 (hpm.mem_iff.2 hp)
    exact (hes e he).1

theorem teach_calls (hm : P.follows .mixedOrders = true) {T : TN} {te : Nat} (tf : TF P T) (hso : SortOk P T) (ot : OctT P T.tSl te) (hV : VarIs P T.tSl false 1) (hUE : Ent P T.fUv) (hUc : ∀ (x : Nat) (w : World), x < 4294967296 → ApC P te T.fUv (.int .u32 x) (uvar x) w)
    {f nt ntE nt1 : Nat} (hfE : FnIs P T.fEach ntE [] (cEach T)) (hntE : 53 ≤ ntE) (hf1 : FnIs P T.fOne nt1 [] (cTOne T)) (hnt1 : 16 ≤ nt1) (hfn : FnIs P f nt [4] (cTEach T)) (hnt : 9 ≤ nt)
    {w : World} {b o L : Nat} {m d : Value} {t : List (Nat × Bs)} {bs : Bs} (hc : w.cell? ⟨b, o, none⟩ = some m) (hb : b < L) (ht : TgRp w (fun k => L ≤ k) m t) (hd : DstAt w L te d bs) (hL : L ≤ w.heap.size) (hlim : bs.length + (wTags t).length ≤ LIM) :
    Calls P f #[pt b o, d] w fun e w' => ∃ d', e = .returned d' ∧ Gr L te d w d' (bs ++ wTags t) w' := by
  refine callsA hm hfn (by simp) [pt b o, d] (by simp; omega) fun a harg hs hdf => ?_
  have g0 := harg 0 _ rfl
  have g1 := harg 1 _ rfl
  have lt : ∀ i, i < 9 → i < a.tmps.size := fun i hi => by omega
  have h2 := wTags_two t
  have hl46 : LIM = 70368744177664 := rfl
  have hcells : d.cells = #[d] := by rcases hd with ⟨rfl, _⟩ | ⟨_, _, _, rfl, _⟩ <;> rfl
  have hown : ∀ k, d.ownBlock = some k → k < w.heap.size := fun k hk => (hd.own hk).2
  have hkeys := tg_keys ht
  unfold cTEach
  refine nwp_sq_cons (nwp_rg ?_)
  refine wl_value (v := pt w.heap.size 0) (w' := w.alloc (.cells #[d] T.tSl (0, 0))) (by
    have e1 : a.eval (tm 1) = d := g1
    simp [execOp, mk, e1, Instr.box, newVar, newRow, newObj, Sem.run, hcells, pt]) (wl_assign (wpList_nil ?_))
  rw [eval_const]
  have hsz1 : (w.alloc (.cells #[d] T.tSl (0, 0))).heap.size = w.heap.size + 1 := by simp
  have hbx1 := heap_alloc_new' w (.cells #[d] T.tSl (0, 0))
  have hk1 : Keeps (fun _ => False) w (w.alloc (.cells #[d] T.tSl (0, 0))) := Keeps.alloc _ _ _
  generalize w.alloc (.cells #[d] T.tSl (0, 0)) = w1 at hsz1 hbx1 hk1 ⊢
  refine nwp_sq_cons (nwp_rg (wl_move ?_))
  rw [eval_tm, get_put_ne _ _ _ _ (by omega), get_put_ne _ _ _ _ (by omega), g0]
  refine wl_value (v := .func (.func T.fOne) #[] #[pt w.heap.size 0]) (w' := w1) (by
    have key : ∀ A : Act, A.eval (tm 3) = pt w.heap.size 0 → (execOp A.eval (mk (some 6) (.makeFunc (.func T.fOne) #[] #[tm 3]))).run P w1 = .ok (.value (.func (.func T.fOne) #[] #[pt w.heap.size 0])) w1 := fun A h => by
      simp [execOp, mk, Instr.makeFunc, h]
    exact key _ (by simp [eval_tm, gp, lt, put_size])) ?_
  have heach := each_calls hm tf hso hfE hntE (w := w1) (b := b) (o := o) (L := L) (fC := T.fOne) (m := m) (t := t) (cap := #[pt w.heap.size 0]) (I := fun s1 j w' => ∃ d', Bx T.tSl te L w.heap.size d w s1 (bs ++ wTags (t.take j)) w' d')
    (hk1.cell id hc) hb (by omega) (ht.keep (hk1.mono fun _ _ h => h.elim)) (by omega) hf1.ent (fun w2 hk2 => ?_) (fun s1 j w2 k l v hs1 hj hI hv => ?_)
  · refine wl_call (vs := #[pt b o, .func (.func T.fOne) #[] #[pt w.heap.size 0]]) hfE.ent (by simp [eval_tm, gp, lt, put_size]) heach fun e w2 hR => ?_
    obtain ⟨he, s1, hs1, d', hbx⟩ := hR
    refine ⟨_, he, wpList_nil (nwp_sq_cons (nwp_rg ?_))⟩
    refine wl_load1 (p := ⟨w.heap.size, 0, none⟩) (v := d') (by simp [eval_tm, gp, lt, put_size, pt]) (hV.agg _) (by simp [World.cell?, hbx.box]) (wl_assign (wpList_nil (nwp_sq_cons (.ret ⟨?_, d', ?_, ?_⟩))))
    · simp only [put_defers]; exact hdf
    · rw [retOf_one]
      simp [eval_tm, gp, lt, put_size]
    · have := hbx.gr
      rwa [List.take_of_length_le (Nat.le_refl _)] at this
  · have hkw : Keeps (fun _ => False) w w2 := hk1.trans hk2
    have hs2 := hk2.size
    refine ⟨d, ⟨by rw [hk2.block _ (by omega) id]; exact hbx1, ?_, fun k hk => .inl (hown k hk), ⟨by omega, Nat.le_refl _⟩, ⟨Nat.le_refl _, hL⟩⟩⟩
    have e0 : bs ++ wTags (t.take 0) = bs := by simp [wTags]
    rw [e0]
    exact ⟨hd.keep hkw fun _ _ h => h, hkw.mono fun _ _ h => h.elim, fun k hk => .inl hk⟩
  · obtain ⟨d', hbx⟩ := hI
    have hle := wTags_take_le t (j + 1)
    rw [wTags_take hj, List.length_append] at hle
    have := tone_calls hm ot hV tf.dInt tf.dU32 hUE hUc hf1 hnt1 hbx (hkeys _ (List.mem_of_getElem? hj)) hv (by
      rw [List.length_append]
      show bs.length + (wTags (t.take j)).length + (wTag (k, l)).length ≤ LIM
      omega)
    refine this.mono fun e w3 h => ⟨h.1, ?_, ?_⟩
    · obtain ⟨d'', h3⟩ := h.2.1
      refine ⟨d'', ?_⟩
      rw [wTags_take hj, ← List.append_assoc]
      exact h3
    · rw [hsz1]; exact h.2.2

end
end Go.Proofs.YtmkioomgfdpeiabDoor.Kx

/-
  TAGS, 11: the sort of the keys, by the library's own sort.Slice (contract off the shelf).
-/
namespace Go.Proofs.YtmkioomgfdpeiabDoor.Kx
open Go Go.ChangeMaps Go.Shelf Go.Lib Go.Sort

section
variable {P : Program}

def lessOps (T : TN) : List Oper := [mk (some 6) (.load T.tKs (tm 2)), mk (some 7) (.move (tm 0)), mk (some 8) (.indexAddr T.tKs (tm 6) (tm 7)), mk (some 9) (.load T.tU32 (tm 8)), mk (some 10) (.load T.tKs (tm 2)), mk (some 11) (.move (tm 1)), mk (some 12) (.indexAddr T.tKs (tm 10) (tm 11)), mk (some 13) (.load T.tU32 (tm 12)), mk (some 14) (.binOp .lss T.tU32 (tm 9) (tm 13) 0)]
def cTLess (T : TN) : Code := sq [rg [mk (some 5) (.assign (.const (.bool false)))], .region 1 (lessOps T ++ [mk (some 5) (.assign (tm 14))]).toArray true, .ret]

theorem less_calls (hm : P.follows .mixedOrders = true) {T : TN} (tf : TF P T) {f nt : Nat} (hfn : FnIs P f nt [5] (cTLess T)) (hnt : 15 ≤ nt) {w : World} {V G n i j x y : Nat} (hV : w.cell? ⟨V, 0, none⟩ = some (.slice (some ⟨G, 0, none⟩) n n)) (hi : i < n) (hj : j < n) (hx : w.cell? ⟨G, i, none⟩ = some (u32v x)) (hy : w.cell? ⟨G, j, none⟩ = some (u32v y)) :
    Calls P f #[.int .i64 (i : Int), .int .i64 (j : Int), pt V 0] w fun e w' => e = .returned (.bool (decide (x < y))) ∧ w' = w.drew := by
  refine callsA hm hfn (by simp) [.int .i64 (i : Int), .int .i64 (j : Int), pt V 0] (by simp; omega) fun a harg hs hd => ?_
  have g0 := harg 0 _ rfl
  have g1 := harg 1 _ rfl
  have g2 := harg 2 _ rfl
  unfold cTLess
  refine nwp_sq_cons (nwp_rg (wl_assign (wpList_nil ?_)))
  have hlo : loudOf (lessOps T ++ [mk (some 5) (.assign (tm 14))]) = [false, false, false, false, false, false, false, false, false, true] := by kernel_rfl
  refine nwp_sq_cons (.drw (fun w' => w'.heap = w.heap) ?_)
  rw [hlo]
  have hc : ∀ {p : Addr} {v : Value}, w.cell? p = some v → ∀ w' : World, w'.heap = w.heap → w'.cell? p = some v := fun h w' hw => by simpa [World.cell?, hw] using h
  have lt : ∀ d, d < 15 → d < (a.put (some 5) (Act.eval a (.const (.bool false)))).tmps.size := fun d hd => by simp only [put_size]; omega
  have e0 : (a.put (some 5) (Act.eval a (.const (.bool false)))).get 0 = .int .i64 (i : Int) := by rw [get_put_ne _ _ _ _ (by omega)]; exact g0
  have e1 : (a.put (some 5) (Act.eval a (.const (.bool false)))).get 1 = .int .i64 (j : Int) := by rw [get_put_ne _ _ _ _ (by omega)]; exact g1
  have e2 : (a.put (some 5) (Act.eval a (.const (.bool false)))).get 2 = pt V 0 := by rw [get_put_ne _ _ _ _ (by omega)]; exact g2
  have ed : (a.put (some 5) (Act.eval a (.const (.bool false)))).defers = [] := by rw [put_defers]; exact hd
  generalize a.put (some 5) (Act.eval a (.const (.bool false))) = a at lt e0 e1 e2 ed ⊢
  show evF P _ (lessOps T) a fun af => wpLd P _ _ [mk (some 5) (.assign (tm 14))] af w.drew
  refine ev_load1 (p := ⟨V, 0, none⟩) (v := .slice (some ⟨G, 0, none⟩) n n) (by rw [eval_tm]; exact e2) tf.vK.agg (hc hV) (ev_move ?_)
  rw [eval_tm, get_put_ne _ _ _ _ (by omega), e0]
  refine ev_index (b := G) (o := 0) (m := n) (c := n) (i := i) (k := .i64) (sz := 1) (by simp [eval_tm, gp, lt, put_size]) (by simp [eval_tm, gp, lt, put_size]) hi tf.sl tf.vU.size ?_
  refine ev_load1 (p := ⟨G, 0 + i * 1, none⟩) (v := u32v x) (by simp [eval_tm, gp, lt, put_size]) tf.vU.agg (by rw [Nat.zero_add, Nat.mul_one]; exact hc hx) ?_
  refine ev_load1 (p := ⟨V, 0, none⟩) (v := .slice (some ⟨G, 0, none⟩) n n) (by simp [eval_tm, gp, lt, put_size, e2, pt]) tf.vK.agg (hc hV) (ev_move ?_)
  rw [eval_tm, show Act.get _ 1 = .int .i64 (j : Int) from by simp [gp, lt, put_size, e1]]
  refine ev_index (b := G) (o := 0) (m := n) (c := n) (i := j) (k := .i64) (sz := 1) (by simp [eval_tm, gp, lt, put_size]) (by simp [eval_tm, gp, lt, put_size]) hj tf.sl tf.vU.size ?_
  refine ev_load1 (p := ⟨G, 0 + j * 1, none⟩) (v := u32v y) (by simp [eval_tm, gp, lt, put_size]) tf.vU.agg (by rw [Nat.zero_add, Nat.mul_one]; exact hc hy) ?_
  refine ev_bin (k := .u32) (k2 := .u32) (m := (x : Int)) (m2 := (y : Int)) (v := .bool (decide (x < y))) (by simp [eval_tm, gp, lt, put_size, u32v]) (by simp [eval_tm, gp, lt, put_size, u32v]) (fun w' => run_cmp (.inr (.inr (.inl ⟨rfl, by simp⟩)))) ?_
  refine ⟨rfl, ?_⟩
  have key : ∀ (A : Act) (Q : Exit → Act → World → Prop), (Q .normal (A.put (some 5) (A.eval (tm 14))) w.drew) → (mk (some 5) (.assign (tm 14))).wp P A w.drew (wpLd P (fun w' => w'.heap = w.heap) Q []) (fun _ _ _ => False) := fun A Q hQ => by
    unfold Oper.wp
    exact ⟨rfl, hQ⟩
  refine key _ _ (nwp_sq_cons (cs := []) (.ret ⟨?_, ?_, rfl⟩))
  · simp only [put_defers]; exact ed
  · rw [retOf_one]
    simp [eval_tm, gp, lt, put_size]

end
end Go.Proofs.YtmkioomgfdpeiabDoor.Kx

/-
  TAGS, 12: the keys are sorted.
-/
namespace Go.Proofs.YtmkioomgfdpeiabDoor.Kx
open Go Go.ChangeMaps Go.Shelf Go.Lib Go.Sort

section
variable {P : Program} {ρ : Ren}

def ltN (x y : Nat) : Bool := decide (x < y)
theorem swo_ltN : SWO ltN where
  irrefl x := by simp [ltN]
  trans x y z h1 h2 := by simp only [ltN, decide_eq_true_eq] at h1 h2 ⊢; omega
  ntrans x y z h1 h2 := by simp only [ltN, decide_eq_false_iff_not] at h1 h2 ⊢; omega

theorem keeps_grow (X : Nat → Prop) (w : World) (os : Array Obj) : Keeps X w (grow w os) := ⟨rfl, rfl, rfl, by rw [size_grow]; omega, fun k hk _ => heap_grow_old w os hk⟩

theorem sortOk_of (hm : P.follows .mixedOrders = true) {T : TN} (tf : TF P T) (L : LaysGg.n6 P ρ) (hρ : ρ.f 6 = T.fSort) (hSE : Ent P T.fSort) {nt : Nat} (hfn : FnIs P T.fLess nt [5] (cTLess T)) (hnt : 15 ≤ nt) {it ie : TypeInfo} (hi : P.info? T.tKs = some it) (hd : it.desc = .slice T.tU32) (hpk : P.packed T.tKs = false)
    (hie : P.info? T.tU32 = some ie) {ke : Nat} (hke : ∀ w, (Extern.Rtype.kind T.tU32).run P w = .ok ke w) (hs1 : ie.size = 1) (hby : ie.bytes = 4) (hptr : ie.hasPointers = false) (heg : ∀ args w, (callFunc T.fLess args).run P w = .ok (.enter T.fLess args) w)
    {f1 f2 f6 : Nat} (h1 : P.funcs.findIdx? (·.name == "internal/reflectlite" ++ ".Swapper$" ++ toString 1) = some f1) (h2 : P.funcs.findIdx? (·.name == "internal/reflectlite" ++ ".Swapper$" ++ toString 2) = some f2) (h6 : P.funcs.findIdx? (·.name == "internal/reflectlite" ++ ".Swapper$" ++ toString 6) = some f6)
    (hx : ∀ args W, (callFunc f6 args).run P W = ((Extern.ReflectliteSwapper.swap true args).run P W).andThen fun v w' => .ok (.value v) w') : SortOk P T := by
  refine ⟨hSE, fun w V G n ks cur hks hn hk32 hV hG hcs hVG hat => ?_⟩
  rw [← hρ]
  have hGl : G < w.heap.size := (Array.getElem?_eq_some_iff.1 hG).1
  have hVl : V < w.heap.size := (Array.getElem?_eq_some_iff.1 hV).1
  by_cases hn2 : 2 ≤ n
  · have hK : swapperK n ie ke = 6 := by
      have c : (n == 0) = false := by simp; omega
      have d : (n == 1) = false := by simp; omega
      simp [swapperK, hptr, hby, c, d]
    have hdsz : ks.toArray.size = n := by simpa using hks
    have hH : Holds u32v w G 0 ks.toArray := fun j hj => by
      have hj' : j < ks.length := by simpa using hj
      have e1 : ks[j]? = some ks.toArray[j]! := by rw [getElem!_pos ks.toArray j hj]; simp [hj']
      have := hat j _ e1
      refine ⟨by simp [World.cell?, hG, this], by simp [World.frozen?, hG]⟩
    have hless : LessReads P T.fLess #[pt V 0] u32v ltN G 0 ks.toArray.size w := by
      intro m os dk hs i j hi hj
      have hHa : Holds u32v (Sort.ahead w m) G 0 ks.toArray := holds_ahead _ _ _ _ _ _ hH
      have hcell : ∀ t, t < ks.toArray.size → (sortWorld u32v w G 0 m dk os).cell? ⟨G, t, none⟩ = some (u32v dk[t]!) := fun t ht => by
        unfold sortWorld
        rw [cell?_grow _ _ _ (by show G < (putRow u32v (Sort.ahead w m) G 0 dk).heap.size; simp only [putRow, mapBlock]; simpa using hGl)]
        have := cell?_putRow u32v (Sort.ahead w m) G 0 ks.toArray dk hHa hs t (by omega)
        rwa [Nat.zero_add] at this
      have hcV : (sortWorld u32v w G 0 m dk os).cell? ⟨V, 0, none⟩ = some (.slice (some ⟨G, 0, none⟩) n n) := by
        unfold sortWorld
        rw [cell?_grow _ _ _ (by show V < (putRow u32v (Sort.ahead w m) G 0 dk).heap.size; simp only [putRow, mapBlock]; simpa using hVl), cell?_putRow_other _ _ _ _ _ _ (.inl hVG)]
        show w.cell? ⟨V, 0, none⟩ = _
        simp [World.cell?, hV]
      have := less_calls hm tf hfn hnt (w := sortWorld u32v w G 0 m dk os) (V := V) (G := G) (n := n) (i := i) (j := j) hcV (by omega) (by omega) (hcell i hi) (hcell j hj)
      exact this.mono fun e w' h => ⟨h.1, 1, h.2⟩
    have hS := Any.sort_Slice_sorted L T.tKs T.tU32 it ie hi hd hpk hie ke hke hs1 tf.vU.agg u32v (fun _ => rfl) ltN swo_ltN T.fLess #[pt V 0] heg G 0 n ks.toArray (by omega) (by omega) f6 (by rw [hdsz, hK]; exact h6) true hx w hless hH hGl
    rw [hdsz] at hS
    refine hS.mono fun e w' h => ?_
    obtain ⟨he, d', m, os, hp, hso, rfl⟩ := h
    have hsz' : d'.size = n := hp.1.trans hdsz
    have hHa : Holds u32v (Sort.ahead w m) G 0 ks.toArray := holds_ahead _ _ _ _ _ _ hH
    have hPG : (putRow u32v (Sort.ahead w m) G 0 d').heap[G]? = some (.cells (putCells u32v 0 d' cur) T.tU32 (0, 0)) := by
      simp only [putRow, mapBlock, Array.getElem?_modify, if_true]
      show (w.heap[G]?).map _ = _
      rw [hG]; rfl
    have hPk : Keeps (fun k => k = G) w (putRow u32v (Sort.ahead w m) G 0 d') := ⟨rfl, rfl, rfl, by show w.heap.size ≤ (w.heap.modify G _).size; simp, fun k _ hk => by
      show (w.heap.modify G _)[k]? = _
      rw [Array.getElem?_modify, if_neg (fun e => hk e.symm)]⟩
    have hPs : (putRow u32v (Sort.ahead w m) G 0 d').heap.size = w.heap.size := by show (w.heap.modify G _).size = _; simp
    refine ⟨he, hPk.trans (keeps_grow _ _ _), putCells u32v 0 d' cur, d'.toList, by rw [heap_grow_old _ _ (by omega)]; exact hPG, ?_, ?_, fun i x hx => ?_⟩
    · have := hp.2.2
      have e1 : d'.extract 0 n = d' := by rw [← hsz']; simp
      have e2 : ks.toArray.extract 0 n = ks.toArray := by rw [← hdsz]; simp
      rw [e1, e2] at this
      simpa using this
    · rw [List.pairwise_iff_getElem]
      intro i j hi hj hij
      have hj' : j < n := by simp at hj; omega
      have := hso i j (Nat.zero_le _) hij (by omega)
      simp only [ltN, decide_eq_false_iff_not] at this
      rw [getElem!_pos d' j (by omega), getElem!_pos d' i (by omega)] at this
      simp only [Array.getElem_toList]
      omega
    · have hi' : i < d'.size := by
        have := (List.getElem?_eq_some_iff.1 hx).1
        simpa using this
      have hc := cell?_putRow u32v (Sort.ahead w m) G 0 ks.toArray d' hHa (by omega) i hi'
      have e1 : d'[i]! = x := by
        rw [getElem!_pos d' i hi']
        have := (List.getElem?_eq_some_iff.1 hx).2
        simpa using this
      simp only [World.cell?, hPG, Nat.zero_add, e1] at hc
      exact hc
  · have hK : swapperK n ie ke = n + 1 := by
      rcases Nat.eq_zero_or_pos n with h | h
      · subst h; simp [swapperK]
      · obtain rfl : n = 1 := by omega
        simp [swapperK]
    have hf : ∃ f, P.funcs.findIdx? (·.name == "internal/reflectlite" ++ ".Swapper$" ++ toString (swapperK n ie ke)) = some f := by
      rw [hK]
      rcases Nat.eq_zero_or_pos n with h | h
      · subst h; exact ⟨f1, h1⟩
      · obtain rfl : n = 1 := by omega
        exact ⟨f2, h2⟩
    obtain ⟨f, hf⟩ := hf
    have hS := Any.sort_Slice_tiny L T.tKs T.tU32 it ie hi hd hpk hie ke hke (some ⟨G, 0, none⟩) n n (by omega) f hf (.func T.fLess) #[] #[pt V 0] w
    refine hS.mono fun e w' h => ?_
    obtain ⟨he, os, rfl⟩ := h
    refine ⟨he, keeps_grow _ _ _, cur, ks, by rw [heap_grow_old _ _ hGl]; exact hG, .refl _, ?_, hat⟩
    match ks, hks with
    | [], _ => simp
    | [x], _ => simp
    | x :: y :: r, h => simp at h; omega

end
end Go.Proofs.YtmkioomgfdpeiabDoor.Kx

/-
  KBIN: AppendNullableArrayLen, AppendCompactNullableArrayLen.
-/
namespace Go.Proofs.YtmkioomgfdpeiabDoor.Kx
open Go

section
variable {P : Program} {K : Kn}

def nlCode (c : Value) (f1 : Nat) (rest : List Oper) : Code :=
  .seq (rg [mk (some 6) (.assign (.const nilS))]) (.seq (.seq (rg [mk (some 7) (.move (tm 2))]) (.cond (tm 7) (.seq (rg [mk (some 8) (.move (tm 0)), cl (some 9) f1 [tm 8, .const c], mk (some 6) (.assign (tm 9))]) .ret) .skip)) (.seq (rg rest) .ret))
theorem cANLen_eq (f : Nat) : cANLen K f = nlCode (.int .i32 (-1)) f [mk (some 10) (.move (tm 0)), mk (some 11) (.move (tm 1)), mk (some 12) (.convert K.tInt K.tI32 (tm 11)), cl (some 13) f [tm 10, tm 12], mk (some 6) (.assign (tm 13))] := rfl
theorem cACNLen_eq (f : Nat) : cACNLen K f = nlCode (.int .u32 0) f [mk (some 10) (.move (tm 0)), mk (some 11) (.move (tm 1)), mk (some 12) (.convert K.tInt K.tU32 (tm 11)), mk (some 13) (.binOp .add K.tU32 (ki .u32 1) (tm 12) 0), cl (some 14) f [tm 10, tm 13], mk (some 6) (.assign (tm 14))] := rfl

theorem nl_calls (hm : P.follows .mixedOrders = true) {te f f1 ntmps : Nat} {c : Value} {rest : List Oper} {enc0 enc1 : Bs} {w : World} {L : Nat} {x d : Value} {bs : Bs} {b : Bool} (hE : Ent P f1) (hfn : FnIs P f ntmps [6] (nlCode c f1 rest)) (hnt : 15 ≤ ntmps) (hc0 : ApC P te f1 c enc0 w)
    (hrest : ∀ (a : Act) (Q : Act → World → Prop), 15 ≤ a.tmps.size → a.get 0 = d → a.get 1 = x → bs.length + enc1.length ≤ LIM → (∀ a' w' d', a'.defers = a.defers → a'.get 6 = d' → Gr L te d w d' (bs ++ enc1) w' → Q a' w') → wpList P rest.toArray (Rt Q fun _ _ => False) rest a w)
    (hd : DstAt w L te d bs) (hL : L ≤ w.heap.size) (hlim : bs.length + (if b then enc0 else enc1).length ≤ LIM) :
    Calls P f #[d, x, .bool b] w fun e w' => ∃ d', e = .returned d' ∧ Gr L te d w d' (bs ++ (if b then enc0 else enc1)) w' := by
  refine callsA hm hfn (by simp) [d, x, .bool b] (by simp; omega) fun a harg hs hdf => ?_
  have g0 := harg 0 _ rfl
  have g1 := harg 1 _ rfl
  have g2 := harg 2 _ rfl
  have lt : ∀ i, i < 15 → i < a.tmps.size := fun i hi => by omega
  unfold nlCode
  refine .seq (R := Rt (fun a1 w1 => a1 = a.put (some 6) nilS ∧ w1 = w) fun _ _ => False) (.reg (wl_assign (wpList_nil ⟨rfl, rfl⟩))) (fun a1 w1 hh => ?_) (fun e a w he hq => by cases e <;> first | exact absurd rfl he | exact hq.elim)
  obtain ⟨rfl, rfl⟩ := hh
  have hw : wpList P [mk (some 7) (.move (tm 2))].toArray (Rt (fun a2 w2 => a2 = (a.put (some 6) nilS).put (some 7) (.bool b) ∧ w2 = w1) fun _ _ => False) [mk (some 7) (.move (tm 2))] (a.put (some 6) nilS) w1 := by
    refine wl_move (wpList_nil ⟨?_, rfl⟩)
    rw [eval_tm, get_put_ne _ _ _ _ (by omega), g2]
  cases b with
  | true =>
    simp only [if_true] at hlim ⊢
    refine .seq (R := Rt (fun _ _ => False) (fun a' w' => a'.defers = [] ∧ ∃ d', Ending.returned (retOf [6] a') = .returned d' ∧ Gr L te d w1 d' (bs ++ enc0) w')) (.seq (.reg hw) (fun a2 w2 hh => ?_) (fun e a w he hq => by cases e <;> first | exact absurd rfl he | exact hq.elim)) (fun _ _ hh => hh.elim) (fun e a w he hq => by cases e <;> first | exact absurd rfl he | exact hq)
    obtain ⟨rfl, rfl⟩ := hh
    refine .condT (by simp [eval_tm, gp, lt, put_size]) (.seq (R := Rt (fun a' w' => a'.defers = [] ∧ ∃ d', a'.get 6 = d' ∧ Gr L te d w2 d' (bs ++ enc0) w') fun _ _ => False) (.reg (wl_move ?_)) (fun a3 w3 hh => ?_) (fun e a w he hq => by cases e <;> first | exact absurd rfl he | exact hq.elim))
    · rw [eval_tm, get_put_ne _ _ _ _ (by omega), get_put_ne _ _ _ _ (by omega), g0]
      refine wl_call (vs := #[d, c]) hE (by simp [eval_tm, eval_const, gp, lt, put_size]) (hc0 L d bs hd hL hlim) fun e w' hR => ?_
      obtain ⟨d', he, hg⟩ := hR
      refine ⟨d', he, wl_assign (wpList_nil ⟨?_, d', ?_, hg⟩)⟩
      · simp only [put_defers]; exact hdf
      · simp [eval_tm, gp, lt, put_size]
    · obtain ⟨h1, d', h2, h3⟩ := hh
      exact .ret ⟨h1, d', by show Ending.returned (Act.get _ 6) = _; rw [h2], h3⟩
  | false =>
    simp only [Bool.false_eq_true, if_false] at hlim ⊢
    refine .seq (R := Rt (fun a2 w2 => a2 = (a.put (some 6) nilS).put (some 7) (.bool false) ∧ w2 = w1) fun _ _ => False) (.seq (.reg hw) (fun a2 w2 hh => ?_) (fun e a w he hq => by cases e <;> first | exact absurd rfl he | exact hq.elim)) (fun a2 w2 hh => ?_) (fun e a w he hq => by cases e <;> first | exact absurd rfl he | exact hq.elim)
    · obtain ⟨rfl, rfl⟩ := hh
      exact .condF (by simp [eval_tm, gp, lt, put_size]) (.skip ⟨rfl, rfl⟩)
    obtain ⟨rfl, rfl⟩ := hh
    refine .seq (R := Rt (fun a' w' => a'.defers = [] ∧ ∃ d', a'.get 6 = d' ∧ Gr L te d w2 d' (bs ++ enc1) w') fun _ _ => False) (.reg (hrest _ _ (by simp only [put_size]; omega) (by simp [gp, lt, put_size, g0]) (by simp [gp, lt, put_size, g1]) hlim fun a' w' d' h1 h2 h3 => ⟨?_, d', h2, h3⟩)) (fun a3 w3 hh => ?_) (fun e a w he hq => by cases e <;> first | exact absurd rfl he | exact hq.elim)
    · rw [h1]; simp only [put_defers]; exact hdf
    · obtain ⟨h1, d', h2, h3⟩ := hh
      exact .ret ⟨h1, d', by show Ending.returned (Act.get _ 6) = _; rw [h2], h3⟩

theorem anlen_calls (wt : WT P K) {f f1 ntmps : Nat} (hE : Ent P f1) (hc : ∀ (x : Int) (w : World), ApC P K.tU8 f1 (.int .i32 x) (be 4 x) w) (hfn : FnIs P f ntmps [6] (cANLen K f1)) (hnt : 15 ≤ ntmps) (n : Nat) (b : Bool) (w : World) (L : Nat) (d : Value) (bs : Bs) (hd : DstAt w L K.tU8 d bs) (hL : L ≤ w.heap.size) (hlim : bs.length + (if b then wNull false 4 else wCnt false n).length ≤ LIM) :
    Calls P f #[d, .int .i64 (n : Int), .bool b] w fun e w' => ∃ d', e = .returned d' ∧ Gr L K.tU8 d w d' (bs ++ (if b then wNull false 4 else wCnt false n)) w' := by
  rw [cANLen_eq] at hfn
  refine nl_calls wt.mixed (enc0 := wNull false 4) (enc1 := wCnt false n) hE hfn hnt (hc (-1) w) (fun a Q hs h0 h1 hl h => ?_) hd hL hlim
  have lt : ∀ i, i < 15 → i < a.tmps.size := fun i hi => by omega
  refine wl_move (wl_move ?_)
  rw [eval_tm, h0, eval_tm, get_put_ne _ _ _ _ (by omega), h1]
  refine wl_convInt (k := .i64) (k' := .i32) (m := (n : Int)) (by simp [eval_tm, gp, lt, put_size]) wt.dInt wt.dI32 ?_
  have hcn := hc (IntKind.i32.wrap (n : Int)) w
  rw [be_wrap (.inr (.inr (.inl ⟨.inl rfl, rfl⟩)))] at hcn
  refine wl_call (vs := #[d, .int .i32 (IntKind.i32.wrap (n : Int))]) hE (by simp [eval_tm, gp, lt, put_size]) (hcn L d bs hd hL hl) fun e w' hR => ?_
  obtain ⟨d', he, hg⟩ := hR
  exact ⟨d', he, wl_assign (wpList_nil (h _ w' d' (by simp only [put_defers]) (by simp [eval_tm, gp, lt, put_size]) hg))⟩

theorem acnlen_calls (wt : WT P K) {f f1 ntmps : Nat} (hE : Ent P f1) (hc : ∀ (x : Nat) (w : World), x < 4294967296 → ApC P K.tU8 f1 (.int .u32 x) (uvar x) w) (hfn : FnIs P f ntmps [6] (cACNLen K f1)) (hnt : 15 ≤ ntmps) (n : Nat) (b : Bool) (w : World) (L : Nat) (d : Value) (bs : Bs) (hd : DstAt w L K.tU8 d bs) (hL : L ≤ w.heap.size) (hlim : bs.length + (if b then wNull true 4 else wCnt true n).length ≤ LIM) :
    Calls P f #[d, .int .i64 (n : Int), .bool b] w fun e w' => ∃ d', e = .returned d' ∧ Gr L K.tU8 d w d' (bs ++ (if b then wNull true 4 else wCnt true n)) w' := by
  rw [cACNLen_eq] at hfn
  refine nl_calls wt.mixed (enc0 := wNull true 4) (enc1 := wCnt true n) hE hfn hnt (hc 0 w (by omega)) (fun a Q hs h0 h1 hl h => ?_) hd hL hlim
  have lt : ∀ i, i < 15 → i < a.tmps.size := fun i hi => by omega
  refine wl_move (wl_move ?_)
  rw [eval_tm, h0, eval_tm, get_put_ne _ _ _ _ (by omega), h1]
  refine wl_convInt (k := .i64) (k' := .u32) (m := (n : Int)) (by simp [eval_tm, gp, lt, put_size]) wt.dInt wt.dU32 ?_
  have e1 : IntKind.u32.wrap (1 + IntKind.u32.wrap (n : Int)) = ((w32 (n + 1) : Nat) : Int) := by simp [IntKind.wrap, IntKind.bits, IntKind.signed, w32]; omega
  refine wl_bin (k := .u32) (m := 1) (n := IntKind.u32.wrap (n : Int)) (v := .int .u32 ((w32 (n + 1) : Nat) : Int)) rfl (by simp [eval_tm, gp, lt, put_size]) (by simp) (by simp [binOp, Op.intArith, e1]) ?_
  refine wl_call (vs := #[d, .int .u32 ((w32 (n + 1) : Nat) : Int)]) hE (by simp [eval_tm, gp, lt, put_size]) (hc (w32 (n + 1)) w (by simp only [w32]; omega) L d bs hd hL hl) fun e w' hR => ?_
  obtain ⟨d', he, hg⟩ := hR
  exact ⟨d', he, wl_assign (wpList_nil (h _ w' d' (by simp only [put_defers]) (by simp [eval_tm, gp, lt, put_size]) hg))⟩

end
end Go.Proofs.YtmkioomgfdpeiabDoor.Kx

/-
  TAGS, 13: small helps for a seat's text.
-/
namespace Go.Proofs.YtmkioomgfdpeiabDoor.Kx
open Go

theorem fnIsC_of {P : Program} {f : Nat} {fn : Func} {ntmps s t : Nat} {d : Code} (hf : P.funcs[f]? = some fn) (hb : fn.body.map nCode = some d) (hn : fn.ntmps = ntmps) (hr : fn.results = #[ResultVar.cell s t]) (hg : (fn.name == "runtime.NumGoroutine") = false) : FnIsC P f ntmps s t d := by
  cases h : fn.body with
  | none => rw [h] at hb; cases hb
  | some c =>
    rw [h] at hb
    exact ⟨fn, c, hf, h, Option.some.inj hb, hn, hr, hg⟩

def infoB (P : Program) (U : Nat) : Bool := match P.info? U with | some i => (match i.zero with | some _ => i.size == 1 && i.bytes == 4 | none => false) | none => false
theorem infoB_ok {P : Program} {U : Nat} (h : infoB P U = true) : ∃ i z, P.info? U = some i ∧ i.zero = some z ∧ i.size = 1 ∧ i.bytes = 4 := by
  unfold infoB at h
  split at h
  · rename_i i hi
    split at h
    · rename_i z hz
      simp only [Bool.and_eq_true, beq_iff_eq] at h
      exact ⟨i, z, hi, hz, h.1, h.2⟩
    · cases h
  · cases h

end Go.Proofs.YtmkioomgfdpeiabDoor.Kx
