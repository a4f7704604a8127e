/-
  PLAIN LAWS AND CONTRACTS of messages, part 5 of 5: how readers and writers are printed, what they do, and that what is read is written as the same. Nothing of a statement stands here.
-/
import Derived.Test.YthbkpckkfhejbaaDoorK4
import Derived.OpenShut
import Derived.ChangeSlices

/-
  THE PLAIN LAW, 2: each function that reads one value, and the one that writes it.
-/
namespace Go.Proofs.YthbkpckkfhejbaaDoor.Kx

/-- one function -/
def PfOk (p : PF) : Prop := ∀ r v r', p.run r = (v, r') → r'.src.length ≤ r.src.length ∧ (r'.bad = false → r.bad = false ∧ 0 < (p.wr v).length ∧ (p.wr v).length + r'.src.length ≤ r.src.length ∧
  ∀ rest, ∃ v', p.run ⟨p.wr v ++ rest, false, false⟩ = (v', ⟨rest, false, false⟩) ∧ p.wr v' = p.wr v)

theorem pf_num {p : PF} {k : Nat} (hk : k = 1 ∨ k = 2 ∨ k = 4 ∨ k = 8) (hrun : ∀ r, p.run r = (.n (rI k r).1, (rI k r).2)) (hwr : ∀ x, p.wr (.n x) = be k x) : PfOk p := by
  intro r v r' hr
  rw [hrun, Prod.mk.injEq] at hr
  obtain ⟨rfl, rfl⟩ := hr
  have h := rI_spec k r
  refine ⟨h.1, fun hb => ?_⟩
  obtain ⟨h1, h2, _⟩ := h.2 hb
  rw [hwr, be_length]
  refine ⟨h1, by omega, h2, fun rest => ⟨.n (rI k r).1, ?_, hwr _⟩⟩
  rw [hrun, rI_be hk (rI_rng hk r)]

theorem txt_fix {kk : Nat} (hk : kk = 2 ∨ kk = 4) (r : RS) : (rSpan (rI kk r).1 (rI kk r).2).2.src.length ≤ r.src.length ∧ ((rSpan (rI kk r).1 (rI kk r).2).2.bad = false → r.bad = false ∧
    kk + (rSpan (rI kk r).1 (rI kk r).2).1.octets.length + (rSpan (rI kk r).1 (rI kk r).2).2.src.length ≤ r.src.length ∧
    ∀ rest, rI kk ⟨be kk ((rSpan (rI kk r).1 (rI kk r).2).1.octets.length : Nat) ++ rest, false, false⟩ = ((((rSpan (rI kk r).1 (rI kk r).2).1.octets.length : Nat) : Int), (⟨rest, false, false⟩ : RS))) := by
  have h1 := rI_spec kk r
  have h2 := rSpan_spec (rI kk r).1 (rI kk r).2
  have hkk : kk = 1 ∨ kk = 2 ∨ kk = 4 ∨ kk = 8 := by omega
  have h3 := rI_rng hkk r
  refine ⟨by omega, fun hb => ?_⟩
  obtain ⟨b1, k0, ol, os, _, _⟩ := h2.2 hb
  obtain ⟨b0, l0, _⟩ := h1.2 b1
  refine ⟨b0, by omega, fun rest => rI_be hkk ?_ rest false⟩
  rcases hk with rfl | rfl <;> simp only [Nat.reduceMul, Nat.reduceSub, Int.reducePow] at h3 ⊢ <;> omega
theorem txt_uv (r : RS) : (rSpan ((rUv r).1 - 1 : Int) (rUv r).2).2.src.length ≤ r.src.length ∧ ((rSpan ((rUv r).1 - 1 : Int) (rUv r).2).2.bad = false → r.bad = false ∧
    (uvar (w32 ((rSpan ((rUv r).1 - 1 : Int) (rUv r).2).1.octets.length + 1))).length + (rSpan ((rUv r).1 - 1 : Int) (rUv r).2).1.octets.length + (rSpan ((rUv r).1 - 1 : Int) (rUv r).2).2.src.length ≤ r.src.length ∧
    ∀ rest, rUv ⟨uvar (w32 ((rSpan ((rUv r).1 - 1 : Int) (rUv r).2).1.octets.length + 1)) ++ rest, false, false⟩ = ((rSpan ((rUv r).1 - 1 : Int) (rUv r).2).1.octets.length + 1, ⟨rest, false, false⟩)) := by
  have h1 := rUv_spec r
  have h2 := rSpan_spec ((rUv r).1 - 1 : Int) (rUv r).2
  refine ⟨by omega, fun hb => ?_⟩
  obtain ⟨b1, k0, ol, os, _, _⟩ := h2.2 hb
  obtain ⟨b0, l0, _⟩ := h1.2.2 b1
  have hw : w32 ((rSpan ((rUv r).1 - 1 : Int) (rUv r).2).1.octets.length + 1) = (rSpan ((rUv r).1 - 1 : Int) (rUv r).2).1.octets.length + 1 := by simp only [w32]; omega
  rw [hw]
  have hm := uvar_mono (x := (rSpan ((rUv r).1 - 1 : Int) (rUv r).2).1.octets.length + 1) (y := (rUv r).1) (by omega) h1.1
  exact ⟨b0, by omega, fun rest => rUv_uvar (by omega) rest false⟩

theorem rSpan_app' (l rest : Bs) (k : Int) (hk : k = (l.length : Nat)) : rSpan k ⟨l ++ rest, false, false⟩ = (.s l, ⟨rest, false, false⟩) := by subst hk; exact rSpan_app l rest
theorem rI_m1 {k : Nat} (hk : k = 2 ∨ k = 4) (rest : Bs) : rI k ⟨be k (-1) ++ rest, false, false⟩ = (-1, ⟨rest, false, false⟩) := by
  refine rI_be (by omega) ?_ rest false
  rcases hk with rfl | rfl <;> simp only [Nat.reduceMul, Nat.reduceSub, Int.reducePow] <;> omega

theorem pf_txt {p : PF} (h4 : p = .str ∨ p = .cstr) : PfOk p := by
  intro r v r' hr
  rcases h4 with rfl | rfl
  · have er : ∀ r, PF.str.run r = (.s (rSpan (rI 2 r).1 (rI 2 r).2).1.octets, (rSpan (rI 2 r).1 (rI 2 r).2).2) := fun _ => rfl
    have e : ∀ o, PF.str.wr (.s o) = be 2 (o.length : Nat) ++ o := fun _ => rfl
    rw [er, Prod.mk.injEq] at hr
    obtain ⟨rfl, rfl⟩ := hr
    have h := txt_fix (kk := 2) (.inl rfl) r
    refine ⟨h.1, fun hb => ?_⟩
    obtain ⟨h1, h2, h3⟩ := h.2 hb
    generalize (rSpan (rI 2 r).1 (rI 2 r).2).1.octets = o at h2 h3 ⊢
    have el : (PF.str.wr (.s o)).length = 2 + o.length := by rw [e, List.length_append, be_length]
    refine ⟨h1, by omega, by omega, fun rest => ⟨.s o, ?_, rfl⟩⟩
    have ea : PF.str.wr (.s o) ++ rest = be 2 (o.length : Nat) ++ (o ++ rest) := by rw [e, List.append_assoc]
    rw [ea, er, h3 (o ++ rest), rSpan_app' o rest _ rfl]
    rfl
  · have er : ∀ r, PF.cstr.run r = (.s (rSpan ((rUv r).1 - 1 : Int) (rUv r).2).1.octets, (rSpan ((rUv r).1 - 1 : Int) (rUv r).2).2) := fun _ => rfl
    have e : ∀ o, PF.cstr.wr (.s o) = uvar (w32 (o.length + 1)) ++ o := fun _ => rfl
    rw [er, Prod.mk.injEq] at hr
    obtain ⟨rfl, rfl⟩ := hr
    have h := txt_uv r
    refine ⟨h.1, fun hb => ?_⟩
    obtain ⟨h1, h2, h3⟩ := h.2 hb
    generalize (rSpan ((rUv r).1 - 1 : Int) (rUv r).2).1.octets = o at h2 h3 ⊢
    have hp := uvar_pos (w32 (o.length + 1))
    have el : (PF.cstr.wr (.s o)).length = (uvar (w32 (o.length + 1))).length + o.length := by rw [e, List.length_append]
    refine ⟨h1, by omega, by omega, fun rest => ⟨.s o, ?_, rfl⟩⟩
    have ea : PF.cstr.wr (.s o) ++ rest = uvar (w32 (o.length + 1)) ++ (o ++ rest) := by rw [e, List.append_assoc]
    rw [ea, er, h3 (o ++ rest), rSpan_app' o rest _ (by push_cast; omega)]
    rfl
theorem pf_nstr : PfOk .nstr := by
  intro r v r' hr
  have er : ∀ r, PF.nstr.run r = if (rI 2 r).1 < 0 then (.nul, (rI 2 r).2) else (.s (rSpan (rI 2 r).1 (rI 2 r).2).1.octets, (rSpan (rI 2 r).1 (rI 2 r).2).2) := fun _ => rfl
  have e : ∀ o, PF.nstr.wr (.s o) = be 2 (o.length : Nat) ++ o := fun _ => rfl
  have e0 : PF.nstr.wr .nul = be 2 (-1) := rfl
  rw [er] at hr
  split at hr
  · rw [Prod.mk.injEq] at hr
    obtain ⟨rfl, rfl⟩ := hr
    have hI := rI_spec 2 r
    refine ⟨hI.1, fun hb => ?_⟩
    obtain ⟨h1, h2, _⟩ := hI.2 hb
    rw [e0, be_length]
    refine ⟨h1, by omega, h2, fun rest => ⟨.nul, ?_, e0⟩⟩
    rw [er, rI_m1 (.inl rfl), if_pos (by show (-1 : Int) < 0; omega)]
  · rw [Prod.mk.injEq] at hr
    obtain ⟨rfl, rfl⟩ := hr
    have h := txt_fix (kk := 2) (.inl rfl) r
    refine ⟨h.1, fun hb => ?_⟩
    obtain ⟨h1, h2, h3⟩ := h.2 hb
    generalize (rSpan (rI 2 r).1 (rI 2 r).2).1.octets = o at h2 h3 ⊢
    have el : (PF.nstr.wr (.s o)).length = 2 + o.length := by rw [e, List.length_append, be_length]
    refine ⟨h1, by omega, by omega, fun rest => ⟨.s o, ?_, rfl⟩⟩
    have ea : PF.nstr.wr (.s o) ++ rest = be 2 (o.length : Nat) ++ (o ++ rest) := by rw [e, List.append_assoc]
    rw [ea, er, h3 (o ++ rest), if_neg (by show ¬ (((o.length : Nat) : Int) < 0); omega), rSpan_app' o rest _ rfl]
    rfl
theorem pf_cnstr : PfOk .cnstr := by
  intro r v r' hr
  have er : ∀ r, PF.cnstr.run r = if ((rUv r).1 - 1 : Int) < 0 then (.nul, (rUv r).2) else (.s (rSpan ((rUv r).1 - 1 : Int) (rUv r).2).1.octets, (rSpan ((rUv r).1 - 1 : Int) (rUv r).2).2) := fun _ => rfl
  have e : ∀ o, PF.cnstr.wr (.s o) = uvar (w32 (o.length + 1)) ++ o := fun _ => rfl
  have e0 : PF.cnstr.wr .nul = uvar 0 := rfl
  have l0 : (uvar 0).length = 1 := rfl
  rw [er] at hr
  split at hr
  · rw [Prod.mk.injEq] at hr
    obtain ⟨rfl, rfl⟩ := hr
    have hI := rUv_spec r
    refine ⟨hI.2.1, fun hb => ?_⟩
    obtain ⟨h1, h2, _⟩ := hI.2.2 hb
    have hp := uvar_pos (rUv r).1
    rw [e0]
    refine ⟨h1, by omega, by omega, fun rest => ⟨.nul, ?_, e0⟩⟩
    rw [er, rUv_uvar (by omega), if_pos (by show (((0 : Nat) : Int) - 1) < 0; omega)]
  · rw [Prod.mk.injEq] at hr
    obtain ⟨rfl, rfl⟩ := hr
    have h := txt_uv r
    refine ⟨h.1, fun hb => ?_⟩
    obtain ⟨h1, h2, h3⟩ := h.2 hb
    generalize (rSpan ((rUv r).1 - 1 : Int) (rUv r).2).1.octets = o at h2 h3 ⊢
    have hp := uvar_pos (w32 (o.length + 1))
    have el : (PF.cnstr.wr (.s o)).length = (uvar (w32 (o.length + 1))).length + o.length := by rw [e, List.length_append]
    refine ⟨h1, by omega, by omega, fun rest => ⟨.s o, ?_, rfl⟩⟩
    have ea : PF.cnstr.wr (.s o) ++ rest = uvar (w32 (o.length + 1)) ++ (o ++ rest) := by rw [e, List.append_assoc]
    rw [ea, er, h3 (o ++ rest), if_neg (by show ¬ ((((o.length + 1 : Nat)) : Int) - 1 < 0); omega), rSpan_app' o rest _ (by push_cast; omega)]
    rfl
theorem pf_bytes : PfOk .bytes := by
  intro r v r' hr
  have er : ∀ r, PF.bytes.run r = if (rI 4 r).1 = -1 then (.s [], (rI 4 r).2) else rSpan (rI 4 r).1 (rI 4 r).2 := fun _ => rfl
  have e : ∀ v : V, PF.bytes.wr v = be 4 (v.octets.length : Nat) ++ v.octets := fun _ => rfl
  have again : ∀ (o rest : Bs), (∀ rest, rI 4 ⟨be 4 (o.length : Nat) ++ rest, false, false⟩ = (((o.length : Nat) : Int), (⟨rest, false, false⟩ : RS))) → PF.bytes.run ⟨(be 4 (o.length : Nat) ++ o) ++ rest, false, false⟩ = (.s o, ⟨rest, false, false⟩) := by
    intro o rest h3
    rw [List.append_assoc, er, h3 (o ++ rest), if_neg (by show ¬ (((o.length : Nat) : Int) = -1); omega), rSpan_app' o rest _ rfl]
  rw [er] at hr
  split at hr
  · rw [Prod.mk.injEq] at hr
    obtain ⟨rfl, rfl⟩ := hr
    have hI := rI_spec 4 r
    refine ⟨hI.1, fun hb => ?_⟩
    obtain ⟨h1, h2, _⟩ := hI.2 hb
    have el : (PF.bytes.wr (.s [])).length = 4 := by rw [e, List.length_append, be_length]; rfl
    exact ⟨h1, by omega, by omega, fun rest => ⟨.s [], again [] rest (fun rest => rI_be (k := 4) (x := 0) (by omega) (by simp only [Nat.reduceMul, Nat.reduceSub, Int.reducePow]; omega) rest false), rfl⟩⟩
  · have h := txt_fix (kk := 4) (.inr rfl) r
    rw [hr] at h
    refine ⟨h.1, fun hb => ?_⟩
    obtain ⟨h1, h2, h3⟩ := h.2 hb
    simp only at h2 h3
    have el : (PF.bytes.wr v).length = 4 + v.octets.length := by rw [e, List.length_append, be_length]
    exact ⟨h1, by omega, by omega, fun rest => ⟨.s v.octets, by rw [e]; exact again _ rest h3, rfl⟩⟩
theorem pf_cbytes : PfOk .cbytes := by
  intro r v r' hr
  have er : ∀ r, PF.cbytes.run r = if ((rUv r).1 - 1 : Int) = -1 then (.s [], (rUv r).2) else rSpan ((rUv r).1 - 1 : Int) (rUv r).2 := fun _ => rfl
  have e : ∀ v : V, PF.cbytes.wr v = uvar (w32 (v.octets.length + 1)) ++ v.octets := fun _ => rfl
  have again : ∀ (o rest : Bs), (∀ rest, rUv ⟨uvar (w32 (o.length + 1)) ++ rest, false, false⟩ = (o.length + 1, ⟨rest, false, false⟩)) → PF.cbytes.run ⟨(uvar (w32 (o.length + 1)) ++ o) ++ rest, false, false⟩ = (.s o, ⟨rest, false, false⟩) := by
    intro o rest h3
    rw [List.append_assoc, er, h3 (o ++ rest), if_neg (by show ¬ ((((o.length + 1 : Nat)) : Int) - 1 = -1); omega), rSpan_app' o rest _ (by push_cast; omega)]
  rw [er] at hr
  split at hr
  · rw [Prod.mk.injEq] at hr
    obtain ⟨rfl, rfl⟩ := hr
    have hI := rUv_spec r
    refine ⟨hI.2.1, fun hb => ?_⟩
    obtain ⟨h1, h2, _⟩ := hI.2.2 hb
    have hp := uvar_pos (rUv r).1
    have el : (PF.cbytes.wr (.s [])).length = 1 := rfl
    exact ⟨h1, by omega, by omega, fun rest => ⟨.s [], again [] rest (fun rest => rUv_uvar (x := 1) (by decide) rest false), rfl⟩⟩
  · have h := txt_uv r
    rw [hr] at h
    refine ⟨h.1, fun hb => ?_⟩
    obtain ⟨h1, h2, h3⟩ := h.2 hb
    simp only at h2 h3
    have hp := uvar_pos (w32 (v.octets.length + 1))
    have el : (PF.cbytes.wr v).length = (uvar (w32 (v.octets.length + 1))).length + v.octets.length := by rw [e, List.length_append]
    exact ⟨h1, by omega, by omega, fun rest => ⟨.s v.octets, by rw [e]; exact again _ rest h3, rfl⟩⟩
theorem pf_nbytes : PfOk .nbytes := by
  intro r v r' hr
  have er : ∀ r, PF.nbytes.run r = if (rI 4 r).1 < 0 then (.nul, (rI 4 r).2) else rSpan (rI 4 r).1 (rI 4 r).2 := fun _ => rfl
  have e : ∀ o, PF.nbytes.wr (.s o) = be 4 (o.length : Nat) ++ o := fun _ => rfl
  have e0 : PF.nbytes.wr .nul = be 4 (-1) := rfl
  have nul : ∀ rest, PF.nbytes.run ⟨PF.nbytes.wr .nul ++ rest, false, false⟩ = (.nul, ⟨rest, false, false⟩) := fun rest => by
    rw [e0, er, rI_m1 (.inr rfl), if_pos (by show (-1 : Int) < 0; omega)]
  rw [er] at hr
  split at hr
  · rw [Prod.mk.injEq] at hr
    obtain ⟨rfl, rfl⟩ := hr
    have hI := rI_spec 4 r
    refine ⟨hI.1, fun hb => ?_⟩
    obtain ⟨h1, h2, _⟩ := hI.2 hb
    have el : (PF.nbytes.wr .nul).length = 4 := by rw [e0, be_length]
    exact ⟨h1, by omega, by omega, fun rest => ⟨.nul, nul rest, rfl⟩⟩
  · have h := txt_fix (kk := 4) (.inr rfl) r
    have hS := rSpan_spec (rI 4 r).1 (rI 4 r).2
    rw [hr] at h hS
    refine ⟨h.1, fun hb => ?_⟩
    obtain ⟨h1, h2, h3⟩ := h.2 hb
    obtain ⟨_, _, _, _, _, hform⟩ := hS.2 hb
    simp only at h2 h3 hform
    rcases hform with hf | hf
    · rw [hf] at h2 ⊢
      have el : (PF.nbytes.wr .nul).length = 4 := by rw [e0, be_length]
      exact ⟨h1, by omega, by omega, fun rest => ⟨.nul, nul rest, rfl⟩⟩
    · generalize v.octets = o at h2 h3 hf
      subst hf
      have el : (PF.nbytes.wr (.s o)).length = 4 + o.length := by rw [e, List.length_append, be_length]
      refine ⟨h1, by omega, by omega, fun rest => ⟨.s o, ?_, rfl⟩⟩
      have ea : PF.nbytes.wr (.s o) ++ rest = be 4 (o.length : Nat) ++ (o ++ rest) := by rw [e, List.append_assoc]
      rw [ea, er, h3 (o ++ rest), if_neg (by show ¬ (((o.length : Nat) : Int) < 0); omega), rSpan_app' o rest _ rfl]
theorem pf_cnbytes : PfOk .cnbytes := by
  intro r v r' hr
  have er : ∀ r, PF.cnbytes.run r = if ((rUv r).1 - 1 : Int) < 0 then (.nul, (rUv r).2) else rSpan ((rUv r).1 - 1 : Int) (rUv r).2 := fun _ => rfl
  have e : ∀ o, PF.cnbytes.wr (.s o) = uvar (w32 (o.length + 1)) ++ o := fun _ => rfl
  have e0 : PF.cnbytes.wr .nul = uvar 0 := rfl
  have l0 : (uvar 0).length = 1 := rfl
  have nul : ∀ rest, PF.cnbytes.run ⟨PF.cnbytes.wr .nul ++ rest, false, false⟩ = (.nul, ⟨rest, false, false⟩) := fun rest => by
    rw [e0, er, rUv_uvar (by omega), if_pos (by show (((0 : Nat) : Int) - 1) < 0; omega)]
  rw [er] at hr
  split at hr
  · rw [Prod.mk.injEq] at hr
    obtain ⟨rfl, rfl⟩ := hr
    have hI := rUv_spec r
    refine ⟨hI.2.1, fun hb => ?_⟩
    obtain ⟨h1, h2, _⟩ := hI.2.2 hb
    have hp := uvar_pos (rUv r).1
    have el : (PF.cnbytes.wr .nul).length = 1 := rfl
    exact ⟨h1, by omega, by omega, fun rest => ⟨.nul, nul rest, rfl⟩⟩
  · have h := txt_uv r
    have hS := rSpan_spec ((rUv r).1 - 1 : Int) (rUv r).2
    rw [hr] at h hS
    refine ⟨h.1, fun hb => ?_⟩
    obtain ⟨h1, h2, h3⟩ := h.2 hb
    obtain ⟨_, _, _, _, _, hform⟩ := hS.2 hb
    simp only at h2 h3 hform
    rcases hform with hf | hf
    · have hp := uvar_pos (w32 (v.octets.length + 1))
      have el : (PF.cnbytes.wr .nul).length = 1 := rfl
      rw [hf] at h2 ⊢
      rw [hf] at hp
      exact ⟨h1, by omega, by omega, fun rest => ⟨.nul, nul rest, rfl⟩⟩
    · generalize v.octets = o at h2 h3 hf
      subst hf
      have hp := uvar_pos (w32 (o.length + 1))
      have el : (PF.cnbytes.wr (.s o)).length = (uvar (w32 (o.length + 1))).length + o.length := by rw [e, List.length_append]
      refine ⟨h1, by omega, by omega, fun rest => ⟨.s o, ?_, rfl⟩⟩
      have ea : PF.cnbytes.wr (.s o) ++ rest = uvar (w32 (o.length + 1)) ++ (o ++ rest) := by rw [e, List.append_assoc]
      rw [ea, er, h3 (o ++ rest), if_neg (by show ¬ ((((o.length + 1 : Nat)) : Int) - 1 < 0); omega), rSpan_app' o rest _ (by push_cast; omega)]
theorem pf_bool : PfOk .bool := by
  intro r v r' hr
  obtain ⟨src, bad, nl⟩ := r
  have e : ∀ x, PF.bool.wr (.n x) = [if x = 0 then 0 else 1] := fun _ => rfl
  cases src with
  | nil =>
    obtain rfl : RS.fail = r' := congrArg Prod.snd hr
    exact ⟨by simp [RS.fail], by simp [RS.fail]⟩
  | cons b t =>
    have er : PF.bool.run ⟨b :: t, bad, nl⟩ = (.n (if b.toNat = 0 then 0 else 1), ⟨t, bad, nl⟩) := rfl
    rw [er, Prod.mk.injEq] at hr
    obtain ⟨rfl, rfl⟩ := hr
    refine ⟨by simp, fun hb => ⟨hb, by simp [e], by rw [e]; simp; omega, fun rest => ?_⟩⟩
    by_cases h : b.toNat = 0
    · rw [if_pos h]
      exact ⟨.n 0, rfl, rfl⟩
    · rw [if_neg h]
      exact ⟨.n 1, rfl, rfl⟩
theorem pf_u16 : PfOk .u16 := by
  intro r v r' hr
  have er : ∀ r, PF.u16.run r = (.n ((rU 2 r).1 : Nat), (rU 2 r).2) := fun _ => rfl
  have e : ∀ x, PF.u16.wr (.n x) = be 2 x := fun _ => rfl
  rw [er, Prod.mk.injEq] at hr
  obtain ⟨rfl, rfl⟩ := hr
  have h := rU_spec 2 r
  refine ⟨h.2.1, fun hb => ?_⟩
  obtain ⟨h1, h2, _⟩ := h.2.2 hb
  have el : (PF.u16.wr (.n ((rU 2 r).1 : Nat))).length = 2 := by rw [e, be_length]
  refine ⟨h1, by omega, by omega, fun rest => ⟨.n ((rU 2 r).1 : Nat), ?_, rfl⟩⟩
  rw [e, er, rU_be h.1]
theorem pf_uuid : PfOk .uuid := by
  intro r v r' hr
  have er : ∀ r, PF.uuid.run r = if r.src.length < 16 then (.s (List.replicate 16 0), .fail) else (.s (r.src.take 16), ⟨r.src.drop 16, r.bad, r.nl⟩) := fun _ => rfl
  have e : ∀ o, PF.uuid.wr (.s o) = o := fun _ => rfl
  rw [er] at hr
  split at hr
  · rw [Prod.mk.injEq] at hr
    obtain ⟨_, rfl⟩ := hr
    exact ⟨by simp [RS.fail], by simp [RS.fail]⟩
  · rename_i hl
    rw [Prod.mk.injEq] at hr
    obtain ⟨rfl, rfl⟩ := hr
    have hlen : (r.src.take 16).length = 16 := by rw [List.length_take]; omega
    refine ⟨by simp, fun hb => ⟨hb, by rw [e]; omega, by rw [e, hlen, List.length_drop]; omega, fun rest => ⟨.s (r.src.take 16), ?_, rfl⟩⟩⟩
    generalize r.src.take 16 = o at hlen
    rw [e, er, if_neg (by rw [List.length_append]; omega)]
    simp only
    rw [List.take_append_of_le_length (by omega), List.take_of_length_le (by omega), List.drop_append_of_le_length (by omega), List.drop_of_length_le (by omega)]
    rfl

theorem pf_ok : ∀ p : PF, PfOk p
  | .bool => pf_bool
  | .i8 => pf_num (k := 1) (by omega) (fun _ => rfl) (fun _ => rfl)
  | .i16 => pf_num (k := 2) (by omega) (fun _ => rfl) (fun _ => rfl)
  | .i32 => pf_num (k := 4) (by omega) (fun _ => rfl) (fun _ => rfl)
  | .i64 => pf_num (k := 8) (by omega) (fun _ => rfl) (fun _ => rfl)
  | .u16 => pf_u16
  | .uuid => pf_uuid
  | .str => pf_txt (.inl rfl)
  | .cstr => pf_txt (.inr rfl)
  | .nstr => pf_nstr
  | .cnstr => pf_cnstr
  | .bytes => pf_bytes
  | .cbytes => pf_cbytes
  | .nbytes => pf_nbytes
  | .cnbytes => pf_cnbytes

theorem rw_pf (p : PF) : RW (fun r => .ok (p.run r).1 (p.run r).2) p.wr := by
  have key : ∀ r v r', Out.ok (p.run r).1 (p.run r).2 = Out.ok v r' → r'.src.length ≤ r.src.length ∧ (r'.bad = false → r.bad = false ∧ 0 < (p.wr v).length ∧ (p.wr v).length + r'.src.length ≤ r.src.length ∧
      ∀ rest, ∃ v', p.run ⟨p.wr v ++ rest, false, false⟩ = (v', ⟨rest, false, false⟩) ∧ p.wr v' = p.wr v) := fun r v r' h => by
    injection h with h1 h2
    exact pf_ok p r v r' (Prod.ext h1 h2)
  refine ⟨fun r v r' h hb => ((key r v r' h).2 hb).1, fun r v r' h => (key r v r' h).1, fun r v r' h hb => ((key r v r' h).2 hb).2.2.1, fun r v r' h hb rest nl hnl _ => ?_, fun r _ h => by cases h⟩
  obtain ⟨_, h1, _, h2⟩ := (key r v r' h).2 hb
  have hnl' : nl = false := by
    cases nl with
    | false => rfl
    | true =>
      have := hnl rfl
      rw [List.append_eq_nil_iff] at this
      rw [this.1] at h1
      simp at h1
  subst hnl'
  obtain ⟨v', h3, h4⟩ := h2 rest
  exact ⟨v', by simp only [h3], h4⟩
/-- each value of such a kind takes an octet -/
theorem pf_pos {p : PF} {r r' : RS} {v : V} (h : p.run r = (v, r')) (hb : r'.bad = false) : 0 < (p.wr v).length := ((pf_ok p r v r' h).2 hb).2.1

end Go.Proofs.YthbkpckkfhejbaaDoor.Kx

/-
  THE PLAIN LAW, 3: tags, counts, lists, parts, whole messages.
-/
namespace Go.Proofs.YthbkpckkfhejbaaDoor.Kx

/-! ## Tags -/
def TagOk (p : Nat × Bs) : Prop := p.1 < 4294967296 ∧ p.2.length < 4294967296
theorem wTags_cons (p : Nat × Bs) (t : List (Nat × Bs)) : wTags (p :: t) = wTag p ++ wTags t := rfl
theorem wTag_len (p : Nat × Bs) : (wTag p).length = (uvar p.1).length + ((uvar (w32 p.2.length)).length + p.2.length) := by simp [wTag]
theorem setTag_mem (k : Nat) (v : Bs) : ∀ (t : List (Nat × Bs)), ∀ y ∈ setTag k v t, y = (k, v) ∨ y ∈ t
  | [], y, hy => by simp [setTag] at hy; exact .inl hy
  | (j, u) :: r, y, hy => by
    unfold setTag at hy
    split at hy
    · rcases List.mem_cons.1 hy with rfl | hy
      · exact .inl rfl
      · exact .inr hy
    · split at hy
      · rcases List.mem_cons.1 hy with rfl | hy
        · exact .inl rfl
        · exact .inr (List.mem_cons_of_mem _ hy)
      · rcases List.mem_cons.1 hy with rfl | hy
        · exact .inr (List.mem_cons_self ..)
        · rcases setTag_mem k v r y hy with h | h
          · exact .inl h
          · exact .inr (List.mem_cons_of_mem _ h)
theorem setTag_len (k : Nat) (v : Bs) : ∀ (t : List (Nat × Bs)), (setTag k v t).length ≤ t.length + 1 ∧ (wTags (setTag k v t)).length ≤ (wTags t).length + (wTag (k, v)).length
  | [] => by simp [setTag, wTags]
  | (j, u) :: r => by
    have ih := setTag_len k v r
    unfold setTag
    split
    · simp only [wTags_cons, List.length_append, List.length_cons]; omega
    · split
      · simp only [wTags_cons, List.length_append, List.length_cons]; omega
      · simp only [wTags_cons, List.length_append, List.length_cons]; omega
theorem setTag_last (k : Nat) (v : Bs) : ∀ (t : List (Nat × Bs)), (∀ y ∈ t, y.1 < k) → setTag k v t = t ++ [(k, v)]
  | [], _ => rfl
  | (j, u) :: r, h => by
    have hj := h (j, u) (List.mem_cons_self ..)
    simp only at hj
    unfold setTag
    rw [if_neg (by omega), if_neg (by omega), setTag_last k v r fun y hy => h y (List.mem_cons_of_mem _ hy)]
    rfl

theorem rTags_spec : ∀ (n : Nat) (acc : List (Nat × Bs)) (r : RS), (rTags n acc r).2.src.length ≤ r.src.length ∧ ((rTags n acc r).2.bad = false → r.bad = false ∧ (wTags (rTags n acc r).1).length + (rTags n acc r).2.src.length ≤ (wTags acc).length + r.src.length ∧
    (rTags n acc r).1.length ≤ acc.length + n ∧ (Rising acc → Rising (rTags n acc r).1) ∧ ((∀ y ∈ acc, TagOk y) → ∀ y ∈ (rTags n acc r).1, TagOk y))
  | 0, acc, r => ⟨Nat.le_refl _, fun hb => ⟨hb, Nat.le_refl _, Nat.le_refl _, id, id⟩⟩
  | n + 1, acc, r => by
    have h1 := rUv_spec r
    have h2 := rUv_spec (rUv r).2
    have h3 := rSpan_spec (rUv (rUv r).2).1 (rUv (rUv r).2).2
    have ih := rTags_spec n (setTag (rUv r).1 (rSpan (rUv (rUv r).2).1 (rUv (rUv r).2).2).1.octets acc) (rSpan (rUv (rUv r).2).1 (rUv (rUv r).2).2).2
    simp only [rTags]
    refine ⟨by omega, fun hb => ?_⟩
    obtain ⟨b3, l3, n3, r3, t3⟩ := ih.2 hb
    obtain ⟨b2, k0, o1, o2, _, _⟩ := h3.2 b3
    obtain ⟨b1, c1, _⟩ := h2.2.2 b2
    obtain ⟨b0, c0, _⟩ := h1.2.2 b1
    have hset := setTag_len (rUv r).1 (rSpan (rUv (rUv r).2).1 (rUv (rUv r).2).2).1.octets acc
    have hw := wTag_len ((rUv r).1, (rSpan (rUv (rUv r).2).1 (rUv (rUv r).2).2).1.octets)
    have hw32 : w32 (rSpan (rUv (rUv r).2).1 (rUv (rUv r).2).2).1.octets.length = (rSpan (rUv (rUv r).2).1 (rUv (rUv r).2).2).1.octets.length := by simp only [w32]; omega
    simp only [hw32] at hw
    have hm := uvar_mono (x := (rSpan (rUv (rUv r).2).1 (rUv (rUv r).2).2).1.octets.length) (y := (rUv (rUv r).2).1) (by omega) h2.1
    refine ⟨b0, by omega, by omega, fun hr => r3 (setTag_rising _ _ _ hr), fun ht => t3 fun y hy => ?_⟩
    rcases setTag_mem _ _ _ y hy with rfl | hy
    · exact ⟨h1.1, by show (rSpan (rUv (rUv r).2).1 (rUv (rUv r).2).2).1.octets.length < _; omega⟩
    · exact ht y hy

theorem rising_pw : ∀ {l : List (Nat × Bs)}, Rising l → l.Pairwise fun a b => a.1 < b.1
  | [], _ => List.Pairwise.nil
  | x :: l, h => List.Pairwise.cons (rising_lt h) (rising_pw (rising_tail h))
theorem rTags_again : ∀ (t acc : List (Nat × Bs)) (rest : Bs), (acc ++ t).Pairwise (fun a b => a.1 < b.1) → (∀ y ∈ t, TagOk y) → rTags t.length acc ⟨wTags t ++ rest, false, false⟩ = (acc ++ t, ⟨rest, false, false⟩)
  | [], acc, rest, _, _ => by simp [rTags, wTags]
  | (k, v) :: t, acc, rest, hp, hok => by
    have hkv := hok (k, v) (List.mem_cons_self ..)
    have hv32 : v.length < 4294967296 := hkv.2
    have hw32 : w32 v.length = v.length := by simp only [w32]; omega
    have e1 : wTags ((k, v) :: t) ++ rest = uvar k ++ (uvar v.length ++ (v ++ (wTags t ++ rest))) := by simp [wTags_cons, wTag, hw32, List.append_assoc]
    have hlast : setTag k v acc = acc ++ [(k, v)] := setTag_last k v acc fun y hy => (List.pairwise_append.1 hp).2.2 y hy (k, v) (List.mem_cons_self ..)
    show rTags (t.length + 1) acc _ = _
    simp only [rTags]
    rw [e1, rUv_uvar hkv.1, rUv_uvar hkv.2, rSpan_app' v _ _ rfl]
    show rTags t.length (setTag k v acc) ⟨wTags t ++ rest, false, false⟩ = _
    rw [hlast, rTags_again t (acc ++ [(k, v)]) rest (by simpa using hp) fun y hy => hok y (List.mem_cons_of_mem _ hy)]
    simp

/-! ## Counts -/
theorem wCnt_t (n : Nat) : wCnt true n = uvar (w32 (n + 1)) := rfl
theorem rLen_spec (fx : Bool) (r : RS) : (rLen fx r).2.src.length ≤ r.src.length ∧ ((rLen fx r).2.bad = false → r.bad = false ∧ (rLen fx r).1 < 2147483648 ∧ (rLen fx r).1 ≤ (rLen fx r).2.src.length ∧ (wNull fx 4).length + (rLen fx r).2.src.length ≤ r.src.length ∧ (wCnt fx 0).length + (rLen fx r).2.src.length ≤ r.src.length ∧
    (0 < (rLen fx r).1 → (wCnt fx (rLen fx r).1.toNat).length + (rLen fx r).2.src.length ≤ r.src.length)) := by
  cases fx with
  | true =>
    have h := rUv_spec r
    unfold rLen
    simp only [if_true]
    split
    · simp [RS.fail]
    · rename_i hn
      refine ⟨h.2.1, fun hb => ?_⟩
      obtain ⟨b0, c0, _⟩ := h.2.2 hb
      have hp := uvar_pos (rUv r).1
      have e0 : (wNull true 4).length = 1 := rfl
      have e1 : (wCnt true 0).length = 1 := rfl
      simp only at hn ⊢
      have hlt : wrap32 (wrap32 ((rUv r).1 : Int) - 1) < 2147483648 := by simp only [wrap32]; omega
      refine ⟨b0, hlt, by omega, by omega, by omega, fun hpos => ?_⟩
      have hu : (wrap32 (wrap32 ((rUv r).1 : Int) - 1)).toNat + 1 = (rUv r).1 := by
        have := h.1
        simp only [wrap32] at hpos ⊢
        omega
      have e2 : wCnt true (wrap32 (wrap32 ((rUv r).1 : Int) - 1)).toNat = uvar (rUv r).1 := by
        rw [wCnt_t, hu]
        have : w32 (rUv r).1 = (rUv r).1 := by simp only [w32]; have := h.1; omega
        rw [this]
      rw [e2]; exact c0
  | false =>
    have h := rI_spec 4 r
    have hr := rI_rng (k := 4) (by omega) r
    simp only [Nat.reduceMul, Nat.reduceSub, Int.reducePow] at hr
    unfold rLen
    simp only [Bool.false_eq_true, if_false]
    split
    · simp [RS.fail]
    · rename_i hn
      refine ⟨h.1, fun hb => ?_⟩
      obtain ⟨b0, c0, _⟩ := h.2 hb
      have e0 : (wNull false 4).length = 4 := be_length 4 _
      have e1 : ∀ n, (wCnt false n).length = 4 := fun n => be_length 4 _
      have e2 := e1 (rI 4 r).1.toNat
      have e3 := e1 0
      exact ⟨b0, hr.2, by omega, by omega, by omega, fun _ => by omega⟩
theorem rLen_cnt (fx : Bool) {n : Nat} (hn : n < 2147483648) (rest : Bs) (hr : n ≤ rest.length) : rLen fx ⟨wCnt fx n ++ rest, false, false⟩ = ((n : Int), ⟨rest, false, false⟩) := by
  cases fx with
  | true =>
    have e : wCnt true n = uvar (n + 1) := by
      rw [wCnt_t]
      have : w32 (n + 1) = n + 1 := by simp only [w32]; omega
      rw [this]
    have hw : wrap32 (wrap32 ((n + 1 : Nat) : Int) - 1) = (n : Int) := by simp only [wrap32]; omega
    unfold rLen
    simp only [if_true]
    rw [e, rUv_uvar (by omega)]
    simp only [hw]
    rw [if_neg (by omega)]
  | false =>
    unfold rLen
    simp only [Bool.false_eq_true, if_false]
    have e : wCnt false n = be 4 (n : Nat) := rfl
    rw [e, rI_be (k := 4) (by omega) (by simp only [Nat.reduceMul, Nat.reduceSub, Int.reducePow]; omega)]
    simp only
    rw [if_neg (by omega)]
theorem rLen_null (fx : Bool) (rest : Bs) : rLen fx ⟨wNull fx 4 ++ rest, false, false⟩ = (-1, ⟨rest, false, false⟩) := by
  cases fx with
  | true =>
    have e : wNull true 4 = uvar 0 := rfl
    unfold rLen
    simp only [if_true]
    rw [e, rUv_uvar (by omega)]
    have hw : wrap32 (wrap32 ((0 : Nat) : Int) - 1) = -1 := by simp only [wrap32]; omega
    simp only [hw]
    rw [if_neg (by omega)]
  | false =>
    unfold rLen
    simp only [Bool.false_eq_true, if_false]
    have e : wNull false 4 = be 4 (-1) := rfl
    rw [e, rI_m1 (.inr rfl)]
    simp only
    rw [if_neg (by omega)]
theorem wCnt_pos (fx : Bool) (n : Nat) : 0 < (wCnt fx n).length := by
  cases fx with
  | true => exact uvar_pos _
  | false => rw [show wCnt false n = be 4 (n : Nat) from rfl, be_length]; omega
theorem wNull_pos (fx : Bool) : 0 < (wNull fx 4).length := by
  cases fx with
  | true => exact uvar_pos 0
  | false => rw [show wNull false 4 = be 4 (-1) from rfl, be_length]; omega

/-! ## So many things -/
def Pos (f : RS → Out V) (w : V → Bs) : Prop := ∀ r v r', f r = .ok v r' → r'.bad = false → 0 < (w v).length
theorem bind_ok {α β : Type} {x : Out α} {f : α → RS → Out β} {b : β} {r' : RS} (h : x.bind f = .ok b r') : ∃ a r, x = .ok a r ∧ f a r = .ok b r' := by
  cases x with
  | ok a r => exact ⟨a, r, rfl, h⟩
  | err => cases h
  | stuck => cases h
theorem rw_many {f : RS → Out V} {w : V → Bs} (hf : RW f w) (hp : Pos f w) : ∀ (n : Nat), RW (rMany f n) (wMany w) ∧ (∀ r vs r', rMany f n r = .ok vs r' → vs.length = n ∧ (r'.bad = false → n ≤ (wMany w vs).length))
  | 0 => by
    have key : ∀ r vs r', rMany f 0 r = .ok vs r' → vs = [] ∧ r' = r := fun r vs r' h => by
      simp only [rMany, Out.ok.injEq] at h
      exact ⟨h.1.symm, h.2.symm⟩
    refine ⟨⟨fun r v r' h hb => ?_, fun r v r' h => ?_, fun r v r' h hb => ?_, fun r v r' h hb rest nl _ _ => ?_, fun r _ h => by cases h⟩, fun r vs r' h => ?_⟩ <;> obtain ⟨rfl, rfl⟩ := key _ _ _ h
    · exact hb
    · exact Nat.le_refl _
    · simp [wMany]
    · exact ⟨[], rfl, rfl⟩
    · exact ⟨rfl, fun _ => by simp⟩
  | n + 1 => by
    obtain ⟨ih, ihl⟩ := rw_many hf hp n
    have key : ∀ r vs r', rMany f (n + 1) r = .ok vs r' → ∃ v r1 vs', f r = .ok v r1 ∧ rMany f n r1 = .ok vs' r' ∧ vs = v :: vs' := fun r vs r' h => by
      simp only [rMany] at h
      obtain ⟨v, r1, h1, h2⟩ := bind_ok h
      obtain ⟨vs', r2, h3, h4⟩ := bind_ok h2
      simp only [Out.ok.injEq] at h4
      obtain ⟨rfl, rfl⟩ := h4
      exact ⟨v, r1, vs', h1, h3, rfl⟩
    have hw : ∀ v vs', wMany w (v :: vs') = w v ++ wMany w vs' := fun _ _ => rfl
    refine ⟨⟨fun r vs r' h hb => ?_, fun r vs r' h => ?_, fun r vs r' h hb => ?_, fun r vs r' h hb rest nl hnl hbig => ?_, fun r hr h => ?_⟩, fun r vs r' h => ?_⟩
    · obtain ⟨v, r1, vs', h1, h2, rfl⟩ := key _ _ _ h
      exact hf.bad _ _ _ h1 (ih.bad _ _ _ h2 hb)
    · obtain ⟨v, r1, vs', h1, h2, rfl⟩ := key _ _ _ h
      exact Nat.le_trans (ih.le _ _ _ h2) (hf.le _ _ _ h1)
    · obtain ⟨v, r1, vs', h1, h2, rfl⟩ := key _ _ _ h
      have a := hf.len _ _ _ h1 (ih.bad _ _ _ h2 hb)
      have b := ih.len _ _ _ h2 hb
      rw [hw, List.length_append]; omega
    · obtain ⟨v, r1, vs', h1, h2, rfl⟩ := key _ _ _ h
      rw [hw, List.append_assoc] at hnl hbig
      obtain ⟨v2, h3, h4⟩ := hf.again _ _ _ h1 (ih.bad _ _ _ h2 hb) (wMany w vs' ++ rest) nl hnl hbig
      rw [List.length_append] at hbig
      obtain ⟨vs2, h5, h6⟩ := ih.again _ _ _ h2 hb rest nl (fun hh => (List.append_eq_nil_iff.1 (hnl hh)).2) (by omega)
      refine ⟨v2 :: vs2, ?_, by rw [hw, hw, h4, h6]⟩
      rw [hw, List.append_assoc]
      simp only [rMany, h3, Out.bind, h5]
    · simp only [rMany] at h
      cases hv : f r with
      | err => rw [hv] at h; cases h
      | stuck => exact hf.go r hr hv
      | ok v r1 =>
        rw [hv] at h
        simp only [Out.bind] at h
        have := hf.le _ _ _ hv
        cases hvs : rMany f n r1 with
        | err => rw [hvs] at h; cases h
        | stuck => exact ih.go r1 (by omega) hvs
        | ok vs r2 => rw [hvs] at h; cases h
    · obtain ⟨v, r1, vs', h1, h2, rfl⟩ := key _ _ _ h
      have a := ihl _ _ _ h2
      refine ⟨by simp [a.1], fun hb => ?_⟩
      have b := a.2 hb
      have c := hp _ _ _ h1 (ih.bad _ _ _ h2 hb)
      rw [hw, List.length_append]; omega

end Go.Proofs.YthbkpckkfhejbaaDoor.Kx

/-
  THE PLAIN LAW, 4: lists, parts, every plan without known tags; whole messages.
-/
namespace Go.Proofs.YthbkpckkfhejbaaDoor.Kx

theorem nl_false {l rest : Bs} {nl : Bool} (h : nl = true → l ++ rest = []) (hl : 0 < l.length) : nl = false := by
  cases nl with
  | false => rfl
  | true =>
    have := (List.append_eq_nil_iff.1 (h rfl)).1
    rw [this] at hl
    simp at hl

theorem rw_list {fx : Bool} {ver : Int} {nul : Option Nat} {esz : Nat} {e : Ty} {old : V} (hold : old.isNul = true) (hesz : esz ≤ 100000) (he : RW (rdTy fx ver e (dfTy 0 e)) (wrTy fx ver e)) (hp : Pos (rdTy fx ver e (dfTy 0 e)) (wrTy fx ver e)) :
    RW (rdTy fx ver (.list nul esz e) old) (wrTy fx ver (.list nul esz e)) ∧ Pos (rdTy fx ver (.list nul esz e) old) (wrTy fx ver (.list nul esz e)) := by
  have er : ∀ r, rdTy fx ver (.list nul esz e) old r = if (rLen fx r).2.bad then .err else if !roomy (rLen fx r).1 esz then .stuck else
      if (rLen fx r).1 ≤ 0 then .ok (if nul.isSome && (decide ((rLen fx r).1 = 0) || !nullable nul ver) then .l [] else .nul) (rLen fx r).2
      else (rMany (rdTy fx ver e (dfTy 0 e)) (rLen fx r).1.toNat (rLen fx r).2).bind fun vs r => .ok (.l vs) r := fun r => by simp only [rdTy, hold, Bool.not_true, Bool.false_eq_true, if_false]
  have ew : ∀ v, wrTy fx ver (.list nul esz e) v = (if nul.isSome && v.isNul then wNull fx 4 else wCnt fx v.list.length) ++ wMany (wrTy fx ver e) v.list := fun v => by simp only [wrTy]
  have ew0 : wrTy fx ver (.list nul esz e) (.l []) = wCnt fx 0 := by rw [ew]; simp [V.isNul, V.list, wMany]
  have ewn : wrTy fx ver (.list nul esz e) .nul = if nul.isSome then wNull fx 4 else wCnt fx 0 := by rw [ew]; simp [V.isNul, V.list, wMany]
  have ewl : ∀ vs, wrTy fx ver (.list nul esz e) (.l vs) = wCnt fx vs.length ++ wMany (wrTy fx ver e) vs := fun vs => by rw [ew]; simp [V.isNul, V.list]
  have roomyB : ∀ (L : Int), L ≤ BIG → roomy L esz = true := fun L hL => by
    simp only [roomy, decide_eq_true_eq]
    simp only [BIG] at hL
    have h1 : (8 * (esz : Int) + 8) ≤ 800008 := by omega
    by_cases h0 : L ≤ 0
    · have : L * (8 * (esz : Int) + 8) ≤ 0 := Int.mul_nonpos_of_nonpos_of_nonneg h0 (by omega)
      omega
    · have h2 : L * (8 * (esz : Int) + 8) ≤ 33554432 * 800008 := Int.mul_le_mul hL h1 (by omega) (by omega)
      omega
  have key : ∀ r v r', rdTy fx ver (.list nul esz e) old r = .ok v r' → (rLen fx r).2.bad = false ∧ (((rLen fx r).1 ≤ 0 ∧ r' = (rLen fx r).2 ∧ v = if nul.isSome && (decide ((rLen fx r).1 = 0) || !nullable nul ver) then .l [] else .nul) ∨
      (0 < (rLen fx r).1 ∧ ∃ vs, rMany (rdTy fx ver e (dfTy 0 e)) (rLen fx r).1.toNat (rLen fx r).2 = .ok vs r' ∧ v = .l vs)) := fun r v r' h => by
    rw [er] at h
    split at h
    · cases h
    · rename_i hb
      refine ⟨by simpa using hb, ?_⟩
      split at h
      · cases h
      · split at h
        · rename_i hL
          simp only [Out.ok.injEq] at h
          exact .inl ⟨hL, h.2.symm, h.1.symm⟩
        · rename_i hL
          obtain ⟨vs, r1, h1, h2⟩ := bind_ok h
          simp only [Out.ok.injEq] at h2
          obtain ⟨rfl, rfl⟩ := h2
          exact .inr ⟨by omega, vs, h1, rfl⟩
  have pos : Pos (rdTy fx ver (.list nul esz e) old) (wrTy fx ver (.list nul esz e)) := fun r v r' h hb => by
    rw [ew, List.length_append]
    have a := wNull_pos fx
    have b := wCnt_pos fx v.list.length
    split <;> omega
  refine ⟨⟨fun r v r' h hb => ?_, fun r v r' h => ?_, fun r v r' h hb => ?_, fun r v r' h hb rest nl hnl hbig => ?_, fun r hr h => ?_⟩, pos⟩
  · obtain ⟨hb1, _⟩ := key _ _ _ h
    exact ((rLen_spec fx r).2 hb1).1
  · obtain ⟨hb1, h1 | ⟨hL, vs, h1, rfl⟩⟩ := key _ _ _ h
    · rw [h1.2.1]; exact (rLen_spec fx r).1
    · exact Nat.le_trans ((rw_many he hp _).1.le _ _ _ h1) (rLen_spec fx r).1
  · obtain ⟨hb1, h1 | ⟨hL, vs, h1, rfl⟩⟩ := key _ _ _ h
    · obtain ⟨_, rfl, rfl⟩ := h1
      obtain ⟨_, _, _, h4, h5, _⟩ := (rLen_spec fx r).2 hb1
      split
      · rw [ew0]; exact h5
      · rw [ewn]; split
        · exact h4
        · exact h5
    · obtain ⟨_, _, _, _, _, h6⟩ := (rLen_spec fx r).2 hb1
      have a := (rw_many he hp _).1.len _ _ _ h1 hb
      have b := ((rw_many he hp _).2 _ _ _ h1).1
      have c := h6 hL
      rw [ewl, b, List.length_append]; omega
  · have hnlf := nl_false hnl (pos r v r' h hb)
    subst hnlf
    obtain ⟨hb1, h1 | ⟨hL, vs, h1, rfl⟩⟩ := key _ _ _ h
    · obtain ⟨hL, rfl, rfl⟩ := h1
      have cnt : rdTy fx ver (.list nul esz e) old ⟨wCnt fx 0 ++ rest, false, false⟩ = .ok (if nul.isSome then .l [] else .nul) ⟨rest, false, false⟩ := by
        rw [er, rLen_cnt fx (n := 0) (by omega) rest (by omega)]
        simp only [Bool.false_eq_true, if_false, roomyB ((0 : Nat) : Int) (by simp [BIG]), Bool.not_true]
        simp
      by_cases hc : (nul.isSome && (decide ((rLen fx r).1 = 0) || !nullable nul ver)) = true
      · rw [if_pos hc]
        have hs : nul.isSome = true := by
          simp only [Bool.and_eq_true] at hc
          exact hc.1
        exact ⟨.l [], by rw [ew0, cnt, if_pos hs], rfl⟩
      · rw [if_neg hc]
        by_cases hs : nul.isSome = true
        · have hc2 : nullable nul ver = true ∧ (rLen fx r).1 ≠ 0 := by
            simp only [hs, Bool.true_and, Bool.or_eq_true, decide_eq_true_eq, Bool.not_eq_true', not_or] at hc
            exact ⟨by simpa using hc.2, hc.1⟩
          refine ⟨.nul, ?_, rfl⟩
          rw [ewn, if_pos hs, er, rLen_null fx rest]
          simp only [Bool.false_eq_true, if_false, roomyB (-1) (by simp [BIG]), Bool.not_true, hc2.1]
          simp
        · exact ⟨.nul, by rw [ewn, if_neg hs, cnt, if_neg hs], rfl⟩
    · obtain ⟨_, hlt, _, _, _, _⟩ := (rLen_spec fx r).2 hb1
      obtain ⟨hlen, hge⟩ := (rw_many he hp _).2 _ _ _ h1
      have hge' := hge hb
      rw [ewl, List.append_assoc, List.length_append] at hbig
      have hroom : vs.length ≤ (wMany (wrTy fx ver e) vs ++ rest).length := by rw [List.length_append]; omega
      obtain ⟨vs2, h2, h3⟩ := (rw_many he hp _).1.again _ _ _ h1 hb rest false (by simp) (by omega)
      have hlen2 := ((rw_many he hp _).2 _ _ _ h2).1
      refine ⟨.l vs2, ?_, by rw [ewl, ewl, h3, hlen, hlen2]⟩
      rw [ewl, List.append_assoc, er, rLen_cnt fx (n := vs.length) (by omega) _ hroom]
      simp only [Bool.false_eq_true, if_false, roomyB ((vs.length : Nat) : Int) (by omega), Bool.not_true]
      rw [if_neg (by omega)]
      simp only [Int.toNat_natCast]
      rw [hlen, h2]
      rfl
  · rw [er] at h
    split at h
    · cases h
    · rename_i hb
      obtain ⟨_, _, hle, _⟩ := (rLen_spec fx r).2 (by simpa using hb)
      have hl2 := (rLen_spec fx r).1
      rw [roomyB _ (by omega)] at h
      simp only [Bool.not_true, Bool.false_eq_true, if_false] at h
      split at h
      · cases h
      · cases hv : rMany (rdTy fx ver e (dfTy 0 e)) (rLen fx r).1.toNat (rLen fx r).2 with
        | err => rw [hv] at h; cases h
        | stuck => exact (rw_many he hp _).1.go _ (by omega) hv
        | ok vs r2 => rw [hv] at h; cases h

/-- a part without known tags -/
theorem rw_st {fx : Bool} {fields : RS → Out (List V)} {tag : Nat → Option (List V → RS → Out (List V))} {wF : List V → Bs} (hf : RW fields wF) : RW (rdStOf fx false fields tag) (fun v => wF v.fields ++ wTagsC fx v.tags) := by
  have er : ∀ r, rdStOf fx false fields tag r = (fields r).bind fun vs r => if fx then .ok (.st vs (rTags (rUv r).1 [] (rUv r).2).1) (rTags (rUv r).1 [] (rUv r).2).2 else .ok (.st vs []) r := fun r => by
    simp only [rdStOf, Bool.false_eq_true, if_false]
    cases fx <;> rfl
  cases fx with
  | false =>
    have key : ∀ r v r', rdStOf false false fields tag r = .ok v r' → ∃ vs, fields r = .ok vs r' ∧ v = .st vs [] := fun r v r' h => by
      rw [er] at h
      obtain ⟨vs, r1, h1, h2⟩ := bind_ok h
      simp only [Bool.false_eq_true, if_false, Out.ok.injEq] at h2
      obtain ⟨rfl, rfl⟩ := h2
      exact ⟨vs, h1, rfl⟩
    have ew : ∀ vs, wF (V.st vs []).fields ++ wTagsC false (V.st vs []).tags = wF vs := fun vs => by simp [V.fields, wTagsC]
    refine ⟨fun r v r' h hb => ?_, fun r v r' h => ?_, fun r v r' h hb => ?_, fun r v r' h hb rest nl hnl hbig => ?_, fun r hr h => ?_⟩
    · obtain ⟨vs, h1, rfl⟩ := key _ _ _ h; exact hf.bad _ _ _ h1 hb
    · obtain ⟨vs, h1, rfl⟩ := key _ _ _ h; exact hf.le _ _ _ h1
    · obtain ⟨vs, h1, rfl⟩ := key _ _ _ h; simp only [ew]; exact hf.len _ _ _ h1 hb
    · obtain ⟨vs, h1, rfl⟩ := key _ _ _ h
      simp only [ew] at hnl hbig ⊢
      obtain ⟨vs2, h2, h3⟩ := hf.again _ _ _ h1 hb rest nl hnl hbig
      refine ⟨.st vs2 [], ?_, by simp only [ew]; exact h3⟩
      rw [er, h2]
      rfl
    · rw [er] at h
      cases hv : fields r with
      | err => rw [hv] at h; cases h
      | stuck => exact hf.go r hr hv
      | ok vs r1 => rw [hv] at h; cases h
  | true =>
    have key : ∀ r v r', rdStOf true false fields tag r = .ok v r' → ∃ vs r1, fields r = .ok vs r1 ∧ v = .st vs (rTags (rUv r1).1 [] (rUv r1).2).1 ∧ r' = (rTags (rUv r1).1 [] (rUv r1).2).2 := fun r v r' h => by
      rw [er] at h
      obtain ⟨vs, r1, h1, h2⟩ := bind_ok h
      simp only [if_true, Out.ok.injEq] at h2
      obtain ⟨rfl, rfl⟩ := h2
      exact ⟨vs, r1, h1, rfl, rfl⟩
    have tg : ∀ r1 : RS, (rTags (rUv r1).1 [] (rUv r1).2).2.bad = false → r1.bad = false ∧ (uvar (w32 (rTags (rUv r1).1 [] (rUv r1).2).1.length)).length + (wTags (rTags (rUv r1).1 [] (rUv r1).2).1).length + (rTags (rUv r1).1 [] (rUv r1).2).2.src.length ≤ r1.src.length ∧
        w32 (rTags (rUv r1).1 [] (rUv r1).2).1.length = (rTags (rUv r1).1 [] (rUv r1).2).1.length ∧ (rTags (rUv r1).1 [] (rUv r1).2).1.length < 4294967296 ∧ Rising (rTags (rUv r1).1 [] (rUv r1).2).1 ∧ ∀ y ∈ (rTags (rUv r1).1 [] (rUv r1).2).1, TagOk y := fun r1 hb => by
      have h1 := rUv_spec r1
      obtain ⟨b1, l1, n1, r2, t2⟩ := (rTags_spec (rUv r1).1 [] (rUv r1).2).2 hb
      obtain ⟨b0, c0, _⟩ := h1.2.2 b1
      have hw : w32 (rTags (rUv r1).1 [] (rUv r1).2).1.length = (rTags (rUv r1).1 [] (rUv r1).2).1.length := by
        simp only [List.length_nil] at n1
        simp only [w32]; have := h1.1; omega
      have hm := uvar_mono (x := (rTags (rUv r1).1 [] (rUv r1).2).1.length) (y := (rUv r1).1) (by simpa using n1) h1.1
      have e0 : (wTags []).length = 0 := rfl
      simp only [List.length_nil] at n1
      exact ⟨b0, by rw [hw]; omega, hw, by have := h1.1; omega, r2 trivial, t2 (by simp)⟩
    have ew : ∀ vs t, wF (V.st vs t).fields ++ wTagsC true (V.st vs t).tags = wF vs ++ (uvar (w32 t.length) ++ wTags t) := fun vs t => by simp [V.fields, V.tags, wTagsC]
    refine ⟨fun r v r' h hb => ?_, fun r v r' h => ?_, fun r v r' h hb => ?_, fun r v r' h hb rest nl hnl hbig => ?_, fun r hr h => ?_⟩
    · obtain ⟨vs, r1, h1, rfl, rfl⟩ := key _ _ _ h; exact hf.bad _ _ _ h1 (tg r1 hb).1
    · obtain ⟨vs, r1, h1, rfl, rfl⟩ := key _ _ _ h
      exact Nat.le_trans (rTags_spec _ _ _).1 (Nat.le_trans (rUv_spec r1).2.1 (hf.le _ _ _ h1))
    · obtain ⟨vs, r1, h1, rfl, rfl⟩ := key _ _ _ h
      obtain ⟨b1, c1, _⟩ := tg r1 hb
      have a := hf.len _ _ _ h1 b1
      simp only [ew, List.length_append]; omega
    · obtain ⟨vs, r1, h1, rfl, rfl⟩ := key _ _ _ h
      obtain ⟨b1, c1, hw, hlt, hris, hok⟩ := tg r1 hb
      simp only [ew] at hnl hbig ⊢
      generalize (rTags (rUv r1).1 [] (rUv r1).2).1 = t at hw hlt hris hok hnl hbig ⊢
      have hnlf : nl = false := by
        cases nl with
        | false => rfl
        | true =>
          have := hnl rfl
          simp only [List.append_eq_nil_iff] at this
          have hp := uvar_pos (w32 t.length)
          rw [this.1.2.1] at hp
          simp at hp
      subst hnlf
      rw [List.append_assoc] at hbig
      obtain ⟨vs2, h2, h3⟩ := hf.again _ _ _ h1 b1 ((uvar (w32 t.length) ++ wTags t) ++ rest) false (by simp) hbig
      refine ⟨.st vs2 t, ?_, by simp only [ew]; rw [h3]⟩
      rw [List.append_assoc, er, h2]
      simp only [Out.bind, if_true]
      rw [List.append_assoc, hw, rUv_uvar hlt, rTags_again t [] rest (by simpa using rising_pw hris) hok]
      rfl
    · rw [er] at h
      cases hv : fields r with
      | err => rw [hv] at h; cases h
      | stuck => exact hf.go r hr hv
      | ok vs r1 => rw [hv] at h; cases h

/-! ## Plans -/
mutual
/-- each thing of the type takes an octet -/
def posTy (fx : Bool) (ver : Int) : Ty → Bool
  | .struct none _ fs => fx || posFds fx ver fs
  | _ => true
def posFds (fx : Bool) (ver : Int) : Fds → Bool
  | .nil => false
  | .cons lo hi tag _ _ ty r => (tag.isNone && has lo hi ver && posTy fx ver ty) || posFds fx ver r
end
mutual
def lawTy (fx : Bool) (ver : Int) : Ty → Bool
  | .prim _ => true
  | .str nul => nul == none || nul == some 0
  | .bytes nul => nul == none || nul == some 0
  | .list _ esz e => decide (esz ≤ 100000) && posTy fx ver e && lawTy fx ver e
  | .struct _ _ fs => lawFds fx ver fs
def lawFds (fx : Bool) (ver : Int) : Fds → Bool
  | .nil => true
  | .cons _ _ tag _ _ ty r => tag.isNone && lawTy fx ver ty && lawFds fx ver r
end
theorem lawFds_untagged (fx : Bool) (ver : Int) : ∀ fs : Fds, lawFds fx ver fs = true → fs.tagged = false
  | .nil, _ => rfl
  | .cons _ _ tag _ _ ty r, h => by
    simp only [lawFds, Bool.and_eq_true] at h
    have := lawFds_untagged fx ver r h.2
    simp only [Fds.tagged, this, Bool.or_false]
    cases tag with
    | none => rfl
    | some t => have := h.1.1; cases this
theorem null_ok {nul : Option Nat} (h : (nul == none || nul == some 0) = true) (ver : Int) : nullS nul ver = nul.isSome := by
  simp only [Bool.or_eq_true, beq_iff_eq] at h
  rcases h with rfl | rfl <;> simp [nullS]
theorem dfTy_nul (df : Int) (ty : Ty) : (dfTy df ty).isNul = true ∨ ty.leaf = true ∨ (∃ t fs, ty = .struct none t fs) := by
  cases ty with
  | prim p => exact .inr (.inl rfl)
  | str p => exact .inr (.inl rfl)
  | bytes p => exact .inr (.inl rfl)
  | list _ _ _ => exact .inl rfl
  | struct n t fs => cases n with
    | none => exact .inr (.inr ⟨t, fs, rfl⟩)
    | some _ => exact .inl rfl

mutual
theorem law_ty (fx : Bool) (ver : Int) : ∀ (ty : Ty) (df : Int), lawTy fx ver ty = true → RW (rdTy fx ver ty (dfTy df ty)) (wrTy fx ver ty) ∧ (posTy fx ver ty = true → Pos (rdTy fx ver ty (dfTy df ty)) (wrTy fx ver ty))
  | .prim p, df, _ => by
    have e1 : rdTy fx ver (.prim p) (dfTy df (.prim p)) = fun r => .ok ((primPF p).run r).1 ((primPF p).run r).2 := by funext r; simp only [rdTy]
    have e2 : wrTy fx ver (.prim p) = (primPF p).wr := by funext v; simp only [wrTy, leafPF]
    rw [e1, e2]
    exact ⟨rw_pf _, fun _ r v r' h hb => by injection h with h1 h2; exact pf_pos (Prod.ext h1 h2) hb⟩
  | .str nul, df, h => by
    have e1 : rdTy fx ver (.str nul) (dfTy df (.str nul)) = fun r => .ok ((strPF nul.isSome fx).run r).1 ((strPF nul.isSome fx).run r).2 := by funext r; simp only [rdTy, null_ok h]
    have e2 : wrTy fx ver (.str nul) = (strPF nul.isSome fx).wr := by funext v; simp only [wrTy, leafPF]
    rw [e1, e2]
    exact ⟨rw_pf _, fun _ r v r' h hb => by injection h with h1 h2; exact pf_pos (Prod.ext h1 h2) hb⟩
  | .bytes nul, df, h => by
    have e1 : rdTy fx ver (.bytes nul) (dfTy df (.bytes nul)) = fun r => .ok ((bytesPF nul.isSome fx).run r).1 ((bytesPF nul.isSome fx).run r).2 := by funext r; simp only [rdTy, null_ok h]
    have e2 : wrTy fx ver (.bytes nul) = (bytesPF nul.isSome fx).wr := by funext v; simp only [wrTy, leafPF]
    rw [e1, e2]
    exact ⟨rw_pf _, fun _ r v r' h hb => by injection h with h1 h2; exact pf_pos (Prod.ext h1 h2) hb⟩
  | .list nul esz e, df, h => by
    simp only [lawTy, Bool.and_eq_true, decide_eq_true_eq] at h
    obtain ⟨ih, ihp⟩ := law_ty fx ver e 0 h.2
    have := rw_list (nul := nul) (old := dfTy df (.list nul esz e)) rfl h.1.1 ih (ihp h.1.2)
    exact ⟨this.1, fun _ => this.2⟩
  | .struct none toff fs, df, h => by
    have hf : lawFds fx ver fs = true := h
    obtain ⟨ih, ihp⟩ := law_fds fx ver fs hf
    have ht := lawFds_untagged fx ver fs hf
    have e1 : rdTy fx ver (.struct none toff fs) (dfTy df (.struct none toff fs)) = rdStOf fx false (rdFds fx ver fs) (rdTag fx ver fs) := by funext r; simp only [rdTy, ht]
    have e2 : wrTy fx ver (.struct none toff fs) = fun v => wrFds fx ver fs v.fields ++ wTagsC fx v.tags := by funext v; simp only [wrTy]
    rw [e1, e2]
    refine ⟨rw_st ih, fun hp r v r' h hb => ?_⟩
    simp only [posTy, Bool.or_eq_true] at hp
    rw [List.length_append]
    rcases hp with rfl | hp
    · have : 0 < (wTagsC true v.tags).length := by
        simp only [wTagsC, if_true, List.length_append]
        have := uvar_pos (w32 v.tags.length); omega
      omega
    · simp only [rdStOf] at h
      obtain ⟨vs, r1, h1, h2⟩ := bind_ok h
      have hb1 : r1.bad = false ∧ v.fields = vs := by
        cases fx with
        | false =>
          simp only [Bool.not_false, if_true, Out.ok.injEq] at h2
          obtain ⟨rfl, rfl⟩ := h2
          exact ⟨hb, rfl⟩
        | true =>
          simp only [Bool.not_true, Bool.false_eq_true, if_false, Out.ok.injEq] at h2
          obtain ⟨rfl, rfl⟩ := h2
          have a := ((rTags_spec (rUv r1).1 [] (rUv r1).2).2 hb).1
          exact ⟨((rUv_spec r1).2.2 a).1, rfl⟩
      rw [hb1.2]
      have := ihp hp r vs r1 h1 hb1.1
      omega
  | .struct (some q) toff fs, df, h => by
    have hf : lawFds fx ver fs = true := h
    obtain ⟨ih, _⟩ := law_fds fx ver fs hf
    have ht := lawFds_untagged fx ver fs hf
    have hst := rw_st (fx := fx) (tag := rdTag fx ver fs) ih
    have e1 : ∀ r, rdTy fx ver (.struct (some q) toff fs) (dfTy df (.struct (some q) toff fs)) r = if (rI 1 r).1 = -1 ∨ (rI 1 r).2.bad = true then .ok .nul (rI 1 r).2 else rdStOf fx false (rdFds fx ver fs) (rdTag fx ver fs) (rI 1 r).2 := fun r => by
      simp only [rdTy, dfTy, V.isNul, Bool.not_true, Bool.false_eq_true, if_false, ht]
    have ewn : wrTy fx ver (.struct (some q) toff fs) .nul = [255] := by simp [wrTy, V.isNul]
    have ews : ∀ vs t, wrTy fx ver (.struct (some q) toff fs) (.st vs t) = 1 :: (wrFds fx ver fs (V.st vs t).fields ++ wTagsC fx (V.st vs t).tags) := fun vs t => by simp [wrTy, V.isNul]
    have sts : ∀ r v r', rdStOf fx false (rdFds fx ver fs) (rdTag fx ver fs) r = .ok v r' → ∃ vs t, v = .st vs t := fun r v r' h => by
      simp only [rdStOf] at h
      obtain ⟨vs, r1, _, h2⟩ := bind_ok h
      cases fx with
      | false => simp only [Bool.not_false, if_true, Out.ok.injEq] at h2; exact ⟨_, _, h2.1.symm⟩
      | true => simp only [Bool.not_true, Bool.false_eq_true, if_false, Out.ok.injEq] at h2; exact ⟨_, _, h2.1.symm⟩
    have pos : Pos (rdTy fx ver (.struct (some q) toff fs) (dfTy df (.struct (some q) toff fs))) (wrTy fx ver (.struct (some q) toff fs)) := fun r v r' h hb => by
      rw [e1] at h
      split at h
      · simp only [Out.ok.injEq] at h
        rw [← h.1, ewn]; simp
      · obtain ⟨vs, t, rfl⟩ := sts _ _ _ h
        rw [ews]; simp
    have hI := fun r => rI_spec 1 r
    have b255 : ∀ rest, rI 1 ⟨[255] ++ rest, false, false⟩ = (-1, ⟨rest, false, false⟩) := fun rest => by
      have e : be 1 (-1) = [255] := by decide
      rw [← e]
      exact rI_be (k := 1) (x := -1) (by omega) (by simp only [Nat.reduceMul, Nat.reduceSub, Int.reducePow]; omega) rest false
    have b1 : ∀ rest, rI 1 ⟨1 :: rest, false, false⟩ = (1, ⟨rest, false, false⟩) := fun rest => by
      have e : be 1 1 = [1] := by decide
      show rI 1 ⟨[1] ++ rest, false, false⟩ = _
      rw [← e]
      exact rI_be (k := 1) (x := 1) (by omega) (by simp only [Nat.reduceMul, Nat.reduceSub, Int.reducePow]; omega) rest false
    refine ⟨⟨fun r v r' h hb => ?_, fun r v r' h => ?_, fun r v r' h hb => ?_, fun r v r' h hb rest nl hnl hbig => ?_, fun r hr h => ?_⟩, fun _ => pos⟩
    · rw [e1] at h
      split at h
      · simp only [Out.ok.injEq] at h
        obtain ⟨_, rfl⟩ := h
        exact ((hI r).2 hb).1
      · exact ((hI r).2 (hst.bad _ _ _ h hb)).1
    · rw [e1] at h
      split at h
      · simp only [Out.ok.injEq] at h
        obtain ⟨_, rfl⟩ := h
        exact (hI r).1
      · exact Nat.le_trans (hst.le _ _ _ h) (hI r).1
    · rw [e1] at h
      split at h
      · simp only [Out.ok.injEq] at h
        obtain ⟨rfl, rfl⟩ := h
        have := ((hI r).2 hb).2.1
        rw [ewn]; simpa using this
      · obtain ⟨vs, t, rfl⟩ := sts _ _ _ h
        have a := hst.len _ _ _ h hb
        have b := ((hI r).2 (hst.bad _ _ _ h hb)).2.1
        rw [ews, List.length_cons]
        omega
    · have hnlf := nl_false hnl (pos r v r' h hb)
      subst hnlf
      rw [e1] at h
      split at h
      · simp only [Out.ok.injEq] at h
        obtain ⟨rfl, rfl⟩ := h
        exact ⟨.nul, by rw [ewn, e1, b255, if_pos (.inl rfl)], rfl⟩
      · obtain ⟨vs, t, rfl⟩ := sts _ _ _ h
        rw [ews, List.cons_append, List.length_cons] at hbig
        obtain ⟨v2, h2, h3⟩ := hst.again _ _ _ h hb rest false (by simp) (by omega)
        obtain ⟨vs2, t2, rfl⟩ := sts _ _ _ h2
        refine ⟨.st vs2 t2, ?_, by rw [ews, ews, h3]⟩
        rw [ews, List.cons_append, e1, b1, if_neg (by simp)]
        exact h2
    · rw [e1] at h
      split at h
      · cases h
      · exact hst.go _ (Nat.le_trans (hI r).1 hr) h
theorem law_fds (fx : Bool) (ver : Int) : ∀ (fs : Fds), lawFds fx ver fs = true → RW (rdFds fx ver fs) (wrFds fx ver fs) ∧ (posFds fx ver fs = true → ∀ r vs r', rdFds fx ver fs r = .ok vs r' → r'.bad = false → 0 < (wrFds fx ver fs vs).length)
  | .nil, _ => by
    have e1 : rdFds fx ver .nil = fun r => .ok [] r := by funext r; simp only [rdFds]
    have e2 : wrFds fx ver .nil = fun _ => [] := by funext v; simp only [wrFds]
    rw [e1, e2]
    refine ⟨⟨fun r v r' h hb => ?_, fun r v r' h => ?_, fun r v r' h hb => ?_, fun r v r' h hb rest nl _ _ => ?_, fun r _ h => by cases h⟩, fun hp => by cases hp⟩ <;> (simp only [Out.ok.injEq] at h; obtain ⟨rfl, rfl⟩ := h)
    · exact hb
    · exact Nat.le_refl _
    · simp
    · exact ⟨[], rfl, rfl⟩
  | .cons lo hi tag df off ty rest', h => by
    simp only [lawFds, Bool.and_eq_true] at h
    obtain ⟨iht, ihtp⟩ := law_ty fx ver ty df h.1.2
    obtain ⟨ihr, ihrp⟩ := law_fds fx ver rest' h.2
    have htag := h.1.1
    by_cases hh : has lo hi ver = true
    · have e1 : ∀ r, rdFds fx ver (.cons lo hi tag df off ty rest') r = (rdTy fx ver ty (dfTy df ty) r).bind fun v r => (rdFds fx ver rest' r).bind fun vs r => .ok (v :: vs) r := fun r => by simp only [rdFds, htag, hh, Bool.and_self, if_true]
      have e2 : ∀ v vs, wrFds fx ver (.cons lo hi tag df off ty rest') (v :: vs) = wrTy fx ver ty v ++ wrFds fx ver rest' vs := fun v vs => by simp only [wrFds, htag, hh, Bool.and_self, if_true, List.headD_cons, List.tail_cons]
      have key : ∀ r vs r', rdFds fx ver (.cons lo hi tag df off ty rest') r = .ok vs r' → ∃ v r1 vs', rdTy fx ver ty (dfTy df ty) r = .ok v r1 ∧ rdFds fx ver rest' r1 = .ok vs' r' ∧ vs = v :: vs' := fun r vs r' h => by
        rw [e1] at h
        obtain ⟨v, r1, h1, h2⟩ := bind_ok h
        obtain ⟨vs', r2, h3, h4⟩ := bind_ok h2
        simp only [Out.ok.injEq] at h4
        obtain ⟨rfl, rfl⟩ := h4
        exact ⟨v, r1, vs', h1, h3, rfl⟩
      refine ⟨⟨fun r vs r' h hb => ?_, fun r vs r' h => ?_, fun r vs r' h hb => ?_, fun r vs r' h hb rest nl hnl hbig => ?_, fun r hr h => ?_⟩, fun hp r vs r' h hb => ?_⟩
      · obtain ⟨v, r1, vs', h1, h2, rfl⟩ := key _ _ _ h
        exact iht.bad _ _ _ h1 (ihr.bad _ _ _ h2 hb)
      · obtain ⟨v, r1, vs', h1, h2, rfl⟩ := key _ _ _ h
        exact Nat.le_trans (ihr.le _ _ _ h2) (iht.le _ _ _ h1)
      · obtain ⟨v, r1, vs', h1, h2, rfl⟩ := key _ _ _ h
        have a := iht.len _ _ _ h1 (ihr.bad _ _ _ h2 hb)
        have b := ihr.len _ _ _ h2 hb
        rw [e2, List.length_append]; omega
      · obtain ⟨v, r1, vs', h1, h2, rfl⟩ := key _ _ _ h
        rw [e2, List.append_assoc] at hnl hbig
        obtain ⟨v2, h3, h4⟩ := iht.again _ _ _ h1 (ihr.bad _ _ _ h2 hb) (wrFds fx ver rest' vs' ++ rest) nl hnl hbig
        rw [List.length_append] at hbig
        obtain ⟨vs2, h5, h6⟩ := ihr.again _ _ _ h2 hb rest nl (fun hh => (List.append_eq_nil_iff.1 (hnl hh)).2) (by omega)
        refine ⟨v2 :: vs2, ?_, by rw [e2, e2, h4, h6]⟩
        rw [e2, List.append_assoc, e1, h3]
        simp only [Out.bind, h5]
      · rw [e1] at h
        cases hv : rdTy fx ver ty (dfTy df ty) r with
        | err => rw [hv] at h; cases h
        | stuck => exact iht.go r hr hv
        | ok v r1 =>
          rw [hv] at h
          simp only [Out.bind] at h
          have := iht.le _ _ _ hv
          cases hvs : rdFds fx ver rest' r1 with
          | err => rw [hvs] at h; cases h
          | stuck => exact ihr.go r1 (by omega) hvs
          | ok vs r2 => rw [hvs] at h; cases h
      · obtain ⟨v, r1, vs', h1, h2, rfl⟩ := key _ _ _ h
        rw [e2, List.length_append]
        simp only [posFds, htag, hh, Bool.true_and, Bool.or_eq_true] at hp
        rcases hp with hp | hp
        · have := ihtp hp _ _ _ h1 (ihr.bad _ _ _ h2 hb); omega
        · have := ihrp hp _ _ _ h2 hb; omega
    · have hh' : has lo hi ver = false := by simpa using hh
      have e1 : ∀ r, rdFds fx ver (.cons lo hi tag df off ty rest') r = (rdFds fx ver rest' r).bind fun vs r => .ok (dfTy df ty :: vs) r := fun r => by simp only [rdFds, htag, hh', Bool.and_false, Bool.false_eq_true, if_false]
      have e2 : ∀ v vs, wrFds fx ver (.cons lo hi tag df off ty rest') (v :: vs) = wrFds fx ver rest' vs := fun v vs => by simp only [wrFds, htag, hh', Bool.and_false, Bool.false_eq_true, if_false, List.nil_append, List.tail_cons]
      have key : ∀ r vs r', rdFds fx ver (.cons lo hi tag df off ty rest') r = .ok vs r' → ∃ vs', rdFds fx ver rest' r = .ok vs' r' ∧ vs = dfTy df ty :: vs' := fun r vs r' h => by
        rw [e1] at h
        obtain ⟨vs', r1, h1, h2⟩ := bind_ok h
        simp only [Out.ok.injEq] at h2
        obtain ⟨rfl, rfl⟩ := h2
        exact ⟨vs', h1, rfl⟩
      refine ⟨⟨fun r vs r' h hb => ?_, fun r vs r' h => ?_, fun r vs r' h hb => ?_, fun r vs r' h hb rest nl hnl hbig => ?_, fun r hr h => ?_⟩, fun hp r vs r' h hb => ?_⟩
      · obtain ⟨vs', h2, rfl⟩ := key _ _ _ h; exact ihr.bad _ _ _ h2 hb
      · obtain ⟨vs', h2, rfl⟩ := key _ _ _ h; exact ihr.le _ _ _ h2
      · obtain ⟨vs', h2, rfl⟩ := key _ _ _ h; rw [e2]; exact ihr.len _ _ _ h2 hb
      · obtain ⟨vs', h2, rfl⟩ := key _ _ _ h
        rw [e2] at hnl hbig
        obtain ⟨vs2, h5, h6⟩ := ihr.again _ _ _ h2 hb rest nl hnl hbig
        refine ⟨dfTy df ty :: vs2, ?_, by rw [e2, e2, h6]⟩
        rw [e2, e1, h5]
        rfl
      · rw [e1] at h
        cases hv : rdFds fx ver rest' r with
        | err => rw [hv] at h; cases h
        | stuck => exact ihr.go r hr hv
        | ok v r1 => rw [hv] at h; cases h
      · obtain ⟨vs', h2, rfl⟩ := key _ _ _ h
        rw [e2]
        simp only [posFds, hh', Bool.and_false, Bool.false_and, Bool.false_or] at hp
        exact ihrp hp _ _ _ h2 hb
end

end Go.Proofs.YthbkpckkfhejbaaDoor.Kx

/-
  THE PLAIN LAW, 5: whole messages without a kept version and without known tags: what is read of few octets is written as no more octets, that are read again, and written as the same.
-/
namespace Go.Proofs.YthbkpckkfhejbaaDoor.Kx

/-- the plan of a message is one of the law's, at a version -/
def lawMsg (hf : Bool) (flex : Nat) (fs : Fds) (ver : Int) : Bool := lawFds (hf && decide ((flex : Int) ≤ ver)) ver fs

theorem rw_msg {hf : Bool} {flex : Nat} {fs : Fds} {ver : Int} (h : lawMsg hf flex fs ver = true) : RW (rdMsg hf flex fs ver) (wrMsg false hf flex fs ver) := by
  have hl : lawFds (hf && decide ((flex : Int) ≤ ver)) ver fs = true := h
  have ht := lawFds_untagged _ _ _ hl
  have e1 : rdMsg hf flex fs ver = rdStOf (hf && decide ((flex : Int) ≤ ver)) false (rdFds (hf && decide ((flex : Int) ≤ ver)) ver fs) (rdTag (hf && decide ((flex : Int) ≤ ver)) ver fs) := by
    funext r
    rw [rdMsg, ht]
  have e2 : wrMsg false hf flex fs ver = fun v => wrFds (hf && decide ((flex : Int) ≤ ver)) ver fs v.fields ++ wTagsC (hf && decide ((flex : Int) ≤ ver)) v.tags := by
    funext v
    simp only [wrMsg, Bool.false_eq_true, if_false, List.nil_append]
  rw [e1, e2]
  exact rw_st (law_fds _ _ fs hl).1

theorem go_msg {hf : Bool} {flex : Nat} {fs : Fds} {ver : Int} (h : lawMsg hf flex fs ver = true) (l : Bs) (hl : l.length ≤ BIG) : rdMsg hf flex fs ver (src0 l) ≠ .stuck := (rw_msg h).go _ hl

theorem againOut_some {hf : Bool} {flex : Nat} {fs : Fds} {ver : Int} {l bs : Bs} (h : againOut false hf flex fs ver l = some bs) : ∃ v r, rdMsg hf flex fs ver (src0 l) = .ok v r ∧ r.bad = false ∧ bs = wrMsg false hf flex fs ver v := by
  simp only [againOut, vread, Bool.false_eq_true, if_false] at h
  split at h
  · rename_i v r hv
    by_cases hb : r.bad = true
    · rw [if_pos hb] at h; cases h
    · rw [if_neg hb] at h
      exact ⟨v, r, hv, by simpa using hb, (Option.some.inj h).symm⟩
  · cases h

theorem again_len {hf : Bool} {flex : Nat} {fs : Fds} {ver : Int} (hm : lawMsg hf flex fs ver = true) {l bs : Bs} (h : againOut false hf flex fs ver l = some bs) : bs.length ≤ l.length := by
  obtain ⟨v, r, hv, hb, rfl⟩ := againOut_some h
  have := (rw_msg hm).len _ _ _ hv hb
  simp only [src0] at this
  omega

theorem again_same {hf : Bool} {flex : Nat} {fs : Fds} {ver : Int} (hm : lawMsg hf flex fs ver = true) {l bs : Bs} (hl : l.length ≤ BIG) (h : againOut false hf flex fs ver l = some bs) : againOut false hf flex fs ver bs = some bs := by
  have hlen := again_len hm h
  obtain ⟨v, r, hv, hb, rfl⟩ := againOut_some h
  obtain ⟨v2, h2, h3⟩ := (rw_msg hm).again _ _ _ hv hb [] (wrMsg false hf flex fs ver v).isEmpty (fun hh => by simpa using hh) (by simpa using Nat.le_trans hlen hl)
  rw [List.append_nil] at h2
  have e : rdMsg hf flex fs ver (src0 (wrMsg false hf flex fs ver v)) = .ok v2 ⟨[], false, (wrMsg false hf flex fs ver v).isEmpty⟩ := h2
  simp only [againOut, vread, Bool.false_eq_true, if_false, e, h3]

end Go.Proofs.YthbkpckkfhejbaaDoor.Kx

/-
  THE ROWS: an argument of octets opened and read again; a law of a number and octets, by what its call does.
-/
namespace Go.Proofs.YthbkpckkfhejbaaDoor.Kx
open Go Go.ChangeShapes Go.WideShapes Go.RowKit

section
variable {H : Type} {enc : TypeId × Value → H} {P : Program}

theorem shape_lt {w : World} {b : Nat} {x : TypeId × Nat} (h : w.shape? b = some x) : b < w.heap.size := by
  simp only [World.shape?] at h
  rcases Nat.lt_or_ge b w.heap.size with hb | hb
  · exact hb
  · rw [Array.getElem?_eq_none hb] at h
    cases h

theorem row_mem (a : Addr) {n : Nat} (h : 0 < n) : MemPlace.cell a.block a.off ∈ MemPlace.row a n := by
  simp only [MemPlace.row, List.mem_map, List.mem_range]
  exact ⟨0, h, by simp⟩

/-- an argument of octets -/
theorem arg_octs {tSl tU8 : TypeId} (hS : P.underlying tSl = some (.slice tU8)) (hE : P.underlying tU8 = some (.int .u8)) (hc : P.cellsOf tU8 = 1) {W : World} {base : Nat} {v : Value} {d : DataW H} {p : List MemPlace}
    (hval : Value.okWide P W .any base tSl v) (h : DataW.Trod enc P W 0 (fun _ => true) true tSl v d p) :
    ∃ l : Bs, SlRp W (fun _ => False) v l ∧ ∀ (W' : World) (sp : Nat → Bool), Keeps (fun _ => False) W W' → (∀ x ∈ p, sp x.block = true) → DataW.Trod enc P W' 0 sp true tSl v d p := by
  obtain ⟨a0, len0, cap0, rfl⟩ := okWide_slice hS hval
  obtain ⟨fuel, hf⟩ := h
  rcases open_ints hS hE hc hf with ⟨hcs, hx⟩ | ⟨a, len, cap, zs, hcs, hb, hl, hm, hzl, hx, hcell, hw⟩
  · simp only [Value.cells, List.cons.injEq, and_true] at hcs
    simp only [Prod.mk.injEq] at hx
    obtain ⟨rfl, rfl⟩ := hx
    rw [hcs]
    exact ⟨[], .inl ⟨rfl, rfl⟩, fun W' sp _ _ => shut_slice_nil hS⟩
  · simp only [Value.cells, List.cons.injEq, and_true] at hcs
    simp only [Prod.mk.injEq] at hx
    obtain ⟨rfl, rfl⟩ := hx
    rw [hcs] at hval ⊢
    have hzl : zs.length = cap := by simpa using hzl
    have hhas : W.has P .any base a tU8 cap := by
      simp only [Value.okWide, hS, Cell.okWide, Cell.ok] at hval
      exact hval.2.2
    obtain ⟨_, hspot, row, cells, hsh, _⟩ := hhas
    have hlt := shape_lt hsh
    obtain ⟨b, o, spot⟩ := a
    have hspot : spot = none := hspot
    subst hspot
    have hlt : b < W.heap.size := hlt
    have hr : ∀ z ∈ zs, 0 ≤ z ∧ z < 256 := fun z hz => by
      have := hw z hz
      simp [Lit.wf, IntKind.min, IntKind.max, IntKind.bits, IntKind.signed] at this
      omega
    refine ⟨(zs.take len).map fun z => UInt8.ofNat z.toNat, .inr ⟨b, o, cap, ?_, id, hlt, ?_, hm, fun i x hx => ?_⟩, fun W' sp hk hsp => ?_⟩
    · simp only [List.length_map, List.length_take]
      congr 1
      omega
    · simp only [List.length_map, List.length_take]
      omega
    · simp only [List.getElem?_map, Option.map_eq_some_iff] at hx
      obtain ⟨z, hz, rfl⟩ := hx
      have hi : i < len := by
        rcases Nat.lt_or_ge i len with h | h
        · exact h
        · rw [List.getElem?_take, if_neg (by omega)] at hz; cases hz
      rw [List.getElem?_take, if_pos hi] at hz
      have hzm : z ∈ zs := List.mem_of_getElem? hz
      have hzz := hr z hzm
      have := hcell i (by omega)
      rw [add_plain] at this
      rw [this]
      have e1 : zs.getD i 0 = z := by simp [List.getD, hz]
      have e2 : (UInt8.ofNat z.toNat).toNat = z.toNat := UInt8.toNat_ofNat_of_lt (by simpa using (by omega : z.toNat < 256))
      rw [e1, e2, Int.toNat_of_nonneg hzz.1]
    · have hz : zs.length = (if sp b then cap else len) := by
        by_cases h0 : zs.length = 0
        · rw [h0]; split <;> omega
        · have := hsp _ (row_mem ⟨b, o, none⟩ (n := zs.length) (by omega))
          have hspb : sp b = true := this
          rw [hspb, if_pos rfl]; exact hzl
      exact ⟨2, shut_ints' 0 hS hE hc (Nat.zero_le _) hl hm hz (fun i hi => by
        have := hcell i hi
        rw [add_plain] at this
        exact hk.cell id this) hw⟩

theorem Keeps.butNone {w w' : World} (h : Keeps (fun _ => False) w w') (may : MemPlace → Prop) : w.keptBut w' may :=
  World.keptBut_mono (fun _ h => h.elim) (World.keptBut_none_iff.2 ⟨h.os, h.output, fun i hi => h.block i hi id⟩)

/-- a law of a number and octets -/
theorem row2 {f : FuncId} {fn : Func} {s : ChangeSpec} {tX tSl tU8 tB : TypeId} (hpar : fn.params.toList = [tX, tSl]) (hres : fn.resultTypes = #[tB]) (hX : P.underlying tX = some (.int .u8)) (hS : P.underlying tSl = some (.slice tU8)) (hE : P.underlying tU8 = some (.int .u8)) (hc : P.cellsOf tU8 = 1) (hB : P.underlying tB = some .bool)
    (hv : s.vars = []) (hs : ∀ d1 d2 : DataW H, s.fn H [d1, d2] = { results := [.lit (.bool true)], args := [d1, d2] }) {W : World} {base : Nat} {args : Array Value} {ds gs : List (DataW H)} {before : List MemPlace}
    (hval : ∀ (j : Nat) t v, fn.params[j]? = some t → args[j]? = some v → Value.okWide P W .any base t v) (hW : DataW.Whole enc P fn.params.toList s.vars false W args.toList ds gs before)
    (hcall : ∀ (x0 : Nat) (srcv : Value) (l : Bs), x0 < 256 → SlRp W (fun _ => False) srcv l → Calls P f #[.int .u8 x0, srcv] W fun e w' => e = .returned (.bool true) ∧ Keeps (fun _ => False) W w') :
    Calls P f args W fun e W' => ∃ v, e = .returned v ∧ s.post enc P fn false true false false W args v W' := by
  have hW' := hW
  obtain ⟨p, q, hA0, hV, rfl, hfz, hnd⟩ := hW
  have hA : DataW.TrodAll enc P W 0 (fun _ => true) true fn.params.toList args.toList ds p := hA0
  have hpj : ∀ j, fn.params[j]? = ([tX, tSl] : List TypeId)[j]? := fun j => by rw [← hpar, Array.getElem?_toList]
  rw [hpar] at hA
  obtain ⟨v0, v1, d0, d1, p0, p1, rfl, rfl, rfl, h0, h1⟩ := trodAll_two hA
  rw [hv] at hV
  obtain ⟨rfl, rfl⟩ := trodVars_none hV
  obtain ⟨n, rfl, rfl, rfl, hn⟩ := open_int hX (hval 0 tX v0 (by rw [hpj]; rfl) rfl) h0
  obtain ⟨l, hsl, hagain⟩ := arg_octs hS hE hc (hval 1 tSl v1 (by rw [hpj]; rfl) rfl) h1
  have hn' : 0 ≤ n ∧ n < 256 := by
    simp [Lit.wf, IntKind.min, IntKind.max, IntKind.bits, IntKind.signed] at hn
    omega
  have e : n = ((n.toNat : Nat) : Int) := by omega
  have hcl := hcall n.toNat v1 l (by omega) hsl
  rw [← e] at hcl
  refine hcl.mono fun e W' ⟨he, hk⟩ => ?_
  subst he
  refine ⟨_, rfl, _, _, _, [], p1, [], hW', ?_, ?_, ?_, hk.butNone _, fun h => by cases h⟩
  · rw [hres]
    simp only [List.append_nil, hs]
    exact trodAll_mk1 (shut_bool hB true)
  · rw [hpar]
    simp only [List.append_nil, hs]
    have := trodAll_mk2 (p := []) (shut_int (enc := enc) (w := W') (base := 0) (spare := fun b => decide (b < W.heap.size)) (held := true) hX hn) (hagain W' (fun b => decide (b < W.heap.size)) hk fun x hx => by
      have := hW'.lt x (by simp [hx])
      simpa using this)
    simpa using this
  · rw [hv]
    simp only [List.append_nil, hs]
    rfl

/-- the row's list: the error is there -/
theorem errAt_of_var {n : String} {W : World} {g : Nat} {t : TypeId} {x : Value} (hg : P.globalNamed n = some g) (h : W.var? P n = some #[.iface t x]) : ErrAt g W :=
  ⟨t, x, by simpa using World.var?_cell hg h 0⟩

end
end Go.Proofs.YthbkpckkfhejbaaDoor.Kx

/-
  KBIN's APPENDING FUNCTIONS, as the writer of a message asks for them: one by one.
-/
namespace Go.Proofs.YthbkpckkfhejbaaDoor.Kx
open Go

section
variable {P : Program} {K : Kn}

/-- small facts of a program's tables, by computation -/
def ifaceB (P : Program) (T : Nat) : Bool := match P.underlying T with | some (.interface _) => true | _ => false
theorem ifaceB_ok {T : Nat} (h : ifaceB P T = true) : ∃ ms, P.underlying T = some (.interface ms) := by
  unfold ifaceB at h
  split at h
  · rename_i ms hms
    exact ⟨ms, hms⟩
  · cases h
def twoB (P : Program) (T : Nat) : Bool :=
  match P.underlying T with
  | some (.struct fs) => (match fs.toList with | [f0, f1] => f0.offset == 0 && f1.offset == 1 && varB P f0.type false 1 && varB P f1.type false 1 | _ => false)
  | _ => false
theorem twoB_ok {T : Nat} (h : twoB P T = true) : ∃ fs f0 f1, P.underlying T = some (.struct fs) ∧ fs.toList = [f0, f1] ∧ f0.offset = 0 ∧ f1.offset = 1 ∧ VarIs P f0.type false 1 ∧ VarIs P f1.type false 1 := by
  unfold twoB at h
  split at h
  · rename_i fs hfs
    split at h
    · rename_i f0 f1 hl
      simp only [Bool.and_eq_true, beq_iff_eq] at h
      exact ⟨fs, f0, f1, hfs, hl, h.1.1.1, h.1.1.2, varB_ok h.1.2, varB_ok h.2⟩
    · cases h
  · cases h
def octB (P : Program) (S U : Nat) : Bool :=
  (match P.underlying S with | some (.slice e) => e == U | _ => false) && (match P.info? U with | some i => (match i.zero with | some z => i.size == 1 && i.bytes == 1 && z.cells.size == 1 | none => false) | none => false)
theorem octB_ok {S U : Nat} (h : octB P S U = true) : OctT P S U := by
  simp only [octB, Bool.and_eq_true] at h
  obtain ⟨h1, h2⟩ := h
  refine ⟨?_, ?_⟩
  · split at h1
    · rename_i e he
      rw [he, beq_iff_eq.1 h1]
    · cases h1
  · split at h2
    · rename_i i hi
      split at h2
      · rename_i z hz
        simp only [Bool.and_eq_true, beq_iff_eq] at h2
        exact ⟨i, z, hi, hz, h2.1.1, h2.1.2, h2.2⟩
      · cases h2
    · cases h2
/-- the one field of a struct -/
def oneF (P : Program) (T : Nat) : Option Field := match P.underlying T with | some (.struct fs) => (match fs.toList with | [f] => some f | _ => none) | _ => none
theorem oneF_ok {T : Nat} {f : Field} (h : oneF P T = some f) : P.underlying T = some (.struct #[f]) := by
  unfold oneF at h
  split at h
  · rename_i fs hfs
    split at h
    · rename_i f' hl
      obtain rfl := Option.some.inj h
      rw [hfs, ← hl]
    · cases h
  · cases h

def AppOk (P : Program) (te : Nat) (p : PF) (f : Nat) : Prop :=
  Ent P f ∧ ∀ (w : World) (L : Nat) (cs : List Value) (val : Value) (v : V), LRp w (fun k => L ≤ k) (pfTy p) cs v → ValOf p cs val → ApL P te f val (p.wr v) w L

theorem valOf_ne {p : PF} (hp : p ≠ .uuid) {x val : Value} (h : ValOf p [x] val) : val = x := by
  unfold ValOf at h
  rw [if_neg hp] at h
  simpa using h.symm

theorem app_bool (wt : WT P K) {f ntmps : Nat} (hfn : FnIs P f ntmps [4] (cABool K)) (hnt : 12 ≤ ntmps) : AppOk P K.tU8 .bool f := by
  refine ⟨hfn.ent, fun w L cs val v hl hv => ?_⟩
  obtain ⟨b, rfl, rfl⟩ := hl
  obtain rfl : val = .bool b := valOf_ne (by simp) hv
  have e : PF.wr .bool (.n (if b then 1 else 0)) = [if b then 1 else 0] := by cases b <;> rfl
  rw [e]
  exact ap_bool wt hfn hnt b w L
theorem app_num {p : PF} {k : IntKind} {m f : Nat} (hp : ∀ w X cs v, LRp w X (pfTy p) cs v → ∃ x : Int, cs = [.int k x] ∧ v = .n x ∧ (p = .u16 → 0 ≤ x ∧ x < 65536)) (hu : p ≠ .uuid) (hw : ∀ x, p.wr (.n x) = be m x) (hE : Ent P f) (hc : ∀ (x : Int) (w : World), (p = .u16 → 0 ≤ x ∧ x < 65536) → ApC P K.tU8 f (.int k x) (be m x) w) : AppOk P K.tU8 p f := by
  refine ⟨hE, fun w L cs val v hl hv => ?_⟩
  obtain ⟨x, rfl, rfl, hx⟩ := hp _ _ _ _ hl
  obtain rfl : val = .int k x := valOf_ne hu hv
  rw [hw]
  exact hc x w hx L
theorem app_i8 (wt : WT P K) (hF : hasF K.tI8 = true) {f ntmps : Nat} (hfn : FnIs P f ntmps [4] (cAI8 K)) (hnt : 10 ≤ ntmps) : AppOk P K.tU8 .i8 f :=
  app_num (k := .i8) (m := 1) (fun w X cs v h => by obtain ⟨x, h1, h2, _⟩ := h; exact ⟨x, h1, h2, fun h => by cases h⟩) (by simp) (fun _ => rfl) hfn.ent fun x w _ => ap_i8 wt hF hfn hnt x w
theorem app_u16 (wt : WT P K) {f ntmps : Nat} (hfn : FnIs P f ntmps [4] (cAU16 K)) (hnt : 13 ≤ ntmps) : AppOk P K.tU8 .u16 f :=
  app_num (k := .u16) (m := 2) (fun w X cs v h => by
    obtain ⟨x, h1, h2, h3⟩ := h
    refine ⟨x, h1, h2, fun _ => ?_⟩
    simp [Prim.fits] at h3
    omega) (by simp) (fun _ => rfl) hfn.ent fun x w h => ap_u16 wt hfn hnt (h rfl) w
theorem app_i16 (wt : WT P K) {f f2 ntmps nt2 : Nat} (hfn2 : FnIs P f2 nt2 [4] (cAU16 K)) (hnt2 : 13 ≤ nt2) (hfn : FnIs P f ntmps [4] (cACv K.tI16 K.tU16 f2)) (hnt : 9 ≤ ntmps) : AppOk P K.tU8 .i16 f :=
  app_num (k := .i16) (m := 2) (fun w X cs v h => by obtain ⟨x, h1, h2, _⟩ := h; exact ⟨x, h1, h2, fun h => by cases h⟩) (by simp) (fun _ => rfl) hfn.ent fun x w _ => ap_i16 wt hfn2 hnt2 hfn hnt x w
theorem app_i32 (wt : WT P K) {f f2 ntmps nt2 : Nat} (hfn2 : FnIs P f2 nt2 [4] (cAU32 K)) (hnt2 : 19 ≤ nt2) (hfn : FnIs P f ntmps [4] (cACv K.tI32 K.tU32 f2)) (hnt : 9 ≤ ntmps) : AppOk P K.tU8 .i32 f :=
  app_num (k := .i32) (m := 4) (fun w X cs v h => by obtain ⟨x, h1, h2, _⟩ := h; exact ⟨x, h1, h2, fun h => by cases h⟩) (by simp) (fun _ => rfl) hfn.ent fun x w _ => ap_i32 wt hfn2 hnt2 hfn hnt x w
theorem app_i64 (wt : WT P K) (hF : hasF K.tU64 = true) (hF2 : hasF K.tI64 = true) {f f2 ntmps nt2 : Nat} (hfn2 : FnIs P f2 nt2 [4] (cAU64 K)) (hnt2 : 31 ≤ nt2) (hfn : FnIs P f ntmps [4] (cACv K.tI64 K.tU64 f2)) (hnt : 9 ≤ ntmps) : AppOk P K.tU8 .i64 f :=
  app_num (k := .i64) (m := 8) (fun w X cs v h => by obtain ⟨x, h1, h2, _⟩ := h; exact ⟨x, h1, h2, fun h => by cases h⟩) (by simp) (fun _ => rfl) hfn.ent fun x w _ => ap_i64 wt hF hF2 hfn2 hnt2 hfn hnt x w
theorem app_uuid (wt : WT P K) (hV : VarIs P K.tUuid true 16) (hA : P.underlying K.tUuid = some (.array 16 K.tU8)) {f ntmps : Nat} (hfn : FnIs P f ntmps [4] (cAUuid K)) (hnt : 8 ≤ ntmps) : AppOk P K.tU8 .uuid f := by
  refine ⟨hfn.ent, fun w L cs val v hl hv => ?_⟩
  obtain ⟨l, hl16, rfl, rfl⟩ := hl
  obtain rfl : val = .agg (l.map octv).toArray := by
    unfold ValOf at hv
    rw [if_pos rfl] at hv
    exact hv
  exact ap_uuid wt hV hA hfn hnt hl16 w L
theorem app_str (wt : WT P K) {f f2 ntmps : Nat} (hA : AppOk P K.tU8 .i16 f2) (hc : ∀ (x : Int) (w : World), ApC P K.tU8 f2 (.int .i16 x) (be 2 x) w) (hfn : FnIs P f ntmps [4] (cAStr K K.tStr K.tI16 f2)) (hnt : 13 ≤ ntmps) : AppOk P K.tU8 .str f := by
  refine ⟨hfn.ent, fun w L cs val v hl hv => ?_⟩
  obtain ⟨l, rfl, rfl, _⟩ := hl
  obtain rfl : val = .string ⟨l.toArray⟩ := valOf_ne (by simp) hv
  have h := hc (IntKind.i16.wrap (l.length : Int)) w
  rw [be_wrap (.inr (.inl ⟨.inl rfl, rfl⟩))] at h
  exact ap_txt wt wt.dI16 (txt_str wt.dStr l L w) hA.1 h hfn hnt
theorem app_cstr (wt : WT P K) {f f2 ntmps : Nat} (hE : Ent P f2) (hc : ∀ x w, x < 4294967296 → ApC P K.tU8 f2 (.int .u32 (x : Nat)) (uvar x) w) (hfn : FnIs P f ntmps [4] (cACStr K K.tStr f2)) (hnt : 14 ≤ ntmps) : AppOk P K.tU8 .cstr f := by
  refine ⟨hfn.ent, fun w L cs val v hl hv => ?_⟩
  obtain ⟨l, rfl, rfl, _⟩ := hl
  obtain rfl : val = .string ⟨l.toArray⟩ := valOf_ne (by simp) hv
  exact ap_ctxt wt (txt_str wt.dStr l L w) hE hc hfn hnt
theorem app_nstr (wt : WT P K) {p : PF} {fx : Bool} (hp : p = strPF true fx) {f f1 f2 ntmps tP : Nat} {c : Value} (hP : P.underlying tP = some (.pointer K.tStr)) (hE : Ent P f1) (hc : ∀ w, ApC P K.tU8 f1 c (wNull fx 2) w) (h2 : AppOk P K.tU8 (strPF false fx) f2) (hfn : FnIs P f ntmps [4] (cANStr K tP c f1 f2)) (hnt : 14 ≤ ntmps) : AppOk P K.tU8 p f := by
  refine ⟨hfn.ent, fun w L cs val v hl hv => ?_⟩
  have e0 : pfTy p = .str (some 0) := by rw [hp]; cases fx <;> rfl
  have e1 : p.wr .nul = wNull fx 2 := by rw [hp]; cases fx <;> rfl
  have e2 : ∀ l, p.wr (.s l) = (strPF false fx).wr (.s l) := fun l => by rw [hp]; cases fx <;> rfl
  have e3 : p ≠ .uuid := by rw [hp]; cases fx <;> simp [strPF]
  have e4 : pfTy (strPF false fx) = .str none := by cases fx <;> rfl
  have e5 : strPF false fx ≠ .uuid := by cases fx <;> simp [strPF]
  rw [e0] at hl
  rcases hl with ⟨rfl, rfl⟩ | ⟨l, b, o, rfl, hX, hcell, rfl, hlen⟩
  · obtain rfl : val = .pointer none := valOf_ne e3 hv
    rw [e1]
    exact ap_nstr0 wt hP hE (hc w) hfn hnt L
  · obtain rfl : val = .pointer (some ⟨b, o, none⟩) := valOf_ne e3 hv
    rw [e2]
    refine ap_nstr1 wt hP hcell h2.1 (fun L' => h2.2 w L' [.string ⟨l.toArray⟩] _ _ ?_ ?_) hfn hnt L
    · rw [e4]; exact ⟨l, rfl, rfl, by omega⟩
    · simp [ValOf, e5]
theorem app_oct (wt : WT P K) {fx : Bool} {f : Nat} (hE : Ent P f) (h : ∀ (x : Value) (l : Bs) (L : Nat) (w : World), SlRp w (fun k => L ≤ k) x l → ApL P K.tU8 f x (wBytes fx l) w L) : AppOk P K.tU8 (bytesPF false fx) f := by
  refine ⟨hE, fun w L cs val v hl hv => ?_⟩
  have e0 : pfTy (bytesPF false fx) = .bytes none := by cases fx <;> rfl
  have e1 : ∀ v, (bytesPF false fx).wr v = wBytes fx v.octets := fun v => by cases fx <;> rfl
  have e3 : bytesPF false fx ≠ .uuid := by cases fx <;> simp [bytesPF]
  rw [e0] at hl
  rw [e1]
  rcases hl with ⟨rfl, rfl⟩ | ⟨l, b, o, c, rfl, hX, hlt, hc, hm, ho, rfl⟩
  · obtain rfl : val = .slice none 0 0 := valOf_ne e3 hv
    exact h _ [] L w (.inl ⟨rfl, rfl⟩)
  · obtain rfl : val = .slice (some ⟨b, o, none⟩) l.length c := valOf_ne e3 hv
    exact h _ l L w (.inr ⟨b, o, c, rfl, hX, hlt, hc, hm, ho⟩)
theorem app_bytes (wt : WT P K) {f f2 ntmps : Nat} (hE : Ent P f2) (hc : ∀ (x : Int) (w : World), ApC P K.tU8 f2 (.int .i32 x) (be 4 x) w) (hfn : FnIs P f ntmps [4] (cAStr K K.tSl K.tI32 f2)) (hnt : 13 ≤ ntmps) : AppOk P K.tU8 .bytes f :=
  app_oct (fx := false) wt hfn.ent fun x l L w hx => by
    have h := hc (IntKind.i32.wrap (l.length : Int)) w
    rw [be_wrap (.inr (.inr (.inl ⟨.inl rfl, rfl⟩)))] at h
    exact ap_txt wt wt.dI32 (txt_oct wt.oct hx) hE h hfn hnt
theorem app_cbytes (wt : WT P K) {f f2 ntmps : Nat} (hE : Ent P f2) (hc : ∀ x w, x < 4294967296 → ApC P K.tU8 f2 (.int .u32 (x : Nat)) (uvar x) w) (hfn : FnIs P f ntmps [4] (cACStr K K.tSl f2)) (hnt : 14 ≤ ntmps) : AppOk P K.tU8 .cbytes f :=
  app_oct (fx := true) wt hfn.ent fun x l L w hx => ap_ctxt wt (txt_oct wt.oct hx) hE hc hfn hnt
theorem app_nbytes (wt : WT P K) {p : PF} {fx : Bool} (hp : p = bytesPF true fx) {f f1 f2 ntmps : Nat} {c : Value} (hE : Ent P f1) (hc : ∀ w, ApC P K.tU8 f1 c (wNull fx 4) w) (h2 : AppOk P K.tU8 (bytesPF false fx) f2) (hfn : FnIs P f ntmps [4] (cANBytes K c f1 f2)) (hnt : 12 ≤ ntmps) : AppOk P K.tU8 p f := by
  refine ⟨hfn.ent, fun w L cs val v hl hv => ?_⟩
  have e0 : pfTy p = .bytes (some 0) := by rw [hp]; cases fx <;> rfl
  have e1 : p.wr .nul = wNull fx 4 := by rw [hp]; cases fx <;> rfl
  have e2 : ∀ l, p.wr (.s l) = (bytesPF false fx).wr (.s l) := fun l => by rw [hp]; cases fx <;> rfl
  have e3 : p ≠ .uuid := by rw [hp]; cases fx <;> simp [bytesPF]
  have e4 : pfTy (bytesPF false fx) = .bytes none := by cases fx <;> rfl
  have e5 : bytesPF false fx ≠ .uuid := by cases fx <;> simp [bytesPF]
  rw [e0] at hl
  rcases hl with ⟨rfl, rfl⟩ | ⟨l, b, o, c, rfl, hX, hlt, hc', hm, ho, rfl⟩
  · obtain rfl : val = .slice none 0 0 := valOf_ne e3 hv
    rw [e1]
    exact ap_nbytes0 wt hE (hc w) hfn hnt L
  · obtain rfl : val = .slice (some ⟨b, o, none⟩) l.length c := valOf_ne e3 hv
    rw [e2]
    refine ap_nbytes1 wt h2.1 (h2.2 w L [.slice (some ⟨b, o, none⟩) l.length c] _ _ ?_ ?_) hfn hnt
    · rw [e4]; exact .inr ⟨l, b, o, c, rfl, hX, hlt, hc', hm, ho, rfl⟩
    · simp [ValOf, e5]

end
end Go.Proofs.YthbkpckkfhejbaaDoor.Kx

/-
  FnAnyX, whole: out of the contracts of a message's functions and the law of its plan.
-/
namespace Go.Proofs.YthbkpckkfhejbaaDoor.Kx
open Go

section
variable {P : Program} {gErr te T : Nat} {hf : Bool} {flex : Nat} {fs : Fds} {toff : Option Nat} {z : Array Value} {fN fS fR fA : Nat}

theorem any_law (hm : P.follows .mixedOrders = true) (M : MsgC P gErr te false hf flex fs toff T z fN fS fR fA) {tI16 tInt tSl tErr tB fAg fV fSm fM fMV f ntAg ntV ntSm ntM ntMV nt most : Nat}
    (ot : OctT P tSl te) (h8 : VarIs P te false 1) (hI : P.underlying tI16 = some (.int .i16)) (hInt : P.underlying tInt = some (.int .i64)) (hU8 : P.underlying te = some (.int .u8)) (hErr : ∃ ms, P.underlying tErr = some (.interface ms))
    (hAg : FnIs P fAg ntAg [4, 5] (cAgain tI16 tInt tSl tErr fN fS fR fA)) (hnAg : 19 ≤ ntAg) (hV : FnIs P fV ntV [4] (cVer te tInt)) (hnV : 10 ≤ ntV) (hSm : FnIs P fSm ntSm [4] (cSame tSl te tInt)) (hnSm : 26 ≤ ntSm)
    (hM : FnIs P fM ntM [0] (cMax tI16 tInt fN fMV)) (hnM : 4 ≤ ntM) (hMV : FnIs P fMV ntMV [2] (cMaxV (most : Int))) (hnMV : 3 ≤ ntMV) (hmost : most < 32768) (hf0 : FnIs P f nt [4] (cAny tSl tInt tB fM fV fAg fSm)) (hnt : 43 ≤ nt)
    (hlaw : ((List.range (most + 1)).all fun v => lawMsg hf flex fs (v : Int)) = true) {w : World} {x0 : Nat} {srcv : Value} {l : Bs} (hx : x0 < 256) (hsrc : SlRp w (fun _ => False) srcv l) (herr : ErrAt gErr w) :
    Calls P f #[.int .u8 x0, srcv] w fun e w' => e = .returned (.bool true) ∧ Keeps (fun _ => False) w w' := by
  obtain ⟨ms, hErr⟩ := hErr
  have hl : ∀ v : Nat, v ≤ most → lawMsg hf flex fs (v : Int) = true := fun v hv => by
    have := List.all_eq_true.1 hlaw v (by simp; omega)
    simpa using this
  refine any_calls hm (most := most) (out := fun x l => againOut false hf flex fs x l) (okIn := fun x l => (∃ v : Nat, v ≤ most ∧ x = (v : Int)) ∧ l.length ≤ 1000) ot hInt hf0 hnt hM.ent (fun w => ?_) hV.ent (fun w => ver_calls hm hU8 hInt hx hmost hV hnV) hAg.ent ?_ hSm.ent (fun w va vb la lb ha hb hla => same_calls hm ot h8 hSm hnSm ha hb hla) hsrc herr fun hl0 => ?_
  · exact max_calls hm hI hInt hmost hM hnM M.newE ((M.newC w).mono fun e w' h => ⟨h.1, h.2.1⟩) hMV.ent fun w => maxV_calls hm hMV hnMV
  · intro w x srcv l hs he hok
    obtain ⟨⟨v, hv, rfl⟩, hlen⟩ := hok
    have hw : IntKind.i16.wrap (v : Int) = v := by simp [IntKind.wrap, IntKind.bits, IntKind.signed]; omega
    have hgo := go_msg (hl v hv) l (by simp only [BIG]; omega)
    have := again_calls hm M ot hI hInt hErr hAg hnAg (x := (v : Int)) hs (by simp only [LIM]; omega) he (by rw [hw]; exact hgo) (by
      rw [hw]
      intro bs hbs
      have := again_len (hl v hv) hbs
      simp only [LIM]; omega)
    rw [hw] at this
    exact this
  · have hv : x0 % (most + 1) ≤ most := by have := Nat.mod_lt x0 (show 0 < most + 1 by omega); omega
    refine ⟨⟨⟨_, hv, rfl⟩, hl0⟩, fun bs hbs => ?_⟩
    have hlen := again_len (hl _ hv) hbs
    refine ⟨by simp only [maxLen]; omega, ⟨⟨_, hv, rfl⟩, by omega⟩, again_same (hl _ hv) (by simp only [BIG]; omega) hbs⟩

/-- the contracts of a message, out of its functions -/
theorem msgC_of {g : G} {gw : GW} {av avw : PF → Bool} {fl flw nl : Bool} {D : Nat → Option (List (Nat × Value))} (En : Env P g av fl D) (K0 : KW P gw avw flw nl te) {cx cw : Cx} {fD fRf kt ktw n0 n0w ntN ntS ntR ntRf ntA v6 tI16 : Nat} {nm : Nm} {ms : List Nm} {zv : Value} {wr : List (Nat × Value)}
    (hfl : cx.hf = true → fl = true) (hflw : cw.hf = true → flw = true) (hcx : cx.hf = hf) (hcw : cw.hf = hf) (hN : FnIs P fN ntN [0] (cNewPtr T fD)) (hnN : 3 ≤ ntN) (hS : FnIs P fS ntS [] (cSetV T tI16)) (hnS : 8 ≤ ntS) (hR : FnIs P fR ntR [4] (cRdF fRf)) (hnR : 8 ≤ ntR)
    (hRf : FnIs P fRf ntRf [6] (gRead g cx.hf false cx fs fD T kt flex n0 nm)) (h17 : n0 + 17 ≤ ntRf) (hA : FnIs P fA ntA [4] (gWrite gw false cw fs T ktw flex v6 n0w ms)) (hzv : zeroOf P T = some zv) (hD : D fD = some wr) (hz : z = applyWr zv.cells 0 wr) (hz0 : 0 < z.size) (hwr : (wr.all fun p => decide (p.1 < zv.cells.size)) = true)
    (hF : fldB P T 0 tI16 0 false 1 = true) (hg : g.gErr = gErr) (hchk : topOk ⟨P, g, av, D⟩ false cx fs fD T kt toff n0 ntRf nm z (topUsed g false cx fs fD T kt flex n0 nm) = true)
    (hchkW : topOkW ⟨P, gw, avw, nl⟩ false cw fs T ktw toff v6 n0w ntA ms (topUsedW gw false cw fs T ktw flex v6 n0w ms) = true) : MsgC P gErr te false hf flex fs toff T z fN fS fR fA where
  zpos := hz0
  newE := hN.ent
  newC w := by
    obtain ⟨hE, hDf⟩ := En.df _ _ hD
    rw [hz]
    exact newPtr_calls En.kb.mixed hN hnN hzv hE hDf (fun p hp => by simpa using List.all_eq_true.1 hwr p hp) w
  setE := hS.ent
  setC w B cur x hB h0 := setV_calls En.kb.mixed hS hnS (fldB_ok hF) hB h0
  rdE := hR.ent
  rdC w B S ver srcv r0 hB hsrc hbad herr hSl hBS hgB hgo := by
    subst hcx hg
    exact rdF_calls En.kb.mixed hR hnR hRf.ent (read_fn En hfl hRf hchk h17 hB hsrc hbad herr hSl hBS hgB hgo)
  apE := hA.ent
  apC w B ver vs t hver hB hcell hr ht hlim := by
    subst hcw
    exact write_fn K0 hflw hA hchkW hver hB hcell hr ht hlim

end
end Go.Proofs.YthbkpckkfhejbaaDoor.Kx
