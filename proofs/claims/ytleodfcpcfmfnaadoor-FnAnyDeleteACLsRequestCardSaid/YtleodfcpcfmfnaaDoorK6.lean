/-
  PLAIN LAWS AND CONTRACTS of messages, part 6: tags, sorted by the library. Nothing of a statement stands here.
-/
import Derived.Test.YtleodfcpcfmfnaaDoorK5
import Derived.Shelf.GgSortFunc.Whole
import Derived.Shelf.GgSortFunc.Tiny
import Derived.Sort.LotA

/-
  TAGS, 9: Tags.AppendEach: its closure, and the whole.
-/
namespace Go.Proofs.YtleodfcpcfmfnaaDoor.Kx
open Go Go.ChangeMaps

section
variable {P : Program}

/-- the closure's box holds what has been written -/
structure Bx (tSl te L D : Nat) (d0 : Value) (w0 : World) (s1 : Nat) (bs : Bs) (w : World) (d' : Value) : Prop where
  box : w.heap[D]? = some (.cells #[d'] tSl (0, 0))
  gr : Gr L te d0 w0 d' bs w
  own : ∀ k, d'.ownBlock = some k → k < D ∨ s1 ≤ k
  s1 : D < s1 ∧ s1 ≤ w.heap.size
  D0 : w0.heap.size ≤ D ∧ L ≤ D

theorem Bx.dst {tSl te L D s1 : Nat} {d0 d' : Value} {w0 w : World} {bs : Bs} (h : Bx tSl te L D d0 w0 s1 bs w d') : DstAt w L te d' bs := h.gr.dst

theorem Bx.step {tSl te L D s1 : Nat} {d0 d' d'' : Value} {w0 w w1 : World} {bs bs' : Bs} (h : Bx tSl te L D d0 w0 s1 bs w d') (hg : Gr L te d' w d'' bs' w1) :
    w1.heap[D]? = some (.cells #[d'] tSl (0, 0)) ∧ Bx tSl te L D d0 w0 s1 bs' (w1.setRow D #[d'']) d'' ∧ Keeps (fun x => (L ≤ x ∧ x < D + 1) ∨ s1 ≤ x) w (w1.setRow D #[d'']) := by
  have hDl : D < w.heap.size := by have := h.s1; omega
  have hno : d'.ownBlock ≠ some D := fun hh => by have := h.own D hh; have := h.s1; omega
  have hsz := hg.keeps.size
  have hb1 : w1.heap[D]? = some (.cells #[d'] tSl (0, 0)) := by rw [hg.keeps.block D hDl hno]; exact h.box
  have hown : ∀ k, d''.ownBlock = some k → k < D ∨ s1 ≤ k := fun k hk => by
    rcases hg.own k hk with h1 | h1
    · exact h.own k h1
    · have := h.s1; exact .inr (by omega)
  have hno2 : d''.ownBlock ≠ some D := fun hh => by have := hown D hh; have := h.s1; omega
  have hks : Keeps (fun k => k = D) w1 (w1.setRow D #[d'']) := Keeps.setRow _ _ _ _ rfl
  refine ⟨hb1, ⟨setRow_heap _ _ _ _ _ _ hb1, (h.gr.trans hg).post hks fun k hk => ?_, hown, ⟨h.s1.1, by have := hks.size; have := h.s1; omega⟩, h.D0⟩, ?_⟩
  · subst hk; exact ⟨h.D0.1, hno2⟩
  · refine (hg.keeps.mono fun k _ hk => ?_).trans (hks.mono fun k _ hk => ?_)
    · have h1 := h.dst.own hk
      rcases h.own k hk with h2 | h2
      · exact .inl ⟨h1.1, by omega⟩
      · exact .inr h2
    · subst hk; exact .inl ⟨h.D0.2, by omega⟩

theorem Bx.lim {tSl te L D s1 : Nat} {d0 d' : Value} {w0 w : World} {bs : Bs} (h : Bx tSl te L D d0 w0 s1 bs w d') : L ≤ w.heap.size := by have := h.s1; have := h.D0; omega

/-- the closure: one tag -/
theorem tone_calls (hm : P.follows .mixedOrders = true) {T : TN} {te L D s1 : Nat} (ot : OctT P T.tSl te) (hV : VarIs P T.tSl false 1) (hInt : P.underlying T.tInt = some (.int .i64)) (hU32 : P.underlying T.tU32 = some (.int .u32)) (hUE : Ent P T.fUv) (hUc : ∀ (x : Nat) (w : World), x < 4294967296 → ApC P te T.fUv (.int .u32 x) (uvar x) w)
    {f nt : Nat} (hfn : FnIs P f nt [] (cTOne T)) (hnt : 16 ≤ nt) {w0 w : World} {d0 d' v : Value} {bs l : Bs} {k : Nat} (hb : Bx T.tSl te L D d0 w0 s1 bs w d') (hk : k < 4294967296) (hv : SlRp w (fun x => L ≤ x) v l) (hlim : bs.length + (wTag (k, l)).length ≤ LIM) :
    Calls P f #[.int .u32 (k : Int), v, pt D 0] w fun e w' => e = .returned (.tuple #[]) ∧ (∃ d'', Bx T.tSl te L D d0 w0 s1 (bs ++ wTag (k, l)) w' d'') ∧ Keeps (fun x => (L ≤ x ∧ x < D + 1) ∨ s1 ≤ x) w w' := by
  refine callsA hm hfn (by simp) [.int .u32 (k : Int), v, pt D 0] (by simp; omega) fun a harg hs hd => ?_
  have g0 := harg 0 _ rfl
  have g1 := harg 1 _ rfl
  have g2 := harg 2 _ rfl
  have hYL : ∀ {wa wb : World}, Keeps (fun x => (L ≤ x ∧ x < D + 1) ∨ s1 ≤ x) wa wb → Keeps (fun x => L ≤ x) wa wb := fun hh => hh.mono fun x _ hx => by have := hb.D0; have := hb.s1; omega
  simp only [wTag, List.length_append] at hlim
  have e1 : ∀ (x y : Value), splice #[x] 0 [y] = #[y] := fun x y => by simp [splice]
  have cell : ∀ {ww : World} {dd : Value}, ww.heap[D]? = some (.cells #[dd] T.tSl (0, 0)) → ww.cell? ⟨D, 0, none⟩ = some dd := fun hh => by simp [World.cell?, hh]
  have one : ∀ {dd : Value} {bb : Bs} {ww : World}, DstAt ww L te dd bb → dd.oneCell' = true ∧ dd.cells = #[dd] := fun hh => by
    rcases hh with ⟨rfl, _⟩ | ⟨_, _, _, rfl, _⟩ <;> exact ⟨rfl, rfl⟩
  unfold cTOne
  -- the number
  refine .seq (R := Rt (fun a1 w1 => a1.get 0 = .int .u32 (k : Int) ∧ a1.get 1 = v ∧ a1.get 2 = pt D 0 ∧ a1.tmps.size = nt ∧ a1.defers = [] ∧ (∃ d1, Bx T.tSl te L D d0 w0 s1 (bs ++ uvar k) w1 d1) ∧ Keeps (fun x => (L ≤ x ∧ x < D + 1) ∨ s1 ≤ x) w w1) fun _ _ => False) (.reg ?_) (fun a1 w1 hh => ?_) (fun e a w he hq => by cases e <;> first | exact absurd rfl he | exact hq.elim)
  · refine wl_load1 (p := ⟨D, 0, none⟩) (v := d') (by rw [eval_tm]; exact g2) (hV.agg _) (cell hb.box) (wl_move ?_)
    rw [eval_tm, get_put_ne _ _ _ _ (by omega), g0]
    refine wl_call (vs := #[d', .int .u32 (k : Int)]) hUE ?_ (hUc k w hk L d' bs hb.dst hb.lim (by omega)) fun e w1 hR => ?_
    · simp only [List.map_cons, List.map_nil, eval_tm]
      rw [get_put_ne _ _ _ _ (by omega), get_put _ _ _ (by omega), get_put _ _ _ (by simp only [put_size]; omega)]
    obtain ⟨d1, he, hg⟩ := hR
    obtain ⟨hb1, hbx, hkk⟩ := hb.step hg
    refine ⟨d1, he, wl_store (g := D) (o := 0) (cur := #[d']) (t := T.tSl) (v := d1) (vs := [d1]) ?_ ?_ (by rw [(one hg.dst).2]) (hV.size _) hb1 (by simp) (by simpa using (one hg.dst).1) (wpList_nil ⟨?_, ?_, ?_, ?_, ?_, ⟨d1, by rw [e1]; exact hbx⟩, by rw [e1]; exact hkk⟩)⟩
    · rw [eval_tm, get_put_ne _ _ _ _ (by omega), get_put_ne _ _ _ _ (by omega), get_put_ne _ _ _ _ (by omega)]; exact g2
    · rw [eval_tm, get_put _ _ _ (by simp only [put_size]; omega)]
    · rw [get_put_ne _ _ _ _ (by omega), get_put_ne _ _ _ _ (by omega), get_put_ne _ _ _ _ (by omega)]; exact g0
    · rw [get_put_ne _ _ _ _ (by omega), get_put_ne _ _ _ _ (by omega), get_put_ne _ _ _ _ (by omega)]; exact g1
    · rw [get_put_ne _ _ _ _ (by omega), get_put_ne _ _ _ _ (by omega), get_put_ne _ _ _ _ (by omega)]; exact g2
    · simp only [put_size]; exact hs
    · simp only [put_defers]; exact hd
  obtain ⟨f0, f1, f2, fs, fd, ⟨d1, hb1⟩, hk1⟩ := hh
  -- the length
  have hv1 := hv.keep (hYL hk1)
  obtain ⟨vb, vc, hvf, _⟩ := hv1.form
  refine .seq (R := Rt (fun a2 w2 => a2.get 1 = v ∧ a2.get 2 = pt D 0 ∧ a2.tmps.size = nt ∧ a2.defers = [] ∧ (∃ d2, Bx T.tSl te L D d0 w0 s1 (bs ++ uvar k ++ uvar (w32 l.length)) w2 d2) ∧ Keeps (fun x => (L ≤ x ∧ x < D + 1) ∨ s1 ≤ x) w w2) fun _ _ => False) (.reg ?_) (fun a2 w2 hh => ?_) (fun e a w he hq => by cases e <;> first | exact absurd rfl he | exact hq.elim)
  · refine wl_load1 (p := ⟨D, 0, none⟩) (v := d1) (by rw [eval_tm]; exact f2) (hV.agg _) (cell hb1.box) (wl_move ?_)
    rw [eval_tm, get_put_ne _ _ _ _ (by omega), f1]
    refine wl_len (base := vb) (n := l.length) (c := vc) (by rw [eval_tm, get_put _ _ _ (by simp only [put_size]; omega)]; exact hvf) ot.und ?_
    refine wl_convInt (k := .i64) (k' := .u32) (m := (l.length : Int)) (by rw [eval_tm, get_put _ _ _ (by simp only [put_size]; omega)]) hInt hU32 ?_
    have ew : IntKind.u32.wrap (l.length : Int) = ((w32 l.length : Nat) : Int) := by simp [IntKind.wrap, IntKind.bits, IntKind.signed, w32]
    rw [ew]
    have hw32 : w32 l.length < 4294967296 := by simp only [w32]; omega
    refine wl_call (vs := #[d1, .int .u32 ((w32 l.length : Nat) : Int)]) hUE ?_ (hUc (w32 l.length) w1 hw32 L d1 _ hb1.dst hb1.lim (by rw [List.length_append]; omega)) fun e w2 hR => ?_
    · simp only [List.map_cons, List.map_nil, eval_tm]
      rw [get_put_ne _ _ _ _ (by omega), get_put_ne _ _ _ _ (by omega), get_put_ne _ _ _ _ (by omega), get_put _ _ _ (by omega), get_put _ _ _ (by simp only [put_size]; omega)]
    obtain ⟨d2, he, hg⟩ := hR
    obtain ⟨hb2, hbx, hkk⟩ := hb1.step hg
    refine ⟨d2, he, wl_store (g := D) (o := 0) (cur := #[d1]) (t := T.tSl) (v := d2) (vs := [d2]) ?_ ?_ (by rw [(one hg.dst).2]) (hV.size _) hb2 (by simp) (by simpa using (one hg.dst).1) (wpList_nil ⟨?_, ?_, ?_, ?_, ⟨d2, by rw [e1]; exact hbx⟩, by rw [e1]; exact hk1.trans hkk⟩)⟩
    · rw [eval_tm]; iterate 5 rw [get_put_ne _ _ _ _ (by omega)]
      exact f2
    · rw [eval_tm, get_put _ _ _ (by simp only [put_size]; omega)]
    · iterate 5 rw [get_put_ne _ _ _ _ (by omega)]
      exact f1
    · iterate 5 rw [get_put_ne _ _ _ _ (by omega)]
      exact f2
    · simp only [put_size]; exact fs
    · simp only [put_defers]; exact fd
  obtain ⟨p1, p2, ps, pd, ⟨d2, hb2⟩, hk2⟩ := hh
  -- the octets
  have hv2 := hv.keep (hYL hk2)
  have hsrc : Src P 1 T.tSl v l.length (l.map octv) w2 := by
    rcases hv2 with ⟨rfl, rfl⟩ | ⟨b, o, c, rfl, _, _, _, _, ho⟩
    · exact src_nil ot w2 0
    · exact src_oct ot ho
  refine .reg ?_
  refine wl_load1 (p := ⟨D, 0, none⟩) (v := d2) (by rw [eval_tm]; exact p2) (hV.agg _) (cell hb2.box) (wl_move ?_)
  rw [eval_tm, get_put_ne _ _ _ _ (by omega), p1]
  refine wl_appendDst ot (L := L) (d := d2) (x := v) (l := l) (by rw [eval_tm, get_put_ne _ _ _ _ (by omega), get_put _ _ _ (by omega)]) (by rw [eval_tm, get_put _ _ _ (by simp only [put_size]; omega)]) hb2.dst hsrc hb2.lim (by simp only [List.length_append]; omega) fun d3 w3 hg => ?_
  obtain ⟨hb3, hbx, hkk⟩ := hb2.step hg
  refine wl_store (g := D) (o := 0) (cur := #[d2]) (t := T.tSl) (v := d3) (vs := [d3]) ?_ ?_ (by rw [(one hg.dst).2]) (hV.size _) hb3 (by simp) (by simpa using (one hg.dst).1) (wpList_nil ⟨?_, rfl, ⟨d3, ?_⟩, by rw [e1]; exact hk2.trans hkk⟩)
  · rw [eval_tm]; iterate 3 rw [get_put_ne _ _ _ _ (by omega)]
    exact p2
  · rw [eval_tm, get_put _ _ _ (by simp only [put_size]; omega)]
  · simp only [put_defers]; exact pd
  · rw [e1]
    simpa [wTag, List.append_assoc] using hbx

end
end Go.Proofs.YtleodfcpcfmfnaaDoor.Kx

/-
  TAGS, 10: Tags.AppendEach whole.
-/
namespace Go.Proofs.YtleodfcpcfmfnaaDoor.Kx
open Go Go.ChangeMaps

section
variable {P : Program}

theorem wTags_two (t : List (Nat × Bs)) : 2 * t.length ≤ (wTags t).length := by
  induction t with
  | nil => simp [wTags]
  | cons p t ih =>
    rw [wTags_cons, List.length_append, wTag_len, List.length_cons]
    have h1 := uvar_pos p.1
    have h2 := uvar_pos (w32 p.2.length)
    omega
theorem wTags_take {t : List (Nat × Bs)} {j : Nat} {p : Nat × Bs} (h : t[j]? = some p) : wTags (t.take (j + 1)) = wTags (t.take j) ++ wTag p := by
  rw [List.take_add_one, h]
  simp [wTags]
theorem wTags_take_le (t : List (Nat × Bs)) (j : Nat) : (wTags (t.take j)).length ≤ (wTags t).length := by
  have : wTags t = wTags (t.take j) ++ wTags (t.drop j) := by
    simp only [wTags, ← List.flatten_append, ← List.map_append, List.take_append_drop]
  rw [this, List.length_append]
  omega

theorem tg_keys {w : World} {X : Nat → Prop} {m : Value} {t : List (Nat × Bs)} (h : TgRp w X m t) : ∀ p ∈ t, p.1 < 4294967296 := fun p hp => by
  rcases h with ⟨_, rfl⟩ | ⟨r, _, _, _, es, c, f, _, hes, _, _, hpm, _⟩
  · simp at hp
  · obtain ⟨e, he, rfl⟩ := List.mem_map.1 (hpm.mem_iff.2 hp)
    exact (hes e he).1

theorem teach_calls (hm : P.follows .mixedOrders = true) {T : TN} {te : Nat} (tf : TF P T) (hso : SortOk P T) (ot : OctT P T.tSl te) (hV : VarIs P T.tSl false 1) (hUE : Ent P T.fUv) (hUc : ∀ (x : Nat) (w : World), x < 4294967296 → ApC P te T.fUv (.int .u32 x) (uvar x) w)
    {f nt ntE nt1 : Nat} (hfE : FnIs P T.fEach ntE [] (cEach T)) (hntE : 53 ≤ ntE) (hf1 : FnIs P T.fOne nt1 [] (cTOne T)) (hnt1 : 16 ≤ nt1) (hfn : FnIs P f nt [4] (cTEach T)) (hnt : 9 ≤ nt)
    {w : World} {b o L : Nat} {m d : Value} {t : List (Nat × Bs)} {bs : Bs} (hc : w.cell? ⟨b, o, none⟩ = some m) (hb : b < L) (ht : TgRp w (fun k => L ≤ k) m t) (hd : DstAt w L te d bs) (hL : L ≤ w.heap.size) (hlim : bs.length + (wTags t).length ≤ LIM) :
    Calls P f #[pt b o, d] w fun e w' => ∃ d', e = .returned d' ∧ Gr L te d w d' (bs ++ wTags t) w' := by
  refine callsA hm hfn (by simp) [pt b o, d] (by simp; omega) fun a harg hs hdf => ?_
  have g0 := harg 0 _ rfl
  have g1 := harg 1 _ rfl
  have lt : ∀ i, i < 9 → i < a.tmps.size := fun i hi => by omega
  have h2 := wTags_two t
  have hl46 : LIM = 70368744177664 := rfl
  have hcells : d.cells = #[d] := by rcases hd with ⟨rfl, _⟩ | ⟨_, _, _, rfl, _⟩ <;> rfl
  have hown : ∀ k, d.ownBlock = some k → k < w.heap.size := fun k hk => (hd.own hk).2
  have hkeys := tg_keys ht
  unfold cTEach
  refine nwp_sq_cons (nwp_rg ?_)
  refine wl_value (v := pt w.heap.size 0) (w' := w.alloc (.cells #[d] T.tSl (0, 0))) (by
    have e1 : a.eval (tm 1) = d := g1
    simp [execOp, mk, e1, Instr.box, newVar, newRow, newObj, Sem.run, hcells, pt]) (wl_assign (wpList_nil ?_))
  rw [eval_const]
  have hsz1 : (w.alloc (.cells #[d] T.tSl (0, 0))).heap.size = w.heap.size + 1 := by simp
  have hbx1 := heap_alloc_new' w (.cells #[d] T.tSl (0, 0))
  have hk1 : Keeps (fun _ => False) w (w.alloc (.cells #[d] T.tSl (0, 0))) := Keeps.alloc _ _ _
  generalize w.alloc (.cells #[d] T.tSl (0, 0)) = w1 at hsz1 hbx1 hk1 ⊢
  refine nwp_sq_cons (nwp_rg (wl_move ?_))
  rw [eval_tm, get_put_ne _ _ _ _ (by omega), get_put_ne _ _ _ _ (by omega), g0]
  refine wl_value (v := .func (.func T.fOne) #[] #[pt w.heap.size 0]) (w' := w1) (by
    have key : ∀ A : Act, A.eval (tm 3) = pt w.heap.size 0 → (execOp A.eval (mk (some 6) (.makeFunc (.func T.fOne) #[] #[tm 3]))).run P w1 = .ok (.value (.func (.func T.fOne) #[] #[pt w.heap.size 0])) w1 := fun A h => by
      simp [execOp, mk, Instr.makeFunc, h]
    exact key _ (by simp [eval_tm, gp, lt, put_size])) ?_
  have heach := each_calls hm tf hso hfE hntE (w := w1) (b := b) (o := o) (L := L) (fC := T.fOne) (m := m) (t := t) (cap := #[pt w.heap.size 0]) (I := fun s1 j w' => ∃ d', Bx T.tSl te L w.heap.size d w s1 (bs ++ wTags (t.take j)) w' d')
    (hk1.cell id hc) hb (by omega) (ht.keep (hk1.mono fun _ _ h => h.elim)) (by omega) hf1.ent (fun w2 hk2 => ?_) (fun s1 j w2 k l v hs1 hj hI hv => ?_)
  · refine wl_call (vs := #[pt b o, .func (.func T.fOne) #[] #[pt w.heap.size 0]]) hfE.ent (by simp [eval_tm, gp, lt, put_size]) heach fun e w2 hR => ?_
    obtain ⟨he, s1, hs1, d', hbx⟩ := hR
    refine ⟨_, he, wpList_nil (nwp_sq_cons (nwp_rg ?_))⟩
    refine wl_load1 (p := ⟨w.heap.size, 0, none⟩) (v := d') (by simp [eval_tm, gp, lt, put_size, pt]) (hV.agg _) (by simp [World.cell?, hbx.box]) (wl_assign (wpList_nil (nwp_sq_cons (.ret ⟨?_, d', ?_, ?_⟩))))
    · simp only [put_defers]; exact hdf
    · rw [retOf_one]
      simp [eval_tm, gp, lt, put_size]
    · have := hbx.gr
      rwa [List.take_of_length_le (Nat.le_refl _)] at this
  · have hkw : Keeps (fun _ => False) w w2 := hk1.trans hk2
    have hs2 := hk2.size
    refine ⟨d, ⟨by rw [hk2.block _ (by omega) id]; exact hbx1, ?_, fun k hk => .inl (hown k hk), ⟨by omega, Nat.le_refl _⟩, ⟨Nat.le_refl _, hL⟩⟩⟩
    have e0 : bs ++ wTags (t.take 0) = bs := by simp [wTags]
    rw [e0]
    exact ⟨hd.keep hkw fun _ _ h => h, hkw.mono fun _ _ h => h.elim, fun k hk => .inl hk⟩
  · obtain ⟨d', hbx⟩ := hI
    have hle := wTags_take_le t (j + 1)
    rw [wTags_take hj, List.length_append] at hle
    have := tone_calls hm ot hV tf.dInt tf.dU32 hUE hUc hf1 hnt1 hbx (hkeys _ (List.mem_of_getElem? hj)) hv (by
      rw [List.length_append]
      show bs.length + (wTags (t.take j)).length + (wTag (k, l)).length ≤ LIM
      omega)
    refine this.mono fun e w3 h => ⟨h.1, ?_, ?_⟩
    · obtain ⟨d'', h3⟩ := h.2.1
      refine ⟨d'', ?_⟩
      rw [wTags_take hj, ← List.append_assoc]
      exact h3
    · rw [hsz1]; exact h.2.2

end
end Go.Proofs.YtleodfcpcfmfnaaDoor.Kx

/-
  TAGS, 11: the sort of the keys, by the library's own sort.Slice (contract off the shelf).
-/
namespace Go.Proofs.YtleodfcpcfmfnaaDoor.Kx
open Go Go.ChangeMaps Go.Shelf Go.Lib Go.Sort

section
variable {P : Program}

def lessOps (T : TN) : List Oper := [mk (some 6) (.load T.tKs (tm 2)), mk (some 7) (.move (tm 0)), mk (some 8) (.indexAddr T.tKs (tm 6) (tm 7)), mk (some 9) (.load T.tU32 (tm 8)), mk (some 10) (.load T.tKs (tm 2)), mk (some 11) (.move (tm 1)), mk (some 12) (.indexAddr T.tKs (tm 10) (tm 11)), mk (some 13) (.load T.tU32 (tm 12)), mk (some 14) (.binOp .lss T.tU32 (tm 9) (tm 13) 0)]
def cTLess (T : TN) : Code := sq [rg [mk (some 5) (.assign (.const (.bool false)))], .region 1 (lessOps T ++ [mk (some 5) (.assign (tm 14))]).toArray true, .ret]

theorem less_calls (hm : P.follows .mixedOrders = true) {T : TN} (tf : TF P T) {f nt : Nat} (hfn : FnIs P f nt [5] (cTLess T)) (hnt : 15 ≤ nt) {w : World} {V G n i j x y : Nat} (hV : w.cell? ⟨V, 0, none⟩ = some (.slice (some ⟨G, 0, none⟩) n n)) (hi : i < n) (hj : j < n) (hx : w.cell? ⟨G, i, none⟩ = some (u32v x)) (hy : w.cell? ⟨G, j, none⟩ = some (u32v y)) :
    Calls P f #[.int .i64 (i : Int), .int .i64 (j : Int), pt V 0] w fun e w' => e = .returned (.bool (decide (x < y))) ∧ w' = w.drew := by
  refine callsA hm hfn (by simp) [.int .i64 (i : Int), .int .i64 (j : Int), pt V 0] (by simp; omega) fun a harg hs hd => ?_
  have g0 := harg 0 _ rfl
  have g1 := harg 1 _ rfl
  have g2 := harg 2 _ rfl
  unfold cTLess
  refine nwp_sq_cons (nwp_rg (wl_assign (wpList_nil ?_)))
  have hlo : loudOf (lessOps T ++ [mk (some 5) (.assign (tm 14))]) = [false, false, false, false, false, false, false, false, false, true] := by kernel_rfl
  refine nwp_sq_cons (.drw (fun w' => w'.heap = w.heap) ?_)
  rw [hlo]
  have hc : ∀ {p : Addr} {v : Value}, w.cell? p = some v → ∀ w' : World, w'.heap = w.heap → w'.cell? p = some v := fun h w' hw => by simpa [World.cell?, hw] using h
  have lt : ∀ d, d < 15 → d < (a.put (some 5) (Act.eval a (.const (.bool false)))).tmps.size := fun d hd => by simp only [put_size]; omega
  have e0 : (a.put (some 5) (Act.eval a (.const (.bool false)))).get 0 = .int .i64 (i : Int) := by rw [get_put_ne _ _ _ _ (by omega)]; exact g0
  have e1 : (a.put (some 5) (Act.eval a (.const (.bool false)))).get 1 = .int .i64 (j : Int) := by rw [get_put_ne _ _ _ _ (by omega)]; exact g1
  have e2 : (a.put (some 5) (Act.eval a (.const (.bool false)))).get 2 = pt V 0 := by rw [get_put_ne _ _ _ _ (by omega)]; exact g2
  have ed : (a.put (some 5) (Act.eval a (.const (.bool false)))).defers = [] := by rw [put_defers]; exact hd
  generalize a.put (some 5) (Act.eval a (.const (.bool false))) = a at lt e0 e1 e2 ed ⊢
  show evF P _ (lessOps T) a fun af => wpLd P _ _ [mk (some 5) (.assign (tm 14))] af w.drew
  refine ev_load1 (p := ⟨V, 0, none⟩) (v := .slice (some ⟨G, 0, none⟩) n n) (by rw [eval_tm]; exact e2) tf.vK.agg (hc hV) (ev_move ?_)
  rw [eval_tm, get_put_ne _ _ _ _ (by omega), e0]
  refine ev_index (b := G) (o := 0) (m := n) (c := n) (i := i) (k := .i64) (sz := 1) (by simp [eval_tm, gp, lt, put_size]) (by simp [eval_tm, gp, lt, put_size]) hi tf.sl tf.vU.size ?_
  refine ev_load1 (p := ⟨G, 0 + i * 1, none⟩) (v := u32v x) (by simp [eval_tm, gp, lt, put_size]) tf.vU.agg (by rw [Nat.zero_add, Nat.mul_one]; exact hc hx) ?_
  refine ev_load1 (p := ⟨V, 0, none⟩) (v := .slice (some ⟨G, 0, none⟩) n n) (by simp [eval_tm, gp, lt, put_size, e2, pt]) tf.vK.agg (hc hV) (ev_move ?_)
  rw [eval_tm, show Act.get _ 1 = .int .i64 (j : Int) from by simp [gp, lt, put_size, e1]]
  refine ev_index (b := G) (o := 0) (m := n) (c := n) (i := j) (k := .i64) (sz := 1) (by simp [eval_tm, gp, lt, put_size]) (by simp [eval_tm, gp, lt, put_size]) hj tf.sl tf.vU.size ?_
  refine ev_load1 (p := ⟨G, 0 + j * 1, none⟩) (v := u32v y) (by simp [eval_tm, gp, lt, put_size]) tf.vU.agg (by rw [Nat.zero_add, Nat.mul_one]; exact hc hy) ?_
  refine ev_bin (k := .u32) (k2 := .u32) (m := (x : Int)) (m2 := (y : Int)) (v := .bool (decide (x < y))) (by simp [eval_tm, gp, lt, put_size, u32v]) (by simp [eval_tm, gp, lt, put_size, u32v]) (fun w' => run_cmp (.inr (.inr (.inl ⟨rfl, by simp⟩)))) ?_
  refine ⟨rfl, ?_⟩
  have key : ∀ (A : Act) (Q : Exit → Act → World → Prop), (Q .normal (A.put (some 5) (A.eval (tm 14))) w.drew) → (mk (some 5) (.assign (tm 14))).wp P A w.drew (wpLd P (fun w' => w'.heap = w.heap) Q []) (fun _ _ _ => False) := fun A Q hQ => by
    unfold Oper.wp
    exact ⟨rfl, hQ⟩
  refine key _ _ (nwp_sq_cons (cs := []) (.ret ⟨?_, ?_, rfl⟩))
  · simp only [put_defers]; exact ed
  · rw [retOf_one]
    simp [eval_tm, gp, lt, put_size]

end
end Go.Proofs.YtleodfcpcfmfnaaDoor.Kx

/-
  TAGS, 12: the keys are sorted.
-/
namespace Go.Proofs.YtleodfcpcfmfnaaDoor.Kx
open Go Go.ChangeMaps Go.Shelf Go.Lib Go.Sort

section
variable {P : Program} {ρ : Ren}

def ltN (x y : Nat) : Bool := decide (x < y)
theorem swo_ltN : SWO ltN where
  irrefl x := by simp [ltN]
  trans x y z h1 h2 := by simp only [ltN, decide_eq_true_eq] at h1 h2 ⊢; omega
  ntrans x y z h1 h2 := by simp only [ltN, decide_eq_false_iff_not] at h1 h2 ⊢; omega

theorem keeps_grow (X : Nat → Prop) (w : World) (os : Array Obj) : Keeps X w (grow w os) := ⟨rfl, rfl, rfl, by rw [size_grow]; omega, fun k hk _ => heap_grow_old w os hk⟩

theorem sortOk_of (hm : P.follows .mixedOrders = true) {T : TN} (tf : TF P T) (L : LaysGg.n6 P ρ) (hρ : ρ.f 6 = T.fSort) (hSE : Ent P T.fSort) {nt : Nat} (hfn : FnIs P T.fLess nt [5] (cTLess T)) (hnt : 15 ≤ nt) {it ie : TypeInfo} (hi : P.info? T.tKs = some it) (hd : it.desc = .slice T.tU32) (hpk : P.packed T.tKs = false)
    (hie : P.info? T.tU32 = some ie) {ke : Nat} (hke : ∀ w, (Extern.Rtype.kind T.tU32).run P w = .ok ke w) (hs1 : ie.size = 1) (hby : ie.bytes = 4) (hptr : ie.hasPointers = false) (heg : ∀ args w, (callFunc T.fLess args).run P w = .ok (.enter T.fLess args) w)
    {f1 f2 f6 : Nat} (h1 : P.funcs.findIdx? (·.name == "internal/reflectlite" ++ ".Swapper$" ++ toString 1) = some f1) (h2 : P.funcs.findIdx? (·.name == "internal/reflectlite" ++ ".Swapper$" ++ toString 2) = some f2) (h6 : P.funcs.findIdx? (·.name == "internal/reflectlite" ++ ".Swapper$" ++ toString 6) = some f6)
    (hx : ∀ args W, (callFunc f6 args).run P W = ((Extern.ReflectliteSwapper.swap true args).run P W).andThen fun v w' => .ok (.value v) w') : SortOk P T := by
  refine ⟨hSE, fun w V G n ks cur hks hn hk32 hV hG hcs hVG hat => ?_⟩
  rw [← hρ]
  have hGl : G < w.heap.size := (Array.getElem?_eq_some_iff.1 hG).1
  have hVl : V < w.heap.size := (Array.getElem?_eq_some_iff.1 hV).1
  by_cases hn2 : 2 ≤ n
  · have hK : swapperK n ie ke = 6 := by
      have c : (n == 0) = false := by simp; omega
      have d : (n == 1) = false := by simp; omega
      simp [swapperK, hptr, hby, c, d]
    have hdsz : ks.toArray.size = n := by simpa using hks
    have hH : Holds u32v w G 0 ks.toArray := fun j hj => by
      have hj' : j < ks.length := by simpa using hj
      have e1 : ks[j]? = some ks.toArray[j]! := by rw [getElem!_pos ks.toArray j hj]; simp [hj']
      have := hat j _ e1
      refine ⟨by simp [World.cell?, hG, this], by simp [World.frozen?, hG]⟩
    have hless : LessReads P T.fLess #[pt V 0] u32v ltN G 0 ks.toArray.size w := by
      intro m os dk hs i j hi hj
      have hHa : Holds u32v (Sort.ahead w m) G 0 ks.toArray := holds_ahead _ _ _ _ _ _ hH
      have hcell : ∀ t, t < ks.toArray.size → (sortWorld u32v w G 0 m dk os).cell? ⟨G, t, none⟩ = some (u32v dk[t]!) := fun t ht => by
        unfold sortWorld
        rw [cell?_grow _ _ _ (by show G < (putRow u32v (Sort.ahead w m) G 0 dk).heap.size; simp only [putRow, mapBlock]; simpa using hGl)]
        have := cell?_putRow u32v (Sort.ahead w m) G 0 ks.toArray dk hHa hs t (by omega)
        rwa [Nat.zero_add] at this
      have hcV : (sortWorld u32v w G 0 m dk os).cell? ⟨V, 0, none⟩ = some (.slice (some ⟨G, 0, none⟩) n n) := by
        unfold sortWorld
        rw [cell?_grow _ _ _ (by show V < (putRow u32v (Sort.ahead w m) G 0 dk).heap.size; simp only [putRow, mapBlock]; simpa using hVl), cell?_putRow_other _ _ _ _ _ _ (.inl hVG)]
        show w.cell? ⟨V, 0, none⟩ = _
        simp [World.cell?, hV]
      have := less_calls hm tf hfn hnt (w := sortWorld u32v w G 0 m dk os) (V := V) (G := G) (n := n) (i := i) (j := j) hcV (by omega) (by omega) (hcell i hi) (hcell j hj)
      exact this.mono fun e w' h => ⟨h.1, 1, h.2⟩
    have hS := Any.sort_Slice_sorted L T.tKs T.tU32 it ie hi hd hpk hie ke hke hs1 tf.vU.agg u32v (fun _ => rfl) ltN swo_ltN T.fLess #[pt V 0] heg G 0 n ks.toArray (by omega) (by omega) f6 (by rw [hdsz, hK]; exact h6) true hx w hless hH hGl
    rw [hdsz] at hS
    refine hS.mono fun e w' h => ?_
    obtain ⟨he, d', m, os, hp, hso, rfl⟩ := h
    have hsz' : d'.size = n := hp.1.trans hdsz
    have hHa : Holds u32v (Sort.ahead w m) G 0 ks.toArray := holds_ahead _ _ _ _ _ _ hH
    have hPG : (putRow u32v (Sort.ahead w m) G 0 d').heap[G]? = some (.cells (putCells u32v 0 d' cur) T.tU32 (0, 0)) := by
      simp only [putRow, mapBlock, Array.getElem?_modify, if_true]
      show (w.heap[G]?).map _ = _
      rw [hG]; rfl
    have hPk : Keeps (fun k => k = G) w (putRow u32v (Sort.ahead w m) G 0 d') := ⟨rfl, rfl, rfl, by show w.heap.size ≤ (w.heap.modify G _).size; simp, fun k _ hk => by
      show (w.heap.modify G _)[k]? = _
      rw [Array.getElem?_modify, if_neg (fun e => hk e.symm)]⟩
    have hPs : (putRow u32v (Sort.ahead w m) G 0 d').heap.size = w.heap.size := by show (w.heap.modify G _).size = _; simp
    refine ⟨he, hPk.trans (keeps_grow _ _ _), putCells u32v 0 d' cur, d'.toList, by rw [heap_grow_old _ _ (by omega)]; exact hPG, ?_, ?_, fun i x hx => ?_⟩
    · have := hp.2.2
      have e1 : d'.extract 0 n = d' := by rw [← hsz']; simp
      have e2 : ks.toArray.extract 0 n = ks.toArray := by rw [← hdsz]; simp
      rw [e1, e2] at this
      simpa using this
    · rw [List.pairwise_iff_getElem]
      intro i j hi hj hij
      have hj' : j < n := by simp at hj; omega
      have := hso i j (Nat.zero_le _) hij (by omega)
      simp only [ltN, decide_eq_false_iff_not] at this
      rw [getElem!_pos d' j (by omega), getElem!_pos d' i (by omega)] at this
      simp only [Array.getElem_toList]
      omega
    · have hi' : i < d'.size := by
        have := (List.getElem?_eq_some_iff.1 hx).1
        simpa using this
      have hc := cell?_putRow u32v (Sort.ahead w m) G 0 ks.toArray d' hHa (by omega) i hi'
      have e1 : d'[i]! = x := by
        rw [getElem!_pos d' i hi']
        have := (List.getElem?_eq_some_iff.1 hx).2
        simpa using this
      simp only [World.cell?, hPG, Nat.zero_add, e1] at hc
      exact hc
  · have hK : swapperK n ie ke = n + 1 := by
      rcases Nat.eq_zero_or_pos n with h | h
      · subst h; simp [swapperK]
      · obtain rfl : n = 1 := by omega
        simp [swapperK]
    have hf : ∃ f, P.funcs.findIdx? (·.name == "internal/reflectlite" ++ ".Swapper$" ++ toString (swapperK n ie ke)) = some f := by
      rw [hK]
      rcases Nat.eq_zero_or_pos n with h | h
      · subst h; exact ⟨f1, h1⟩
      · obtain rfl : n = 1 := by omega
        exact ⟨f2, h2⟩
    obtain ⟨f, hf⟩ := hf
    have hS := Any.sort_Slice_tiny L T.tKs T.tU32 it ie hi hd hpk hie ke hke (some ⟨G, 0, none⟩) n n (by omega) f hf (.func T.fLess) #[] #[pt V 0] w
    refine hS.mono fun e w' h => ?_
    obtain ⟨he, os, rfl⟩ := h
    refine ⟨he, keeps_grow _ _ _, cur, ks, by rw [heap_grow_old _ _ hGl]; exact hG, .refl _, ?_, hat⟩
    match ks, hks with
    | [], _ => simp
    | [x], _ => simp
    | x :: y :: r, h => simp at h; omega

end
end Go.Proofs.YtleodfcpcfmfnaaDoor.Kx

/-
  TAGS, 13: small helps for a seat's text.
-/
namespace Go.Proofs.YtleodfcpcfmfnaaDoor.Kx
open Go

theorem fnIsC_of {P : Program} {f : Nat} {fn : Func} {ntmps s t : Nat} {d : Code} (hf : P.funcs[f]? = some fn) (hb : fn.body.map nCode = some d) (hn : fn.ntmps = ntmps) (hr : fn.results = #[ResultVar.cell s t]) (hg : (fn.name == "runtime.NumGoroutine") = false) : FnIsC P f ntmps s t d := by
  cases h : fn.body with
  | none => rw [h] at hb; cases hb
  | some c =>
    rw [h] at hb
    exact ⟨fn, c, hf, h, Option.some.inj hb, hn, hr, hg⟩

def infoB (P : Program) (U : Nat) : Bool := match P.info? U with | some i => (match i.zero with | some _ => i.size == 1 && i.bytes == 4 | none => false) | none => false
theorem infoB_ok {P : Program} {U : Nat} (h : infoB P U = true) : ∃ i z, P.info? U = some i ∧ i.zero = some z ∧ i.size = 1 ∧ i.bytes = 4 := by
  unfold infoB at h
  split at h
  · rename_i i hi
    split at h
    · rename_i z hz
      simp only [Bool.and_eq_true, beq_iff_eq] at h
      exact ⟨i, z, hi, hz, h.1, h.2⟩
    · cases h
  · cases h

end Go.Proofs.YtleodfcpcfmfnaaDoor.Kx
