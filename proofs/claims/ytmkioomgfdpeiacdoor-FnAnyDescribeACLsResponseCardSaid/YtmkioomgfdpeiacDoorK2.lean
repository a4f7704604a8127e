/-
  PLAIN LAWS AND CONTRACTS of messages, part 2 of 5: how readers and writers are printed, what they do, and that what is read is written as the same. Nothing of a statement stands here.
-/
import Derived.Test.YtmkioomgfdpeiacDoorK1

/-
  CHECKS: what a plan must be, by computation over the program's tables, for its printed reader to be sound.
-/
namespace Go.Proofs.YtmkioomgfdpeiacDoor.Kx
open Go

/-! ## The program's tables -/

def aggD : TypeDesc → Bool
  | .struct _ | .array _ _ => true
  | _ => false

def varB (P : Program) (F : Nat) (agg : Bool) (sz : Nat) : Bool :=
  match P.underlying F, P.info? F with
  | some d, some i => (aggD d == agg) && (i.size == sz)
  | _, _ => false
theorem varB_ok {P : Program} {F : Nat} {agg : Bool} {sz : Nat} (h : varB P F agg sz = true) : VarIs P F agg sz := by
  unfold varB at h
  split at h
  · rename_i d i hd hi
    simp only [Bool.and_eq_true, beq_iff_eq] at h
    have ht : TyIs P F d sz := ⟨hd, i, hi, h.2⟩
    refine ⟨fun w => ?_, fun w => ht.sizeOf w⟩
    rw [ht.isAgg w, ← h.1]
    cases d <;> rfl
  · cases h

def fldB (P : Program) (T k F off : Nat) (agg : Bool) (sz : Nat) : Bool :=
  (match P.underlying T with
    | some (.struct fs) => (match fs[k]? with | some f => (f.offset == off) && (f.type == F) | none => false)
    | _ => false) && varB P F agg sz && decide (0 < sz)
theorem fldB_ok {P : Program} {T k F off : Nat} {agg : Bool} {sz : Nat} (h : fldB P T k F off agg sz = true) : FldIs P T k F off agg sz := by
  simp only [fldB, Bool.and_eq_true, decide_eq_true_eq] at h
  obtain ⟨⟨h1, h2⟩, h3⟩ := h
  split at h1
  · rename_i fs hfs
    split at h1
    · rename_i f hf
      simp only [Bool.and_eq_true, beq_iff_eq] at h1
      exact ⟨⟨fs, f, hfs, hf, h1.1, h1.2⟩, varB_ok h2, h3⟩
    · cases h1
  · cases h1

/-- the type of a field -/
def fldT (P : Program) (T k : Nat) : Nat :=
  match P.underlying T with
  | some (.struct fs) => (match fs[k]? with | some f => f.type | none => 0)
  | _ => 0
def sizeT (P : Program) (F : Nat) : Nat := match P.info? F with | some i => i.size | none => 0

/-- the elements of a list's type: their type, their cells, their zero value -/
def rowOf (P : Program) (F : Nat) : Option (Nat × Nat × Array Value) :=
  match P.underlying F with
  | some (.slice E) =>
    match P.info? E with
    | some i =>
      match i.zero with
      | some z => if z.cells.size == i.size && decide (0 < i.size) && decide (0 < i.bytes) && decide (i.bytes ≤ 24 * i.size + 8) then some (E, i.size, z.cells) else none
      | none => none
    | none => none
  | _ => none
theorem rowOf_ok {P : Program} {F E sz : Nat} {z : Array Value} (h : rowOf P F = some (E, sz, z)) : RowIs P F E sz z := by
  unfold rowOf at h
  split at h
  · rename_i E' hE
    split at h
    · rename_i i hi
      split at h
      · rename_i z' hz
        split at h
        · rename_i hc
          simp only [Option.some.injEq, Prod.mk.injEq] at h
          obtain ⟨rfl, rfl, rfl⟩ := h
          simp only [Bool.and_eq_true, beq_iff_eq, decide_eq_true_eq] at hc
          obtain ⟨⟨⟨h1, h2⟩, h3⟩, h4⟩ := hc
          exact ⟨hE, i, z', hi, hz, rfl, rfl, h1, h2, h3, h4⟩
        · cases h
      · cases h
    · cases h
  · cases h

def zeroOf (P : Program) (E : Nat) : Option Value := match P.info? E with | some i => i.zero | none => none
theorem zeroOf_ok {P : Program} {E : Nat} {z : Value} (h : zeroOf P E = some z) (w : World) : (zeroValue E).run P w = .ok z w := by
  unfold zeroOf at h
  split at h
  · rename_i i hi
    simp [zeroValue, typeInfo, hi, h]
  · cases h

/-! ## Values that a new thing holds -/

def eqV : Value → Value → Bool
  | .bool a, .bool b => a == b
  | .int k x, .int k' y => (k == k') && (x == y)
  | .string a, .string b => a.data.isEmpty && b.data.isEmpty
  | .pointer none, .pointer none => true
  | .slice none a b, .slice none c d => (a == c) && (b == d)
  | .map none, .map none => true
  | _, _ => false
theorem eqV_ok {x y : Value} (h : eqV x y = true) : x = y := by
  unfold eqV at h
  split at h
  · simpa using h
  · rename_i k x k' y
    simp only [Bool.and_eq_true, beq_iff_eq] at h
    rw [h.1, h.2]
  · rename_i a b
    simp only [Bool.and_eq_true] at h
    obtain ⟨h1, h2⟩ := h
    obtain ⟨a⟩ := a
    obtain ⟨b⟩ := b
    simp only [Array.isEmpty_iff] at h1 h2
    rw [h1, h2]
  · rfl
  · simp only [Bool.and_eq_true, beq_iff_eq] at h
    rw [h.1, h.2]
  · rfl
  · cases h

def eqAt (z : Array Value) (o : Nat) (v : Value) : Bool := match z[o]? with | some x => eqV x v | none => false
theorem eqAt_ok {z : Array Value} {o : Nat} {v : Value} (h : eqAt z o v = true) : z[o]? = some v := by
  unfold eqAt at h
  split at h
  · rename_i x hx
    rw [hx, eqV_ok h]
  · cases h

def Prim.fitsB : Prim → Int → Bool
  | .bool, x => x == 0 || x == 1
  | .i8, x => decide (-128 ≤ x) && decide (x < 128)
  | .i16, x => decide (-32768 ≤ x) && decide (x < 32768)
  | .u16, x => decide (0 ≤ x) && decide (x < 65536)
  | .i32, x => decide (-2147483648 ≤ x) && decide (x < 2147483648)
  | .i64, x => decide (-9223372036854775808 ≤ x) && decide (x < 9223372036854775808)
  | .uuid, _ => false
theorem Prim.fitsB_ok {p : Prim} {x : Int} (h : p.fitsB x = true) : p.fits x := by
  cases p <;> simp [Prim.fitsB, Prim.fits] at h ⊢ <;> exact h

mutual
/-- the cells z hold a new thing of the type -/
def zTy (z : Array Value) (df : Int) : Ty → Nat → Bool
  | .prim .bool, o => (df == 0 && eqAt z o (.bool false)) || (df == 1 && eqAt z o (.bool true))
  | .prim .uuid, o => (List.range 16).all fun j => eqAt z (o + j) (.int .u8 0)
  | .prim p, o => eqAt z o (.int p.kind df) && p.fitsB df
  | .str none, o => eqAt z o (.string ⟨#[]⟩)
  | .str (some _), o => eqAt z o (.pointer none)
  | .bytes _, o => eqAt z o (.slice none 0 0)
  | .list _ _ _, o => eqAt z o (.slice none 0 0)
  | .struct none toff fs, o => zFds z fs o && (match toff with | some k => eqAt z (o + k) (.map none) | none => true)
  | .struct (some _) _ _, o => eqAt z o (.pointer none)
def zFds (z : Array Value) : Fds → Nat → Bool
  | .nil, _ => true
  | .cons _ _ _ df off ty r, o => zTy z df ty (o + off) && zFds z r o
end
def zTg (z : Array Value) (toff : Option Nat) : Bool := match toff with | some k => eqAt z k (.map none) | none => true

/-- block b holds the cells z from place q on -/
def HasZ (w : World) (b q : Nat) (z : Array Value) : Prop := ∀ j v, z[j]? = some v → w.cell? ⟨b, q + j, none⟩ = some v

theorem HasZ.one {w : World} {b q o : Nat} {z : Array Value} {v : Value} (h : HasZ w b q z) (hz : eqAt z o v = true) : w.cell? ⟨b, q + o, none⟩ = some v := h o v (eqAt_ok hz)

theorem cells1 {w : World} {b o : Nat} {v : Value} (h : w.cell? ⟨b, o, none⟩ = some v) : CellsAt w b o [v] := by
  intro j c hj
  cases j with
  | zero => simp at hj; subst hj; simpa using h
  | succ j => simp at hj

mutual
theorem zTy_ok {w : World} {b q : Nat} {z : Array Value} (hw : HasZ w b q z) (X : Nat → Prop) : ∀ (ty : Ty) (df : Int) (o : Nat), zTy z df ty o = true → Rp w X ty b (q + o) (dfTy df ty)
  | .prim p, df, o, h => by
    cases p
    case bool =>
      simp only [zTy, Bool.or_eq_true, Bool.and_eq_true, beq_iff_eq] at h
      rcases h with ⟨rfl, h⟩ | ⟨rfl, h⟩
      · exact ⟨_, cells1 (hw.one h), false, rfl, rfl⟩
      · exact ⟨_, cells1 (hw.one h), true, rfl, rfl⟩
    case uuid =>
      simp only [zTy, List.all_eq_true, List.mem_range] at h
      refine ⟨(uuid0.map fun b => .int .u8 (b.toNat : Int)), ?_, uuid0, rfl, rfl, rfl⟩
      intro j c hj
      have hjl : j < 16 := by
        have := (List.getElem?_eq_some_iff.1 hj).1
        simpa [uuid0] using this
      have hc : c = .int .u8 0 := by
        rw [List.getElem?_map, uuid0, List.getElem?_replicate, if_pos hjl] at hj
        simpa using hj.symm
      rw [hc]
      have := hw.one (h j hjl)
      rwa [← Nat.add_assoc] at this
    all_goals
      simp only [zTy, Bool.and_eq_true] at h
      exact ⟨_, cells1 (hw.one h.1), _, rfl, rfl, Prim.fitsB_ok h.2⟩
  | .str none, df, o, h => ⟨_, cells1 (hw.one h), [], rfl, rfl, by simp⟩
  | .str (some _), df, o, h => ⟨_, cells1 (hw.one h), .inl ⟨rfl, rfl⟩⟩
  | .bytes _, df, o, h => ⟨_, cells1 (hw.one h), .inl ⟨rfl, rfl⟩⟩
  | .list _ _ _, df, o, h => .inl ⟨hw.one h, rfl⟩
  | .struct none toff fs, df, o, h => by
    simp only [zTy, Bool.and_eq_true] at h
    refine ⟨_, [], rfl, zFds_ok hw X fs o h.1, ?_⟩
    cases toff with
    | none => rfl
    | some k =>
      refine ⟨.map none, ?_, .inl ⟨rfl, rfl⟩⟩
      have := hw.one h.2
      rwa [← Nat.add_assoc] at this
  | .struct (some _) _ _, df, o, h => .inl ⟨hw.one h, rfl⟩
theorem zFds_ok {w : World} {b q : Nat} {z : Array Value} (hw : HasZ w b q z) (X : Nat → Prop) : ∀ (fs : Fds) (o : Nat), zFds z fs o = true → RpF w X fs b (q + o) (dfFds fs)
  | .nil, o, h => rfl
  | .cons _ _ _ df off ty r, o, h => by
    simp only [zFds, Bool.and_eq_true] at h
    refine ⟨_, _, rfl, ?_, zFds_ok hw X r o h.2⟩
    have := zTy_ok hw X ty df (o + off) h.1
    rwa [← Nat.add_assoc] at this
end

theorem zTg_ok {w : World} {b q : Nat} {z : Array Value} (hw : HasZ w b q z) (X : Nat → Prop) {toff : Option Nat} (h : zTg z toff = true) : TgAt w X b q toff [] := by
  cases toff with
  | none => rfl
  | some k => exact ⟨.map none, hw.one h, .inl ⟨rfl, rfl⟩⟩

theorem applyWr_size (O : Nat) : ∀ (wr : List (Nat × Value)) (cur : Array Value), (applyWr cur O wr).size = cur.size
  | [], _ => rfl
  | p :: r, cur => by
    show (applyWr (cur.setIfInBounds (O + p.1) p.2) O r).size = _
    rw [applyWr_size O r]
    simp

/-- what Default leaves of a row that holds z at O -/
theorem applyWr_at (O : Nat) : ∀ (wr : List (Nat × Value)) (cur z : Array Value), (∀ p ∈ wr, p.1 < z.size) → O + z.size ≤ cur.size → (∀ j, j < z.size → cur[O + j]? = z[j]?) →
    ∀ j, j < z.size → (applyWr cur O wr)[O + j]? = (applyWr z 0 wr)[j]?
  | [], _, _, _, _, h, j, hj => h j hj
  | p :: r, cur, z, hp, hs, h, j, hj => by
    show (applyWr (cur.setIfInBounds (O + p.1) p.2) O r)[O + j]? = (applyWr (z.setIfInBounds (0 + p.1) p.2) 0 r)[j]?
    refine applyWr_at O r _ _ (fun q hq => by simpa using hp q (by simp [hq])) (by simpa using hs) (fun i hi => ?_) j (by simpa using hj)
    simp only [Array.size_setIfInBounds] at hi
    have hpz := hp p (by simp)
    rw [Array.getElem?_setIfInBounds, Array.getElem?_setIfInBounds, Nat.zero_add]
    by_cases he : p.1 = i
    · subst he
      rw [if_pos rfl, if_pos rfl, if_pos (by omega), if_pos hpz]
    · rw [if_neg (by omega), if_neg he]
      exact h i hi

/-- outside of the places that Default writes nothing turns -/
theorem applyWr_out (O : Nat) : ∀ (wr : List (Nat × Value)) (cur : Array Value) (j : Nat), (∀ p ∈ wr, O + p.1 ≠ j) → (applyWr cur O wr)[j]? = cur[j]?
  | [], _, _, _ => rfl
  | p :: r, cur, j, h => by
    show (applyWr (cur.setIfInBounds (O + p.1) p.2) O r)[j]? = _
    rw [applyWr_out O r _ j (fun q hq => h q (by simp [hq])), Array.getElem?_setIfInBounds, if_neg (h p (by simp))]

/-! ## What a plan must be -/

structure Ev where
  P : Program
  g : G
  av : PF → Bool
  D : Nat → Option (List (Nat × Value))

def xOk : Ty → List Nat → Bool
  | .str (some (_ + 1)), x => x.length == 1
  | .prim p, x => x.length == 0 || (x.length == 2 && p != .uuid)
  | _, x => x.length == 0
def leafOk (e : Ev) (hf : Bool) (m k0 : Nat) (ty : Ty) (v : Nat) (x : List Nat) : Bool := okVal e.av hf ty && slotsOk m k0 v x && xOk ty x
def Ty.agg : Ty → Bool
  | .prim .uuid => true
  | _ => false

/-- the places of fields -/
def Fds.In : Fds → Nat → Nat → Prop
  | .nil, _, _ => False
  | .cons _ _ _ _ off ty r, O, j => (O + off ≤ j ∧ j < O + off + ty.sz) ∨ r.In O j
/-- all fields lie outside of [lo, hi) -/
def offBy : Fds → Nat → Nat → Bool
  | .nil, _, _ => true
  | .cons _ _ _ _ off ty r, lo, hi => (decide (off + ty.sz ≤ lo) || decide (hi ≤ off)) && offBy r lo hi
def disjF : Fds → Bool
  | .nil => true
  | .cons _ _ _ _ off ty r => offBy r off (off + ty.sz) && disjF r
/-- fields without parts, all of them always there -/
def Fds.plain : Fds → Bool
  | .nil => true
  | .cons lo hi tag _ _ ty r => (lo == 0) && hi.isNone && tag.isNone && ty.leaf && r.plain
def Ty.inl : Ty → Bool
  | .struct none _ _ => true
  | _ => false

/-- a part: its fields and tags, its place for unknown tags -/
def okSt (e : Ev) (hf : Bool) (m k0 T kt : Nat) (toff : Option Nat) (fs : Fds) (nm : Nm) (okf okt : Bool) : Bool :=
  okf && disjF fs &&
  (match toff with | some o => hf && fldB e.P T kt e.g.tTags o true 1 && offBy fs o (o + 1) | none => !hf) &&
  (!(hf && fs.tagged) || (decide (m ≤ nm.n 0 ∧ nm.n 0 < nm.n 1 ∧ nm.n 1 < k0) && okt))

mutual
def okTy (e : Ev) (hf : Bool) (m k0 T off : Nat) : Ty → Nm → Bool
  | .prim p, nm => leafOk e hf m k0 (.prim p) (nm.n 0) (nm.l.drop 4) && nm.n 1 == T && fldB e.P T (nm.n 2) (nm.n 3) off (Ty.agg (.prim p)) (Ty.sz (.prim p)) && (p != .uuid || varB e.P e.g.tUuid true 16)
  | .str nul, nm => leafOk e hf m k0 (.str nul) (nm.n 0) (nm.l.drop 4) && nm.n 1 == T && fldB e.P T (nm.n 2) (nm.n 3) off false 1
  | .bytes nul, nm => leafOk e hf m k0 (.bytes nul) (nm.n 0) [] && nm.n 1 == T && fldB e.P T (nm.n 2) (nm.n 3) off false 1
  | .list _ esz el, nm =>
    decide (m ≤ nm.n 0 ∧ nm.n 0 < nm.n 4 ∧ nm.n 4 < nm.n 5 ∧ nm.n 5 < nm.n 6 ∧ nm.n 6 < k0) && nm.n 1 == T && fldB e.P T (nm.n 2) (nm.n 3) off false 1 &&
    (match rowOf e.P (nm.n 3) with
      | some (_, sz, z) => sz == esz && okEl e hf (nm.n 6 + 1) k0 esz z el (nm.sub 0) && hasLst e.g hf
      | none => false)
  | .struct none toff fs, nm =>
    decide (m ≤ nm.n 0 ∧ m ≤ nm.n 3 ∧ nm.n 0 < k0 ∧ nm.n 3 < k0 ∧ nm.n 0 ≠ nm.n 3) && nm.n 1 == T && fldB e.P T (nm.n 2) (fldT e.P T (nm.n 2)) off true (sizeT e.P (fldT e.P T (nm.n 2))) &&
    (match e.D (nm.n 4) with | some wr => wr.all fun p => decide (p.1 < fs.ext (toffEnd toff)) | none => false) && fs.plain && hf && okSt e hf (max (nm.n 0) (nm.n 3) + 1) k0 (nm.n 5) (nm.n 6) toff fs (nm.sub 0) (okFds e hf (max (nm.n 0) (nm.n 3) + 1) k0 (nm.n 5) fs (nm.sub 0).s) (okTagd e ((nm.sub 0).n 1 + 1) k0 (nm.n 5) fs (nm.sub 0).s)
  | .struct (some _) toff fs, nm =>
    decide (m ≤ nm.n 0 ∧ m ≤ nm.n 4 ∧ m ≤ nm.n 8 ∧ nm.n 0 < k0 ∧ nm.n 4 < k0 ∧ nm.n 8 < k0 ∧ nm.n 0 ≠ nm.n 4) && nm.n 1 == T && fldB e.P T (nm.n 2) (nm.n 3) off false 1 && (e.av .i8 && hasF e.g.ok) &&
    (match zeroOf e.P (nm.n 9), e.D (nm.n 5) with
      | some z, some wr => (wr.all fun p => decide (p.1 < z.cells.size)) && zFds (applyWr z.cells 0 wr) fs 0 && zTg (applyWr z.cells 0 wr) toff && decide (fs.ext (toffEnd toff) ≤ z.cells.size)
      | _, _ => false) && okSt e hf (max (nm.n 0) (nm.n 4) + 1) k0 (nm.n 6) (nm.n 7) toff fs (nm.sub 0) (okFds e hf (max (nm.n 0) (nm.n 4) + 1) k0 (nm.n 6) fs (nm.sub 0).s) (okTagd e ((nm.sub 0).n 1 + 1) k0 (nm.n 6) fs (nm.sub 0).s)
def okEl (e : Ev) (hf : Bool) (m k0 esz : Nat) (z : Array Value) : Ty → Nm → Bool
  | .struct none toff fs, nm =>
    decide (m ≤ nm.n 0 ∧ m ≤ nm.n 1 ∧ nm.n 0 < k0 ∧ nm.n 1 < k0 ∧ nm.n 0 ≠ nm.n 1) &&
    (match e.D (nm.n 2) with
      | some wr => (wr.all fun p => decide (p.1 < esz)) && zFds (applyWr z 0 wr) fs 0 && zTg (applyWr z 0 wr) toff && decide (fs.ext (toffEnd toff) ≤ esz)
      | none => false) && okSt e hf (max (nm.n 0) (nm.n 1) + 1) k0 (nm.n 3) (nm.n 4) toff fs (nm.sub 0) (okFds e hf (max (nm.n 0) (nm.n 1) + 1) k0 (nm.n 3) fs (nm.sub 0).s) (okTagd e ((nm.sub 0).n 1 + 1) k0 (nm.n 3) fs (nm.sub 0).s)
  | .struct (some _) _ _, _ => false
  | .list _ _ _, _ => false
  | .prim p, nm => leafOk e hf m k0 (.prim p) (nm.n 0) (nm.l.drop 2) && varB e.P (nm.n 1) (Ty.agg (.prim p)) (Ty.sz (.prim p)) && Ty.sz (.prim p) == esz && (p != .uuid || varB e.P e.g.tUuid true 16)
  | .str nul, nm => leafOk e hf m k0 (.str nul) (nm.n 0) (nm.l.drop 2) && varB e.P (nm.n 1) false 1 && 1 == esz
  | .bytes nul, nm => leafOk e hf m k0 (.bytes nul) (nm.n 0) (nm.l.drop 2) && varB e.P (nm.n 1) false 1 && 1 == esz
def okFds (e : Ev) (hf : Bool) (m k0 T : Nat) : Fds → List Nm → Bool
  | .nil, _ => true
  | .cons _ _ tag _ off ty r, ms => (tag.isSome || (okTy e hf m k0 T off ty (ms.headD (.mk [] [])) && !ty.inl)) && okFds e hf m k0 T r ms.tail
def okTagd (e : Ev) (m k0 T : Nat) : Fds → List Nm → Bool
  | .nil, _ => true
  | .cons _ _ tag _ off ty r, ms =>
    (match tag with
      | some t => decide (t < 4294967296) && decide (m ≤ (ms.headD (.mk [] [])).n 0 ∧ (ms.headD (.mk [] [])).n 0 < k0 ∧ m ≤ (ms.headD (.mk [] [])).n 1 ∧ (ms.headD (.mk [] [])).n 1 < k0) &&
        okTy e true ((ms.headD (.mk [] [])).n 0 + 1) k0 T off ty ((ms.headD (.mk [] [])).sub 0)
      | none => true) && okTagd e m k0 T r ms.tail
end

end Go.Proofs.YtmkioomgfdpeiacDoor.Kx

/-
  SOUND: the printed reader of a plan does what the plan's plain reader says. First: what a piece leaves as it was; fields, one behind the other.
-/
namespace Go.Proofs.YtmkioomgfdpeiacDoor.Kx
open Go

/-- said for all sets of blocks within A beside S -/
def FarA (A : Nat → Prop) (S : Nat) (T : (Nat → Prop) → Prop) : Prop := ∀ X : Nat → Prop, (∀ k, X k → A k) → ¬ X S → T X
theorem far_A {w : World} {S : Nat} {T : (Nat → Prop) → Prop} (h : Far w S T) : FarA (· < w.heap.size) S T := h
theorem FarA.mono {A A' : Nat → Prop} {S : Nat} {T : (Nat → Prop) → Prop} (h : FarA A S T) (ha : ∀ k, A' k → A k) : FarA A' S T := fun X hX hS => h X (fun k hk => ha k (hX k hk)) hS

/-- block B has at least n cells -/
def Blk (w : World) (B n te : Nat) : Prop := ∃ cur, w.heap[B]? = some (.cells cur te (0, 0)) ∧ n ≤ cur.size
theorem Blk.lt {w : World} {B n te : Nat} (h : Blk w B n te) : B < w.heap.size := by
  obtain ⟨cur, h, _⟩ := h
  exact (Array.getElem?_eq_some_iff.1 h).1
theorem Blk.evo {R B n te : Nat} {Z : Nat → Prop} {w w' : World} (h : Evo R B Z w w') (hb : Blk w B n te) : Blk w' B n te := by
  obtain ⟨cur, h1, h2⟩ := hb
  obtain ⟨cs, h3, h4, _⟩ := h.blk cur te h1
  exact ⟨cs, h3, by omega⟩
theorem Blk.mono {w : World} {B n n' te : Nat} (h : Blk w B n te) (hn : n' ≤ n) : Blk w B n' te := by
  obtain ⟨cur, h1, h2⟩ := h
  exact ⟨cur, h1, by omega⟩

theorem offBy_out : ∀ (fs : Fds) (lo hi O j : Nat), offBy fs lo hi = true → fs.In O j → ¬ (O + lo ≤ j ∧ j < O + hi)
  | .nil, _, _, _, _, _, h => h.elim
  | .cons _ _ _ _ off ty r, lo, hi, O, j, h, hj => by
    simp only [offBy, Bool.and_eq_true, Bool.or_eq_true, decide_eq_true_eq] at h
    rcases hj with hj | hj
    · omega
    · exact offBy_out r lo hi O j h.2 hj
theorem in_ext : ∀ (fs : Fds) (m O j : Nat), fs.In O j → O ≤ j ∧ j < O + fs.ext m
  | .nil, _, _, _, h => h.elim
  | .cons _ _ _ _ off ty r, m, O, j, h => by
    have h1 := le_ext r (Nat.max m (off + ty.sz))
    have h2 : off + ty.sz ≤ Nat.max m (off + ty.sz) := Nat.le_max_right _ _
    simp only [Fds.ext]
    rcases h with h | h
    · omega
    · exact in_ext r _ O j h

theorem RpF.frameIn {X : Nat → Prop} {w w' : World} (hk : Keeps X w w') : ∀ (fs : Fds) (b o : Nat) (vs : List V), RpF w X fs b o vs → (∀ j, fs.In o j → w'.cell? ⟨b, j, none⟩ = w.cell? ⟨b, j, none⟩) → RpF w' X fs b o vs
  | .nil, b, o, vs, h, _ => h
  | .cons _ _ _ _ off ty r, b, o, vs, h, hs => by
    obtain ⟨v, vs', h1, h2, h3⟩ := h
    exact ⟨v, vs', h1, Rp.frame hk ty b (o + off) v h2 (fun j ha hb => hs j (.inl ⟨ha, hb⟩)), RpF.frameIn hk r b o vs' h3 (fun j hj => hs j (.inr hj))⟩

section evo
variable {A : Nat → Prop} {S R B O n te : Nat} {Z : Nat → Prop} {w w' : World}

theorem Rp.evoA (h : Evo R B Z w w') (hR : A R) (hB : A B) (hRS : R ≠ S) (hBS : B ≠ S) (hb : Blk w B n te) {ty : Ty} {o : Nat} {v : V} (hv : FarA A S fun X => Rp w X ty B o v) (hd : ∀ j, o ≤ j → j < o + ty.sz → ¬ Z j) : FarA A S fun X => Rp w' X ty B o v := by
  intro X hX hS
  obtain ⟨cur, hc, _⟩ := hb
  have h1 := hv (fun k => X k ∨ k = R ∨ k = B) (fun k hk => by rcases hk with hk | rfl | rfl <;> first | exact hX k hk | assumption) (fun hk => by rcases hk with hk | hk | hk <;> first | exact hS hk | exact hRS hk.symm | exact hBS hk.symm)
  have h2 := Rp.frame (h.keeps.mono fun k _ hk => .inr hk) ty B o v h1 fun j h3 h4 => h.cell hc (hd j h3 h4)
  exact Rp.mono (fun k _ hk => .inl hk) ty B o v h2
theorem RpF.evoA (h : Evo R B Z w w') (hR : A R) (hB : A B) (hRS : R ≠ S) (hBS : B ≠ S) (hb : Blk w B n te) {fs : Fds} {vs : List V} (hv : FarA A S fun X => RpF w X fs B O vs) (hd : ∀ j, fs.In O j → ¬ Z j) : FarA A S fun X => RpF w' X fs B O vs := by
  intro X hX hS
  obtain ⟨cur, hc, _⟩ := hb
  have h1 := hv (fun k => X k ∨ k = R ∨ k = B) (fun k hk => by rcases hk with hk | rfl | rfl <;> first | exact hX k hk | assumption) (fun hk => by rcases hk with hk | hk | hk <;> first | exact hS hk | exact hRS hk.symm | exact hBS hk.symm)
  have h2 := RpF.frameIn (h.keeps.mono fun k _ hk => .inr hk) fs B O vs h1 fun j hj => h.cell hc (hd j hj)
  exact RpF.mono (fun k _ hk => .inl hk) fs B O vs h2
theorem TgAt.evoA (h : Evo R B Z w w') (hR : A R) (hB : A B) (hRS : R ≠ S) (hBS : B ≠ S) (hb : Blk w B n te) {toff : Option Nat} {t : List (Nat × Bs)} (hv : FarA A S fun X => TgAt w X B O toff t) (hd : ∀ k, toff = some k → ¬ Z (O + k)) : FarA A S fun X => TgAt w' X B O toff t := by
  intro X hX hS
  obtain ⟨cur, hc, _⟩ := hb
  have h1 := hv (fun k => X k ∨ k = R ∨ k = B) (fun k hk => by rcases hk with hk | rfl | rfl <;> first | exact hX k hk | assumption) (fun hk => by rcases hk with hk | hk | hk <;> first | exact hS hk | exact hRS hk.symm | exact hBS hk.symm)
  exact (h1.frame (h.keeps.mono fun k _ hk => .inr hk) fun k hk => h.cell hc (hd k hk)).mono fun k _ hk => .inl hk
/-- the same where a thing leans on no block at all -/
theorem RpF.evo0 (h : Evo R B Z w w') (hb : Blk w B n te) {fs : Fds} {vs : List V} (hv : ∀ X, RpF w X fs B O vs) (hd : ∀ j, fs.In O j → ¬ Z j) : ∀ X, RpF w' X fs B O vs := by
  intro X
  obtain ⟨cur, hc, _⟩ := hb
  have h1 := hv (fun k => X k ∨ k = R ∨ k = B)
  have h2 := RpF.frameIn (h.keeps.mono fun k _ hk => .inr hk) fs B O vs h1 fun j hj => h.cell hc (hd j hj)
  exact RpF.mono (fun k _ hk => .inl hk) fs B O vs h2
end evo

/-- the ways out of a piece -/
structure Outs {α : Type} (g : G) (S R B : Nat) (Z : Nat → Prop) (m k0 n : Nat) (a : Act) (w : World) (out : Out α) (G : α → World → Prop) (K E : Act → World → Prop) : Prop where
  ok : ∀ v r' a' w', out = .ok v r' → Pv 6 m k0 n a a' → RdS w' g.tR S R r' → Evo R B Z w w' → G v w' → K a' w'
  err : out = .err → ∀ a' w', Pv 6 m k0 n a a' → (∃ t y, a'.get 6 = .iface t y) → Keeps (fun k => k = R ∨ k = B) w w' → E a' w'
  go : out ≠ .stuck

structure Env (P : Program) (g : G) (av : PF → Bool) (fl : Bool) (D : Nat → Option (List (Nat × Value))) : Prop where
  kb : KB P g av fl
  df : ∀ f wr, D f = some wr → Ent P f ∧ DfC P f wr

def OldOk (w : World) (B o : Nat) (fx : Bool) : Ty → V → Prop
  | .list nul esz e, old => Rp w (fun _ => False) (.list nul esz e) B o old
  | .struct (some q) toff fs, old => Rp w (fun _ => False) (.struct (some q) toff fs) B o old
  | .struct none _ _, _ => fx = true
  | _, _ => True

section
variable (P : Program) (g : G) (av : PF → Bool) (fl : Bool) (D : Nat → Option (List (Nat × Value)))

def RdTy (ty : Ty) : Prop :=
  ∀ (nm : Nm) (cx : Cx) (fx : Bool) (ver : Int) (S R B O : Nat) (r : RS) (m k0 n T off : Nat) (old : V) (K E : Act → World → Prop) (a : Act) (w : World) (te : Nat),
    okTy ⟨P, g, av, D⟩ cx.hf m k0 T off ty nm = true → RC g cx fx ver S R B O r a w → CxOk cx m k0 → (cx.hf = true → fl = true) → k0 ≤ n → k0 ≤ a.tmps.size → (gL (gTy g cx ty nm) n).2 ≤ a.tmps.size → Blk w B (O + off + ty.sz) te → OldOk w B (O + off) fx ty old →
    Outs g S R B (fun j => O + off ≤ j ∧ j < O + off + ty.sz) m k0 n a w (rdTy fx ver ty old r) (fun v w' => Far w S fun X => Rp w' X ty B (O + off) v) K E → LW P (gTy g cx ty nm) n (Rt K E) a w

def RdFds (fs : Fds) : Prop :=
  ∀ (ms : List Nm) (cx : Cx) (fx : Bool) (ver : Int) (S R B O : Nat) (r : RS) (m k0 n T mm : Nat) (K E : Act → World → Prop) (a : Act) (w : World) (te : Nat),
    okFds ⟨P, g, av, D⟩ cx.hf m k0 T fs ms = true → disjF fs = true → RC g cx fx ver S R B O r a w → CxOk cx m k0 → (cx.hf = true → fl = true) → k0 ≤ n → k0 ≤ a.tmps.size → (gL (gFds g cx fs ms) n).2 ≤ a.tmps.size → Blk w B (O + fs.ext mm) te →
    (fs.plain = true ∨ ∀ X, RpF w X fs B O (dfFds fs)) →
    Outs g S R B (fs.In O) m k0 n a w (rdFds fx ver fs r) (fun vs w' => Far w S fun X => RpF w' X fs B O vs) K E → LW P (gFds g cx fs ms) n (Rt K E) a w
end

section
variable {P : Program} {g : G} {av : PF → Bool} {fl : Bool} {D : Nat → Option (List (Nat × Value))}

theorem fds_nil : RdFds P g av fl D .nil := by
  intro ms cx fx ver S R B O r m k0 n T mm K E a w te _ _ hrc hc _ hk _ _ _ _ ho
  exact LW_nil (ho.ok [] r a w rfl (Pv.refl _ _ _ _ _) hrc.rd (Evo.refl _ _ _ _) (fun X _ _ => rfl))

theorem far_trans {w w1 : World} {S : Nat} {T : (Nat → Prop) → Prop} (h : Far w1 S T) (hs : w.heap.size ≤ w1.heap.size) : Far w S T := fun X hX hS => h X (fun k hk => Nat.lt_of_lt_of_le (hX k hk) hs) hS

/-- behind the first field: the rest, then the whole -/
theorem fds_rest {lo : Nat} {hi tag : Option Nat} {df : Int} {off : Nat} {ty : Ty} {r0 : Fds} (h2 : RdFds P g av fl D r0) {ms : List Nm} {cx : Cx} {fx : Bool} {ver : Int} {S R B O : Nat} {r r1 : RS} {m k0 n n2 T mm : Nat} {K E : Act → World → Prop} {a a1 : Act} {w w1 : World} {te : Nat} {v : V}
    (hok : okFds ⟨P, g, av, D⟩ cx.hf m k0 T r0 ms = true) (hoff : offBy r0 off (off + ty.sz) = true) (hdj : disjF r0 = true) (hrc : RC g cx fx ver S R B O r a w) (hc : CxOk cx m k0) (hfl : cx.hf = true → fl = true) (hk : k0 ≤ n) (hn2 : n ≤ n2) (hks : k0 ≤ a.tmps.size)
    (hn : (gL (gFds g cx r0 ms) n2).2 ≤ a.tmps.size) (hb : Blk w B (O + (Fds.cons lo hi tag df off ty r0).ext mm) te) (hpl : r0.plain = true ∨ ∀ X, RpF w X r0 B O (dfFds r0)) (hp : Pv 6 m k0 n a a1) (hrd : RdS w1 g.tR S R r1) (hev : Evo R B (fun j => O + off ≤ j ∧ j < O + off + ty.sz) w w1)
    (hv : Far w S fun X => Rp w1 X ty B (O + off) v)
    (ho : Outs g S R B ((Fds.cons lo hi tag df off ty r0).In O) m k0 n a w ((rdFds fx ver r0 r1).bind fun vs r => .ok (v :: vs) r) (fun vs w' => Far w S fun X => RpF w' X (.cons lo hi tag df off ty r0) B O vs) K E) :
    LW P (gFds g cx r0 ms) n2 (Rt K E) a1 w1 := by
  have hRw : R < w.heap.size := hrc.rd.lt
  have hBw : B < w.heap.size := hb.lt
  have hout : ∀ j, r0.In O j → ¬ (O + off ≤ j ∧ j < O + off + ty.sz) := fun j hj hh => offBy_out r0 off (off + ty.sz) O j hoff hj ⟨hh.1, by omega⟩
  have hs1 := hp.size
  have hrc1 : RC g cx fx ver S R B O r1 a1 w1 := hrc.step hc hp hrd hev.keeps (fun _ _ h => h)
  have hb1 := hb.evo hev
  refine h2 ms cx fx ver S R B O r1 m k0 n2 T (Nat.max mm (off + ty.sz)) K E a1 w1 te hok hdj hrc1 hc hfl (by omega) (by omega) (by omega) hb1 ?_ ⟨fun vs r2 a2 w2 he hp2 hrd2 hev2 hvs => ?_, fun he a2 w2 hp2 hif hk2 => ?_, fun he => ?_⟩
  · rcases hpl with hpl | hpl
    · exact .inl hpl
    · exact .inr (RpF.evo0 hev hb hpl hout)
  · refine ho.ok (v :: vs) r2 a2 w2 (by rw [he]; rfl) (hp.trans (hp2.mono (Nat.le_refl _) hn2)) hrd2 ((hev.mono fun j hj => .inl hj).trans (hev2.mono fun j hj => .inr hj)) fun X hX hS => ⟨v, vs, rfl, ?_, ?_⟩
    · exact Rp.evoA (A := (· < w.heap.size)) hev2 hRw hBw hrc.SR.symm hrc.BS hb1 hv (fun j ha hb hj => hout j hj ⟨ha, hb⟩) X hX hS
    · exact far_trans hvs hev.keeps.size X hX hS
  · exact ho.err (by rw [he]; rfl) a2 w2 (hp.trans (hp2.mono (Nat.le_refl _) hn2)) hif (hev.keeps.trans hk2)
  · exact ho.go (by rw [he]; rfl)

theorem oldOk_of {w : World} {B o : Nat} {fx : Bool} {ty : Ty} {old : V} (hi : ty.inl = false) (h : ∀ X, Rp w X ty B o old) : OldOk w B o fx ty old := by
  cases ty with
  | struct nul toff fs =>
    cases nul with
    | none => cases hi
    | some q => exact h _
  | list nul esz e => exact h _
  | _ => trivial
theorem oldOk_leaf {w : World} {B o : Nat} {fx : Bool} {ty : Ty} {old : V} (hi : ty.leaf = true) : OldOk w B o fx ty old := by
  cases ty <;> first | trivial | cases hi

theorem fds_cons {lo : Nat} {hi tag : Option Nat} {df : Int} {off : Nat} {ty : Ty} {r0 : Fds} (h1 : RdTy P g av fl D ty) (h2 : RdFds P g av fl D r0) : RdFds P g av fl D (.cons lo hi tag df off ty r0) := by
  intro ms cx fx ver S R B O r m k0 n T mm K E a w te hok hdj hrc hc hfl hk hks hn hb hpl ho
  simp only [okFds, Bool.and_eq_true, Bool.or_eq_true] at hok
  simp only [disjF, Bool.and_eq_true] at hdj
  have hRw : R < w.heap.size := hrc.rd.lt
  have hBw : B < w.heap.size := hb.lt
  have hext := le_ext r0 (Nat.max mm (off + ty.sz))
  have hext2 : off + ty.sz ≤ Nat.max mm (off + ty.sz) := Nat.le_max_right _ _
  have hup : UpL (gFds g cx r0 ms.tail) := up_gFds g r0 _ cx
  by_cases ht : tag.isNone = true ∧ has lo hi ver = true
  · obtain ⟨htn, hhas⟩ := ht
    have htag : tag.isSome = false := by cases tag <;> first | rfl | cases htn
    simp only [htag, Bool.false_eq_true, false_or, Bool.not_eq_true'] at hok
    obtain ⟨⟨hoty, hinl⟩, hokr⟩ := hok
    have hupT : UpL (gTy g cx ty (ms.headD (.mk [] []))) := up_gTy g ty _ cx
    simp only [gFds, htn, if_true] at hn ⊢
    have hupR := hup (gGuard g cx lo hi (gS (gTy g cx ty (ms.headD (.mk [] [])))) n).2
    simp only [gL] at hn
    refine LW_cons ?_
    rw [then_rt]
    refine s_guard (x := 6) (m := m) (k0 := k0) (ver := ver) hrc.sv hc.le hk (by have := hc.ver; have := hc.le; omega) (up_S hupT) (by omega) (fun a' n' hp hn1 hn2 hg _ => ?_) (fun a' hp hno => by rw [hhas] at hno; cases hno)
    have hs := hp.size
    have hrc' : RC g cx fx ver S R B O r a' w := hrc.step hc hp hrc.rd (Keeps.refl (fun _ => False) w) (fun _ _ h => h.elim)
    have hnT := hupT n'
    have hg' : (gGuard g cx lo hi (gS (gTy g cx ty (ms.headD (.mk [] [])))) n).2 = (gL (gTy g cx ty (ms.headD (.mk [] []))) n').2 := hg
    have hold : OldOk w B (O + off) fx ty (dfTy df ty) := by
      rcases hpl with hpl | hpl
      · simp only [Fds.plain, Bool.and_eq_true] at hpl
        exact oldOk_leaf hpl.1.2
      · exact oldOk_of hinl fun X => by obtain ⟨v, vs', he, hv, _⟩ := hpl X; cases he; exact hv
    have hplr : r0.plain = true ∨ ∀ X, RpF w X r0 B O (dfFds r0) := by
      rcases hpl with hpl | hpl
      · simp only [Fds.plain, Bool.and_eq_true] at hpl
        exact .inl hpl.2
      · exact .inr fun X => by obtain ⟨v, vs', he, _, hv⟩ := hpl X; cases he; exact hv
    have hrdf : rdFds fx ver (.cons lo hi tag df off ty r0) r = (rdTy fx ver ty (dfTy df ty) r).bind fun v r => (rdFds fx ver r0 r).bind fun vs r => .ok (v :: vs) r := by simp [rdFds, htn, hhas]
    rw [hrdf] at ho
    refine nwp_gS (h1 _ cx fx ver S R B O r m k0 n' T off (dfTy df ty) _ E a' w te hoty hrc' hc hfl (by omega) (by omega) (by omega) (hb.mono (by simp only [Fds.ext]; omega)) hold ⟨fun v r1 a1 w1 he hp1 hrd1 hev1 hv1 => ?_, fun he a1 w1 hp1 hif hk1 => ?_, fun he => ?_⟩)
    · rw [he] at ho
      exact fds_rest h2 hokr hdj.1 hdj.2 hrc hc hfl hk (by omega) hks hn hb hplr (hp.trans (hp1.mono (Nat.le_refl _) hn1)) hrd1 hev1 hv1 ho
    · exact ho.err (by rw [he]; rfl) a1 w1 (hp.trans (hp1.mono (Nat.le_refl _) hn1)) hif hk1
    · exact ho.go (by rw [he]; rfl)
  · have hnp : ¬ (Fds.cons lo hi tag df off ty r0).plain = true := by
      intro hp
      simp only [Fds.plain, Bool.and_eq_true, beq_iff_eq] at hp
      refine ht ⟨hp.1.1.2, ?_⟩
      have hh : hi = none := by cases hi <;> first | rfl | simp at hp
      simp [has, hp.1.1.1.1, hh]
    have hpl' : ∀ X, RpF w X (.cons lo hi tag df off ty r0) B O (dfFds (.cons lo hi tag df off ty r0)) := by
      rcases hpl with h | h
      · exact absurd h hnp
      · exact h
    have hplr : r0.plain = true ∨ ∀ X, RpF w X r0 B O (dfFds r0) := .inr fun X => by obtain ⟨v, vs', he, _, hv⟩ := hpl' X; cases he; exact hv
    have hv0 : Far w S fun X => Rp w X ty B (O + off) (dfTy df ty) := fun X _ _ => by obtain ⟨v, vs', he, hv, _⟩ := hpl' X; cases he; exact hv
    have hrdf : rdFds fx ver (.cons lo hi tag df off ty r0) r = (rdFds fx ver r0 r).bind fun vs r => .ok (dfTy df ty :: vs) r := by
      have : (tag.isNone && has lo hi ver) = false := by
        cases h : (tag.isNone && has lo hi ver) with
        | false => rfl
        | true => simp only [Bool.and_eq_true] at h; exact absurd h ht
      simp [rdFds, this]
    rw [hrdf] at ho
    cases htn : tag.isNone with
    | false =>
      simp only [gFds, htn, Bool.false_eq_true, if_false] at hn ⊢
      exact fds_rest h2 hok.2 hdj.1 hdj.2 hrc hc hfl hk (Nat.le_refl _) hks hn hb hplr (Pv.refl _ _ _ _ _) hrc.rd (Evo.refl _ _ _ _) hv0 ho
    | true =>
      have hupT : UpL (gTy g cx ty (ms.headD (.mk [] []))) := up_gTy g ty _ cx
      simp only [gFds, htn, if_true] at hn ⊢
      simp only [gL] at hn
      have hupR := hup (gGuard g cx lo hi (gS (gTy g cx ty (ms.headD (.mk [] [])))) n).2
      have hupG : n ≤ (gGuard g cx lo hi (gS (gTy g cx ty (ms.headD (.mk [] [])))) n).2 := by
        have hu : Up (gGuard g cx lo hi (gS (gTy g cx ty (ms.headD (.mk [] []))))) := by
          unfold gGuard
          split
          · exact up_if (up_S hupT) (up_code _)
          · exact up_ite (up_S hupT) (up_if (up_S hupT) (up_code _))
        exact hu n
      refine LW_cons ?_
      rw [then_rt]
      refine s_guard (x := 6) (m := m) (k0 := k0) (ver := ver) hrc.sv hc.le hk (by have := hc.ver; have := hc.le; omega) (up_S hupT) (by omega) (fun a' n' hp hn1 hn2 hg hhas => absurd ⟨htn, hhas⟩ ht) (fun a' hp hno => ?_)
      have hs := hp.size
      exact fds_rest h2 hok.2 hdj.1 hdj.2 hrc hc hfl hk hupG hks hn hb hplr hp hrc.rd (Evo.refl _ _ _ _) hv0 ho

end
end Go.Proofs.YtmkioomgfdpeiacDoor.Kx

/-
  SOUND, 2: a field without parts; the cases of the known tags.
-/
namespace Go.Proofs.YtmkioomgfdpeiacDoor.Kx
open Go

section
variable {P : Program} {g : G} {av : PF → Bool} {fl : Bool} {D : Nat → Option (List (Nat × Value))}

theorem LRp.one {w : World} {X : Nat → Prop} {ty : Ty} {cs : List Value} {v : V} (h : LRp w X ty cs v) : ∀ u ∈ cs, u.oneCell' = true := by
  cases ty with
  | prim p =>
    cases p
    case bool => obtain ⟨b, rfl, _⟩ := h; intro u hu; simp at hu; subst hu; rfl
    case uuid =>
      obtain ⟨l, hl, rfl, _⟩ := h
      intro u hu
      obtain ⟨b, _, rfl⟩ := List.mem_map.1 hu
      rfl
    all_goals (obtain ⟨x, rfl, _⟩ := h; intro u hu; simp at hu; subst hu; rfl)
  | str nul =>
    cases nul with
    | none => obtain ⟨l, rfl, _⟩ := h; intro u hu; simp at hu; subst hu; rfl
    | some m =>
      rcases h with ⟨rfl, _⟩ | ⟨l, b, o, rfl, _⟩ <;> (intro u hu; simp at hu; subst hu; rfl)
  | bytes nul =>
    rcases h with ⟨rfl, _⟩ | ⟨l, b, o, c, rfl, _⟩ <;> (intro u hu; simp at hu; subst hu; rfl)
  | list => exact h.elim
  | struct => exact h.elim

theorem rp_leaf {w : World} {X : Nat → Prop} {ty : Ty} {b o : Nat} {v : V} {cs : List Value} (hl : ty.leaf = true) (hc : CellsAt w b o cs) (h : LRp w X ty cs v) : Rp w X ty b o v := by
  cases ty <;> first | exact ⟨cs, hc, h⟩ | cases hl

theorem xOk_form {ty : Ty} {x : List Nat} (h : xOk ty x = true) : (∃ t, x = [t] ∧ ∃ q, ty = .str (some (q + 1))) ∨ (x = [] ∧ ∀ q, ty ≠ .str (some (q + 1))) ∨ (∃ t u, x = [t, u] ∧ ∃ p, ty = .prim p ∧ p ≠ .uuid) := by
  cases ty with
  | prim p =>
    simp only [xOk, Bool.or_eq_true, beq_iff_eq, Bool.and_eq_true, bne_iff_ne] at h
    rcases h with h | ⟨h, hp⟩
    · exact .inr (.inl ⟨List.length_eq_zero_iff.1 h, fun q hq => by cases hq⟩)
    · match x, h with
      | [t, u], _ => exact .inr (.inr ⟨t, u, rfl, p, rfl, hp⟩)
  | str nul =>
    cases nul with
    | none => simp only [xOk, beq_iff_eq] at h; exact .inr (.inl ⟨List.length_eq_zero_iff.1 h, fun q hq => by cases hq⟩)
    | some q =>
      cases q with
      | zero => simp only [xOk, beq_iff_eq] at h; exact .inr (.inl ⟨List.length_eq_zero_iff.1 h, fun q hq => by cases hq⟩)
      | succ q =>
        simp only [xOk, beq_iff_eq] at h
        obtain ⟨t, rfl⟩ := List.length_eq_one_iff.1 h
        exact .inl ⟨t, rfl, q, rfl⟩
  | _ => simp only [xOk, beq_iff_eq] at h; exact .inr (.inl ⟨List.length_eq_zero_iff.1 h, fun q hq => by cases hq⟩)

/-- a field without parts -/
theorem leaf_rd (K0 : KB P g av fl) {ty : Ty} (hl : ty.leaf = true) {nm : Nm} {cx : Cx} {fx : Bool} {ver : Int} {S R B O : Nat} {r : RS} {m k0 n T off : Nat} {K E : Act → World → Prop} {a : Act} {w : World} {te : Nat} {x : List Nat} {old : V}
    (hg : gTy g cx ty nm = gVal g cx ty (nm.n 0) x ++ [gStore (uuOf g ty) cx.s (nm.n 0) (nm.n 1) (nm.n 2) (nm.n 3)]) (hlo : leafOk ⟨P, g, av, D⟩ cx.hf m k0 ty (nm.n 0) x = true) {agg : Bool} (hF : FldIs P (nm.n 1) (nm.n 2) (nm.n 3) off agg ty.sz)
    (huu : uuOf g ty = none ∨ (uuOf g ty = some g.tUuid ∧ VarIs P g.tUuid true ty.sz)) (_hT : nm.n 1 = T)
    (hrc : RC g cx fx ver S R B O r a w) (hc : CxOk cx m k0) (hk : k0 ≤ n) (hks : k0 ≤ a.tmps.size) (hn : (gL (gTy g cx ty nm) n).2 ≤ a.tmps.size) (hb : Blk w B (O + off + ty.sz) te)
    (ho : Outs g S R B (fun j => O + off ≤ j ∧ j < O + off + ty.sz) m k0 n a w (rdTy fx ver ty old r) (fun v w' => Far w S fun X => Rp w' X ty B (O + off) v) K E) : LW P (gTy g cx ty nm) n (Rt K E) a w := by
  have hRw : R < w.heap.size := hrc.rd.lt
  have hBw : B < w.heap.size := hb.lt
  simp only [leafOk, Bool.and_eq_true] at hlo
  obtain ⟨⟨h1, h2⟩, h3⟩ := hlo
  have hvm : m ≤ nm.n 0 ∧ nm.n 0 < k0 := by simp only [slotsOk, Bool.and_eq_true, decide_eq_true_eq] at h2; exact h2.1
  have hle := hc.le
  rw [hg] at hn ⊢
  rw [gL_append] at hn
  simp only [gL, gStore, gOps] at hn
  have hup := up_gVal g cx ty (nm.n 0) x n
  refine s_val K0 (ver := ver) h1 hrc hc hk h2 hks (xOk_form h3) (by omega) fun a1 w1 hp => ?_
  obtain ⟨cs, hp1, hval, hrd1, hk1, hl1⟩ := hp
  have hs1 := hp1.size
  have hlr := hl1 (fun _ => False) (fun _ h => h.elim) id
  have hlen := hlr.len
  obtain ⟨cur, hB, hsz⟩ := hb
  have hB1 : w1.heap[B]? = some (.cells cur te (0, 0)) := by rw [hk1.block B hBw hrc.BR]; exact hB
  have hrc1 : RC g cx fx ver S R B O (leafRun fx ver ty r).2 a1 w1 := hrc.step hc hp1 hrd1 hk1 (fun _ _ h => .inl h)
  refine LW_cons (s_store (x := 6) (m := m) (k0 := k0) (cs := cs) (cur := cur) (te := te) hrc1.ss hF ?_ hlen hlr.one hB1 (by omega) hle (by omega) (by omega) (by omega) fun a2 hp2 => LW_nil ?_)
  · rcases huu with hu | ⟨hu, hU⟩
    · rw [hu] at hval ⊢; exact hval
    · rw [hu] at hval ⊢; exact ⟨by rw [hlen]; exact hU, hval⟩
  · have hev : Evo R B (fun j => O + off ≤ j ∧ j < O + off + ty.sz) w1 (w1.setRow B (splice cur (O + off) cs)) := Evo.store hB1 (by rw [hlen]; omega) (fun j ha hb => ⟨ha, by rw [hlen] at hb; omega⟩)
    refine ho.ok _ _ a2 _ (rdTy_leaf fx ver ty old r hl) (hp1.trans (hp2.mono (Nat.le_refl _) hup)) (hrd1.keep (Keeps.setRow (fun k => k = B) _ _ _ rfl) (fun h => hrc.BS h.symm) (fun h => hrc.BR h.symm))
      ((Evo.of_keeps hk1 (fun _ _ h => h) hrc.BR).trans hev) fun X hX hS => ?_
    refine rp_leaf hl (fun j c hj => ?_) (((hl1 (fun k => X k ∨ k = B) (fun k hk => by rcases hk with hk | rfl <;> first | exact hX k hk | exact hBw) (fun hk => by rcases hk with hk | hk <;> first | exact hS hk | exact hrc.BS hk.symm)).keep
      (Keeps.setRow (fun k => X k ∨ k = B) _ _ _ (.inr rfl))).mono fun k _ hk => .inl hk)
    have hjl : j < cs.length := (List.getElem?_eq_some_iff.1 hj).1
    rw [cell_setRow_same _ _ _ _ _ _ _ hB1, splice_in (by omega) j hjl]
    exact hj

theorem ty_prim (K0 : KB P g av fl) (p : Prim) : RdTy P g av fl D (.prim p) := by
  intro nm cx fx ver S R B O r m k0 n T off old K E a w te hok hrc hc _ hk hks hn hb _ ho
  simp only [okTy, Bool.and_eq_true, beq_iff_eq, Bool.or_eq_true, bne_iff_ne] at hok
  obtain ⟨⟨⟨h1, h2⟩, h3⟩, h4⟩ := hok
  subst h2
  refine leaf_rd (D := D) (x := nm.l.drop 4) K0 rfl (by simp only [gTy]) h1 (fldB_ok h3) ?_ rfl hrc hc hk hks hn hb ho
  by_cases hp : p = .uuid
  · subst hp
    rcases h4 with h | h
    · exact absurd rfl h
    · exact .inr ⟨rfl, varB_ok h⟩
  · exact .inl (by cases p <;> first | rfl | exact absurd rfl hp)
theorem ty_str (K0 : KB P g av fl) (nul : Option Nat) : RdTy P g av fl D (.str nul) := by
  intro nm cx fx ver S R B O r m k0 n T off old K E a w te hok hrc hc _ hk hks hn hb _ ho
  simp only [okTy, Bool.and_eq_true, beq_iff_eq] at hok
  obtain ⟨⟨h1, h2⟩, h3⟩ := hok
  subst h2
  exact leaf_rd (D := D) (x := nm.l.drop 4) K0 rfl (by simp only [gTy, uuOf]) h1 (fldB_ok h3) (.inl rfl) rfl hrc hc hk hks hn hb ho
theorem ty_bytes (K0 : KB P g av fl) (nul : Option Nat) : RdTy P g av fl D (.bytes nul) := by
  intro nm cx fx ver S R B O r m k0 n T off old K E a w te hok hrc hc _ hk hks hn hb _ ho
  simp only [okTy, Bool.and_eq_true, beq_iff_eq] at hok
  obtain ⟨⟨h1, h2⟩, h3⟩ := hok
  subst h2
  exact leaf_rd (D := D) (x := []) K0 rfl (by simp only [gTy, uuOf]) h1 (fldB_ok h3) (.inl rfl) rfl hrc hc hk hks hn hb ho

/-- an inner reader's turn -/
theorem Evo.inner {R B R' : Nat} {Z Z' : Nat → Prop} {w w1 w2 : World} (h : Evo R B Z w w1) (k : Evo R' B Z' w1 w2) (hR' : w.heap.size ≤ R') : Evo R B (fun j => Z j ∨ Z' j) w w2 := by
  refine ⟨⟨k.keeps.os.trans h.keeps.os, k.keeps.tape.trans h.keeps.tape, k.keeps.output.trans h.keeps.output, Nat.le_trans h.keeps.size k.keeps.size, fun i hi hx => ?_⟩, fun cs te hc => ?_⟩
  · rw [k.keeps.block i (Nat.lt_of_lt_of_le hi h.keeps.size) (fun hh => by rcases hh with rfl | rfl; omega; exact hx (.inr rfl)), h.keeps.block i hi hx]
  · obtain ⟨c1, h1, h2, h3⟩ := h.blk cs te hc
    obtain ⟨c2, k1, k2, k3⟩ := k.blk c1 te h1
    exact ⟨c2, k1, k2.trans h2, fun j hj => (k3 j fun hh => hj (.inr hh)).trans (h3 j fun hh => hj (.inl hh))⟩

/-- what Span gave, as the bytes of a reader of its own -/
def inner (r : RS) : RS := ⟨(rSpan (rUv r).1 (rUv r).2).1.octets, false, (rSpan (rUv r).1 (rUv r).2).1.isNul⟩
def behind (r : RS) : RS := (rSpan (rUv r).1 (rUv r).2).2
end

section
variable (P : Program) (g : G) (av : PF → Bool) (fl : Bool) (D : Nat → Option (List (Nat × Value)))

/-- the cases of a switch over tags -/
def RdCase (fs : Fds) : Prop :=
  ∀ (ms : List Nm) (cx : Cx) (ver : Int) (S R B O : Nat) (r : RS) (m k0 n T mm key kk : Nat) (dflt : Code) (vs : List V) (A : Nat → Prop) (K E : Act → World → Prop) (a : Act) (w : World) (te : Nat),
    okTagd ⟨P, g, av, D⟩ m k0 T fs ms = true → disjF fs = true → RC g cx true ver S R B O r a w → CxOk cx m k0 → cx.hf = true → fl = true → k0 ≤ n → k0 ≤ a.tmps.size → (gCases g key dflt (gTagd g cx fs ms) n).2 ≤ a.tmps.size → Blk w B (O + fs.ext mm) te →
    a.get key = .int .u32 kk → k0 ≤ key → key < n → A R → A B → (∀ k, A k → k < w.heap.size) → FarA A S (fun X => RpF w X fs B O vs) →
    (rdTag true ver fs kk = none → ∀ a', Pv 6 m k0 n a a' → a'.get key = .int .u32 kk → NWP P dflt (Rt K E) a' w) →
    (∀ gf, rdTag true ver fs kk = some gf →
      (∀ vs' r' a' w', gf vs (inner r) = .ok vs' r' → r'.bad = false → Pv 6 m k0 n a a' → RdS w' g.tR S R (behind r) → Evo R B (fs.In O) w w' → FarA A S (fun X => RpF w' X fs B O vs') → K a' w') ∧
      ((gf vs (inner r) = .err ∨ ∃ vs' r', gf vs (inner r) = .ok vs' r' ∧ r'.bad = true) → ∀ a' w', Pv 6 m k0 n a a' → (∃ t y, a'.get 6 = .iface t y) → Keeps (fun k => k = R ∨ k = B) w w' → E a' w') ∧ gf vs (inner r) ≠ .stuck) →
    NWP P (gCases g key dflt (gTagd g cx fs ms) n).1 (Rt K E) a w
end

section
variable {P : Program} {g : G} {av : PF → Bool} {fl : Bool} {D : Nat → Option (List (Nat × Value))}

theorem case_nil : RdCase P g av fl D .nil := by
  intro ms cx ver S R B O r m k0 n T mm key kk dflt vs A K E a w te _ _ hrc hc _ _ hk _ _ _ hkey _ _ _ _ _ _ hnone _
  exact hnone rfl a (Pv.refl _ _ _ _ _) hkey

theorem case_rest {lo : Nat} {hi tag : Option Nat} {df : Int} {off : Nat} {ty : Ty} {r0 : Fds} (h2 : RdCase P g av fl D r0) {ms : List Nm} {cx : Cx} {ver : Int} {S R B O : Nat} {r : RS} {m k0 n n2 T mm key kk : Nat} {dflt : Code} {v : V} {vs : List V} {A : Nat → Prop} {K E : Act → World → Prop} {a a1 : Act} {w : World} {te : Nat}
    (hok : okTagd ⟨P, g, av, D⟩ m k0 T r0 ms = true) (hoff : offBy r0 off (off + ty.sz) = true) (hdj : disjF r0 = true) (hrc : RC g cx true ver S R B O r a w) (hc : CxOk cx m k0) (hhf : cx.hf = true) (hfl : fl = true) (_hk : k0 ≤ n) (hn2 : n ≤ n2) (hks : k0 ≤ a.tmps.size)
    (hn : (gCases g key dflt (gTagd g cx r0 ms) n2).2 ≤ a.tmps.size) (hb : Blk w B (O + (Fds.cons lo hi tag df off ty r0).ext mm) te) (hp : Pv 6 m k0 n a a1) (hkey : a1.get key = .int .u32 kk) (hk0 : k0 ≤ key) (hkn : key < n) (hAR : A R) (hAB : A B) (hA : ∀ k, A k → k < w.heap.size)
    (hv : FarA A S fun X => Rp w X ty B (O + off) v) (hvs : FarA A S fun X => RpF w X r0 B O vs) (hne : (tag == some kk) = false)
    (hnone : rdTag true ver (.cons lo hi tag df off ty r0) kk = none → ∀ a', Pv 6 m k0 n a a' → a'.get key = .int .u32 kk → NWP P dflt (Rt K E) a' w)
    (hsome : ∀ gf, rdTag true ver (.cons lo hi tag df off ty r0) kk = some gf →
      (∀ vs' r' a' w', gf (v :: vs) (inner r) = .ok vs' r' → r'.bad = false → Pv 6 m k0 n a a' → RdS w' g.tR S R (behind r) → Evo R B ((Fds.cons lo hi tag df off ty r0).In O) w w' → FarA A S (fun X => RpF w' X (.cons lo hi tag df off ty r0) B O vs') → K a' w') ∧
      ((gf (v :: vs) (inner r) = .err ∨ ∃ vs' r', gf (v :: vs) (inner r) = .ok vs' r' ∧ r'.bad = true) → ∀ a' w', Pv 6 m k0 n a a' → (∃ t y, a'.get 6 = .iface t y) → Keeps (fun k => k = R ∨ k = B) w w' → E a' w') ∧ gf (v :: vs) (inner r) ≠ .stuck) :
    NWP P (gCases g key dflt (gTagd g cx r0 ms) n2).1 (Rt K E) a1 w := by
  have hs1 := hp.size
  have hout : ∀ j, r0.In O j → ¬ (O + off ≤ j ∧ j < O + off + ty.sz) := fun j hj hh => offBy_out r0 off (off + ty.sz) O j hoff hj ⟨hh.1, by omega⟩
  have hrc1 : RC g cx true ver S R B O r a1 w := hrc.step hc hp hrc.rd (Keeps.refl (fun _ => False) w) (fun _ _ h => h.elim)
  have hrt : rdTag true ver (.cons lo hi tag df off ty r0) kk = (rdTag true ver r0 kk).map fun g vs r => (g vs.tail r).bind fun vs' r' => .ok (vs.headD .nul :: vs') r' := by simp [rdTag, hne]
  rw [hrt] at hnone hsome
  refine h2 ms cx ver S R B O r m k0 n2 T (Nat.max mm (off + ty.sz)) key kk dflt vs A K E a1 w te hok hdj hrc1 hc hhf hfl (by omega) (by omega) (by omega) hb hkey hk0 (by omega) hAR hAB hA hvs (fun h a' hp' hk' => hnone (by rw [h]; rfl) a' (hp.trans (hp'.mono (Nat.le_refl _) hn2)) hk') fun gf hgf => ?_
  obtain ⟨k1, k2, k3⟩ := hsome _ (by rw [hgf]; rfl)
  simp only [List.tail_cons, List.headD_cons] at k1 k2 k3
  refine ⟨fun vs' r' a' w' he hbad hp' hrd hev hvs' => ?_, fun he a' w' hp' hif hkp => ?_, fun he => ?_⟩
  · refine k1 (v :: vs') r' a' w' (by rw [he]; rfl) hbad (hp.trans (hp'.mono (Nat.le_refl _) hn2)) hrd (hev.mono fun j hj => .inr hj) fun X hX hS => ⟨v, vs', rfl, ?_, hvs' X hX hS⟩
    exact Rp.evoA hev hAR hAB hrc.SR.symm hrc.BS hb hv (fun j ha hb hj => hout j hj ⟨ha, hb⟩) X hX hS
  · refine k2 ?_ a' w' (hp.trans (hp'.mono (Nat.le_refl _) hn2)) hif hkp
    rcases he with he | ⟨vs', r', he, hbad⟩
    · exact .inl (by rw [he]; rfl)
    · exact .inr ⟨_, r', by rw [he]; rfl, hbad⟩
  · exact k3 (by rw [he]; rfl)

theorem case_cons (K0 : KB P g av fl) {lo : Nat} {hi tag : Option Nat} {df : Int} {off : Nat} {ty : Ty} {r0 : Fds} (h1 : RdTy P g av fl D ty) (h2 : RdCase P g av fl D r0) : RdCase P g av fl D (.cons lo hi tag df off ty r0) := by
  intro ms cx ver S R B O r m k0 n T mm key kk dflt vs A K E a w te hok hdj hrc hc hhf hfl hk hks hn hb hkey hk0 hkn hAR hAB hA hvs hnone hsome
  simp only [okTagd, Bool.and_eq_true] at hok
  simp only [disjF, Bool.and_eq_true] at hdj
  obtain ⟨v, vs', hvv, hv, hvs'⟩ : ∃ v vs', vs = v :: vs' ∧ FarA A S (fun X => Rp w X ty B (O + off) v) ∧ FarA A S (fun X => RpF w X r0 B O vs') := by
    obtain ⟨v, vs', he, _, _⟩ := hvs (fun _ => False) (fun _ h => h.elim) id
    refine ⟨v, vs', he, fun X hX hS => ?_, fun X hX hS => ?_⟩
    · obtain ⟨v2, vs2, he2, h, _⟩ := hvs X hX hS
      rw [he] at he2
      cases he2
      exact h
    · obtain ⟨v2, vs2, he2, _, h⟩ := hvs X hX hS
      rw [he] at he2
      cases he2
      exact h
  subst hvv
  cases tag with
  | none =>
    simp only [gTagd] at hn ⊢
    exact case_rest (tag := none) (lo := lo) (hi := hi) (df := df) (off := off) (ty := ty) h2 hok.2 hdj.1 hdj.2 hrc hc hhf hfl hk (Nat.le_refl _) hks hn hb (Pv.refl _ _ _ _ _) hkey hk0 hkn hAR hAB hA hv hvs' rfl hnone hsome
  | some t =>
    simp only [Bool.and_eq_true, decide_eq_true_eq] at hok
    obtain ⟨⟨⟨ht, hsl⟩, hoty⟩, hokr⟩ := hok
    generalize hm : ms.headD (.mk [] []) = mh at *
    have hle := hc.le
    have h66 := hc.six
    have hbm := hc.b
    have hupr := up_cases (g := g) (key := key) (dflt := dflt) (l := gTagd g cx r0 ms.tail) (up_gTagd g r0 ms.tail cx)
    have hupT := up_gTy g ty (mh.sub 0) { cx with b := mh.n 0 }
    have hRw : R < w.heap.size := hrc.rd.lt
    have hBw : B < w.heap.size := hb.lt
    simp only [gTagd, hm] at hn ⊢
    generalize hbody : (gS ([gInner g cx.b (mh.n 0)] ++ gTy g { cx with b := mh.n 0 } ty (mh.sub 0) ++ [gErrChk g (mh.n 0) (mh.n 1)]) : GC) = body at hn ⊢
    have hb2 : (body (n + 2)).2 = (gL (gTy g { cx with b := mh.n 0 } ty (mh.sub 0)) (n + 6)).2 + 4 := by
      rw [← hbody]
      simp only [gS, gL_append, gL]
      rfl
    have hn' : (gCases g key dflt (gTagd g cx r0 ms.tail) (body (n + 2)).2).2 ≤ a.tmps.size := hn
    have hupr' := hupr (body (n + 2)).2
    have hupT' := hupT (n + 6)
    refine s_case (x := 6) (m := m) (k0 := k0) hkey hkn hle hk (by omega) (fun hkt a0 hp0 => ?_) (fun hkt a0 hp0 hkey0 => ?_)
    · subst hkt
      have hs0 := hp0.size
      have hrc0 : RC g cx true ver S R B O r a0 w := hrc.step hc hp0 hrc.rd (Keeps.refl (fun _ => False) w) (fun _ _ h => h.elim)
      obtain ⟨k1, k2, k3⟩ := hsome (fun vs r => (rdTy true ver ty (vs.headD .nul) r).bind fun v r => .ok (v :: vs.tail) r) (by simp only [rdTag, BEq.rfl, if_true])
      simp only [List.headD_cons, List.tail_cons] at k1 k2 k3
      rw [← hbody]
      refine nwp_gS ?_
      show LW P (gInner g cx.b (mh.n 0) :: (gTy g { cx with b := mh.n 0 } ty (mh.sub 0) ++ [gErrChk g (mh.n 0) (mh.n 1)])) (n + 2) (Rt K E) a0 w
      refine LW_cons (s_inner K0 hfl hrc0 hc ⟨hsl.1, hsl.2.1⟩ (by omega) (by omega) fun a1 w1 R' hp1 hb1 hR' hrdI hrdO hkR => ?_)
      have hs1 := hp1.size
      have hp01 : Pv 6 m k0 n a a1 := hp0.trans (hp1.mono (Nat.le_refl _) (by omega))
      have hev1 : Evo R B (fun _ => False) w w1 := Evo.of_keeps hkR (fun _ _ h => h) hrc.BR
      have herr : ErrAt g.gErr w := hrc.err
      obtain ⟨te', ye, hce⟩ := herr
      have hgl := lt_of_cell hce
      have hrcI : RC g { cx with b := mh.n 0 } true ver S R' B O (inner r) a1 w1 :=
        ⟨hrdI, hb1, (hp01.get _ hc.s.2 (.inl hc.s.1)).trans hrc.ss, (hp01.get _ hc.ver.2 (.inl hc.ver.1)).trans hrc.sv, fun _ => (hp01.get _ hc.fx.2 (.inl hc.fx.1)).trans (hrc.sf hhf), fun h => (by rw [hhf] at h; cases h),
          (hp01.get 2 (by omega) (.inl (by omega))).trans hrc.su, ErrAt.keep ⟨te', ye, hce⟩ hkR hrc.gR, by have := hrc.Slt; omega, by omega, hrc.BS, by omega, hrc.gB, Nat.lt_of_lt_of_le hrc.Slt hkR.size⟩
      have hcI : CxOk { cx with b := mh.n 0 } (mh.n 0 + 1) k0 :=
        ⟨⟨by simp, by simp only; omega⟩, ⟨by have := hc.s; simp only; omega, hc.s.2⟩, ⟨by have := hc.ver; simp only; omega, hc.ver.2⟩, ⟨by have := hc.fx; simp only; omega, hc.fx.2⟩, by omega, by omega⟩
      have hold : OldOk w1 B (O + off) true ty v := by
        have hX : ∀ X : Nat → Prop, X = (fun _ => False) → Rp w1 X ty B (O + off) v := fun X hX => by
          subst hX
          exact Rp.evoA hev1 hAR hAB hrc.SR.symm hrc.BS hb hv (fun _ _ _ h => h) _ (fun _ h => h.elim) id
        cases ty with
        | struct nul toff fs =>
          cases nul with
          | none => rfl
          | some q => exact hX _ rfl
        | list nul esz e => exact hX _ rfl
        | _ => trivial
      have hext := le_ext r0 (Nat.max mm (off + ty.sz))
      have hext2 : off + ty.sz ≤ Nat.max mm (off + ty.sz) := Nat.le_max_right _ _
      have hb1' := hb.evo hev1
      have hin : (gInner g cx.b (mh.n 0) (n + 2)).2 = n + 6 := rfl
      rw [hin]
      refine LW_append ?_
      rw [then_rt]
      refine h1 (mh.sub 0) { cx with b := mh.n 0 } true ver S R' B O (inner r) (mh.n 0 + 1) k0 (n + 6) T off v _ E a1 w1 te (by simp only [hhf]; exact hoty) hrcI hcI (fun _ => hfl) (by omega) (by omega) (by omega) (hb1'.mono (by simp only [Fds.ext]; omega)) hold
        ⟨fun u r' a2 w2 he hp2 hrd2 hev2 hu => ?_, fun he a2 w2 hp2 hif hk2 => ?_, fun he => ?_⟩
      · have hs2 := hp2.size
        have hgb2 : a2.get (mh.n 0) = pt R' 0 := by rw [hp2.get _ (by omega) (.inl (by omega))]; exact hb1
        have herr2 : ErrAt g.gErr w2 := (ErrAt.keep (ErrAt.keep ⟨te', ye, hce⟩ hkR hrc.gR) hev2.keeps (fun h => by rcases h with h | h; omega; exact hrc.gB h))
        have hp02 : Pv 6 m k0 n a a2 := hp01.trans (hp2.mono (by omega) (by omega))
        have hev02 := hev1.inner hev2 hR'
        refine LW_cons ?_
        rw [then_rt]
        refine s_errChk (m := m) (k0 := k0) K0 hfl hgb2 hrd2 herr2 h66 ⟨hsl.2.2.1, hsl.2.2.2⟩ hle (by omega) (by omega) (fun hbad a3 w3 hp3 hif hk3 => ?_) (fun hbad a3 w3 hp3 hk3 => LW_nil ?_)
        · exact k2 (.inr ⟨u :: vs', r', by rw [he]; rfl, hbad⟩) a3 w3 (hp02.trans (hp3.mono (Nat.le_refl _) (by omega))) hif (hev02.keeps.trans (hk3.mono fun _ _ h => h.elim))
        · have hev3 : Evo R B (fun _ => False) w2 w3 := Evo.of_keeps hk3 (fun _ _ h => h.elim) hrc.BR
          have hev03 : Evo R B (fun j => O + off ≤ j ∧ j < O + off + ty.sz) w w3 := (hev02.trans (hev3.mono fun _ h => h.elim)).mono fun j hj => by rcases hj with h | h; exact h.elim; exact h
          refine k1 (u :: vs') r' a3 w3 (by rw [he]; rfl) hbad (hp02.trans (hp3.mono (Nat.le_refl _) (by omega))) ?_ (hev03.mono fun j hj => .inl hj) fun X hX hS => ⟨u, vs', rfl, ?_, ?_⟩
          · exact (hrdO.keep hev2.keeps (fun h => by rcases h with h | h; (have := hrc.Slt; omega); exact hrc.BS h.symm) (fun h => by rcases h with h | h; omega; exact hrc.BR h.symm)).keep hk3 id id
          · have hu' : FarA A S fun X => Rp w2 X ty B (O + off) u := fun X hX hS => hu X (fun k hk => Nat.lt_of_lt_of_le (hA k (hX k hk)) hkR.size) hS
            exact Rp.evoA hev3 hAR hAB hrc.SR.symm hrc.BS (hb1'.evo hev2) hu' (fun _ _ _ h => h) X hX hS
          · exact RpF.evoA hev03 hAR hAB hrc.SR.symm hrc.BS hb hvs' (fun j hj hh => offBy_out r0 off (off + ty.sz) O j hdj.1 hj ⟨hh.1, by omega⟩) X hX hS
      · refine k2 (.inl (by rw [he]; rfl)) a2 w2 (hp01.trans (hp2.mono (by omega) (by omega))) hif ?_
        exact ⟨hk2.os.trans hkR.os, hk2.tape.trans hkR.tape, hk2.output.trans hkR.output, Nat.le_trans hkR.size hk2.size, fun i hi hx => by
          rw [hk2.block i (Nat.lt_of_lt_of_le hi hkR.size) (fun hh => by rcases hh with rfl | rfl; omega; exact hx (.inr rfl)), hkR.block i hi (fun hh => hx (.inl hh))]⟩
      · exact k3 (by rw [he]; rfl)
    · have hup : n ≤ (body (n + 2)).2 := by omega
      exact case_rest (tag := some t) (lo := lo) (hi := hi) (df := df) (off := off) (ty := ty) h2 hokr hdj.1 hdj.2 hrc hc hhf hfl hk hup hks hn' hb hp0 hkey0 hk0 hkn hAR hAB hA hv hvs' (by simp; omega) hnone hsome

end
end Go.Proofs.YtmkioomgfdpeiacDoor.Kx

/-
  SOUND, 3: a part: its fields, its tags.
-/
namespace Go.Proofs.YtmkioomgfdpeiacDoor.Kx
open Go

/-- the places of a part: its fields, its unknown tags -/
def Fds.Zn (fs : Fds) (toff : Option Nat) (O j : Nat) : Prop := fs.In O j ∨ ∃ o, toff = some o ∧ j = O + o
theorem zn_ext {fs : Fds} {toff : Option Nat} {O j : Nat} (h : fs.Zn toff O j) : O ≤ j ∧ j < O + fs.ext (toffEnd toff) := by
  rcases h with h | ⟨o, rfl, rfl⟩
  · exact in_ext fs _ O j h
  · have : o + 1 ≤ fs.ext (o + 1) := le_ext fs (o + 1)
    have e : fs.ext (toffEnd (some o)) = fs.ext (o + 1) := rfl
    omega

/-- no unknown tags yet -/
def TgNil (w : World) (B O : Nat) (toff : Option Nat) : Prop := match toff with | some k => w.cell? ⟨B, O + k, none⟩ = some (.map none) | none => True
theorem TgNil.at {w : World} {B O : Nat} {toff : Option Nat} (h : TgNil w B O toff) (X : Nat → Prop) : TgAt w X B O toff [] := by
  cases toff with
  | none => rfl
  | some k => exact ⟨_, h, .inl ⟨rfl, rfl⟩⟩

section
variable (P : Program) (g : G) (av : PF → Bool) (fl : Bool) (D : Nat → Option (List (Nat × Value)))

def RdSt (fs : Fds) : Prop :=
  ∀ (nm : Nm) (cx : Cx) (fx : Bool) (ver : Int) (S R B O : Nat) (r : RS) (m k0 n T kt : Nat) (toff : Option Nat) (K E : Act → World → Prop) (a : Act) (w : World) (te : Nat),
    okSt ⟨P, g, av, D⟩ cx.hf m k0 T kt toff fs nm (okFds ⟨P, g, av, D⟩ cx.hf m k0 T fs nm.s) (okTagd ⟨P, g, av, D⟩ (nm.n 1 + 1) k0 T fs nm.s) = true → RC g cx fx ver S R B O r a w → CxOk cx m k0 → (cx.hf = true → fl = true) → k0 ≤ n → k0 ≤ a.tmps.size →
    (gL (gStOf g cx fs.tagged T kt nm (gFds g cx fs nm.s) (gTagd g cx fs nm.s)) n).2 ≤ a.tmps.size → Blk w B (O + fs.ext (toffEnd toff)) te →
    ((fs.plain = true ∧ fx = true) ∨ ((∀ X, RpF w X fs B O (dfFds fs)) ∧ TgNil w B O toff)) →
    Outs g S R B (fs.Zn toff O) m k0 n a w (rdStOf fx fs.tagged (rdFds fx ver fs) (rdTag fx ver fs) r)
      (fun v w' => ∃ vs t, v = .st vs t ∧ Far w S (fun X => RpF w' X fs B O vs) ∧ Far w S (fun X => TgAt w' X B O toff t)) K E →
    LW P (gStOf g cx fs.tagged T kt nm (gFds g cx fs nm.s) (gTagd g cx fs nm.s)) n (Rt K E) a w
end

section
variable {P : Program} {g : G} {av : PF → Bool} {fl : Bool} {D : Nat → Option (List (Nat × Value))}

theorem plain_untagged : ∀ (fs : Fds), fs.plain = true → fs.tagged = false
  | .nil, _ => rfl
  | .cons lo hi tag df off ty r, h => by
    simp only [Fds.plain, Bool.and_eq_true] at h
    have ht : tag = none := by cases tag <;> first | rfl | simp at h
    simp [Fds.tagged, ht, plain_untagged r h.2]

theorem evo_keepsIn {R B : Nat} {Z Z' : Nat → Prop} {w w' : World} (h : Evo R B Z w w') (hz : ∀ j, Z j → Z' j) : Evo R B Z' w w' := h.mono hz

/-- what holds where c tags are still to be read -/
def TagI (g : G) (S R B O o : Nat) (fs : Fds) (ver : Int) (w0 : World) (out : Out V) (c : Nat) (w : World) : Prop :=
  ∃ (vs : List V) (t : List (Nat × Bs)) (r : RS) (mm : Value), out = rTagLoop (rdTag true ver fs) c vs t r ∧ RdS w g.tR S R r ∧ Evo R B (fun j => fs.In O j ∨ j = O + o) w0 w ∧ w.cell? ⟨B, O + o, none⟩ = some mm ∧
    ((mm = .map none ∧ t = []) ∨ ∃ q, mm = .map (some q) ∧ w0.heap.size ≤ q ∧ q < w.heap.size) ∧
    FarA (fun k => k < w0.heap.size ∨ mm = .map (some k)) S (fun X => RpF w X fs B O vs) ∧ FarA (· < w0.heap.size) S (fun X => TgAt w X B O (some o) t)

/-- a tag that the part does not know is kept -/
theorem tagI_unknown {S R B O o : Nat} {fs : Fds} {w0 w w' : World} {vs : List V} {t t' : List (Nat × Bs)} {mm : Value} {q te : Nat} {cur : Array Value} (hRw : R < w0.heap.size) (hBw : B < w0.heap.size) (hSw : S < w0.heap.size) (hRS : R ≠ S) (hBS : B ≠ S) (hBR : B ≠ R)
    (hev : Evo R B (fun j => fs.In O j ∨ j = O + o) w0 w) (hB : w.heap[B]? = some (.cells cur te (0, 0))) (hoff : offBy fs o (o + 1) = true) (hO : O + o < cur.size)
    (hmm : (mm = .map none ∧ t = []) ∨ ∃ p, mm = .map (some p) ∧ w0.heap.size ≤ p ∧ p < w.heap.size)
    (hF : FarA (fun k => k < w0.heap.size ∨ mm = .map (some k)) S (fun X => RpF w X fs B O vs)) (hT : FarA (· < w0.heap.size) S (fun X => TgRp w X mm t))
    (hq0 : mm = .map none → w.heap.size ≤ q) (hq1 : ∀ p, mm = .map (some p) → q = p) (hk : Keeps (fun b => b = R ∨ b = B ∨ b = q) w w') (hB' : w'.heap[B]? = some (.cells (cur.setIfInBounds (O + o) (.map (some q))) te (0, 0)))
    (hset : ∀ X : Nat → Prop, ¬ X q → (∀ k, X k → k < w.heap.size) → ¬ X S → TgRp w (fun k => X k ∨ k = R) mm t → TgRp w' X (.map (some q)) t') :
    Evo R B (fun j => fs.In O j ∨ j = O + o) w0 w' ∧ w'.cell? ⟨B, O + o, none⟩ = some (.map (some q)) ∧ w0.heap.size ≤ q ∧ q < w'.heap.size ∧
    FarA (fun k => k < w0.heap.size ∨ Value.map (some q) = .map (some k)) S (fun X => RpF w' X fs B O vs) ∧ FarA (· < w0.heap.size) S (fun X => TgAt w' X B O (some o) t') := by
  have hsz := hev.keeps.size
  have hqw : w0.heap.size ≤ q := by
    rcases hmm with ⟨h, _⟩ | ⟨p, h, hp, _⟩
    · exact Nat.le_trans hsz (hq0 h)
    · rw [hq1 p h]; exact hp
  have hcell : w'.cell? ⟨B, O + o, none⟩ = some (.map (some q)) := by
    simp [World.cell?, hB', hO]
  have hTg : FarA (· < w0.heap.size) S (fun X => TgRp w' X (.map (some q)) t') := fun X hX hS => by
    refine hset X (fun hXq => ?_) (fun k hk => Nat.lt_of_lt_of_le (hX k hk) hsz) hS (hT _ (fun k hk => by rcases hk with hk | rfl; exact hX k hk; exact hRw) (fun hk => by rcases hk with hk | hk; exact hS hk; exact hRS hk.symm))
    have := hX q hXq
    simp only at this
    omega
  have hqlt : q < w'.heap.size := by
    rcases hTg (fun _ => False) (fun _ h => h.elim) id with ⟨h, _⟩ | ⟨r, h, _, hr, _⟩
    · cases h
    · cases h; exact hr
  have hcellIn : ∀ j, fs.In O j → w'.cell? ⟨B, j, none⟩ = w.cell? ⟨B, j, none⟩ := fun j hj => by
    have hne : O + o ≠ j := fun h => offBy_out fs o (o + 1) O j hoff hj ⟨by omega, by omega⟩
    simp [World.cell?, hB, hB', hne]
  refine ⟨⟨⟨hk.os.trans hev.keeps.os, hk.tape.trans hev.keeps.tape, hk.output.trans hev.keeps.output, Nat.le_trans hsz hk.size, fun i hi hx => ?_⟩, fun cs te' hc => ?_⟩, hcell, hqw, hqlt, fun X hX hS => ?_, fun X hX hS => ⟨_, hcell, hTg X hX hS⟩⟩
  · rw [hk.block i (Nat.lt_of_lt_of_le hi hsz) (fun h => by rcases h with h | h | h; exact hx (.inl h); exact hx (.inr h); omega), hev.keeps.block i hi hx]
  · obtain ⟨c1, h1, h2, h3⟩ := hev.blk cs te' hc
    rw [hB] at h1
    obtain ⟨rfl, rfl, _⟩ := Obj.cells.inj (Option.some.inj h1)
    refine ⟨_, hB', by simpa using h2, fun j hj => ?_⟩
    rw [Array.getElem?_setIfInBounds, if_neg (fun h => hj (.inr h.symm))]
    exact h3 j hj
  · have h1 := hF (fun k => (X k ∧ (k < w0.heap.size ∨ mm = .map (some k))) ∨ k = R ∨ k = B ∨ (mm = .map (some q) ∧ k = q)) (fun k hk => by
      rcases hk with hk | rfl | rfl | ⟨hm, rfl⟩
      · exact hk.2
      · exact .inl hRw
      · exact .inl hBw
      · exact .inr hm) (fun hk => by
      rcases hk with hk | hk | hk | ⟨_, hk⟩
      · exact hS hk.1
      · exact hRS hk.symm
      · exact hBS hk.symm
      · omega)
    have h2 : RpF w (fun k => X k ∨ k = R ∨ k = B ∨ k = q) fs B O vs := RpF.mono (fun k hkw hk => by
      have hqk : k = q → mm = .map (some q) := fun he => by
        rcases hmm with ⟨h, _⟩ | ⟨p, h, _, _⟩
        · have := hq0 h; omega
        · rw [h, hq1 p h]
      rcases hk with hk | hk | hk | hk
      · refine .inl ⟨hk, ?_⟩
        rcases hX k hk with h | h
        · exact .inl h
        · simp only [Value.map.injEq, Option.some.injEq] at h
          subst h
          exact .inr (hqk rfl)
      · exact .inr (.inl hk)
      · exact .inr (.inr (.inl hk))
      · exact .inr (.inr (.inr ⟨hqk hk, hk⟩))) fs B O vs h1
    have h3 := RpF.frameIn (hk.mono fun k _ hk => .inr hk) fs B O vs h2 hcellIn
    exact RpF.mono (fun k _ hk => .inl hk) fs B O vs h3

theorem cxOk_up {cx : Cx} {m m' k0 : Nat} (h : CxOk cx m k0) (hm : m ≤ m') (hk : m' ≤ k0) : CxOk cx m' k0 :=
  ⟨⟨by have := h.b; omega, h.b.2⟩, ⟨by have := h.s; omega, h.s.2⟩, ⟨by have := h.ver; omega, h.ver.2⟩, ⟨by have := h.fx; omega, h.fx.2⟩, by have := h.six; omega, hk⟩

/-- the body of the loop over tags -/
theorem tag_body (K0 : KB P g av fl) {fs : Fds} (h2 : RdCase P g av fl D fs) {nm : Nm} {cx : Cx} {ver : Int} {S R B O o : Nat} {r0 : RS} {m k0 n T kt _mm : Nat} {E : Act → World → Prop} {a a1 : Act} {w0 w1 : World} {te : Nat} {out : Out V} {c : Nat} {i : Nat}
    (hok : okTagd ⟨P, g, av, D⟩ (nm.n 1 + 1) k0 T fs nm.s = true) (hdj : disjF fs = true) (hF : FldIs P T kt g.tTags o true 1) (hoff : offBy fs o (o + 1) = true) (hsl : m ≤ i ∧ i < nm.n 1 ∧ nm.n 1 < k0) (hrc : RC g cx true ver S R B O r0 a w0) (hc : CxOk cx m k0) (hhf : cx.hf = true) (hfl : fl = true) (hk : k0 ≤ n) (hks : k0 ≤ a.tmps.size)
    (hn : ((gS [gCall g.uv cx.b (nm.n 1), gSwitch g cx (nm.n 1) (nm.n 4) T kt (gTagd g cx fs nm.s)] : GC) (n + 5)).2 ≤ a.tmps.size) (hb : Blk w0 B (O + fs.ext (o + 1)) te) (hp1 : Pv 6 i k0 n a a1) (hI : TagI g S R B O o fs ver w0 out (c + 1) w1) (hgo : out ≠ .stuck)
    (hE : out = .err → ∀ a' w', Pv 6 m k0 n a a' → (∃ t y, a'.get 6 = .iface t y) → Keeps (fun k => k = R ∨ k = B) w0 w' → E a' w') :
    NWP P ((gS [gCall g.uv cx.b (nm.n 1), gSwitch g cx (nm.n 1) (nm.n 4) T kt (gTagd g cx fs nm.s)] : GC) (n + 5)).1 (Rt (fun a2 w2 => Pv 6 (i + 1) k0 (n + 5) a1 a2 ∧ TagI g S R B O o fs ver w0 out c w2) E) a1 w1 := by
  obtain ⟨vs, t, r, cell, hout, hrd, hev, hcell, hmm, hRF, hTF⟩ := hI
  have hRw : R < w0.heap.size := hrc.rd.lt
  have hBw : B < w0.heap.size := hb.lt
  have hs1 := hp1.size
  have h66 := hc.six
  have hrc1 : RC g cx true ver S R B O r a1 w1 := hrc.step hc (hp1.mono hsl.1 (Nat.le_refl _)) hrd hev.keeps (fun _ _ h => h)
  have hci : CxOk cx (i + 1) k0 := cxOk_up hc (by omega) (by omega)
  have hck : CxOk cx (nm.n 1 + 1) k0 := cxOk_up hc (by omega) (by omega)
  have hn' : (gCases g (n + 6) (gUnknown g cx (nm.n 1) T kt (n + 6 + 1)) (gTagd g cx fs nm.s) (n + 6 + 9)).2 ≤ a.tmps.size := hn
  have hupc := up_cases (g := g) (key := n + 6) (dflt := gUnknown g cx (nm.n 1) T kt (n + 6 + 1)) (l := gTagd g cx fs nm.s) (up_gTagd g fs nm.s cx) (n + 6 + 9)
  refine nwp_gS (LW_cons (s_call (x := 6) (m := i + 1) (k0 := k0) (K0.uvE hfl) hrc1.sb (K0.uvC hfl w1 S R r hrc1.rd hrc1.SR) (.inr ⟨by omega, hsl.2.2⟩) (by omega) (by omega) (by omega) (by omega) fun e w2 hR => ?_))
  obtain ⟨he, hrd2, hk2⟩ := hR
  refine ⟨_, he, fun a2 hp2 hg2 => ?_⟩
  have hs2 := hp2.size
  have hrc2 : RC g cx true ver S R B O (rUv r).2 a2 w2 := hrc1.step hci hp2 hrd2 hk2 (fun _ _ h => .inl h)
  have hp02 : Pv 6 i k0 n a a2 := hp1.trans (hp2.mono (by omega) (by omega))
  have hev2 : Evo R B (fun j => fs.In O j ∨ j = O + o) w0 w2 := hev.trans (Evo.of_keeps hk2 (fun _ _ h => h) hrc.BR)
  have hev12 : Evo R B (fun _ => False) w1 w2 := Evo.of_keeps hk2 (fun _ _ h => h) hrc.BR
  have hb1 := hb.evo hev
  have hb2 := hb.evo hev2
  have hkk := rUv_lt r
  have hsz01 := hev.keeps.size
  have hsz12 := hk2.size
  have hcell2 : w2.cell? ⟨B, O + o, none⟩ = some cell := by
    obtain ⟨cur, hcu, _⟩ := hb1
    rw [hev12.cell hcu id]; exact hcell
  have hAw : ∀ k, (k < w0.heap.size ∨ cell = .map (some k)) → k < w2.heap.size := fun k hk => by
    rcases hk with hk | hk
    · omega
    · rcases hmm with ⟨h, _⟩ | ⟨q, h, _, hq⟩
      · rw [h] at hk; cases hk
      · rw [h] at hk; cases hk; omega
  have hRF2 : FarA (fun k => k < w0.heap.size ∨ cell = .map (some k)) S (fun X => RpF w2 X fs B O vs) := RpF.evoA hev12 (.inl hRw) (.inl hBw) hrc.SR.symm hrc.BS hb1 hRF (fun _ _ h => h)
  have hTF2 : FarA (· < w0.heap.size) S (fun X => TgAt w2 X B O (some o) t) := TgAt.evoA hev12 hRw hBw hrc.SR.symm hrc.BS hb1 hTF (fun _ _ h => h)
  refine LW_cons ?_
  rw [then_rt, show (gCall g.uv cx.b (nm.n 1) (n + 5)).2 = n + 6 from rfl]
  refine .seq (R := Rt (fun a3 w3 => Pv 6 k0 k0 (n + 6) a2 a3 ∧ a3.get (n + 6) = .int .u32 ((rUv r).1 : Nat) ∧ w3 = w2) E) (.reg (wl_move (wpList_nil ?_))) (fun a3 w3 hh => ?_) (fun e a w he hq => by cases e <;> first | exact absurd rfl he | exact hq)
  · rw [eval_tm, hg2]
    exact ⟨(Pv.refl _ _ _ _ _).put _ (by omega), get_put _ _ _ (by omega), rfl⟩
  obtain ⟨hp3', hg3, rfl⟩ := hh
  have hp3 : Pv 6 (i + 1) k0 (n + 6) a2 a3 := hp3'.low (by omega)
  have hkey3 : a3.get (nm.n 1) = .int .u32 ((rUv r).1 : Nat) := (hp3'.get _ (by omega) (.inl hsl.2.2)).trans hg2
  have hs3 := hp3.size
  have hp03 : Pv 6 i k0 n a a3 := hp02.trans (hp3.mono (by omega) (by omega))
  have hp13 : Pv 6 (i + 1) k0 (n + 5) a1 a3 := hp2.trans (hp3.mono (Nat.le_refl _) (by omega))
  have hrc3 : RC g cx true ver S R B O (rUv r).2 a3 w3 := hrc2.step hci hp3 hrc2.rd (Keeps.refl (fun _ => False) w3) (fun _ _ h => h.elim)
  have hcells : (gCall g.uv cx.b (nm.n 1) (n + 5)).2 = n + 6 := rfl
  refine .block (.mono (Q := Exit.inBlock (nm.n 4) (Rt (LW P [] _ (Rt _ E)) E)) (R := Rt (fun a4 w4 => Pv 6 (i + 1) k0 (n + 5) a1 a4 ∧ TagI g S R B O o fs ver w0 out c w4) E) ?_ fun e a w hq => by cases e <;> first | exact LW_nil hq | exact hq | exact hq.elim)
  show NWP P (gCases g (n + 6) (gUnknown g cx (nm.n 1) T kt (n + 6 + 1)) (gTagd g cx fs nm.s) (n + 6 + 9)).1 _ a3 w3
  refine h2 nm.s cx ver S R B O (rUv r).2 (nm.n 1 + 1) k0 (n + 6 + 9) T (o + 1) (n + 6) (rUv r).1 _ vs (fun k => k < w0.heap.size ∨ cell = .map (some k)) _ E a3 w3 te hok hdj hrc3 hck hhf hfl (by omega) (by omega) (by omega) hb2 hg3 (by omega) (by omega) (.inl hRw) (.inl hBw) hAw hRF2
    (fun hnone a4 hp4 hg4 => ?_) (fun gf hgf => ⟨fun vs' r' a4 w4 he hbad hp4 hrd4 hev4 hRF4 => ?_, fun he a4 w4 hp4 hif hk4 => ?_, fun he => ?_⟩)
  · -- an unknown tag
    have hs4 := hp4.size
    have hrc4 : RC g cx true ver S R B O (rUv r).2 a4 w3 := hrc3.step hck hp4 hrc3.rd (Keeps.refl (fun _ => False) w3) (fun _ _ h => h.elim)
    obtain ⟨cur, hcu, hcus⟩ := hb2
    have hext := le_ext fs (o + 1)
    have hcO : cur[O + o]? = some cell := by
      have := hcell2
      simpa [World.cell?, hcu] using this
    have hTg : FarA (· < w0.heap.size) S (fun X => TgRp w3 X cell t) := fun X hX hS => by
      obtain ⟨m', hm', hT'⟩ := hTF2 X hX hS
      rw [hcell2] at hm'
      cases hm'
      exact hT'
    have hRt : ∀ {K' : Act → World → Prop}, NWP P (gUnknown g cx (nm.n 1) T kt (n + 6 + 1)) (Exit.then K' (Rt K' E)) a4 w3 → NWP P (gUnknown g cx (nm.n 1) T kt (n + 6 + 1)) (Rt K' E) a4 w3 := fun h => by rwa [then_rt] at h
    refine hRt (s_unknown (m := i + 1) (k0 := k0) (cur := cur) (te := te) (mm := cell) (t := t) K0 hfl hrc4 hci hF ((hp4.get _ (by omega) (.inl (by omega))).trans hkey3) hkk hcu hcO (hTg _ (fun k hk => by rcases hk with rfl | rfl; exact hBw; exact hRw) (fun hk => by rcases hk with hk | hk; exact hrc.BS hk.symm; exact hrc.SR hk)) (fun p hp => ?_) (by omega) (by omega) (by omega)
      fun a5 w5 q hp5 hrd5 hq0 hq1 hk5 hB5 hset => ?_)
    · rcases hmm with ⟨h, _⟩ | ⟨q, h, hq, _⟩
      · rw [h] at hp; cases hp
      · rw [h] at hp; cases hp
        have := hrc.Slt
        omega
    · have hmm3 : (cell = .map none ∧ t = []) ∨ ∃ p, cell = .map (some p) ∧ w0.heap.size ≤ p ∧ p < w3.heap.size := by
        rcases hmm with h | ⟨q, h, hq, hq2⟩
        · exact .inl h
        · exact .inr ⟨q, h, hq, by omega⟩
      obtain ⟨e1, e2, e3, e4, e5, e6⟩ := tagI_unknown hRw hBw hrc.Slt hrc.SR.symm hrc.BS hrc.BR hev2 hcu hoff (by omega) hmm3 hRF2 hTg hq0 hq1 hk5 hB5 hset
      refine ⟨hp13.trans ((hp4.mono (by omega) (by omega)).trans (hp5.mono (Nat.le_refl _) (by omega))), vs, _, _, .map (some q), ?_, hrd5, e1, e2, .inr ⟨q, rfl, e3, e4⟩, e5, e6⟩
      rw [hout]
      simp only [rTagLoop, hnone]
  · -- a known tag
    have hout' : out = rTagLoop (rdTag true ver fs) c vs' t (behind (rUv r).2) := by
      rw [hout]
      have he' := he
      simp only [inner] at he'
      simp only [rTagLoop, hgf, he', hbad, behind]
      simp
    have hcell4 : w4.cell? ⟨B, O + o, none⟩ = some cell := by
      obtain ⟨cur, hcu, _⟩ := hb2
      rw [hev4.cell hcu (fun h => offBy_out fs o (o + 1) O (O + o) hoff h ⟨by omega, by omega⟩)]; exact hcell2
    refine ⟨hp13.trans (hp4.mono (by omega) (by omega)), vs', t, behind (rUv r).2, cell, hout', hrd4, hev2.trans (hev4.mono fun j hj => .inl hj), hcell4, ?_, hRF4, ?_⟩
    · rcases hmm with h | ⟨q, h, hq, hq2⟩
      · exact .inl h
      · exact .inr ⟨q, h, hq, by have := hev4.keeps.size; omega⟩
    · exact TgAt.evoA hev4 hRw hBw hrc.SR.symm hrc.BS hb2 hTF2 (fun k hk h => by cases hk; exact offBy_out fs o (o + 1) O (O + o) hoff h ⟨by omega, by omega⟩)
  · -- it fails
    refine hE ?_ a4 w4 (hp03.mono hsl.1 (Nat.le_refl _) |>.trans (hp4.mono (by omega) (by omega))) hif (hev2.keeps.trans hk4)
    rw [hout]
    rcases he with he | ⟨vs', r', he, hbad⟩
    · simp only [inner] at he
      simp only [rTagLoop, hgf, he]
    · simp only [inner] at he
      simp only [rTagLoop, hgf, he, hbad, if_true]
  · refine hgo ?_
    rw [hout]
    simp only [inner] at he
    simp only [rTagLoop, hgf, he]

end
end Go.Proofs.YtmkioomgfdpeiacDoor.Kx

/-
  SOUND, 4: a part; a list; a part that may be absent; all of it.
-/
namespace Go.Proofs.YtmkioomgfdpeiacDoor.Kx
open Go

section
variable {P : Program} {g : G} {av : PF → Bool} {fl : Bool} {D : Nat → Option (List (Nat × Value))}

theorem ext_mono : ∀ (fs : Fds) (m m' : Nat), m ≤ m' → fs.ext m ≤ fs.ext m'
  | .nil, _, _, h => h
  | .cons _ _ _ _ off ty r, m, m', h => ext_mono r _ _ (by
      show Nat.max m _ ≤ Nat.max m' _
      exact Nat.max_le.2 ⟨Nat.le_trans h (Nat.le_max_left _ _), Nat.le_max_right _ _⟩)

theorem st_of (K0 : KB P g av fl) {fs : Fds} (h1 : RdFds P g av fl D fs) (h2 : RdCase P g av fl D fs) : RdSt P g av fl D fs := by
  intro nm cx fx ver S R B O r m k0 n T kt toff K E a w te hok hrc hc hfl hk hks hn hb hpl ho
  simp only [okSt, Bool.and_eq_true] at hok
  obtain ⟨⟨⟨hokf, hdj⟩, htoff⟩, hokt⟩ := hok
  have hRw : R < w.heap.size := hrc.rd.lt
  have hBw : B < w.heap.size := hb.lt
  have hle := hc.le
  have hupF := up_gFds g fs nm.s cx n
  have hpl' : fs.plain = true ∨ ∀ X, RpF w X fs B O (dfFds fs) := by
    rcases hpl with h | h
    · exact .inl h.1
    · exact .inr h.1
  unfold gStOf at hn ⊢
  rw [gL_append] at hn
  refine LW_append ?_
  rw [then_rt]
  refine h1 nm.s cx fx ver S R B O r m k0 n T (toffEnd toff) _ E a w te hokf hdj hrc hc hfl hk hks ?_ hb hpl' ⟨fun vs r1 a1 w1 he hp1 hrd1 hev1 hvs => ?_, fun he a1 w1 hp1 hif hk1 => ?_, fun he => ?_⟩
  · have hu : UpL (if (!cx.hf) = true then [] else if fs.tagged = true then [gFx cx (gTagFor g cx (nm.n 0) (nm.n 2) (nm.n 3) (gS [gCall g.uv cx.b (nm.n 1), gSwitch g cx (nm.n 1) (nm.n 4) T kt (gTagd g cx fs nm.s)])) gSkip] else [gFx cx (gReadTags g cx T kt) gSkip] : List GC) :=
      upL_ite upL_nil (upL_ite (upL_cons (up_if (up_tagFor (up_S (upL_cons (up_ops _ _) (upL_cons (up_switch (up_gTagd g fs nm.s cx)) upL_nil)))) (up_code _)) upL_nil) (upL_cons (up_if (up_ops _ _) (up_code _)) upL_nil))
    exact Nat.le_trans (hu _) hn
  · have hs1 := hp1.size
    have hrc1 : RC g cx fx ver S R B O r1 a1 w1 := hrc.step hc hp1 hrd1 hev1.keeps (fun _ _ h => h)
    have hb1 := hb.evo hev1
    have hev1' : Evo R B (fs.Zn toff O) w w1 := hev1.mono fun j hj => .inl hj
    have hrs : rdStOf fx fs.tagged (rdFds fx ver fs) (rdTag fx ver fs) r = (if !fx then .ok (.st vs []) r1 else if fs.tagged then rTagLoop (rdTag fx ver fs) (rUv r1).1 vs [] (rUv r1).2 else .ok (.st vs (rTags (rUv r1).1 [] (rUv r1).2).1) (rTags (rUv r1).1 [] (rUv r1).2).2) := by
      simp only [rdStOf, he, Out.bind]
    rw [hrs] at ho
    cases hhf : cx.hf with
    | false =>
      have hfx := hrc.nf hhf
      subst hfx
      simp only [Bool.not_false, if_true]
      have ht0 : toff = none := by
        cases toff with
        | none => rfl
        | some o => rw [hhf] at htoff; simp at htoff
      subst ht0
      refine LW_nil (ho.ok _ r1 a1 w1 rfl hp1 hrd1 hev1' ⟨vs, [], rfl, hvs, fun X _ _ => rfl⟩)
    | true =>
      simp only [hhf, Bool.not_true, Bool.false_eq_true, if_false] at hn ⊢
      obtain ⟨o, ht0, hF, hoff⟩ : ∃ o, toff = some o ∧ FldIs P T kt g.tTags o true 1 ∧ offBy fs o (o + 1) = true := by
        cases toff with
        | none => rw [hhf] at htoff; simp at htoff
        | some o =>
          simp only [Bool.and_eq_true] at htoff
          exact ⟨o, rfl, fldB_ok htoff.1.2, htoff.2⟩
      subst ht0
      have hoIn : ¬ fs.In O (O + o) := fun h => offBy_out fs o (o + 1) O (O + o) hoff h ⟨by omega, by omega⟩
      have hext := le_ext fs (o + 1)
      have hoext : o < fs.ext (toffEnd (some o)) := by show o < fs.ext (o + 1); omega
      have hfl' := hfl hhf
      -- at a version that is not flexible: no tags
      have hskip : fx = false → ∀ a', Pv 6 m k0 n a a' → K a' w1 := fun hfx a' hp' => by
        subst hfx
        have hT0 : Far w S (fun X => TgAt w X B O (some o) []) := fun X _ _ => by
          rcases hpl with h | h
          · cases h.2
          · exact h.2.at X
        refine ho.ok _ r1 a' w1 rfl hp' hrd1 hev1' ⟨vs, [], rfl, hvs, ?_⟩
        exact TgAt.evoA (A := (· < w.heap.size)) hev1 hRw hBw hrc.SR.symm hrc.BS hb hT0 (fun k hk h => by cases hk; exact hoIn h)
      cases htg : fs.tagged with
      | false =>
        simp only [htg, Bool.false_eq_true, if_false, gL] at hn ⊢
        refine LW_cons ?_
        rw [then_rt]
        have hn1 : (gL (gFds g cx fs nm.s) n).2 + 5 ≤ a.tmps.size := hn
        refine s_fx (x := 6) (m := m) (k0 := k0) (fx := fx) (hrc1.sf hhf) hle (by omega) (by omega) fun a2 hp2 => ?_
        have hs2 := hp2.size
        have hp02 : Pv 6 m k0 n a a2 := hp1.trans (hp2.mono (Nat.le_refl _) hupF)
        cases hfx : fx with
        | false => exact .skip (LW_nil (hskip hfx a2 hp02))
        | true =>
          subst hfx
          simp only [if_true]
          simp only [Bool.not_true, Bool.false_eq_true, if_false, htg] at ho
          have hrc2 : RC g cx true ver S R B O r1 a2 w1 := hrc1.step hc hp2 hrd1 (Keeps.refl (fun _ => False) w1) (fun _ _ h => h.elim)
          obtain ⟨cur, hcu, hcus⟩ := hb1
          rw [← then_rt (N := fun _ _ => True)]
          have hoext' : o < fs.ext (toffEnd (some o)) := hoext
          refine s_readTags (m := m) (k0 := k0) (cur := cur) (te := te) K0 hfl' hrc2 hc hF hcu (by omega) (by omega) (by omega) fun a3 w3 hp3 hrd3 hev3 htg3 => ?_
          refine LW_nil (ho.ok _ _ a3 w3 rfl (hp02.trans (hp3.mono (Nat.le_refl _) (by omega))) hrd3 (hev1'.trans (hev3.mono fun j hj => .inr ⟨o, rfl, hj⟩)) ⟨vs, _, rfl, ?_, fun X hX hS => htg3 X (fun k hk => Nat.lt_of_lt_of_le (hX k hk) hev1.keeps.size) hS⟩)
          exact RpF.evoA (A := (· < w.heap.size)) hev3 hRw hBw hrc.SR.symm hrc.BS ⟨cur, hcu, hcus⟩ hvs (fun j hj h => by rw [h] at hj; exact hoIn hj)
      | true =>
        simp only [htg, if_true, gL] at hn ⊢
        refine LW_cons ?_
        rw [then_rt]
        simp only [hhf, htg, Bool.and_self, Bool.not_true, Bool.false_or, Bool.and_eq_true, decide_eq_true_eq] at hokt
        obtain ⟨hsl, hokt⟩ := hokt
        generalize hbody : (gS [gCall g.uv cx.b (nm.n 1), gSwitch g cx (nm.n 1) (nm.n 4) T kt (gTagd g cx fs nm.s)] : GC) = body at hn ⊢
        have hubody : Up body := by
          rw [← hbody]
          exact up_S (upL_cons (up_ops _ _) (upL_cons (up_switch (up_gTagd g fs nm.s cx)) upL_nil))
        have hn1 : (body ((gL (gFds g cx fs nm.s) n).2 + 1 + 5)).2 ≤ a.tmps.size := hn
        have hub := hubody ((gL (gFds g cx fs nm.s) n).2 + 1 + 5)
        refine s_fx (x := 6) (m := m) (k0 := k0) (fx := fx) (hrc1.sf hhf) hle (by omega) (by omega) fun a2 hp2 => ?_
        have hs2 := hp2.size
        have hp02 : Pv 6 m k0 n a a2 := hp1.trans (hp2.mono (Nat.le_refl _) hupF)
        cases hfx : fx with
        | false => exact .skip (LW_nil (hskip hfx a2 hp02))
        | true =>
          subst hfx
          simp only [if_true]
          simp only [Bool.not_true, Bool.false_eq_true, if_false, htg, if_true] at ho
          have hrc2 : RC g cx true ver S R B O r1 a2 w1 := hrc1.step hc hp2 hrd1 (Keeps.refl (fun _ => False) w1) (fun _ _ h => h.elim)
          have hnil : TgNil w B O (some o) := by
            rcases hpl with h | h
            · rw [plain_untagged fs h.1] at htg; cases htg
            · exact h.2
          have hT1 : Far w S (fun X => TgAt w1 X B O (some o) []) := TgAt.evoA (A := (· < w.heap.size)) hev1 hRw hBw hrc.SR.symm hrc.BS hb (fun X _ _ => hnil.at X) (fun k hk h => by cases hk; exact hoIn h)
          have hm0 : w1.cell? ⟨B, O + o, none⟩ = some (.map none) := by
            obtain ⟨cur, hcu, _⟩ := hb
            rw [hev1.cell hcu hoIn]; exact hnil
          refine s_tagFor (m := m) (k0 := k0) (i := nm.n 0) K0 hfl' hrc2 hc ⟨hsl.1, by omega⟩ (by omega) (by omega)
            (TagI g S R B O o fs ver w (rTagLoop (rdTag true ver fs) (rUv r1).1 vs [] (rUv r1).2)) (fun w2 hrd2 hk2 => ?_) (fun c a3 w3 hp3 hI => ?_) (fun a3 w3 hp3 hI => ?_)
          · have hev2 : Evo R B (fun _ => False) w1 w2 := Evo.of_keeps hk2 (fun _ _ h => h) hrc.BR
            refine ⟨vs, [], (rUv r1).2, .map none, rfl, hrd2, (hev1.mono fun j hj => .inl hj).trans (hev2.mono fun j hj => hj.elim), ?_, .inl ⟨rfl, rfl⟩, ?_, ?_⟩
            · obtain ⟨cur, hcu, _⟩ := hb1
              rw [hev2.cell hcu id]; exact hm0
            · refine (RpF.evoA (A := (· < w.heap.size)) hev2 hRw hBw hrc.SR.symm hrc.BS hb1 hvs (fun _ _ h => h)).mono fun k hk => ?_
              rcases hk with hk | hk
              · exact hk
              · cases hk
            · exact TgAt.evoA (A := (· < w.heap.size)) hev2 hRw hBw hrc.SR.symm hrc.BS hb1 hT1 (fun _ _ h => h)
          · have hs3 := hp3.size
            rw [← hbody] at hn1 ⊢
            exact tag_body (r0 := r) (_mm := 0) K0 h2 hokt hdj hF hoff hsl (hrc.step hc hp02 hrc.rd (Keeps.refl (fun _ => False) w) (fun _ _ h => h.elim)) hc hhf hfl' (by omega) (by omega) (by omega) hb hp3 hI ho.go
              (fun he a' w' hp' hif hk' => ho.err he a' w' (hp02.trans (hp'.mono (Nat.le_refl _) (by omega))) hif hk')
          · obtain ⟨vs', t, r', mm, hout, hrd3, hev3, hcell3, hmm, hRF, hTF⟩ := hI
            have hp3' : Pv 6 m k0 n a a3 := hp02.trans (hp3.mono hsl.1 (by omega))
            refine LW_nil (ho.ok (.st vs' t) r' a3 w3 (by rw [hout]; rfl) hp3' hrd3 (hev3.mono fun j hj => ?_) ⟨vs', t, rfl, hRF.mono fun k hk => .inl hk, hTF⟩)
            rcases hj with hj | hj
            · exact .inl hj
            · exact .inr ⟨o, rfl, hj⟩
  · exact ho.err (by simp only [rdStOf, he, Out.bind]) a1 w1 hp1 hif hk1
  · exact ho.go (by simp only [rdStOf, he, Out.bind])

end
end Go.Proofs.YtmkioomgfdpeiacDoor.Kx

/-
  SOUND, 5: lists.
-/
namespace Go.Proofs.YtmkioomgfdpeiacDoor.Kx
open Go

theorem Pv.weak {x m k0 n : Nat} {a b : Act} (h : Pv x k0 k0 n a b) (hx : m ≤ x ∧ x < k0) : Pv 6 m k0 n a b :=
  ⟨h.size, h.defers, fun s hs hh => h.get s (by omega) (by omega)⟩

theorem RC.withS {g : G} {cx : Cx} {fx : Bool} {ver : Int} {S R B O p o s' : Nat} {r : RS} {a : Act} {w : World} (h : RC g cx fx ver S R B O r a w) (hs : a.get s' = pt p o) (hpR : p ≠ R) (hpS : p ≠ S) (hpg : g.gErr ≠ p) : RC g { cx with s := s' } fx ver S R p o r a w :=
  ⟨h.rd, h.sb, hs, h.sv, h.sf, h.nf, h.su, h.err, h.SR, hpR, hpS, h.gR, hpg, h.Slt⟩

section
variable {P : Program} {g : G} {av : PF → Bool} {fl : Bool} {D : Nat → Option (List (Nat × Value))}

/-- an element's own text: reading it into its place -/
def RdEl (P : Program) (g : G) (av : PF → Bool) (fl : Bool) (D : Nat → Option (List (Nat × Value))) (e : Ty) : Prop :=
  ∀ (nm : Nm) (cx : Cx) (fx : Bool) (ver : Int) (S R B O : Nat) (r : RS) (m k0 n esz : Nat) (z : Array Value) (y i F E' p cnt c j : Nat) (cur : Array Value) (K E : Act → World → Prop) (a : Act) (w : World) (te : Nat),
    okEl ⟨P, g, av, D⟩ cx.hf m k0 esz z e nm = true → RowIs P F E' esz z → RC g cx fx ver S R B O r a w → CxOk cx m k0 → (cx.hf = true → fl = true) → k0 ≤ n → k0 ≤ a.tmps.size → (gL (gEl g cx e y i F nm) n).2 ≤ a.tmps.size →
    a.get y = .slice (some ⟨p, 0, none⟩) cnt c → a.get i = .int .i32 j → j < cnt → y < m → i < m → y ≠ 6 → i ≠ 6 → w.heap[p]? = some (.cells cur te (0, 0)) → j * esz + esz ≤ cur.size → HasZ w p (j * esz) z → p ≠ R → p ≠ S → g.gErr ≠ p →
    Outs g S R p (fun t => j * esz ≤ t ∧ t < j * esz + esz) m k0 n a w (rdTy fx ver e (dfTy 0 e) r) (fun v w' => Far w S fun X => Rp w' X e p (j * esz) v) K E →
    LW P (gEl g cx e y i F nm) n (Rt K E) a w

theorem el_leaf (K0 : KB P g av fl) {e : Ty} (hl : e.leaf = true) : RdEl P g av fl D e := by
  intro nm cx fx ver S R B O r m k0 n esz z y i F E' p cnt c j cur K E a w te hok hrow hrc hc hfl hk hks hn hy hi hj hym him hy6 hi6 hp hsz hz hpR hpS hpg ho
  have hRw : R < w.heap.size := hrc.rd.lt
  have hpw : p < w.heap.size := (Array.getElem?_eq_some_iff.1 hp).1
  have hle := hc.le
  obtain ⟨hg, hlo, hE, hes, huu⟩ : gEl g cx e y i F nm = gVal g cx e (nm.n 0) (nm.l.drop 2) ++ [gIdxStore (uuOf g e) y i (nm.n 0) F (nm.n 1)] ∧ leafOk ⟨P, g, av, D⟩ cx.hf m k0 e (nm.n 0) (nm.l.drop 2) = true ∧ (∀ w, (sizeOf (nm.n 1)).run P w = .ok esz w) ∧ e.sz = esz ∧
      (uuOf g e = none ∨ (uuOf g e = some g.tUuid ∧ VarIs P g.tUuid true e.sz)) := by
    cases e with
    | list => cases hl
    | struct => cases hl
    | prim q =>
      simp only [okEl, Bool.and_eq_true, beq_iff_eq, Bool.or_eq_true, bne_iff_ne] at hok
      obtain ⟨⟨⟨h1, h2⟩, h3⟩, h4⟩ := hok
      refine ⟨rfl, h1, fun w => by rw [← h3]; exact (varB_ok h2).size w, h3, ?_⟩
      by_cases hq : q = .uuid
      · subst hq
        rcases h4 with h | h
        · exact absurd rfl h
        · exact .inr ⟨rfl, varB_ok h⟩
      · exact .inl (by cases q <;> first | rfl | exact absurd rfl hq)
    | str nul =>
      simp only [okEl, Bool.and_eq_true, beq_iff_eq] at hok
      obtain ⟨⟨h1, h2⟩, h3⟩ := hok
      exact ⟨rfl, h1, fun w => by rw [← h3]; exact (varB_ok h2).size w, h3, .inl rfl⟩
    | bytes nul =>
      simp only [okEl, Bool.and_eq_true, beq_iff_eq] at hok
      obtain ⟨⟨h1, h2⟩, h3⟩ := hok
      exact ⟨rfl, h1, fun w => by rw [← h3]; exact (varB_ok h2).size w, h3, .inl rfl⟩
  simp only [leafOk, Bool.and_eq_true] at hlo
  obtain ⟨⟨h1, h2⟩, h3⟩ := hlo
  have hvm : m ≤ nm.n 0 ∧ nm.n 0 < k0 := by simp only [slotsOk, Bool.and_eq_true, decide_eq_true_eq] at h2; exact h2.1
  rw [hg] at hn ⊢
  rw [gL_append] at hn
  simp only [gL, gIdxStore, gOps] at hn
  have hup := up_gVal g cx e (nm.n 0) (nm.l.drop 2) n
  refine s_val K0 (ver := ver) h1 hrc hc hk h2 hks (xOk_form h3) (by omega) fun a1 w1 hpst => ?_
  obtain ⟨cs, hp1, hval, hrd1, hk1, hl1⟩ := hpst
  have hs1 := hp1.size
  have hlr := hl1 (fun _ => False) (fun _ h => h.elim) id
  have hlen : cs.length = esz := hlr.len.trans hes
  have hB1 : w1.heap[p]? = some (.cells cur te (0, 0)) := by rw [hk1.block p hpw hpR]; exact hp
  refine LW_cons (s_idxStore (x := 6) (m := m) (k0 := k0) (p := p) (q := 0) (cs := cs) (cur := cur) (te := te) (sz := esz) ((hp1.get y hy6 (.inl hym)).trans hy) ((hp1.get i hi6 (.inl him)).trans hi) hj hrow.und hrow.size hE ?_ hlen hlr.one hB1 (by omega) hle (by omega) (by omega) (by omega) (by omega) (by omega) fun a2 hp2 => LW_nil ?_)
  · rcases huu with hu | ⟨hu, hU⟩
    · rw [hu] at hval ⊢; exact hval
    · rw [hu] at hval ⊢; exact ⟨by rw [hlr.len]; exact hU, hval⟩
  · rw [Nat.zero_add]
    have hev : Evo R p (fun t => j * esz ≤ t ∧ t < j * esz + esz) w1 (w1.setRow p (splice cur (j * esz) cs)) := Evo.store hB1 (by rw [hlen]; omega) (fun t ha hb => ⟨ha, by rw [hlen] at hb; omega⟩)
    refine ho.ok _ _ a2 _ (rdTy_leaf fx ver e _ r hl) (hp1.trans (hp2.mono (Nat.le_refl _) hup)) (hrd1.keep (Keeps.setRow (fun k => k = p) _ _ _ rfl) (fun h => hpS h.symm) (fun h => hpR h.symm))
      ((Evo.of_keeps hk1 (fun _ _ h => h) hpR).trans hev) fun X hX hS => ?_
    refine rp_leaf hl (fun t u hu => ?_) (((hl1 (fun k => X k ∨ k = p) (fun k hk => by rcases hk with hk | rfl <;> first | exact hX k hk | exact hpw) (fun hk => by rcases hk with hk | hk <;> first | exact hS hk | exact hpS hk.symm)).keep
      (Keeps.setRow (fun k => X k ∨ k = p) _ _ _ (.inr rfl))).mono fun k _ hk => .inl hk)
    have hjl : t < cs.length := (List.getElem?_eq_some_iff.1 hu).1
    rw [cell_setRow_same _ _ _ _ _ _ _ hB1, splice_in (by omega) t hjl]
    exact hu

theorem hasZ_default {w' : World} {p O te : Nat} {cur z : Array Value} {wr : List (Nat × Value)} (hz : ∀ j, j < z.size → cur[O + j]? = z[j]?) (hs : O + z.size ≤ cur.size) (hwr : ∀ q ∈ wr, q.1 < z.size) (h : w'.heap[p]? = some (.cells (applyWr cur O wr) te (0, 0))) : HasZ w' p O (applyWr z 0 wr) := by
  intro j v hj
  have hjz : j < z.size := by
    have := (Array.getElem?_eq_some_iff.1 hj).1
    rwa [applyWr_size] at this
  rw [← applyWr_at O wr cur z hwr hs hz j hjz] at hj
  simpa [World.cell?, h] using hj

theorem el_struct (En : Env P g av fl D) {toff : Option Nat} {fs : Fds} (hst : RdSt P g av fl D fs) : RdEl P g av fl D (.struct none toff fs) := by
  intro nm cx fx ver S R B O r m k0 n esz z y i F E' p cnt c j cur K E a w te hok hrow hrc hc hfl hk hks hn hy hi hj hym him hy6 hi6 hp hsz hz hpR hpS hpg ho
  have hRw : R < w.heap.size := hrc.rd.lt
  have hpw : p < w.heap.size := (Array.getElem?_eq_some_iff.1 hp).1
  have hle := hc.le
  have h66 := hc.six
  simp only [okEl, Bool.and_eq_true, decide_eq_true_eq] at hok
  obtain ⟨⟨hsl, hdf⟩, hokst⟩ := hok
  split at hdf
  · rename_i wr hwr
    simp only [Bool.and_eq_true, decide_eq_true_eq, List.all_eq_true] at hdf
    obtain ⟨⟨⟨hwb, hzf⟩, hzt⟩, hext⟩ := hdf
    obtain ⟨hEnt, hDf⟩ := En.df _ _ hwr
    obtain ⟨_, z', _, _, hzc, _, hzs, _⟩ := hrow.info
    have hn' : (gL (gStOf g { cx with s := nm.n 1 } fs.tagged (nm.n 3) (nm.n 4) (nm.sub 0) (gFds g { cx with s := nm.n 1 } fs (nm.sub 0).s) (gTagd g { cx with s := nm.n 1 } fs (nm.sub 0).s)) (n + 3 + 2 + 1)).2 ≤ a.tmps.size := by
      simp only [gEl] at hn
      rw [gL_append] at hn
      exact hn
    have hup := up_gStOf (g := g) (cx := { cx with s := nm.n 1 }) (tagged := fs.tagged) (T := nm.n 3) (kt := nm.n 4) (m := nm.sub 0) (up_gFds g fs (nm.sub 0).s { cx with s := nm.n 1 }) (up_gTagd g fs (nm.sub 0).s { cx with s := nm.n 1 }) (n + 3 + 2 + 1)
    show LW P (gIdxAddr y i (nm.n 0) F :: gDefault (nm.n 0) (nm.n 2) :: gMove (nm.n 0) (nm.n 1) :: gStOf g { cx with s := nm.n 1 } fs.tagged (nm.n 3) (nm.n 4) (nm.sub 0) (gFds g { cx with s := nm.n 1 } fs (nm.sub 0).s) (gTagd g { cx with s := nm.n 1 } fs (nm.sub 0).s)) n (Rt K E) a w
    refine LW_cons (s_idxAddr (x := 6) (m := m) (k0 := k0) (p := p) (q := 0) hy hi hj hrow.und hrow.size (.inr ⟨hsl.1, hsl.2.2.1⟩) hle hk (by omega) (by omega) (by omega) (by omega) fun a1 hp1 hg1 => ?_)
    rw [Nat.zero_add] at hg1
    have hs1 := hp1.size
    refine LW_cons (s_default (x := 6) (m := m) (k0 := k0) (B := p) (O := j * esz) (cur := cur) (te := te) hEnt hDf hg1 hp (fun q hq => by have := hwb q hq; omega) hle (by simp only [gIdxAddr, gOps]; omega) (by simp only [gIdxAddr, gOps]; omega) fun a2 w2 hp2 hsame2 hk2 hB2 => ?_)
    simp only [gIdxAddr, gOps] at hp2 hsame2
    have hs2 := hp2.size
    have hg2 : a2.get (nm.n 0) = pt p (j * esz) := (hsame2 _ (by omega)).trans hg1
    refine LW_cons (s_move (x := 6) (m := m) (k0 := k0) (.inr ⟨hsl.2.1, hsl.2.2.2.1⟩) hle (by simp only [gIdxAddr, gDefault, gOps]; omega) (by simp only [gIdxAddr, gDefault, gOps]; omega) (by omega) fun a3 hp3 hg3 => ?_)
    simp only [gIdxAddr, gDefault, gMove, gOps] at hp3 ⊢
    have hs3 := hp3.size
    have hp03 : Pv 6 m k0 n a a3 := (hp1.trans (hp2.mono (Nat.le_refl _) (by omega))).trans (hp3.mono (Nat.le_refl _) (by omega))
    have hwbz : ∀ q ∈ wr, q.1 < z.size := fun q hq => by rw [hzs]; exact hwb q hq
    have hcz : ∀ t, t < z.size → cur[j * esz + t]? = z[t]? := fun t ht => by
      obtain ⟨u, hu⟩ : ∃ u, z[t]? = some u := ⟨z[t], by simp [ht]⟩
      have := hz t u hu
      rw [hu]
      simpa [World.cell?, hp] using this
    have hZ2 := hasZ_default hcz (by rw [hzs]; omega) hwbz hB2
    have hb2 : Blk w2 p (j * esz + fs.ext (toffEnd toff)) te := ⟨_, hB2, by rw [applyWr_size]; omega⟩
    have hrd2 : RdS w2 g.tR S R r := hrc.rd.keep hk2 (fun h => hpS h.symm) (fun h => hpR h.symm)
    obtain ⟨t', x', he'⟩ := hrc.err
    have herr2 : ErrAt g.gErr w2 := ErrAt.keep ⟨t', x', he'⟩ hk2 hpg
    have hrc3 : RC g { cx with s := nm.n 1 } fx ver S R p (j * esz) r a3 w2 :=
      ⟨hrd2, (hp03.get _ hc.b.2 (.inl hc.b.1)).trans hrc.sb, hg3.trans hg2, (hp03.get _ hc.ver.2 (.inl hc.ver.1)).trans hrc.sv, fun hf => (hp03.get _ hc.fx.2 (.inl hc.fx.1)).trans (hrc.sf hf), hrc.nf, (hp03.get 2 (by omega) (.inl (by omega))).trans hrc.su, herr2, hrc.SR, hpR, hpS, hrc.gR, hpg,
        Nat.lt_of_lt_of_le hrc.Slt hk2.size⟩
    have hm1 : nm.n 0 < max (nm.n 0) (nm.n 1) + 1 ∧ nm.n 1 < max (nm.n 0) (nm.n 1) + 1 ∧ max (nm.n 0) (nm.n 1) + 1 ≤ k0 := by omega
    have hc3 : CxOk { cx with s := nm.n 1 } (max (nm.n 0) (nm.n 1) + 1) k0 :=
      ⟨⟨by have := hc.b; simp only; omega, hc.b.2⟩, ⟨hm1.2.1, by simp only; omega⟩, ⟨by have := hc.ver; simp only; omega, hc.ver.2⟩, ⟨by have := hc.fx; simp only; omega, hc.fx.2⟩, by omega, hm1.2.2⟩
    have hev2 : Evo R p (fun t => j * esz ≤ t ∧ t < j * esz + esz) w w2 := by
      refine ⟨hk2.mono fun _ _ h => .inr h, fun cs te' hcs => ?_⟩
      rw [hp] at hcs
      obtain ⟨rfl, rfl, _⟩ := Obj.cells.inj (Option.some.inj hcs)
      exact ⟨_, hB2, applyWr_size _ _ _, fun t ht => applyWr_out _ _ _ _ fun q hq he => ht (by have := hwb q hq; omega)⟩
    refine hst (nm.sub 0) { cx with s := nm.n 1 } fx ver S R p (j * esz) r (max (nm.n 0) (nm.n 1) + 1) k0 (n + 3 + 2 + 1) (nm.n 3) (nm.n 4) toff K E a3 w2 te hokst hrc3 hc3 hfl (by omega) (by omega) (by omega) hb2 ?_ ⟨fun v r' a4 w4 he hp4 hrd4 hev4 hv => ?_, fun he a4 w4 hp4 hif hk4 => ?_, fun he => ?_⟩
    · refine .inr ⟨fun X => zFds_ok hZ2 X fs 0 hzf, ?_⟩
      cases toff with
      | none => trivial
      | some o => exact hZ2.one hzt
    · obtain ⟨vs, t, rfl, hF, hT⟩ := hv
      refine ho.ok _ r' a4 w4 he (hp03.trans (hp4.mono (by omega) (by omega))) hrd4 (hev2.trans (hev4.mono fun t ht => by have := zn_ext ht; omega)) fun X hX hS => ⟨vs, t, rfl, far_trans hF hk2.size X hX hS, far_trans hT hk2.size X hX hS⟩
    · exact ho.err he a4 w4 (hp03.trans (hp4.mono (by omega) (by omega))) hif (hev2.keeps.trans hk4)
    · exact ho.go he
  · cases hdf

end
end Go.Proofs.YtmkioomgfdpeiacDoor.Kx

/-
  SOUND, 6: a list.
-/
namespace Go.Proofs.YtmkioomgfdpeiacDoor.Kx
open Go

section
variable {P : Program} {g : G} {av : PF → Bool} {fl : Bool} {D : Nat → Option (List (Nat × Value))}

theorem rMany_step (f : RS → Out V) (k : Nat) (r : RS) : rMany f (k + 1) r = (f r).bind fun v r => (rMany f k r).bind fun vs r => .ok (v :: vs) r := rfl

/-- j things are read, the rest is still to be read -/
def Part (f : RS → Out V) (L : Nat) (r0 : RS) (vs : List V) (r : RS) : Prop := rMany f L r0 = (rMany f (L - vs.length) r).bind fun us r => .ok (vs ++ us) r
theorem Part.start (f : RS → Out V) (L : Nat) (r0 : RS) : Part f L r0 [] r0 := by
  simp only [Part, List.length_nil, Nat.sub_zero, List.nil_append]
  cases rMany f L r0 <;> rfl
theorem Part.step {f : RS → Out V} {L : Nat} {r0 r r' : RS} {vs : List V} {v : V} (h : Part f L r0 vs r) (hl : vs.length < L) (hf : f r = .ok v r') : Part f L r0 (vs ++ [v]) r' := by
  unfold Part at h ⊢
  rw [h]
  obtain ⟨k, hk⟩ : ∃ k, L - vs.length = k + 1 := ⟨L - vs.length - 1, by omega⟩
  have hk2 : L - (vs ++ [v]).length = k := by simp; omega
  rw [hk, hk2, rMany_step, hf]
  simp only [Out.bind]
  cases rMany f k r' <;> simp
theorem Part.fail {f : RS → Out V} {L : Nat} {r0 r : RS} {vs : List V} (h : Part f L r0 vs r) (hl : vs.length < L) : (f r = .err → rMany f L r0 = .err) ∧ (f r = .stuck → rMany f L r0 = .stuck) := by
  unfold Part at h
  obtain ⟨k, hk⟩ : ∃ k, L - vs.length = k + 1 := ⟨L - vs.length - 1, by omega⟩
  rw [h, hk, rMany_step]
  exact ⟨fun hf => by rw [hf]; rfl, fun hf => by rw [hf]; rfl⟩
theorem Part.done {f : RS → Out V} {L : Nat} {r0 r : RS} {vs : List V} (h : Part f L r0 vs r) (hl : vs.length = L) : rMany f L r0 = .ok vs r := by
  unfold Part at h
  rw [h, hl, Nat.sub_self]
  simp [rMany, Out.bind]

/-- a = v, s.F = v -/
theorem list_tail {cx : Cx} {fx : Bool} {ver : Int} {S R B O : Nat} {r r' : RS} {m k0 n n0 T k F off v y : Nat} {sl : Value} {K E : Act → World → Prop} {a0 a1 : Act} {w0 w1 : World} {te : Nat} (hF : FldIs P T k F off false 1) (hrc : RC g cx fx ver S R B O r a0 w0) (hc : CxOk cx m k0) (hv : m ≤ v ∧ v < k0) (hk : k0 ≤ n0) (hn0 : n0 ≤ n) (hn : n + 1 + 4 ≤ a0.tmps.size)
    (hp : Pv 6 m k0 n0 a0 a1) (hy : a1.get y = sl) (_hyn : y < k0) (hsl : sl.oneCell' = true ∧ sl.cells = #[sl]) (hev : Evo R B (fun j => O + off ≤ j ∧ j < O + off + 1) w0 w1) (hrd : RdS w1 g.tR S R r') (hb : Blk w0 B (O + off + 1) te)
    (h : ∀ a' w', Pv 6 m k0 n0 a0 a' → RdS w' g.tR S R r' → Evo R B (fun j => O + off ≤ j ∧ j < O + off + 1) w0 w' → Keeps (· = B) w1 w' → w'.cell? ⟨B, O + off, none⟩ = some sl → K a' w') :
    LW P [gMove y v, gStore none cx.s v T k F] n (Rt K E) a1 w1 := by
  have hs := hp.size
  have hle := hc.le
  obtain ⟨cur, hcu, hcus⟩ := hb.evo hev
  refine LW_cons (s_move (x := 6) (m := m) (k0 := k0) (.inr hv) hle (by omega) (by omega) (by omega) fun a2 hp2 hg2 => ?_)
  have hs2 := hp2.size
  have hss : a2.get cx.s = pt B O := ((hp.trans (hp2.mono (Nat.le_refl _) hn0)).get _ hc.s.2 (.inl hc.s.1)).trans hrc.ss
  have hm1 : (gMove y v n).2 = n + 1 := rfl
  rw [hm1]
  refine LW_cons (s_store (x := 6) (m := m) (k0 := k0) (cs := [sl]) (cur := cur) (te := te) hss hF ⟨sl, by rw [hg2, hy], by rw [hsl.2]⟩ rfl (fun u hu => by simp at hu; rw [hu]; exact hsl.1) hcu hcus hle (by omega) (by omega) (by omega) fun a3 hp3 => LW_nil ?_)
  have hevS : Evo R B (fun j => O + off ≤ j ∧ j < O + off + 1) w1 (w1.setRow B (splice cur (O + off) [sl])) := Evo.store hcu (by simpa using hcus) (fun j ha hb => ⟨ha, by simpa using hb⟩)
  refine h a3 _ ((hp.trans (hp2.mono (Nat.le_refl _) hn0)).trans (hp3.mono (Nat.le_refl _) (by omega))) (hrd.keep (Keeps.setRow (fun k => k = B) _ _ _ rfl) (fun h => hrc.BS h.symm) (fun h => hrc.BR h.symm)) (hev.trans hevS) (Keeps.setRow _ _ _ _ rfl) ?_
  rw [cell_setRow_same _ _ _ _ _ _ _ hcu]
  have := splice_in (cur := cur) (o := O + off) (vs := [sl]) (by simpa using hcus) 0 (by simp)
  simpa using this

/-- what holds where j elements are read -/
def ListI (g : G) (S R p esz : Nat) (e : Ty) (f : RS → Out V) (L : Nat) (r0 : RS) (c : Nat) (z : Array Value) (te : Nat) (wA : World) (j : Nat) (w : World) : Prop :=
  ∃ (vs : List V) (r : RS), vs.length = j ∧ Part f L r0 vs r ∧ RdS w g.tR S R r ∧ Evo R p (fun t => t < j * esz) wA w ∧ (∃ cur, w.heap[p]? = some (.cells cur te (0, 0)) ∧ cur.size = c * esz ∧ ∀ q t, j ≤ q → q < L → t < esz → cur[q * esz + t]? = z[t]?) ∧
    ∀ i v, vs[i]? = some v → FarA (· < wA.heap.size) S fun X => Rp w X e p (i * esz) v

theorem list_body {e : Ty} {esz : Nat} (hel : RdEl P g av fl D e) (hez : e.sz ≤ esz) {nm : Nm} {cx : Cx} {fx : Bool} {ver : Int} {S R B O : Nat} {r0 r1 : RS} {m k0 n : Nat} {z : Array Value} {y i F E' p c L j : Nat} {E : Act → World → Prop} {a a1 : Act} {wA w1 : World} {te : Nat}
    (hok : okEl ⟨P, g, av, D⟩ cx.hf (i + 1) k0 esz z e nm = true) (hrow : RowIs P F E' esz z) (hrc : RC g cx fx ver S R B O r0 a wA) (hc : CxOk cx m k0) (hfl : cx.hf = true → fl = true) (hk : k0 ≤ n) (hks : k0 ≤ a.tmps.size) (hn : (gL (gEl g cx e y i F nm) (n + 5)).2 ≤ a.tmps.size) (hmi : m ≤ i) (hik : i < k0) (hyi : y < i) (hy6 : y ≠ 6)
    (hp1 : Pv 6 i k0 n a a1) (hy : a.get y = .slice (some ⟨p, 0, none⟩) L c) (hi : a1.get i = .int .i32 j) (hj : j < L) (hLc : L ≤ c) (hpR : p ≠ R) (hpS : p ≠ S) (_hpB : p ≠ B) (hpg : g.gErr ≠ p) (hpA : p < wA.heap.size)
    (hI : ListI g S R p esz e (rdTy fx ver e (dfTy 0 e)) L r1 c z te wA j w1)
    (hE : rMany (rdTy fx ver e (dfTy 0 e)) L r1 = .err → ∀ a' w', Pv 6 m k0 n a a' → (∃ t y, a'.get 6 = .iface t y) → Keeps (fun k => k = R ∨ k = p) wA w' → E a' w') (hgo : rMany (rdTy fx ver e (dfTy 0 e)) L r1 ≠ .stuck) :
    NWP P (gS (gEl g cx e y i F nm) (n + 5)).1 (Rt (fun a2 w2 => Pv 6 (i + 1) k0 (n + 5) a1 a2 ∧ ListI g S R p esz e (rdTy fx ver e (dfTy 0 e)) L r1 c z te wA (j + 1) w2) E) a1 w1 := by
  obtain ⟨vs, r, hvl, hpart, hrd, hev, ⟨cur, hcu, hcs, hcz⟩, hvs⟩ := hI
  have hs1 := hp1.size
  have h66 := hc.six
  obtain ⟨_, z', _, _, hzc, _, hzs, hpos, _⟩ := hrow.info
  have hRA : R < wA.heap.size := hrc.rd.lt
  obtain ⟨t', x', he'⟩ := hrc.err
  have herr1 : ErrAt g.gErr w1 := ErrAt.keep ⟨t', x', he'⟩ hev.keeps (fun h => by rcases h with h | h; exact hrc.gR h; exact hpg h)
  have hrc1 : RC g cx fx ver S R B O r a1 w1 :=
    ⟨hrd, (hp1.get _ hc.b.2 (.inl (by have := hc.b; omega))).trans hrc.sb, (hp1.get _ hc.s.2 (.inl (by have := hc.s; omega))).trans hrc.ss, (hp1.get _ hc.ver.2 (.inl (by have := hc.ver; omega))).trans hrc.sv, fun hf => (hp1.get _ hc.fx.2 (.inl (by have := hc.fx; omega))).trans (hrc.sf hf), hrc.nf,
      (hp1.get 2 (by omega) (.inl (by omega))).trans hrc.su, herr1, hrc.SR, hrc.BR, hrc.BS, hrc.gR, hrc.gB, Nat.lt_of_lt_of_le hrc.Slt hev.keeps.size⟩
  have hci : CxOk cx (i + 1) k0 := cxOk_up hc (by omega) (by omega)
  have hjb : j * esz + esz ≤ c * esz := by
    have : (j + 1) * esz ≤ c * esz := Nat.mul_le_mul_right _ (by omega)
    rw [Nat.add_mul, Nat.one_mul] at this
    exact this
  have hZ : HasZ w1 p (j * esz) z := fun t v ht => by
    have htl : t < esz := by rw [← hzs]; exact (Array.getElem?_eq_some_iff.1 ht).1
    have := hcz j t (Nat.le_refl _) hj htl
    rw [ht] at this
    simpa [World.cell?, hcu] using this
  have hbk : Blk w1 p (j * esz) te := ⟨cur, hcu, by omega⟩
  refine nwp_gS (hel nm cx fx ver S R B O r (i + 1) k0 (n + 5) esz z y i F E' p L c j cur _ E a1 w1 te hok hrow hrc1 hci hfl (by omega) (by omega) (by omega) ((hp1.get y hy6 (.inl hyi)).trans hy) hi hj (by omega) (by omega) hy6 (by omega) hcu (by omega) hZ hpR hpS hpg
    ⟨fun v r' a2 w2 he hp2 hrd2 hev2 hv => ⟨hp2, ?_⟩, fun he a2 w2 hp2 hif hk2 => ?_, fun he => ?_⟩)
  · refine ⟨vs ++ [v], r', by simp [hvl], hpart.step (by omega) he, hrd2, (hev.mono fun t ht => ?_).trans (hev2.mono fun t ht => ?_), ?_, fun q u hq => ?_⟩
    · rw [Nat.add_mul, Nat.one_mul]; omega
    · rw [Nat.add_mul, Nat.one_mul]; omega
    · obtain ⟨cs2, h1, h2, h3⟩ := hev2.blk cur te hcu
      refine ⟨cs2, h1, by omega, fun q t hq hqL ht => ?_⟩
      rw [h3 _ (fun hh => by
        have : (j + 1) * esz ≤ q * esz := Nat.mul_le_mul_right _ hq
        rw [Nat.add_mul, Nat.one_mul] at this
        omega)]
      exact hcz q t (by omega) hqL ht
    · rcases Nat.lt_or_ge q vs.length with hlt | hge
      · rw [List.getElem?_append_left hlt] at hq
        refine Rp.evoA hev2 hRA hpA hrc.SR.symm hpS hbk (hvs q u hq) (fun t ht1 ht2 hh => ?_)
        have : (q + 1) * esz ≤ j * esz := Nat.mul_le_mul_right _ (by omega)
        rw [Nat.add_mul, Nat.one_mul] at this
        omega
      · have hq0 : q = vs.length := by
          have := (List.getElem?_eq_some_iff.1 hq).1
          simp at this
          omega
        subst hq0
        rw [List.getElem?_append_right (Nat.le_refl _), Nat.sub_self] at hq
        obtain rfl : v = u := by simpa using hq
        rw [hvl]
        exact far_trans hv hev.keeps.size
  · exact hE ((hpart.fail (by omega)).1 he) a2 w2 ((hp1.mono hmi (Nat.le_refl _)).trans (hp2.mono (by omega) (by omega))) hif (hev.keeps.trans hk2)
  · exact hgo ((hpart.fail (by omega)).2 he)

end
end Go.Proofs.YtmkioomgfdpeiacDoor.Kx

/-
  SOUND, 7: a list, whole.
-/
namespace Go.Proofs.YtmkioomgfdpeiacDoor.Kx
open Go

section
variable {P : Program} {g : G} {av : PF → Bool} {fl : Bool} {D : Nat → Option (List (Nat × Value))}

theorem ty_list (K0 : KB P g av fl) {nul : Option Nat} {esz : Nat} {e : Ty} (hel : RdEl P g av fl D e) (hez : ∀ hf m k0 z nm, okEl ⟨P, g, av, D⟩ hf m k0 esz z e nm = true → e.sz ≤ esz) : RdTy P g av fl D (.list nul esz e) := by
  intro nm cx fx ver S R B O r m k0 n T off old K E a w te hok hrc hc hfl hk hks hn hb hold ho
  simp only [okTy, Bool.and_eq_true, decide_eq_true_eq, beq_iff_eq] at hok
  obtain ⟨⟨⟨hsl, hT⟩, hF⟩, hrow⟩ := hok
  subst hT
  replace hF := fldB_ok hF
  split at hrow
  · rename_i E' sz z hrowE
    simp only [Bool.and_eq_true, beq_iff_eq] at hrow
    obtain ⟨⟨rfl, hokE⟩, hhl⟩ := hrow
    have hho : hasF g.ok = true := by simp only [hasLst, Bool.and_eq_true] at hhl; exact hhl.1.2
    have hrow := rowOf_ok hrowE
    have hRw : R < w.heap.size := hrc.rd.lt
    have hBw : B < w.heap.size := hb.lt
    have hle := hc.le
    have h66 := hc.six
    have hvm := hc.ver
    have hnul : old.isNul = true := by
      cases h : old.isNul with
      | true => rfl
      | false => exact absurd (by simp only [rdTy, h]; rfl) ho.go
    have hcell : w.cell? ⟨B, O + off, none⟩ = some (.slice none 0 0) := by
      rcases hold with ⟨h, _⟩ | ⟨xs, p, q, c, _, _, _, _, _, h, _⟩
      · exact h
      · rw [h] at hnul; cases hnul
    have hrs : rdTy fx ver (.list nul sz e) old r = (if (rLen fx r).2.bad then .err else if !roomy (rLen fx r).1 sz then .stuck else if (rLen fx r).1 ≤ 0 then .ok (if nul.isSome && (decide ((rLen fx r).1 = 0) || !nullable nul ver) then .l [] else .nul) (rLen fx r).2
        else (rMany (rdTy fx ver e (dfTy 0 e)) (rLen fx r).1.toNat (rLen fx r).2).bind fun vs r => .ok (.l vs) r) := by
      simp only [rdTy, hnul]; rfl
    rw [hrs] at ho
    have hLlt := rLen_lt fx r
    generalize hv : nm.n 0 = v at *
    generalize hy : nm.n 4 = y at *
    generalize hl : nm.n 5 = l at *
    generalize hi : nm.n 6 = i at *
    generalize hFF : nm.n 3 = F at *
    have hn' : (gL (gEl g cx e y i F (nm.sub 0)) ((gL (gNull g cx nul y l F) ((if cx.hf then gFx cx (gCall g.clen cx.b l) (gCall g.len cx.b l) else gCall g.len cx.b l : GC) (n + 5)).2).2 + 15)).2 + 5 ≤ a.tmps.size := by
      have h := hn
      simp only [gTy] at h
      rw [gL_append, gL_append, hv, hy, hl, hi, hFF] at h
      exact h
    have hupL : Up (if cx.hf then gFx cx (gCall g.clen cx.b l) (gCall g.len cx.b l) else gCall g.len cx.b l : GC) := up_ite (up_if (up_ops _ _) (up_ops _ _)) (up_ops _ _)
    have hupL' := hupL (n + 5)
    have hupN' := up_gNull g cx nul y l F ((if cx.hf then gFx cx (gCall g.clen cx.b l) (gCall g.len cx.b l) else gCall g.len cx.b l : GC) (n + 5)).2
    have hupE' := up_gEl g e (nm.sub 0) cx y i F ((gL (gNull g cx nul y l F) ((if cx.hf then gFx cx (gCall g.clen cx.b l) (gCall g.len cx.b l) else gCall g.len cx.b l : GC) (n + 5)).2).2 + 15)
    have hgoal : LW P (gLoad cx.s v (nm.n 1) (nm.n 2) F :: gMove v y :: gSet l (.int .i32 0) :: (if cx.hf then gFx cx (gCall g.clen cx.b l) (gCall g.len cx.b l) else gCall g.len cx.b l : GC) :: (gNull g cx nul y l F ++
        [gOkChk g cx, gSl0 y F, gGrow g y l F, gFor g i l (nm.n 7) (nm.n 8) (gS (gEl g cx e y i F (nm.sub 0))), gMove y v, gStore none cx.s v (nm.n 1) (nm.n 2) F])) n (Rt K E) a w := by
      -- the field, its copy
      refine LW_cons (s_load (x := 6) (m := m) (k0 := k0) (O := O) hrc.ss hF hcell (.inr ⟨hsl.1, by omega⟩) hle hk (by omega) (by omega) fun a1 hp1 hg1 => ?_)
      have hs1 := hp1.size
      rw [show (gLoad cx.s v (nm.n 1) (nm.n 2) F n).2 = n + 4 from rfl]
      refine LW_cons (s_move (x := 6) (m := m) (k0 := k0) (.inr ⟨by omega, by omega⟩) hle (by omega) (by omega) (by omega) fun a2 hp2 hg2 => ?_)
      have hs2 := hp2.size
      rw [hg1] at hg2
      rw [show (gMove v y (n + 4)).2 = n + 5 from rfl]
      refine LW_cons (s_set (x := l) (m := k0) (k0 := k0) (n := n + 5) (.inl rfl) (by omega) fun a3 hp3 _ => ?_)
      have hs3 := hp3.size
      have hg3 : a3.get y = .slice none 0 0 := (hp3.get y (by omega) (.inl (by omega))).trans hg2
      have hp03 : Pv 6 m k0 n a a3 := (hp1.trans (hp2.mono (Nat.le_refl _) (by omega))).trans ((hp3.weak ⟨by omega, by omega⟩).mono (Nat.le_refl _) (by omega))
      have hrc3 : RC g cx fx ver S R B O r a3 w := hrc.step hc hp03 hrc.rd (Keeps.refl (fun _ => False) w) (fun _ _ h => h.elim)
      rw [show (gSet l (.int .i32 0) (n + 5)).2 = n + 5 from rfl]
      -- how many
      refine LW_cons (s_len (m := l) (k0 := k0) K0 hhl hfl hrc3 (cxOk_up hc (by omega) (by omega)) ⟨Nat.le_refl _, by omega⟩ (by omega) (by omega) fun a4 w4 hp4 hg4 hrd4 hk4 => ?_)
      have hs4 := hp4.size
      have hy4 : a4.get y = .slice none 0 0 := (hp4.get y (by omega) (.inl (by omega))).trans hg3
      have hp04 : Pv 6 m k0 n a a4 := hp03.trans (hp4.mono (by omega) (by omega))
      have hrc4 : RC g cx fx ver S R B O (rLen fx r).2 a4 w4 := hrc.step hc hp04 hrd4 hk4 (fun _ _ h => .inl h)
      generalize hLv : (rLen fx r).1 = L at *
      generalize hr1 : (rLen fx r).2 = r1 at *
      generalize hnL : ((if cx.hf then gFx cx (gCall g.clen cx.b l) (gCall g.len cx.b l) else gCall g.len cx.b l : GC) (n + 5)).2 = nL at *
      -- nil or empty
      refine s_null (x := 6) (m := y) (k0 := k0) (ver := ver) hrc4.sv hy4 hg4 hrow ⟨Nat.le_refl _, by omega⟩ (by omega) (by omega) (by omega) (by omega) (by omega) (by omega) (by omega) (by omega) fun a5 w5 base hp5 hk5 hy5 hg5 hbase hbs => ?_
      have hs5 := hp5.size
      generalize hnN : (gL (gNull g cx nul y l F) nL).2 = nN at *
      have hp05 : Pv 6 m k0 n a a5 := hp04.trans (hp5.mono (by omega) (by omega))
      have hk05 : Keeps (· = R) w w5 := hk4.trans (hk5.mono fun _ _ h => h.elim)
      have hrc5 : RC g cx fx ver S R B O r1 a5 w5 := hrc.step hc hp05 (hrd4.keep hk5 id id) hk05 (fun _ _ h => .inl h)
      -- is the reader well
      refine LW_cons ?_
      rw [then_rt]
      refine s_okChk (m := i) (k0 := k0) K0 hho hrc5 (cxOk_up hc (by omega) (by omega)) (by omega) (by omega) (fun hbad a6 w6 hp6 hif hk6 => ?_) (fun hgood a6 w6 hp6 hk6 => ?_)
      · exact ho.err (by rw [hbad]; rfl) a6 w6 (hp05.trans (hp6.mono (by omega) (by omega))) hif ((hk05.trans (hk6.mono fun _ _ h => h.elim)).mono fun _ _ h => .inl h)
      have hs6 := hp6.size
      have hp06 : Pv 6 m k0 n a a6 := hp05.trans (hp6.mono (by omega) (by omega))
      have hy6' : a6.get y = .slice base 0 0 := (hp6.get y (by omega) (.inl (by omega))).trans hy5
      have hl6' : a6.get l = .int .i32 L := (hp6.get l (by omega) (.inl (by omega))).trans hg5
      have hk06 : Keeps (· = R) w w6 := hk05.trans (hk6.mono fun _ _ h => h.elim)
      have hrd6 : RdS w6 g.tR S R r1 := hrc5.rd.keep hk6 id id
      rw [hgood] at ho
      have hroom : roomy L sz = true := by
        cases h : roomy L sz with
        | true => rfl
        | false => exact absurd (by rw [h]; rfl) ho.go
      rw [hroom] at ho
      simp only [Bool.false_eq_true, if_false, Bool.not_true] at ho
      rw [show (gOkChk g cx nN).2 = nN + 3 from rfl]
      refine LW_cons (s_sl0 (x := y) (m := k0) (k0 := k0) hy6' hrow.und hrow.size (.inl rfl) (Nat.le_refl _) (by omega) (by omega) (by omega) fun a7 hp7 hy7 => ?_)
      have hs7 := hp7.size
      have hl7 : a7.get l = .int .i32 L := (hp7.get l (by omega) (.inl (by omega))).trans hl6'
      rw [show (gSl0 y F (nN + 3)).2 = nN + 5 from rfl]
      have hp07 : Pv 6 m k0 n a a7 := hp06.trans ((hp7.weak ⟨by omega, by omega⟩).mono (Nat.le_refl _) (by omega))
      refine LW_cons (s_grow (x := y) (m := k0) (k0 := k0) K0 hy7 hl7 hrow hLlt hroom (.inl rfl) (by omega) (Nat.le_refl _) (by omega) (by omega) (by omega) (fun hL a8 hp8 hy8 => ?_) (fun hL a8 c cs hp8 hLc hcm hcs hcz hy8 => ?_))
      · -- nothing there
        have hs8 := hp8.size
        have hl8 : a8.get l = .int .i32 L := (hp8.get l (by omega) (.inl (by omega))).trans hl7
        have hp08 : Pv 6 m k0 n a a8 := hp07.trans ((hp8.weak ⟨by omega, by omega⟩).mono (Nat.le_refl _) (by omega))
        rw [show (gGrow g y l F (nN + 5)).2 = nN + 10 from rfl]
        refine LW_cons ?_
        rw [then_rt]
        refine s_for (m := m) (k0 := k0) (L := L) ⟨by omega, by omega⟩ (by omega) (by omega) (by omega) hle (by omega) (by omega) hl8 hLlt (fun _ w' => w' = w6) rfl (fun j a9 w9 hj => by omega) fun a9 w9 hp9 hw9 => ?_
        subst hw9
        have hev : Evo R B (fun j => O + off ≤ j ∧ j < O + off + 1) w w9 := Evo.of_keeps hk06 (fun _ _ h => h) hrc.BR
        have hy9 : a9.get y = .slice base 0 0 := (hp9.get y (by omega) (.inl (by omega))).trans hy8
        have hone : (Value.slice base 0 0).oneCell' = true ∧ (Value.slice base 0 0).cells = #[.slice base 0 0] := ⟨rfl, rfl⟩
        rw [show (gFor g i l (nm.n 7) (nm.n 8) (gS (gEl g cx e y i F (nm.sub 0))) (nN + 10)).2 = (gL (gEl g cx e y i F (nm.sub 0)) (nN + 15)).2 from rfl]
        refine list_tail (n0 := n) hF hrc hc ⟨hsl.1, by omega⟩ hk (by omega) (by omega) (hp08.trans (hp9.mono (by omega) (by omega))) hy9 (by omega) hone hev hrd6 hb fun a10 w10 hp10 hrd10 hev10 hk10 hcell10 => ?_
        refine ho.ok _ r1 a10 w10 (by rw [if_pos hL]) hp10 hrd10 hev10 fun X hX hS => ?_
        rw [← hbs]
        rcases hbase with rfl | ⟨p, rfl, hp, hp2⟩
        · exact .inl ⟨hcell10, rfl⟩
        · refine .inr ⟨[], p, 0, 0, hcell10, fun hXp => ?_, ?_, Nat.le_refl _, by simp, rfl, fun i x hx => by simp at hx⟩
          · have := hX p hXp
            have := hk4.size
            omega
          · have := hk6.size
            have := hk10.size
            omega
      · -- so many elements
        have hs8 := hp8.size
        have hl8 : a8.get l = .int .i32 L := (hp8.get l (by omega) (.inl (by omega))).trans hl7
        have hp08 : Pv 6 m k0 n a a8 := hp07.trans ((hp8.weak ⟨by omega, by omega⟩).mono (Nat.le_refl _) (by omega))
        rw [show (gGrow g y l F (nN + 5)).2 = nN + 10 from rfl]
        rw [if_neg (by omega)] at ho
        have hkA : Keeps (fun _ => False) w6 (w6.drew.alloc (.cells cs E' (0, 0))) := (Keeps.drew _ _).trans (Keeps.alloc _ _ _)
        have hsz6 := hk06.size
        have hAsz : (w6.drew.alloc (.cells cs E' (0, 0))).heap.size = w6.heap.size + 1 := by simp
        have hpc : (w6.drew.alloc (.cells cs E' (0, 0))).heap[w6.heap.size]? = some (.cells cs E' (0, 0)) := heap_alloc_new w6.drew _
        have hk0A : Keeps (· = R) w (w6.drew.alloc (.cells cs E' (0, 0))) := hk06.trans (hkA.mono fun _ _ h => h.elim)
        have hrdA : RdS (w6.drew.alloc (.cells cs E' (0, 0))) g.tR S R r1 := hrd6.keep hkA id id
        have hrcA : RC g cx fx ver S R B O r1 a8 (w6.drew.alloc (.cells cs E' (0, 0))) := hrc.step hc hp08 hrdA hk0A (fun _ _ h => .inl h)
        obtain ⟨t', x', he'⟩ := hrc.err
        have hgl := lt_of_cell he'
        have hSlt := hrc.Slt
        generalize hwA : w6.drew.alloc (.cells cs E' (0, 0)) = wA at *
        refine LW_cons ?_
        rw [then_rt]
        refine s_for (m := m) (k0 := k0) (L := L) ⟨by omega, by omega⟩ (by omega) (by omega) (by omega) hle (by omega) (by omega) hl8 hLlt (ListI g S R w6.heap.size sz e (rdTy fx ver e (dfTy 0 e)) L.toNat r1 c z E' wA) ?_ (fun j a9 w9 hj hp9 hi9 hI => ?_) fun a9 w9 hp9 hI => ?_
        · exact ⟨[], r1, rfl, Part.start _ _ _, hrdA, Evo.refl _ _ _ _, ⟨cs, hpc, hcs, fun q t _ hq ht => hcz q t hq ht⟩, fun i v hv => by simp at hv⟩
        · refine list_body (B := B) (O := O) (r0 := r1) (m := m) (te := E') hel (hez _ _ _ _ _ hokE) hokE hrow hrcA hc hfl (by omega) (by omega) (by rw [show nN + 10 + 5 = nN + 15 from rfl]; omega) (by omega) (by omega) (by omega) (by omega) hp9 hy8 hi9 hj hLc (by omega) (by omega) (by omega) (by omega) (by omega) hI (fun he a10 w10 hp10 hif hk10 => ?_) (fun he => ?_)
          · refine ho.err (by rw [he]; rfl) a10 w10 (hp08.trans (hp10.mono (Nat.le_refl _) (by omega))) hif ?_
            exact ⟨hk10.os.trans hk0A.os, hk10.tape.trans hk0A.tape, hk10.output.trans hk0A.output, Nat.le_trans hk0A.size hk10.size, fun q hq hx => by
              rw [hk10.block q (by omega) (fun h => by rcases h with h | h; exact hx (.inl h); omega), hk0A.block q hq (fun h => hx (.inl h))]⟩
          · exact ho.go (by rw [he]; rfl)
        · obtain ⟨vs, r2, hvl, hpart, hrd9, hev9, ⟨cur9, hcu9, _, _⟩, hvs⟩ := hI
          have hsz9 := hev9.keeps.size
          have hev : Evo R B (fun j => O + off ≤ j ∧ j < O + off + 1) w w9 :=
            ⟨⟨hev9.keeps.os.trans hk0A.os, hev9.keeps.tape.trans hk0A.tape, hev9.keeps.output.trans hk0A.output, Nat.le_trans hk0A.size hsz9, fun q hq hx => by
              rw [hev9.keeps.block q (by omega) (fun h => by rcases h with h | h; exact hx (.inl h); omega), hk0A.block q hq (fun h => hx (.inl h))]⟩, fun cs' te' hc' => ⟨cs', by
              have hBR := hrc.BR
              rw [hev9.keeps.block B (by omega) (fun h => by rcases h with h | h; exact hBR h; omega), hk0A.block B hBw hBR]; exact hc', rfl, fun _ _ => rfl⟩⟩
          have hy9 : a9.get y = .slice (some ⟨w6.heap.size, 0, none⟩) L.toNat c := (hp9.get y (by omega) (.inl (by omega))).trans hy8
          have hone : (Value.slice (some ⟨w6.heap.size, 0, none⟩) L.toNat c).oneCell' = true ∧ (Value.slice (some ⟨w6.heap.size, 0, none⟩) L.toNat c).cells = #[.slice (some ⟨w6.heap.size, 0, none⟩) L.toNat c] := ⟨rfl, rfl⟩
          rw [show (gFor g i l (nm.n 7) (nm.n 8) (gS (gEl g cx e y i F (nm.sub 0))) (nN + 10)).2 = (gL (gEl g cx e y i F (nm.sub 0)) (nN + 15)).2 from rfl]
          refine list_tail (n0 := n) hF hrc hc ⟨hsl.1, by omega⟩ hk (by omega) (by omega) (hp08.trans (hp9.mono (by omega) (by omega))) hy9 (by omega) hone hev hrd9 hb fun a10 w10 hp10 hrd10 hev10 hk10 hcell10 => ?_
          refine ho.ok (.l vs) r2 a10 w10 (by rw [hpart.done hvl]; rfl) hp10 hrd10 hev10 fun X hX hS => .inr ⟨vs, w6.heap.size, 0, c, by rw [hvl]; exact hcell10, fun hXp => ?_, ?_, by omega, hcm, rfl, fun q u hu => ?_⟩
          · have := hX _ hXp
            omega
          · have := hk10.size
            omega
          · have h1 := hvs q u hu (fun k => X k ∨ k = B) (fun k hk => by
              rcases hk with hk | rfl
              · have := hX k hk
                omega
              · omega) (fun hk => by rcases hk with hk | hk; exact hS hk; exact hrc.BS hk.symm)
            rw [Nat.zero_add]
            refine Rp.mono (fun k _ hk => .inl hk) _ _ _ _ (Rp.keep (hk10.mono fun k _ hk => .inr hk) h1 (fun hk => ?_) (by omega))
            rcases hk with hk | hk
            · have := hX _ hk
              omega
            · omega
    have hdef : gTy g cx (.list nul sz e) nm = gLoad cx.s v (nm.n 1) (nm.n 2) F :: gMove v y :: gSet l (.int .i32 0) :: (if cx.hf then gFx cx (gCall g.clen cx.b l) (gCall g.len cx.b l) else gCall g.len cx.b l : GC) :: (gNull g cx nul y l F ++
        [gOkChk g cx, gSl0 y F, gGrow g y l F, gFor g i l (nm.n 7) (nm.n 8) (gS (gEl g cx e y i F (nm.sub 0))), gMove y v, gStore none cx.s v (nm.n 1) (nm.n 2) F]) := by
      simp only [gTy, hv, hy, hl, hi, hFF]
      simp
    rw [hdef]
    exact hgoal
  · cases hrow

end
end Go.Proofs.YtmkioomgfdpeiacDoor.Kx

/-
  SOUND, 8: a part in a tag; a part that may be absent; every plan.
-/
namespace Go.Proofs.YtmkioomgfdpeiacDoor.Kx
open Go

section
variable {P : Program} {g : G} {av : PF → Bool} {fl : Bool} {D : Nat → Option (List (Nat × Value))}

theorem Keeps.inner {R B p : Nat} {w w1 w2 : World} (h : Keeps (fun k => k = R ∨ k = B) w w1) (k : Keeps (fun k => k = R ∨ k = p) w1 w2) (hp : w.heap.size ≤ p) : Keeps (fun k => k = R ∨ k = B) w w2 :=
  ⟨k.os.trans h.os, k.tape.trans h.tape, k.output.trans h.output, Nat.le_trans h.size k.size, fun q hq hx => by
    rw [k.block q (Nat.lt_of_lt_of_le hq h.size) (fun hh => by rcases hh with hh | hh; exact hx (.inl hh); omega), h.block q hq hx]⟩

theorem ty_inl (En : Env P g av fl D) {toff : Option Nat} {fs : Fds} (hst : RdSt P g av fl D fs) : RdTy P g av fl D (.struct none toff fs) := by
  intro nm cx fx ver S R B O r m k0 n T off old K E a w te hok hrc hc hfl hk hks hn hb hold ho
  simp only [okTy, Bool.and_eq_true, decide_eq_true_eq, beq_iff_eq] at hok
  obtain ⟨⟨⟨⟨⟨⟨hsl, hT⟩, hF⟩, hdf⟩, hpl⟩, hhf⟩, hokst⟩ := hok
  subst hT
  replace hF := fldB_ok hF
  split at hdf
  · rename_i wr hwr
    simp only [decide_eq_true_eq, List.all_eq_true] at hdf
    obtain ⟨hEnt, hDf⟩ := En.df _ _ hwr
    have hRw : R < w.heap.size := hrc.rd.lt
    have hBw : B < w.heap.size := hb.lt
    have hle := hc.le
    have h66 := hc.six
    have hfx : fx = true := hold
    subst hfx
    have hn' : (gL (gStOf g { cx with s := nm.n 3 } fs.tagged (nm.n 5) (nm.n 6) (nm.sub 0) (gFds g { cx with s := nm.n 3 } fs (nm.sub 0).s) (gTagd g { cx with s := nm.n 3 } fs (nm.sub 0).s)) (n + 3 + 2 + 1)).2 ≤ a.tmps.size := by
      simp only [gTy] at hn
      rw [gL_append] at hn
      exact hn
    have hup := up_gStOf (g := g) (cx := { cx with s := nm.n 3 }) (tagged := fs.tagged) (T := nm.n 5) (kt := nm.n 6) (m := nm.sub 0) (up_gFds g fs (nm.sub 0).s { cx with s := nm.n 3 }) (up_gTagd g fs (nm.sub 0).s { cx with s := nm.n 3 }) (n + 3 + 2 + 1)
    have hsz : (Ty.struct none toff fs).sz = fs.ext (toffEnd toff) := rfl
    obtain ⟨cur, hcu, hcus⟩ := hb
    rw [hsz] at hcus
    show LW P (gFieldAddr cx.s (nm.n 0) (nm.n 1) (nm.n 2) :: gDefault (nm.n 0) (nm.n 4) :: gMove (nm.n 0) (nm.n 3) :: gStOf g { cx with s := nm.n 3 } fs.tagged (nm.n 5) (nm.n 6) (nm.sub 0) (gFds g { cx with s := nm.n 3 } fs (nm.sub 0).s) (gTagd g { cx with s := nm.n 3 } fs (nm.sub 0).s)) n (Rt K E) a w
    refine LW_cons (s_fieldAddr (x := 6) (m := m) (k0 := k0) (B := B) (O := O) hrc.ss hF (.inr ⟨hsl.1, by omega⟩) hle hk (by omega) (by omega) fun a1 hp1 hg1 => ?_)
    have hs1 := hp1.size
    rw [show (gFieldAddr cx.s (nm.n 0) (nm.n 1) (nm.n 2) n).2 = n + 3 from rfl]
    refine LW_cons (s_default (x := 6) (m := m) (k0 := k0) (B := B) (O := O + off) (cur := cur) (te := te) hEnt hDf hg1 hcu (fun q hq => by have := hdf q hq; omega) hle (by omega) (by omega) fun a2 w2 hp2 hsame2 hk2 hB2 => ?_)
    have hs2 := hp2.size
    have hg2 : a2.get (nm.n 0) = pt B (O + off) := (hsame2 _ (by omega)).trans hg1
    rw [show (gDefault (nm.n 0) (nm.n 4) (n + 3)).2 = n + 3 + 2 from rfl]
    refine LW_cons (s_move (x := 6) (m := m) (k0 := k0) (.inr ⟨hsl.2.1, hsl.2.2.2.1⟩) hle (by omega) (by omega) (by omega) fun a3 hp3 hg3 => ?_)
    rw [show (gMove (nm.n 0) (nm.n 3) (n + 3 + 2)).2 = n + 3 + 2 + 1 from rfl]
    have hs3 := hp3.size
    have hp03 : Pv 6 m k0 n a a3 := (hp1.trans (hp2.mono (Nat.le_refl _) (by omega))).trans (hp3.mono (Nat.le_refl _) (by omega))
    have hrd2 : RdS w2 g.tR S R r := hrc.rd.keep hk2 (fun h => hrc.BS h.symm) (fun h => hrc.BR h.symm)
    have hrc2 : RC g cx true ver S R B O r a3 w2 := hrc.step hc hp03 hrd2 hk2 (fun _ _ h => .inr h)
    have hrc3 : RC g { cx with s := nm.n 3 } true ver S R B (O + off) r a3 w2 := hrc2.withS (hg3.trans hg2) hrc.BR hrc.BS hrc.gB
    have hm1 : nm.n 0 < max (nm.n 0) (nm.n 3) + 1 ∧ nm.n 3 < max (nm.n 0) (nm.n 3) + 1 ∧ max (nm.n 0) (nm.n 3) + 1 ≤ k0 := by omega
    have hc3 : CxOk { cx with s := nm.n 3 } (max (nm.n 0) (nm.n 3) + 1) k0 :=
      ⟨⟨by have := hc.b; simp only; omega, hc.b.2⟩, ⟨hm1.2.1, by simp only; omega⟩, ⟨by have := hc.ver; simp only; omega, hc.ver.2⟩, ⟨by have := hc.fx; simp only; omega, hc.fx.2⟩, by omega, hm1.2.2⟩
    have hev2 : Evo R B (fun t => O + off ≤ t ∧ t < O + off + (Ty.struct none toff fs).sz) w w2 := by
      refine ⟨hk2.mono fun _ _ h => .inr h, fun cs te' hcs => ?_⟩
      rw [hcu] at hcs
      obtain ⟨rfl, rfl, _⟩ := Obj.cells.inj (Option.some.inj hcs)
      exact ⟨_, hB2, applyWr_size _ _ _, fun t ht => applyWr_out _ _ _ _ fun q hq he => ht (by have := hdf q hq; rw [hsz]; omega)⟩
    refine hst (nm.sub 0) { cx with s := nm.n 3 } true ver S R B (O + off) r (max (nm.n 0) (nm.n 3) + 1) k0 (n + 3 + 2 + 1) (nm.n 5) (nm.n 6) toff K E a3 w2 te hokst hrc3 hc3 hfl (by omega) (by omega) (by omega) ⟨_, hB2, by rw [applyWr_size]; exact hcus⟩ (.inl ⟨hpl, rfl⟩)
      ⟨fun v r' a4 w4 he hp4 hrd4 hev4 hv => ?_, fun he a4 w4 hp4 hif hk4 => ?_, fun he => ?_⟩
    · obtain ⟨vs, t, rfl, hF', hT'⟩ := hv
      exact ho.ok _ r' a4 w4 he (hp03.trans (hp4.mono (by omega) (by omega))) hrd4 (hev2.trans (hev4.mono fun t ht => by rw [hsz]; exact zn_ext ht)) fun X hX hS => ⟨vs, t, rfl, far_trans hF' hk2.size X hX hS, far_trans hT' hk2.size X hX hS⟩
    · exact ho.err he a4 w4 (hp03.trans (hp4.mono (by omega) (by omega))) hif (hev2.keeps.trans hk4)
    · exact ho.go he
  · cases hdf

theorem ty_opt (En : Env P g av fl D) {q : Nat} {toff : Option Nat} {fs : Fds} (hst : RdSt P g av fl D fs) : RdTy P g av fl D (.struct (some q) toff fs) := by
  intro nm cx fx ver S R B O r m k0 n T off old K E a w te hok hrc hc hfl hk hks hn hb hold ho
  simp only [okTy, Bool.and_eq_true, decide_eq_true_eq, beq_iff_eq] at hok
  obtain ⟨⟨⟨⟨⟨hsl, hT⟩, hF⟩, hi8⟩, hdf⟩, hokst⟩ := hok
  subst hT
  replace hF := fldB_ok hF
  split at hdf
  · rename_i z wr hz hwr
    simp only [Bool.and_eq_true, decide_eq_true_eq, List.all_eq_true] at hdf
    obtain ⟨⟨⟨hwb, hzf⟩, hzt⟩, hext⟩ := hdf
    obtain ⟨hEnt, hDf⟩ := En.df _ _ hwr
    have hRw : R < w.heap.size := hrc.rd.lt
    have hBw : B < w.heap.size := hb.lt
    have hle := hc.le
    have h66 := hc.six
    have hnul : old.isNul = true := by
      cases h : old.isNul with
      | true => rfl
      | false => exact absurd (by simp only [rdTy, h]; rfl) ho.go
    have hcell : w.cell? ⟨B, O + off, none⟩ = some (.pointer none) := by
      rcases hold with ⟨h, _⟩ | ⟨p, q, vs, t, _, _, _, h, _⟩
      · exact h
      · rw [h] at hnul; cases hnul
    have hrs : rdTy fx ver (.struct (some q) toff fs) old r = (if (rI 1 r).1 = -1 ∨ (rI 1 r).2.bad = true then .ok .nul (rI 1 r).2 else rdStOf fx fs.tagged (rdFds fx ver fs) (rdTag fx ver fs) (rI 1 r).2) := by
      simp only [rdTy, hnul]; rfl
    rw [hrs] at ho
    have hn' : (gL (gStOf g { cx with s := nm.n 4 } fs.tagged (nm.n 6) (nm.n 7) (nm.sub 0) (gFds g { cx with s := nm.n 4 } fs (nm.sub 0).s) (gTagd g { cx with s := nm.n 4 } fs (nm.sub 0).s)) (n + 6 + 4 + 4 + 2 + 1)).2 ≤ a.tmps.size := by
      have h := hn
      simp only [gTy, gL, gPresent, gS, gIf] at h
      rw [gL_append] at h
      exact h
    have hup := up_gStOf (g := g) (cx := { cx with s := nm.n 4 }) (tagged := fs.tagged) (T := nm.n 6) (kt := nm.n 7) (m := nm.sub 0) (up_gFds g fs (nm.sub 0).s { cx with s := nm.n 4 }) (up_gTagd g fs (nm.sub 0).s { cx with s := nm.n 4 }) (n + 6 + 4 + 4 + 2 + 1)
    simp only [gTy]
    refine LW_cons ?_
    rw [then_rt]
    refine s_present (m := m) (k0 := k0) En.kb hi8.1 hi8.2 hrc hc ⟨hsl.2.2.1, by omega⟩ hk (by omega) (fun hne hbad a1 w1 hp1 hrd1 hk1 => ?_) (fun hno a1 w1 hp1 hrd1 hk1 => LW_nil ?_)
    · have hs1 := hp1.size
      rw [if_neg (by rw [hbad]; simp [hne])] at ho
      have hrc1 : RC g cx fx ver S R B O (rI 1 r).2 a1 w1 := hrc.step hc hp1 hrd1 hk1 (fun _ _ h => .inl h)
      have hsz1 := hk1.size
      obtain ⟨cur, hcu, hcus⟩ := hb
      replace hcus : O + off + 1 ≤ cur.size := hcus
      have hcu1 : w1.heap[B]? = some (.cells cur te (0, 0)) := by rw [hk1.block B hBw hrc.BR]; exact hcu
      refine .mono (Q := Rt (LW P [] _ (Rt K E)) E) (R := Rt K E) (nwp_gS ?_) fun e a w hq => by cases e <;> first | exact LW_nil hq | exact hq
      show LW P (gNew cx.s (nm.n 1) (nm.n 2) (nm.n 3) (nm.n 9) :: gLoad cx.s (nm.n 0) (nm.n 1) (nm.n 2) (nm.n 3) :: gDefault (nm.n 0) (nm.n 5) :: gMove (nm.n 0) (nm.n 4) :: gStOf g { cx with s := nm.n 4 } fs.tagged (nm.n 6) (nm.n 7) (nm.sub 0) (gFds g { cx with s := nm.n 4 } fs (nm.sub 0).s) (gTagd g { cx with s := nm.n 4 } fs (nm.sub 0).s)) (n + 6) (Rt K E) a1 w1
      refine LW_cons (s_new (x := 6) (m := m) (k0 := k0) (B := B) (O := O) (cur := cur) (te := te) hrc1.ss hF (zeroOf_ok hz) hcu1 (by omega) hle (by omega) (by omega) fun a2 hp2 hsame2 => ?_)
      have hs2 := hp2.size
      rw [show (gNew cx.s (nm.n 1) (nm.n 2) (nm.n 3) (nm.n 9) (n + 6)).2 = n + 6 + 4 from rfl]
      -- the world with the new part
      have hpS : w1.heap.size ≠ S := by have := hrc.Slt; omega
      have hkA : Keeps (fun _ => False) w1 (w1.alloc (.cells z.cells (nm.n 9) (0, 0))) := Keeps.alloc _ _ _
      have hBA : (w1.alloc (.cells z.cells (nm.n 9) (0, 0))).heap[B]? = some (.cells cur te (0, 0)) := by rw [heap_alloc_old (by omega)]; exact hcu1
      have hB2 : ((w1.alloc (.cells z.cells (nm.n 9) (0, 0))).setRow B (splice cur (O + off) [pt w1.heap.size 0])).heap[B]? = some (.cells (splice cur (O + off) [pt w1.heap.size 0]) te (0, 0)) := setRow_heap _ _ _ _ _ _ hBA
      have hp2' : ((w1.alloc (.cells z.cells (nm.n 9) (0, 0))).setRow B (splice cur (O + off) [pt w1.heap.size 0])).heap[w1.heap.size]? = some (.cells z.cells (nm.n 9) (0, 0)) := by
        rw [setRow_other _ _ _ _ (by omega)]; exact heap_alloc_new _ _
      have hev2 : Evo R B (fun j => O + off ≤ j ∧ j < O + off + 1) w1 ((w1.alloc (.cells z.cells (nm.n 9) (0, 0))).setRow B (splice cur (O + off) [pt w1.heap.size 0])) :=
        (Evo.of_keeps hkA (fun _ _ h => h.elim) hrc.BR).trans (Evo.store hBA (by simpa using hcus) (fun j ha hb => ⟨ha, by simpa using hb⟩))
      have hkAB : Keeps (· = B) w1 ((w1.alloc (.cells z.cells (nm.n 9) (0, 0))).setRow B (splice cur (O + off) [pt w1.heap.size 0])) := (hkA.mono fun _ _ h => h.elim).trans (Keeps.setRow _ _ _ _ rfl)
      have hcell2 : ((w1.alloc (.cells z.cells (nm.n 9) (0, 0))).setRow B (splice cur (O + off) [pt w1.heap.size 0])).cell? ⟨B, O + off, none⟩ = some (pt w1.heap.size 0) := by
        rw [cell_setRow_same _ _ _ _ _ _ _ hBA]
        have := splice_in (cur := cur) (o := O + off) (vs := [pt w1.heap.size 0]) (by simpa using hcus) 0 (by simp)
        simpa using this
      have hsz2 : ((w1.alloc (.cells z.cells (nm.n 9) (0, 0))).setRow B (splice cur (O + off) [pt w1.heap.size 0])).heap.size = w1.heap.size + 1 := by simp
      generalize hw2 : (w1.alloc (.cells z.cells (nm.n 9) (0, 0))).setRow B (splice cur (O + off) [pt w1.heap.size 0]) = w2 at *
      generalize hp0 : w1.heap.size = p at *
      have hp02 : Pv 6 m k0 n a a2 := hp1.trans (hp2.mono (Nat.le_refl _) (by omega))
      have hss2 : a2.get cx.s = pt B O := (hp02.get _ hc.s.2 (.inl hc.s.1)).trans hrc.ss
      refine LW_cons (s_load (x := 6) (m := m) (k0 := k0) (O := O) hss2 hF hcell2 (.inr ⟨hsl.1, by omega⟩) hle (by omega) (by omega) (by omega) fun a3 hp3 hg3 => ?_)
      have hs3 := hp3.size
      rw [show (gLoad cx.s (nm.n 0) (nm.n 1) (nm.n 2) (nm.n 3) (n + 6 + 4)).2 = n + 6 + 4 + 4 from rfl]
      refine LW_cons (s_default (x := 6) (m := m) (k0 := k0) (B := p) (O := 0) (cur := z.cells) (te := nm.n 9) hEnt hDf hg3 hp2' (fun q hq => by have := hwb q hq; omega) hle (by omega) (by omega) fun a4 w4 hp4 hsame4 hk4 hB4 => ?_)
      have hs4 := hp4.size
      have hg4 : a4.get (nm.n 0) = pt p 0 := (hsame4 _ (by omega)).trans hg3
      rw [show (gDefault (nm.n 0) (nm.n 5) (n + 6 + 4 + 4)).2 = n + 6 + 4 + 4 + 2 from rfl]
      refine LW_cons (s_move (x := 6) (m := m) (k0 := k0) (.inr ⟨hsl.2.1, by omega⟩) hle (by omega) (by omega) (by omega) fun a5 hp5 hg5 => ?_)
      rw [show (gMove (nm.n 0) (nm.n 4) (n + 6 + 4 + 4 + 2)).2 = n + 6 + 4 + 4 + 2 + 1 from rfl]
      have hs5 := hp5.size
      have hp05 : Pv 6 m k0 n a a5 := ((hp02.trans (hp3.mono (Nat.le_refl _) (by omega))).trans (hp4.mono (Nat.le_refl _) (by omega))).trans (hp5.mono (Nat.le_refl _) (by omega))
      have hsz4 := hk4.size
      have hBp : B ≠ p := by omega
      have hrd2 : RdS w2 g.tR S R (rI 1 r).2 := hrd1.keep hkAB (fun h => hrc.BS h.symm) (fun h => hrc.BR h.symm)
      have hrd4 : RdS w4 g.tR S R (rI 1 r).2 := hrd2.keep hk4 (fun h => by omega) (fun h => by omega)
      obtain ⟨t', x', he'⟩ := hrc.err
      have hgl := lt_of_cell he'
      have herr1 : w1.cell? ⟨g.gErr, 0, none⟩ = some (.iface t' x') := hk1.cell hrc.gR he'
      have herr2 : w2.cell? ⟨g.gErr, 0, none⟩ = some (.iface t' x') := hkAB.cell hrc.gB herr1
      have herr4 : ErrAt g.gErr w4 := ⟨t', x', hk4.cell (by omega) herr2⟩
      have hrc5 : RC g { cx with s := nm.n 4 } fx ver S R p 0 (rI 1 r).2 a5 w4 :=
        ⟨hrd4, (hp05.get _ hc.b.2 (.inl hc.b.1)).trans hrc.sb, hg5.trans hg4, (hp05.get _ hc.ver.2 (.inl hc.ver.1)).trans hrc.sv, fun hf => (hp05.get _ hc.fx.2 (.inl hc.fx.1)).trans (hrc.sf hf), hrc.nf, (hp05.get 2 (by omega) (.inl (by omega))).trans hrc.su, herr4, hrc.SR, by omega, hpS, hrc.gR, by omega,
          by have := hrc.Slt; omega⟩
      have hm1 : nm.n 0 < max (nm.n 0) (nm.n 4) + 1 ∧ nm.n 4 < max (nm.n 0) (nm.n 4) + 1 ∧ max (nm.n 0) (nm.n 4) + 1 ≤ k0 := by omega
      have hc5 : CxOk { cx with s := nm.n 4 } (max (nm.n 0) (nm.n 4) + 1) k0 :=
        ⟨⟨by have := hc.b; simp only; omega, hc.b.2⟩, ⟨hm1.2.1, by simp only; omega⟩, ⟨by have := hc.ver; simp only; omega, hc.ver.2⟩, ⟨by have := hc.fx; simp only; omega, hc.fx.2⟩, by omega, hm1.2.2⟩
      have hZ4 := hasZ_default (O := 0) (cur := z.cells) (z := z.cells) (fun j _ => by rw [Nat.zero_add]) (by omega) hwb hB4
      have hkw4 : Keeps (fun k => k = R ∨ k = B) w w4 :=
        ⟨hk4.os.trans (hkAB.os.trans hk1.os), hk4.tape.trans (hkAB.tape.trans hk1.tape), hk4.output.trans (hkAB.output.trans hk1.output), by omega, fun q hq hx => by
          rw [hk4.block q (by omega) (by omega), hkAB.block q (by omega) (fun h => hx (.inr h)), hk1.block q hq (fun h => hx (.inl h))]⟩
      have hB4' : w4.heap[B]? = some (.cells (splice cur (O + off) [pt p 0]) te (0, 0)) := by rw [hk4.block B (by omega) hBp]; exact hB2
      have hsz0 : w.heap.size ≤ p := hsz1
      refine hst (nm.sub 0) { cx with s := nm.n 4 } fx ver S R p 0 (rI 1 r).2 (max (nm.n 0) (nm.n 4) + 1) k0 (n + 6 + 4 + 4 + 2 + 1) (nm.n 6) (nm.n 7) toff K E a5 w4 (nm.n 9) hokst hrc5 hc5 hfl (by omega) (by omega) (by omega) ⟨_, hB4, by rw [applyWr_size]; omega⟩ ?_
        ⟨fun v r' a6 w6 he hp6 hrd6 hev6 hv => ?_, fun he a6 w6 hp6 hif hk6 => ?_, fun he => ?_⟩
      · refine .inr ⟨fun X => zFds_ok hZ4 X fs 0 hzf, ?_⟩
        cases toff with
        | none => trivial
        | some o => exact hZ4.one hzt
      · obtain ⟨vs, t, rfl, hF', hT'⟩ := hv
        have hBR := hrc.BR
        have hB6 : w6.heap[B]? = some (.cells (splice cur (O + off) [pt p 0]) te (0, 0)) := by
          rw [hev6.keeps.block B (by omega) (fun h => by rcases h with h | h; exact hBR h; exact hBp h)]; exact hB4'
        have hsz6 := hev6.keeps.size
        refine ho.ok _ r' a6 w6 he (hp05.trans (hp6.mono (by omega) (by omega))) hrd6 ⟨hkw4.inner hev6.keeps hsz0, fun cs te' hcs => ?_⟩ fun X hX hS => .inr ⟨p, 0, vs, t, ?_, fun hXp => ?_, by omega, rfl, ?_, ?_⟩
        · rw [hcu] at hcs
          obtain ⟨rfl, rfl, _⟩ := Obj.cells.inj (Option.some.inj hcs)
          refine ⟨_, hB6, splice_size (by simpa using hcus), fun j hj => splice_out (by simpa using hcus) j ?_⟩
          simp only [Ty.sz] at hj
          simp only [List.length_cons, List.length_nil]
          omega
        · have := splice_in (cur := cur) (o := O + off) (vs := [pt p 0]) (by simpa using hcus) 0 (by simp)
          simp only [World.cell?, hB6]
          simpa [pt] using this
        · have := hX p hXp
          omega
        · exact far_trans hF' hkw4.size X hX hS
        · exact far_trans hT' hkw4.size X hX hS
      · exact ho.err he a6 w6 (hp05.trans (hp6.mono (by omega) (by omega))) hif (hkw4.inner hk6 hsz0)
      · exact ho.go he
    · refine ho.ok .nul _ a1 w1 (by rw [if_pos hno]) hp1 hrd1 (Evo.of_keeps hk1 (fun _ _ h => h) hrc.BR) fun X hX hS => .inl ⟨?_, rfl⟩
      exact hk1.cell hrc.BR hcell
  · cases hdf

theorem okEl_sz {e : Ty} {hf : Bool} {m k0 esz : Nat} {z : Array Value} {nm : Nm} (h : okEl ⟨P, g, av, D⟩ hf m k0 esz z e nm = true) : e.sz ≤ esz := by
  cases e with
  | prim p => simp only [okEl, Bool.and_eq_true, beq_iff_eq] at h; omega
  | str nul => simp only [okEl, Bool.and_eq_true, beq_iff_eq] at h; simp only [Ty.sz]; omega
  | bytes nul => simp only [okEl, Bool.and_eq_true, beq_iff_eq] at h; simp only [Ty.sz]; omega
  | list nul sz e => simp [okEl] at h
  | struct nul toff fs =>
    cases nul with
    | some q => simp [okEl] at h
    | none =>
      simp only [okEl, Bool.and_eq_true] at h
      obtain ⟨⟨_, h⟩, _⟩ := h
      split at h
      · simp only [Bool.and_eq_true, decide_eq_true_eq] at h
        exact h.2
      · cases h

mutual
theorem rd_ty (En : Env P g av fl D) : ∀ ty : Ty, RdTy P g av fl D ty
  | .prim p => ty_prim En.kb p
  | .str nul => ty_str En.kb nul
  | .bytes nul => ty_bytes En.kb nul
  | .list _ _ e => ty_list En.kb (rd_el En e) (fun _ _ _ _ _ h => okEl_sz h)
  | .struct none _ fs => ty_inl En (st_of En.kb (rd_fds En fs) (rd_case En fs))
  | .struct (some _) _ fs => ty_opt En (st_of En.kb (rd_fds En fs) (rd_case En fs))
theorem rd_el (En : Env P g av fl D) : ∀ ty : Ty, RdEl P g av fl D ty
  | .prim _ => el_leaf En.kb rfl
  | .str _ => el_leaf En.kb rfl
  | .bytes _ => el_leaf En.kb rfl
  | .list _ _ _ => fun _ _ _ _ _ _ _ _ _ _ _ _ _ _ _ _ _ _ _ _ _ _ _ _ _ _ _ _ h => by simp [okEl] at h
  | .struct none _ fs => el_struct En (st_of En.kb (rd_fds En fs) (rd_case En fs))
  | .struct (some _) _ _ => fun _ _ _ _ _ _ _ _ _ _ _ _ _ _ _ _ _ _ _ _ _ _ _ _ _ _ _ _ h => by simp [okEl] at h
theorem rd_fds (En : Env P g av fl D) : ∀ fs : Fds, RdFds P g av fl D fs
  | .nil => fds_nil
  | .cons _ _ _ _ _ ty r => fds_cons (rd_ty En ty) (rd_fds En r)
theorem rd_case (En : Env P g av fl D) : ∀ fs : Fds, RdCase P g av fl D fs
  | .nil => case_nil
  | .cons _ _ _ _ _ ty r => case_cons En.kb (rd_ty En ty) (rd_case En r)
end

theorem rd_st (En : Env P g av fl D) (fs : Fds) : RdSt P g av fl D fs := st_of En.kb (rd_fds En fs) (rd_case En fs)

end
end Go.Proofs.YtmkioomgfdpeiacDoor.Kx

/-
  FUNCTIONS: a function whose code is known; what a Default function writes; what the whole of a printed reader does.
-/
namespace Go.Proofs.YtmkioomgfdpeiacDoor.Kx
open Go

/-- a function: its code without marks, its slots, where its results lie -/
def FnIs (P : Program) (f ntmps : Nat) (res : List Nat) (d : Code) : Prop :=
  ∃ fn c, P.funcs[f]? = some fn ∧ fn.body = some c ∧ nCode c = d ∧ fn.ntmps = ntmps ∧ fn.results = (res.map ResultVar.tmp).toArray ∧ (fn.name == "runtime.NumGoroutine") = false

theorem fnIs_of {P : Program} {f : Nat} {fn : Func} {ntmps : Nat} {res : List Nat} {d : Code} (hf : P.funcs[f]? = some fn) (hb : fn.body.map nCode = some d) (hn : fn.ntmps = ntmps) (hr : fn.results = (res.map ResultVar.tmp).toArray) (hg : (fn.name == "runtime.NumGoroutine") = false) : FnIs P f ntmps res d := by
  cases h : fn.body with
  | none => rw [h] at hb; cases hb
  | some c =>
    rw [h] at hb
    exact ⟨fn, c, hf, h, Option.some.inj hb, hn, hr, hg⟩

def retOf (res : List Nat) (a : Act) : Value := match res with | [t] => a.get t | _ => .tuple (res.map a.get).toArray

theorem FnIs.ent {P : Program} {f n : Nat} {res : List Nat} {d : Code} (h : FnIs P f n res d) : Ent P f := by
  obtain ⟨fn, c, hf, hb, _, _, _, hg⟩ := h
  have hg' : ¬ fn.name = "runtime.NumGoroutine" := by simpa using hg
  intro args w
  simp [callFunc, hf, hg', hb]

theorem run_results {P : Program} {fn : Func} {res : List Nat} (hl : res.length ≤ 2) (hr : fn.results = (res.map ResultVar.tmp).toArray) (a : Act) (w : World) : (results fn a.tmps).run P w = .ok (retOf res a) w := by
  unfold results
  rw [hr]
  match res, hl with
  | [], _ => simp [retOf]
  | [t], _ => simp [retOf, Act.get]
  | [t, u], _ => simp [retOf, Act.get]

theorem FnIs.calls {P : Program} (hm : P.follows .mixedOrders = true) {f n : Nat} {res : List Nat} {d : Code} (h : FnIs P f n res d) (hl : res.length ≤ 2) {args : Array Value} {w : World} {R : Ending → World → Prop}
    (hw : NWP P d (Rt (fun a w => a.defers = [] ∧ R (.returned (retOf res a)) w) (fun a w => a.defers = [] ∧ R (.returned (retOf res a)) w)) { tmps := args ++ Array.replicate (n - args.size) undef, defers := [] } w) : Calls P f args w R := by
  obtain ⟨fn, c, hf, hb, rfl, rfl, hr, _⟩ := h
  refine calls_of_nwp hm hf hb rfl (.mono hw fun e a w hq => ?_)
  cases e <;> first | exact hq.elim | exact ⟨hq.1, _, run_results hl hr a w, hq.2⟩

end Go.Proofs.YtmkioomgfdpeiacDoor.Kx

/-
  FUNCTIONS, 2: what a Default function writes; what the whole of a printed reader does.
-/
namespace Go.Proofs.YtmkioomgfdpeiacDoor.Kx
open Go

/-! ## Default -/

inductive DI where
  | st (s T k F : Nat) (c : Value)
  | fa (v s T k : Nat)
  | nop (v : Nat)

def gDI : DI → GC
  | .st s T k F c => gOps 3 fun n => [mk (some n) (.move (tm s)), mk (some (n + 1)) (.nilCheck (tm n)), mk (some (n + 2)) (.fieldAddr T (tm (n + 1)) k), mk none (.store F (tm (n + 2)) (.const c))]
  | .fa v s T k => gFieldAddr s v T k
  | .nop v => gOps 1 fun n => [mk (some n) (.move (tm v))]
def gDflt (items : List DI) (n0 : Nat) : Code := (gS (items.map gDI) n0).1

def oneB : Value → Bool
  | .int _ _ => true
  | .bool _ => true
  | .pointer none => true
  | _ => false
theorem oneB_ok {c : Value} (h : oneB c = true) : c.oneCell' = true ∧ c.cells = #[c] := by
  cases c <;> first | exact ⟨rfl, rfl⟩ | cases h

def offT (P : Program) (T k : Nat) : Nat :=
  match P.underlying T with
  | some (.struct fs) => (match fs[k]? with | some f => f.offset | none => 0)
  | _ => 0

/-- what the items write, by their places in the thing -/
def aggT (P : Program) (F : Nat) : Bool := match P.underlying F with | some (.struct _) => true | some (.array _ _) => true | _ => false
def dRun (P : Program) (k0 : Nat) : List DI → List (Nat × Nat) → Option (List (Nat × Value))
  | [], _ => some []
  | .st s T k F c :: r, env =>
    match env.lookup s with
    | some o => if oneB c && fldB P T k F (offT P T k) false 1 && decide (s < k0) then (dRun P k0 r env).map fun wr => (o + offT P T k, c) :: wr else none
    | none => none
  | .fa v s T k :: r, env =>
    match env.lookup s with
    | some o => if decide (v < k0) && decide (s < k0) && fldB P T k (fldT P T k) (offT P T k) (aggT P (fldT P T k)) (sizeT P (fldT P T k)) then dRun P k0 r ((v, o + offT P T k) :: env) else none
    | none => none
  | .nop _ :: r, env => dRun P k0 r env

theorem splice_one {cur : Array Value} {i : Nat} {c : Value} (h : i < cur.size) : splice cur i [c] = cur.setIfInBounds i c := by
  apply Array.ext_getElem?
  intro j
  rw [Array.getElem?_setIfInBounds]
  by_cases hj : i = j
  · subst hj
    rw [if_pos rfl, if_pos h]
    simpa using splice_in (cur := cur) (o := i) (vs := [c]) (by simp; omega) 0 (by simp)
  · rw [if_neg hj]
    exact splice_out (by simp; omega) j (by simp only [List.length_cons, List.length_nil]; omega)

section
variable {P : Program} {B O te k0 : Nat}

theorem df_items : ∀ (items : List DI) (env : List (Nat × Nat)) (wr : List (Nat × Value)) (n : Nat) (a : Act) (w : World) (cur : Array Value) (K : Act → World → Prop), dRun P k0 items env = some wr → (∀ s o, env.lookup s = some o → s < k0 → a.get s = pt B (O + o)) → k0 ≤ n → (gL (items.map gDI) n).2 ≤ a.tmps.size →
    w.heap[B]? = some (.cells cur te (0, 0)) → (∀ p ∈ wr, O + p.1 < cur.size) → (∀ a' w', a'.defers = a.defers → Keeps (· = B) w w' → w'.heap[B]? = some (.cells (applyWr cur O wr) te (0, 0)) → K a' w') → LW P (items.map gDI) n (Rt K fun _ _ => False) a w
  | [], env, wr, n, a, w, cur, K, h, henv, hk, hn, hB, hO, hK => by
    obtain rfl := Option.some.inj h
    exact LW_nil (hK a w rfl (Keeps.refl _ _) hB)
  | .nop v :: r, env, wr, n, a, w, cur, K, h, henv, hk, hn, hB, hO, hK => by
    have hup : n + 1 ≤ (gL (r.map gDI) (n + 1)).2 := up_list (fun x hx => by
      obtain ⟨d, _, rfl⟩ := List.mem_map.1 hx
      cases d <;> exact up_ops _ _) _
    have hn' : (gL (r.map gDI) (n + 1)).2 ≤ a.tmps.size := hn
    refine LW_cons (nwp_rg (wl_move (wpList_nil ?_)))
    refine df_items r env wr (n + 1) _ w cur K h (fun s o hs hs0 => by rw [get_put_ne _ _ _ _ (by omega)]; exact henv s o hs hs0) (by omega) (by rw [put_size]; exact hn') hB hO hK
  | .fa v s T k :: r, env, wr, n, a, w, cur, K, h, henv, hk, hn, hB, hO, hK => by
    have hup : n + 3 ≤ (gL (r.map gDI) (n + 3)).2 := up_list (fun x hx => by
      obtain ⟨d, _, rfl⟩ := List.mem_map.1 hx
      cases d <;> exact up_ops _ _) _
    have hn' : (gL (r.map gDI) (n + 3)).2 ≤ a.tmps.size := hn
    unfold dRun at h
    split at h
    · rename_i o hlo
      split at h
      · rename_i hc
        simp only [Bool.and_eq_true, decide_eq_true_eq] at hc
        obtain ⟨⟨hv, hs⟩, hF⟩ := hc
        refine LW_cons (s_fieldAddr (x := v) (m := k0) (k0 := k0) (O := O + o) (henv s o hlo hs) (fldB_ok hF) (.inl rfl) (Nat.le_refl _) hk (by omega) (by omega) fun a1 hp1 hg1 => ?_)
        refine df_items r _ wr (n + 3) a1 w cur K h (fun s' o' hs' hs0 => ?_) (by omega) (by rw [hp1.size]; exact hn') hB hO (fun a' w' hd => hK a' w' (hd.trans hp1.defers))
        by_cases he : s' = v
        · subst he
          rw [List.lookup_cons_self] at hs'
          obtain rfl := Option.some.inj hs'
          rw [hg1, Nat.add_assoc]
        · rw [List.lookup_cons, show (s' == v) = false by simpa using he] at hs'
          rw [hp1.get s' he (.inl hs0)]
          exact henv s' o' hs' hs0
      · cases h
    · cases h
  | .st s T k F c :: r, env, wr, n, a, w, cur, K, h, henv, hk, hn, hB, hO, hK => by
    have hup : n + 3 ≤ (gL (r.map gDI) (n + 3)).2 := up_list (fun x hx => by
      obtain ⟨d, _, rfl⟩ := List.mem_map.1 hx
      cases d <;> exact up_ops _ _) _
    have hn' : (gL (r.map gDI) (n + 3)).2 ≤ a.tmps.size := hn
    unfold dRun at h
    split at h
    · rename_i o hlo
      split at h
      · rename_i hc
        simp only [Bool.and_eq_true, decide_eq_true_eq] at hc
        obtain ⟨⟨hone, hF⟩, hs⟩ := hc
        obtain ⟨h1, h2⟩ := oneB_ok hone
        have hF' := fldB_ok hF
        cases hr : dRun P k0 r env with
        | none => rw [hr] at h; cases h
        | some wr' =>
          rw [hr] at h
          obtain rfl := Option.some.inj h
          have hO1 : O + (o + offT P T k) < cur.size := hO (o + offT P T k, c) (List.mem_cons_self ..)
          refine LW_cons (nwp_rg (wl_move ?_))
          rw [eval_tm, henv s o hlo hs]
          refine wl_nilCheck (by rw [eval_tm, get_put _ _ _ (by omega)]; rfl) ?_
          refine wl_fld (by rw [eval_tm, get_put _ _ _ (by simp only [put_size]; omega)]) hF' ?_
          refine wl_store (cur := cur) (t := te) (v := c) (vs := [c]) (by rw [eval_tm, get_put _ _ _ (by simp only [put_size]; omega)]) rfl (by rw [h2]) (hF'.var.size _) hB (by simp only [List.length_cons, List.length_nil]; omega) (fun u hu => by simp at hu; rw [hu]; exact h1) (wpList_nil ?_)
          rw [Nat.add_assoc, splice_one hO1]
          refine df_items r env wr' (n + 3) _ _ (cur.setIfInBounds (O + (o + offT P T k)) c) K hr (fun s' o' hs' hs0 => ?_) (by omega) (by simp only [put_size]; exact hn') (setRow_heap _ _ _ _ _ _ hB) (fun p hp => by simpa using hO p (by simp [hp])) fun a' w' hd hk' hB' => ?_
          · rw [get_put_ne _ _ _ _ (by omega), get_put_ne _ _ _ _ (by omega), get_put_ne _ _ _ _ (by omega)]
            exact henv s' o' hs' hs0
          · exact hK a' w' (by rw [hd]; simp only [put_defers]) ((Keeps.setRow (fun k => k = B) w B (cur.setIfInBounds (O + (o + offT P T k)) c) rfl).trans hk') hB'
      · cases h
    · cases h
end

theorem get_args (args : Array Value) (n i : Nat) (h : i < args.size) : ({ tmps := args ++ Array.replicate (n - args.size) undef, defers := [] } : Act).get i = args[i] := by
  simp [Act.get, Array.getElem?_append_left h, h]
theorem size_args (args : Array Value) (n : Nat) (h : args.size ≤ n) : (args ++ Array.replicate (n - args.size) undef).size = n := by
  simp; omega

theorem dfC_of {P : Program} (hm : P.follows .mixedOrders = true) {f ntmps n0 : Nat} {items : List DI} {wr : List (Nat × Value)} (h : FnIs P f ntmps [] (gDflt items n0)) (hr : dRun P n0 items [(0, 0)] = some wr) (hn : (gL (items.map gDI) n0).2 ≤ ntmps) (h0 : 0 < n0) : Ent P f ∧ DfC P f wr := by
  refine ⟨h.ent, fun w B O cur te hB hO => h.calls hm (by simp) ?_⟩
  have hup : n0 ≤ (gL (items.map gDI) n0).2 := up_list (fun x hx => by
      obtain ⟨d, _, rfl⟩ := List.mem_map.1 hx
      cases d <;> exact up_ops _ _) _
  have hs := size_args #[pt B O] ntmps (by show 1 ≤ ntmps; omega)
  refine rt_mono (nwp_gS (df_items items [(0, 0)] wr n0 _ w cur (fun a w' => a.defers = [] ∧ Keeps (· = B) w w' ∧ w'.heap[B]? = some (.cells (applyWr cur O wr) te (0, 0))) hr (fun s o hso hs0 => ?_) (Nat.le_refl _) (by rw [hs]; exact hn) hB hO fun a' w' hd hk hB' => ⟨hd, hk, hB'⟩)) (fun a w' hh => ⟨hh.1, rfl, hh.2⟩) (fun a w' hh => hh.elim)
  rw [List.lookup_cons] at hso
  split at hso
  · rename_i he
    obtain rfl := Option.some.inj hso
    have : s = 0 := by simpa using he
    subst this
    rw [get_args _ _ _ (by simp)]
    rfl
  · simp at hso

end Go.Proofs.YtmkioomgfdpeiacDoor.Kx

/-
  FUNCTIONS, 3: what the whole of a printed reader does.
-/
namespace Go.Proofs.YtmkioomgfdpeiacDoor.Kx
open Go

/-- no field lies at place 0 -/
def posF : Fds → Bool
  | .nil => true
  | .cons _ _ _ _ off _ r => decide (0 < off) && posF r
theorem posF_in : ∀ (fs : Fds) (j : Nat), posF fs = true → fs.In 0 j → j ≠ 0
  | .nil, _, _, h => h.elim
  | .cons _ _ _ _ off ty r, j, h, hj => by
    simp only [posF, Bool.and_eq_true, decide_eq_true_eq] at h
    rcases hj with hj | hj
    · omega
    · exact posF_in r j h.2 hj

def topM (cx : Cx) : Nat := max (max cx.b cx.s) (max cx.ver cx.fx) + 1

/-- what is asked of a message's plan as a whole. z: the cells of a new message, its version set aside -/
def topOk (e : Ev) (kept : Bool) (cx : Cx) (fs : Fds) (dflt T kt : Nat) (toff : Option Nat) (n0 ntmps : Nat) (nm : Nm) (z : Array Value) (used : Nat) : Bool :=
  decide (6 < cx.b ∧ 6 < cx.s ∧ 6 < cx.ver ∧ cx.b ≠ cx.s ∧ cx.b ≠ cx.ver ∧ cx.s ≠ cx.ver ∧ topM cx ≤ n0 ∧ ((cx.hf = true ∧ 6 < cx.fx ∧ cx.b ≠ cx.fx ∧ cx.s ≠ cx.fx ∧ cx.ver ≠ cx.fx) ∨ (cx.hf = false ∧ cx.fx = 0))) && decide (used ≤ ntmps) && fldB e.P T 0 e.g.tVer 0 false 1 && (!kept || e.av .i16) &&
  (match e.D dflt with
    | some wr => (wr.all fun p => decide (0 < p.1 ∧ p.1 < z.size)) && zFds (applyWr z 0 wr) fs 0 && zTg (applyWr z 0 wr) toff && posF fs && (toff != some 0) && decide (fs.ext (toffEnd toff) ≤ z.size) && decide (0 < z.size)
    | none => false) &&
  okSt e cx.hf (topM cx) n0 T kt toff fs nm (okFds e cx.hf (topM cx) n0 T fs nm.s) (okTagd e (nm.n 1 + 1) n0 T fs nm.s)

/-- the code in front of the fields -/
def gHead (g : G) (kept : Bool) (cx : Cx) (dflt T flex : Nat) : List GC :=
  [gSet 6 .nilIface, gDefault 0 dflt, gOps 2 fun n => [mk (some n) (.move (tm 1)), mk (some (n + 1)) (.build g.tR #[(0, tm n)]), mk (some cx.b) (.alloc g.tR), mk none (.store g.tR (tm cx.b) (tm (n + 1)))]] ++
    (if kept then [gOps 4 fun n => [mk (some n) (.move (tm 0)), cl (some (n + 1)) (g.rd .i16) [tm cx.b], mk (some (n + 2)) (.nilCheck (tm n)), mk (some (n + 3)) (.fieldAddr T (tm (n + 2)) 0), mk none (.store g.tVer (tm (n + 3)) (tm (n + 1)))]] else []) ++
    [gLoad 0 cx.ver T 0 g.tVer, gOps 1 fun n => [mk (some n) (.move (tm cx.ver))]] ++
    (if cx.hf then [gOps 2 fun n => [mk (some n) (.move (tm cx.ver)), mk (some (n + 1)) (.binOp .geq g.tVer (tm n) (ki .i16 flex) 0), mk (some cx.fx) (.assign (tm (n + 1)))], gOps 1 fun n => [mk (some n) (.move (tm cx.fx))]] else []) ++
    [gMove 0 cx.s]
def gEnd (g : G) (b : Nat) : List GC := [gOps 1 fun n => [cl (some n) g.complete [tm b], mk (some 6) (.assign (tm n))], gCode .ret]

theorem gRead_eq (g : G) (kept : Bool) (cx : Cx) (fs : Fds) (dflt T kt flex n0 : Nat) (m : Nm) :
    gRead g cx.hf kept cx fs dflt T kt flex n0 m = (gS (gHead g kept cx dflt T flex ++ (gStOf g cx fs.tagged T kt m (gFds g cx fs m.s) (gTagd g cx fs m.s) ++ gEnd g cx.b)) n0).1 := by
  unfold gRead gHead gEnd
  simp only [List.append_assoc]

mutual
theorem zTy_agree {z z2 : Array Value} (h : ∀ j, 1 ≤ j → z2[j]? = z[j]?) : ∀ (ty : Ty) (df : Int) (o : Nat), 1 ≤ o → zTy z df ty o = true → zTy z2 df ty o = true
  | .prim p, df, o, ho, hz => by
    have e : ∀ v, eqAt z2 o v = eqAt z o v := fun v => by simp only [eqAt, h o ho]
    cases p
    case uuid =>
      simp only [zTy, List.all_eq_true] at hz ⊢
      intro j hj
      have := hz j hj
      simp only [eqAt, h (o + j) (by omega)] at this ⊢
      exact this
    all_goals (simp only [zTy, e] at hz ⊢; exact hz)
  | .str none, df, o, ho, hz => by simp only [zTy, eqAt, h o ho] at hz ⊢; exact hz
  | .str (some _), df, o, ho, hz => by simp only [zTy, eqAt, h o ho] at hz ⊢; exact hz
  | .bytes _, df, o, ho, hz => by simp only [zTy, eqAt, h o ho] at hz ⊢; exact hz
  | .list _ _ _, df, o, ho, hz => by simp only [zTy, eqAt, h o ho] at hz ⊢; exact hz
  | .struct (some _) _ _, df, o, ho, hz => by simp only [zTy, eqAt, h o ho] at hz ⊢; exact hz
  | .struct none toff fs, df, o, ho, hz => by
    simp only [zTy, Bool.and_eq_true] at hz ⊢
    refine ⟨zFds_agree h fs o (.inl ho) hz.1, ?_⟩
    cases toff with
    | none => rfl
    | some k => have := hz.2; simp only [eqAt, h (o + k) (by omega)] at this ⊢; exact this
theorem zFds_agree {z z2 : Array Value} (h : ∀ j, 1 ≤ j → z2[j]? = z[j]?) : ∀ (fs : Fds) (o : Nat), (1 ≤ o ∨ posF fs = true) → zFds z fs o = true → zFds z2 fs o = true
  | .nil, o, ho, hz => rfl
  | .cons _ _ _ df off ty r, o, ho, hz => by
    simp only [zFds, Bool.and_eq_true] at hz ⊢
    rcases ho with ho | ho
    · exact ⟨zTy_agree h ty df (o + off) (by omega) hz.1, zFds_agree h r o (.inl ho) hz.2⟩
    · simp only [posF, Bool.and_eq_true, decide_eq_true_eq] at ho
      exact ⟨zTy_agree h ty df (o + off) (by omega) hz.1, zFds_agree h r o (.inr ho.2) hz.2⟩
end

section
variable {P : Program} {g : G} {av : PF → Bool} {fl : Bool} {D : Nat → Option (List (Nat × Value))}

/-- the version that is read: the message's own, or what stands ahead -/
def vread (kept : Bool) (ver : Int) (r : RS) : Int × RS := if kept then rI 2 r else (ver, r)

/-- what holds behind the head -/
structure Headed (g : G) (cx : Cx) (fs : Fds) (toff : Option Nat) (flex : Nat) (B S te : Nat) (csz : Nat) (w0 : World) (vr : Int × RS) (ntmps R : Nat) (a : Act) (w : World) : Prop where
  rc : RC g cx (cx.hf && decide ((flex : Int) ≤ vr.1)) vr.1 S R B 0 vr.2 a w
  size : a.tmps.size = ntmps
  defers : a.defers = []
  six : a.get 6 = .nilIface
  keeps : Keeps (· = B) w0 w
  fresh : w0.heap.size ≤ R
  blk : ∃ cur, w.heap[B]? = some (.cells cur te (0, 0)) ∧ cur.size = csz ∧ cur[0]? = some (.int .i16 vr.1)
  fds : ∀ X, RpF w X fs B 0 (dfFds fs)
  tgs : TgNil w B 0 toff

/-- what holds once the reader is there and the version is known -/
structure Pre (g : G) (cx : Cx) (fs : Fds) (toff : Option Nat) (B S te csz : Nat) (w0 : World) (vr : Int × RS) (ntmps R : Nat) (a : Act) (w : World) : Prop where
  rd : RdS w g.tR S R vr.2
  sb : a.get cx.b = pt R 0
  s0 : a.get 0 = pt B 0
  s2 : a.get 2 = .bool false
  size : a.tmps.size = ntmps
  defers : a.defers = []
  six : a.get 6 = .nilIface
  keeps : Keeps (· = B) w0 w
  fresh : w0.heap.size ≤ R
  blk : ∃ cur, w.heap[B]? = some (.cells cur te (0, 0)) ∧ cur.size = csz ∧ cur[0]? = some (.int .i16 vr.1)
  fds : ∀ X, RpF w X fs B 0 (dfFds fs)
  tgs : TgNil w B 0 toff
  err : ErrAt g.gErr w

theorem head_tail {cx : Cx} {fs : Fds} {T flex n n0 ntmps : Nat} {toff : Option Nat} {B S te csz R : Nat} {w0 w : World} {vr : Int × RS} {a : Act} {Q : Exit → Act → World → Prop} {K : Act → World → Prop} (hsl : 6 < cx.b ∧ 6 < cx.s ∧ 6 < cx.ver ∧ cx.b ≠ cx.s ∧ cx.b ≠ cx.ver ∧ cx.s ≠ cx.ver ∧ topM cx ≤ n0 ∧ ((cx.hf = true ∧ 6 < cx.fx ∧ cx.b ≠ cx.fx ∧ cx.s ≠ cx.fx ∧ cx.ver ≠ cx.fx) ∨ (cx.hf = false ∧ cx.fx = 0)))
    (hF : FldIs P T 0 g.tVer 0 false 1) (hp : Pre g cx fs toff B S te csz w0 vr ntmps R a w) (hn0 : n0 ≤ n) (hn : n + 9 ≤ ntmps) (hS : S < w0.heap.size) (hBlt : B < w0.heap.size) (hBS : B ≠ S) (hgB : g.gErr ≠ B) (hgl : g.gErr < w0.heap.size)
    (h : ∀ a' w', Headed g cx fs toff flex B S te csz w0 vr ntmps R a' w' → K a' w') :
    LW P ([gLoad 0 cx.ver T 0 g.tVer, gOps 1 fun n => [mk (some n) (.move (tm cx.ver))]] ++ ((if cx.hf then [gOps 2 fun n => [mk (some n) (.move (tm cx.ver)), mk (some (n + 1)) (.binOp .geq g.tVer (tm n) (ki .i16 flex) 0), mk (some cx.fx) (.assign (tm (n + 1)))], gOps 1 fun n => [mk (some n) (.move (tm cx.fx))]] else []) ++
      [gMove 0 cx.s])) n (Exit.then K Q) a w := by
  have hfx' : cx.hf = true → 6 < cx.fx ∧ cx.b ≠ cx.fx ∧ cx.s ≠ cx.fx ∧ cx.ver ≠ cx.fx := fun h => by
    rcases hsl.2.2.2.2.2.2.2 with h2 | h2
    · exact h2.2
    · rw [h] at h2; cases h2.1
  replace hsl : 6 < cx.b ∧ 6 < cx.s ∧ 6 < cx.ver ∧ cx.b ≠ cx.s ∧ cx.b ≠ cx.ver ∧ cx.s ≠ cx.ver ∧ topM cx ≤ n0 := ⟨hsl.1, hsl.2.1, hsl.2.2.1, hsl.2.2.2.1, hsl.2.2.2.2.1, hsl.2.2.2.2.2.1, hsl.2.2.2.2.2.2.1⟩
  have htm : topM cx = max (max cx.b cx.s) (max cx.ver cx.fx) + 1 := rfl
  have hsz := hp.size
  obtain ⟨cur, hB, hcs, hc0⟩ := hp.blk
  have hcell : w.cell? ⟨B, 0 + 0, none⟩ = some (.int .i16 vr.1) := by simp only [World.cell?, hB]; simpa using hc0
  have hR0 := hp.fresh
  refine LW_cons (s_load (x := cx.ver) (m := n0) (k0 := n0) (O := 0) hp.s0 hF hcell (.inl rfl) (Nat.le_refl _) hn0 (by omega) (by omega) fun a1 hp1 hg1 => ?_)
  have hs1 := hp1.size
  rw [show (gLoad 0 cx.ver T 0 g.tVer n).2 = n + 4 from rfl]
  refine LW_cons (nwp_rg (wl_move (wpList_nil ?_)))
  rw [eval_tm, hg1]
  have hp2 : Pv cx.ver n0 n0 n a (a1.put (some (n + 4)) (.int .i16 vr.1)) := hp1.put _ (by omega)
  have hg2 : (a1.put (some (n + 4)) (.int .i16 vr.1)).get cx.ver = .int .i16 vr.1 := by rw [get_put_ne _ _ _ _ (by omega)]; exact hg1
  generalize a1.put (some (n + 4)) (.int .i16 vr.1) = a2 at hp2 hg2 ⊢
  have hs2 := hp2.size
  rw [show (gOps 1 (fun n => [mk (some n) (.move (tm cx.ver))]) (n + 4)).2 = n + 5 from rfl]
  have key : ∀ (a3 : Act) (n3 : Nat), n + 5 ≤ n3 → n3 + 1 ≤ ntmps → a3.tmps.size = ntmps → a3.defers = [] → a3.get 0 = pt B 0 → a3.get 2 = .bool false → a3.get 6 = .nilIface → a3.get cx.b = pt R 0 → a3.get cx.ver = .int .i16 vr.1 → (cx.hf = true → a3.get cx.fx = .bool (decide ((flex : Int) ≤ vr.1))) →
      LW P [gMove 0 cx.s] n3 (Exit.then K Q) a3 w := by
    intro a3 n3 h5 h6 hsz3 hd3 h30 h32 h36 h3b h3v h3f
    refine LW_cons (s_move (x := cx.s) (m := n0) (k0 := n0) (.inl rfl) (Nat.le_refl _) (by omega) (by omega) (by omega) fun a4 hp4 hg4 => LW_nil (h a4 w ?_))
    have hs4 := hp4.size
    refine ⟨⟨hp.rd, (hp4.get _ (by omega) (.inl (by omega))).trans h3b, hg4.trans h30, (hp4.get _ (by omega) (.inl (by omega))).trans h3v, fun hf => ?_, fun hf => by rw [hf]; rfl, (hp4.get 2 (by omega) (.inl (by omega))).trans h32, hp.err, ?_, ?_, hBS, ?_, hgB, ?_⟩,
      by omega, hp4.defers.trans hd3, (hp4.get 6 (by omega) (.inl (by omega))).trans h36, hp.keeps, hp.fresh, ⟨cur, hB, hcs, hc0⟩, hp.fds, hp.tgs⟩
    · have := hfx' hf
      rw [hp4.get _ (by omega) (.inl (by omega)), h3f hf, hf]; rfl
    · omega
    · omega
    · omega
    · exact Nat.lt_of_lt_of_le hS hp.keeps.size
  have hq : ∀ s, s ≠ cx.ver → s < n0 → a2.get s = a.get s := fun s h1 h2 => hp2.get s h1 (.inl h2)
  cases hhf : cx.hf with
  | false =>
    simp only [Bool.false_eq_true, if_false, List.nil_append]
    exact key a2 (n + 5) (Nat.le_refl _) (by omega) (by omega) (hp2.defers.trans hp.defers) ((hq 0 (by omega) (by omega)).trans hp.s0) ((hq 2 (by omega) (by omega)).trans hp.s2) ((hq 6 (by omega) (by omega)).trans hp.six) ((hq _ (by omega) (by omega)).trans hp.sb) hg2 (fun hf => by rw [hhf] at hf; cases hf)
  | true =>
    have := hfx' hhf
    simp only [if_true]
    show LW P (gOps 2 (fun n => [mk (some n) (.move (tm cx.ver)), mk (some (n + 1)) (.binOp .geq g.tVer (tm n) (ki .i16 flex) 0), mk (some cx.fx) (.assign (tm (n + 1)))]) :: gOps 1 (fun n => [mk (some n) (.move (tm cx.fx))]) :: [gMove 0 cx.s]) (n + 5) (Exit.then K Q) a2 w
    refine LW_cons (nwp_rg (wl_move ?_))
    rw [eval_tm, hg2]
    refine wl_cmp (b := decide ((flex : Int) ≤ vr.1)) (p := vr.1) (q := flex) (k := .i16) (by rw [eval_tm, get_put _ _ _ (by omega)]) rfl (.inl ⟨rfl, rfl⟩) (wl_assign (wpList_nil ?_))
    rw [eval_tm, get_put _ _ _ (by simp only [put_size]; omega)]
    rw [show (gOps 2 (fun n => [mk (some n) (.move (tm cx.ver)), mk (some (n + 1)) (.binOp .geq g.tVer (tm n) (ki .i16 flex) 0), mk (some cx.fx) (.assign (tm (n + 1)))]) (n + 5)).2 = n + 7 from rfl]
    refine LW_cons (nwp_rg (wl_move (wpList_nil ?_)))
    rw [eval_tm, get_put _ _ _ (by simp only [put_size]; omega)]
    rw [show (gOps 1 (fun n => [mk (some n) (.move (tm cx.fx))]) (n + 7)).2 = n + 8 from rfl]
    have hpv : Pv cx.fx n0 n0 (n + 5) a2 ((((a2.put (some (n + 5)) (.int .i16 vr.1)).put (some (n + 5 + 1)) (.bool (decide ((flex : Int) ≤ vr.1)))).put (some cx.fx) (.bool (decide ((flex : Int) ≤ vr.1)))).put (some (n + 7)) (.bool (decide ((flex : Int) ≤ vr.1)))) :=
      ((((Pv.refl _ _ _ _ _).put _ (by omega)).put _ (by omega)).put _ (by omega)).put _ (by omega)
    have hgf : ((((a2.put (some (n + 5)) (.int .i16 vr.1)).put (some (n + 5 + 1)) (.bool (decide ((flex : Int) ≤ vr.1)))).put (some cx.fx) (.bool (decide ((flex : Int) ≤ vr.1)))).put (some (n + 7)) (.bool (decide ((flex : Int) ≤ vr.1)))).get cx.fx = .bool (decide ((flex : Int) ≤ vr.1)) := by
      rw [get_put_ne _ _ _ _ (by omega), get_put _ _ _ (by simp only [put_size]; omega)]
    have hq3 : ∀ s, s ≠ cx.fx → s < n0 → _ := fun s h1 h2 => hpv.get s h1 (.inl h2)
    exact key _ (n + 8) (by omega) (by omega) (by rw [hpv.size]; omega) (hpv.defers.trans (hp2.defers.trans hp.defers)) ((hq3 0 (by omega) (by omega)).trans ((hq 0 (by omega) (by omega)).trans hp.s0)) ((hq3 2 (by omega) (by omega)).trans ((hq 2 (by omega) (by omega)).trans hp.s2)) ((hq3 6 (by omega) (by omega)).trans ((hq 6 (by omega) (by omega)).trans hp.six))
      ((hq3 _ (by omega) (by omega)).trans ((hq _ (by omega) (by omega)).trans hp.sb)) ((hq3 _ (by omega) (by omega)).trans hg2) (fun _ => hgf)

theorem head_ok (En : Env P g av fl D) {kept : Bool} {cx : Cx} {fs : Fds} {dflt T kt flex n0 ntmps used : Nat} {toff : Option Nat} {nm : Nm} {z cur : Array Value} (hchk : topOk ⟨P, g, av, D⟩ kept cx fs dflt T kt toff n0 ntmps nm z used = true) (hn : n0 + 17 ≤ ntmps)
    {w : World} {B S te : Nat} {ver : Int} {srcv : Value} {r0 : RS} (hB : w.heap[B]? = some (.cells cur te (0, 0))) (hcur : cur = z.setIfInBounds 0 (.int .i16 ver)) (hsrc : SrcAt w S srcv r0) (hbad : r0.bad = false) (herr : ErrAt g.gErr w) (hS : S < w.heap.size) (hBS : B ≠ S) (hgB : g.gErr ≠ B)
    {Q : Exit → Act → World → Prop} {K : Act → World → Prop} {a : Act} (ha : a.tmps.size = ntmps) (had : a.defers = []) (h0 : a.get 0 = pt B 0) (h1 : a.get 1 = srcv) (h2 : a.get 2 = .bool false)
    (h : ∀ R a' w', Headed g cx fs toff flex B S te cur.size w (vread kept ver r0) ntmps R a' w' → K a' w') : LW P (gHead g kept cx dflt T flex) n0 (Exit.then K Q) a w := by
  simp only [topOk, Bool.and_eq_true, decide_eq_true_eq] at hchk
  obtain ⟨⟨⟨⟨⟨hsl, hused⟩, hF⟩, hkept⟩, hdf⟩, hst⟩ := hchk
  replace hF := fldB_ok hF
  split at hdf
  · rename_i wr hwr
    simp only [Bool.and_eq_true, decide_eq_true_eq, List.all_eq_true, bne_iff_ne] at hdf
    obtain ⟨⟨⟨⟨⟨⟨hwb, hzf⟩, hzt⟩, hpos⟩, htf⟩, hext⟩, hzp⟩ := hdf
    obtain ⟨hEnt, hDf⟩ := En.df _ _ hwr
    have htm : topM cx = max (max cx.b cx.s) (max cx.ver cx.fx) + 1 := rfl
    have hBlt : B < w.heap.size := (Array.getElem?_eq_some_iff.1 hB).1
    obtain ⟨te', xe, hce⟩ := herr
    have hgl := lt_of_cell hce
    have hcs : cur.size = z.size := by rw [hcur]; simp
    unfold gHead
    simp only [List.append_assoc]
    refine LW_cons (s_set (x := 6) (m := n0) (k0 := n0) (.inl rfl) (by omega) fun a1 hp1 hg1 => ?_)
    have hs1 := hp1.size
    rw [show (gSet 6 .nilIface n0).2 = n0 from rfl]
    have hq1 : ∀ s, s ≠ 6 → s < n0 → a1.get s = a.get s := fun s h1 h2 => hp1.get s h1 (.inl h2)
    refine LW_cons (s_default (x := 6) (m := n0) (k0 := n0) (B := B) (O := 0) (cur := cur) (te := te) hEnt hDf ((hq1 0 (by omega) (by omega)).trans h0) hB (fun q hq => by have := hwb q hq; omega) (Nat.le_refl _) (Nat.le_refl _) (by omega) fun a2 w2 hp2 hsame2 hk2 hB2 => ?_)
    have hs2 := hp2.size
    rw [show (gDefault 0 dflt n0).2 = n0 + 2 from rfl]
    -- what the message holds now
    have hcur2 : ∀ j, 1 ≤ j → (applyWr cur 0 wr)[j]? = (applyWr z 0 wr)[j]? := by
      have hgen : ∀ (l : List (Nat × Value)) (c1 c2 : Array Value), c1.size = c2.size → (∀ j, 1 ≤ j → c1[j]? = c2[j]?) → ∀ j, 1 ≤ j → (applyWr c1 0 l)[j]? = (applyWr c2 0 l)[j]? := by
        intro l
        induction l with
        | nil => intro c1 c2 _ hc j hj; exact hc j hj
        | cons p l ih =>
          intro c1 c2 hsz hc j hj
          refine ih _ _ (by simpa using hsz) (fun i hi => ?_) j hj
          rw [Array.getElem?_setIfInBounds, Array.getElem?_setIfInBounds, hsz, hc i hi]
      refine hgen wr cur z hcs fun j hj => ?_
      rw [hcur, Array.getElem?_setIfInBounds, if_neg (by omega)]
    have hc0 : (applyWr cur 0 wr)[0]? = some (.int .i16 ver) := by
      rw [applyWr_out 0 wr cur 0 (fun q hq => by have := hwb q hq; omega), hcur]
      simp [hzp]
    have hZ2 : HasZ w2 B 0 (applyWr cur 0 wr) := fun j v hj => by simp only [World.cell?, hB2]; simpa using hj
    have hfd2 : ∀ X, RpF w2 X fs B 0 (dfFds fs) := fun X => zFds_ok hZ2 X fs 0 (zFds_agree hcur2 fs 0 (.inr hpos) hzf)
    have htg2 : TgNil w2 B 0 toff := by
      cases toff with
      | none => trivial
      | some o =>
        have ho : o ≠ 0 := fun h => htf (by rw [h])
        refine hZ2.one ?_
        simp only [zTg, eqAt] at hzt ⊢
        rw [hcur2 o (by omega)]
        exact hzt
    -- the reader
    have hsrc2 : SrcAt w2 S srcv r0 := hsrc.keep hk2 (fun h => hBS h.symm)
    refine LW_cons (nwp_rg (wl_move ?_))
    rw [eval_tm, hsame2 1 (by omega), hq1 1 (by omega) (by omega), h1]
    refine wl_newReader En.kb (y := n0 + 2) (v := srcv) (get_put _ _ _ (by omega)) hsrc2 hbad (by simp only [put_size]; omega) (by simp only [put_size]; omega) (by omega) (wpList_nil ?_)
    rw [show (gOps 2 (fun n => [mk (some n) (.move (tm 1)), mk (some (n + 1)) (.build g.tR #[(0, tm n)]), mk (some cx.b) (.alloc g.tR), mk none (.store g.tR (tm cx.b) (tm (n + 1)))]) (n0 + 2)).2 = n0 + 4 from rfl]
    have hk3 : Keeps (fun _ => False) w2 ((w2.alloc (.cells #[.slice none 0 0, .bool false] g.tR (0, 0))).setRow w2.heap.size #[srcv, .bool false]) := keeps_newReader _ _ _ _
    have hrd3 := rds_newReader (T := g.tR) hsrc2 hbad
    have hsz3 : ((w2.alloc (.cells #[.slice none 0 0, .bool false] g.tR (0, 0))).setRow w2.heap.size #[srcv, .bool false]).heap.size = w2.heap.size + 1 := by simp
    have hp3 : Pv cx.b n0 n0 (n0 + 2) a2 ((((a2.put (some (n0 + 2)) srcv).put (some (n0 + 2 + 1)) (.agg #[srcv, .bool false])).put (some cx.b) (pt w2.heap.size 0))) := (((Pv.refl _ _ _ _ _).put _ (by omega)).put _ (by omega)).put _ (by omega)
    have hg3 : ((((a2.put (some (n0 + 2)) srcv).put (some (n0 + 2 + 1)) (.agg #[srcv, .bool false])).put (some cx.b) (pt w2.heap.size 0))).get cx.b = pt w2.heap.size 0 := get_put _ _ _ (by simp only [put_size]; omega)
    generalize (((a2.put (some (n0 + 2)) srcv).put (some (n0 + 2 + 1)) (.agg #[srcv, .bool false])).put (some cx.b) (pt w2.heap.size 0)) = a3 at hp3 hg3 ⊢
    generalize (w2.alloc (.cells #[.slice none 0 0, .bool false] g.tR (0, 0))).setRow w2.heap.size #[srcv, .bool false] = w3 at hk3 hrd3 hsz3 ⊢
    have hs3 := hp3.size
    have hsz2 := hk2.size
    have hq3 : ∀ s, s ≠ cx.b → s ≠ 6 → s < n0 → a3.get s = a.get s := fun s h1 h2 h3 => (hp3.get s h1 (.inl h3)).trans ((hsame2 s (by omega)).trans (hq1 s h2 h3))
    have hB3 : w3.heap[B]? = some (.cells (applyWr cur 0 wr) te (0, 0)) := by rw [hk3.block B (by omega) id]; exact hB2
    have hfd3 : ∀ X, RpF w3 X fs B 0 (dfFds fs) := fun X => RpF.frameIn (hk3.mono fun _ _ h => h.elim) fs B 0 _ (hfd2 X) fun j _ => cell_of_block (hk3.block B (by omega) id) j
    have htg3 : TgNil w3 B 0 toff := by
      cases toff with
      | none => trivial
      | some o => exact hk3.cell id htg2
    have herr3 : ErrAt g.gErr w3 := ⟨te', xe, hk3.cell id (hk2.cell hgB hce)⟩
    have hk03 : Keeps (· = B) w w3 := hk2.trans (hk3.mono fun _ _ h => h.elim)
    have hpre : Pre g cx fs toff B S te cur.size w (ver, r0) ntmps w2.heap.size a3 w3 :=
      ⟨hrd3, hg3, (hq3 0 (by omega) (by omega) (by omega)).trans h0, (hq3 2 (by omega) (by omega) (by omega)).trans h2, by omega, hp3.defers.trans (hp2.defers.trans (hp1.defers.trans had)), (hp3.get 6 (by omega) (.inl (by omega))).trans ((hsame2 6 (by omega)).trans hg1), hk03, hsz2,
        ⟨_, hB3, applyWr_size _ _ _, hc0⟩, hfd3, htg3, herr3⟩
    cases hkp : kept with
    | false =>
      rw [hkp] at h
      simp only [Bool.false_eq_true, if_false]
      exact head_tail hsl hF hpre (by omega) (by omega) hS hBlt hBS hgB hgl (fun a' w' hh => h _ a' w' hh)
    | true =>
      rw [hkp] at h hkept
      have hi16 : av .i16 = true := by simpa using hkept
      simp only [if_true]
      have hRS : S ≠ w2.heap.size := by omega
      refine LW_cons (nwp_rg (wl_move ?_))
      rw [eval_tm, hpre.s0]
      refine wl_call (vs := #[pt w2.heap.size 0]) (En.kb.rdE _ hi16) (by simp [eval_tm, get_put_ne _ _ _ _ (show cx.b ≠ n0 + 4 by omega), hg3]) (En.kb.rdC _ hi16 w3 S w2.heap.size r0 hrd3 hRS) fun e w4 hR => ?_
      obtain ⟨val, he, hrd4, hk4, hl4⟩ := hR
      refine ⟨_, he, ?_⟩
      refine wl_nilCheck (by rw [eval_tm, get_put_ne _ _ _ _ (by omega), get_put _ _ _ (by omega)]; rfl) ?_
      refine wl_fld (by rw [eval_tm, get_put _ _ _ (by simp only [put_size]; omega)]) hF ?_
      obtain ⟨x, hx1, hx2, _⟩ := hl4 (fun _ => False) (fun _ h => h.elim) id
      have hx3 : x = (rI 2 r0).1 := by
        have e : (PF.run .i16 r0).1 = .n (rI 2 r0).1 := rfl
        rw [e] at hx2
        exact (V.n.inj hx2).symm
      have hBR : B ≠ w2.heap.size := by omega
      have hB4 : w4.heap[B]? = some (.cells (applyWr cur 0 wr) te (0, 0)) := by rw [hk4.block B (by omega) hBR]; exact hB3
      have hws : (applyWr cur 0 wr).size = cur.size := applyWr_size _ _ _
      refine wl_store (cur := applyWr cur 0 wr) (t := te) (v := val) (vs := [.int .i16 x]) (by rw [eval_tm, get_put _ _ _ (by simp only [put_size]; omega)]) (by rw [eval_tm, get_put_ne _ _ _ _ (by omega), get_put_ne _ _ _ _ (by omega), get_put _ _ _ (by simp only [put_size]; omega)]) hx1 (hF.var.size _) hB4 (by rw [hws]; simp only [List.length_cons, List.length_nil]; omega)
        (fun u hu => by simp at hu; rw [hu]; rfl) (wpList_nil ?_)
      rw [Nat.zero_add, splice_one (by omega)]
      have hw5 : (w4.setRow B ((applyWr cur 0 wr).setIfInBounds 0 (.int .i16 x))).heap[B]? = some (.cells ((applyWr cur 0 wr).setIfInBounds 0 (.int .i16 x)) te (0, 0)) := setRow_heap _ _ _ _ _ _ hB4
      have hk5 : Keeps (· = B) w4 (w4.setRow B ((applyWr cur 0 wr).setIfInBounds 0 (.int .i16 x))) := Keeps.setRow _ _ _ _ rfl
      have hcellIn : ∀ j, fs.In 0 j → (w4.setRow B ((applyWr cur 0 wr).setIfInBounds 0 (.int .i16 x))).cell? ⟨B, j, none⟩ = w4.cell? ⟨B, j, none⟩ := fun j hj => by
        have hne : ¬ (0 = j) := fun h => posF_in fs j hpos hj h.symm
        simp only [World.cell?, hw5, hB4, Array.getElem?_setIfInBounds, hne, if_false]
      have hk34 : Keeps (fun k => k = w2.heap.size) w3 w4 := hk4
      have hfd4 : ∀ X, RpF w4 X fs B 0 (dfFds fs) := fun X => RpF.mono (fun k _ hk => .inl hk) fs B 0 _ (RpF.frameIn (hk34.mono fun k _ hk => .inr hk) fs B 0 _ (hfd3 (fun k => X k ∨ k = w2.heap.size)) fun j _ => cell_of_block (hk4.block B (by omega) hBR) j)
      have hfd5 : ∀ X, RpF (w4.setRow B ((applyWr cur 0 wr).setIfInBounds 0 (.int .i16 x))) X fs B 0 (dfFds fs) := fun X => RpF.mono (fun k _ hk => .inl hk) fs B 0 _ (RpF.frameIn (hk5.mono fun k _ hk => .inr hk) fs B 0 _ (hfd4 (fun k => X k ∨ k = B)) hcellIn)
      have htg5 : TgNil (w4.setRow B ((applyWr cur 0 wr).setIfInBounds 0 (.int .i16 x))) B 0 toff := by
        cases toff with
        | none => trivial
        | some o =>
          have ho : o ≠ 0 := fun h => htf (by rw [h])
          have h4 : w4.cell? ⟨B, 0 + o, none⟩ = some (.map none) := hk4.cell hBR htg3
          show (w4.setRow B ((applyWr cur 0 wr).setIfInBounds 0 (.int .i16 x))).cell? ⟨B, 0 + o, none⟩ = some (.map none)
          rw [← h4]
          have hne : ¬ (0 = 0 + o) := by omega
          simp only [World.cell?, hw5, hB4, Array.getElem?_setIfInBounds, hne, if_false]
      refine head_tail (vr := rI 2 r0) (R := w2.heap.size) (n := n0 + 8) hsl hF ⟨?_, ?_, ?_, ?_, ?_, ?_, ?_, ?_, ?_, ?_, hfd5, htg5, ?_⟩ (by omega) (by omega) hS hBlt hBS hgB hgl (fun a' w' hh => h _ a' w' hh)
      · exact hrd4.keep hk5 (fun h => hBS h.symm) (fun h => hBR h.symm)
      · rw [get_put_ne _ _ _ _ (by omega), get_put_ne _ _ _ _ (by omega), get_put_ne _ _ _ _ (by omega), get_put_ne _ _ _ _ (by omega)]; exact hg3
      · rw [get_put_ne _ _ _ _ (by omega), get_put_ne _ _ _ _ (by omega), get_put_ne _ _ _ _ (by omega), get_put_ne _ _ _ _ (by omega)]; exact hpre.s0
      · rw [get_put_ne _ _ _ _ (by omega), get_put_ne _ _ _ _ (by omega), get_put_ne _ _ _ _ (by omega), get_put_ne _ _ _ _ (by omega)]; exact hpre.s2
      · simp only [put_size]; exact hpre.size
      · simp only [put_defers]; exact hpre.defers
      · rw [get_put_ne _ _ _ _ (by omega), get_put_ne _ _ _ _ (by omega), get_put_ne _ _ _ _ (by omega), get_put_ne _ _ _ _ (by omega)]; exact hpre.six
      · refine ⟨hk4.os.trans hk03.os, hk4.tape.trans hk03.tape, hk4.output.trans hk03.output, by have := hk4.size; have := hk03.size; have := hk5.size; omega, fun q hq hx => ?_⟩
        have := hk03.size
        have := hk4.size
        rw [hk5.block q (by omega) hx, hk4.block q (by omega) (by omega), hk03.block q hq hx]
      · exact hsz2
      · exact ⟨_, hw5, by simp [hws], by rw [← hx3]; simp [hws, hcs, hzp]⟩
      · obtain ⟨t6, x6, h6⟩ := herr3
        exact ⟨t6, x6, hk5.cell hgB (hk4.cell (by omega) h6)⟩
  · cases hdf
end
end Go.Proofs.YtmkioomgfdpeiacDoor.Kx

/-
  FUNCTIONS, 4: what 'readFrom' of a message does.
-/
namespace Go.Proofs.YtmkioomgfdpeiacDoor.Kx
open Go

section
variable {P : Program} {g : G} {av : PF → Bool} {fl : Bool} {D : Nat → Option (List (Nat × Value))}

def topUsed (g : G) (kept : Bool) (cx : Cx) (fs : Fds) (dflt T kt flex n0 : Nat) (m : Nm) : Nat :=
  (gL (gHead g kept cx dflt T flex ++ (gStOf g cx fs.tagged T kt m (gFds g cx fs m.s) (gTagd g cx fs m.s) ++ gEnd g cx.b)) n0).2

/-- what is there behind reading -/
def ReadPost (fs : Fds) (toff : Option Nat) (B S te csz : Nat) (w : World) (ver : Int) (out : Out V) (x : Value) (w' : World) : Prop :=
  Keeps (· = B) w w' ∧
  match out with
  | .ok v r => (r.bad = false → x = .nilIface) ∧ (r.bad = true → ∃ t y, x = .iface t y) ∧
      ∃ vs t cur, v = .st vs t ∧ w'.heap[B]? = some (.cells cur te (0, 0)) ∧ cur.size = csz ∧ cur[0]? = some (.int .i16 ver) ∧ Far w S (fun X => RpF w' X fs B 0 vs) ∧ Far w S (fun X => TgAt w' X B 0 toff t)
  | .err => ∃ t y, x = .iface t y
  | .stuck => False

/-- what a message says that is read of some bytes -/
def rdMsg (hf : Bool) (flex : Nat) (fs : Fds) (ver : Int) (r : RS) : Out V :=
  rdStOf (hf && decide ((flex : Int) ≤ ver)) fs.tagged (rdFds (hf && decide ((flex : Int) ≤ ver)) ver fs) (rdTag (hf && decide ((flex : Int) ≤ ver)) ver fs) r

theorem read_fn (En : Env P g av fl D) {f ntmps : Nat} {kept : Bool} {cx : Cx} {fs : Fds} {dflt T kt flex n0 : Nat} {toff : Option Nat} {nm : Nm} {z : Array Value} (hfl : cx.hf = true → fl = true) (hfn : FnIs P f ntmps [6] (gRead g cx.hf kept cx fs dflt T kt flex n0 nm))
    (hchk : topOk ⟨P, g, av, D⟩ kept cx fs dflt T kt toff n0 ntmps nm z (topUsed g kept cx fs dflt T kt flex n0 nm) = true) (h17 : n0 + 17 ≤ ntmps)
    {w : World} {B S te : Nat} {ver : Int} {srcv : Value} {r0 : RS} (hB : w.heap[B]? = some (.cells (z.setIfInBounds 0 (.int .i16 ver)) te (0, 0))) (hsrc : SrcAt w S srcv r0) (hbad : r0.bad = false) (herr : ErrAt g.gErr w) (hS : S < w.heap.size) (hBS : B ≠ S) (hgB : g.gErr ≠ B)
    (hgo : rdMsg cx.hf flex fs (vread kept ver r0).1 (vread kept ver r0).2 ≠ .stuck) :
    Calls P f #[pt B 0, srcv, .bool false] w fun e w' => ∃ x, e = .returned x ∧ ReadPost fs toff B S te z.size w (vread kept ver r0).1 (rdMsg cx.hf flex fs (vread kept ver r0).1 (vread kept ver r0).2) x w' := by
  refine hfn.calls En.kb.mixed (by simp) ?_
  rw [gRead_eq]
  have hchk0 := hchk
  simp only [topOk, Bool.and_eq_true, decide_eq_true_eq] at hchk
  obtain ⟨⟨⟨⟨⟨hsl, hused⟩, hF⟩, hkept⟩, hdf⟩, hst⟩ := hchk
  obtain ⟨hext, hpos, htf0⟩ : fs.ext (toffEnd toff) ≤ z.size ∧ posF fs = true ∧ toff ≠ some 0 := by
    split at hdf
    · simp only [Bool.and_eq_true, decide_eq_true_eq, bne_iff_ne] at hdf
      exact ⟨hdf.1.2, hdf.1.1.1.2, hdf.1.1.2⟩
    · cases hdf
  have htm : topM cx = max (max cx.b cx.s) (max cx.ver cx.fx) + 1 := rfl
  have hsz := size_args #[pt B 0, srcv, .bool false] ntmps (by show 3 ≤ ntmps; omega)
  have hupE : UpL (gEnd g cx.b) := upL_cons (up_ops _ _) (upL_cons (up_code _) upL_nil)
  have hupS : UpL (gStOf g cx fs.tagged T kt nm (gFds g cx fs nm.s) (gTagd g cx fs nm.s)) := up_gStOf (up_gFds g fs nm.s cx) (up_gTagd g fs nm.s cx)
  unfold topUsed at hused
  rw [gL_append, gL_append] at hused
  have hu1 := hupS (gL (gHead g kept cx dflt T flex) n0).2
  have hused' : (gL (gStOf g cx fs.tagged T kt nm (gFds g cx fs nm.s) (gTagd g cx fs nm.s)) (gL (gHead g kept cx dflt T flex) n0).2).2 + 1 ≤ ntmps := hused
  have hhead : n0 ≤ (gL (gHead g kept cx dflt T flex) n0).2 := by
    refine (show UpL (gHead g kept cx dflt T flex) from ?_) n0
    unfold gHead
    exact upL_append (upL_append (upL_append (upL_append (upL_cons (up_ops _ _) (upL_cons (up_ops _ _) (upL_cons (up_ops _ _) upL_nil))) (upL_ite (upL_cons (up_ops _ _) upL_nil) upL_nil)) (upL_cons (up_ops _ _) (upL_cons (up_ops _ _) upL_nil))) (upL_ite (upL_cons (up_ops _ _) (upL_cons (up_ops _ _) upL_nil)) upL_nil)) (upL_cons (up_ops _ _) upL_nil)
  generalize hnH : (gL (gHead g kept cx dflt T flex) n0).2 = nH at *
  refine nwp_gS (LW_append ?_)
  rw [hnH]
  refine head_ok En hchk0 h17 hB rfl hsrc hbad herr hS hBS hgB hsz rfl (by rw [get_args _ _ _ (by simp)]; rfl) (by rw [get_args _ _ _ (by simp)]; rfl) (by rw [get_args _ _ _ (by simp)]; rfl) fun R a1 w1 hh => ?_
  have hs1 := hh.size
  generalize hvr : vread kept ver r0 = vr at *
  obtain ⟨cur, hB1, hcs, hc0⟩ := hh.blk
  have hzs : (z.setIfInBounds 0 (.int .i16 ver)).size = z.size := by simp
  rw [hzs] at hcs
  have hfx6 : cx.fx ≠ 6 := by
    rcases hsl.2.2.2.2.2.2.2 with h2 | h2
    · have := h2.2.1; omega
    · have := h2.2; omega
  have hcm : CxOk cx (topM cx) n0 := ⟨⟨by omega, by omega⟩, ⟨by omega, by omega⟩, ⟨by omega, by omega⟩, ⟨by omega, hfx6⟩, by omega, by omega⟩
  have hsz01 := hh.keeps.size
  have hfresh := hh.fresh
  refine LW_append ?_
  rw [then_rt]
  refine rd_st En fs nm cx (cx.hf && decide ((flex : Int) ≤ vr.1)) vr.1 S R B 0 vr.2 (topM cx) n0 nH T kt toff _ _ a1 w1 te hst hh.rc hcm hfl hhead (by omega) (by omega) ⟨cur, hB1, by omega⟩ (.inr ⟨hh.fds, hh.tgs⟩) ⟨fun v r' a2 w2 he hp2 hrd2 hev2 hv => ?_, fun he a2 w2 hp2 hif hk2 => ?_, hgo⟩
  · have hs2 := hp2.size
    obtain ⟨vs, t, rfl, hF2, hT2⟩ := hv
    have hsb : a2.get cx.b = pt R 0 := (hp2.get _ (by omega) (.inl (by omega))).trans hh.rc.sb
    obtain ⟨tE, xE, hE1⟩ := hh.rc.err
    have hE2 : ErrAt g.gErr w2 := ErrAt.keep ⟨tE, xE, hE1⟩ hev2.keeps (fun h => by rcases h with h | h; exact hh.rc.gR h; exact hh.rc.gB h)
    obtain ⟨cur2, hB2, hcs2, hcz2⟩ := hev2.blk cur te hB1
    have hc02 : cur2[0]? = some (.int .i16 vr.1) := by
      rw [hcz2 0 (fun h => ?_)]
      · exact hc0
      · rcases h with h | ⟨o, h1, h2⟩
        · exact posF_in fs 0 hpos h rfl
        · have h0 : o = 0 := by omega
          exact htf0 (by rw [h1, h0])
    refine LW_cons (nwp_rg (wl_call (vs := #[pt R 0]) En.kb.cmE (by simp [eval_tm, hsb]) (En.kb.cmC w2 S R r' hrd2 hE2) fun e w3 hR => ?_))
    obtain ⟨hk3, x, he3, hx0, hx1⟩ := hR
    refine ⟨_, he3, wl_assign (wpList_nil (LW_cons (.ret ?_)))⟩
    rw [eval_tm, get_put _ _ _ (by omega)]
    refine ⟨?_, x, ?_, ?_⟩
    · simp only [put_defers]; exact hp2.defers.trans hh.defers
    · simp only [retOf]
      rw [get_put _ _ _ (by simp only [put_size]; omega)]
    · refine ⟨?_, ?_⟩
      · refine ⟨hk3.os.trans (hev2.keeps.os.trans hh.keeps.os), hk3.tape.trans (hev2.keeps.tape.trans hh.keeps.tape), hk3.output.trans (hev2.keeps.output.trans hh.keeps.output), ?_, fun q hq hx => ?_⟩
        · have := hk3.size
          have := hev2.keeps.size
          omega
        · have := hev2.keeps.size
          rw [hk3.block q (by omega) id, hev2.keeps.block q (by omega) (fun h => by rcases h with h | h; omega; exact hx h), hh.keeps.block q hq hx]
      · rw [show rdMsg cx.hf flex fs vr.1 vr.2 = .ok (.st vs t) r' from he]
        have hBw2 : B < w2.heap.size := (Array.getElem?_eq_some_iff.1 hB2).1
        refine ⟨hx0, hx1, vs, t, cur2, rfl, by rw [hk3.block B hBw2 id]; exact hB2, by omega, hc02, fun X hX hS' => ?_, fun X hX hS' => ?_⟩
        · exact RpF.frameIn (hk3.mono fun _ _ h => h.elim) fs B 0 vs (hF2 X (fun k hk => Nat.lt_of_lt_of_le (hX k hk) hsz01) hS') fun j _ => cell_of_block (hk3.block B hBw2 id) j
        · exact (hT2 X (fun k hk => Nat.lt_of_lt_of_le (hX k hk) hsz01) hS').frame (hk3.mono fun _ _ h => h.elim) fun k _ => cell_of_block (hk3.block B hBw2 id) _
  · obtain ⟨tE, yE, hE⟩ := hif
    refine ⟨hp2.defers.trans hh.defers, .iface tE yE, by simp only [retOf]; rw [hE], ?_, ?_⟩
    · refine ⟨hk2.os.trans hh.keeps.os, hk2.tape.trans hh.keeps.tape, hk2.output.trans hh.keeps.output, Nat.le_trans hsz01 hk2.size, fun q hq hx => ?_⟩
      rw [hk2.block q (by omega) (fun h => by rcases h with h | h; omega; exact hx h), hh.keeps.block q hq hx]
    · rw [show rdMsg cx.hf flex fs vr.1 vr.2 = .err from he]
      exact ⟨tE, yE, rfl⟩

end
end Go.Proofs.YtmkioomgfdpeiacDoor.Kx

/-
  KBIN, 1: the reader's small functions: their printed code, and what it does.
-/
namespace Go.Proofs.YtmkioomgfdpeiacDoor.Kx
open Go

/-- the numbers of the package kbin's own types, variables and functions -/
structure Kn where
  tRS : Nat
  tSl : Nat
  tB : Nat
  tInt : Nat
  tU8 : Nat
  tI8 : Nat
  tI16 : Nat
  tU16 : Nat
  tI32 : Nat
  tU32 : Nat
  tI64 : Nat
  tU64 : Nat
  tStr : Nat
  tUuid : Nat
  tBE : Nat
  tErr : Nat
  gBE : Nat
  gErr : Nat
  fU16 : Nat
  fU32 : Nat
  fU64 : Nat
  fUv : Nat
  fR64 : Nat

def kSrc (K : Kn) (s n : Nat) : List Oper := [mk (some n) (.move (tm s)), mk (some (n + 1)) (.nilCheck (tm n)), mk (some (n + 2)) (.fieldAddr K.tRS (tm (n + 1)) 0), mk (some (n + 3)) (.load K.tSl (tm (n + 2)))]
def kLenLt (K : Kn) (k : Nat) (A B : GC) : GC := gIf 5 6 (fun n => kSrc K 0 n ++ [bi (some (n + 4)) .len [tm (n + 3)] [K.tSl] K.tInt, mk (some (n + 5)) (.binOp .lss K.tInt (tm (n + 4)) (ki .i64 k) 0)]) A B
def kFailAt (K : Kn) (s : Nat) (z : Value) : GC := gS [gOps 3 fun n => [mk (some n) (.move (tm 0)), mk (some (n + 1)) (.nilCheck (tm n)), mk (some (n + 2)) (.fieldAddr K.tRS (tm (n + 1)) 1), mk none (.store K.tB (tm (n + 2)) (.const (.bool true)))],
  gOps 3 fun n => [mk (some n) (.move (tm 0)), mk (some (n + 1)) (.nilCheck (tm n)), mk (some (n + 2)) (.fieldAddr K.tRS (tm (n + 1)) 0), mk none (.store K.tSl (tm (n + 2)) (.const (.slice none 0 0)))], gSet s z, gCode .ret]
def kFail (K : Kn) (z : Value) : GC := kFailAt K 2 z
/-- b.Src = b.Src[k:] -/
def kAdv (K : Kn) (k : Nat) : GC := gOps 8 fun n => mk (some n) (.move (tm 0)) :: (kSrc K 0 (n + 1) ++ [mk (some (n + 5)) (.slice K.tSl (tm (n + 4)) (some (ki .i64 k)) none none), mk (some (n + 6)) (.nilCheck (tm n)), mk (some (n + 7)) (.fieldAddr K.tRS (tm (n + 6)) 0), mk none (.store K.tSl (tm (n + 7)) (tm (n + 5)))])
/-- the same, by as much as a slot says -/
def kAdvS (K : Kn) (l : Nat) : GC := gOps 9 fun n => mk (some n) (.move (tm 0)) :: (kSrc K 0 (n + 1) ++ [mk (some (n + 5)) (.move (tm l)), mk (some (n + 6)) (.slice K.tSl (tm (n + 4)) (some (tm (n + 5))) none none), mk (some (n + 7)) (.nilCheck (tm n)), mk (some (n + 8)) (.fieldAddr K.tRS (tm (n + 7)) 0), mk none (.store K.tSl (tm (n + 8)) (tm (n + 6)))])

/-- what the program's tables say of these types -/
structure KT (P : Program) (g : G) (K : Kn) : Prop where
  mixed : P.follows .mixedOrders = true
  f0 : FldIs P K.tRS 0 K.tSl 0 false 1
  f1 : FldIs P K.tRS 1 K.tB 1 false 1
  sl : P.underlying K.tSl = some (.slice K.tU8)
  u8 : VarIs P K.tU8 false 1
  dU8 : P.underlying K.tU8 = some (.int .u8)
  dI8 : hasF K.tI8 = true → P.underlying K.tI8 = some (.int .i8)
  dI16 : P.underlying K.tI16 = some (.int .i16)
  dI32 : P.underlying K.tI32 = some (.int .i32)
  dU32 : P.underlying K.tU32 = some (.int .u32)
  dInt : P.underlying K.tInt = some (.int .i64)

section
variable {P : Program} {g : G} {K : Kn} {T S R : Nat} {r : RS} {x n : Nat} {KK : Act → World → Prop} {Q : Exit → Act → World → Prop} {a : Act} {w : World}

/-- the reader's two cells -/
def RdC (w : World) (T S R : Nat) (v : Value) (r : RS) : Prop := w.heap[R]? = some (.cells #[v, .bool r.bad] T (0, 0)) ∧ SrcAt w S v r
theorem rdS_iff : RdS w T S R r ↔ ∃ v, RdC w T S R v r := Iff.rfl

theorem SrcAt.len {v : Value} (h : SrcAt w S v r) : ∃ base c, v = .slice base r.src.length c ∧ (base = none → r.src = [] ∧ c = 0 ∧ r.nl = true) ∧ r.src.length ≤ c ∧ c ≤ maxLen ∧ ∀ b, base = some b → ∃ o, b = ⟨S, o, none⟩ ∧ r.nl = false ∧ S < w.heap.size ∧ OctAt w S o r.src := by
  rcases h with ⟨h1, h2, h3⟩ | ⟨o, c, h1, h2, h3, h4, h5, h6⟩
  · exact ⟨none, 0, by rw [h1, h2]; rfl, fun _ => ⟨h2, rfl, h3⟩, by rw [h2]; simp, by simp, fun b hb => (by cases hb)⟩
  · exact ⟨some ⟨S, o, none⟩, c, h1, fun h => (by cases h), h3, h4, fun b hb => (by cases hb; exact ⟨o, rfl, h2, h5, h6⟩)⟩

theorem wl_src (kt : KT P g K) {ops : Array Oper} {l : List Oper} {s : Nat} {v : Value} (hs : a.get s = pt R 0) (hR : RdC w T S R v r) (hn : n + 4 ≤ a.tmps.size) (h : ∀ a', Pv n 0 0 n a a' → a'.get (n + 3) = v → wpList P ops Q l a' w) : wpList P ops Q (kSrc K s n ++ l) a w := by
  have hc : w.cell? ⟨R, 0 + 0, none⟩ = some v := by simp [World.cell?, hR.1]
  show wpList P ops Q (mk (some n) (.move (tm s)) :: mk (some (n + 1)) (.nilCheck (tm n)) :: mk (some (n + 2)) (.fieldAddr K.tRS (tm (n + 1)) 0) :: mk (some (n + 3)) (.load K.tSl (tm (n + 2))) :: l) a w
  refine wl_move ?_
  rw [eval_tm, hs]
  refine wl_nilCheck (by rw [eval_tm, get_put _ _ _ (by omega)]; rfl) ?_
  refine wl_fld (by rw [eval_tm, get_put _ _ _ (by simp only [put_size]; omega)]) kt.f0 ?_
  refine wl_load1 (by rw [eval_tm, get_put _ _ _ (by simp only [put_size]; omega)]) (kt.f0.var.agg _) hc ?_
  exact h _ (((((Pv.refl _ _ _ _ _).put _ (by omega)).put _ (by omega)).put _ (by omega)).put _ (by omega)) (get_put _ _ _ (by simp only [put_size]; omega))

/-- if len(b.Src) < k -/
theorem k_lenLt (kt : KT P g K) {v : Value} {k : Nat} {A B : GC} (h0 : a.get 0 = pt R 0) (hR : RdC w T S R v r) (hn : n + 6 ≤ a.tmps.size)
    (h : ∀ a', Pv n 0 0 n a a' → if r.src.length < k then NWP P (A (n + 6)).1 Q a' w else NWP P (B (A (n + 6)).2).1 Q a' w) : NWP P (kLenLt K k A B n).1 Q a w := by
  obtain ⟨base, c, hv, _⟩ := hR.2.len
  subst hv
  have key : ∀ (b : Bool) (K' : Act → World → Prop), b = decide ((r.src.length : Int) < (k : Int)) → (∀ a', a'.eval (tm (n + 5)) = .bool b → Pv n 0 0 n a a' → K' a' w) →
      wpList P (kSrc K 0 n ++ [bi (some (n + 4)) .len [tm (n + 3)] [K.tSl] K.tInt, mk (some (n + 5)) (.binOp .lss K.tInt (tm (n + 4)) (ki .i64 k) 0)]).toArray (Exit.then K' Q) (kSrc K 0 n ++ [bi (some (n + 4)) .len [tm (n + 3)] [K.tSl] K.tInt, mk (some (n + 5)) (.binOp .lss K.tInt (tm (n + 4)) (ki .i64 k) 0)]) a w := by
    intro b K' hb hK
    refine wl_src kt h0 hR (by omega) fun a1 hp1 hg1 => ?_
    have hs1 := hp1.size
    refine wl_len (by rw [eval_tm, hg1]) kt.sl ?_
    refine wl_cmp (b := b) (p := (r.src.length : Int)) (q := k) (k := .i64) (by rw [eval_tm, get_put _ _ _ (by omega)]) rfl (.inr (.inr (.inl ⟨rfl, hb⟩))) (wpList_nil (hK _ (by rw [eval_tm, get_put _ _ _ (by simp only [put_size]; omega)]) ((hp1.put _ (by omega)).put _ (by omega))))
  by_cases hlt : r.src.length < k
  · refine s_ifT (key true _ (by simp; omega) fun a' he hp => ⟨he, ?_⟩)
    have := h a' hp
    rwa [if_pos hlt] at this
  · refine s_ifF (key false _ (by simp; omega) fun a' he hp => ⟨he, ?_⟩)
    have := h a' hp
    rwa [if_neg hlt] at this

/-- b.bad = true; b.Src = nil; return z -/
theorem k_failAt (kt : KT P g K) {v z : Value} {E : Act → World → Prop} {N : Act → World → Prop} (h0 : a.get 0 = pt R 0) (hR : RdC w T S R v r) (_hRS : S ≠ R) (hn : n + 6 ≤ a.tmps.size) {s : Nat} (h2n : s < n)
    (h : ∀ a' w', a'.defers = a.defers → a'.get s = z → RdS w' T S R .fail → Keeps (· = R) w w' → E a' w') : NWP P (kFailAt K s z n).1 (Rt N E) a w := by
  refine nwp_gS (LW_cons (nwp_rg (wl_move ?_)))
  rw [eval_tm, h0]
  refine wl_nilCheck (by rw [eval_tm, get_put _ _ _ (by omega)]; rfl) ?_
  refine wl_fld (by rw [eval_tm, get_put _ _ _ (by simp only [put_size]; omega)]) kt.f1 ?_
  refine wl_store (cur := #[v, .bool r.bad]) (t := T) (v := .bool true) (vs := [.bool true]) (by rw [eval_tm, get_put _ _ _ (by simp only [put_size]; omega)]) rfl rfl (kt.f1.var.size _) hR.1 (by simp) (fun u hu => by simp at hu; rw [hu]; rfl) (wpList_nil ?_)
  have e1 : splice #[v, .bool r.bad] (0 + 1) [.bool true] = #[v, .bool true] := by simp [splice]
  rw [e1]
  have hp1 : Pv n 0 0 n a (((a.put (some n) (pt R 0)).put (some (n + 1)) (.pointer (some ⟨R, 0, none⟩))).put (some (n + 2)) (.pointer (some ⟨R, 0 + 1, none⟩))) := (((Pv.refl _ _ _ _ _).put _ (by omega)).put _ (by omega)).put _ (by omega)
  generalize ((a.put (some n) (pt R 0)).put (some (n + 1)) (.pointer (some ⟨R, 0, none⟩))).put (some (n + 2)) (.pointer (some ⟨R, 0 + 1, none⟩)) = a1 at hp1 ⊢
  have hs1 := hp1.size
  have hB1 : (w.setRow R #[v, .bool true]).heap[R]? = some (.cells #[v, .bool true] T (0, 0)) := setRow_heap _ _ _ _ _ _ hR.1
  rw [show (gOps 3 (fun n => [mk (some n) (.move (tm 0)), mk (some (n + 1)) (.nilCheck (tm n)), mk (some (n + 2)) (.fieldAddr K.tRS (tm (n + 1)) 1), mk none (.store K.tB (tm (n + 2)) (.const (.bool true)))]) n).2 = n + 3 from rfl]
  refine LW_cons (nwp_rg (wl_move ?_))
  rw [eval_tm, hp1.get 0 (by omega) (.inr ⟨by omega, by omega⟩), h0]
  refine wl_nilCheck (by rw [eval_tm, get_put _ _ _ (by omega)]; rfl) ?_
  refine wl_fld (by rw [eval_tm, get_put _ _ _ (by simp only [put_size]; omega)]) kt.f0 ?_
  refine wl_store (cur := #[v, .bool true]) (t := T) (v := .slice none 0 0) (vs := [.slice none 0 0]) (by rw [eval_tm, get_put _ _ _ (by simp only [put_size]; omega)]) rfl rfl (kt.f0.var.size _) hB1 (by simp) (fun u hu => by simp at hu; rw [hu]; rfl) (wpList_nil ?_)
  have e2 : splice #[v, .bool true] (0 + 0) [.slice none 0 0] = #[.slice none 0 0, .bool true] := by simp [splice]
  rw [e2]
  refine LW_cons (s_set (x := s) (m := 0) (k0 := 0) (.inl rfl) (by simp only [put_size]; omega) fun a2 hp2 hg2 => ?_)
  refine LW_cons (.ret (h a2 _ ?_ hg2 ?_ ?_))
  · rw [hp2.defers]; simp only [put_defers]; exact hp1.defers
  · exact ⟨.slice none 0 0, setRow_heap _ _ _ _ _ _ hB1, .inl ⟨rfl, rfl, rfl⟩⟩
  · exact (Keeps.setRow (fun k => k = R) _ _ _ rfl).trans (Keeps.setRow (fun k => k = R) _ _ _ rfl)

theorem k_fail (kt : KT P g K) {v z : Value} {E : Act → World → Prop} {N : Act → World → Prop} (h0 : a.get 0 = pt R 0) (hR : RdC w T S R v r) (hRS : S ≠ R) (hn : n + 6 ≤ a.tmps.size) (h2n : 2 < n)
    (h : ∀ a' w', a'.defers = a.defers → a'.get 2 = z → RdS w' T S R .fail → Keeps (· = R) w w' → E a' w') : NWP P (kFail K z n).1 (Rt N E) a w := k_failAt kt h0 hR hRS hn h2n h

/-- what b.Src[k:] is -/
def cutAt (v : Value) (k : Nat) : Value :=
  match v with
  | .slice base n c => .slice (if c = k then base else base.map (·.add k)) (n - k) (c - k)
  | v => v

theorem SrcAt.cut {v : Value} {k : Nat} (h : SrcAt w S v r) (hk : k ≤ r.src.length) : SrcAt w S (cutAt v k) ⟨r.src.drop k, r.bad, r.nl⟩ := by
  rcases h with ⟨h1, h2, h3⟩ | ⟨o, c, h1, h2, h3, h4, h5, h6⟩
  · have : k = 0 := by rw [h2] at hk; simpa using hk
    subst this
    refine .inl ⟨by rw [h1]; rfl, by simp [h2], h3⟩
  · subst h1
    by_cases hc : c = k
    · refine .inr ⟨o, c - k, ?_, h2, by simp; omega, by omega, h5, ?_⟩
      · simp [cutAt, hc]
      · have : r.src.length = k := by omega
        intro i x hi
        simp [this] at hi
    · refine .inr ⟨o + k, c - k, ?_, h2, by simp; omega, by omega, h5, fun i x hi => ?_⟩
      · simp [cutAt, hc, Addr.add_lit]
      · have := h6 (k + i) x (by simpa using hi)
        rwa [← Nat.add_assoc] at this

theorem wl_sliceLo (kt : KT P g K) {ops : Array Oper} {l : List Oper} {d : Option Nat} {y lo : Operand} {v : Value} {k : Nat} (hy : a.eval y = v) (hv : SrcAt w S v r) (hlo : a.eval lo = .int .i64 k) (hk : k ≤ r.src.length)
    (h : wpList P ops Q l (a.put d (cutAt v k)) w) : wpList P ops Q (mk d (.slice K.tSl y (some lo) none none) :: l) a w := by
  refine wl_value ?_ h
  obtain ⟨base, c, hvv, hb0, hlc, hcm, hb⟩ := hv.len
  subst hvv
  have hs := kt.u8.size w
  have hk1 : k ≤ c := by omega
  have hk0 : ¬ ((k : Int) < 0) := by omega
  simp [execOp, mk, hy, hlo, Instr.sliceAt, Instr.slice, run_underlying kt.sl, Instr.sliceBounds, Instr.sliceBound, asIntOf, hs, hk, cutAt]

theorem k_adv (kt : KT P g K) {v : Value} {k : Nat} (h0 : a.get 0 = pt R 0) (hR : RdC w T S R v r) (hk : k ≤ r.src.length) (hRS : S ≠ R) (hn : n + 8 ≤ a.tmps.size) (h0n : 0 < n)
    (h : ∀ a', Pv n 0 0 n a a' → RdS (w.setRow R #[cutAt v k, .bool r.bad]) T S R ⟨r.src.drop k, r.bad, r.nl⟩ → KK a' (w.setRow R #[cutAt v k, .bool r.bad])) : NWP P (kAdv K k n).1 (Exit.then KK Q) a w := by
  refine nwp_rg (wl_move ?_)
  rw [eval_tm, h0]
  refine wl_src kt (v := v) (by rw [get_put_ne _ _ _ _ (by omega)]; exact h0) hR (by simp only [put_size]; omega) fun a1 hp1 hg1 => ?_
  have hs1 := hp1.size
  rw [put_size] at hs1
  have hgn : a1.get n = pt R 0 := by rw [hp1.get n (by omega) (.inr ⟨by omega, by omega⟩), get_put _ _ _ (by omega)]
  have hp01 : Pv n 0 0 n a a1 := ((Pv.refl n 0 0 n a).put (pt R 0) (by omega)).trans ⟨hp1.size, hp1.defers, fun s hs hh => hp1.get s (by omega) (.inr ⟨by omega, by omega⟩)⟩
  refine wl_sliceLo kt (k := k) (by rw [eval_tm]; exact hg1) hR.2 rfl hk ?_
  refine wl_nilCheck (by rw [eval_tm, get_put_ne _ _ _ _ (by omega), hgn]; rfl) ?_
  refine wl_fld (by rw [eval_tm, get_put _ _ _ (by simp only [put_size]; omega)]) kt.f0 ?_
  obtain ⟨h1c, h2c⟩ := oneCell_src (hR.2.cut hk)
  refine wl_store (cur := #[v, .bool r.bad]) (t := T) (v := cutAt v k) (vs := [cutAt v k]) (by rw [eval_tm, get_put _ _ _ (by simp only [put_size]; omega)]) (by rw [eval_tm, get_put_ne _ _ _ _ (by omega), get_put_ne _ _ _ _ (by omega), get_put _ _ _ (by omega)]) (by rw [h2c]) (kt.f0.var.size _) hR.1 (by simp)
    (fun u hu => by simp at hu; rw [hu]; exact h1c) (wpList_nil ?_)
  have e1 : splice #[v, .bool r.bad] (0 + 0) [cutAt v k] = #[cutAt v k, .bool r.bad] := by simp [splice]
  rw [e1]
  refine h _ (((hp01.put _ (by omega)).put _ (by omega)).put _ (by omega)) ⟨_, setRow_heap _ _ _ _ _ _ hR.1, (hR.2.cut hk).keep (Keeps.setRow (fun k => k = R) _ _ _ rfl) hRS⟩

end
end Go.Proofs.YtmkioomgfdpeiacDoor.Kx

/-
  KBIN, 2: numbers of fixed width: bigEndian's functions, and the reader's.
-/
namespace Go.Proofs.YtmkioomgfdpeiacDoor.Kx
open Go

section
variable {P : Program} {g : G} {K : Kn} {T S R : Nat} {r : RS} {x n : Nat} {KK : Act → World → Prop} {Q : Exit → Act → World → Prop} {a : Act} {w : World}

theorem evF_append (I : World → Prop) : ∀ (l1 l2 : List Oper) (a : Act) (K' : Act → Prop), evF P I l1 a (fun a' => evF P I l2 a' K') → evF P I (l1 ++ l2) a K'
  | [], _, _, _, h => h
  | _ :: l1, l2, _a, K', ⟨v, h1, h2⟩ => ⟨v, h1, evF_append I l1 l2 _ K' h2⟩

theorem ev_move {I : World → Prop} {d : Nat} {y : Operand} {l : List Oper} {K' : Act → Prop} (h : evF P I l (a.put (some d) (a.eval y)) K') : evF P I (mk (some d) (.move y) :: l) a K' := ⟨_, fun _ _ => rfl, h⟩
theorem ev_nilCheck {I : World → Prop} {d : Nat} {y : Operand} {p : Addr} {l : List Oper} {K' : Act → Prop} (hy : a.eval y = .pointer (some p)) (h : evF P I l (a.put (some d) (.pointer (some p))) K') : evF P I (mk (some d) (.nilCheck y) :: l) a K' :=
  ⟨_, fun w _ => by simp [execOp, mk, hy], h⟩
theorem ev_fld {I : World → Prop} {d : Nat} {y : Operand} {F TT k B O off sz : Nat} {agg : Bool} {l : List Oper} {K' : Act → Prop} (hy : a.eval y = .pointer (some ⟨B, O, none⟩)) (hF : FldIs P TT k F off agg sz)
    (h : evF P I l (a.put (some d) (.pointer (some ⟨B, O + off, none⟩))) K') : evF P I (mk (some d) (.fieldAddr TT y k) :: l) a K' := by
  obtain ⟨fs, f, h1, h2, h3, h4⟩ := hF.fld
  obtain ⟨q, rfl⟩ : ∃ q, sz = q + 1 := ⟨sz - 1, by have := hF.pos; omega⟩
  have hsz : ∀ w, (sizeOf f.type).run P w = .ok (q + 1) w := fun w => by rw [h4]; exact hF.var.size w
  exact ⟨_, fun w _ => by simp [execOp, mk, hy, Instr.fieldAt, run_underlying h1, h2, h3, fieldPlace, hsz, Instr.sureAddr, Addr.add_lit], h⟩
theorem ev_load1 {I : World → Prop} {d : Nat} {y : Operand} {F : Nat} {p : Addr} {v : Value} {l : List Oper} {K' : Act → Prop} (hy : a.eval y = .pointer (some p)) (hF : ∀ w, (isAgg F).run P w = .ok false w) (hv : ∀ w, I w → w.cell? p = some v)
    (h : evF P I l (a.put (some d) v) K') : evF P I (mk (some d) (.load F y) :: l) a K' :=
  ⟨_, fun w hI => by simp [execOp, mk, hy, Instr.loadAt, Instr.sureAddr, loadVar, hF, load, hv w hI, Sem.run], h⟩
theorem ev_index {I : World → Prop} {d : Nat} {y z : Operand} {F E' b o m c i sz : Nat} {k : IntKind} {l : List Oper} {K' : Act → Prop} (hy : a.eval y = .slice (some ⟨b, o, none⟩) m c) (hz : a.eval z = .int k i) (hi : i < m) (hF : P.underlying F = some (.slice E'))
    (hs : ∀ w, (sizeOf E').run P w = .ok sz w) (h : evF P I l (a.put (some d) (.pointer (some ⟨b, o + i * sz, none⟩))) K') : evF P I (mk (some d) (.indexAddr F y z) :: l) a K' :=
  ⟨_, fun w _ => by simp [execOp, mk, hy, hz, Instr.indexAt, asIntOf, run_underlying hF, hs, hi, Addr.add_lit], h⟩
theorem ev_conv {I : World → Prop} {d : Nat} {y : Operand} {A B : Nat} {k k' : IntKind} {m : Int} {l : List Oper} {K' : Act → Prop} (hy : a.eval y = .int k m) (hA : P.underlying A = some (.int k)) (hB : P.underlying B = some (.int k'))
    (h : evF P I l (a.put (some d) (.int k' (k'.wrap m))) K') : evF P I (mk (some d) (.convert A B y) :: l) a K' :=
  ⟨_, fun w _ => by simp [execOp, mk, hy, convert, run_underlying hA, run_underlying hB, Conv.intToInt], h⟩
theorem ev_bin {I : World → Prop} {d : Nat} {op : BinOp} {A : Nat} {y z : Operand} {k k2 : IntKind} {m m2 : Int} {v : Value} {l : List Oper} {K' : Act → Prop} (hy : a.eval y = .int k m) (hz : a.eval z = .int k2 m2)
    (hop : ∀ w, (binOp op A (.int k m) (.int k2 m2)).run P w = .ok v w) (h : evF P I l (a.put (some d) v) K') : evF P I (mk (some d) (.binOp op A y z 0) :: l) a K' := by
  refine ⟨v, fun w _ => ?_, h⟩
  have he : (eqGuard op A y z (.int k m) (.int k2 m2)).run P w = .ok () w := by
    unfold eqGuard
    cases op <;> simp
  simp only [execOp, mk, hy, hz, Sem.run_bind, he, Result.andThen_ok, hop, Sem.run_pure]

/-- the kinds of numbers without a sign -/
def uk (k : IntKind) : Prop := k = .u16 ∨ k = .u32 ∨ k = .u64
theorem uk_wrap {k : IntKind} (hk : uk k) {m : Nat} (h : m < 2 ^ k.bits) : k.wrap (m : Int) = m := by
  rcases hk with rfl | rfl | rfl <;> simp [IntKind.wrap, IntKind.bits, IntKind.signed] at h ⊢ <;> omega

theorem run_shl {k : IntKind} (hk : uk k) {A : Nat} {b s : Nat} (hb : b < 256) (hs : s + 8 ≤ k.bits) (w : World) : (binOp .shl A (.int k (b : Int)) (.int .u64 (s : Int))).run P w = .ok (.int k ((b * 2 ^ s : Nat) : Int)) w := by
  have h1 : ¬ ((s : Int) < 0) := by omega
  have h2 : min s k.bits = s := by omega
  have h3 : b * 2 ^ s < 2 ^ k.bits := by
    have : 2 ^ (s + 8) ≤ 2 ^ k.bits := Nat.pow_le_pow_right (by omega) hs
    rw [Nat.pow_add] at this
    have h4 : b * 2 ^ s < 2 ^ s * 2 ^ 8 := by
      rw [Nat.mul_comm]
      exact Nat.mul_lt_mul_of_pos_left (by omega) (Nat.two_pow_pos s)
    omega
  have h5 : ((b : Int) * 2 ^ s) = ((b * 2 ^ s : Nat) : Int) := by simp
  simp only [binOp, Op.shift, h1, if_false, Int.toNat_natCast, h2, h5, uk_wrap hk h3, Sem.run_pure]

theorem run_or {k : IntKind} (hk : uk k) {A : Nat} {acc b s : Nat} (ha : acc < 2 ^ s) (hb : b < 256) (hs : s + 8 ≤ k.bits) (w : World) : (binOp .or A (.int k (acc : Int)) (.int k ((b * 2 ^ s : Nat) : Int))).run P w = .ok (.int k ((b * 2 ^ s + acc : Nat) : Int)) w := by
  have hp : 2 ^ (s + 8) ≤ 2 ^ k.bits := Nat.pow_le_pow_right (by omega) hs
  rw [Nat.pow_add] at hp
  have h4 : b * 2 ^ s + 2 ^ s ≤ 2 ^ s * 2 ^ 8 := by
    have : (b + 1) * 2 ^ s ≤ 256 * 2 ^ s := Nat.mul_le_mul_right _ (by omega)
    rw [Nat.add_mul, Nat.one_mul] at this
    omega
  have h3 : b * 2 ^ s + acc < 2 ^ k.bits := by omega
  have e1 : BitVec.ofInt k.bits (acc : Int) = BitVec.ofNat k.bits acc := by simp
  have e2 : BitVec.ofInt k.bits ((b * 2 ^ s : Nat) : Int) = BitVec.ofNat k.bits (b * 2 ^ s) := BitVec.ofInt_natCast ..
  have e3 : acc ||| b * 2 ^ s = b * 2 ^ s + acc := by
    rw [Nat.or_comm, Nat.mul_comm, ← Nat.two_pow_add_eq_or_of_lt ha]
  have e4 : (BitVec.ofNat k.bits acc ||| BitVec.ofNat k.bits (b * 2 ^ s)).toNat = b * 2 ^ s + acc := by
    rw [BitVec.toNat_or, BitVec.toNat_ofNat, BitVec.toNat_ofNat, Nat.mod_eq_of_lt (by omega), Nat.mod_eq_of_lt (by omega), e3]
  have hkk : (k ≠ k) = False := by simp
  simp only [binOp, hkk, if_false, Op.intBits, e1, e2, e4, uk_wrap hk h3, Sem.run_pure]

/-! ## bigEndian -/

def beStep (K : Kn) (tK n acc i s : Nat) : List Oper := [mk (some n) (.move (tm 1)), mk (some (n + 1)) (.indexAddr K.tSl (tm n) (ki .i64 i)), mk (some (n + 2)) (.load K.tU8 (tm (n + 1))), mk (some (n + 3)) (.convert K.tU8 tK (tm (n + 2))),
  mk (some (n + 4)) (.binOp .shl tK (tm (n + 3)) (ki .u64 s) 0), mk (some (n + 5)) (.binOp .or tK (tm acc) (tm (n + 4)) 0)]
/-- m octets more, the (j + 1)st from the end first -/
def beChain (K : Kn) (tK k : Nat) : Nat → Nat → Nat → List Oper
  | 0, _, _ => []
  | m + 1, j, n => beStep K tK n (n - 1) (k - 1 - j) (8 * j) ++ beChain K tK k m (j + 1) (n + 6)
def beFree (K : Kn) (tK k : Nat) : List Oper := [mk (some 8) (.move (tm 1)), mk (some 9) (.indexAddr K.tSl (tm 8) (ki .i64 ((k - 1 : Nat) : Int))), mk (some 10) (.load K.tU8 (tm 9)), mk (some 11) (.convert K.tU8 tK (tm 10))] ++ beChain K tK k (k - 1) 1 12
/-- bigEndian.Uint16, Uint32, Uint64: k octets -/
def gBig (K : Kn) (tK : Nat) (kind : IntKind) (k : Nat) : Code :=
  sq [rg [mk (some 2) (.box K.tBE (tm 0)), mk (some 4) (.assign (ki kind 0))],
    rg [mk (some 5) (.move (tm 1)), mk (some 6) (.indexAddr K.tSl (tm 5) (ki .i64 ((k - 1 : Nat) : Int))), mk (some 7) (.load K.tU8 (tm 6))],
    .region 1 (beFree K tK k ++ [mk (some 4) (.assign (tm (12 + 6 * (k - 1) - 1)))]).toArray true, .ret]

theorem unbe_cons (b : UInt8) (l : Bs) : unbe (b :: l) = b.toNat * 256 ^ l.length + unbe l := by
  have h : ∀ (l : Bs) (a : Nat), l.foldl (fun a b => a * 256 + b.toNat) a = a * 256 ^ l.length + l.foldl (fun a b => a * 256 + b.toNat) 0 := by
    intro l
    induction l with
    | nil => intro a; simp
    | cons b l ih =>
      intro a
      simp only [List.foldl_cons, List.length_cons]
      rw [ih, ih (0 * 256 + b.toNat)]
      rw [Nat.pow_succ, Nat.add_mul, Nat.zero_mul, Nat.zero_add, Nat.mul_assoc, Nat.mul_comm 256 (256 ^ l.length)]
      omega
  simp only [unbe, List.foldl_cons]
  rw [h]
  simp
theorem unbe_lt (l : Bs) : unbe l < 256 ^ l.length := by
  induction l with
  | nil => simp [unbe]
  | cons b l ih =>
    rw [unbe_cons, List.length_cons, Nat.pow_succ]
    have := UInt8.toNat_lt b
    have h : (b.toNat + 1) * 256 ^ l.length ≤ 256 * 256 ^ l.length := Nat.mul_le_mul_right _ (by omega)
    rw [Nat.add_mul, Nat.one_mul] at h
    omega

theorem ev_chain (kt : KT P g K) {tK k : Nat} {kind : IntKind} (hkind : uk kind) (hK : P.underlying tK = some (.int kind)) {I : World → Prop} {o len c : Nat} {src : Bs} (hI : ∀ w, I w → OctAt w S o src) (hlen : len = src.length) (hk : k ≤ src.length) (hb : 8 * k ≤ kind.bits) :
    ∀ (m j n : Nat) (a : Act) (K' : Act → Prop), m + j = k → 1 ≤ j → 12 ≤ n → n + 6 * m ≤ a.tmps.size → a.get 1 = .slice (some ⟨S, o, none⟩) len c → a.get (n - 1) = .int kind ((unbe ((src.take k).drop (k - j)) : Nat) : Int) →
      (∀ a', a'.tmps.size = a.tmps.size → a'.defers = a.defers → a'.get (n + 6 * m - 1) = .int kind ((unbe (src.take k) : Nat) : Int) → K' a') → evF P I (beChain K tK k m j n) a K'
  | 0, j, n, a, K', hm, hj, hn, hs, h1, hacc, h => by
    have : j = k := by omega
    subst this
    exact h a rfl rfl (by simpa using hacc)
  | m + 1, j, n, a, K', hm, hj, hn, hs, h1, hacc, h => by
    refine evF_append I _ _ a K' ?_
    have hjk : k - 1 - j < src.length := by omega
    obtain ⟨b, hbb⟩ : ∃ b, src[k - 1 - j]? = some b := ⟨src[k - 1 - j], by simp [hjk]⟩
    have hb256 := UInt8.toNat_lt b
    have hwb : IntKind.wrap kind (b.toNat : Int) = b.toNat := uk_wrap hkind (by rcases hkind with rfl | rfl | rfl <;> simp [IntKind.bits] <;> omega)
    have hdrop : (src.take k).drop (k - (j + 1)) = b :: (src.take k).drop (k - j) := by
      have e : k - (j + 1) = k - 1 - j := by omega
      have hl : k - 1 - j < (src.take k).length := by simp; omega
      rw [e, List.drop_eq_getElem_cons hl]
      congr 1
      · have := (List.getElem?_eq_some_iff.1 hbb).2
        simpa using this
      · congr 1
        omega
    have hlen2 : ((src.take k).drop (k - j)).length = j := by simp; omega
    have hacclt : unbe ((src.take k).drop (k - j)) < 2 ^ (8 * j) := by
      have := unbe_lt ((src.take k).drop (k - j))
      rw [hlen2] at this
      have e : (256 : Nat) ^ j = 2 ^ (8 * j) := by rw [Nat.pow_mul]
      omega
    unfold beStep
    refine ev_move ?_
    rw [eval_tm, h1]
    refine ev_index (i := k - 1 - j) (k := .i64) (sz := 1) (by rw [eval_tm, get_put _ _ _ (by omega)]) rfl (by omega) kt.sl (fun w => kt.u8.size w) ?_
    refine ev_load1 (v := .int .u8 (b.toNat : Int)) (by rw [eval_tm, get_put _ _ _ (by simp only [put_size]; omega)]) (fun w => kt.u8.agg w) (fun w hw => by rw [Nat.mul_one]; exact hI w hw _ b hbb) ?_
    refine ev_conv (k := .u8) (k' := kind) (m := (b.toNat : Int)) (by rw [eval_tm, get_put _ _ _ (by simp only [put_size]; omega)]) kt.dU8 hK ?_
    rw [hwb]
    refine ev_bin (k := kind) (k2 := .u64) (m := (b.toNat : Int)) (m2 := ((8 * j : Nat) : Int)) (by rw [eval_tm, get_put _ _ _ (by simp only [put_size]; omega)]) rfl (fun w => run_shl hkind hb256 (by omega) w) ?_
    refine ev_bin (k := kind) (k2 := kind) (by rw [eval_tm, get_put_ne _ _ _ _ (by omega), get_put_ne _ _ _ _ (by omega), get_put_ne _ _ _ _ (by omega), get_put_ne _ _ _ _ (by omega), get_put_ne _ _ _ _ (by omega)]; exact hacc) (by rw [eval_tm, get_put _ _ _ (by simp only [put_size]; omega)])
      (fun w => run_or hkind hacclt hb256 (by omega) w) ?_
    show evF P I (beChain K tK k m (j + 1) (n + 6)) _ K'
    refine ev_chain (c := c) kt hkind hK hI hlen hk hb m (j + 1) (n + 6) _ K' (by omega) (by omega) (by omega) (by simp only [put_size]; omega) ?_ ?_ fun a' hs' hd' hg' => h a' (by rw [hs']; simp only [put_size]) (by rw [hd']; simp only [put_defers]) (by rw [show n + 6 * (m + 1) - 1 = n + 6 + 6 * m - 1 by omega]; exact hg')
    · rw [get_put_ne _ _ _ _ (by omega), get_put_ne _ _ _ _ (by omega), get_put_ne _ _ _ _ (by omega), get_put_ne _ _ _ _ (by omega), get_put_ne _ _ _ _ (by omega), get_put_ne _ _ _ _ (by omega)]; exact h1
    · rw [show n + 6 - 1 = n + 5 by omega, get_put _ _ _ (by simp only [put_size]; omega), hdrop, unbe_cons, hlen2]
      have e : (256 : Nat) ^ j = 2 ^ (8 * j) := by rw [Nat.pow_mul]
      rw [e]

/-- the value of a text of octets is found behind these operations -/
theorem ev_free (kt : KT P g K) {tK k : Nat} {kind : IntKind} (hkind : uk kind) (hK : P.underlying tK = some (.int kind)) {I : World → Prop} {o len c : Nat} {src : Bs} (hI : ∀ w, I w → OctAt w S o src) (hlen : len = src.length) (hk : k ≤ src.length) (hk0 : 0 < k) (hb : 8 * k ≤ kind.bits)
    {K' : Act → Prop} (hs : 12 + 6 * (k - 1) ≤ a.tmps.size) (h1 : a.get 1 = .slice (some ⟨S, o, none⟩) len c)
    (h : ∀ a', a'.tmps.size = a.tmps.size → a'.defers = a.defers → a'.get (12 + 6 * (k - 1) - 1) = .int kind ((unbe (src.take k) : Nat) : Int) → K' a') : evF P I (beFree K tK k) a K' := by
  refine evF_append I _ _ a K' ?_
  have hjk : k - 1 < src.length := by omega
  obtain ⟨b, hbb⟩ : ∃ b, src[k - 1]? = some b := ⟨src[k - 1], by simp [hjk]⟩
  have hb256 := UInt8.toNat_lt b
  have hwb : IntKind.wrap kind (b.toNat : Int) = b.toNat := uk_wrap hkind (by rcases hkind with rfl | rfl | rfl <;> simp [IntKind.bits] <;> omega)
  have hdrop : (src.take k).drop (k - 1) = [b] := by
    have hl : k - 1 < (src.take k).length := by simp; omega
    rw [List.drop_eq_getElem_cons hl]
    congr 1
    · have := (List.getElem?_eq_some_iff.1 hbb).2
      simpa using this
    · apply List.drop_eq_nil_of_le
      simp
      omega
  refine ev_move ?_
  rw [eval_tm, h1]
  refine ev_index (i := k - 1) (k := .i64) (sz := 1) (by rw [eval_tm, get_put _ _ _ (by omega)]) rfl (by omega) kt.sl (fun w => kt.u8.size w) ?_
  refine ev_load1 (v := .int .u8 (b.toNat : Int)) (by rw [eval_tm, get_put _ _ _ (by simp only [put_size]; omega)]) (fun w => kt.u8.agg w) (fun w hw => by rw [Nat.mul_one]; exact hI w hw _ b hbb) ?_
  refine ev_conv (k := .u8) (k' := kind) (m := (b.toNat : Int)) (by rw [eval_tm, get_put _ _ _ (by simp only [put_size]; omega)]) kt.dU8 hK ?_
  rw [hwb]
  show evF P I (beChain K tK k (k - 1) 1 12) _ K'
  refine ev_chain (c := c) kt hkind hK hI hlen hk hb (k - 1) 1 12 _ K' (by omega) (by omega) (by omega) (by simp only [put_size]; omega) ?_ ?_ fun a' hs' hd' hg' => h a' (by rw [hs']; simp only [put_size]) (by rw [hd']; simp only [put_defers]) hg'
  · rw [get_put_ne _ _ _ _ (by omega), get_put_ne _ _ _ _ (by omega), get_put_ne _ _ _ _ (by omega), get_put_ne _ _ _ _ (by omega)]; exact h1
  · rw [show 12 - 1 = 11 from rfl, get_put _ _ _ (by simp only [put_size]; omega), hdrop]
    simp [unbe]

theorem big_calls (kt : KT P g K) {f ntmps tK k : Nat} {kind : IntKind} (hfn : FnIs P f ntmps [4] (gBig K tK kind k)) (hnt : 12 + 6 * (k - 1) ≤ ntmps) (hkind : uk kind) (hK : P.underlying tK = some (.int kind)) (hk0 : 0 < k) (hb : 8 * k ≤ kind.bits) (_hbe : VarIs P K.tBE true 0)
    (hloud : ∃ fl, loudOf (beFree K tK k ++ [mk (some 4) (.assign (tm (12 + 6 * (k - 1) - 1)))]) = fl ∧ freesOf (beFree K tK k ++ [mk (some 4) (.assign (tm (12 + 6 * (k - 1) - 1)))]) fl = beFree K tK k ∧ loudsOf (beFree K tK k ++ [mk (some 4) (.assign (tm (12 + 6 * (k - 1) - 1)))]) fl = [mk (some 4) (.assign (tm (12 + 6 * (k - 1) - 1)))])
    {v : Value} (hsrc : SrcAt w S v r) (hlen : k ≤ r.src.length) : Calls P f #[.agg #[], v] w fun e w' => e = .returned (.int kind ((unbe (r.src.take k) : Nat) : Int)) ∧ Keeps (fun _ => False) w w' := by
  obtain ⟨o, c, hv, hnl, hlc, hcm, hSl, hoct⟩ : ∃ o c, v = .slice (some ⟨S, o, none⟩) r.src.length c ∧ r.nl = false ∧ r.src.length ≤ c ∧ c ≤ maxLen ∧ S < w.heap.size ∧ OctAt w S o r.src := by
    rcases hsrc with ⟨_, h2, _⟩ | h
    · rw [h2] at hlen; simp at hlen; omega
    · exact h
  subst hv
  refine hfn.calls kt.mixed (by simp) ?_
  have hsz := size_args #[.agg #[], .slice (some ⟨S, o, none⟩) r.src.length c] ntmps (by show 2 ≤ ntmps; omega)
  have hg0 : ({ tmps := #[.agg #[], .slice (some ⟨S, o, none⟩) r.src.length c] ++ Array.replicate (ntmps - (#[Value.agg #[], .slice (some ⟨S, o, none⟩) r.src.length c] : Array Value).size) undef, defers := [] } : Act).get 0 = .agg #[] := by rw [get_args _ _ _ (by simp)]; rfl
  have hg1 : ({ tmps := #[.agg #[], .slice (some ⟨S, o, none⟩) r.src.length c] ++ Array.replicate (ntmps - (#[Value.agg #[], .slice (some ⟨S, o, none⟩) r.src.length c] : Array Value).size) undef, defers := [] } : Act).get 1 = .slice (some ⟨S, o, none⟩) r.src.length c := by rw [get_args _ _ _ (by simp)]; rfl
  have hd0 : ({ tmps := #[.agg #[], .slice (some ⟨S, o, none⟩) r.src.length c] ++ Array.replicate (ntmps - (#[Value.agg #[], .slice (some ⟨S, o, none⟩) r.src.length c] : Array Value).size) undef, defers := [] } : Act).defers = [] := rfl
  have hsz' : ({ tmps := #[.agg #[], .slice (some ⟨S, o, none⟩) r.src.length c] ++ Array.replicate (ntmps - (#[Value.agg #[], .slice (some ⟨S, o, none⟩) r.src.length c] : Array Value).size) undef, defers := [] } : Act).tmps.size = ntmps := hsz
  generalize ({ tmps := #[.agg #[], .slice (some ⟨S, o, none⟩) r.src.length c] ++ Array.replicate (ntmps - (#[Value.agg #[], .slice (some ⟨S, o, none⟩) r.src.length c] : Array Value).size) undef, defers := [] } : Act) = a at hg0 hg1 hd0 hsz' ⊢
  have hki : k - 1 < r.src.length := by omega
  obtain ⟨b, hbb⟩ : ∃ b, r.src[k - 1]? = some b := ⟨r.src[k - 1], by simp [hki]⟩
  unfold gBig
  refine nwp_sq_cons (nwp_rg ?_)
  refine wl_value (v := .pointer (some ⟨w.heap.size, 0, none⟩)) (w' := w.alloc (.cells #[] K.tBE (0, 0))) ?_ (wl_assign (wpList_nil ?_))
  · have : a.eval (tm 0) = .agg #[] := hg0
    simp [execOp, mk, this, Instr.box, newVar, newRow, newObj, Sem.run, Value.cells]
  have hk1 : Keeps (fun _ => False) w (w.alloc (.cells #[] K.tBE (0, 0))) := Keeps.alloc _ _ _
  have hs1 : ((a.put (some 2) (.pointer (some ⟨w.heap.size, 0, none⟩))).put (some 4) ((a.put (some 2) (.pointer (some ⟨w.heap.size, 0, none⟩))).eval (ki kind 0))).tmps.size = ntmps := by simp only [put_size]; exact hsz'
  have hg11 : ((a.put (some 2) (.pointer (some ⟨w.heap.size, 0, none⟩))).put (some 4) ((a.put (some 2) (.pointer (some ⟨w.heap.size, 0, none⟩))).eval (ki kind 0))).get 1 = .slice (some ⟨S, o, none⟩) r.src.length c := by rw [get_put_ne _ _ _ _ (by omega), get_put_ne _ _ _ _ (by omega)]; exact hg1
  have hd1 : ((a.put (some 2) (.pointer (some ⟨w.heap.size, 0, none⟩))).put (some 4) ((a.put (some 2) (.pointer (some ⟨w.heap.size, 0, none⟩))).eval (ki kind 0))).defers = [] := by simp only [put_defers]; exact hd0
  generalize ((a.put (some 2) (.pointer (some ⟨w.heap.size, 0, none⟩))).put (some 4) ((a.put (some 2) (.pointer (some ⟨w.heap.size, 0, none⟩))).eval (ki kind 0))) = a1 at hs1 hg11 hd1 ⊢
  have hoct1 : OctAt (w.alloc (.cells #[] K.tBE (0, 0))) S o r.src := hoct.keep hk1 id
  generalize w.alloc (.cells #[] K.tBE (0, 0)) = w1 at hk1 hoct1 ⊢
  refine nwp_sq_cons (nwp_rg (wl_move ?_))
  rw [eval_tm, hg11]
  refine wl_indexAddr (i := k - 1) (k := .i64) (sz := 1) (by rw [eval_tm, get_put _ _ _ (by omega)]) rfl (by omega) kt.sl (kt.u8.size _) ?_
  refine wl_load1 (v := .int .u8 (b.toNat : Int)) (by rw [eval_tm, get_put _ _ _ (by simp only [put_size]; omega)]) (kt.u8.agg _) (by rw [Nat.mul_one]; exact hoct1 _ b hbb) (wpList_nil ?_)
  have hs2 : (((a1.put (some 5) (.slice (some ⟨S, o, none⟩) r.src.length c)).put (some 6) (.pointer (some ⟨S, o + (k - 1) * 1, none⟩))).put (some 7) (.int .u8 (b.toNat : Int))).tmps.size = ntmps := by simp only [put_size]; exact hs1
  have hg2 : (((a1.put (some 5) (.slice (some ⟨S, o, none⟩) r.src.length c)).put (some 6) (.pointer (some ⟨S, o + (k - 1) * 1, none⟩))).put (some 7) (.int .u8 (b.toNat : Int))).get 1 = .slice (some ⟨S, o, none⟩) r.src.length c := by rw [get_put_ne _ _ _ _ (by omega), get_put_ne _ _ _ _ (by omega), get_put_ne _ _ _ _ (by omega)]; exact hg11
  have hd2 : (((a1.put (some 5) (.slice (some ⟨S, o, none⟩) r.src.length c)).put (some 6) (.pointer (some ⟨S, o + (k - 1) * 1, none⟩))).put (some 7) (.int .u8 (b.toNat : Int))).defers = [] := by simp only [put_defers]; exact hd1
  generalize (((a1.put (some 5) (.slice (some ⟨S, o, none⟩) r.src.length c)).put (some 6) (.pointer (some ⟨S, o + (k - 1) * 1, none⟩))).put (some 7) (.int .u8 (b.toNat : Int))) = a2 at hs2 hg2 hd2 ⊢
  obtain ⟨fl, hl1, hl2, hl3⟩ := hloud
  refine nwp_sq_cons (.drw (fun w' => OctAt w' S o r.src) ?_)
  rw [hl1, hl2, hl3]
  refine ev_free (c := c) kt hkind hK (fun _ h => h) rfl hlen hk0 hb (by rw [hs2]; exact hnt) hg2 fun a3 hs3 hd3 hg3 => ?_
  have hkd : Keeps (fun _ => False) w1 w1.drew := Keeps.drew _ _
  have hod : OctAt w1.drew S o r.src := hoct1.keep hkd id
  refine ⟨hod, ?_⟩
  have hr : (execOp a3.eval (mk (some 4) (.assign (tm (12 + 6 * (k - 1) - 1))))).run P w1.drew = .ok (.value (a3.eval (tm (12 + 6 * (k - 1) - 1)))) w1.drew := rfl
  unfold Oper.wp
  rw [hr]
  refine ⟨hod, .ret ⟨?_, ?_, hk1.trans hkd⟩⟩
  · show (a3.put (some 4) _).defers = []
    rw [put_defers, hd3]; exact hd2
  · show Ending.returned (retOf [4] (a3.put (some 4) (a3.eval (tm (12 + 6 * (k - 1) - 1))))) = _
    simp only [retOf]
    rw [get_put _ _ _ (by omega), eval_tm, hg3]

end
end Go.Proofs.YtmkioomgfdpeiacDoor.Kx

/-
  KBIN, 3: the reader's functions for numbers of fixed width.
-/
namespace Go.Proofs.YtmkioomgfdpeiacDoor.Kx
open Go

def gSkel (K : Kn) (z : Value) (k : Nat) (Rd F : GC) : Code := (gS [gSet 2 z, kLenLt K k (kFail K z) gSkip, Rd, kAdv K k, F, gCode .ret] 4).1
/-- the first octet -/
def kByte (K : Kn) : GC := gOps 6 fun n => kSrc K 0 n ++ [mk (some (n + 4)) (.indexAddr K.tSl (tm (n + 3)) (ki .i64 0)), mk (some (n + 5)) (.load K.tU8 (tm (n + 4))), mk (some 3) (.assign (tm (n + 5)))]
/-- is it more than 0 -/
def kByteB (K : Kn) : GC := gOps 7 fun n => kSrc K 0 n ++ [mk (some (n + 4)) (.indexAddr K.tSl (tm (n + 3)) (ki .i64 0)), mk (some (n + 5)) (.load K.tU8 (tm (n + 4))), mk (some (n + 6)) (.binOp .neq K.tU8 (tm (n + 5)) (ki .u8 0) 0), mk (some 3) (.assign (tm (n + 6)))]
def kBigOps (K : Kn) (f : Nat) (conv : Option (Nat × Nat)) (n : Nat) : List Oper :=
  mk (some n) (.load K.tBE (.global K.gBE)) :: (kSrc K 0 (n + 1) ++ (cl (some (n + 5)) f [tm n, tm (n + 4)] ::
    (match conv with | some (A, B) => [mk (some (n + 6)) (.convert A B (tm (n + 5))), mk (some 3) (.assign (tm (n + 6)))] | none => [mk (some 3) (.assign (tm (n + 5)))])))
def kBig (K : Kn) (f : Nat) (conv : Option (Nat × Nat)) : GC := fun n => (.region 1 (kBigOps K f conv n).toArray true, n + (match conv with | some _ => 7 | none => 6))
def kConv (A B : Nat) : GC := gOps 2 fun n => [mk (some n) (.move (tm 3)), mk (some (n + 1)) (.convert A B (tm n)), mk (some 2) (.assign (tm (n + 1)))]

section
variable {P : Program} {g : G} {K : Kn} {T S R : Nat} {r : RS} {x n : Nat} {KK : Act → World → Prop} {Q : Exit → Act → World → Prop} {a : Act} {w : World}

/-- reading k octets: what is told where there are too few, and else -/
def FixPost (T S R k : Nat) (r : RS) (w : World) (z fv : Value) (e : Ending) (w' : World) : Prop :=
  (if r.src.length < k then e = .returned z ∧ RdS w' T S R .fail else e = .returned fv ∧ RdS w' T S R ⟨r.src.drop k, r.bad, r.nl⟩) ∧ Keeps (· = R) w w'

theorem k_skel (kt : KT P g K) {f ntmps kr k : Nat} {z rv fv : Value} {Rd F : GC} (hfn : FnIs P f ntmps [2] (gSkel K z k Rd F)) (hRn : (Rd 16).2 = 16 + kr) (hnt : 16 + kr + 8 ≤ ntmps) (hR : RdS w T S R r) (hRS : S ≠ R)
    (hRd : k ≤ r.src.length → ∀ (v : Value) (a : Act) (K' : Act → World → Prop) (Q' : Exit → Act → World → Prop), RdC w T S R v r → a.get 0 = pt R 0 → a.tmps.size = ntmps → (∀ a' w', Pv 3 0 0 16 a a' → a'.get 3 = rv → Keeps (fun _ => False) w w' → K' a' w') → NWP P (Rd 16).1 (Exit.then K' Q') a w)
    (hF : k ≤ r.src.length → ∀ (a : Act) (w' : World) (K' : Act → World → Prop) (Q' : Exit → Act → World → Prop), a.get 3 = rv → a.tmps.size = ntmps → (∀ a', a'.defers = a.defers → a'.get 2 = fv → K' a' w') → NWP P (F (16 + kr + 8)).1 (Exit.then K' Q') a w') :
    Calls P f #[pt R 0] w (FixPost T S R k r w z fv) := by
  refine hfn.calls kt.mixed (by simp) ?_
  have hsz := size_args #[pt R 0] ntmps (by show 1 ≤ ntmps; omega)
  have hg0 : ({ tmps := #[pt R 0] ++ Array.replicate (ntmps - (#[pt R 0] : Array Value).size) undef, defers := [] } : Act).get 0 = pt R 0 := by rw [get_args _ _ _ (by simp)]; rfl
  have hd0 : ({ tmps := #[pt R 0] ++ Array.replicate (ntmps - (#[pt R 0] : Array Value).size) undef, defers := [] } : Act).defers = [] := rfl
  have hsz' : ({ tmps := #[pt R 0] ++ Array.replicate (ntmps - (#[pt R 0] : Array Value).size) undef, defers := [] } : Act).tmps.size = ntmps := hsz
  generalize ({ tmps := #[pt R 0] ++ Array.replicate (ntmps - (#[pt R 0] : Array Value).size) undef, defers := [] } : Act) = a at hg0 hd0 hsz' ⊢
  obtain ⟨v, hv⟩ := hR
  refine nwp_gS (LW_cons (s_set (x := 2) (m := 0) (k0 := 0) (.inl rfl) (by omega) fun a1 hp1 hg1 => ?_))
  have hs1 := hp1.size
  have hg01 : a1.get 0 = pt R 0 := (hp1.get 0 (by omega) (.inr ⟨by omega, by omega⟩)).trans hg0
  rw [show (gSet 2 z 4).2 = 4 from rfl]
  refine LW_cons ?_
  rw [then_rt]
  refine k_lenLt kt hg01 hv (by omega) fun a2 hp2 => ?_
  have hs2 := hp2.size
  have hg02 : a2.get 0 = pt R 0 := (hp2.get 0 (by omega) (.inr ⟨by omega, by omega⟩)).trans hg01
  by_cases hlt : r.src.length < k
  · rw [if_pos hlt]
    refine k_fail kt hg02 hv hRS (by omega) (by omega) fun a3 w3 hd3 hg3 hrd3 hk3 => ⟨by rw [hd3, hp2.defers, hp1.defers]; exact hd0, ?_⟩
    refine ⟨?_, hk3⟩
    rw [if_pos hlt]
    exact ⟨by simp only [retOf]; rw [hg3], hrd3⟩
  · rw [if_neg hlt]
    have hk : k ≤ r.src.length := by omega
    refine .skip ?_
    show LW P [Rd, kAdv K k, F, gCode .ret] 16 _ a2 w
    refine LW_cons (hRd hk v a2 _ _ hv hg02 (by omega) fun a3 w3 hp3 hg3 hk3 => ?_)
    have hs3 := hp3.size
    rw [hRn]
    have hv3 : RdC w3 T S R v r := by
      have hRl : R < w.heap.size := (Array.getElem?_eq_some_iff.1 hv.1).1
      exact ⟨by rw [hk3.block R hRl id]; exact hv.1, hv.2.keep hk3 id⟩
    have hg03 : a3.get 0 = pt R 0 := (hp3.get 0 (by omega) (.inr ⟨by omega, by omega⟩)).trans hg02
    refine LW_cons (k_adv kt hg03 hv3 hk hRS (by omega) (by omega) fun a4 hp4 hrd4 => ?_)
    have hs4 := hp4.size
    rw [show (kAdv K k (16 + kr)).2 = 16 + kr + 8 from rfl]
    refine LW_cons (hF hk a4 _ _ _ ((hp4.get 3 (by omega) (.inr ⟨by omega, by omega⟩)).trans hg3) (by omega) fun a5 hd5 hg5 => LW_cons (.ret ?_))
    refine ⟨by rw [hd5, hp4.defers, hp3.defers, hp2.defers, hp1.defers]; exact hd0, ?_, (hk3.mono fun _ _ h => h.elim).trans (Keeps.setRow (fun k => k = R) _ _ _ rfl)⟩
    rw [if_neg hlt]
    exact ⟨by simp only [retOf]; rw [hg5], hrd4⟩

theorem src_take {v : Value} (h : SrcAt w S v r) (hk : 0 < r.src.length) : ∃ o c, v = .slice (some ⟨S, o, none⟩) r.src.length c ∧ OctAt w S o r.src := by
  rcases h with ⟨_, h2, _⟩ | ⟨o, c, h1, _, _, _, _, h6⟩
  · rw [h2] at hk; simp at hk
  · exact ⟨o, c, h1, h6⟩

theorem k_byte (kt : KT P g K) {_ntmps : Nat} {b : UInt8} {t : Bs} (hb : r.src = b :: t) {v : Value} (hv : RdC w T S R v r) (h0 : a.get 0 = pt R 0) (hn : n + 6 ≤ a.tmps.size) (h3n : 3 < n)
    (h : ∀ a', Pv 3 0 0 n a a' → a'.get 3 = .int .u8 (b.toNat : Int) → KK a' w) : NWP P (kByte K n).1 (Exit.then KK Q) a w := by
  obtain ⟨o, c, rfl, hoct⟩ := src_take hv.2 (by rw [hb]; simp)
  refine nwp_rg (wl_src kt h0 hv (by omega) fun a1 hp1 hg1 => ?_)
  have hs1 := hp1.size
  refine wl_indexAddr (i := 0) (k := .i64) (sz := 1) (by rw [eval_tm, hg1]) rfl (by rw [hb]; simp) kt.sl (kt.u8.size _) ?_
  refine wl_load1 (v := .int .u8 (b.toNat : Int)) (by rw [eval_tm, get_put _ _ _ (by omega)]) (kt.u8.agg _) (by have := hoct 0 b (by rw [hb]; rfl); simpa using this) (wl_assign (wpList_nil ?_))
  rw [eval_tm, get_put _ _ _ (by simp only [put_size]; omega)]
  have hp : Pv 3 0 0 n a a1 := ⟨hp1.size, hp1.defers, fun s hs hh => hp1.get s (by omega) (.inr ⟨by omega, by omega⟩)⟩
  exact h _ (((hp.put _ (by omega)).put _ (by omega)).put _ (by omega)) (get_put _ _ _ (by simp only [put_size]; omega))

theorem k_byteB (kt : KT P g K) {b : UInt8} {t : Bs} (hb : r.src = b :: t) {v : Value} (hv : RdC w T S R v r) (h0 : a.get 0 = pt R 0) (hn : n + 7 ≤ a.tmps.size) (h3n : 3 < n)
    (h : ∀ a', Pv 3 0 0 n a a' → a'.get 3 = .bool (decide ((b.toNat : Int) ≠ 0)) → KK a' w) : NWP P (kByteB K n).1 (Exit.then KK Q) a w := by
  obtain ⟨o, c, rfl, hoct⟩ := src_take hv.2 (by rw [hb]; simp)
  refine nwp_rg (wl_src kt h0 hv (by omega) fun a1 hp1 hg1 => ?_)
  have hs1 := hp1.size
  refine wl_indexAddr (i := 0) (k := .i64) (sz := 1) (by rw [eval_tm, hg1]) rfl (by rw [hb]; simp) kt.sl (kt.u8.size _) ?_
  refine wl_load1 (v := .int .u8 (b.toNat : Int)) (by rw [eval_tm, get_put _ _ _ (by omega)]) (kt.u8.agg _) (by have := hoct 0 b (by rw [hb]; rfl); simpa using this) ?_
  refine wl_cmp (b := decide ((b.toNat : Int) ≠ 0)) (p := (b.toNat : Int)) (q := 0) (k := .u8) (by rw [eval_tm, get_put _ _ _ (by simp only [put_size]; omega)]) rfl (.inr (.inr (.inr (.inr (.inr ⟨rfl, rfl⟩))))) (wl_assign (wpList_nil ?_))
  rw [eval_tm, get_put _ _ _ (by simp only [put_size]; omega)]
  have hp : Pv 3 0 0 n a a1 := ⟨hp1.size, hp1.defers, fun s hs hh => hp1.get s (by omega) (.inr ⟨by omega, by omega⟩)⟩
  exact h _ ((((hp.put _ (by omega)).put _ (by omega)).put _ (by omega)).put _ (by omega)) (get_put _ _ _ (by simp only [put_size]; omega))

theorem k_conv {A B : Nat} {k k' : IntKind} {m : Int} (hA : P.underlying A = some (.int k)) (hB : P.underlying B = some (.int k')) (h3 : a.get 3 = .int k m) (hn : n + 2 ≤ a.tmps.size) (h2n : 2 < n) (h : ∀ a', a'.defers = a.defers → a'.get 2 = .int k' (k'.wrap m) → KK a' w) : NWP P (kConv A B n).1 (Exit.then KK Q) a w := by
  refine nwp_rg (wl_move ?_)
  rw [eval_tm, h3]
  refine wl_convInt (by rw [eval_tm, get_put _ _ _ (by omega)]) hA hB (wl_assign (wpList_nil ?_))
  rw [eval_tm, get_put _ _ _ (by simp only [put_size]; omega)]
  exact h _ (by simp only [put_defers]) (get_put _ _ _ (by simp only [put_size]; omega))

theorem ev_src (kt : KT P g K) {I : World → Prop} {s : Nat} {v : Value} {l : List Oper} {K' : Act → Prop} (hs : a.get s = pt R 0) (hI : ∀ w, I w → w.cell? ⟨R, 0, none⟩ = some v) (hn : n + 4 ≤ a.tmps.size) (h : ∀ a', Pv n 0 0 n a a' → a'.get (n + 3) = v → evF P I l a' K') : evF P I (kSrc K s n ++ l) a K' := by
  show evF P I (mk (some n) (.move (tm s)) :: mk (some (n + 1)) (.nilCheck (tm n)) :: mk (some (n + 2)) (.fieldAddr K.tRS (tm (n + 1)) 0) :: mk (some (n + 3)) (.load K.tSl (tm (n + 2))) :: l) a K'
  refine ev_move ?_
  rw [eval_tm, hs]
  refine ev_nilCheck (by rw [eval_tm, get_put _ _ _ (by omega)]; rfl) ?_
  refine ev_fld (by rw [eval_tm, get_put _ _ _ (by simp only [put_size]; omega)]) kt.f0 ?_
  refine ev_load1 (by rw [eval_tm, get_put _ _ _ (by simp only [put_size]; omega)]) kt.f0.var.agg hI ?_
  exact h _ (((((Pv.refl _ _ _ _ _).put _ (by omega)).put _ (by omega)).put _ (by omega)).put _ (by omega)) (get_put _ _ _ (by simp only [put_size]; omega))

/-- a call of one of bigEndian's functions -/
theorem k_big (kt : KT P g K) {f k : Nat} {kind : IntKind} {conv : Option (Nat × Nat)} {rv : Value} {v : Value} (hbe : VarIs P K.tBE true 0) (hfE : Ent P f) (hf : ∀ w' : World, SrcAt w' S v r → Calls P f #[.agg #[], v] w' fun e w'' => e = .returned (.int kind ((unbe (r.src.take k) : Nat) : Int)) ∧ Keeps (fun _ => False) w' w'')
    (hconv : match conv with
      | some (A, B) => ∃ k', P.underlying A = some (.int kind) ∧ P.underlying B = some (.int k') ∧ rv = .int k' (k'.wrap ((unbe (r.src.take k) : Nat) : Int))
      | none => rv = .int kind ((unbe (r.src.take k) : Nat) : Int))
    (hv : RdC w T S R v r) (h0 : a.get 0 = pt R 0) (hn : 16 + 7 ≤ a.tmps.size)
    (h : ∀ a' w', Pv 3 0 0 16 a a' → a'.get 3 = rv → Keeps (fun _ => False) w w' → KK a' w') : NWP P (kBig K f conv 16).1 (Exit.then KK Q) a w := by
  have hfree : ∃ fl, loudOf (kBigOps K f conv 16) = fl ∧ freesOf (kBigOps K f conv 16) fl = mk (some 16) (.load K.tBE (.global K.gBE)) :: (kSrc K 0 17 ++ []) ∧ loudsOf (kBigOps K f conv 16) fl = cl (some 21) f [tm 16, tm 20] ::
      (match conv with | some (A, B) => [mk (some 22) (.convert A B (tm 21)), mk (some 3) (.assign (tm 22))] | none => [mk (some 3) (.assign (tm 21))]) := by
    cases conv with
    | none => exact ⟨[false, false, false, false, false, true, true], rfl, rfl, rfl⟩
    | some q => exact ⟨[false, false, false, false, false, true, true, true], rfl, rfl, rfl⟩
  obtain ⟨fl, h1, h2, h3⟩ := hfree
  have hcell : w.cell? ⟨R, 0, none⟩ = some v := by simp [World.cell?, hv.1]
  refine .drw (fun w' => w'.cell? ⟨R, 0, none⟩ = some v) ?_
  rw [h1, h2, h3]
  refine ⟨.agg #[], fun w' _ => ?_, ?_⟩
  · have he : a.eval (.global K.gBE) = .pointer (some ⟨K.gBE, 0, none⟩) := rfl
    have hl := run_loadCells_list (P := P) w' ⟨K.gBE, 0, none⟩ [] (fun j v hj => by simp at hj)
    simp only [List.length_nil] at hl
    simp [execOp, mk, he, Instr.loadAt, Instr.sureAddr, loadVar, hbe.agg, hbe.size, hl]
  · show evF P _ (kSrc K 0 17 ++ []) (a.put (some 16) (.agg #[])) _
    have hp0 : Pv 3 0 0 16 a (a.put (some 16) (.agg #[])) := (Pv.refl _ _ _ _ _).put _ (by omega)
    refine ev_src kt (v := v) (by rw [get_put_ne _ _ _ _ (by omega)]; exact h0) (fun _ h => h) (by simp only [put_size]; omega) fun a1 hp1 hg1 => ?_
    have hs1 := hp1.size
    rw [put_size] at hs1
    have hg16 : a1.get 16 = .agg #[] := by rw [hp1.get 16 (by omega) (.inr ⟨by omega, by omega⟩), get_put _ _ _ (by omega)]
    have hp01 : Pv 3 0 0 16 a a1 := hp0.trans ⟨hp1.size, hp1.defers, fun s hs hh => hp1.get s (by omega) (.inr ⟨by omega, by omega⟩)⟩
    have hkd : Keeps (fun _ => False) w w.drew := Keeps.drew _ _
    refine ⟨hkd.cell id hcell, ?_⟩
    refine wp_callK (vs := #[.agg #[], v]) rfl hfE (by simp [eval_tm, hg16, hg1]) (hf w.drew (hv.2.keep hkd id)) fun e w2 hR => ?_
    obtain ⟨he, hk2⟩ := hR
    have hk02 : Keeps (fun _ => False) w w2 := hkd.trans hk2
    refine ⟨_, he, ?_⟩
    cases conv with
    | none =>
      subst hconv
      refine ⟨hk02.cell id hcell, ?_⟩
      have hr : (execOp (a1.put (some 21) (.int kind ((unbe (r.src.take k) : Nat) : Int))).eval (mk (some 3) (.assign (tm 21)))).run P w2 = .ok (.value ((a1.put (some 21) (.int kind ((unbe (r.src.take k) : Nat) : Int))).eval (tm 21))) w2 := rfl
      unfold Oper.wp
      rw [hr]
      refine ⟨hk02.cell id hcell, h _ w2 ((hp01.put _ (by omega)).put _ (by omega)) ?_ hk02⟩
      show ((a1.put (some 21) _).put (some 3) _).get 3 = _
      rw [get_put _ _ _ (by simp only [put_size]; omega), eval_tm, get_put _ _ _ (by omega)]
    | some q =>
      obtain ⟨A, B⟩ := q
      obtain ⟨k', hA, hB, rfl⟩ := hconv
      refine ⟨hk02.cell id hcell, ?_⟩
      have e21 : (a1.put (some 21) (.int kind ((unbe (r.src.take k) : Nat) : Int))).eval (tm 21) = .int kind ((unbe (r.src.take k) : Nat) : Int) := by rw [eval_tm, get_put _ _ _ (by omega)]
      have hr : (execOp (a1.put (some 21) (.int kind ((unbe (r.src.take k) : Nat) : Int))).eval (mk (some 22) (.convert A B (tm 21)))).run P w2 = .ok (.value (.int k' (k'.wrap ((unbe (r.src.take k) : Nat) : Int)))) w2 := by
        simp [execOp, mk, e21, convert, run_underlying hA, run_underlying hB, Conv.intToInt]
      unfold Oper.wp
      rw [hr]
      refine ⟨hk02.cell id hcell, ?_⟩
      have hr2 : (execOp ((a1.put (some 21) (.int kind ((unbe (r.src.take k) : Nat) : Int))).put (some 22) (.int k' (k'.wrap ((unbe (r.src.take k) : Nat) : Int)))).eval (mk (some 3) (.assign (tm 22)))).run P w2 = .ok (.value (((a1.put (some 21) (.int kind ((unbe (r.src.take k) : Nat) : Int))).put (some 22) (.int k' (k'.wrap ((unbe (r.src.take k) : Nat) : Int)))).eval (tm 22))) w2 := rfl
      unfold Oper.wp
      show Oper.upon P _ _ _ _ _
      rw [show (mk (some 22) (Op.convert A B (tm 21))).dst = some 22 from rfl, hr2]
      refine ⟨hk02.cell id hcell, h _ w2 (((hp01.put _ (by omega)).put _ (by omega)).put _ (by omega)) ?_ hk02⟩
      show (((a1.put (some 21) _).put (some 22) _).put (some 3) _).get 3 = _
      rw [get_put _ _ _ (by simp only [put_size]; omega), eval_tm, get_put _ _ _ (by simp only [put_size]; omega)]

end
end Go.Proofs.YtmkioomgfdpeiacDoor.Kx

/-
  KBIN, 4: Bool, Int8, Int16, Uint16, Int32, Int64 of the reader; Ok, Complete.
-/
namespace Go.Proofs.YtmkioomgfdpeiacDoor.Kx
open Go

/-- what is asked of a function that reads one value -/
def RdOk (P : Program) (T : Nat) (p : PF) (f : Nat) : Prop :=
  Ent P f ∧ ∀ (w : World) (S R : Nat) (r : RS), RdS w T S R r → S ≠ R → Calls P f #[pt R 0] w fun e w' =>
    ∃ v, e = .returned v ∧ RdS w' T S R (p.run r).2 ∧ Keeps (· = R) w w' ∧ ∀ X : Nat → Prop, (∀ k, X k → k < w.heap.size) → ¬ X S → LRp w' X (pfTy p) v.cells.toList (p.run r).1

theorem wrap_sgn {k : IntKind} (hk : k = .i8 ∨ k = .i16 ∨ k = .i32 ∨ k = .i64) {m : Nat} (h : m < 2 ^ k.bits) : k.wrap (m : Int) = sgn k.bits m := by
  rcases hk with rfl | rfl | rfl | rfl
  · simp only [IntKind.bits] at h
    by_cases h2 : m < 128
    · have e : ¬ ((m : Int) % 256 ≥ 128) := by omega
      simp [IntKind.wrap, IntKind.bits, IntKind.signed, sgn, h2]
      omega
    · simp [IntKind.wrap, IntKind.bits, IntKind.signed, sgn, h2]
      omega
  · simp only [IntKind.bits] at h
    by_cases h2 : m < 32768
    · have e : ¬ ((m : Int) % 65536 ≥ 32768) := by omega
      simp [IntKind.wrap, IntKind.bits, IntKind.signed, sgn, h2]
      omega
    · simp [IntKind.wrap, IntKind.bits, IntKind.signed, sgn, h2]
      omega
  · simp only [IntKind.bits] at h
    by_cases h2 : m < 2147483648
    · have e : ¬ ((m : Int) % 4294967296 ≥ 2147483648) := by omega
      simp [IntKind.wrap, IntKind.bits, IntKind.signed, sgn, h2]
      omega
    · simp [IntKind.wrap, IntKind.bits, IntKind.signed, sgn, h2]
      omega
  · simp only [IntKind.bits] at h
    by_cases h2 : m < 9223372036854775808
    · have e : ¬ ((m : Int) % 18446744073709551616 ≥ 9223372036854775808) := by omega
      simp [IntKind.wrap, IntKind.bits, IntKind.signed, sgn, h2]
      omega
    · simp [IntKind.wrap, IntKind.bits, IntKind.signed, sgn, h2]
      omega

section
variable {P : Program} {g : G} {K : Kn} {T : Nat}

/-- the printed code of the reader's functions for numbers -/
def cI8 (K : Kn) : Code := gSkel K (.int .i8 0) 1 (kByte K) (kConv K.tU8 K.tI8)
def cBool (K : Kn) : Code := gSkel K (.bool false) 1 (kByteB K) (gMove 3 2)
def cI16 (K : Kn) : Code := gSkel K (.int .i16 0) 2 (kBig K K.fU16 (some (K.tU16, K.tI16))) (gMove 3 2)
def cU16 (K : Kn) : Code := gSkel K (.int .u16 0) 2 (kBig K K.fU16 none) (gMove 3 2)
def cI32 (K : Kn) : Code := gSkel K (.int .i32 0) 4 (kBig K K.fU32 (some (K.tU32, K.tI32))) (gMove 3 2)
def cR64 (K : Kn) : Code := gSkel K (.int .u64 0) 8 (kBig K K.fU64 none) (gMove 3 2)
def cI64 (K : Kn) : Code := (gS [gSet 2 (.int .i64 0), gOps 3 fun n => [mk (some n) (.move (tm 0)), cl (some (n + 1)) K.fR64 [tm n], mk (some (n + 2)) (.convert K.tU64 K.tI64 (tm (n + 1))), mk (some 2) (.assign (tm (n + 2)))], gCode .ret] 3).1

theorem k_move {rv : Value} {a : Act} {w : World} {n : Nat} {KK : Act → World → Prop} {Q : Exit → Act → World → Prop} (h3 : a.get 3 = rv) (hn : n + 1 ≤ a.tmps.size) (h2n : 2 < n) (h : ∀ a', a'.defers = a.defers → a'.get 2 = rv → KK a' w) : NWP P (gMove 3 2 n).1 (Exit.then KK Q) a w :=
  s_move (x := 2) (m := 0) (k0 := 0) (.inl rfl) (Nat.le_refl _) (by omega) (by omega) (by omega) fun a' hp hg => h a' hp.defers (hg.trans h3)

theorem rI_short {k : Nat} {r : RS} (h : r.src.length < k) : rI k r = (sgn (8 * k) 0, .fail) := by simp [rI, rU, h]
theorem rI_long {k : Nat} {r : RS} (h : k ≤ r.src.length) : rI k r = (sgn (8 * k) (unbe (r.src.take k)), ⟨r.src.drop k, r.bad, r.nl⟩) := by
  have : ¬ r.src.length < k := by omega
  simp [rI, rU, this]
theorem unbe_take_lt {k : Nat} {l : Bs} (h : k ≤ l.length) : unbe (l.take k) < 256 ^ k := by
  have := unbe_lt (l.take k)
  rwa [List.length_take, Nat.min_eq_left h] at this

theorem rdOk_int {p : Prim} {k : Nat} {kind : IntKind} (hp : (p = .i8 ∧ k = 1) ∨ (p = .i16 ∧ k = 2) ∨ (p = .i32 ∧ k = 4) ∨ (p = .i64 ∧ k = 8)) (hkind : p.kind = kind) {w w' : World} {S R : Nat} {r : RS} {e : Ending}
    (h : FixPost T S R k r w (.int kind 0) (.int kind (kind.wrap ((unbe (r.src.take k) : Nat) : Int))) e w') :
    e = .returned (.int kind (rI k r).1) ∧ RdS w' T S R (rI k r).2 ∧ Keeps (· = R) w w' ∧ ∀ X : Nat → Prop, LRp w' X (.prim p) (Value.int kind (rI k r).1).cells.toList (.n (rI k r).1) := by
  obtain ⟨h1, h2⟩ := h
  have hb : kind.bits = 8 * k ∧ (kind = .i8 ∨ kind = .i16 ∨ kind = .i32 ∨ kind = .i64) := by
    rcases hp with ⟨rfl, rfl⟩ | ⟨rfl, rfl⟩ | ⟨rfl, rfl⟩ | ⟨rfl, rfl⟩ <;> subst hkind <;> simp [Prim.kind, IntKind.bits]
  have hfit : ∀ m : Nat, m < 256 ^ k → p.fits (sgn (8 * k) m) := by
    intro m hm
    rcases hp with ⟨rfl, rfl⟩ | ⟨rfl, rfl⟩ | ⟨rfl, rfl⟩ | ⟨rfl, rfl⟩ <;> simp [Prim.fits, sgn] at hm ⊢ <;> split <;> omega
  have hkinds : ∀ x : Int, p.fits x → ∀ X : Nat → Prop, LRp w' X (.prim p) (Value.int kind x).cells.toList (.n x) := by
    intro x hx X
    rcases hp with ⟨rfl, rfl⟩ | ⟨rfl, rfl⟩ | ⟨rfl, rfl⟩ | ⟨rfl, rfl⟩ <;> subst hkind <;> exact ⟨x, rfl, rfl, hx⟩
  by_cases hlt : r.src.length < k
  · rw [if_pos hlt] at h1
    rw [rI_short hlt]
    have h0 : sgn (8 * k) 0 = 0 := by
      rcases hp with ⟨_, rfl⟩ | ⟨_, rfl⟩ | ⟨_, rfl⟩ | ⟨_, rfl⟩ <;> simp [sgn]
    refine ⟨by rw [h0]; exact h1.1, h1.2, h2, fun X => hkinds _ (hfit 0 (by
      rcases hp with ⟨_, rfl⟩ | ⟨_, rfl⟩ | ⟨_, rfl⟩ | ⟨_, rfl⟩ <;> simp)) X⟩
  · rw [if_neg hlt] at h1
    have hk : k ≤ r.src.length := by omega
    have hm := unbe_take_lt hk
    rw [rI_long hk]
    have hw : kind.wrap ((unbe (r.src.take k) : Nat) : Int) = sgn (8 * k) (unbe (r.src.take k)) := by
      rw [wrap_sgn hb.2 (by rw [hb.1, Nat.pow_mul]; exact hm), hb.1]
    rw [hw] at h1
    exact ⟨h1.1, h1.2, h2, fun X => hkinds _ (hfit _ hm) X⟩

theorem uncons1 {l : Bs} (h : 1 ≤ l.length) : ∃ b t, l = b :: t := by
  cases l with
  | nil => simp at h
  | cons b t => exact ⟨b, t, rfl⟩

theorem i8_calls (kt : KT P g K) (h8k : hasF K.tI8 = true) {f ntmps : Nat} (hfn : FnIs P f ntmps [2] (cI8 K)) (hnt : 32 ≤ ntmps) {w : World} {S R : Nat} {r : RS} (hR : RdS w T S R r) (hRS : S ≠ R) :
    Calls P f #[pt R 0] w (FixPost T S R 1 r w (.int .i8 0) (.int .i8 (IntKind.wrap .i8 ((unbe (r.src.take 1) : Nat) : Int)))) := by
  refine k_skel kt (kr := 6) (rv := .int .u8 ((unbe (r.src.take 1) : Nat) : Int)) hfn rfl (by omega) hR hRS (fun hk v a K' Q' hv h0 hs h => ?_) (fun hk a w' K' Q' h3 hs h => ?_)
  · obtain ⟨b, t, hb⟩ := uncons1 hk
    refine k_byte (_ntmps := ntmps) kt hb hv h0 (by omega) (by omega) fun a' hp hg => h a' w hp ?_ (Keeps.refl _ _)
    rw [hg, hb]
    simp [unbe]
  · exact k_conv kt.dU8 (kt.dI8 h8k) h3 (by omega) (by omega) h

theorem rdOk_i8 (kt : KT P g K) (h8k : hasF K.tI8 = true) {f ntmps : Nat} (hfn : FnIs P f ntmps [2] (cI8 K)) (hnt : 32 ≤ ntmps) : RdOk P T .i8 f :=
  ⟨hfn.ent, fun w S R r hR hRS => (i8_calls kt h8k hfn hnt hR hRS).mono fun e w' h => by
    obtain ⟨h1, h2, h3, h4⟩ := rdOk_int (p := .i8) (.inl ⟨rfl, rfl⟩) rfl h
    exact ⟨_, h1, h2, h3, fun X _ _ => h4 X⟩⟩

theorem rdOk_bool (kt : KT P g K) {f ntmps : Nat} (hfn : FnIs P f ntmps [2] (cBool K)) (hnt : 32 ≤ ntmps) : RdOk P T .bool f := by
  refine ⟨hfn.ent, fun w S R r hR hRS => ?_⟩
  have hc := k_skel (T := T) kt (kr := 7) (k := 1) (z := .bool false) (rv := .bool (decide ((unbe (r.src.take 1) : Int) ≠ 0))) (fv := .bool (decide ((unbe (r.src.take 1) : Int) ≠ 0))) hfn rfl (by omega) hR hRS (fun hk v a K' Q' hv h0 hs h => ?_) (fun hk a w' K' Q' h3 hs h => ?_)
  · refine hc.mono fun e w' h => ?_
    obtain ⟨h1, h2⟩ := h
    by_cases hlt : r.src.length < 1
    · rw [if_pos hlt] at h1
      have hn : r.src = [] := by cases hh : r.src with | nil => rfl | cons b t => rw [hh] at hlt; simp at hlt
      have hrun : PF.run .bool r = (.n 0, .fail) := by simp [PF.run, rBool, hn]
      rw [hrun]
      exact ⟨_, h1.1, h1.2, h2, fun X _ _ => ⟨false, rfl, rfl⟩⟩
    · rw [if_neg hlt] at h1
      obtain ⟨b, t, hb⟩ := uncons1 (show 1 ≤ r.src.length by omega)
      have hu : unbe (r.src.take 1) = b.toNat := by rw [hb]; simp [unbe]
      have hrun : PF.run .bool r = (.n (if b.toNat = 0 then 0 else 1), ⟨r.src.drop 1, r.bad, r.nl⟩) := by simp [PF.run, rBool, hb]
      rw [hrun]
      refine ⟨_, h1.1, h1.2, h2, fun X _ _ => ⟨_, rfl, ?_⟩⟩
      rw [hu]
      by_cases h0 : b.toNat = 0 <;> simp [h0]
  · obtain ⟨b, t, hb⟩ := uncons1 hk
    refine k_byteB kt hb hv h0 (by omega) (by omega) fun a' hp hg => h a' w hp ?_ (Keeps.refl _ _)
    rw [hg, hb]
    simp [unbe]
  · exact k_move h3 (by omega) (by omega) h

end
end Go.Proofs.YtmkioomgfdpeiacDoor.Kx
