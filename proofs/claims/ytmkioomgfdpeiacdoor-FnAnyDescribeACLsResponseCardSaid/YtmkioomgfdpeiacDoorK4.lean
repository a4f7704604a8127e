/-
  PLAIN LAWS AND CONTRACTS of messages, part 4 of 5: how readers and writers are printed, what they do, and that what is read is written as the same. Nothing of a statement stands here.
-/
import Derived.Test.YtmkioomgfdpeiacDoorK3

/-
  WRITING, 4: numbers in groups of seven bits.
-/
namespace Go.Proofs.YtmkioomgfdpeiacDoor.Kx
open Go

def blen : Nat → Nat → Nat
  | 0, _ => 0
  | f + 1, x => if x = 0 then 0 else blen f (x / 2) + 1
/-- math/bits' table, and kbin's -/
def len8 : List UInt8 := (List.range 256).map fun i => UInt8.ofNat (blen 9 i)
def uvT (n : Nat) : UInt8 := UInt8.ofNat (if n = 0 then 1 else if n ≤ 64 then (n + 6) / 7 else 0)
def uvTab : List UInt8 := (List.range 256).map uvT
def strV (l : List UInt8) : Value := .string ⟨l.toArray⟩

/-- bits.Len32 -/
def cLen32 (K : Kn) (tU : Nat) : Code := (gS [gSet 2 (.int .i64 0),
  gIf 1 2 (fun n => [mk (some n) (.move (tm 0)), mk (some (n + 1)) (.binOp .geq tU (tm n) (ki .u32 65536) 0)])
    (gS [gOps 2 fun n => [mk (some n) (.move (tm 0)), mk (some (n + 1)) (.binOp .shr tU (tm n) (ki .u64 16) 0), mk (some 0) (.assign (tm (n + 1)))], gSet 2 (.int .i64 16)]) gSkip,
  gIf 1 2 (fun n => [mk (some n) (.move (tm 0)), mk (some (n + 1)) (.binOp .geq tU (tm n) (ki .u32 256) 0)])
    (gS [gOps 2 fun n => [mk (some n) (.move (tm 0)), mk (some (n + 1)) (.binOp .shr tU (tm n) (ki .u64 8) 0), mk (some 0) (.assign (tm (n + 1)))],
      gOps 2 fun n => [mk (some n) (.move (tm 2)), mk (some (n + 1)) (.binOp .add K.tInt (tm n) (ki .i64 8) 0), mk (some 2) (.assign (tm (n + 1)))]]) gSkip,
  gOps 6 fun n => [mk (some n) (.move (tm 2)), mk (some (n + 1)) (.move (tm 0)), mk (some (n + 2)) (.convert tU K.tU8 (tm (n + 1))), mk (some (n + 3)) (.index K.tStr (.const (strV len8)) (tm (n + 2))), mk (some (n + 4)) (.convert K.tU8 K.tInt (tm (n + 3))),
    mk (some (n + 5)) (.binOp .add K.tInt (tm n) (tm (n + 4)) 0), mk (some 2) (.assign (tm (n + 5)))], gCode .ret] 3).1
/-- UvarintLen -/
def cUvLen (K : Kn) (f : Nat) : Code := (gS [gSet 2 (.int .i64 0), gOps 5 fun n => [mk (some n) (.move (tm 0)), cl (some (n + 1)) f [tm n], mk (some (n + 2)) (.convert K.tInt K.tU8 (tm (n + 1))), mk (some (n + 3)) (.index K.tStr (.const (strV uvTab)) (tm (n + 2))),
  mk (some (n + 4)) (.convert K.tU8 K.tInt (tm (n + 3))), mk (some 2) (.assign (tm (n + 4)))], gCode .ret] 3).1
def uvEs : List (Nat × List OE) := [(5, [(none, true), (some 7, true), (some 14, true), (some 21, true), (some 28, false)]), (4, [(none, true), (some 7, true), (some 14, true), (some 21, false)]), (3, [(none, true), (some 7, true), (some 14, false)]), (2, [(none, true), (some 7, false)]), (1, [(none, false)])]
def uvCases (K : Kn) : List (Nat × List OE) → Nat → Code × Nat
  | [], n => (.skip, n)
  | (j, es) :: r, n => (.seq (rg [mk (some (n + 1)) (.binOp .eql K.tInt (tm 6) (ki .i64 j) 0), mk (some n) (.assign (tm (n + 1)))]) (.cond (tm n) (gAppO K K.tU32 .u32 es (n + 2)).1 (uvCases K r (gAppO K K.tU32 .u32 es (n + 2)).2).1), (uvCases K r (gAppO K K.tU32 .u32 es (n + 2)).2).2)
/-- AppendUvarint -/
def cAUv (K : Kn) (f : Nat) : Code := rd4 5 [gS [gOps 2 fun n => [mk (some n) (.move (tm 1)), cl (some (n + 1)) f [tm n]], fun n => (.block 0 (uvCases K uvEs n).1, (uvCases K uvEs n).2)],
  gOps 1 fun n => [mk (some n) (.move (tm 0)), mk (some 4) (.assign (tm n))], gCode .ret]

/-- how many octets -/
def uvLen (x : Nat) : Nat := if x < 128 then 1 else if x < 16384 then 2 else if x < 2097152 then 3 else if x < 268435456 then 4 else 5
/-- how many bits: as the code reckons it -/
def l32a (x : Nat) : Nat × Nat := if 65536 ≤ x then (x / 65536, 16) else (x, 0)
def l32b (p : Nat × Nat) : Nat × Nat := if 256 ≤ p.1 then (p.1 / 256, p.2 + 8) else p
def l32 (x : Nat) : Nat := (l32b (l32a x)).2 + (len8.getD (l32b (l32a x)).1 0).toNat

theorem len8_ok : ∀ y, y < 256 → (len8.getD y 0).toNat ≤ 8 ∧ y < 2 ^ (len8.getD y 0).toNat ∧ ((len8.getD y 0).toNat = 0 ∨ 2 ^ ((len8.getD y 0).toNat - 1) ≤ y) := by decide +kernel
theorem uvT_small : ∀ n, n < 33 → (uvTab.getD n 0).toNat = if n = 0 then 1 else (n + 6) / 7 := by decide +kernel

theorem uv_l32 {x : Nat} (h : x < 4294967296) : l32 x < 33 ∧ (uvTab.getD (l32 x) 0).toNat = uvLen x := by
  have hb : (l32b (l32a x)).1 < 256 := by
    simp only [l32b, l32a]; split <;> split <;> simp <;> omega
  obtain ⟨h1, h2, h3⟩ := len8_ok _ hb
  have hx : l32 x < 33 := by
    simp only [l32]
    have : (l32b (l32a x)).2 ≤ 24 := by simp only [l32b, l32a]; split <;> split <;> simp
    omega
  refine ⟨hx, ?_⟩
  rw [uvT_small _ hx]
  generalize ht : (len8.getD (l32b (l32a x)).1 0).toNat = t at h1 h2 h3
  have hl : l32 x = (l32b (l32a x)).2 + t := by simp only [l32, ht]
  rw [hl]
  clear hl hx ht
  simp only [l32b, l32a, uvLen] at *
  by_cases c1 : 65536 ≤ x
  · simp only [if_pos c1] at *
    by_cases c2 : 256 ≤ x / 65536
    · simp only [if_pos c2] at *
      rcases (show t = 0 ∨ t = 1 ∨ t = 2 ∨ t = 3 ∨ t = 4 ∨ t = 5 ∨ t = 6 ∨ t = 7 ∨ t = 8 by omega) with rfl | rfl | rfl | rfl | rfl | rfl | rfl | rfl | rfl <;> simp at h2 h3 ⊢ <;> (repeat' split) <;> omega
    · simp only [if_neg c2] at *
      rcases (show t = 0 ∨ t = 1 ∨ t = 2 ∨ t = 3 ∨ t = 4 ∨ t = 5 ∨ t = 6 ∨ t = 7 ∨ t = 8 by omega) with rfl | rfl | rfl | rfl | rfl | rfl | rfl | rfl | rfl <;> simp at h2 h3 ⊢ <;> (repeat' split) <;> omega
  · simp only [if_neg c1] at *
    by_cases c2 : 256 ≤ x
    · simp only [if_pos c2] at *
      rcases (show t = 0 ∨ t = 1 ∨ t = 2 ∨ t = 3 ∨ t = 4 ∨ t = 5 ∨ t = 6 ∨ t = 7 ∨ t = 8 by omega) with rfl | rfl | rfl | rfl | rfl | rfl | rfl | rfl | rfl <;> simp at h2 h3 ⊢ <;> (repeat' split) <;> omega
    · simp only [if_neg c2] at *
      rcases (show t = 0 ∨ t = 1 ∨ t = 2 ∨ t = 3 ∨ t = 4 ∨ t = 5 ∨ t = 6 ∨ t = 7 ∨ t = 8 by omega) with rfl | rfl | rfl | rfl | rfl | rfl | rfl | rfl | rfl <;> simp at h2 h3 ⊢ <;> (repeat' split) <;> omega

/-- the octets of a number in groups are those of its case -/
theorem uvar_es {x : Nat} (h : x < 4294967296) : ∃ es, uvEs.lookup (uvLen x) = some es ∧ oesVal es x = uvar x := by
  have d : ∀ (a b : Nat), ((x : Int) / (2 : Int) ^ a) = ((x / 2 ^ a : Nat) : Int) := fun a _ => by push_cast; rfl
  simp only [uvLen]
  by_cases c1 : x < 128
  · rw [if_pos c1]
    refine ⟨_, rfl, ?_⟩
    have e : ((x : Int) % 256).toNat = x := by omega
    simp [oesVal, oeVal, uvar, uvarAux, c1, e]
  rw [if_neg c1]
  by_cases c2 : x < 16384
  · rw [if_pos c2]
    refine ⟨_, rfl, ?_⟩
    have d1 : x / 128 < 128 := by omega
    have e0 : ((x : Int) % 128 + 128).toNat = x % 128 + 128 := by omega
    have e1 : ((x : Int) / 128 % 256).toNat = x / 128 := by omega
    simp [oesVal, oeVal, uvar, uvarAux, c1, d1, e0, e1]
  rw [if_neg c2]
  by_cases c3 : x < 2097152
  · rw [if_pos c3]
    refine ⟨_, rfl, ?_⟩
    have d1 : ¬ x / 128 < 128 := by omega
    have d2 : x / 128 / 128 < 128 := by omega
    have e0 : ((x : Int) % 128 + 128).toNat = x % 128 + 128 := by omega
    have e1 : ((x : Int) / 128 % 128 + 128).toNat = x / 128 % 128 + 128 := by omega
    have e2 : ((x : Int) / 16384 % 256).toNat = x / 128 / 128 := by omega
    simp [oesVal, oeVal, uvar, uvarAux, c1, d1, d2, e0, e1, e2]
  rw [if_neg c3]
  by_cases c4 : x < 268435456
  · rw [if_pos c4]
    refine ⟨_, rfl, ?_⟩
    have d1 : ¬ x / 128 < 128 := by omega
    have d2 : ¬ x / 128 / 128 < 128 := by omega
    have d3 : x / 128 / 128 / 128 < 128 := by omega
    have e0 : ((x : Int) % 128 + 128).toNat = x % 128 + 128 := by omega
    have e1 : ((x : Int) / 128 % 128 + 128).toNat = x / 128 % 128 + 128 := by omega
    have e2 : ((x : Int) / 16384 % 128 + 128).toNat = x / 128 / 128 % 128 + 128 := by omega
    have e3 : ((x : Int) / 2097152 % 256).toNat = x / 128 / 128 / 128 := by omega
    simp [oesVal, oeVal, uvar, uvarAux, c1, d1, d2, d3, e0, e1, e2, e3]
  rw [if_neg c4]
  refine ⟨_, rfl, ?_⟩
  have d1 : ¬ x / 128 < 128 := by omega
  have d2 : ¬ x / 128 / 128 < 128 := by omega
  have d3 : ¬ x / 128 / 128 / 128 < 128 := by omega
  have d4 : x / 128 / 128 / 128 / 128 < 128 := by omega
  have e0 : ((x : Int) % 128 + 128).toNat = x % 128 + 128 := by omega
  have e1 : ((x : Int) / 128 % 128 + 128).toNat = x / 128 % 128 + 128 := by omega
  have e2 : ((x : Int) / 16384 % 128 + 128).toNat = x / 128 / 128 % 128 + 128 := by omega
  have e3 : ((x : Int) / 2097152 % 128 + 128).toNat = x / 128 / 128 / 128 % 128 + 128 := by omega
  have e4 : ((x : Int) / 268435456 % 256).toNat = x / 128 / 128 / 128 / 128 := by omega
  simp [oesVal, oeVal, uvar, uvarAux, c1, d1, d2, d3, d4, e0, e1, e2, e3, e4]

end Go.Proofs.YtmkioomgfdpeiacDoor.Kx

/-
  WRITING, 5: AppendUvarint; the codes of kbin's other appending functions.
-/
namespace Go.Proofs.YtmkioomgfdpeiacDoor.Kx
open Go

/-! ## Codes -/
def gApB (K : Kn) (c : Int) (r : Nat) : List GC := [gOps 3 fun n => [mk (some n) (.move (tm 0)), mk (some (n + 1)) (.buildSlice K.tSl 1 #[(0, ki .u8 c)]), bi (some (n + 2)) .append [tm n, tm (n + 1)] [K.tSl, K.tSl] K.tSl, mk (some r) (.assign (tm (n + 2)))], gCode .ret]
def cABool (K : Kn) : Code := rd4 5 ([gIf 0 1 (fun n => [mk (some n) (.move (tm 1))]) (gS (gApB K 1 4)) gSkip] ++ gApB K 0 4)
def cAUuid (K : Kn) : Code := sq [rg [mk (some 3) (.box K.tUuid (tm 1)), mk (some 4) (.assign (.const nilS))],
  rg [mk (some 5) (.move (tm 0)), mk (some 6) (.slice K.tUuid (tm 3) none none none), bi (some 7) .append [tm 5, tm 6] [K.tSl, K.tSl] K.tSl, mk (some 4) (.assign (tm 7))], .ret]
def gApRest (K : Kn) (tX : Nat) : List GC := [gOps 3 fun n => [mk (some n) (.move (tm 0)), mk (some (n + 1)) (.move (tm 1)), bi (some (n + 2)) .append [tm n, tm (n + 1)] [K.tSl, tX] K.tSl, mk (some 4) (.assign (tm (n + 2)))], gCode .ret]
/-- AppendString, AppendBytes -/
def cAStr (K : Kn) (tX tI f : Nat) : Code := rd4 5 ((gOps 5 fun n => [mk (some n) (.move (tm 0)), mk (some (n + 1)) (.move (tm 1)), bi (some (n + 2)) .len [tm (n + 1)] [tX] K.tInt, mk (some (n + 3)) (.convert K.tInt tI (tm (n + 2))), cl (some (n + 4)) f [tm n, tm (n + 3)], mk (some 0) (.assign (tm (n + 4)))]) :: gApRest K tX)
def cACStr (K : Kn) (tX f : Nat) : Code := rd4 5 ((gOps 6 fun n => [mk (some n) (.move (tm 0)), mk (some (n + 1)) (.move (tm 1)), bi (some (n + 2)) .len [tm (n + 1)] [tX] K.tInt, mk (some (n + 3)) (.convert K.tInt K.tU32 (tm (n + 2))), mk (some (n + 4)) (.binOp .add K.tU32 (ki .u32 1) (tm (n + 3)) 0),
  cl (some (n + 5)) f [tm n, tm (n + 4)], mk (some 0) (.assign (tm (n + 5)))]) :: gApRest K tX)
def gNilIf (T : Nat) (z c : Value) (f : Nat) : GC := gIf 1 2 (fun n => [mk (some n) (.move (tm 1)), mk (some (n + 1)) (.binOp .eql T (tm n) (.const z) 0)])
  (gS [gOps 2 fun n => [mk (some n) (.move (tm 0)), cl (some (n + 1)) f [tm n, .const c], mk (some 4) (.assign (tm (n + 1)))], gCode .ret]) gSkip
/-- AppendNullableString, AppendCompactNullableString -/
def cANStr (K : Kn) (tP : Nat) (c : Value) (f f2 : Nat) : Code := rd4 5 [gNilIf tP (.pointer none) c f,
  gOps 5 fun n => [mk (some n) (.move (tm 0)), mk (some (n + 1)) (.move (tm 1)), mk (some (n + 2)) (.nilCheck (tm (n + 1))), mk (some (n + 3)) (.load K.tStr (tm (n + 2))), cl (some (n + 4)) f2 [tm n, tm (n + 3)], mk (some 4) (.assign (tm (n + 4)))], gCode .ret]
def cANBytes (K : Kn) (c : Value) (f f2 : Nat) : Code := rd4 5 [gNilIf K.tSl nilS c f,
  gOps 3 fun n => [mk (some n) (.move (tm 0)), mk (some (n + 1)) (.move (tm 1)), cl (some (n + 2)) f2 [tm n, tm (n + 1)], mk (some 4) (.assign (tm (n + 2)))], gCode .ret]
def gNilIf3 (c : Value) (f : Nat) : GC := gIf 0 1 (fun n => [mk (some n) (.move (tm 2))]) (gS [gOps 2 fun n => [mk (some n) (.move (tm 0)), cl (some (n + 1)) f [tm n, .const c], mk (some 6) (.assign (tm (n + 1)))], gCode .ret]) gSkip
/-- AppendNullableArrayLen, AppendCompactNullableArrayLen -/
def cANLen (K : Kn) (f : Nat) : Code := (gS [gSet 6 nilS, gNilIf3 (.int .i32 (-1)) f, gOps 4 fun n => [mk (some n) (.move (tm 0)), mk (some (n + 1)) (.move (tm 1)), mk (some (n + 2)) (.convert K.tInt K.tI32 (tm (n + 1))), cl (some (n + 3)) f [tm n, tm (n + 2)], mk (some 6) (.assign (tm (n + 3)))], gCode .ret] 7).1
def cACNLen (K : Kn) (f : Nat) : Code := (gS [gSet 6 nilS, gNilIf3 (.int .u32 0) f, gOps 5 fun n => [mk (some n) (.move (tm 0)), mk (some (n + 1)) (.move (tm 1)), mk (some (n + 2)) (.convert K.tInt K.tU32 (tm (n + 1))), mk (some (n + 3)) (.binOp .add K.tU32 (ki .u32 1) (tm (n + 2)) 0),
  cl (some (n + 4)) f [tm n, tm (n + 3)], mk (some 6) (.assign (tm (n + 4)))], gCode .ret] 7).1
/-- Tags.Len -/
def cTLen (K : Kn) (tTags tM : Nat) : Code := (gS [gSet 2 (.int .i64 0), gOps 5 fun n => [mk (some n) (.move (tm 0)), mk (some (n + 1)) (.nilCheck (tm n)), mk (some (n + 2)) (.fieldAddr tTags (tm (n + 1)) 0), mk (some (n + 3)) (.load tM (tm (n + 2))), bi (some (n + 4)) .len [tm (n + 3)] [tM] K.tInt, mk (some 2) (.assign (tm (n + 4)))], gCode .ret] 3).1

end Go.Proofs.YtmkioomgfdpeiacDoor.Kx

/-
  WRITING, 6: AppendUvarint, walked.
-/
namespace Go.Proofs.YtmkioomgfdpeiacDoor.Kx
open Go

section
variable {P : Program} {K : Kn}

theorem wl_shr {ops : Array Oper} {Q : Exit → Act → World → Prop} {r : List Oper} {a : Act} {w : World} {d : Option Nat} {T : Nat} {y : Operand} {k : IntKind} {x : Int} {s : Nat} (hy : a.eval y = .int k x) (hs : s ≤ k.bits)
    (h : wpList P ops Q r (a.put d (.int k (x / 2 ^ s))) w) : wpList P ops Q (mk d (.binOp .shr T y (ki .u64 s) 0) :: r) a w := by
  refine wl_value (w' := w) ?_ h
  have e2 : a.eval (ki .u64 s) = .int .u64 s := rfl
  have hrun := run_shr (P := P) (k := k) (A := T) (x := x) hs w
  simp [execOp, mk, hy, e2, eqGuard, hrun]

theorem wl_index {ops : Array Oper} {Q : Exit → Act → World → Prop} {r : List Oper} {a : Act} {w : World} {d : Option Nat} {T : Nat} {y : Operand} {l : List UInt8} {k : IntKind} {i : Nat} {b : UInt8} (hT : P.underlying T = some .string) (hy : a.eval y = .int k i) (hi : l[i]? = some b)
    (h : wpList P ops Q r (a.put d (.int .u8 (b.toNat : Int))) w) : wpList P ops Q (mk d (.index T (.const (strV l)) y) :: r) a w := by
  refine wl_value (w' := w) ?_ h
  have e2 : a.eval (.const (strV l)) = .string ⟨l.toArray⟩ := rfl
  have e3 : (⟨l.toArray⟩ : ByteArray)[i]? = some b := by
    have hlt : i < l.length := (List.getElem?_eq_some_iff.1 hi).1
    have hb := (List.getElem?_eq_some_iff.1 hi).2
    rw [getElem?_pos _ i (by simpa [ByteArray.size] using hlt)]
    congr 1
  simp [execOp, mk, hy, e2, Instr.index, asIntOf, run_underlying hT, e3]

theorem len8_get {y : Nat} (h : y < 256) : len8[y]? = some (len8.getD y 0) := by
  have hl : len8.length = 256 := by simp [len8]
  rw [List.getD_eq_getElem?_getD, List.getElem?_eq_getElem (by omega)]
  rfl
theorem uvTab_get {y : Nat} (h : y < 256) : uvTab[y]? = some (uvTab.getD y 0) := by
  have hl : uvTab.length = 256 := by simp [uvTab]
  rw [List.getD_eq_getElem?_getD, List.getElem?_eq_getElem (by omega)]
  rfl
theorem wrap_small {k : IntKind} {m : Nat} (h : m < 128) : k.wrap (m : Int) = m := by
  cases k <;> simp [IntKind.wrap, IntKind.bits, IntKind.signed] <;> omega
theorem wrap_u8 {m : Nat} (h : m < 256) : IntKind.u8.wrap (m : Int) = m := by
  simp [IntKind.wrap, IntKind.bits, IntKind.signed]; omega
theorem u8_i64 (b : UInt8) : IntKind.i64.wrap (b.toNat : Int) = (b.toNat : Int) := by
  have := b.toNat_lt
  simp [IntKind.wrap, IntKind.bits, IntKind.signed]; omega
theorem run_add {k : IntKind} {A : Nat} {x y : Int} (w : World) : (binOp .add A (.int k x) (.int k y)).run P w = .ok (.int k (k.wrap (x + y))) w := by simp [binOp, Op.intArith]

theorem len32_calls (wt : WT P K) {tU f ntmps : Nat} (hU : P.underlying tU = some (.int .u32)) (hfn : FnIs P f ntmps [2] (cLen32 K tU)) (hnt : 19 ≤ ntmps) {x : Nat} (hx : x < 4294967296) (w : World) :
    Calls P f #[.int .u32 x] w fun e w' => e = .returned (.int .i64 (l32 x : Nat)) ∧ Keeps (fun _ => False) w w' := by
  refine calls1 wt.mixed hfn (by omega) fun a h0 hs hd => ?_
  refine LW_cons (nwp_rg (wl_assign (wpList_nil ?_)))
  have g0 : (a.put (some 2) (.int .i64 0)).get 0 = .int .u32 x := by rw [get_put_ne _ _ _ _ (by omega)]; exact h0
  have g2 : (a.put (some 2) (.int .i64 0)).get 2 = .int .i64 0 := get_put _ _ _ (by omega)
  have gs : (a.put (some 2) (.int .i64 0)).tmps.size = ntmps := by rw [put_size]; exact hs
  have gd : (a.put (some 2) (.int .i64 0)).defers = [] := by rw [put_defers]; exact hd
  show LW P _ 3 _ (a.put (some 2) (.int .i64 0)) w
  generalize a.put (some 2) (.int .i64 0) = a at g0 g2 gs gd ⊢
  -- the first half
  have first : ∀ (l : List GC) (Q : Exit → Act → World → Prop), (∀ a', a'.get 0 = .int .u32 ((l32a x).1 : Nat) → a'.get 2 = .int .i64 ((l32a x).2 : Nat) → a'.tmps.size = ntmps → a'.defers = [] → LW P l 7 Q a' w) →
      LW P (gIf 1 2 (fun n => [mk (some n) (.move (tm 0)), mk (some (n + 1)) (.binOp .geq tU (tm n) (ki .u32 65536) 0)])
        (gS [gOps 2 fun n => [mk (some n) (.move (tm 0)), mk (some (n + 1)) (.binOp .shr tU (tm n) (ki .u64 16) 0), mk (some 0) (.assign (tm (n + 1)))], gSet 2 (.int .i64 16)]) gSkip :: l) 3 Q a w := by
    intro l Q h
    by_cases c : 65536 ≤ x
    · refine LW_cons (s_ifT (wl_move ?_))
      rw [eval_tm, g0]
      refine wl_cmp (b := true) (p := x) (q := 65536) (k := .u32) (by rw [eval_tm, get_put _ _ _ (by omega)]) rfl (.inl ⟨rfl, by simp; omega⟩) (wpList_nil ⟨by rw [eval_tm, get_put _ _ _ (by simp only [put_size]; omega)], ?_⟩)
      refine nwp_gS (LW_cons (nwp_rg (wl_move ?_)))
      rw [eval_tm, get_put_ne _ _ _ _ (by omega), get_put_ne _ _ _ _ (by omega), g0]
      refine wl_shr (k := .u32) (x := x) (s := 16) (by rw [eval_tm, get_put _ _ _ (by simp only [put_size]; omega)]) (by decide) (wl_assign (wpList_nil ?_))
      rw [eval_tm, get_put _ _ _ (by simp only [put_size]; omega)]
      refine LW_cons (nwp_rg (wl_assign (wpList_nil (LW_nil (h _ ?_ ?_ ?_ ?_)))))
      · rw [get_put_ne _ _ _ _ (by omega), get_put _ _ _ (by simp only [put_size]; omega)]
        simp only [l32a, if_pos c]
        simp
      · rw [get_put _ _ _ (by simp only [put_size]; omega)]
        simp only [l32a, if_pos c]
        rfl
      · simp only [put_size]; exact gs
      · simp only [put_defers]; exact gd
    · refine LW_cons (s_ifF (wl_move ?_))
      rw [eval_tm, g0]
      refine wl_cmp (b := false) (p := x) (q := 65536) (k := .u32) (by rw [eval_tm, get_put _ _ _ (by omega)]) rfl (.inl ⟨rfl, by simp; omega⟩) (wpList_nil ⟨by rw [eval_tm, get_put _ _ _ (by simp only [put_size]; omega)], .skip (h _ ?_ ?_ ?_ ?_)⟩)
      · rw [get_put_ne _ _ _ _ (by omega), get_put_ne _ _ _ _ (by omega), g0]
        simp only [l32a, if_neg c]
      · rw [get_put_ne _ _ _ _ (by omega), get_put_ne _ _ _ _ (by omega), g2]
        simp only [l32a, if_neg c]
        rfl
      · simp only [put_size]; exact gs
      · simp only [put_defers]; exact gd
  refine first _ _ fun a g0 g2 gs gd => ?_
  generalize hp : l32a x = p at g0 g2
  have hp1 : p.1 < 65536 := by rw [← hp]; simp only [l32a]; split <;> simp <;> omega
  have hp2 : p.2 ≤ 16 := by rw [← hp]; simp only [l32a]; split <;> simp
  have second : ∀ (l : List GC) (Q : Exit → Act → World → Prop), (∀ a', a'.get 0 = .int .u32 ((l32b p).1 : Nat) → a'.get 2 = .int .i64 ((l32b p).2 : Nat) → a'.tmps.size = ntmps → a'.defers = [] → LW P l 13 Q a' w) →
      LW P (gIf 1 2 (fun n => [mk (some n) (.move (tm 0)), mk (some (n + 1)) (.binOp .geq tU (tm n) (ki .u32 256) 0)])
        (gS [gOps 2 fun n => [mk (some n) (.move (tm 0)), mk (some (n + 1)) (.binOp .shr tU (tm n) (ki .u64 8) 0), mk (some 0) (.assign (tm (n + 1)))],
          gOps 2 fun n => [mk (some n) (.move (tm 2)), mk (some (n + 1)) (.binOp .add K.tInt (tm n) (ki .i64 8) 0), mk (some 2) (.assign (tm (n + 1)))]]) gSkip :: l) 7 Q a w := by
    intro l Q h
    by_cases c : 256 ≤ p.1
    · refine LW_cons (s_ifT (wl_move ?_))
      rw [eval_tm, g0]
      refine wl_cmp (b := true) (p := p.1) (q := 256) (k := .u32) (by rw [eval_tm, get_put _ _ _ (by omega)]) rfl (.inl ⟨rfl, by simp; omega⟩) (wpList_nil ⟨by rw [eval_tm, get_put _ _ _ (by simp only [put_size]; omega)], ?_⟩)
      refine nwp_gS (LW_cons (nwp_rg (wl_move ?_)))
      rw [eval_tm, get_put_ne _ _ _ _ (by omega), get_put_ne _ _ _ _ (by omega), g0]
      refine wl_shr (k := .u32) (x := p.1) (s := 8) (by rw [eval_tm, get_put _ _ _ (by simp only [put_size]; omega)]) (by decide) (wl_assign (wpList_nil ?_))
      rw [eval_tm, get_put _ _ _ (by simp only [put_size]; omega)]
      refine LW_cons (nwp_rg (wl_move ?_))
      rw [eval_tm, get_put_ne _ _ _ _ (by omega), get_put_ne _ _ _ _ (by first | omega | simp [gOps]), get_put_ne _ _ _ _ (by first | omega | simp [gOps]), get_put_ne _ _ _ _ (by omega), get_put_ne _ _ _ _ (by omega), g2]
      refine wl_bin (k := .i64) (m := p.2) (n := 8) (by rw [eval_tm, get_put _ _ _ (by simp only [put_size]; first | omega | (simp [gOps]; omega))]) rfl (by simp) (run_add w) (wl_assign (wpList_nil (LW_nil (h _ ?_ ?_ ?_ ?_))))
      · rw [get_put_ne _ _ _ _ (by omega), get_put_ne _ _ _ _ (by first | omega | simp [gOps]), get_put_ne _ _ _ _ (by first | omega | simp [gOps]), get_put _ _ _ (by simp only [put_size]; omega)]
        simp only [l32b, if_pos c]
        simp
      · rw [get_put _ _ _ (by simp only [put_size]; omega), eval_tm, get_put _ _ _ (by simp only [put_size]; first | omega | (simp [gOps]; omega))]
        simp only [l32b, if_pos c]
        have : ((p.2 : Int) + 8) = ((p.2 + 8 : Nat) : Int) := by omega
        rw [this, wrap_small (by omega)]
      · simp only [put_size]; exact gs
      · simp only [put_defers]; exact gd
    · refine LW_cons (s_ifF (wl_move ?_))
      rw [eval_tm, g0]
      refine wl_cmp (b := false) (p := p.1) (q := 256) (k := .u32) (by rw [eval_tm, get_put _ _ _ (by omega)]) rfl (.inl ⟨rfl, by simp; omega⟩) (wpList_nil ⟨by rw [eval_tm, get_put _ _ _ (by simp only [put_size]; omega)], .skip (h _ ?_ ?_ ?_ ?_)⟩)
      · rw [get_put_ne _ _ _ _ (by omega), get_put_ne _ _ _ _ (by omega), g0]
        simp only [l32b, if_neg c]
      · rw [get_put_ne _ _ _ _ (by omega), get_put_ne _ _ _ _ (by omega), g2]
        simp only [l32b, if_neg c]
      · simp only [put_size]; exact gs
      · simp only [put_defers]; exact gd
  refine second _ _ fun a g0 g2 gs gd => ?_
  have hq1 : (l32b p).1 < 256 := by simp only [l32b]; split <;> omega
  have hq2 : (l32b p).2 ≤ 24 := by simp only [l32b]; split <;> (try dsimp only) <;> omega
  have hlx : l32 x = (l32b p).2 + (len8.getD (l32b p).1 0).toNat := by simp only [l32, hp]
  have h8 := (len8_ok _ hq1).1
  rw [hlx]
  generalize l32b p = q at g0 g2 hq1 hq2 h8 ⊢
  refine LW_cons (nwp_rg (wl_move (wl_move ?_)))
  rw [eval_tm, g2, eval_tm, get_put_ne _ _ _ _ (by omega), g0]
  refine wl_convInt (k := .u32) (k' := .u8) (m := q.1) (by rw [eval_tm, get_put _ _ _ (by simp only [put_size]; omega)]) hU wt.dU8 ?_
  rw [wrap_u8 hq1]
  refine wl_index wt.dStr (by rw [eval_tm, get_put _ _ _ (by simp only [put_size]; omega)]) (len8_get hq1) ?_
  refine wl_convInt (k := .u8) (k' := .i64) (m := ((len8.getD q.1 0).toNat : Int)) (by rw [eval_tm, get_put _ _ _ (by simp only [put_size]; omega)]) wt.dU8 wt.dInt ?_
  rw [u8_i64]
  refine wl_bin (k := .i64) (m := q.2) (n := ((len8.getD q.1 0).toNat : Int)) ?_ ?_ (by simp) (run_add w) ?_
  · rw [eval_tm, get_put_ne _ _ _ _ (by omega), get_put_ne _ _ _ _ (by omega), get_put_ne _ _ _ _ (by omega), get_put_ne _ _ _ _ (by omega), get_put _ _ _ (by omega)]
  · rw [eval_tm, get_put _ _ _ (by simp only [put_size]; omega)]
  rw [show ((q.2 : Int) + ((len8.getD q.1 0).toNat : Int)) = ((q.2 + (len8.getD q.1 0).toNat : Nat) : Int) by omega, wrap_small (by omega)]
  refine wl_assign (wpList_nil (LW_cons (.ret ?_)))
  rw [eval_tm, get_put _ _ _ (by simp only [put_size]; omega)]
  exact ⟨by simp only [put_defers]; exact gd, by rw [get_put _ _ _ (by simp only [put_size]; omega)], Keeps.refl _ _⟩

/-- UvarintLen -/
theorem uvLen_calls (wt : WT P K) {tU f f2 ntmps nt2 : Nat} (hU : P.underlying tU = some (.int .u32)) (hfn2 : FnIs P f2 nt2 [2] (cLen32 K tU)) (hnt2 : 19 ≤ nt2) (hfn : FnIs P f ntmps [2] (cUvLen K f2)) (hnt : 8 ≤ ntmps) {x : Nat} (hx : x < 4294967296) (w : World) :
    Calls P f #[.int .u32 x] w fun e w' => e = .returned (.int .i64 (uvLen x : Nat)) ∧ Keeps (fun _ => False) w w' := by
  obtain ⟨hl, hu⟩ := uv_l32 hx
  refine calls1 wt.mixed hfn (by omega) fun a h0 hs hd => ?_
  refine LW_cons (nwp_rg (wl_assign (wpList_nil ?_)))
  show LW P _ 3 _ (a.put (some 2) (.int .i64 0)) w
  refine LW_cons (nwp_rg (wl_move ?_))
  rw [eval_tm, get_put_ne _ _ _ _ (by omega), h0]
  refine wl_call (vs := #[.int .u32 x]) hfn2.ent (by simp [eval_tm, get_put _ _ _ (show 3 < (a.put (some 2) (Value.int .i64 0)).tmps.size by rw [put_size]; omega)]) (len32_calls wt hU hfn2 hnt2 hx w) fun e w' hR => ⟨_, hR.1, ?_⟩
  refine wl_convInt (k := .i64) (k' := .u8) (m := (l32 x : Nat)) (by rw [eval_tm, get_put _ _ _ (by simp only [put_size]; omega)]) wt.dInt wt.dU8 ?_
  rw [wrap_u8 (by omega)]
  refine wl_index wt.dStr (by rw [eval_tm, get_put _ _ _ (by simp only [put_size]; omega)]) (uvTab_get (by omega)) ?_
  refine wl_convInt (k := .u8) (k' := .i64) (m := ((uvTab.getD (l32 x) 0).toNat : Int)) (by rw [eval_tm, get_put _ _ _ (by simp only [put_size]; omega)]) wt.dU8 wt.dInt ?_
  rw [u8_i64, hu]
  refine wl_assign (wpList_nil (LW_cons (.ret ?_)))
  rw [eval_tm, get_put _ _ _ (by simp only [put_size]; omega)]
  exact ⟨by simp only [put_defers]; exact hd, by rw [get_put _ _ _ (by simp only [put_size]; omega)], hR.2⟩

/-- the case of a length -/
theorem uv_cases (wt : WT P K) {j L : Nat} {x : Int} {d : Value} {bs : Bs} {w : World} {E N : Act → World → Prop} (hx0 : 0 ≤ x) (hx : x < 2 ^ IntKind.u32.bits) (hd : DstAt w L K.tU8 d bs) (hL : L ≤ w.heap.size) :
    ∀ (cs : List (Nat × List OE)) (es : List OE) (n : Nat) (a : Act), (∀ p ∈ cs, p.2 ≠ [] ∧ p.2.length ≤ 10 ∧ ∀ e ∈ p.2, ∀ s, e.1 = some s → s ≤ 32) → cs.lookup j = some es → bs.length + es.length ≤ LIM → 6 < n → (uvCases K cs n).2 ≤ a.tmps.size → a.get 0 = d → a.get 1 = .int .u32 x → a.get 6 = .int .i64 j →
      (∀ a' w' d', a'.defers = a.defers → a'.get 4 = d' → Gr L K.tU8 d w d' (bs ++ oesVal es x) w' → E a' w') → NWP P (uvCases K cs n).1 (Rt N E) a w
  | [], es, n, a, _, h, _, _, _, _, _, _, _ => by cases h
  | (i, es') :: cs, es, n, a, hok, h, hlim, hn, hs, h0, h1, h6, hE => by
    have hup : ∀ (cs : List (Nat × List OE)) (n : Nat), n ≤ (uvCases K cs n).2 := by
      intro cs
      induction cs with
      | nil => intro n; exact Nat.le_refl _
      | cons p cs ih => 
        intro n
        obtain ⟨i, es⟩ := p
        have := ih (gAppO K K.tU32 .u32 es (n + 2)).2
        have h2 : (gAppO K K.tU32 .u32 es (n + 2)).2 = n + 2 + (3 + oesLen es) := rfl
        simp only [uvCases]
        omega
    have hstep := hup cs (gAppO K K.tU32 .u32 es' (n + 2)).2
    have h2 : (gAppO K K.tU32 .u32 es' (n + 2)).2 = n + 2 + (3 + oesLen es') := rfl
    simp only [uvCases] at hs ⊢
    have hcmp : ∀ (b : Bool) (X : Act → World → Prop), b = decide ((j : Int) = (i : Int)) → (∀ a', Pv n 0 0 n a a' → a'.get n = .bool b → X a' w) → NWP P (rg [mk (some (n + 1)) (.binOp .eql K.tInt (tm 6) (ki .i64 i) 0), mk (some n) (.assign (tm (n + 1)))]) (Rt X E) a w := by
      intro b X hb hX
      refine .reg (wl_cmp (b := b) (p := j) (q := i) (k := .i64) (by rw [eval_tm]; exact h6) rfl (.inr (.inr (.inr (.inr (.inl ⟨rfl, hb⟩))))) (wl_assign (wpList_nil ?_)))
      rw [eval_tm, get_put _ _ _ (by omega)]
      exact hX _ (((Pv.refl _ _ _ _ _).put _ (.inr (by omega))).put _ (.inl rfl)) (get_put _ _ _ (by rw [put_size]; omega))
    by_cases hij : j = i
    · subst hij
      rw [List.lookup_cons_self] at h
      obtain rfl := Option.some.inj h
      refine .seq (hcmp true (fun a' w' => NWP P (.cond (tm n) (gAppO K K.tU32 .u32 es' (n + 2)).1 (uvCases K cs (gAppO K K.tU32 .u32 es' (n + 2)).2).1) (Rt N E) a' w') (by simp) fun a' hp hg => ?_) (fun a' w' hh => hh) (fun e a w he hq => by cases e <;> first | exact absurd rfl he | exact hq)
      have hsz := hp.size
      obtain ⟨o1, o2, o3⟩ := hok _ (List.mem_cons_self ..)
      refine .condT hg (s_appO wt.oct wt.dU32 wt.dU8 (by omega) (by rw [hp.get 0 (by omega) (by omega)]; exact h0) (by rw [hp.get 1 (by omega) (by omega)]; exact h1) (fun e he => .inr ⟨.inr (.inl rfl), hx0, hx, o3 e he⟩) o1 o2 (by omega) hd hL hlim fun a'' w' d' hd' h4 hg' => hE a'' w' d' (hd'.trans hp.defers) h4 hg')
    · rw [List.lookup_cons, show (j == i) = false by simpa using hij] at h
      refine .seq (hcmp false (fun a' w' => NWP P (.cond (tm n) (gAppO K K.tU32 .u32 es' (n + 2)).1 (uvCases K cs (gAppO K K.tU32 .u32 es' (n + 2)).2).1) (Rt N E) a' w') (by simp; omega) fun a' hp hg => ?_) (fun a' w' hh => hh) (fun e a w he hq => by cases e <;> first | exact absurd rfl he | exact hq)
      have hsz := hp.size
      exact .condF hg (uv_cases wt hx0 hx hd hL cs es _ a' (fun p hp => hok p (List.mem_cons_of_mem _ hp)) h hlim (by omega) (by omega) (by rw [hp.get 0 (by omega) (by omega)]; exact h0) (by rw [hp.get 1 (by omega) (by omega)]; exact h1) (by rw [hp.get 6 (by omega) (by omega)]; exact h6)
        fun a'' w' d' hd' h4 hg' => hE a'' w' d' (hd'.trans hp.defers) h4 hg')

theorem ap_uv (wt : WT P K) {tU f f1 f2 ntmps nt1 nt2 : Nat} (hU : P.underlying tU = some (.int .u32)) (hfn2 : FnIs P f2 nt2 [2] (cLen32 K tU)) (hnt2 : 19 ≤ nt2) (hfn1 : FnIs P f1 nt1 [2] (cUvLen K f2)) (hnt1 : 8 ≤ nt1) (hfn : FnIs P f ntmps [4] (cAUv K f1)) (hnt : 93 ≤ ntmps)
    {x : Nat} (hx : x < 4294967296) (w : World) : ApC P K.tU8 f (.int .u32 x) (uvar x) w := by
  intro L d bs hd hL hlim
  obtain ⟨es, hes, hval⟩ := uvar_es hx
  refine calls2s wt.mixed hfn (by omega) fun a h0 h1 hs hdf => ?_
  refine LW_cons (nwp_gS (LW_cons (nwp_rg (wl_move ?_))))
  rw [eval_tm, h1]
  refine wl_call (vs := #[.int .u32 x]) hfn1.ent (by simp [eval_tm, get_put _ _ _ (show 5 < a.tmps.size by omega)]) (uvLen_calls wt hU hfn2 hnt2 hfn1 hnt1 hx w) fun e w1 hR => ⟨_, hR.1, wpList_nil ?_⟩
  refine LW_cons (.block ?_)
  have hlen : (oesVal es x).length = es.length := by simp [oesVal]
  refine .mono (uv_cases (E := fun a' w' => a'.defers = [] ∧ ∃ d', .returned (a'.get 4) = Ending.returned d' ∧ Gr L K.tU8 d w d' (bs ++ uvar x) w') (N := fun _ _ => False) wt (j := uvLen x) (x := x) (by omega) (by simp [IntKind.bits]; omega) (hd.keep hR.2 fun _ _ h => h) (by have := hR.2.size; omega) uvEs es 7 _ (by decide) hes (by rw [← hlen, hval]; exact hlim) (by omega) (by simp only [put_size]; rw [hs, show (uvCases K uvEs 7).2 = 92 from rfl]; omega)
    (by rw [get_put_ne _ _ _ _ (by omega), get_put_ne _ _ _ _ (by omega)]; exact h0) (by rw [get_put_ne _ _ _ _ (by omega), get_put_ne _ _ _ _ (by omega)]; exact h1) (get_put _ _ _ (by simp only [put_size]; omega)) fun a' w' d' hd' h4 hg => ⟨?_, d', by rw [h4], ?_⟩) fun e a w hq => ?_
  · rw [hd']; simp only [put_defers]; exact hdf
  · rw [← hval]; exact Gr.pre hR.2 (fun _ _ h => h) hg
  · cases e <;> first | exact hq | exact hq.elim

end
end Go.Proofs.YtmkioomgfdpeiacDoor.Kx

/-
  WRITING, 7: texts, octets, what may be null, counts; how many tags there are.
-/
namespace Go.Proofs.YtmkioomgfdpeiacDoor.Kx
open Go

section
variable {P : Program} {K : Kn}

theorem wl_ptrNil {ops : Array Oper} {Q : Exit → Act → World → Prop} {l : List Oper} {a : Act} {w : World} {d : Option Nat} {tP el : Nat} {x : Operand} {m : Option Addr} (hM : P.underlying tP = some (.pointer el)) (hx : a.eval x = .pointer m) (h : wpList P ops Q l (a.put d (.bool m.isNone)) w) :
    wpList P ops Q (mk d (.binOp .eql tP x (.const (.pointer none)) 0) :: l) a w := by
  refine wl_value ?_ h
  have hc : a.eval (.const (.pointer none)) = .pointer none := rfl
  have he : (eqGuard .eql tP x (.const (.pointer none)) (.pointer m) (.pointer none)).run P w = .ok () w := by simp [eqGuard]
  have hr : (binOp .eql tP (.pointer m) (.pointer none)).run P w = .ok (.bool m.isNone) w := by
    have h1 : (Op.equal tP (.pointer m) (.pointer none)).run P w = .ok m.isNone w := by
      cases m with
      | none => exact (show (Op.equalIn (9999 + 1) tP (.pointer none) (.pointer none)).run P w = _ from by
          have : ∀ d : Nat, (Op.equalIn (d + 1) tP (.pointer none) (.pointer none)).run P w = .ok true w := fun d => by simp [Op.equalIn, run_underlying hM]
          exact this 9999)
      | some r => exact (show (Op.equalIn (9999 + 1) tP (.pointer (some r)) (.pointer none)).run P w = _ from by
          have : ∀ d : Nat, (Op.equalIn (d + 1) tP (.pointer (some r)) (.pointer none)).run P w = .ok false w := fun d => by simp [Op.equalIn, run_underlying hM]
          exact this 9999)
    simp [binOp, h1]
  simp [execOp, mk, hx, hc, he, hr]
theorem wl_slNil {ops : Array Oper} {Q : Exit → Act → World → Prop} {l : List Oper} {a : Act} {w : World} {d : Option Nat} {tS el : Nat} {x : Operand} {m : Option Addr} {n c : Nat} (hM : P.underlying tS = some (.slice el)) (hx : a.eval x = .slice m n c) (h : wpList P ops Q l (a.put d (.bool m.isNone)) w) :
    wpList P ops Q (mk d (.binOp .eql tS x (.const (.slice none 0 0)) 0) :: l) a w := by
  refine wl_value ?_ h
  have hc : a.eval (.const (.slice none 0 0)) = .slice none 0 0 := rfl
  have he : (eqGuard .eql tS x (.const (.slice none 0 0)) (.slice m n c) (.slice none 0 0)).run P w = .ok () w := by simp [eqGuard]
  have hr : (binOp .eql tS (.slice m n c) (.slice none 0 0)).run P w = .ok (.bool m.isNone) w := by
    have h1 : (Op.equal tS (.slice m n c) (.slice none 0 0)).run P w = .ok m.isNone w := by
      cases m with
      | none => exact (show (Op.equalIn (9999 + 1) tS (.slice none n c) (.slice none 0 0)).run P w = _ from by
          have : ∀ d : Nat, (Op.equalIn (d + 1) tS (.slice none n c) (.slice none 0 0)).run P w = .ok true w := fun d => by simp [Op.equalIn, run_underlying hM]
          exact this 9999)
      | some r => exact (show (Op.equalIn (9999 + 1) tS (.slice (some r) n c) (.slice none 0 0)).run P w = _ from by
          have : ∀ d : Nat, (Op.equalIn (d + 1) tS (.slice (some r) n c) (.slice none 0 0)).run P w = .ok false w := fun d => by simp [Op.equalIn, run_underlying hM]
          exact this 9999)
    simp [binOp, h1]
  simp [execOp, mk, hx, hc, he, hr]
theorem wl_lenStr {ops : Array Oper} {Q : Exit → Act → World → Prop} {r : List Oper} {a : Act} {w : World} {d : Option Nat} {x : Operand} {T ty : Nat} {l : Bs} (hx : a.eval x = .string ⟨l.toArray⟩) (hT : P.underlying T = some .string)
    (h : wpList P ops Q r (a.put d (.int .i64 l.length)) w) : wpList P ops Q (bi d .len [x] [T] ty :: r) a w := by
  refine wpList_plain rfl fun _ hK => ?_
  unfold Oper.wp
  have : (execOp a.eval (bi d .len [x] [T] ty)).run P w = .ok (.value (.int .i64 l.length)) w := by
    have hsz : ByteArray.size ⟨l.toArray⟩ = l.length := List.size_toArray
    simp [execOp, bi, resolve, invoke, hx, builtin, Builtin.len_, run_underlying hT, goInt, hsz]
  rw [this]
  exact hK _ _ h

theorem be_wrap {k : IntKind} {m : Nat} (h : (k = .i8 ∧ m = 1) ∨ ((k = .i16 ∨ k = .u16) ∧ m = 2) ∨ ((k = .i32 ∨ k = .u32) ∧ m = 4) ∨ ((k = .i64 ∨ k = .u64) ∧ m = 8)) (x : Int) : be m (k.wrap x) = be m x := by
  rw [← be_mod m (k.wrap x) m (Nat.le_refl _), ← be_mod m x m (Nat.le_refl _)]
  congr 1
  rcases h with ⟨rfl, rfl⟩ | ⟨rfl | rfl, rfl⟩ | ⟨rfl | rfl, rfl⟩ | ⟨rfl | rfl, rfl⟩ <;> simp [IntKind.wrap, IntKind.bits, IntKind.signed] <;> omega

/-! ## numbers -/
theorem gr_ret {te L : Nat} {d d' : Value} {bs enc : Bs} {w w' : World} {x : Value} (hx : x = d') (hg : Gr L te d w d' (bs ++ enc) w') : ∃ d', Ending.returned x = Ending.returned d' ∧ Gr L te d w d' (bs ++ enc) w' := ⟨d', by rw [hx], hg⟩

theorem ap_i8 (wt : WT P K) (hF : hasF K.tI8 = true) {f ntmps : Nat} (hfn : FnIs P f ntmps [4] (cAI8 K)) (hnt : 10 ≤ ntmps) (x : Int) (w : World) : ApC P K.tU8 f (.int .i8 x) (be 1 x) w := by
  have h := ap_oct wt (wt.dI8 hF) hfn (by simp [oesLen, oeLen]; omega) (by simp) (by simp) (x := x) (fun e he => by simp at he; exact .inl he) w
  have e : oesVal [(none, false)] x = be 1 x := by simp [oesVal, oeVal, be]
  rwa [e] at h
theorem ap_u16 (wt : WT P K) {f ntmps : Nat} (hfn : FnIs P f ntmps [4] (cAU16 K)) (hnt : 13 ≤ ntmps) {x : Int} (hx : 0 ≤ x ∧ x < 65536) (w : World) : ApC P K.tU8 f (.int .u16 x) (be 2 x) w := by
  have h := ap_oct wt wt.dU16 hfn (by simp [oesLen, oeLen]; omega) (by simp) (by simp) (x := x) (fun e he => .inr ⟨.inl rfl, hx.1, by simp [IntKind.bits]; omega, fun s hs => by simp at he; rcases he with rfl | rfl <;> simp at hs; subst hs; decide⟩) w
  rwa [oes2] at h
theorem ap_u32 (wt : WT P K) {f ntmps : Nat} (hfn : FnIs P f ntmps [4] (cAU32 K)) (hnt : 19 ≤ ntmps) {x : Int} (hx : 0 ≤ x ∧ x < 4294967296) (w : World) : ApC P K.tU8 f (.int .u32 x) (be 4 x) w := by
  have h := ap_oct wt wt.dU32 hfn (by simp [oesLen, oeLen]; omega) (by simp) (by simp) (x := x) (fun e he => .inr ⟨.inr (.inl rfl), hx.1, by simp [IntKind.bits]; omega, fun s hs => by simp at he; rcases he with rfl | rfl | rfl | rfl <;> simp at hs <;> subst hs <;> decide⟩) w
  rwa [oes4] at h
theorem ap_u64 (wt : WT P K) (hF : hasF K.tU64 = true) {f ntmps : Nat} (hfn : FnIs P f ntmps [4] (cAU64 K)) (hnt : 31 ≤ ntmps) {x : Int} (hx : 0 ≤ x ∧ x < 18446744073709551616) (w : World) : ApC P K.tU8 f (.int .u64 x) (be 8 x) w := by
  have h := ap_oct wt (wt.dU64 hF) hfn (by simp [oesLen, oeLen]; omega) (by simp) (by simp) (x := x) (fun e he => .inr ⟨.inr (.inr rfl), hx.1, by simp [IntKind.bits]; omega, fun s hs => by simp at he; rcases he with rfl | rfl | rfl | rfl | rfl | rfl | rfl | rfl <;> simp at hs <;> subst hs <;> decide⟩) w
  rwa [oes8] at h
theorem wrap_range {k : IntKind} (x : Int) : (k = .u16 → 0 ≤ k.wrap x ∧ k.wrap x < 65536) ∧ (k = .u32 → 0 ≤ k.wrap x ∧ k.wrap x < 4294967296) ∧ (k = .u64 → 0 ≤ k.wrap x ∧ k.wrap x < 18446744073709551616) := by
  refine ⟨?_, ?_, ?_⟩ <;> (intro h; subst h; simp [IntKind.wrap, IntKind.bits, IntKind.signed]; omega)
theorem ap_i16 (wt : WT P K) {f f2 ntmps nt2 : Nat} (hfn2 : FnIs P f2 nt2 [4] (cAU16 K)) (hnt2 : 13 ≤ nt2) (hfn : FnIs P f ntmps [4] (cACv K.tI16 K.tU16 f2)) (hnt : 9 ≤ ntmps) (x : Int) (w : World) : ApC P K.tU8 f (.int .i16 x) (be 2 x) w :=
  ap_cv wt wt.dI16 wt.dU16 hfn hnt hfn2.ent (be_wrap (k := .u16) (.inr (.inl ⟨.inr rfl, rfl⟩)) x ▸ ap_u16 wt hfn2 hnt2 ((wrap_range x).1 rfl) w)
theorem ap_i32 (wt : WT P K) {f f2 ntmps nt2 : Nat} (hfn2 : FnIs P f2 nt2 [4] (cAU32 K)) (hnt2 : 19 ≤ nt2) (hfn : FnIs P f ntmps [4] (cACv K.tI32 K.tU32 f2)) (hnt : 9 ≤ ntmps) (x : Int) (w : World) : ApC P K.tU8 f (.int .i32 x) (be 4 x) w :=
  ap_cv wt wt.dI32 wt.dU32 hfn hnt hfn2.ent (be_wrap (k := .u32) (.inr (.inr (.inl ⟨.inr rfl, rfl⟩))) x ▸ ap_u32 wt hfn2 hnt2 ((wrap_range x).2.1 rfl) w)
theorem ap_i64 (wt : WT P K) (hF : hasF K.tU64 = true) (hF2 : hasF K.tI64 = true) {f f2 ntmps nt2 : Nat} (hfn2 : FnIs P f2 nt2 [4] (cAU64 K)) (hnt2 : 31 ≤ nt2) (hfn : FnIs P f ntmps [4] (cACv K.tI64 K.tU64 f2)) (hnt : 9 ≤ ntmps) (x : Int) (w : World) : ApC P K.tU8 f (.int .i64 x) (be 8 x) w :=
  ap_cv wt (wt.dI64 hF2) (wt.dU64 hF) hfn hnt hfn2.ent (be_wrap (k := .u64) (.inr (.inr (.inr ⟨.inr rfl, rfl⟩))) x ▸ ap_u64 wt hF hfn2 hnt2 ((wrap_range x).2.2 rfl) w)
/-- AppendArrayLen -/
theorem ap_len (wt : WT P K) {f f2 ntmps : Nat} (hE : Ent P f2) (hc : ∀ x w, ApC P K.tU8 f2 (.int .i32 x) (be 4 x) w) (hfn : FnIs P f ntmps [4] (cACv K.tInt K.tI32 f2)) (hnt : 9 ≤ ntmps) (x : Int) (w : World) : ApC P K.tU8 f (.int .i64 x) (be 4 x) w :=
  ap_cv wt wt.dInt wt.dI32 hfn hnt hE (be_wrap (k := .i32) (.inr (.inr (.inl ⟨.inl rfl, rfl⟩))) x ▸ hc _ w)
theorem u32_nat (n : Nat) : IntKind.u32.wrap (n : Int) = (w32 n : Nat) := by simp [IntKind.wrap, IntKind.bits, IntKind.signed, w32]
theorem u32_succ (n : Nat) : IntKind.u32.wrap (1 + IntKind.u32.wrap (n : Int)) = (w32 (n + 1) : Nat) := by simp [IntKind.wrap, IntKind.bits, IntKind.signed, w32]; omega
theorem w32_lt (n : Nat) : w32 n < 4294967296 := by simp only [w32]; omega
/-- AppendCompactArrayLen -/
theorem ap_clen (wt : WT P K) {f f2 ntmps : Nat} (hE : Ent P f2) (hc : ∀ x w, x < 4294967296 → ApC P K.tU8 f2 (.int .u32 (x : Nat)) (uvar x) w) (hfn : FnIs P f ntmps [4] (cACv1 K f2)) (hnt : 10 ≤ ntmps) (n : Nat) (w : World) : ApC P K.tU8 f (.int .i64 n) (uvar (w32 (n + 1))) w :=
  ap_cv1 wt hfn hnt hE (by rw [u32_succ]; exact hc _ w (w32_lt _))

theorem ap_byte (wt : WT P K) {c r n L : Nat} {d : Value} {bs : Bs} {N E : Act → World → Prop} {a : Act} {w : World} (hc : c < 256) (h0 : a.get 0 = d) (hr : r < n) (hs : n + 3 ≤ a.tmps.size) (hd : DstAt w L K.tU8 d bs) (hL : L ≤ w.heap.size) (hlim : bs.length + 1 ≤ LIM)
    (h : ∀ a' w' d', a'.defers = a.defers → a'.get r = d' → Gr L K.tU8 d w d' (bs ++ [UInt8.ofNat c]) w' → E a' w') : LW P (gApB K c r) n (Rt N E) a w := by
  refine LW_cons (nwp_rg (wl_move ?_))
  rw [eval_tm, h0]
  have ho : octv (UInt8.ofNat c) = .int .u8 (c : Int) := by simp [octv, UInt8.toNat_ofNat]; omega
  refine wl_buildSlice (l := [UInt8.ofNat c]) wt.oct ?_ (by simp) (by simp) ?_
  · simp only [List.map_cons, List.map_nil, ho, prs]
    rfl
  have hk : Keeps (fun _ => False) w (w.alloc (.cells ([UInt8.ofNat c].map octv).toArray K.tU8 (0, 0))) := Keeps.alloc _ _ _
  have hoct : OctAt (w.alloc (.cells ([UInt8.ofNat c].map octv).toArray K.tU8 (0, 0))) w.heap.size 0 [UInt8.ofNat c] := by
    intro j b hj
    have := heap_alloc_new' w (.cells ([UInt8.ofNat c].map octv).toArray K.tU8 (0, 0))
    simp only [World.cell?, this, Nat.zero_add, List.getElem?_toArray, List.getElem?_map, hj]
    rfl
  refine wl_appendDst wt.oct (d := d) (L := L) (bs := bs) (l := [UInt8.ofNat c]) ?_ (x := .slice (some ⟨w.heap.size, 0, none⟩) 1 1) ?_ (hd.keep hk fun _ _ h => h) (src_oct wt.oct hoct) (by have := hk.size; omega) hlim fun d' w' hg => ?_
  · rw [eval_tm, get_put_ne _ _ _ _ (by omega), get_put _ _ _ (by omega)]
  · rw [eval_tm, get_put _ _ _ (by rw [put_size]; omega)]
    rfl
  refine wl_assign (wpList_nil (LW_cons (.ret ?_)))
  rw [eval_tm, get_put _ _ _ (by simp only [put_size]; omega)]
  exact h _ w' d' (by simp only [put_defers]) (get_put _ _ _ (by simp only [put_size]; omega)) (Gr.pre hk (fun _ _ h => h) hg)

theorem ap_bool (wt : WT P K) {f ntmps : Nat} (hfn : FnIs P f ntmps [4] (cABool K)) (hnt : 12 ≤ ntmps) (b : Bool) (w : World) : ApC P K.tU8 f (.bool b) [if b then 1 else 0] w := by
  intro L d bs hd hL hlim
  refine calls2s wt.mixed hfn (by omega) fun a h0 h1 hs hdf => ?_
  cases b with
  | true =>
    refine LW_cons (s_ifT (wl_move (wpList_nil ⟨by rw [eval_tm, get_put _ _ _ (by omega), eval_tm, h1], ?_⟩)))
    rw [then_rt]
    refine nwp_gS (ap_byte wt (c := 1) (r := 4) (by omega) (by rw [get_put_ne _ _ _ _ (by omega)]; exact h0) (by omega) (by simp only [put_size]; omega) hd hL hlim fun a' w' d' hd' h4 hg => ⟨?_, gr_ret h4 hg⟩)
    rw [hd', put_defers]; exact hdf
  | false =>
    refine LW_cons (s_ifF (wl_move (wpList_nil ⟨by rw [eval_tm, get_put _ _ _ (by omega), eval_tm, h1], .skip ?_⟩)))
    refine ap_byte wt (c := 0) (r := 4) (by omega) (by rw [get_put_ne _ _ _ _ (by omega)]; exact h0) (by show 4 < 5 + 1 + 3; omega) (by simp only [put_size]; show 5 + 1 + 3 + 3 ≤ _; omega) hd hL hlim fun a' w' d' hd' h4 hg => ⟨?_, gr_ret h4 hg⟩
    rw [hd', put_defers]; exact hdf

end
end Go.Proofs.YtmkioomgfdpeiacDoor.Kx

/-
  WRITING, 8: texts, octets, what may be null, counts; how many tags there are.
-/
namespace Go.Proofs.YtmkioomgfdpeiacDoor.Kx
open Go

section
variable {P : Program} {K : Kn}

theorem wl_lenAny {ops : Array Oper} {Q : Exit → Act → World → Prop} {r : List Oper} {a : Act} {w : World} {d : Option Nat} {y : Operand} {T ty n : Nat} (h1 : (execOp a.eval (bi d .len [y] [T] ty)).run P w = .ok (.value (.int .i64 n)) w)
    (h : wpList P ops Q r (a.put d (.int .i64 n)) w) : wpList P ops Q (bi d .len [y] [T] ty :: r) a w := by
  refine wpList_plain rfl fun _ hK => ?_
  unfold Oper.wp
  rw [h1]
  exact hK _ _ h
/-- a text, or octets, as what is appended -/
structure TxtV (P : Program) (tX : Nat) (x : Value) (l : Bs) (L : Nat) (w : World) : Prop where
  len : ∀ (a : Act) (w : World) (d : Option Nat) (y : Operand) (ty : Nat), a.eval y = x → (execOp a.eval (bi d .len [y] [tX] ty)).run P w = .ok (.value (.int .i64 l.length)) w
  src : ∀ w', Keeps (fun k => L ≤ k) w w' → Src P 1 tX x l.length (l.map octv) w'
theorem txt_str {tX : Nat} (hT : P.underlying tX = some .string) (l : Bs) (L : Nat) (w : World) : TxtV P tX (.string ⟨l.toArray⟩) l L w :=
  ⟨fun a w d y ty hy => by
    have hsz : ByteArray.size ⟨l.toArray⟩ = l.length := List.size_toArray
    simp [execOp, bi, resolve, invoke, hy, builtin, Builtin.len_, run_underlying hT, goInt, hsz], fun w' _ => src_str hT w' l⟩
theorem txt_oct {tX te : Nat} (ot : OctT P tX te) {x : Value} {l : Bs} {L : Nat} {w : World} (h : SlRp w (fun k => L ≤ k) x l) : TxtV P tX x l L w := by
  refine ⟨fun a w d y ty hy => ?_, fun w' hk => ?_⟩
  · rcases h with ⟨rfl, rfl⟩ | ⟨b, o, c, rfl, _⟩ <;> simp [execOp, bi, resolve, invoke, hy, builtin, Builtin.len_, run_underlying ot.und, goInt]
  · rcases h.keep hk with ⟨rfl, rfl⟩ | ⟨b, o, c, rfl, _, _, _, _, ho⟩
    · exact src_nil ot w' 0
    · exact src_oct ot ho

theorem ap_rest (wt : WT P K) {tX : Nat} {x : Value} {l bs : Bs} {L n : Nat} {d : Value} {N E : Act → World → Prop} {a : Act} {w : World} (hx : Src P 1 tX x l.length (l.map octv) w) (h0 : a.get 0 = d) (h1 : a.get 1 = x) (hn : 4 < n) (hs : n + 3 ≤ a.tmps.size) (hd : DstAt w L K.tU8 d bs) (hL : L ≤ w.heap.size)
    (hlim : bs.length + l.length ≤ LIM) (h : ∀ a' w' d', a'.defers = a.defers → a'.get 4 = d' → Gr L K.tU8 d w d' (bs ++ l) w' → E a' w') : LW P (gApRest K tX) n (Rt N E) a w := by
  refine LW_cons (nwp_rg (wl_move (wl_move ?_)))
  refine wl_appendDst wt.oct (d := d) (x := x) ?_ ?_ hd hx hL hlim fun d' w' hg => ?_
  · rw [eval_tm, get_put_ne _ _ _ _ (by omega), get_put _ _ _ (by omega)]; exact h0
  · rw [eval_tm, get_put _ _ _ (by simp only [put_size]; omega), eval_tm, get_put_ne _ _ _ _ (by omega)]; exact h1
  refine wl_assign (wpList_nil (LW_cons (.ret ?_)))
  exact h _ w' d' (by simp only [put_defers]) (by rw [get_put _ _ _ (by simp only [put_size]; omega), eval_tm, get_put _ _ _ (by simp only [put_size]; omega)]) hg

/-- AppendString, AppendBytes -/
theorem ap_txt (wt : WT P K) {f f2 ntmps tX tI L : Nat} {kI : IntKind} {x : Value} {l enc : Bs} {w : World} (hI : P.underlying tI = some (.int kI)) (hx : TxtV P tX x l L w) (hE : Ent P f2) (hc : ApC P K.tU8 f2 (.int kI (kI.wrap l.length)) enc w) (hfn : FnIs P f ntmps [4] (cAStr K tX tI f2)) (hnt : 13 ≤ ntmps) :
    ApL P K.tU8 f x (enc ++ l) w L := by
  intro d bs hd hL hlim
  rw [List.length_append] at hlim
  refine calls2s wt.mixed hfn (by omega) fun a h0 h1 hs hdf => ?_
  refine LW_cons (nwp_rg (wl_move (wl_move ?_)))
  refine wl_lenAny (hx.len _ _ _ _ _ (by rw [eval_tm, get_put _ _ _ (by simp only [put_size]; omega), eval_tm, get_put_ne _ _ _ _ (by omega)]; exact h1)) ?_
  refine wl_convInt (k := .i64) (k' := kI) (m := l.length) (by rw [eval_tm, get_put _ _ _ (by simp only [put_size]; omega)]) wt.dInt hI ?_
  refine wl_callSet hE ?_ (hc L) hd hL (by omega) (by simp only [put_size]; omega) fun w1 d1 hg => wpList_nil ?_
  · simp only [List.map_cons, List.map_nil, eval_tm]
    rw [get_put_ne _ _ _ _ (by omega), get_put_ne _ _ _ _ (by omega), get_put_ne _ _ _ _ (by omega), get_put _ _ _ (by omega), get_put _ _ _ (by simp only [put_size]; omega), h0]
  refine ap_rest wt (x := x) (l := l) (d := d1) (hx.src w1 (Gr.far hd hg)) ?_ ?_ (by show 4 < 5 + 5; omega) (by simp only [put_size]; show 5 + 5 + 3 ≤ _; omega) hg.dst (Nat.le_trans hL hg.keeps.size) (by rw [List.length_append]; omega) fun a' w' d' hd' h4 hg' => ⟨?_, gr_ret h4 ?_⟩
  · rw [get_put _ _ _ (by simp only [put_size]; omega)]
  · rw [get_put_ne _ _ _ _ (by omega), get_put_ne _ _ _ _ (by omega), get_put_ne _ _ _ _ (by omega), get_put_ne _ _ _ _ (by omega), get_put_ne _ _ _ _ (by omega), get_put_ne _ _ _ _ (by omega)]; exact h1
  · rw [hd']; simp only [put_defers]; exact hdf
  · rw [← List.append_assoc]; exact hg.trans hg'
/-- AppendCompactString, AppendCompactBytes -/
theorem ap_ctxt (wt : WT P K) {f f2 ntmps tX L : Nat} {x : Value} {l : Bs} {w : World} (hx : TxtV P tX x l L w) (hE : Ent P f2) (hc : ∀ x w, x < 4294967296 → ApC P K.tU8 f2 (.int .u32 (x : Nat)) (uvar x) w) (hfn : FnIs P f ntmps [4] (cACStr K tX f2)) (hnt : 14 ≤ ntmps) :
    ApL P K.tU8 f x (uvar (w32 (l.length + 1)) ++ l) w L := by
  intro d bs hd hL hlim
  rw [List.length_append] at hlim
  refine calls2s wt.mixed hfn (by omega) fun a h0 h1 hs hdf => ?_
  refine LW_cons (nwp_rg (wl_move (wl_move ?_)))
  refine wl_lenAny (hx.len _ _ _ _ _ (by rw [eval_tm, get_put _ _ _ (by simp only [put_size]; omega), eval_tm, get_put_ne _ _ _ _ (by omega)]; exact h1)) ?_
  refine wl_convInt (k := .i64) (k' := .u32) (m := l.length) (by rw [eval_tm, get_put _ _ _ (by simp only [put_size]; omega)]) wt.dInt wt.dU32 ?_
  refine wl_bin (k := .u32) (m := 1) (n := IntKind.u32.wrap l.length) rfl (by rw [eval_tm, get_put _ _ _ (by simp only [put_size]; omega)]) (by simp) (run_add w) ?_
  rw [u32_succ]
  refine wl_callSet hE ?_ (hc (w32 (l.length + 1)) w (w32_lt _) L) hd hL (by omega) (by simp only [put_size]; omega) fun w1 d1 hg => wpList_nil ?_
  · simp only [List.map_cons, List.map_nil, eval_tm]
    rw [get_put_ne _ _ _ _ (by omega), get_put_ne _ _ _ _ (by omega), get_put_ne _ _ _ _ (by omega), get_put_ne _ _ _ _ (by omega), get_put _ _ _ (by omega), get_put _ _ _ (by simp only [put_size]; omega), h0]
  refine ap_rest wt (x := x) (l := l) (d := d1) (hx.src w1 (Gr.far hd hg)) ?_ ?_ (by show 4 < 5 + 6; omega) (by simp only [put_size]; show 5 + 6 + 3 ≤ _; omega) hg.dst (Nat.le_trans hL hg.keeps.size) (by rw [List.length_append]; omega) fun a' w' d' hd' h4 hg' => ⟨?_, gr_ret h4 ?_⟩
  · rw [get_put _ _ _ (by simp only [put_size]; omega)]
  · rw [get_put_ne _ _ _ _ (by omega), get_put_ne _ _ _ _ (by omega), get_put_ne _ _ _ _ (by omega), get_put_ne _ _ _ _ (by omega), get_put_ne _ _ _ _ (by omega), get_put_ne _ _ _ _ (by omega), get_put_ne _ _ _ _ (by omega)]; exact h1
  · rw [hd']; simp only [put_defers]; exact hdf
  · rw [← List.append_assoc]; exact hg.trans hg'

/-- if x == nil { return f(dst, c) } -/
theorem nil_yes {T n f L : Nat} {z c d y : Value} {enc bs : Bs} {r : List GC} {N E : Act → World → Prop} {a : Act} {w : World} (hcmp : ∀ (ops : Array Oper) (Q : Exit → Act → World → Prop) (a : Act) (x : Operand) (d : Option Nat), a.eval x = y → wpList P ops Q [] (a.put d (.bool true)) w → wpList P ops Q [mk d (.binOp .eql T x (.const z) 0)] a w)
    (h0 : a.get 0 = d) (h1 : a.get 1 = y) (hE : Ent P f) (hc : ApL P K.tU8 f c enc w L) (hn : 4 < n) (hs : n + 4 ≤ a.tmps.size) (hd : DstAt w L K.tU8 d bs) (hL : L ≤ w.heap.size) (hlim : bs.length + enc.length ≤ LIM)
    (h : ∀ a' w' d', a'.defers = a.defers → a'.get 4 = d' → Gr L K.tU8 d w d' (bs ++ enc) w' → E a' w') : LW P (gNilIf T z c f :: r) n (Rt N E) a w := by
  refine LW_cons (s_ifT (wl_move ?_))
  refine hcmp _ _ _ _ _ (by rw [eval_tm, get_put _ _ _ (by omega), eval_tm]; exact h1) (wpList_nil ⟨by rw [eval_tm, get_put _ _ _ (by simp only [put_size]; omega)], ?_⟩)
  rw [then_rt]
  refine nwp_gS (LW_cons (nwp_rg (wl_move ?_)))
  refine wl_callRet hE ?_ hc hd hL hlim (by simp only [put_size]; omega) (by simp only [put_size]; omega) fun a' w' d' hd' h4 hg => h a' w' d' (by rw [hd']; simp only [put_defers]) h4 hg
  simp only [List.map_cons, List.map_nil, eval_tm]
  rw [get_put _ _ _ (by simp only [put_size]; omega), get_put_ne _ _ _ _ (by omega), get_put_ne _ _ _ _ (by omega), h0]
  rfl
theorem nil_no {T n f : Nat} {z c y : Value} {r : List GC} {N E : Act → World → Prop} {a : Act} {w : World} (hcmp : ∀ (ops : Array Oper) (Q : Exit → Act → World → Prop) (a : Act) (x : Operand) (d : Option Nat), a.eval x = y → wpList P ops Q [] (a.put d (.bool false)) w → wpList P ops Q [mk d (.binOp .eql T x (.const z) 0)] a w)
    (h1 : a.get 1 = y) (hn : 4 < n) (hs : n + 4 ≤ a.tmps.size)
    (h : ∀ a', Pv n 0 0 n a a' → LW P r (n + 4) (Rt N E) a' w) : LW P (gNilIf T z c f :: r) n (Rt N E) a w := by
  refine LW_cons (s_ifF (wl_move ?_))
  refine hcmp _ _ _ _ _ (by rw [eval_tm, get_put _ _ _ (by omega), eval_tm]; exact h1) (wpList_nil ⟨by rw [eval_tm, get_put _ _ _ (by simp only [put_size]; omega)], .skip ?_⟩)
  exact h _ (((Pv.refl _ _ _ _ _).put _ (.inl rfl)).put _ (.inr (by omega)))

/-- AppendNullableString, AppendCompactNullableString -/
theorem ap_nstr0 (wt : WT P K) {f f1 f2 ntmps tP : Nat} {c : Value} {enc : Bs} {w : World} (hP : P.underlying tP = some (.pointer K.tStr)) (hE : Ent P f1) (hc : ApC P K.tU8 f1 c enc w) (hfn : FnIs P f ntmps [4] (cANStr K tP c f1 f2)) (hnt : 14 ≤ ntmps) : ApC P K.tU8 f (.pointer none) enc w := by
  intro L d bs hd hL hlim
  refine calls2s wt.mixed hfn (by omega) fun a h0 h1 hs hdf => ?_
  exact nil_yes (fun ops Q a x d hx h => wl_ptrNil (m := none) hP hx h) h0 h1 hE (hc L) (by omega) (by omega) hd hL hlim fun a' w' d' hd' h4 hg => ⟨hd'.trans hdf, gr_ret h4 hg⟩
theorem ap_nstr1 (wt : WT P K) {f f1 f2 ntmps tP : Nat} {c : Value} {enc : Bs} {w : World} {p : Addr} {s : Value} (hP : P.underlying tP = some (.pointer K.tStr)) (hp : w.cell? p = some s) (hE : Ent P f2) (hc : ApC P K.tU8 f2 s enc w) (hfn : FnIs P f ntmps [4] (cANStr K tP c f1 f2)) (hnt : 14 ≤ ntmps) : ApC P K.tU8 f (.pointer (some p)) enc w := by
  intro L d bs hd hL hlim
  refine calls2s wt.mixed hfn (by omega) fun a h0 h1 hs hdf => ?_
  refine nil_no (fun ops Q a x d hx h => wl_ptrNil (m := some p) hP hx h) h1 (by omega) (by omega) fun a1 hp1 => ?_
  have hs1 := hp1.size
  refine LW_cons (nwp_rg (wl_move (wl_move ?_)))
  rw [eval_tm, eval_tm, hp1.get 0 (by omega) (by omega), h0, get_put_ne _ _ _ _ (by omega), hp1.get 1 (by omega) (by omega), h1]
  refine wl_nilCheck (p := p) (by rw [eval_tm, get_put _ _ _ (by simp only [put_size]; omega)]) ?_
  refine wl_load1 (p := p) (v := s) (by rw [eval_tm, get_put _ _ _ (by simp only [put_size]; omega)]) (wt.vStr.agg w) hp ?_
  refine wl_callRet hE ?_ (hc L) hd hL hlim (by simp only [put_size]; omega) (by simp only [put_size]; omega) fun a' w' d' hd' h4 hg => ⟨?_, gr_ret h4 hg⟩
  · simp only [List.map_cons, List.map_nil, eval_tm]
    rw [get_put_ne _ _ _ _ (by omega), get_put_ne _ _ _ _ (by omega), get_put_ne _ _ _ _ (by omega), get_put _ _ _ (by omega), get_put _ _ _ (by simp only [put_size]; omega)]
  · rw [hd']; simp only [put_defers]; rw [hp1.defers]; exact hdf
/-- AppendNullableBytes, AppendCompactNullableBytes -/
theorem ap_nbytes0 (wt : WT P K) {f f1 f2 ntmps : Nat} {c : Value} {enc : Bs} {w : World} (hE : Ent P f1) (hc : ApC P K.tU8 f1 c enc w) (hfn : FnIs P f ntmps [4] (cANBytes K c f1 f2)) (hnt : 12 ≤ ntmps) : ApC P K.tU8 f (.slice none 0 0) enc w := by
  intro L d bs hd hL hlim
  refine calls2s wt.mixed hfn (by omega) fun a h0 h1 hs hdf => ?_
  exact nil_yes (fun ops Q a x d hx h => wl_slNil (m := none) wt.oct.und hx h) h0 h1 hE (hc L) (by omega) (by omega) hd hL hlim fun a' w' d' hd' h4 hg => ⟨hd'.trans hdf, gr_ret h4 hg⟩
theorem ap_nbytes1 (wt : WT P K) {f f1 f2 ntmps L : Nat} {c : Value} {enc : Bs} {w : World} {p : Addr} {n cp : Nat} (hE : Ent P f2) (hc : ApL P K.tU8 f2 (.slice (some p) n cp) enc w L) (hfn : FnIs P f ntmps [4] (cANBytes K c f1 f2)) (hnt : 12 ≤ ntmps) : ApL P K.tU8 f (.slice (some p) n cp) enc w L := by
  intro d bs hd hL hlim
  refine calls2s wt.mixed hfn (by omega) fun a h0 h1 hs hdf => ?_
  refine nil_no (fun ops Q a x d hx h => wl_slNil (m := some p) wt.oct.und hx h) h1 (by omega) (by omega) fun a1 hp1 => ?_
  have hs1 := hp1.size
  refine LW_cons (nwp_rg (wl_move (wl_move ?_)))
  rw [eval_tm, eval_tm, hp1.get 0 (by omega) (by omega), h0, get_put_ne _ _ _ _ (by omega), hp1.get 1 (by omega) (by omega), h1]
  refine wl_callRet hE ?_ hc hd hL hlim (by simp only [put_size]; omega) (by simp only [put_size]; omega) fun a' w' d' hd' h4 hg => ⟨?_, gr_ret h4 hg⟩
  · simp only [List.map_cons, List.map_nil, eval_tm]
    rw [get_put_ne _ _ _ _ (by omega), get_put _ _ _ (by omega), get_put _ _ _ (by simp only [put_size]; omega)]
  · rw [hd']; simp only [put_defers]; rw [hp1.defers]; exact hdf

theorem calls2c (hm : P.follows .mixedOrders = true) {f ntmps : Nat} {c : Code} {y z : Value} {w : World} {RR : Ending → World → Prop} (hfn : FnIs P f ntmps [4] c) (hnt : 2 ≤ ntmps)
    (h : ∀ a, a.get 0 = y → a.get 1 = z → a.tmps.size = ntmps → a.defers = [] → NWP P c (Rt (fun _ _ => False) (fun a' w' => a'.defers = [] ∧ RR (.returned (a'.get 4)) w')) a w) : Calls P f #[y, z] w RR := by
  refine hfn.calls hm (by simp) ?_
  have := h { tmps := #[y, z] ++ Array.replicate (ntmps - (#[y, z] : Array Value).size) undef, defers := [] } (by rw [get_args _ _ _ (by simp)]; rfl) (by rw [get_args _ _ _ (by simp)]; rfl) (size_args #[y, z] ntmps hnt) rfl
  exact rt_mono this (fun _ _ h => h.elim) (fun a w h => ⟨h.1, h.2⟩)
/-- AppendUuid -/
theorem ap_uuid (wt : WT P K) {f ntmps : Nat} (_hV : VarIs P K.tUuid true 16) (hA : P.underlying K.tUuid = some (.array 16 K.tU8)) (hfn : FnIs P f ntmps [4] (cAUuid K)) (hnt : 8 ≤ ntmps) {l : Bs} (hl : l.length = 16) (w : World) : ApC P K.tU8 f (.agg (l.map octv).toArray) l w := by
  intro L d bs hd hL hlim
  refine calls2c wt.mixed hfn (by omega) fun a hg0 hg1 hsz' hd0 => ?_
  unfold cAUuid
  have hk : Keeps (fun _ => False) w (w.alloc (.cells (l.map octv).toArray K.tUuid (0, 0))) := Keeps.alloc _ _ _
  refine nwp_sq_cons (nwp_rg (wl_value (v := .pointer (some ⟨w.heap.size, 0, none⟩)) (w' := w.alloc (.cells (l.map octv).toArray K.tUuid (0, 0))) ?_ (wl_assign (wpList_nil ?_))))
  · have e1 : a.eval (tm 1) = .agg (l.map octv).toArray := hg1
    simp [execOp, mk, e1, Instr.box, newVar, newRow, newObj, Sem.run, Value.cells]
  refine nwp_sq_cons (nwp_rg (wl_move ?_))
  rw [eval_tm, get_put_ne _ _ _ _ (by omega), get_put_ne _ _ _ _ (by omega), hg0]
  refine wl_value (v := .slice (some ⟨w.heap.size, 0, none⟩) 16 16) (w' := w.alloc (.cells (l.map octv).toArray K.tUuid (0, 0))) ?_ ?_
  · have e3 : (((a.put (some 3) (.pointer (some ⟨w.heap.size, 0, none⟩))).put (some 4) (Act.eval (a.put (some 3) (.pointer (some ⟨w.heap.size, 0, none⟩))) (.const nilS))).put (some 5) d).eval (tm 3) = .pointer (some ⟨w.heap.size, 0, none⟩) := by
      rw [eval_tm, get_put_ne _ _ _ _ (by omega), get_put_ne _ _ _ _ (by omega), get_put _ _ _ (by omega)]
    obtain ⟨i, z, hi, _, hsz, _⟩ := wt.oct.info
    simp [execOp, mk, e3, Instr.sliceAt, run_underlying hA, Instr.sureAddr, Instr.sliceBounds, sizeOf, typeInfo, hi, Addr.add_lit]
  have hoct : OctAt (w.alloc (.cells (l.map octv).toArray K.tUuid (0, 0))) w.heap.size 0 l := by
    intro j b hj
    have := heap_alloc_new' w (.cells (l.map octv).toArray K.tUuid (0, 0))
    simp only [World.cell?, this, Nat.zero_add, List.getElem?_toArray, List.getElem?_map, hj]
    rfl
  refine wl_appendDst wt.oct (d := d) (L := L) (bs := bs) (l := l) ?_ (x := .slice (some ⟨w.heap.size, 0, none⟩) l.length 16) ?_ (hd.keep hk fun _ _ h => h) (src_oct wt.oct hoct) (by have := hk.size; omega) hlim fun d' w' hg => ?_
  · rw [eval_tm, get_put_ne _ _ _ _ (by omega), get_put _ _ _ (by simp only [put_size]; omega)]
  · rw [eval_tm, get_put _ _ _ (by simp only [put_size]; omega), hl]
  refine wl_assign (wpList_nil (nwp_sq_cons (.ret ?_)))
  rw [eval_tm, get_put _ _ _ (by simp only [put_size]; omega)]
  exact ⟨by simp only [put_defers]; exact hd0, gr_ret (get_put _ _ _ (by simp only [put_size]; omega)) (Gr.pre hk (fun _ _ h => h) hg)⟩

end
end Go.Proofs.YtmkioomgfdpeiacDoor.Kx

/-
  WRITING, 9: what the package's appending functions do, as one record of contracts (KW); the statements that call them; loops.
-/
namespace Go.Proofs.YtmkioomgfdpeiacDoor.Kx
open Go

/-- the value that a variable of some cells holds -/
def ValOf (p : PF) (cs : List Value) (val : Value) : Prop := if p = .uuid then val = .agg cs.toArray else cs = [val]

structure KW (P : Program) (g : GW) (av : PF → Bool) (fl nl : Bool) (te : Nat) : Prop where
  mixed : P.follows .mixedOrders = true
  oct : OctT P g.tSl te
  dInt : P.underlying g.tInt = some (.int .i64)
  dU32 : fl = true → P.underlying g.tU32 = some (.int .u32)
  apE : ∀ p, av p = true → Ent P (g.ap p)
  apC : ∀ p, av p = true → ∀ (w : World) (L : Nat) (cs : List Value) (val : Value) (v : V), LRp w (fun k => L ≤ k) (pfTy p) cs v → ValOf p cs val → ApL P te (g.ap p) val (p.wr v) w L
  alE : hasF g.alen = true → Ent P g.alen
  alC : hasF g.alen = true → ∀ (n : Nat) (w : World), ApC P te g.alen (.int .i64 n) (be 4 n) w
  clE : fl = true → hasF g.calen = true → Ent P g.calen
  clC : fl = true → hasF g.calen = true → ∀ (n : Nat) (w : World), ApC P te g.calen (.int .i64 n) (uvar (w32 (n + 1))) w
  nlE : nl = true → Ent P g.nalen
  nlC : nl = true → ∀ (n : Nat) (b : Bool) (w : World) (L : Nat) (d : Value) (bs : Bs), DstAt w L te d bs → L ≤ w.heap.size → bs.length + (if b then wNull false 4 else wCnt false n).length ≤ LIM →
    Calls P g.nalen #[d, .int .i64 n, .bool b] w fun e w' => ∃ d', e = .returned d' ∧ Gr L te d w d' (bs ++ (if b then wNull false 4 else wCnt false n)) w'
  cnE : nl = true → fl = true → Ent P g.cnalen
  cnC : nl = true → fl = true → ∀ (n : Nat) (b : Bool) (w : World) (L : Nat) (d : Value) (bs : Bs), DstAt w L te d bs → L ≤ w.heap.size → bs.length + (if b then wNull true 4 else wCnt true n).length ≤ LIM →
    Calls P g.cnalen #[d, .int .i64 n, .bool b] w fun e w' => ∃ d', e = .returned d' ∧ Gr L te d w d' (bs ++ (if b then wNull true 4 else wCnt true n)) w'
  uvE : fl = true → Ent P g.uv
  uvC : fl = true → ∀ (x : Nat) (w : World), x < 4294967296 → ApC P te g.uv (.int .u32 x) (uvar x) w
  tlE : fl = true → Ent P g.tlen
  tlC : fl = true → ∀ (w : World) (b o : Nat) (m : Value) (X : Nat → Prop) (t : List (Nat × Bs)), w.cell? ⟨b, o, none⟩ = some m → TgRp w X m t → Calls P g.tlen #[pt b o] w fun e w' => e = .returned (.int .i64 t.length) ∧ Keeps (fun _ => False) w w'
  teE : fl = true → Ent P g.teach
  teC : fl = true → ∀ (w : World) (b o : Nat) (m : Value) (L : Nat) (t : List (Nat × Bs)) (d : Value) (bs : Bs), w.cell? ⟨b, o, none⟩ = some m → b < L → TgRp w (fun k => L ≤ k) m t → DstAt w L te d bs → L ≤ w.heap.size → bs.length + (wTags t).length ≤ LIM →
    Calls P g.teach #[pt b o, d] w fun e w' => ∃ d', e = .returned d' ∧ Gr L te d w d' (bs ++ wTags t) w'
  uuid : av .uuid = true → VarIs P g.tUuid true 16 ∧ ∀ w, (zeroValue g.tUuid).run P w = .ok (.agg (Array.replicate 16 (.int .u8 0))) w

/-- the slots that a part of a writer leans on -/
structure CxW (cx : Cx) (m k0 : Nat) : Prop where
  s : cx.s < m ∧ cx.s ≠ 1
  ver : cx.ver < m ∧ cx.ver ≠ 1
  fx : cx.fx < m ∧ cx.fx ≠ 1
  one : 1 < m
  le : m ≤ k0
/-- what holds where a part of a writer begins -/
structure WC (cx : Cx) (fx : Bool) (ver : Int) (te L B O : Nat) (d : Value) (bs : Bs) (a : Act) (w : World) : Prop where
  dst : DstAt w L te d bs
  s1 : a.get 1 = d
  ss : a.get cx.s = pt B O
  sv : a.get cx.ver = .int .i16 ver
  sf : cx.hf = true → a.get cx.fx = .bool fx
  nf : cx.hf = false → fx = false
  BL : B < L
  Lw : L ≤ w.heap.size

section
variable {P : Program} {g : GW} {av : PF → Bool} {fl nl : Bool} {te : Nat} {cx : Cx} {fx : Bool} {ver : Int} {L B O m k0 n : Nat} {d : Value} {bs : Bs} {K N E : Act → World → Prop} {Q : Exit → Act → World → Prop} {a : Act} {w : World}

theorem WC.step {d' : Value} {bs' : Bs} {a' : Act} {w' : World} (h : WC cx fx ver te L B O d bs a w) (hc : CxW cx m k0) (hp : Pv 1 m k0 n a a') (h1 : a'.get 1 = d') (hg : Gr L te d w d' bs' w') : WC cx fx ver te L B O d' bs' a' w' :=
  ⟨hg.dst, h1, by rw [hp.get _ hc.s.2 (.inl hc.s.1)]; exact h.ss, by rw [hp.get _ hc.ver.2 (.inl hc.ver.1)]; exact h.sv, fun hf => by rw [hp.get _ hc.fx.2 (.inl hc.fx.1)]; exact h.sf hf, h.nf, h.BL, Nat.le_trans h.Lw hg.keeps.size⟩
/-- another part, its place in another slot -/
theorem WC.at {s B' O' : Nat} {a' : Act} (h : WC cx fx ver te L B O d bs a w) (hc : CxW cx m k0) (hp : Pv 1 m k0 n a a') (h1 : a'.get 1 = d) (hs : a'.get s = pt B' O') (hB : B' < L) : WC { cx with s := s } fx ver te L B' O' d bs a' w :=
  ⟨h.dst, h1, hs, by rw [hp.get _ hc.ver.2 (.inl hc.ver.1)]; exact h.sv, fun hf => by rw [hp.get _ hc.fx.2 (.inl hc.fx.1)]; exact h.sf hf, h.nf, hB, h.Lw⟩
theorem CxW.at {s m' : Nat} (h : CxW cx m k0) (hs : m ≤ s ∧ s < m') (hm : m ≤ m') (hk : m' ≤ k0) : CxW { cx with s := s } m' k0 :=
  ⟨⟨hs.2, by have := h.one; show s ≠ 1; omega⟩, ⟨Nat.lt_of_lt_of_le h.ver.1 hm, h.ver.2⟩, ⟨Nat.lt_of_lt_of_le h.fx.1 hm, h.fx.2⟩, Nat.lt_of_lt_of_le h.one hm, hk⟩
theorem CxW.mono {m' : Nat} (h : CxW cx m k0) (hm : m ≤ m') (hk : m' ≤ k0) : CxW cx m' k0 :=
  ⟨⟨by have := h.s; omega, h.s.2⟩, ⟨by have := h.ver; omega, h.ver.2⟩, ⟨by have := h.fx; omega, h.fx.2⟩, by have := h.one; omega, hk⟩

/-- dst = f(dst, v) -/
theorem s_wapp {f v : Nat} {val : Value} {enc : Bs} (hE : Ent P f) (hc : ApL P te f val enc w L) (h1 : a.get 1 = d) (hv : a.get v = val) (hvn : v < n) (hd : DstAt w L te d bs) (hL : L ≤ w.heap.size) (hlim : bs.length + enc.length ≤ LIM) (hm : m ≤ k0) (hk : k0 ≤ n) (_h1m : 1 < n) (hn : n + 3 ≤ a.tmps.size)
    (h : ∀ a' w' d', Pv 1 m k0 n a a' → a'.get 1 = d' → Gr L te d w d' (bs ++ enc) w' → K a' w') : NWP P (gwApp f v n).1 (Exit.then K Q) a w := by
  refine nwp_rg (wl_move (wl_move (wl_callSet hE ?_ hc hd hL hlim (by simp only [put_size]; omega) fun w' d' hg => wpList_nil (h _ w' d' ?_ (get_put _ _ _ (by simp only [put_size]; omega)) hg))))
  · simp only [List.map_cons, List.map_nil, eval_tm]
    rw [get_put_ne _ _ _ _ (by omega), get_put _ _ _ (by omega), get_put _ _ _ (by simp only [put_size]; omega), get_put_ne _ _ _ _ (by omega), h1, hv]
  · exact ((((Pv.refl _ _ _ _ _).put _ (by omega)).put _ (by omega)).put _ (by omega)).put _ (.inl rfl)
/-- the same of 16 octets that lie in memory -/
theorem s_wappU {f v p : Nat} {cs : List Value} {enc : Bs} (hV : VarIs P g.tUuid true 16) (hE : Ent P f) (hc : ApL P te f (.agg cs.toArray) enc w L) (h1 : a.get 1 = d) (hv : a.get v = pt p 0) (hcs : CellsAt w p 0 cs) (hl : cs.length = 16) (hvn : v < n) (hd : DstAt w L te d bs) (hL : L ≤ w.heap.size) (hlim : bs.length + enc.length ≤ LIM) (hm : m ≤ k0) (hk : k0 ≤ n) (h1m : 1 < n) (hn : n + 3 ≤ a.tmps.size)
    (h : ∀ a' w' d', Pv 1 m k0 n a a' → a'.get 1 = d' → Gr L te d w d' (bs ++ enc) w' → K a' w') : NWP P (gwAppU g f v n).1 (Exit.then K Q) a w := by
  refine nwp_rg (wl_move (wl_loadN (b := p) (o := 0) (cs := cs) (by rw [eval_tm, get_put_ne _ _ _ _ (by omega)]; exact hv) (hV.agg w) (by rw [hl]; exact hV.size w) hcs (wl_callSet hE ?_ hc hd hL hlim (by simp only [put_size]; omega) fun w' d' hg => wpList_nil (h _ w' d' ?_ (get_put _ _ _ (by simp only [put_size]; omega)) hg))))
  · simp only [List.map_cons, List.map_nil, eval_tm]
    rw [get_put_ne _ _ _ _ (by omega), get_put _ _ _ (by omega), get_put _ _ _ (by simp only [put_size]; omega), h1]
  · exact ((((Pv.refl _ _ _ _ _).put _ (by omega)).put _ (by omega)).put _ (by omega)).put _ (.inl rfl)

/-- where the text parts at isFlexible -/
theorem s_wfx {A C : GC} (hA : Up A) (hC : Up C) (hw : WC cx fx ver te L B O d bs a w) (hc : CxW cx m k0) (hk : k0 ≤ n) (hn : (gwFx cx A C n).2 ≤ a.tmps.size) (hn1 : n < a.tmps.size)
    (h : ∀ (a' : Act) (n' : Nat), Pv 1 m k0 n a a' → a'.get 1 = d → (∀ s, s < n → a'.get s = a.get s) → n ≤ n' → ((if fx then A else C) n').2 ≤ a.tmps.size → NWP P ((if fx then A else C) n').1 Q a' w) : NWP P (gwFx cx A C n).1 Q a w := by
  have hle := hc.le
  have h1 := hc.one
  unfold gwFx at hn ⊢
  cases hf : cx.hf with
  | false =>
    rw [hf] at hn
    simp only [Bool.false_eq_true, if_false] at hn ⊢
    have hfx := hw.nf hf
    subst hfx
    exact h a n (Pv.refl _ _ _ _ _) hw.s1 (fun _ _ => rfl) (Nat.le_refl _) hn
  | true =>
    rw [hf] at hn
    simp only [if_true] at hn ⊢
    have hn' : (C (A (n + 1)).2).2 ≤ a.tmps.size := hn
    have u1 := hA (n + 1)
    have u2 := hC (A (n + 1)).2
    refine s_fx (x := n) (m := k0) (k0 := k0) (hw.sf hf) (Nat.le_refl _) hk hn1 fun a' hp => ?_
    have hp' : Pv 1 m k0 n a a' := ⟨hp.size, hp.defers, fun s hs hs2 => hp.get s (by omega) (by omega)⟩
    have h1' : a'.get 1 = d := by rw [hp.get 1 (by omega) (.inl (by omega))]; exact hw.s1
    have hlow : ∀ s, s < n → a'.get s = a.get s := fun s hs => hp.get s (by omega) (by omega)
    cases fx with
    | true => exact h a' (n + 1) hp' h1' hlow (by omega) (by simp only [if_true]; omega)
    | false => exact h a' (A (n + 1)).2 hp' h1' hlow (by omega) (by simpa using hn')

theorem s_wfor {v i b1 b2 F E' len c : Nat} {base : Option Addr} {body : List GC} (hv : a.get v = .slice base len c) (hF : P.underlying F = some (.slice E')) (hi : m ≤ i ∧ i < k0) (_hvi : v < i) (h1i : 1 < i) (hk : k0 ≤ n) (hn : (gwFor g v i b1 b2 F body n).2 ≤ a.tmps.size) (hup : n + 5 ≤ (gS body (n + 5)).2)
    (hlen : len ≤ maxLen) (W : Nat → Value → World → Prop) (h0 : W 0 (a.get 1) w)
    (hbody : ∀ (j : Nat) (a1 : Act) (w1 : World), j < len → Pv 1 i k0 n a a1 → a1.get i = .int .i64 j → W j (a1.get 1) w1 → NWP P (gS body (n + 5)).1 (Rt (fun a2 w2 => Pv 1 (i + 1) k0 (n + 5) a1 a2 ∧ W (j + 1) (a2.get 1) w2) E) a1 w1)
    (hend : ∀ a1 w1, Pv 1 i k0 n a a1 → W len (a1.get 1) w1 → K a1 w1) : NWP P (gwFor g v i b1 b2 F body n).1 (Rt K E) a w := by
  have hn' : (gS body (n + 5)).2 + 1 ≤ a.tmps.size := hn
  unfold gwFor
  generalize hz : (gS body (n + 5)).2 = z at hn' hup
  refine .seq (R := Rt (fun a' w' => Pv 1 i k0 n a a' ∧ a'.get (n + 1) = .int .i64 (len : Int) ∧ a'.get (n + 2) = .int .i64 ((0 : Nat) : Int) ∧ a'.get 1 = a.get 1 ∧ w' = w) E) (.reg (wl_move ?_)) (fun a' w' hh => ?_) (fun e a w he hq => by cases e <;> first | exact absurd rfl he | exact hq)
  · rw [eval_tm, hv]
    refine wl_len (base := base) (n := len) (c := c) (by rw [eval_tm, get_put _ _ _ (by omega)]) hF (wl_move (wpList_nil ⟨?_, ?_, ?_, ?_, rfl⟩))
    · exact (((Pv.refl _ _ _ _ _).put _ (by omega)).put _ (by omega)).put _ (by omega)
    · rw [get_put_ne _ _ _ _ (by omega), get_put _ _ _ (by simp only [put_size]; omega)]
    · rw [get_put _ _ _ (by simp only [put_size]; omega)]; rfl
    · rw [get_put_ne _ _ _ _ (by omega), get_put_ne _ _ _ _ (by omega), get_put_ne _ _ _ _ (by omega)]
  · obtain ⟨hp, hgl, hgi, hg1, rfl⟩ := hh
    refine .block (.loop (fun a1 w1 => ∃ j : Nat, j ≤ len ∧ Pv 1 i k0 n a a1 ∧ a1.get (n + 1) = .int .i64 (len : Int) ∧ a1.get (n + 2) = .int .i64 (j : Int) ∧ W j (a1.get 1) w1) (fun a1 _ => ((len : Int) - (match a1.get (n + 2) with | .int _ q => q | _ => 0)).toNat) ⟨0, by omega, hp, hgl, hgi, by rw [hg1]; exact h0⟩ ?_)
    rintro a1 w1 ⟨j, hj, hp1, hgl1, hgj1, hW⟩
    have hs1 := hp1.size
    have htest : ∀ (b : Bool), b = decide ((j : Int) < (len : Int)) → wpList P [mk (some (n + 3)) (.binOp .lss g.tInt (tm (n + 2)) (tm (n + 1)) 0)].toArray
        (Rt (fun a' w' => a'.eval (tm (n + 3)) = .bool b ∧ a' = a1.put (some (n + 3)) (.bool b) ∧ w' = w1) E) [mk (some (n + 3)) (.binOp .lss g.tInt (tm (n + 2)) (tm (n + 1)) 0)] a1 w1 := by
      intro b hb
      refine wl_cmp (b := b) (p := j) (q := len) (k := .i64) hgj1 hgl1 (.inr (.inr (.inl ⟨rfl, hb⟩))) (wpList_nil ?_)
      exact ⟨by rw [eval_tm, get_put _ _ _ (by omega)], rfl, rfl⟩
    by_cases hlt : j < len
    · refine .seq (R := Rt (fun a' w' => a'.eval (tm (n + 3)) = .bool true ∧ a' = a1.put (some (n + 3)) (.bool true) ∧ w' = w1) E) (.reg (htest true (by simp [hlt]))) (fun a2 w2 hh => ?_) (fun e a w he hq => by cases e <;> first | exact absurd rfl he | exact hq | exact hq.elim)
      obtain ⟨he2, rfl, rfl⟩ := hh
      refine .seq (R := Rt (fun a' w' => a' = a1.put (some (n + 3)) (.bool true) ∧ w' = w2) E) (.condT he2 (.skip ⟨rfl, rfl⟩)) (fun a2 w3 hh => ?_) (fun e a w he hq => by cases e <;> first | exact absurd rfl he | exact hq | exact hq.elim)
      obtain ⟨rfl, rfl⟩ := hh
      refine .seq (R := Rt (fun a3 w3 => Pv 1 i k0 n a a3 ∧ a3.get (n + 1) = .int .i64 (len : Int) ∧ a3.get (n + 2) = .int .i64 (j : Int) ∧ W (j + 1) (a3.get 1) w3) E) (.block (.seq (R := Rt (fun a3 w4 => Pv 1 i k0 n a a3 ∧ a3.get (n + 1) = .int .i64 (len : Int) ∧ a3.get (n + 2) = .int .i64 (j : Int) ∧ a3.get i = .int .i64 (j : Int) ∧ W j (a3.get 1) w4) E) (.reg (wl_move ?_)) (fun a3 w4 hh => ?_) (fun e a w he hq => by cases e <;> first | exact absurd rfl he | exact hq | exact hq.elim)))
        (fun a3 w4 hh => ?_) (fun e a w he hq => by cases e <;> first | exact absurd rfl he | exact hq | exact hq.elim)
      · rw [eval_tm, get_put_ne _ _ _ _ (by omega), hgj1]
        refine wl_assign (wpList_nil ⟨?_, ?_, ?_, ?_, ?_⟩)
        · exact ((hp1.put _ (by omega)).put _ (by omega)).put _ (by omega)
        · rw [get_put_ne _ _ _ _ (by omega), get_put_ne _ _ _ _ (by omega), get_put_ne _ _ _ _ (by omega)]; exact hgl1
        · rw [get_put_ne _ _ _ _ (by omega), get_put_ne _ _ _ _ (by omega), get_put_ne _ _ _ _ (by omega)]; exact hgj1
        · rw [get_put _ _ _ (by simp only [put_size]; omega), eval_tm, get_put _ _ _ (by simp only [put_size]; omega)]
        · rw [get_put_ne _ _ _ _ (by omega), get_put_ne _ _ _ _ (by omega), get_put_ne _ _ _ _ (by omega)]; exact hW
      · obtain ⟨hp3, hgl3, hgj3, hgi3, hW3⟩ := hh
        refine .mono (hbody j a3 w4 hlt hp3 hgi3 hW3) fun e a4 w5 hq => ?_
        cases e <;> first | exact hq.elim | skip
        · obtain ⟨hp4, hW4⟩ := hq
          exact ⟨hp3.trans (hp4.mono (by omega) (by omega)), by rw [hp4.get _ (by omega) (.inr (by omega))]; exact hgl3, by rw [hp4.get _ (by omega) (.inr (by omega))]; exact hgj3, hW4⟩
        · exact hq
      · obtain ⟨hp3, hgl3, hgj3, hW3⟩ := hh
        have hs3 := hp3.size
        have hwr : IntKind.i64.wrap ((j : Int) + 1) = ((j + 1 : Nat) : Int) := by simp only [maxLen] at hlen; simp [IntKind.wrap, IntKind.bits, IntKind.signed]; omega
        refine .reg (wl_bin (v := .int .i64 ((j + 1 : Nat) : Int)) (k := .i64) (m := j) (n := 1) hgj3 rfl (by simp) (by simp [binOp, Op.intArith, hwr]) (wl_move (wpList_nil ?_)))
        rw [eval_tm, get_put _ _ _ (by omega)]
        have hgi' : ((a3.put (some z) (.int .i64 ((j + 1 : Nat) : Int))).put (some (n + 2)) (.int .i64 ((j + 1 : Nat) : Int))).get (n + 2) = .int .i64 ((j + 1 : Nat) : Int) := get_put _ _ _ (by simp only [put_size]; omega)
        refine ⟨⟨j + 1, by omega, (hp3.put _ (by omega)).put _ (by omega), ?_, hgi', ?_⟩, ?_⟩
        · rw [get_put_ne _ _ _ _ (by omega), get_put_ne _ _ _ _ (by omega)]; exact hgl3
        · rw [get_put_ne _ _ _ _ (by omega), get_put_ne _ _ _ _ (by omega)]; exact hW3
        · rw [hgi', hgj1]
          simp only
          omega
    · have hjL : j = len := by omega
      subst hjL
      refine .seq (R := Rt (fun a' w' => a'.eval (tm (n + 3)) = .bool false ∧ a' = a1.put (some (n + 3)) (.bool false) ∧ w' = w1) E) (.reg (htest false (by simp))) (fun a2 w2 hh => ?_) (fun e a w he hq => by cases e <;> first | exact absurd rfl he | exact hq | exact hq.elim)
      obtain ⟨he2, rfl, rfl⟩ := hh
      refine .seq (R := fun e a w => e ≠ .normal ∧ Exit.inBlock b1 (Rt K E) e a w) (.condF he2 (.exit ?_)) (fun a2 w2 hh => absurd rfl hh.1) (fun e a w he hq => ?_)
      · simp only [Exit.inBlock, if_true]
        refine ⟨by simp, hend _ _ (hp1.put _ (by omega)) ?_⟩
        rw [get_put_ne _ _ _ _ (by omega)]; exact hW
      · rw [then_ne he]; exact hq.2

end
end Go.Proofs.YtmkioomgfdpeiacDoor.Kx

/-
  WRITING, 10: the statements of a printed writer.
-/
namespace Go.Proofs.YtmkioomgfdpeiacDoor.Kx
open Go

structure EvW where
  P : Program
  g : GW
  av : PF → Bool
  nl : Bool
def okValW (av : PF → Bool) (hf : Bool) : Ty → Bool
  | .prim p => av (primPF p)
  | .str none => av .str && (!hf || av .cstr)
  | .str (some 0) => av .nstr && (!hf || av .cnstr)
  | .bytes none => av .bytes && (!hf || av .cbytes)
  | .bytes (some 0) => av .nbytes && (!hf || av .cnbytes)
  | _ => false
def xOkW : Ty → List Nat → Bool
  | .prim p, x => x.length == 0 || (x.length == 1 && p != .uuid)
  | _, x => x.length == 0
def wleafOk (e : EvW) (hf : Bool) (m k0 : Nat) (ty : Ty) (v : Nat) (x : List Nat) : Bool := okValW e.av hf ty && decide (m ≤ v ∧ v < k0) && (x.all fun t => decide (m ≤ t ∧ t < k0)) && xOkW ty x
/-- a leaf's value in its slot -/
def LeafAt (w : World) (a : Act) (ty : Ty) (v : Nat) (cs : List Value) : Prop :=
  if isUuid ty then ∃ p, a.get v = pt p 0 ∧ CellsAt w p 0 cs else ∃ y, a.get v = y ∧ cs = [y]

theorem up_wapp (f v : Nat) : Up (gwApp f v) := up_ops _ _
theorem Pv.x1 {v m k0 n : Nat} {a a' : Act} (h : Pv v m k0 n a a') (hv : m ≤ v ∧ v < k0) : Pv 1 m k0 n a a' := ⟨h.size, h.defers, fun s hs hs2 => h.get s (by omega) hs2⟩
theorem Pv.g1 {v m k0 n : Nat} {a a' : Act} (h : Pv v m k0 n a a') (hv : m ≤ v ∧ v < k0) (h1 : 1 < m) : a'.get 1 = a.get 1 := h.get 1 (by omega) (.inl h1)

section
variable {P : Program} {g : GW} {av : PF → Bool} {fl nl : Bool} {te : Nat} {cx : Cx} {fx : Bool} {ver : Int} {L B O m k0 n : Nat} {d : Value} {bs : Bs} {K N E : Act → World → Prop} {Q : Exit → Act → World → Prop} {a : Act} {w : World}

theorem s_wleaf (K0 : KW P g av fl nl te) {ty : Ty} {v : Nat} {x : List Nat} {cs : List Value} {vv : V} {rest : List GC} (hok : wleafOk ⟨P, g, av, nl⟩ cx.hf m k0 ty v x = true) (hw : WC cx fx ver te L B O d bs a w) (hc : CxW cx m k0) (hk : k0 ≤ n) (_hk0 : k0 ≤ a.tmps.size)
    (hn : (gL (gwLeaf g cx ty v x) n).2 ≤ a.tmps.size) (hv : LeafAt w a ty v cs) (hl : LRp w (fun k => L ≤ k) ty cs vv) (hlim : bs.length + ((leafPF fx ty).wr vv).length ≤ LIM)
    (h : ∀ a' w' d', Pv 1 m k0 n a a' → a'.get 1 = d' → Gr L te d w d' (bs ++ (leafPF fx ty).wr vv) w' → LW P rest (gL (gwLeaf g cx ty v x) n).2 Q a' w') :
    LW P (gwLeaf g cx ty v x ++ rest) n Q a w := by
  simp only [wleafOk, Bool.and_eq_true, decide_eq_true_eq, List.all_eq_true] at hok
  obtain ⟨⟨⟨hval, hvs⟩, hxs⟩, hx⟩ := hok
  have hle := hc.le
  have h1m := hc.one
  have hfx : fx = true → cx.hf = true := fun h => by
    cases hh : cx.hf with
    | true => rfl
    | false => rw [hw.nf hh] at h; cases h
  -- one call of an appending function
  have app : ∀ (p : PF) (t : Nat) (y : Value) (r : List GC) (n' : Nat) (a : Act), av p = true → WC cx fx ver te L B O d bs a w → a.get t = y → t < k0 → ValOf p cs y → LRp w (fun k => L ≤ k) (pfTy p) cs vv → k0 ≤ n' → n' + 3 ≤ a.tmps.size → bs.length + (p.wr vv).length ≤ LIM →
      (∀ a' w' d', Pv 1 m k0 n' a a' → a'.get 1 = d' → Gr L te d w d' (bs ++ p.wr vv) w' → LW P r (n' + 3) Q a' w') → LW P (gwApp (g.ap p) t :: r) n' Q a w := by
    intro p t y r n' a hav hw hy ht hvo hl' hkn hn' hlim' h'
    exact LW_cons (s_wapp (K0.apE p hav) (K0.apC p hav w L cs y vv hl' hvo) hw.s1 hy (by omega) hw.dst hw.Lw hlim' hle hkn (by omega) hn' h')
  -- the flexible form or the other
  have app2 : ∀ (p q : PF) (y : Value), (cx.hf = true → av p = true) → av q = true → a.get v = y → (p ≠ .uuid ∧ q ≠ .uuid) → cs = [y] → LRp w (fun k => L ≤ k) (pfTy p) cs vv → LRp w (fun k => L ≤ k) (pfTy q) cs vv →
      (gwFx cx (gwApp (g.ap p) v) (gwApp (g.ap q) v) n).2 ≤ a.tmps.size → bs.length + ((if fx then p else q).wr vv).length ≤ LIM →
      (∀ a' w' d', Pv 1 m k0 n a a' → a'.get 1 = d' → Gr L te d w d' (bs ++ (if fx then p else q).wr vv) w' → LW P rest (gwFx cx (gwApp (g.ap p) v) (gwApp (g.ap q) v) n).2 Q a' w') →
      LW P (gwFx cx (gwApp (g.ap p) v) (gwApp (g.ap q) v) :: rest) n Q a w := by
    intro p q y hp hq hy hpq hcs hlp hlq hn2 hlim2 h2
    have hn1 : n < a.tmps.size := by
      unfold gwFx at hn2
      split at hn2
      · have : n + 1 + 3 + 3 ≤ a.tmps.size := hn2
        omega
      · have : n + 3 ≤ a.tmps.size := hn2
        omega
    refine LW_cons (s_wfx (up_wapp _ _) (up_wapp _ _) hw hc hk hn2 hn1 fun a1 n1 hp1 hg1 hlow hn1 hsz => ?_)
    have hw1 : WC cx fx ver te L B O d bs a1 w := hw.step hc hp1 hg1 (Gr.refl hw.dst)
    have hs1 := hp1.size
    have hv1 : a1.get v = y := by rw [← hy]; exact hlow v (by omega)
    cases fx with
    | true =>
      simp only [if_true] at hsz hlim2 h2 ⊢
      have hsz' : n1 + 3 ≤ a.tmps.size := hsz
      exact s_wapp (K0.apE p (hp (hfx rfl))) (K0.apC p (hp (hfx rfl)) w L cs y vv hlp (by simp only [ValOf, if_neg hpq.1]; exact hcs)) hg1 hv1 (by omega) hw.dst hw.Lw hlim2 hle (by omega) (by omega) (by omega) fun a' w' d' hp' h1' hg' => h2 a' w' d' (hp1.trans (hp'.mono (Nat.le_refl _) hn1)) h1' hg'
    | false =>
      simp only [Bool.false_eq_true, if_false] at hsz hlim2 h2 ⊢
      have hsz' : n1 + 3 ≤ a.tmps.size := hsz
      exact s_wapp (K0.apE q hq) (K0.apC q hq w L cs y vv hlq (by simp only [ValOf, if_neg hpq.2]; exact hcs)) hg1 hv1 (by omega) hw.dst hw.Lw hlim2 hle (by omega) (by omega) (by omega) fun a' w' d' hp' h1' hg' => h2 a' w' d' (hp1.trans (hp'.mono (Nat.le_refl _) hn1)) h1' hg'
  cases ty with
  | prim p =>
    have hpp : pfTy (primPF p) = .prim p := by cases p <;> rfl
    have hlp : LRp w (fun k => L ≤ k) (pfTy (primPF p)) cs vv := by rw [hpp]; exact hl
    by_cases hu : p = .uuid
    · subst hu
      obtain ⟨q, hq, hcs⟩ := hv
      have hav : av .uuid = true := hval
      have hlen : cs.length = 16 := hl.len
      exact LW_cons (s_wappU (K0.uuid hav).1 (K0.apE _ hav) (K0.apC _ hav w L cs _ vv hlp rfl) hw.s1 hq hcs hlen (by omega) hw.dst hw.Lw hlim hle hk (by omega) hn h)
    · have hiu : isUuid (.prim p) = false := by cases p <;> first | rfl | exact absurd rfl hu
      simp only [LeafAt, hiu, Bool.false_eq_true, if_false] at hv
      obtain ⟨y, hy, hcs⟩ := hv
      have hvo : ValOf (primPF p) cs y := by
        have : primPF p ≠ .uuid := by cases p <;> first | decide | exact absurd rfl hu
        simp only [ValOf, if_neg this]; exact hcs
      have hcode0 : gwLeaf g cx (.prim p) v [] = [gwApp (g.ap (primPF p)) v] := by cases p <;> first | rfl | exact absurd rfl hu
      have hcode1 : ∀ t, gwLeaf g cx (.prim p) v [t] = [gMove v t, gwApp (g.ap (primPF p)) t] := fun t => by cases p <;> first | rfl | exact absurd rfl hu
      simp only [xOkW, Bool.or_eq_true, Bool.and_eq_true, beq_iff_eq] at hx
      rcases hx with hx | ⟨hx, _⟩
      · obtain rfl := List.eq_nil_of_length_eq_zero hx
        rw [hcode0] at hn h ⊢
        exact app _ v y rest n a hval hw hy hvs.2 hvo hlp hk hn hlim h
      · obtain ⟨t, rfl⟩ := List.length_eq_one_iff.1 hx
        have ht := hxs t (by simp)
        rw [hcode1] at hn h ⊢
        have hn' : n + 1 + 3 ≤ a.tmps.size := hn
        show LW P (gMove v t :: (gwApp (g.ap (primPF p)) t :: rest)) n Q a w
        refine LW_cons (s_move (x := t) (m := m) (k0 := k0) (.inl rfl) hle hk (by omega) (by omega) fun a1 hp1 hg1 => ?_)
        have hp1' := hp1.x1 ht
        have hs1 := hp1.size
        show LW P (gwApp (g.ap (primPF p)) t :: rest) (n + 1) Q a1 w
        refine app _ t y rest (n + 1) a1 hval (hw.step hc hp1' (by rw [hp1.g1 ht h1m]; exact hw.s1) (Gr.refl hw.dst)) (hg1.trans hy) ht.2 hvo hlp (by omega) (by omega) hlim fun a' w' d' hp' h1' hg' => h a' w' d' (hp1'.trans (hp'.mono (Nat.le_refl _) (by omega))) h1' hg'
  | str nul =>
    obtain ⟨y, hy, hcs⟩ := hv
    obtain rfl : x = [] := List.eq_nil_of_length_eq_zero (by simpa [xOkW] using hx)
    cases nul with
    | none =>
      simp only [okValW, Bool.and_eq_true, Bool.or_eq_true, Bool.not_eq_true'] at hval
      have e : leafPF fx (.str none) = if fx then .cstr else .str := by cases fx <;> rfl
      rw [e] at hlim h
      exact app2 .cstr .str y (fun hf => by rcases hval.2 with h | h; rw [h] at hf; cases hf; exact h) hval.1 hy ⟨by decide, by decide⟩ hcs hl hl hn hlim h
    | some q =>
      cases q with
      | zero =>
        simp only [okValW, Bool.and_eq_true, Bool.or_eq_true, Bool.not_eq_true'] at hval
        have e : leafPF fx (.str (some 0)) = if fx then .cnstr else .nstr := by cases fx <;> rfl
        rw [e] at hlim h
        exact app2 .cnstr .nstr y (fun hf => by rcases hval.2 with h | h; rw [h] at hf; cases hf; exact h) hval.1 hy ⟨by decide, by decide⟩ hcs hl hl hn hlim h
      | succ q => cases hval
  | bytes nul =>
    obtain ⟨y, hy, hcs⟩ := hv
    obtain rfl : x = [] := List.eq_nil_of_length_eq_zero (by simpa [xOkW] using hx)
    cases nul with
    | none =>
      simp only [okValW, Bool.and_eq_true, Bool.or_eq_true, Bool.not_eq_true'] at hval
      have e : leafPF fx (.bytes none) = if fx then .cbytes else .bytes := by cases fx <;> rfl
      rw [e] at hlim h
      exact app2 .cbytes .bytes y (fun hf => by rcases hval.2 with h | h; rw [h] at hf; cases hf; exact h) hval.1 hy ⟨by decide, by decide⟩ hcs hl hl hn hlim h
    | some q =>
      cases q with
      | zero =>
        simp only [okValW, Bool.and_eq_true, Bool.or_eq_true, Bool.not_eq_true'] at hval
        have e : leafPF fx (.bytes (some 0)) = if fx then .cnbytes else .nbytes := by cases fx <;> rfl
        rw [e] at hlim h
        exact app2 .cnbytes .nbytes y (fun hf => by rcases hval.2 with h | h; rw [h] at hf; cases hf; exact h) hval.1 hy ⟨by decide, by decide⟩ hcs hl hl hn hlim h
      | succ q => cases hval
  | list _ _ _ => cases hval
  | struct _ _ _ => cases hval
end
end Go.Proofs.YtmkioomgfdpeiacDoor.Kx

/-
  WRITING, 11: more statements of a printed writer: values of 16 octets, elements, counts, tags.
-/
namespace Go.Proofs.YtmkioomgfdpeiacDoor.Kx
open Go

section
variable {P : Program} {g : GW} {av : PF → Bool} {fl nl : Bool} {te : Nat} {cx : Cx} {fx : Bool} {ver : Int} {L B O m k0 n : Nat} {d : Value} {bs : Bs} {K N E : Act → World → Prop} {Q : Exit → Act → World → Prop} {a : Act} {w : World}

theorem cellsAt_row {w : World} {b F : Nat} {cs : List Value} (hb : w.heap[b]? = some (.cells cs.toArray F (0, 0))) : CellsAt w b 0 cs := by
  intro j c hj
  rw [Nat.zero_add]
  simp [World.cell?, hb, hj]
/-- a new variable of 16 octets -/
theorem wl_boxU {F n v : Nat} {cs : List Value} {ops : Array Oper} {QQ : Exit → Act → World → Prop} (hV : VarIs P F true 16) (hz : ∀ w, (zeroValue F).run P w = .ok (.agg (Array.replicate 16 (.int .u8 0))) w) (hl : cs.length = 16) (h1 : ∀ u ∈ cs, u.oneCell' = true) (hn : a.get n = .agg cs.toArray) (hnv : n ≠ v) (hvs : v < a.tmps.size)
    (h : ∀ w', Keeps (fun _ => False) w w' → CellsAt w' w.heap.size 0 cs → wpList P ops QQ [] (a.put (some v) (pt w.heap.size 0)) w') :
    wpList P ops QQ [mk (some v) (.alloc F), mk none (.store F (tm v) (tm n))] a w := by
  refine wl_alloc (hz w) ?_
  let Z : Obj := .cells (Value.agg (Array.replicate 16 (.int .u8 0))).cells F (0, 0)
  have hb : (w.alloc Z).heap[w.heap.size]? = some Z := heap_alloc_new' w Z
  have hzs : (Value.agg (Array.replicate 16 (.int .u8 0))).cells.size = 16 := by simp [Value.cells]
  refine wl_store (g := w.heap.size) (o := 0) (cur := (Value.agg (Array.replicate 16 (.int .u8 0))).cells) (t := F) (v := .agg cs.toArray) (vs := cs) (by rw [eval_tm, get_put _ _ _ hvs]) (by rw [eval_tm, get_put_ne _ _ _ _ hnv]; exact hn) rfl (by rw [hl]; exact hV.size _) hb (by rw [hl]; omega) h1 ?_
  rw [splice_whole (by rw [hl]; exact hzs.symm)]
  have hk : Keeps (fun k => w.heap.size ≤ k) w ((w.alloc Z).setRow w.heap.size cs.toArray) := (Keeps.alloc _ _ _).trans (Keeps.setRow (fun k => w.heap.size ≤ k) _ _ _ (Nat.le_refl _))
  refine h _ (hk.mono fun k hk hX => by omega) ?_
  have hb2 := setRow_heap _ _ _ cs.toArray _ _ hb
  exact cellsAt_row hb2

theorem cells_one {X : Nat → Prop} {cs : List Value} {v : V} (h : LRp w X (.prim .uuid) cs v) : cs.length = 16 ∧ ∀ u ∈ cs, u.oneCell' = true := by
  obtain ⟨l, hl, rfl, _⟩ := h
  exact ⟨by rw [List.length_map]; exact hl, oct_one⟩

/-- v := s.F, of a type without parts -/
theorem s_wget {ty : Ty} {s v T k F off : Nat} {vv : V} (hleaf : ty.leaf = true) (hs : a.get s = pt B O) (hF : FldIs P T k F off ty.agg ty.sz) (hU : isUuid ty = true → VarIs P F true 16 ∧ ∀ w, (zeroValue F).run P w = .ok (.agg (Array.replicate 16 (.int .u8 0))) w) {X : Nat → Prop} (_hX : ∀ k, ¬ X k → k < w.heap.size → True)
    (hr : Rp w X ty B (O + off) vv) (hv : m ≤ v ∧ v < k0) (hm : m ≤ k0) (hk : k0 ≤ n) (hn : n + 4 ≤ a.tmps.size) (h1 : 1 < m)
    (h : ∀ a' w' cs, Pv 1 m k0 n a a' → a'.get 1 = a.get 1 → Keeps (fun _ => False) w w' → LeafAt w' a' ty v cs → LRp w' X ty cs vv → K a' w') : NWP P (gwGet ty s v T k F n).1 (Exit.then K Q) a w := by
  have hcs : ∃ cs, CellsAt w B (O + off) cs ∧ LRp w X ty cs vv := by
    cases ty with
    | prim p => exact hr
    | str q => exact hr
    | bytes q => exact hr
    | list _ _ _ => cases hleaf
    | struct _ _ _ => cases hleaf
  obtain ⟨cs, hc, hl⟩ := hcs
  by_cases hu : isUuid ty = true
  · obtain rfl : ty = .prim .uuid := by
      cases ty with
      | prim p => cases p <;> first | rfl | cases hu
      | _ => cases hu
    obtain ⟨hV, hz⟩ := hU rfl
    obtain ⟨hlen, hone⟩ := cells_one hl
    show NWP P (gwLoadU s v T k F n).1 (Exit.then K Q) a w
    refine nwp_rg (wl_move ?_)
    rw [eval_tm, hs]
    refine wl_nilCheck (by rw [eval_tm, get_put _ _ _ (by omega)]; rfl) ?_
    refine wl_fld (by rw [eval_tm, get_put _ _ _ (by simp only [put_size]; omega)]) hF ?_
    refine wl_loadN (b := B) (o := O + off) (cs := cs) (by rw [eval_tm, get_put _ _ _ (by simp only [put_size]; omega)]) (hF.var.agg w) (by rw [hlen]; exact hF.var.size w) hc ?_
    refine wl_boxU hV hz hlen hone (get_put _ _ _ (by simp only [put_size]; omega)) (by omega) (by simp only [put_size]; omega) fun w' hk' hc' => wpList_nil (h _ w' cs ?_ ?_ hk' ?_ (hl.keep (hk'.mono fun _ _ h => h.elim)))
    · exact (((((Pv.refl _ _ _ _ _).put _ (by omega)).put _ (by omega)).put _ (by omega)).put _ (by omega)).put _ (by omega)
    · rw [get_put_ne _ _ _ _ (by omega), get_put_ne _ _ _ _ (by omega), get_put_ne _ _ _ _ (by omega), get_put_ne _ _ _ _ (by omega), get_put_ne _ _ _ _ (by omega)]
    · exact ⟨w.heap.size, get_put _ _ _ (by simp only [put_size]; omega), hc'⟩
  · have hu' : isUuid ty = false := by simpa using hu
    have hone : ∃ y, cs = [y] := by
      have hlen := hl.len
      have : ty.sz = 1 := by
        cases ty with
        | prim p => cases p <;> first | rfl | exact absurd rfl hu
        | str _ => rfl
        | bytes _ => rfl
        | list _ _ _ => rfl
        | struct _ _ _ => cases hleaf
      rw [this] at hlen
      exact List.length_eq_one_iff.1 hlen
    obtain ⟨y, rfl⟩ := hone
    have hagg : ty.agg = false ∧ ty.sz = 1 := by
      cases ty with
      | prim p => cases p <;> first | exact ⟨rfl, rfl⟩ | exact absurd rfl hu
      | str _ => exact ⟨rfl, rfl⟩
      | bytes _ => exact ⟨rfl, rfl⟩
      | list _ _ _ => cases hleaf
      | struct _ _ _ => cases hleaf
    rw [hagg.1, hagg.2] at hF
    unfold gwGet
    rw [hu']
    simp only [Bool.false_eq_true, if_false]
    refine s_load (x := v) (m := m) (k0 := k0) hs hF (hc 0 y rfl) (.inl rfl) hm hk hn (by omega) fun a' hp hg => h a' w [y] (hp.x1 hv) (hp.g1 hv h1) (Keeps.refl _ _) ?_ hl
    simp only [LeafAt, hu', Bool.false_eq_true, if_false]
    exact ⟨y, hg, rfl⟩

/-- e := v[i], of a type without parts -/
theorem s_widx {ty : Ty} {v i e F E' p q cnt c j : Nat} {vv : V} (hleaf : ty.leaf = true) (hy : a.get v = .slice (some ⟨p, q, none⟩) cnt c) (hi : a.get i = .int .i64 j) (hj : j < cnt) (hF : P.underlying F = some (.slice E')) (hE : VarIs P E' ty.agg ty.sz) (hU : isUuid ty = true → VarIs P E' true 16 ∧ ∀ w, (zeroValue E').run P w = .ok (.agg (Array.replicate 16 (.int .u8 0))) w) {X : Nat → Prop}
    (hr : Rp w X ty p (q + j * ty.sz) vv) (hv : m ≤ e ∧ e < k0) (_hvn : v < n) (hin : i < n) (_hm : m ≤ k0) (hk : k0 ≤ n) (hn : n + 4 ≤ a.tmps.size) (h1 : 1 < m)
    (h : ∀ a' w' cs, Pv 1 m k0 n a a' → a'.get 1 = a.get 1 → Keeps (fun _ => False) w w' → LeafAt w' a' ty e cs → LRp w' X ty cs vv → K a' w') : NWP P (gwIdxG ty v i e F E' n).1 (Exit.then K Q) a w := by
  have hcs : ∃ cs, CellsAt w p (q + j * ty.sz) cs ∧ LRp w X ty cs vv := by
    cases ty with
    | prim p => exact hr
    | str q => exact hr
    | bytes q => exact hr
    | list _ _ _ => cases hleaf
    | struct _ _ _ => cases hleaf
  obtain ⟨cs, hc, hl⟩ := hcs
  by_cases hu : isUuid ty = true
  · obtain rfl : ty = .prim .uuid := by
      cases ty with
      | prim p => cases p <;> first | rfl | cases hu
      | _ => cases hu
    obtain ⟨hV, hz⟩ := hU rfl
    obtain ⟨hlen, hone⟩ := cells_one hl
    show NWP P (gwIdxU v i e F E' n).1 (Exit.then K Q) a w
    refine nwp_rg (wl_move (wl_move ?_))
    rw [eval_tm, hy, eval_tm, get_put_ne _ _ _ _ (by omega), hi]
    refine wl_indexAddr (b := p) (o := q) (n := cnt) (c := c) (i := j) (k := .i64) (by rw [eval_tm, get_put_ne _ _ _ _ (by omega), get_put _ _ _ (by omega)]) (by rw [eval_tm, get_put _ _ _ (by simp only [put_size]; omega)]) hj hF (hE.size w) ?_
    refine wl_loadN (b := p) (o := q + j * Ty.sz (.prim .uuid)) (cs := cs) (by rw [eval_tm, get_put _ _ _ (by simp only [put_size]; omega)]) (hE.agg w) (by rw [hlen]; exact hE.size w) hc ?_
    refine wl_boxU hV hz hlen hone (get_put _ _ _ (by simp only [put_size]; omega)) (by omega) (by simp only [put_size]; omega) fun w' hk' hc' => wpList_nil (h _ w' cs ?_ ?_ hk' ?_ (hl.keep (hk'.mono fun _ _ h => h.elim)))
    · exact (((((Pv.refl _ _ _ _ _).put _ (by omega)).put _ (by omega)).put _ (by omega)).put _ (by omega)).put _ (by omega)
    · rw [get_put_ne _ _ _ _ (by omega), get_put_ne _ _ _ _ (by omega), get_put_ne _ _ _ _ (by omega), get_put_ne _ _ _ _ (by omega), get_put_ne _ _ _ _ (by omega)]
    · exact ⟨w.heap.size, get_put _ _ _ (by simp only [put_size]; omega), hc'⟩
  · have hu' : isUuid ty = false := by simpa using hu
    have hagg : ty.agg = false ∧ ty.sz = 1 := by
      cases ty with
      | prim p => cases p <;> first | exact ⟨rfl, rfl⟩ | exact absurd rfl hu
      | str _ => exact ⟨rfl, rfl⟩
      | bytes _ => exact ⟨rfl, rfl⟩
      | list _ _ _ => cases hleaf
      | struct _ _ _ => cases hleaf
    have hone : ∃ y, cs = [y] := by
      have hlen := hl.len
      rw [hagg.2] at hlen
      exact List.length_eq_one_iff.1 hlen
    obtain ⟨y, rfl⟩ := hone
    rw [hagg.1, hagg.2] at hE
    unfold gwIdxG
    rw [hu']
    simp only [Bool.false_eq_true, if_false]
    refine nwp_rg (wl_move (wl_move ?_))
    rw [eval_tm, hy, eval_tm, get_put_ne _ _ _ _ (by omega), hi]
    refine wl_indexAddr (b := p) (o := q) (n := cnt) (c := c) (i := j) (k := .i64) (by rw [eval_tm, get_put_ne _ _ _ _ (by omega), get_put _ _ _ (by omega)]) (by rw [eval_tm, get_put _ _ _ (by simp only [put_size]; omega)]) hj hF (hE.size w) ?_
    refine wl_load1 (v := y) (by rw [eval_tm, get_put _ _ _ (by simp only [put_size]; omega)]) (hE.agg w) (by have := hc 0 y rfl; rw [hagg.2] at this; exact this) ?_
    refine wl_assign (wpList_nil (h _ w [y] ?_ ?_ (Keeps.refl _ _) ?_ hl))
    · exact (((((Pv.refl _ _ _ _ _).put _ (by omega)).put _ (by omega)).put _ (by omega)).put _ (by omega)).put _ (by omega)
    · rw [get_put_ne _ _ _ _ (by omega), get_put_ne _ _ _ _ (by omega), get_put_ne _ _ _ _ (by omega), get_put_ne _ _ _ _ (by omega), get_put_ne _ _ _ _ (by omega)]
    · simp only [LeafAt, hu', Bool.false_eq_true, if_false]
      exact ⟨y, by rw [get_put _ _ _ (by simp only [put_size]; omega), eval_tm, get_put _ _ _ (by simp only [put_size]; omega)], rfl⟩

/-- e := &v[i] -/
theorem s_widxAddr {v i e F E' p q cnt c j sz : Nat} (hy : a.get v = .slice (some ⟨p, q, none⟩) cnt c) (hi : a.get i = .int .i64 j) (hj : j < cnt) (hF : P.underlying F = some (.slice E')) (hE : ∀ w, (sizeOf E').run P w = .ok sz w)
    (hv : m ≤ e ∧ e < k0) (_hvn : v < n) (hin : i < n) (_hm : m ≤ k0) (hk : k0 ≤ n) (hn : n + 3 ≤ a.tmps.size) (h1 : 1 < m)
    (h : ∀ a', Pv 1 m k0 n a a' → a'.get 1 = a.get 1 → a'.get e = pt p (q + j * sz) → K a' w) : NWP P (gIdxAddr v i e F n).1 (Exit.then K Q) a w := by
  refine nwp_rg (wl_move (wl_move ?_))
  rw [eval_tm, hy, eval_tm, get_put_ne _ _ _ _ (by omega), hi]
  refine wl_indexAddr (b := p) (o := q) (n := cnt) (c := c) (i := j) (k := .i64) (by rw [eval_tm, get_put_ne _ _ _ _ (by omega), get_put _ _ _ (by omega)]) (by rw [eval_tm, get_put _ _ _ (by simp only [put_size]; omega)]) hj hF (hE w) ?_
  refine wl_assign (wpList_nil (h _ ?_ ?_ ?_))
  · exact ((((Pv.refl _ _ _ _ _).put _ (by omega)).put _ (by omega)).put _ (by omega)).put _ (by omega)
  · rw [get_put_ne _ _ _ _ (by omega), get_put_ne _ _ _ _ (by omega), get_put_ne _ _ _ _ (by omega), get_put_ne _ _ _ _ (by omega)]
  · rw [get_put _ _ _ (by simp only [put_size]; omega), eval_tm, get_put _ _ _ (by simp only [put_size]; omega)]; rfl

/-- dst = append(dst, c) -/
theorem s_wbyte (K0 : KW P g av fl nl te) {c : Nat} (hc : c < 256) (h1 : a.get 1 = d) (hd : DstAt w L te d bs) (hL : L ≤ w.heap.size) (hlim : bs.length + 1 ≤ LIM) (hm : m ≤ k0) (hk : k0 ≤ n) (h1m : 1 < n) (hn : n + 3 ≤ a.tmps.size)
    (h : ∀ a' w' d', Pv 1 m k0 n a a' → a'.get 1 = d' → Gr L te d w d' (bs ++ [UInt8.ofNat c]) w' → K a' w') : NWP P (gwByte g c n).1 (Exit.then K Q) a w := by
  refine nwp_rg (wl_move ?_)
  rw [eval_tm, h1]
  have ho : octv (UInt8.ofNat c) = .int .u8 (c : Int) := by simp [octv, UInt8.toNat_ofNat]; omega
  refine wl_buildSlice (l := [UInt8.ofNat c]) K0.oct ?_ (by simp) (by simp) ?_
  · simp only [List.map_cons, List.map_nil, ho, prs]
    rfl
  have hk' : Keeps (fun _ => False) w (w.alloc (.cells ([UInt8.ofNat c].map octv).toArray te (0, 0))) := Keeps.alloc _ _ _
  have hoct : OctAt (w.alloc (.cells ([UInt8.ofNat c].map octv).toArray te (0, 0))) w.heap.size 0 [UInt8.ofNat c] := by
    intro j b hj
    have := heap_alloc_new' w (.cells ([UInt8.ofNat c].map octv).toArray te (0, 0))
    simp only [World.cell?, this, Nat.zero_add, List.getElem?_toArray, List.getElem?_map, hj]
    rfl
  refine wl_appendDst K0.oct (d := d) (L := L) (bs := bs) (l := [UInt8.ofNat c]) ?_ (x := .slice (some ⟨w.heap.size, 0, none⟩) 1 1) ?_ (hd.keep hk' fun _ _ h => h) (src_oct K0.oct hoct) (by have := hk'.size; omega) hlim fun d' w' hg => ?_
  · rw [eval_tm, get_put_ne _ _ _ _ (by omega), get_put _ _ _ (by omega)]
  · rw [eval_tm, get_put _ _ _ (by rw [put_size]; omega)]
    rfl
  refine wl_assign (wpList_nil (h _ w' d' ?_ ?_ (Gr.pre hk' (fun _ _ h => h) hg)))
  · exact ((((Pv.refl _ _ _ _ _).put _ (by omega)).put _ (by omega)).put _ (by omega)).put _ (.inl rfl)
  · rw [get_put _ _ _ (by simp only [put_size]; omega), eval_tm, get_put _ _ _ (by simp only [put_size]; omega)]

end
end Go.Proofs.YtmkioomgfdpeiacDoor.Kx

/-
  WRITING, 12: counts, tags; what a plan must be for its printed writer to be sound.
-/
namespace Go.Proofs.YtmkioomgfdpeiacDoor.Kx
open Go

section
variable {P : Program} {g : GW} {av : PF → Bool} {fl nl : Bool} {te : Nat} {cx : Cx} {fx : Bool} {ver : Int} {L B O m k0 n : Nat} {d : Value} {bs : Bs} {K N E : Act → World → Prop} {Q : Exit → Act → World → Prop} {a : Act} {w : World}

theorem s_wlenA {f v F E' len c : Nat} {base : Option Addr} {enc : Bs} (hE : Ent P f) (hc : ApC P te f (.int .i64 len) enc w) (h1 : a.get 1 = d) (hv : a.get v = .slice base len c) (hF : P.underlying F = some (.slice E')) (hvn : v < n) (hd : DstAt w L te d bs) (hL : L ≤ w.heap.size) (hlim : bs.length + enc.length ≤ LIM) (hm : m ≤ k0) (hk : k0 ≤ n) (_h1m : 1 < n) (hn : n + 4 ≤ a.tmps.size)
    (h : ∀ a' w' d', Pv 1 m k0 n a a' → a'.get 1 = d' → Gr L te d w d' (bs ++ enc) w' → K a' w') : NWP P (gwLenA g f v F n).1 (Exit.then K Q) a w := by
  refine nwp_rg (wl_move (wl_move (wl_len (base := base) (n := len) (c := c) (by rw [eval_tm, get_put _ _ _ (by simp only [put_size]; omega), eval_tm, get_put_ne _ _ _ _ (by omega)]; exact hv) hF ?_)))
  refine wl_callSet hE ?_ (hc L) hd hL hlim (by simp only [put_size]; omega) fun w' d' hg => wpList_nil (h _ w' d' ?_ (get_put _ _ _ (by simp only [put_size]; omega)) hg)
  · simp only [List.map_cons, List.map_nil, eval_tm]
    rw [get_put_ne _ _ _ _ (by omega), get_put_ne _ _ _ _ (by omega), get_put _ _ _ (by omega), get_put _ _ _ (by simp only [put_size]; omega), h1]
  · exact (((((Pv.refl _ _ _ _ _).put _ (by omega)).put _ (by omega)).put _ (by omega)).put _ (by omega)).put _ (.inl rfl)
theorem s_wlenN {f v F E' len c : Nat} {base : Option Addr} {enc : Bs} (hE : Ent P f) (hc : Calls P f #[d, .int .i64 len, .bool base.isNone] w fun e w' => ∃ d', e = .returned d' ∧ Gr L te d w d' (bs ++ enc) w') (h1 : a.get 1 = d) (hv : a.get v = .slice base len c) (hF : P.underlying F = some (.slice E')) (hvn : v < n) (hm : m ≤ k0) (hk : k0 ≤ n) (_h1m : 1 < n) (hn : n + 6 ≤ a.tmps.size)
    (h : ∀ a' w' d', Pv 1 m k0 n a a' → a'.get 1 = d' → Gr L te d w d' (bs ++ enc) w' → K a' w') : NWP P (gwLenN g f v F n).1 (Exit.then K Q) a w := by
  refine nwp_rg (wl_move (wl_move (wl_len (base := base) (n := len) (c := c) (by rw [eval_tm, get_put _ _ _ (by simp only [put_size]; omega), eval_tm, get_put_ne _ _ _ _ (by omega)]; exact hv) hF (wl_move ?_))))
  refine wl_slNil (m := base) (n := len) (c := c) hF (by rw [eval_tm, get_put _ _ _ (by simp only [put_size]; omega), eval_tm, get_put_ne _ _ _ _ (by omega), get_put_ne _ _ _ _ (by omega), get_put_ne _ _ _ _ (by omega)]; exact hv) ?_
  refine wl_call (vs := #[d, .int .i64 len, .bool base.isNone]) hE ?_ hc fun e w' hR => ?_
  · simp only [List.map_cons, List.map_nil, eval_tm]
    rw [get_put_ne _ _ _ _ (by omega), get_put_ne _ _ _ _ (by omega), get_put_ne _ _ _ _ (by omega), get_put_ne _ _ _ _ (by omega), get_put _ _ _ (by omega), get_put_ne _ _ _ _ (by omega), get_put_ne _ _ _ _ (by omega), get_put _ _ _ (by simp only [put_size]; omega), get_put _ _ _ (by simp only [put_size]; omega), h1]
  obtain ⟨d', he, hg⟩ := hR
  refine ⟨d', he, wl_assign (wpList_nil (h _ w' d' ?_ ?_ hg))⟩
  · exact (((((((Pv.refl _ _ _ _ _).put _ (by omega)).put _ (by omega)).put _ (by omega)).put _ (by omega)).put _ (by omega)).put _ (by omega)).put _ (.inl rfl)
  · rw [get_put _ _ _ (by simp only [put_size]; omega), eval_tm, get_put _ _ _ (by simp only [put_size]; omega)]

/-- how many things a list has, ahead of them -/
theorem s_wlen (K0 : KW P g av fl nl te) {nul : Option Nat} {v F E' len c : Nat} {base : Option Addr} (hnl : nul.isSome = true → nl = true) (hhl : nul.isSome = false → hasLstW g cx.hf = true) (hfl : cx.hf = true → fl = true) (hw : WC cx fx ver te L B O d bs a w) (hc : CxW cx m k0) (hv : a.get v = .slice base len c) (hF : P.underlying F = some (.slice E')) (hvn : v < k0) (hk : k0 ≤ n) (hn : (gwLen g cx nul v F n).2 ≤ a.tmps.size)
    (hlim : bs.length + (if nul.isSome && base.isNone then wNull fx 4 else wCnt fx len).length ≤ LIM)
    (h : ∀ a' w' d', Pv 1 m k0 n a a' → a'.get 1 = d' → Gr L te d w d' (bs ++ (if nul.isSome && base.isNone then wNull fx 4 else wCnt fx len)) w' → K a' w') : NWP P (gwLen g cx nul v F n).1 (Exit.then K Q) a w := by
  have hle := hc.le
  have h1m := hc.one
  have hfx : fx = true → cx.hf = true := fun h => by
    cases hh : cx.hf with
    | true => rfl
    | false => rw [hw.nf hh] at h; cases h
  cases nul with
  | none =>
    have hhl := hhl rfl
    simp only [hasLstW, Bool.and_eq_true, Bool.or_eq_true, Bool.not_eq_true'] at hhl
    simp only [Option.isSome_none, Bool.false_and, Bool.false_eq_true, if_false] at hlim h
    have hn2 : (gwFx cx (gwLenA g g.calen v F) (gwLenA g g.alen v F) n).2 ≤ a.tmps.size := hn
    have hn1 : n < a.tmps.size := by
      unfold gwFx at hn2
      split at hn2
      · have : n + 1 + 4 + 4 ≤ a.tmps.size := hn2
        omega
      · have : n + 4 ≤ a.tmps.size := hn2
        omega
    refine s_wfx (up_ops _ _) (up_ops _ _) hw hc hk hn2 hn1 fun a1 n1 hp1 hg1 hlow hnn hsz => ?_
    have hs1 := hp1.size
    have hv1 : a1.get v = .slice base len c := by rw [hlow v (by omega)]; exact hv
    cases fx with
    | true =>
      simp only [if_true] at hsz ⊢
      have hsz' : n1 + 4 ≤ a.tmps.size := hsz
      exact s_wlenA (K0.clE (hfl (hfx rfl)) (hhl.2.resolve_left (by rw [hfx rfl]; simp))) (K0.clC (hfl (hfx rfl)) (hhl.2.resolve_left (by rw [hfx rfl]; simp)) len w) hg1 hv1 hF (by omega) hw.dst hw.Lw hlim hle (by omega) (by omega) (by omega) fun a' w' d' hp' h1' hg' => h a' w' d' (hp1.trans (hp'.mono (Nat.le_refl _) hnn)) h1' hg'
    | false =>
      simp only [Bool.false_eq_true, if_false] at hsz ⊢
      have hsz' : n1 + 4 ≤ a.tmps.size := hsz
      exact s_wlenA (K0.alE hhl.1) (K0.alC hhl.1 len w) hg1 hv1 hF (by omega) hw.dst hw.Lw hlim hle (by omega) (by omega) (by omega) fun a' w' d' hp' h1' hg' => h a' w' d' (hp1.trans (hp'.mono (Nat.le_refl _) hnn)) h1' hg'
  | some q =>
    simp only [Option.isSome_some, Bool.true_and] at hlim h
    have hnl' := hnl rfl
    have hn2 : (gwFx cx (gwLenN g g.cnalen v F) (gwLenN g g.nalen v F) n).2 ≤ a.tmps.size := hn
    have hn1 : n < a.tmps.size := by
      unfold gwFx at hn2
      split at hn2
      · have : n + 1 + 6 + 6 ≤ a.tmps.size := hn2
        omega
      · have : n + 6 ≤ a.tmps.size := hn2
        omega
    refine s_wfx (up_ops _ _) (up_ops _ _) hw hc hk hn2 hn1 fun a1 n1 hp1 hg1 hlow hnn hsz => ?_
    have hs1 := hp1.size
    have hv1 : a1.get v = .slice base len c := by rw [hlow v (by omega)]; exact hv
    cases fx with
    | true =>
      simp only [if_true] at hsz ⊢
      have hsz' : n1 + 6 ≤ a.tmps.size := hsz
      exact s_wlenN (K0.cnE hnl' (hfl (hfx rfl))) (K0.cnC hnl' (hfl (hfx rfl)) len base.isNone w L d bs hw.dst hw.Lw hlim) hg1 hv1 hF (by omega) hle (by omega) (by omega) (by omega) fun a' w' d' hp' h1' hg' => h a' w' d' (hp1.trans (hp'.mono (Nat.le_refl _) hnn)) h1' hg'
    | false =>
      simp only [Bool.false_eq_true, if_false] at hsz ⊢
      have hsz' : n1 + 6 ≤ a.tmps.size := hsz
      exact s_wlenN (K0.nlE hnl') (K0.nlC hnl' len base.isNone w L d bs hw.dst hw.Lw hlim) hg1 hv1 hF (by omega) hle (by omega) (by omega) (by omega) fun a' w' d' hp' h1' hg' => h a' w' d' (hp1.trans (hp'.mono (Nat.le_refl _) hnn)) h1' hg'

/-- the tags of a part -/
theorem s_wtags (K0 : KW P g av fl nl te) {T kt _off F sz : Nat} {agg : Bool} {t : List (Nat × Bs)} {toff : Option Nat} {rest : List GC} (hfl : cx.hf = true → fl = true) (hw : WC cx fx ver te L B O d bs a w) (hc : CxW cx m k0) (hk : k0 ≤ n) (hn : (gL (gwTags g cx T kt) n).2 ≤ a.tmps.size)
    (htoff : match toff with | some o => cx.hf = true ∧ FldIs P T kt F o agg sz | none => cx.hf = false) (ht : TgAt w (fun k => L ≤ k) B O toff t) (hlim : bs.length + (wTagsC fx t).length ≤ LIM)
    (h : ∀ a' w' d', Pv 1 m k0 n a a' → a'.get 1 = d' → Gr L te d w d' (bs ++ wTagsC fx t) w' → LW P rest (gL (gwTags g cx T kt) n).2 Q a' w') : LW P (gwTags g cx T kt ++ rest) n Q a w := by
  have hle := hc.le
  have h1m := hc.one
  have hsm := hc.s
  cases toff with
  | none =>
    have hf : cx.hf = false := htoff
    have hfx := hw.nf hf
    subst hfx
    obtain rfl : t = [] := ht
    have e : gwTags g cx T kt = [] := by simp [gwTags, hf]
    rw [e] at hn h ⊢
    exact h a w d (Pv.refl _ _ _ _ _) hw.s1 (by simpa [wTagsC] using Gr.refl hw.dst)
  | some o =>
    obtain ⟨hf, hF⟩ := htoff
    obtain ⟨mm, hmm, htg⟩ := ht
    have hfl' := hfl hf
    have e : gwTags g cx T kt = [gFx cx (gS [gwTagLen g cx.s T kt, gwTagEach g cx.s T kt]) gSkip] := by simp [gwTags, hf]
    rw [e] at hn h ⊢
    have hn' : n + 1 + 8 + 5 ≤ a.tmps.size := hn
    refine LW_cons (s_fx (x := n) (m := m) (k0 := k0) (hw.sf hf) hle hk (by omega) fun a1 hp1 => ?_)
    have hp1' : Pv 1 m k0 n a a1 := ⟨hp1.size, hp1.defers, fun s hs hs2 => hp1.get s (by omega) hs2⟩
    have hs1 := hp1.size
    have hg1 : a1.get 1 = d := by rw [hp1.get 1 (by omega) (.inl h1m)]; exact hw.s1
    have hss : a1.get cx.s = pt B O := by rw [hp1.get _ (by omega) (.inl hsm.1)]; exact hw.ss
    cases fx with
    | false =>
      simp only [Bool.false_eq_true, if_false]
      exact .skip (h a1 w d hp1' hg1 (by simpa [wTagsC] using Gr.refl hw.dst))
    | true =>
      simp only [if_true]
      have hlen : (wTagsC true t).length = (uvar (w32 t.length)).length + (wTags t).length := by simp [wTagsC]
      rw [hlen] at hlim
      refine nwp_gS (LW_cons (nwp_rg (wl_move (wl_move ?_))))
      rw [eval_tm, hg1, eval_tm, get_put_ne _ _ _ _ (by omega), hss]
      refine wl_nilCheck (by rw [eval_tm, get_put _ _ _ (by simp only [put_size]; omega)]; rfl) ?_
      refine wl_fld (by rw [eval_tm, get_put _ _ _ (by simp only [put_size]; omega)]) hF ?_
      refine wl_call (vs := #[pt B (O + o)]) (K0.tlE hfl') ?_ (K0.tlC hfl' w B (O + o) mm _ t hmm htg) fun e2 w2 hR => ⟨_, hR.1, ?_⟩
      · simp only [List.map_cons, List.map_nil, eval_tm]
        rw [get_put _ _ _ (by simp only [put_size]; omega)]
        rfl
      have hk2 := hR.2
      refine wl_convInt (k := .i64) (k' := .u32) (m := t.length) (by rw [eval_tm, get_put _ _ _ (by simp only [put_size]; omega)]) K0.dInt (K0.dU32 hfl') ?_
      refine wl_bin (k := .u32) (m := 0) (n := IntKind.u32.wrap t.length) rfl (by rw [eval_tm, get_put _ _ _ (by simp only [put_size]; omega)]) (by simp) (run_add w2) ?_
      have hwr : IntKind.u32.wrap (0 + IntKind.u32.wrap (t.length : Int)) = (w32 t.length : Nat) := by simp [IntKind.wrap, IntKind.bits, IntKind.signed, w32]
      rw [hwr]
      refine wl_callSet (K0.uvE hfl') ?_ (K0.uvC hfl' (w32 t.length) w2 (w32_lt _) L) (hw.dst.keep hk2 fun _ _ h => h) (Nat.le_trans hw.Lw hk2.size) (by omega) (by simp only [put_size]; omega) fun w3 d3 hg3 => wpList_nil ?_
      · simp only [List.map_cons, List.map_nil, eval_tm]
        rw [get_put_ne _ _ _ _ (by omega), get_put_ne _ _ _ _ (by omega), get_put_ne _ _ _ _ (by omega), get_put_ne _ _ _ _ (by omega), get_put_ne _ _ _ _ (by omega), get_put_ne _ _ _ _ (by omega), get_put _ _ _ (by omega), get_put _ _ _ (by simp only [put_size]; omega)]
      have hg03 : Gr L te d w d3 (bs ++ uvar (w32 t.length)) w3 := Gr.pre hk2 (fun _ _ h => h) hg3
      have hfar := Gr.far hw.dst hg03
      have hmm3 : w3.cell? ⟨B, O + o, none⟩ = some mm := hfar.cell (by have := hw.BL; omega) hmm
      have htg3 := htg.keep hfar
      -- the slots behind the first statement
      have key : ∀ (a2 : Act), Pv 1 m k0 n a a2 → a2.get 1 = d3 → a2.get cx.s = pt B O → LW P [gwTagEach g cx.s T kt] (n + 1 + 8) (Exit.then (LW P rest (gL [gFx cx (gS [gwTagLen g cx.s T kt, gwTagEach g cx.s T kt]) gSkip] n).2 Q) Q) a2 w3 := by
        intro a2 hp2 hg2 hss2
        have hs2 := hp2.size
        refine LW_cons (nwp_rg (wl_move ?_))
        rw [eval_tm, hss2]
        refine wl_nilCheck (by rw [eval_tm, get_put _ _ _ (by omega)]; rfl) ?_
        refine wl_fld (by rw [eval_tm, get_put _ _ _ (by simp only [put_size]; omega)]) hF (wl_move ?_)
        rw [eval_tm, get_put_ne _ _ _ _ (by omega), get_put_ne _ _ _ _ (by omega), get_put_ne _ _ _ _ (by omega), hg2]
        refine wl_call (vs := #[pt B (O + o), d3]) (K0.teE hfl') ?_ (K0.teC hfl' w3 B (O + o) mm L t d3 _ hmm3 hw.BL htg3 hg03.dst (Nat.le_trans hw.Lw hg03.keeps.size) (by rw [List.length_append]; omega)) fun e4 w4 hR4 => ?_
        · simp only [List.map_cons, List.map_nil, eval_tm]
          rw [get_put_ne _ _ _ _ (by omega), get_put _ _ _ (by simp only [put_size]; omega), get_put _ _ _ (by simp only [put_size]; omega)]
          rfl
        obtain ⟨d4, he4, hg4⟩ := hR4
        refine ⟨d4, he4, wl_assign (wpList_nil (LW_nil (h _ w4 d4 ?_ ?_ ?_)))⟩
        · exact hp2.trans ((((((Pv.refl _ _ _ _ _).put _ (by omega)).put _ (by omega)).put _ (by omega)).put _ (by omega)).put _ (by omega) |>.put _ (.inl rfl))
        · rw [get_put _ _ _ (by simp only [put_size]; omega), eval_tm, get_put _ _ _ (by simp only [put_size]; omega)]
        · have := hg03.trans hg4
          simpa [wTagsC, List.append_assoc] using this
      refine key _ ?_ (get_put _ _ _ (by simp only [put_size]; omega)) ?_
      · exact hp1'.trans (((((((((Pv.refl _ _ _ _ _).put _ (by omega)).put _ (by omega)).put _ (by omega)).put _ (by omega)).put _ (by omega)).put _ (by omega)).put _ (by omega)).put _ (by omega) |>.put _ (.inl rfl))
      · have hs1' := hsm.1
        have hs2' := hsm.2
        rw [get_put_ne _ _ _ _ (by omega), get_put_ne _ _ _ _ (by omega), get_put_ne _ _ _ _ (by omega), get_put_ne _ _ _ _ (by omega), get_put_ne _ _ _ _ (by omega), get_put_ne _ _ _ _ (by omega), get_put_ne _ _ _ _ (by omega), get_put_ne _ _ _ _ (by omega), get_put_ne _ _ _ _ (by omega)]; exact hss
end
end Go.Proofs.YtmkioomgfdpeiacDoor.Kx

/-
  WRITING, 13: SOUND: the printed writer of a plan does what the plan's plain writer says.
-/
namespace Go.Proofs.YtmkioomgfdpeiacDoor.Kx
open Go

/-! ## What a plan must be -/
def ptrB (P : Program) (F : Nat) : Bool := match P.underlying F with | some (.pointer _) => true | _ => false
def okStW (e : EvW) (hf : Bool) (T kt : Nat) (toff : Option Nat) : Bool := match toff with | some o => hf && fldB e.P T kt (fldT e.P T kt) o true 1 | none => !hf
mutual
def okTyW (e : EvW) (hf : Bool) (m k0 T off : Nat) : Ty → Nm → Bool
  | .prim p, nm => wleafOk e hf m k0 (.prim p) (nm.n 0) (nm.l.drop 4) && nm.n 1 == T && fldB e.P T (nm.n 2) (nm.n 3) off (Ty.agg (.prim p)) (Ty.sz (.prim p)) && (p != .uuid || nm.n 3 == e.g.tUuid)
  | .str nul, nm => wleafOk e hf m k0 (.str nul) (nm.n 0) (nm.l.drop 4) && nm.n 1 == T && fldB e.P T (nm.n 2) (nm.n 3) off false 1
  | .bytes nul, nm => wleafOk e hf m k0 (.bytes nul) (nm.n 0) [] && nm.n 1 == T && fldB e.P T (nm.n 2) (nm.n 3) off false 1
  | .list nul esz el, nm =>
    decide (m ≤ nm.n 0 ∧ nm.n 0 < nm.n 4 ∧ nm.n 4 < k0) && nm.n 1 == T && fldB e.P T (nm.n 2) (nm.n 3) off false 1 && (!nul.isSome || e.nl) &&
    (match rowOf e.P (nm.n 3) with
      | some (E, sz, _) => sz == esz && okElW e hf (nm.n 4 + 1) k0 E esz el (nm.sub 0) && (nul.isSome || hasLstW e.g hf)
      | none => false)
  | .struct none toff fs, nm =>
    decide (m ≤ nm.n 0 ∧ nm.n 0 < k0) && nm.n 1 == T && fldB e.P T (nm.n 2) (fldT e.P T (nm.n 2)) off true (sizeT e.P (fldT e.P T (nm.n 2))) && okStW e hf (nm.n 3) (nm.n 4) toff && okFdsW e hf (nm.n 0 + 1) k0 (nm.n 3) fs (nm.sub 0).s
  | .struct (some _) toff fs, nm =>
    decide (m ≤ nm.n 0 ∧ nm.n 0 < k0) && nm.n 1 == T && fldB e.P T (nm.n 2) (nm.n 3) off false 1 && ptrB e.P (nm.n 3) && okStW e hf (nm.n 4) (nm.n 5) toff && okFdsW e hf (nm.n 0 + 1) k0 (nm.n 4) fs (nm.sub 0).s
def okElW (e : EvW) (hf : Bool) (m k0 E esz : Nat) : Ty → Nm → Bool
  | .struct none toff fs, nm => decide (m ≤ nm.n 0 ∧ nm.n 0 < k0) && okStW e hf (nm.n 1) (nm.n 2) toff && okFdsW e hf (nm.n 0 + 1) k0 (nm.n 1) fs (nm.sub 0).s
  | .struct (some _) _ _, _ => false
  | .list _ _ _, _ => false
  | .prim p, nm => wleafOk e hf m k0 (.prim p) (nm.n 0) (nm.l.drop 2) && nm.n 1 == E && varB e.P E (Ty.agg (.prim p)) (Ty.sz (.prim p)) && Ty.sz (.prim p) == esz && (p != .uuid || E == e.g.tUuid)
  | .str nul, nm => wleafOk e hf m k0 (.str nul) (nm.n 0) (nm.l.drop 2) && nm.n 1 == E && varB e.P E false 1 && 1 == esz
  | .bytes nul, nm => wleafOk e hf m k0 (.bytes nul) (nm.n 0) (nm.l.drop 2) && nm.n 1 == E && varB e.P E false 1 && 1 == esz
def okFdsW (e : EvW) (hf : Bool) (m k0 T : Nat) : Fds → List Nm → Bool
  | .nil, _ => true
  | .cons _ _ tag _ off ty r, ms => tag.isNone && okTyW e hf m k0 T off ty (ms.headD (.mk [] [])) && okFdsW e hf m k0 T r ms.tail
end

/-! ## Slots only grow -/
def toG (g : GW) : G := ⟨fun _ => 0, fun _ => 0, 0, 0, 0, 0, 0, 0, 0, 0, 0, 0, g.tVer, 0, 0, 0, 0, 0, 0, 0, 0, 0, 0⟩
theorem gwGuard_eq (g : GW) (cx : Cx) (lo : Nat) (hi : Option Nat) (A : GC) : gwGuard g cx lo hi A = gGuard (toG g) cx lo hi A := by cases hi <;> rfl
theorem up_wfx {cx : Cx} {A B : GC} (hA : Up A) (hB : Up B) : Up (gwFx cx A B) := up_ite (up_if hA hB) hB
theorem upL_wleaf (g : GW) (cx : Cx) (ty : Ty) (v : Nat) (x : List Nat) : UpL (gwLeaf g cx ty v x) := by
  unfold gwLeaf
  split
  · exact upL_cons (up_ops _ _) upL_nil
  · split
    · exact upL_cons (up_ops _ _) (upL_cons (up_ops _ _) upL_nil)
    · exact upL_cons (up_ops _ _) upL_nil
  all_goals first | exact upL_cons (up_wfx (up_ops _ _) (up_ops _ _)) upL_nil | exact upL_nil
theorem upL_wtags (g : GW) (cx : Cx) (T kt : Nat) : UpL (gwTags g cx T kt) :=
  upL_ite (upL_cons (up_if (up_S (upL_cons (up_ops _ _) (upL_cons (up_ops _ _) upL_nil))) (up_code _)) upL_nil) upL_nil
theorem up_wlen (g : GW) (cx : Cx) (nul : Option Nat) (v F : Nat) : Up (gwLen g cx nul v F) := by
  cases nul <;> exact up_wfx (up_ops _ _) (up_ops _ _)
theorem up_wfor (g : GW) (v i b1 b2 F : Nat) {body : List GC} (h : UpL body) : Up (gwFor g v i b1 b2 F body) := fun n => by
  have := h (n + 5)
  show n ≤ (gL body (n + 5)).2 + 1
  omega
theorem up_wguard {g : GW} {cx : Cx} {lo : Nat} {hi : Option Nat} {A : GC} (h : Up A) : Up (gwGuard g cx lo hi A) := by
  cases hi with
  | none => exact up_ite h (up_if h (up_code _))
  | some q => exact up_if h (up_code _)
theorem up_wget (ty : Ty) (s v T k F : Nat) : Up (gwGet ty s v T k F) := up_ite (up_ops _ _) (up_ops _ _)
theorem up_widx (ty : Ty) (v i e F E : Nat) : Up (gwIdxG ty v i e F E) := up_ite (up_ops _ _) (up_ops _ _)
mutual
theorem upL_wty (g : GW) : ∀ (ty : Ty) (cx : Cx) (nm : Nm), UpL (gwTy g cx ty nm)
  | .prim _, _cx, _nm => upL_cons (up_wget _ _ _ _ _ _) (upL_wleaf _ _ _ _ _)
  | .str _, _cx, _nm => upL_cons (up_ops _ _) (upL_wleaf _ _ _ _ _)
  | .bytes _, _cx, _nm => upL_cons (up_ops _ _) (upL_wleaf _ _ _ _ _)
  | .list _nul _ e, cx, _nm => upL_cons (up_ops _ _) (upL_cons (up_wlen _ _ _ _ _) (upL_cons (up_wfor _ _ _ _ _ _ (upL_wel g e cx _ _ _ _)) upL_nil))
  | .struct none _ fs, _cx, _nm => upL_cons (up_ops _ _) (upL_append (upL_wfds g fs _ _) (upL_wtags _ _ _ _))
  | .struct (some _) _ fs, _cx, _nm => upL_cons (up_ops _ _) (upL_cons (up_if (up_ops _ _) (up_S (upL_cons (up_ops _ _) (upL_append (upL_wfds g fs _ _) (upL_wtags _ _ _ _))))) upL_nil)
theorem upL_wel (g : GW) : ∀ (ty : Ty) (cx : Cx) (v i F : Nat) (nm : Nm), UpL (gwEl g cx ty v i F nm)
  | .prim _, _cx, _v, _i, _F, _nm => upL_cons (up_widx _ _ _ _ _ _) (upL_wleaf _ _ _ _ _)
  | .str _, _cx, _v, _i, _F, _nm => upL_cons (up_widx _ _ _ _ _ _) (upL_wleaf _ _ _ _ _)
  | .bytes _, _cx, _v, _i, _F, _nm => upL_cons (up_widx _ _ _ _ _ _) (upL_wleaf _ _ _ _ _)
  | .list _ _ _, _cx, _v, _i, _F, _nm => upL_cons (up_widx _ _ _ _ _ _) (upL_wleaf _ _ _ _ _)
  | .struct _ _ fs, _cx, _v, _i, _F, _nm => upL_cons (up_ops _ _) (upL_append (upL_wfds g fs _ _) (upL_wtags _ _ _ _))
theorem upL_wfds (g : GW) : ∀ (fs : Fds) (cx : Cx) (ms : List Nm), UpL (gwFds g cx fs ms)
  | .nil, _, _ => upL_nil
  | .cons _lo _hi _tag _ _ ty r, cx, _ms => upL_ite (upL_cons (up_wguard (up_S (upL_wty g ty cx _))) (upL_wfds g r cx _)) (upL_wfds g r cx _)
end

theorem RpF.far {L : Nat} {w w' : World} (hk : Keeps (fun k => L ≤ k) w w') {fs : Fds} {b o : Nat} {vs : List V} (h : RpF w (fun k => L ≤ k) fs b o vs) (hb : b < L) (hL : L ≤ w.heap.size) : RpF w' (fun k => L ≤ k) fs b o vs :=
  RpF.frame hk fs b o vs 0 h fun j _ _ => cell_of_block (hk.block b (by omega) (by omega)) j
theorem TgAt.far {L : Nat} {w w' : World} (hk : Keeps (fun k => L ≤ k) w w') {toff : Option Nat} {b o : Nat} {t : List (Nat × Bs)} (h : TgAt w (fun k => L ≤ k) b o toff t) (hb : b < L) (hL : L ≤ w.heap.size) : TgAt w' (fun k => L ≤ k) b o toff t :=
  h.frame hk fun k _ => cell_of_block (hk.block b (by omega) (by omega)) _
theorem Keeps.none {X : Nat → Prop} {w w' : World} (h : Keeps (fun _ => False) w w') : Keeps X w w' := h.mono fun _ _ h => h.elim

section
variable (P : Program) (g : GW) (av : PF → Bool) (fl nl : Bool) (te : Nat)

def WrTy (ty : Ty) : Prop :=
  ∀ (nm : Nm) (cx : Cx) (fx : Bool) (ver : Int) (B O L m k0 n T off : Nat) (v : V) (d : Value) (bs : Bs) (K E : Act → World → Prop) (a : Act) (w : World),
    okTyW ⟨P, g, av, nl⟩ cx.hf m k0 T off ty nm = true → WC cx fx ver te L B O d bs a w → CxW cx m k0 → (cx.hf = true → fl = true) → k0 ≤ n → k0 ≤ a.tmps.size → (gL (gwTy g cx ty nm) n).2 ≤ a.tmps.size →
    Rp w (fun k => L ≤ k) ty B (O + off) v → bs.length + (wrTy fx ver ty v).length ≤ LIM →
    (∀ a' w' d', Pv 1 m k0 n a a' → a'.get 1 = d' → Gr L te d w d' (bs ++ wrTy fx ver ty v) w' → K a' w') → LW P (gwTy g cx ty nm) n (Rt K E) a w
def WrEl (ty : Ty) : Prop :=
  ∀ (nm : Nm) (cx : Cx) (fx : Bool) (ver : Int) (B O L m k0 n esz vs i F E' p q cnt c j : Nat) (v : V) (d : Value) (bs : Bs) (K E : Act → World → Prop) (a : Act) (w : World),
    okElW ⟨P, g, av, nl⟩ cx.hf m k0 E' esz ty nm = true → WC cx fx ver te L B O d bs a w → CxW cx m k0 → (cx.hf = true → fl = true) → k0 ≤ n → k0 ≤ a.tmps.size → (gL (gwEl g cx ty vs i F nm) n).2 ≤ a.tmps.size →
    a.get vs = .slice (some ⟨p, q, none⟩) cnt c → a.get i = .int .i64 j → j < cnt → vs < m → i < m → P.underlying F = some (.slice E') → (∀ w, (sizeOf E').run P w = .ok esz w) → p < L →
    Rp w (fun k => L ≤ k) ty p (q + j * esz) v → bs.length + (wrTy fx ver ty v).length ≤ LIM →
    (∀ a' w' d', Pv 1 m k0 n a a' → a'.get 1 = d' → Gr L te d w d' (bs ++ wrTy fx ver ty v) w' → K a' w') → LW P (gwEl g cx ty vs i F nm) n (Rt K E) a w
def WrFds (fs : Fds) : Prop :=
  ∀ (ms : List Nm) (cx : Cx) (fx : Bool) (ver : Int) (B O L m k0 n T : Nat) (vs : List V) (d : Value) (bs : Bs) (K E : Act → World → Prop) (a : Act) (w : World),
    okFdsW ⟨P, g, av, nl⟩ cx.hf m k0 T fs ms = true → WC cx fx ver te L B O d bs a w → CxW cx m k0 → (cx.hf = true → fl = true) → k0 ≤ n → k0 ≤ a.tmps.size → (gL (gwFds g cx fs ms) n).2 ≤ a.tmps.size →
    RpF w (fun k => L ≤ k) fs B O vs → bs.length + (wrFds fx ver fs vs).length ≤ LIM →
    (∀ a' w' d', Pv 1 m k0 n a a' → a'.get 1 = d' → Gr L te d w d' (bs ++ wrFds fx ver fs vs) w' → K a' w') → LW P (gwFds g cx fs ms) n (Rt K E) a w
end

section
variable {P : Program} {g : GW} {av : PF → Bool} {fl nl : Bool} {te : Nat}

/-- a part: its fields, its tags -/
theorem w_st (K0 : KW P g av fl nl te) {fs : Fds} (hfs : WrFds P g av fl nl te fs) {ms : List Nm} {cx : Cx} {fx : Bool} {ver : Int} {B O L m k0 n T kt : Nat} {toff : Option Nat} {vs : List V} {t : List (Nat × Bs)} {d : Value} {bs : Bs} {K E : Act → World → Prop} {a : Act} {w : World}
    (hst : okStW ⟨P, g, av, nl⟩ cx.hf T kt toff = true) (hok : okFdsW ⟨P, g, av, nl⟩ cx.hf m k0 T fs ms = true) (hw : WC cx fx ver te L B O d bs a w) (hc : CxW cx m k0) (hfl : cx.hf = true → fl = true) (hk : k0 ≤ n) (hk0 : k0 ≤ a.tmps.size) (hn : (gL (gwFds g cx fs ms ++ gwTags g cx T kt) n).2 ≤ a.tmps.size)
    (hr : RpF w (fun k => L ≤ k) fs B O vs) (ht : TgAt w (fun k => L ≤ k) B O toff t) (hlim : bs.length + (wrFds fx ver fs vs ++ wTagsC fx t).length ≤ LIM)
    (h : ∀ a' w' d', Pv 1 m k0 n a a' → a'.get 1 = d' → Gr L te d w d' (bs ++ (wrFds fx ver fs vs ++ wTagsC fx t)) w' → K a' w') : LW P (gwFds g cx fs ms ++ gwTags g cx T kt) n (Rt K E) a w := by
  rw [gL_append] at hn
  rw [List.length_append] at hlim
  have hup := upL_wtags g cx T kt (gL (gwFds g cx fs ms) n).2
  have hup0 := upL_wfds g fs cx ms n
  refine LW_append ?_
  rw [then_rt]
  refine hfs ms cx fx ver B O L m k0 n T vs d bs _ E a w hok hw hc hfl hk hk0 (Nat.le_trans hup hn) hr (by omega) fun a1 w1 d1 hp1 hg1 hgr1 => ?_
  have hs1 := hp1.size
  have hw1 := hw.step hc hp1 hg1 hgr1
  have hfar := Gr.far hw.dst hgr1
  have e : gwTags g cx T kt = gwTags g cx T kt ++ [] := (List.append_nil _).symm
  rw [e]
  refine s_wtags (_off := 0) (F := fldT P T kt) (sz := 1) (agg := true) K0 hfl hw1 hc (by omega) (by rw [hs1]; exact hn) ?_ (ht.far hfar hw.BL hw.Lw) (by rw [List.length_append]; omega) fun a' w' d' hp' h1' hg' => LW_nil (h a' w' d' (hp1.trans (hp'.mono (Nat.le_refl _) hup0)) h1' ?_)
  · cases toff with
    | none => simpa [okStW] using hst
    | some o =>
      simp only [okStW, Bool.and_eq_true] at hst
      exact ⟨hst.1, fldB_ok hst.2⟩
  · rw [← List.append_assoc]; exact hgr1.trans hg'

theorem wfds_nil : WrFds P g av fl nl te .nil := fun ms cx fx ver B O L m k0 n T vs d bs K E a w hok hw hc hfl hk hk0 hn hr hlim h =>
  LW_nil (h a w d (Pv.refl _ _ _ _ _) hw.s1 (by simpa [wrFds] using Gr.refl hw.dst))
theorem wfds_cons {lo : Nat} {hi tag : Option Nat} {df : Int} {off : Nat} {ty : Ty} {r : Fds} (hty : WrTy P g av fl nl te ty) (hr0 : WrFds P g av fl nl te r) : WrFds P g av fl nl te (.cons lo hi tag df off ty r) := by
  intro ms cx fx ver B O L m k0 n T vs d bs K E a w hok hw hc hfl hk hk0 hn hr hlim h
  simp only [okFdsW, Bool.and_eq_true] at hok
  obtain ⟨⟨htag, hoky⟩, hokr⟩ := hok
  obtain ⟨v, vs', rfl, hv, hrs⟩ := hr
  have hcode : gwFds g cx (.cons lo hi tag df off ty r) ms = gwGuard g cx lo hi (gS (gwTy g cx ty (ms.headD (.mk [] [])))) :: gwFds g cx r ms.tail := by simp only [gwFds, htag, if_true]
  have hwr : wrFds fx ver (.cons lo hi tag df off ty r) (v :: vs') = (if has lo hi ver then wrTy fx ver ty v else []) ++ wrFds fx ver r vs' := by
    simp only [wrFds, htag, Bool.true_and, List.headD_cons, List.tail_cons]
  rw [hcode] at hn ⊢
  rw [hwr] at hlim h
  rw [List.length_append] at hlim
  have hupA : Up (gS (gwTy g cx ty (ms.headD (.mk [] [])))) := up_S (upL_wty g ty cx _)
  have hupR := upL_wfds g r cx ms.tail (gwGuard g cx lo hi (gS (gwTy g cx ty (ms.headD (.mk [] [])))) n).2
  have hupG : n ≤ (gwGuard g cx lo hi (gS (gwTy g cx ty (ms.headD (.mk [] [])))) n).2 := up_wguard hupA n
  have hn1 : (gwGuard g cx lo hi (gS (gwTy g cx ty (ms.headD (.mk [] [])))) n).2 ≤ a.tmps.size := Nat.le_trans hupR hn
  have hle := hc.le
  have h1m := hc.one
  have hvm := hc.ver
  -- the rest
  have rest : ∀ (a1 : Act) (w1 : World) (d1 : Value) (enc : Bs), Pv 1 m k0 n a a1 → a1.get 1 = d1 → Gr L te d w d1 (bs ++ enc) w1 → enc = (if has lo hi ver then wrTy fx ver ty v else []) → LW P (gwFds g cx r ms.tail) (gwGuard g cx lo hi (gS (gwTy g cx ty (ms.headD (.mk [] [])))) n).2 (Rt K E) a1 w1 := by
    intro a1 w1 d1 enc hp1 hg1 hgr1 he
    have hs1 := hp1.size
    refine hr0 ms.tail cx fx ver B O L m k0 _ T vs' d1 (bs ++ enc) K E a1 w1 hokr (hw.step hc hp1 hg1 hgr1) hc hfl (by omega) (by omega) (by rw [hs1]; exact hn) (hrs.far (Gr.far hw.dst hgr1) hw.BL hw.Lw) (by rw [List.length_append, he]; omega) fun a' w' d' hp' h1' hg' => h a' w' d' (hp1.trans (hp'.mono (Nat.le_refl _) hupG)) h1' ?_
    rw [← he, ← List.append_assoc]
    exact hgr1.trans hg'
  refine LW_cons ?_
  rw [then_rt]
  rw [gwGuard_eq] at hn1 hupG rest ⊢
  refine s_guard (x := n) (m := m) (k0 := k0) hw.sv hle hk (by omega) hupA hn1 (fun a1 n1 hp1 hnn hn6 hgg hhas => ?_) (fun a1 hp1 hhas => ?_)
  · have hp1' : Pv 1 m k0 n a a1 := ⟨hp1.size, hp1.defers, fun s hs hs2 => hp1.get s (by omega) hs2⟩
    have hs1 := hp1.size
    have hg1 : a1.get 1 = d := by rw [hp1.get 1 (by omega) (.inl h1m)]; exact hw.s1
    refine nwp_gS (hty (ms.headD (.mk [] [])) cx fx ver B O L m k0 n1 T off v d bs _ E a1 w hoky (hw.step hc hp1' hg1 (Gr.refl hw.dst)) hc hfl (by omega) (by omega) ?_ hv (by rw [if_pos hhas] at hlim; omega) fun a' w' d' hp' h1' hg' => rest a' w' d' _ (hp1'.trans (hp'.mono (Nat.le_refl _) hnn)) h1' hg' (by rw [if_pos hhas]))
    rw [hs1]
    have : (gL (gwTy g cx ty (ms.headD (.mk [] []))) n1).2 = (gS (gwTy g cx ty (ms.headD (.mk [] []))) n1).2 := rfl
    rw [this, ← hgg]; exact hn1
  · have hp1' : Pv 1 m k0 n a a1 := ⟨hp1.size, hp1.defers, fun s hs hs2 => hp1.get s (by omega) hs2⟩
    have hg1 : a1.get 1 = d := by rw [hp1.get 1 (by omega) (.inl h1m)]; exact hw.s1
    exact rest a1 w d [] hp1' hg1 (by simpa using Gr.refl hw.dst) (by rw [hhas]; rfl)

theorem leaf_wr (fx : Bool) (ver : Int) (ty : Ty) (v : V) (h : ty.leaf = true) : wrTy fx ver ty v = (leafPF fx ty).wr v := by
  cases ty with
  | prim p => simp [wrTy]
  | str q => simp [wrTy]
  | bytes q => simp [wrTy]
  | list _ _ _ => cases h
  | struct _ _ _ => cases h

/-- a field of a type without parts -/
theorem wty_leaf (K0 : KW P g av fl nl te) {ty : Ty} (hl : ty.leaf = true) {x : Nm → List Nat} (hcode : ∀ cx nm, gwTy g cx ty nm = gwGet ty cx.s (nm.n 0) (nm.n 1) (nm.n 2) (nm.n 3) :: gwLeaf g cx ty (nm.n 0) (x nm))
    (hok : ∀ hf m k0 T off nm, okTyW ⟨P, g, av, nl⟩ hf m k0 T off ty nm = true → wleafOk ⟨P, g, av, nl⟩ hf m k0 ty (nm.n 0) (x nm) = true ∧ nm.n 1 = T ∧ fldB P T (nm.n 2) (nm.n 3) off ty.agg ty.sz = true ∧ (isUuid ty = true → nm.n 3 = g.tUuid ∧ av .uuid = true)) : WrTy P g av fl nl te ty := by
  intro nm cx fx ver B O L m k0 n T off v d bs K E a w hoky hw hc hfl hk hk0 hn hr hlim h
  obtain ⟨h1, hT, h2, h3⟩ := hok _ _ _ _ _ _ hoky
  subst hT
  rw [hcode] at hn ⊢
  rw [leaf_wr fx ver ty v hl] at hlim h
  have hvs : m ≤ nm.n 0 ∧ nm.n 0 < k0 := by
    simp only [wleafOk, Bool.and_eq_true, decide_eq_true_eq] at h1
    exact h1.1.1.2
  have hup := upL_wleaf g cx ty (nm.n 0) (x nm) (gwGet ty cx.s (nm.n 0) (nm.n 1) (nm.n 2) (nm.n 3) n).2
  have hget : (gwGet ty cx.s (nm.n 0) (nm.n 1) (nm.n 2) (nm.n 3) n).2 = n + 4 := by unfold gwGet; split <;> rfl
  have hn2 : (gL (gwLeaf g cx ty (nm.n 0) (x nm)) (gwGet ty cx.s (nm.n 0) (nm.n 1) (nm.n 2) (nm.n 3) n).2).2 ≤ a.tmps.size := hn
  rw [hget] at hup hn2
  refine LW_cons (s_wget (off := off) (X := fun k => L ≤ k) hl hw.ss (fldB_ok h2) (fun hu => by obtain ⟨e1, e2⟩ := h3 hu; rw [e1]; exact K0.uuid e2) (fun _ _ _ => trivial) hr hvs hc.le hk (by omega) hc.one fun a1 w1 cs hp1 hg1 hk1 hla hlr => ?_)
  rw [hget]
  have hs1 := hp1.size
  have hgr1 : Gr L te d w d bs w1 := Gr.pre hk1 (fun _ _ h => h) (Gr.refl (hw.dst.keep hk1 fun _ _ h => h))
  have e : gwLeaf g cx ty (nm.n 0) (x nm) = gwLeaf g cx ty (nm.n 0) (x nm) ++ [] := (List.append_nil _).symm
  rw [e]
  exact s_wleaf K0 h1 (hw.step hc hp1 (hg1.trans hw.s1) hgr1) hc (by omega) (by omega) (by rw [hs1]; exact hn2) hla hlr hlim fun a' w' d' hp' h1' hg' => LW_nil (h a' w' d' (hp1.trans (hp'.mono (Nat.le_refl _) (by omega))) h1' (Gr.pre hk1 (fun _ _ h => h) hg'))

/-- an element of a type without parts -/
theorem wel_leaf (K0 : KW P g av fl nl te) {ty : Ty} (hl : ty.leaf = true) (hcode : ∀ cx v i F nm, gwEl g cx ty v i F nm = gwIdxG ty v i (nm.n 0) F (nm.n 1) :: gwLeaf g cx ty (nm.n 0) (nm.l.drop 2))
    (hok : ∀ hf m k0 E' esz nm, okElW ⟨P, g, av, nl⟩ hf m k0 E' esz ty nm = true → wleafOk ⟨P, g, av, nl⟩ hf m k0 ty (nm.n 0) (nm.l.drop 2) = true ∧ nm.n 1 = E' ∧ varB P E' ty.agg ty.sz = true ∧ ty.sz = esz ∧ (isUuid ty = true → E' = g.tUuid ∧ av .uuid = true)) : WrEl P g av fl nl te ty := by
  intro nm cx fx ver B O L m k0 n esz vs i F E' p q cnt c j v d bs K E a w hoky hw hc hfl hk hk0 hn hvs hi hj hvm him hF hE hpL hr hlim h
  obtain ⟨h1, hE', h2, rfl, h3⟩ := hok _ _ _ _ _ _ hoky
  rw [hcode, hE'] at hn ⊢
  rw [leaf_wr fx ver ty v hl] at hlim h
  have hsl : m ≤ nm.n 0 ∧ nm.n 0 < k0 := by
    simp only [wleafOk, Bool.and_eq_true, decide_eq_true_eq] at h1
    exact h1.1.1.2
  have hle := hc.le
  have hget : (gwIdxG ty vs i (nm.n 0) F E' n).2 = n + 4 := by unfold gwIdxG; split <;> rfl
  have hup := upL_wleaf g cx ty (nm.n 0) (nm.l.drop 2) (n + 4)
  have hn2 : (gL (gwLeaf g cx ty (nm.n 0) (nm.l.drop 2)) (gwIdxG ty vs i (nm.n 0) F E' n).2).2 ≤ a.tmps.size := hn
  rw [hget] at hn2
  refine LW_cons (s_widx (X := fun k => L ≤ k) hl hvs hi hj hF (varB_ok h2) (fun hu => by obtain ⟨e1, e2⟩ := h3 hu; rw [e1]; exact K0.uuid e2) hr hsl (by omega) (by omega) hle hk (by omega) hc.one fun a1 w1 cs hp1 hg1 hk1 hla hlr => ?_)
  rw [hget]
  have hs1 := hp1.size
  have hgr1 : Gr L te d w d bs w1 := Gr.pre hk1 (fun _ _ h => h) (Gr.refl (hw.dst.keep hk1 fun _ _ h => h))
  have e : gwLeaf g cx ty (nm.n 0) (nm.l.drop 2) = gwLeaf g cx ty (nm.n 0) (nm.l.drop 2) ++ [] := (List.append_nil _).symm
  rw [e]
  exact s_wleaf K0 h1 (hw.step hc hp1 (hg1.trans hw.s1) hgr1) hc (by omega) (by omega) (by rw [hs1]; exact hn2) hla hlr hlim fun a' w' d' hp' h1' hg' => LW_nil (h a' w' d' (hp1.trans (hp'.mono (Nat.le_refl _) (by omega))) h1' (Gr.pre hk1 (fun _ _ h => h) hg'))

end
end Go.Proofs.YtmkioomgfdpeiacDoor.Kx

/-
  WRITING, 14: SOUND: lists, parts, every plan; what 'AppendTo' of a message does.
-/
namespace Go.Proofs.YtmkioomgfdpeiacDoor.Kx
open Go

section
variable {P : Program} {g : GW} {av : PF → Bool} {fl nl : Bool} {te : Nat}

theorem wel_struct (K0 : KW P g av fl nl te) {toff : Option Nat} {fs : Fds} (hfs : WrFds P g av fl nl te fs) : WrEl P g av fl nl te (.struct none toff fs) := by
  intro nm cx fx ver B O L m k0 n esz vs i F E' p q cnt c j v d bs K E a w hoky hw hc hfl hk hk0 hn hvs hi hj hvm him hF hE hpL hr hlim h
  simp only [okElW, Bool.and_eq_true, decide_eq_true_eq] at hoky
  obtain ⟨⟨hsl, hst⟩, hokf⟩ := hoky
  obtain ⟨vv, t, rfl, hrf, ht⟩ := hr
  have hle := hc.le
  have hn2 : (gL (gwFds g { cx with s := nm.n 0 } fs (nm.sub 0).s ++ gwTags g { cx with s := nm.n 0 } (nm.n 1) (nm.n 2)) (n + 3)).2 ≤ a.tmps.size := hn
  have hup := upL_append (upL_wfds g fs { cx with s := nm.n 0 } (nm.sub 0).s) (upL_wtags g { cx with s := nm.n 0 } (nm.n 1) (nm.n 2)) (n + 3)
  show LW P (gIdxAddr vs i (nm.n 0) F :: (gwFds g { cx with s := nm.n 0 } fs (nm.sub 0).s ++ gwTags g { cx with s := nm.n 0 } (nm.n 1) (nm.n 2))) n (Rt K E) a w
  refine LW_cons (s_widxAddr hvs hi hj hF hE hsl (by omega) (by omega) hle hk (by omega) hc.one fun a1 hp1 hg1 he1 => ?_)
  have hs1 := hp1.size
  show LW P _ (n + 3) (Rt K E) a1 w
  have hw1 := hw.at hc hp1 (hg1.trans hw.s1) he1 hpL
  exact w_st K0 hfs (cx := { cx with s := nm.n 0 }) hst hokf hw1 (hc.at (m' := nm.n 0 + 1) ⟨hsl.1, by omega⟩ (by omega) (by omega)) hfl (by omega) (by omega) (by rw [hs1]; exact hn2) hrf ht (by simpa [wrTy, V.fields, V.tags] using hlim) fun a' w' d' hp' h1' hg' => h a' w' d' (hp1.trans (hp'.mono (by omega) (by omega))) h1' (by simpa [wrTy, V.fields, V.tags] using hg')

theorem wty_list (K0 : KW P g av fl nl te) {nul : Option Nat} {esz : Nat} {e : Ty} (he : WrEl P g av fl nl te e) : WrTy P g av fl nl te (.list nul esz e) := by
  intro nm cx fx ver B O L m k0 n T off v d bs K E a w hoky hw hc hfl hk hk0 hn hr hlim h
  simp only [okTyW, Bool.and_eq_true, Bool.or_eq_true, Bool.not_eq_true', decide_eq_true_eq, beq_iff_eq] at hoky
  obtain ⟨⟨⟨⟨hsl, hT⟩, hfld⟩, hnl⟩, hrow⟩ := hoky
  subst hT
  cases hro : rowOf P (nm.n 3) with
  | none => rw [hro] at hrow; cases hrow
  | some row =>
  obtain ⟨E', sz, z⟩ := row
  rw [hro] at hrow
  simp only [Bool.and_eq_true, Bool.or_eq_true, beq_iff_eq] at hrow
  obtain ⟨⟨rfl, hokE⟩, hhl⟩ := hrow
  have hhl' : nul.isSome = false → hasLstW g cx.hf = true := fun h => hhl.resolve_left (by rw [h]; simp)
  have hR := rowOf_ok hro
  have hle := hc.le
  have h1m := hc.one
  have hF' := fldB_ok hfld
  -- the list in the slot
  have hform : ∃ base len c, w.cell? ⟨B, O + off, none⟩ = some (.slice base len c) ∧ len = v.list.length ∧ len ≤ maxLen ∧ base.isNone = v.isNul ∧ (∀ i x, v.list[i]? = some x → ∃ p q, base = some ⟨p, q, none⟩ ∧ p < L ∧ Rp w (fun k => L ≤ k) e p (q + i * sz) x) := by
    rcases hr with ⟨h1, rfl⟩ | ⟨xs, p, q, c, h1, h2, h3, h4, h5, rfl, h7⟩
    · exact ⟨none, 0, 0, h1, rfl, by simp [maxLen], rfl, fun i x hx => by simp [V.list] at hx⟩
    · exact ⟨some ⟨p, q, none⟩, xs.length, c, h1, rfl, by omega, rfl, fun i x hx => ⟨p, q, rfl, by omega, h7 i x hx⟩⟩
  obtain ⟨base, len, c, hcell, hlen, hmax, hbase, hels⟩ := hform
  have hwr : wrTy fx ver (.list nul sz e) v = (if nul.isSome && base.isNone then wNull fx 4 else wCnt fx len) ++ wMany (wrTy fx ver e) v.list := by simp only [wrTy, hbase, hlen]
  rw [hwr] at hlim h
  rw [List.length_append] at hlim
  have hnl' : nul.isSome = true → nl = true := fun hs => by rcases hnl with hh | hh; rw [hs] at hh; cases hh; exact hh
  have hupLen := up_wlen g cx nul (nm.n 0) (nm.n 3) (n + 4)
  have hupEl := upL_wel g e cx (nm.n 0) (nm.n 4) (nm.n 3) (nm.sub 0)
  have hupFor := up_wfor g (nm.n 0) (nm.n 4) (nm.n 5) (nm.n 6) (nm.n 3) hupEl (gwLen g cx nul (nm.n 0) (nm.n 3) (n + 4)).2
  have hn2 : (gwFor g (nm.n 0) (nm.n 4) (nm.n 5) (nm.n 6) (nm.n 3) (gwEl g cx e (nm.n 0) (nm.n 4) (nm.n 3) (nm.sub 0)) (gwLen g cx nul (nm.n 0) (nm.n 3) (n + 4)).2).2 ≤ a.tmps.size := hn
  show LW P [gLoad cx.s (nm.n 0) (nm.n 1) (nm.n 2) (nm.n 3), gwLen g cx nul (nm.n 0) (nm.n 3), gwFor g (nm.n 0) (nm.n 4) (nm.n 5) (nm.n 6) (nm.n 3) (gwEl g cx e (nm.n 0) (nm.n 4) (nm.n 3) (nm.sub 0))] n (Rt K E) a w
  refine LW_cons (s_load (x := nm.n 0) (m := m) (k0 := k0) hw.ss hF' hcell (.inl rfl) hle hk (by omega) (by omega) fun a1 hp1 hg1 => ?_)
  have hs1 := hp1.size
  have hp1' := hp1.x1 ⟨hsl.1, by omega⟩
  have h11 : a1.get 1 = d := (hp1.g1 ⟨hsl.1, by omega⟩ h1m).trans hw.s1
  have hw1 := hw.step hc hp1' h11 (Gr.refl hw.dst)
  show LW P [gwLen g cx nul (nm.n 0) (nm.n 3), gwFor g (nm.n 0) (nm.n 4) (nm.n 5) (nm.n 6) (nm.n 3) (gwEl g cx e (nm.n 0) (nm.n 4) (nm.n 3) (nm.sub 0))] (n + 4) (Rt K E) a1 w
  -- from here on the list's slot is kept
  have hc2 : CxW cx (nm.n 0 + 1) k0 := hc.mono (by omega) (by omega)
  refine LW_cons (s_wlen (m := nm.n 0 + 1) (k0 := k0) K0 hnl' hhl' hfl hw1 hc2 hg1 hR.und (by omega) (by omega) (by rw [hs1]; omega) (by omega) fun a2 w2 d2 hp2 h12 hgr2 => ?_)
  have hs2 := hp2.size
  have hg2 : a2.get (nm.n 0) = .slice base len c := by rw [hp2.get _ (by omega) (.inl (by omega))]; exact hg1
  have hw2 := hw1.step hc2 hp2 h12 hgr2
  generalize hnp : (gwLen g cx nul (nm.n 0) (nm.n 3) (n + 4)).2 = np at hupLen hupFor hn2 ⊢
  refine LW_cons ?_
  rw [then_rt]
  refine s_wfor (m := nm.n 0 + 1) (k0 := k0) (W := fun j d' w' => Gr L te d w d' (bs ++ (if nul.isSome && base.isNone then wNull fx 4 else wCnt fx len) ++ wMany (wrTy fx ver e) (v.list.take j)) w') hg2 hR.und (by omega) (by omega) (by omega) (by omega) (by rw [hs2, hs1]; exact hn2) (hupEl _) hmax ?_ (fun j a3 w3 hj hp3 hi3 hW => ?_) (fun a3 w3 hp3 hW => ?_)
  · rw [h12]
    simpa [wMany] using hgr2
  · have hs3 := hp3.size
    obtain ⟨x, hx⟩ : ∃ x, v.list[j]? = some x := ⟨v.list[j]'(by omega), List.getElem?_eq_getElem (by omega)⟩
    obtain ⟨p, q, rfl, hpL, hrx⟩ := hels j x hx
    have htake : v.list.take (j + 1) = v.list.take j ++ [x] := by rw [List.take_add_one, hx]; rfl
    have hmany : (wMany (wrTy fx ver e) v.list).length = (wMany (wrTy fx ver e) (v.list.take j)).length + (wrTy fx ver e x).length + (wMany (wrTy fx ver e) (v.list.drop (j + 1))).length := by
      conv => lhs; rw [← List.take_append_drop (j + 1) v.list, htake]
      simp only [wMany, List.map_append, List.flatten_append, List.length_append, List.map_cons, List.map_nil, List.flatten_cons, List.flatten_nil, List.append_nil]
    have hp13 : Pv 1 m k0 n a a3 := (hp1'.trans (hp2.mono (by omega) (by omega))).trans (hp3.mono (by omega) (by omega))
    have hw3 := hw.step hc hp13 rfl hW
    have hfar := Gr.far hw.dst hW
    have hvs3 : a3.get (nm.n 0) = .slice (some ⟨p, q, none⟩) len c := by rw [hp3.get _ (by omega) (.inl (by omega))]; exact hg2
    refine nwp_gS (he (nm.sub 0) cx fx ver B O L (nm.n 4 + 1) k0 (np + 5) sz (nm.n 0) (nm.n 4) (nm.n 3) E' p q len c j x (a3.get 1) _ _ E a3 w3 hokE hw3 (hc.mono (by omega) (by omega)) hfl (by omega) (by omega) ?_ hvs3 hi3 hj (by omega) (by omega) hR.und hR.size hpL (Rp.keep hfar hrx (by omega) (by have := hw.Lw; omega)) ?_ fun a4 w4 d4 hp4 h14 hg4 => ⟨hp4, ?_⟩)
    · have h9 : (gL (gwEl g cx e (nm.n 0) (nm.n 4) (nm.n 3) (nm.sub 0)) (np + 5)).2 + 1 ≤ a.tmps.size := hn2
      omega
    · rw [List.length_append, List.length_append]
      omega
    · rw [h14, htake]
      have := hW.trans hg4
      simpa [wMany, List.append_assoc] using this
  · refine LW_nil (h a3 w3 (a3.get 1) ((hp1'.trans (hp2.mono (by omega) (by omega))).trans (hp3.mono (by omega) (by omega))) rfl ?_)
    rw [hlen, List.take_length] at hW
    rw [hlen, ← List.append_assoc]
    exact hW

theorem wty_inl (K0 : KW P g av fl nl te) {toff : Option Nat} {fs : Fds} (hfs : WrFds P g av fl nl te fs) : WrTy P g av fl nl te (.struct none toff fs) := by
  intro nm cx fx ver B O L m k0 n T off v d bs K E a w hoky hw hc hfl hk hk0 hn hr hlim h
  simp only [okTyW, Bool.and_eq_true, decide_eq_true_eq, beq_iff_eq] at hoky
  obtain ⟨⟨⟨⟨hsl, hT⟩, hfld⟩, hst⟩, hokf⟩ := hoky
  subst hT
  obtain ⟨vv, t, rfl, hrf, ht⟩ := hr
  have hle := hc.le
  have hn2 : (gL (gwFds g { cx with s := nm.n 0 } fs (nm.sub 0).s ++ gwTags g { cx with s := nm.n 0 } (nm.n 3) (nm.n 4)) (n + 3)).2 ≤ a.tmps.size := hn
  have hup := upL_append (upL_wfds g fs { cx with s := nm.n 0 } (nm.sub 0).s) (upL_wtags g { cx with s := nm.n 0 } (nm.n 3) (nm.n 4)) (n + 3)
  show LW P (gFieldAddr cx.s (nm.n 0) (nm.n 1) (nm.n 2) :: (gwFds g { cx with s := nm.n 0 } fs (nm.sub 0).s ++ gwTags g { cx with s := nm.n 0 } (nm.n 3) (nm.n 4))) n (Rt K E) a w
  refine LW_cons (s_fieldAddr (x := nm.n 0) (m := m) (k0 := k0) hw.ss (fldB_ok hfld) (.inl rfl) hle hk (by omega) (by omega) fun a1 hp1 hg1 => ?_)
  have hs1 := hp1.size
  have hp1' := hp1.x1 hsl
  show LW P _ (n + 3) (Rt K E) a1 w
  have hw1 := hw.at hc hp1' ((hp1.g1 hsl hc.one).trans hw.s1) hg1 hw.BL
  exact w_st K0 hfs (cx := { cx with s := nm.n 0 }) hst hokf hw1 (hc.at (m' := nm.n 0 + 1) ⟨hsl.1, by omega⟩ (by omega) (by omega)) hfl (by omega) (by omega) (by rw [hs1]; exact hn2) hrf ht (by simpa [wrTy, V.fields, V.tags] using hlim) fun a' w' d' hp' h1' hg' => h a' w' d' (hp1'.trans (hp'.mono (by omega) (by omega))) h1' (by simpa [wrTy, V.fields, V.tags] using hg')

theorem wty_opt (K0 : KW P g av fl nl te) {q : Nat} {toff : Option Nat} {fs : Fds} (hfs : WrFds P g av fl nl te fs) : WrTy P g av fl nl te (.struct (some q) toff fs) := by
  intro nm cx fx ver B O L m k0 n T off v d bs K E a w hoky hw hc hfl hk hk0 hn hr hlim h
  simp only [okTyW, Bool.and_eq_true, decide_eq_true_eq, beq_iff_eq] at hoky
  obtain ⟨⟨⟨⟨⟨hsl, hT⟩, hfld⟩, hptr⟩, hst⟩, hokf⟩ := hoky
  subst hT
  obtain ⟨el, hel⟩ : ∃ el, P.underlying (nm.n 3) = some (.pointer el) := by
    unfold ptrB at hptr
    split at hptr
    · rename_i el h; exact ⟨el, h⟩
    · cases hptr
  have hle := hc.le
  have h1m := hc.one
  have hn2 : (gL (gwByte g 1 :: (gwFds g { cx with s := nm.n 0 } fs (nm.sub 0).s ++ gwTags g { cx with s := nm.n 0 } (nm.n 4) (nm.n 5))) (n + 4 + 2 + 3)).2 ≤ a.tmps.size := hn
  have hn3 : (gL (gwFds g { cx with s := nm.n 0 } fs (nm.sub 0).s ++ gwTags g { cx with s := nm.n 0 } (nm.n 4) (nm.n 5)) (n + 4 + 2 + 3 + 3)).2 ≤ a.tmps.size := hn
  have hup := upL_append (upL_wfds g fs { cx with s := nm.n 0 } (nm.sub 0).s) (upL_wtags g { cx with s := nm.n 0 } (nm.n 4) (nm.n 5)) (n + 4 + 2 + 3 + 3)
  show LW P [gLoad cx.s (nm.n 0) (nm.n 1) (nm.n 2) (nm.n 3), gwNil (nm.n 0) (nm.n 3) (gwByte g 255) (gS (gwByte g 1 :: (gwFds g { cx with s := nm.n 0 } fs (nm.sub 0).s ++ gwTags g { cx with s := nm.n 0 } (nm.n 4) (nm.n 5))))] n (Rt K E) a w
  have hcell : ∃ m', w.cell? ⟨B, O + off, none⟩ = some (.pointer m') := by
    rcases hr with ⟨h1, _⟩ | ⟨p, q, vs, t, h1, _⟩
    · exact ⟨none, h1⟩
    · exact ⟨_, h1⟩
  obtain ⟨ptr, hcell⟩ := hcell
  refine LW_cons (s_load (x := nm.n 0) (m := m) (k0 := k0) hw.ss (fldB_ok hfld) hcell (.inl rfl) hle hk (by omega) (by omega) fun a1 hp1 hg1 => ?_)
  have hs1 := hp1.size
  have hp1' := hp1.x1 hsl
  have h11 : a1.get 1 = d := (hp1.g1 hsl h1m).trans hw.s1
  show LW P [gwNil (nm.n 0) (nm.n 3) (gwByte g 255) (gS (gwByte g 1 :: (gwFds g { cx with s := nm.n 0 } fs (nm.sub 0).s ++ gwTags g { cx with s := nm.n 0 } (nm.n 4) (nm.n 5))))] (n + 4) (Rt K E) a1 w
  refine LW_cons ?_
  rw [then_rt]
  -- the two moves ahead of the test
  have htest : ∀ (b : Bool), b = ptr.isNone → ∀ (X : Act → World → Prop), (∀ a2, Pv 1 m k0 (n + 4) a1 a2 → a2.get 1 = d → a2.get (nm.n 0) = .pointer ptr → X a2 w) →
      wpList P [mk (some (n + 4)) (.move (tm (nm.n 0))), mk (some (n + 4 + 1)) (.binOp .eql (nm.n 3) (tm (n + 4)) (.const (.pointer none)) 0)].toArray (Exit.then (fun a' w' => a'.eval (tm (n + 4 + 1)) = .bool b ∧ X a' w') (Rt (LW P [] ((gS (gwByte g 1 :: (gwFds g { cx with s := nm.n 0 } fs (nm.sub 0).s ++ gwTags g { cx with s := nm.n 0 } (nm.n 4) (nm.n 5)))) (n + 4 + 2 + 3)).2 (Rt K E)) E))
        [mk (some (n + 4)) (.move (tm (nm.n 0))), mk (some (n + 4 + 1)) (.binOp .eql (nm.n 3) (tm (n + 4)) (.const (.pointer none)) 0)] a1 w := by
    intro b hb X hX
    refine wl_move (wl_ptrNil (m := ptr) hel (by rw [eval_tm, get_put _ _ _ (by omega), eval_tm]; exact hg1) (wpList_nil ⟨by rw [eval_tm, get_put _ _ _ (by simp only [put_size]; omega), hb], hX _ ?_ ?_ ?_⟩))
    · exact ((Pv.refl _ _ _ _ _).put _ (by omega)).put _ (by omega)
    · rw [get_put_ne _ _ _ _ (by omega), get_put_ne _ _ _ _ (by omega)]; exact h11
    · rw [get_put_ne _ _ _ _ (by omega), get_put_ne _ _ _ _ (by omega)]; exact hg1
  rcases hr with ⟨h1, rfl⟩ | ⟨p, q', vs, t, h1, h2, h3, rfl, h5, h6⟩
  · rw [h1] at hcell
    obtain rfl : (none : Option Addr) = ptr := by simpa using hcell
    have hwr : wrTy fx ver (.struct (some q) toff fs) .nul = [255] := by simp [wrTy, V.isNul]
    rw [hwr] at hlim h
    refine s_ifT (htest true rfl _ fun a2 hp2 h12 hg2 => ?_)
    have hs2 := hp2.size
    have e : Rt (LW P [] ((gS (gwByte g 1 :: (gwFds g { cx with s := nm.n 0 } fs (nm.sub 0).s ++ gwTags g { cx with s := nm.n 0 } (nm.n 4) (nm.n 5)))) (n + 4 + 2 + 3)).2 (Rt K E)) E = Exit.then (LW P [] ((gS (gwByte g 1 :: (gwFds g { cx with s := nm.n 0 } fs (nm.sub 0).s ++ gwTags g { cx with s := nm.n 0 } (nm.n 4) (nm.n 5)))) (n + 4 + 2 + 3)).2 (Rt K E)) (Rt K E) := then_rt.symm
    show NWP P (gwByte g ((255 : Nat) : Int) (n + 4 + 2)).1 (Rt _ E) a2 w
    have := s_wbyte K0 (c := 255) (m := m) (k0 := k0) (n := n + 4 + 2) (Q := Rt K E) (a := a2) (w := w) (d := d) (bs := bs) (L := L) (K := LW P [] ((gS (gwByte g 1 :: (gwFds g { cx with s := nm.n 0 } fs (nm.sub 0).s ++ gwTags g { cx with s := nm.n 0 } (nm.n 4) (nm.n 5)))) (n + 4 + 2 + 3)).2 (Rt K E)) (by omega) h12 hw.dst hw.Lw (by simpa using hlim) hle (by omega) (by omega) (by omega) fun a3 w3 d3 hp3 h13 hg3 => LW_nil (h a3 w3 d3 ((hp1'.trans (hp2.mono (Nat.le_refl _) (by omega))).trans (hp3.mono (Nat.le_refl _) (by omega))) h13 hg3)
    rw [then_rt] at this
    exact this
  · rw [h1] at hcell
    obtain rfl : some (⟨p, q', none⟩ : Addr) = ptr := by simpa using hcell
    have hwr : wrTy fx ver (.struct (some q) toff fs) (.st vs t) = [1] ++ (wrFds fx ver fs vs ++ wTagsC fx t) := by simp [wrTy, V.isNul, V.fields, V.tags]
    rw [hwr] at hlim h
    rw [List.length_append] at hlim
    simp only [List.length_cons, List.length_nil] at hlim
    refine s_ifF (htest false rfl _ fun a2 hp2 h12 hg2 => ?_)
    have hs2 := hp2.size
    refine nwp_gS (LW_cons (s_wbyte (m := nm.n 0 + 1) (k0 := k0) (L := L) (bs := bs) (d := d) K0 (c := 1) (by omega) h12 hw.dst hw.Lw (by omega) (by omega) (by show k0 ≤ n + 4 + 2 + 3; omega) (by show 1 < n + 4 + 2 + 3; omega) (by show n + 4 + 2 + 3 + 3 ≤ _; omega) fun a3 w3 d3 hp3 h13 hg3 => ?_))
    have hs3 := hp3.size
    have hg30 : a3.get (nm.n 0) = pt p q' := by rw [hp3.get _ (by omega) (.inl (by omega))]; exact hg2
    have hp03 : Pv 1 m k0 n a a3 := (hp1'.trans (hp2.mono (Nat.le_refl _) (by omega))).trans (hp3.mono (by omega) (by show n ≤ n + 4 + 2 + 3; omega))
    have hw3 := hw.step hc hp03 h13 hg3
    have hfar := Gr.far hw.dst hg3
    have hpL : p < L := by omega
    have hw3' : WC { cx with s := nm.n 0 } fx ver te L p q' d3 (bs ++ [UInt8.ofNat 1]) a3 w3 := hw3.at (a' := a3) hc (Pv.refl _ _ _ k0 _) h13 hg30 hpL
    refine w_st K0 hfs (cx := { cx with s := nm.n 0 }) (L := L) hst hokf hw3' (hc.at (m' := nm.n 0 + 1) ⟨hsl.1, by omega⟩ (by omega) (by omega)) hfl (by show k0 ≤ n + 4 + 2 + 3 + 3; omega) (by omega) (by rw [hs3, hs2, hs1]; exact hn3) (h5.far hfar hpL hw.Lw) (h6.far hfar hpL hw.Lw) (by rw [List.length_append (as := bs)]; simp only [List.length_cons, List.length_nil]; omega) fun a' w' d' hp' h1' hg' => LW_nil (h a' w' d' (hp03.trans (hp'.mono (by omega) (by show n ≤ n + 4 + 2 + 3 + 3; omega))) h1' ?_)
    have := hg3.trans hg'
    simpa [List.append_assoc] using this

mutual
theorem wr_ty (K0 : KW P g av fl nl te) : ∀ ty : Ty, WrTy P g av fl nl te ty
  | .prim p => wty_leaf K0 (ty := .prim p) (x := fun nm => nm.l.drop 4) rfl (fun _ _ => rfl) (fun hf m k0 T off nm h => by
      simp only [okTyW, Bool.and_eq_true, beq_iff_eq, Bool.or_eq_true] at h
      refine ⟨h.1.1.1, h.1.1.2, h.1.2, fun hu => ?_⟩
      obtain rfl : p = .uuid := by cases p <;> first | rfl | cases hu
      rcases h.2 with h2 | h2
      · cases h2
      · have := h.1.1.1
        simp only [wleafOk, Bool.and_eq_true] at this
        exact ⟨h2, this.1.1.1⟩)
  | .str nul => wty_leaf K0 (ty := .str nul) (x := fun nm => nm.l.drop 4) rfl (fun _ _ => rfl) (fun hf m k0 T off nm h => by
      simp only [okTyW, Bool.and_eq_true, beq_iff_eq] at h
      exact ⟨h.1.1, h.1.2, h.2, fun hu => by cases hu⟩)
  | .bytes nul => wty_leaf K0 (ty := .bytes nul) (x := fun _ => []) rfl (fun _ _ => rfl) (fun hf m k0 T off nm h => by
      simp only [okTyW, Bool.and_eq_true, beq_iff_eq] at h
      exact ⟨h.1.1, h.1.2, h.2, fun hu => by cases hu⟩)
  | .list _ _ e => wty_list K0 (wr_el K0 e)
  | .struct none _ fs => wty_inl K0 (wr_fds K0 fs)
  | .struct (some _) _ fs => wty_opt K0 (wr_fds K0 fs)
theorem wr_el (K0 : KW P g av fl nl te) : ∀ ty : Ty, WrEl P g av fl nl te ty
  | .prim p => wel_leaf K0 (ty := .prim p) rfl (fun _ _ _ _ _ => rfl) (fun hf m k0 E' esz nm h => by
      simp only [okElW, Bool.and_eq_true, beq_iff_eq, Bool.or_eq_true] at h
      refine ⟨h.1.1.1.1, h.1.1.1.2, h.1.1.2, h.1.2, fun hu => ?_⟩
      obtain rfl : p = .uuid := by cases p <;> first | rfl | cases hu
      rcases h.2 with h2 | h2
      · cases h2
      · have := h.1.1.1.1
        simp only [wleafOk, Bool.and_eq_true] at this
        exact ⟨h2, this.1.1.1⟩)
  | .str nul => wel_leaf K0 (ty := .str nul) rfl (fun _ _ _ _ _ => rfl) (fun hf m k0 E' esz nm h => by
      simp only [okElW, Bool.and_eq_true, beq_iff_eq] at h
      exact ⟨h.1.1.1, h.1.1.2, h.1.2, h.2, fun hu => by cases hu⟩)
  | .bytes nul => wel_leaf K0 (ty := .bytes nul) rfl (fun _ _ _ _ _ => rfl) (fun hf m k0 E' esz nm h => by
      simp only [okElW, Bool.and_eq_true, beq_iff_eq] at h
      exact ⟨h.1.1.1, h.1.1.2, h.1.2, h.2, fun hu => by cases hu⟩)
  | .list _ _ _ => fun _ _ _ _ _ _ _ _ _ _ _ _ _ _ _ _ _ _ _ _ _ _ _ _ _ _ _ h => by simp [okElW] at h
  | .struct none _ fs => wel_struct K0 (wr_fds K0 fs)
  | .struct (some _) _ _ => fun _ _ _ _ _ _ _ _ _ _ _ _ _ _ _ _ _ _ _ _ _ _ _ _ _ _ _ h => by simp [okElW] at h
theorem wr_fds (K0 : KW P g av fl nl te) : ∀ fs : Fds, WrFds P g av fl nl te fs
  | .nil => wfds_nil
  | .cons _ _ _ _ _ ty r => wfds_cons (wr_ty K0 ty) (wr_fds K0 r)
end

end
end Go.Proofs.YtmkioomgfdpeiacDoor.Kx

/-
  GLUE, 1: NewPtr, MaxVersion, SetVersion, ReadFrom, AppendTo of a message, and the thin package's functions over them: their printed code.
-/
namespace Go.Proofs.YtmkioomgfdpeiacDoor.Kx
open Go

def cNewPtr (T f : Nat) : Code := sq [rg [mk (some 0) (.assign (.const (.pointer none)))], rg [mk (some 1) (.alloc T)], rg [cl (some 2) f [tm 1]], rg [mk (some 0) (.assign (tm 1))], .ret]
def cMaxV (k : Int) : Code := sq [rg [mk (some 2) (.assign (ki .i16 0))], rg [mk (some 2) (.assign (ki .i16 k))], .ret]
def cMax (tI16 tInt f1 f2 : Nat) : Code := sq [rg [mk (some 0) (.assign (ki .i64 0))], rg [cl (some 1) f1 [], cl (some 2) f2 [tm 1], mk (some 3) (.convert tI16 tInt (tm 2)), mk (some 0) (.assign (tm 3))], .ret]
def cSetV (T tI16 : Nat) : Code := rg [mk (some 4) (.move (tm 0)), mk (some 5) (.move (tm 1)), mk (some 6) (.nilCheck (tm 4)), mk (some 7) (.fieldAddr T (tm 6) 0), mk none (.store tI16 (tm 7) (tm 5))]
def cRdF (f : Nat) : Code := sq [rg [mk (some 4) (.assign (.const .nilIface))], rg [mk (some 5) (.move (tm 0)), mk (some 6) (.move (tm 1)), cl (some 7) f [tm 5, tm 6, .const (.bool false)], mk (some 4) (.assign (tm 7))], .ret]
def cAgain (tI16 tInt tSl tErr f1 f2 f3 f4 : Nat) : Code := sq [rg [mk (some 4) (.assign (.const nilS)), mk (some 5) (.assign (.const (.bool false)))], rg [cl (some 7) f1 [], mk (some 6) (.assign (tm 7))],
  rg [mk (some 8) (.move (tm 6)), mk (some 9) (.move (tm 0)), mk (some 10) (.convert tInt tI16 (tm 9)), cl (some 11) f2 [tm 8, tm 10]],
  .seq (rg [mk (some 12) (.move (tm 6)), mk (some 13) (.move (tm 1)), bi (some 14) .append [.const nilS, tm 13] [tSl, tSl] tSl, cl (some 15) f3 [tm 12, tm 14], mk (some 16) (.binOp .neq tErr (tm 15) (.const .nilIface) 0)])
    (.cond (tm 16) (.seq (rg [mk (some 4) (.assign (.const nilS)), mk (some 5) (.assign (.const (.bool false)))]) .ret) .skip),
  rg [mk (some 17) (.move (tm 6)), cl (some 18) f4 [tm 17, .const nilS], mk (some 4) (.assign (tm 18)), mk (some 5) (.assign (.const (.bool true)))], .ret]
/-- impl.NewX -/
def cNewM (tI16 tInt f1 f2 f4 : Nat) : Code := sq [rg [mk (some 2) (.assign (.const nilS))], rg [cl (some 4) f1 [], mk (some 3) (.assign (tm 4))],
  rg [mk (some 5) (.move (tm 3)), mk (some 6) (.move (tm 0)), mk (some 7) (.convert tInt tI16 (tm 6)), cl (some 8) f2 [tm 5, tm 7]],
  rg [mk (some 9) (.move (tm 3)), cl (some 10) f4 [tm 9, .const nilS], mk (some 2) (.assign (tm 10))], .ret]
def cVer (tU8 tInt : Nat) : Code := sq [rg [mk (some 4) (.assign (ki .i64 0))], rg [mk (some 5) (.move (tm 0)), mk (some 6) (.convert tU8 tInt (tm 5)), mk (some 7) (.move (tm 1)), mk (some 8) (.binOp .add tInt (tm 7) (ki .i64 1) 0), mk (some 9) (.binOp .rem tInt (tm 6) (tm 8) 0), mk (some 4) (.assign (tm 9))], .ret]
def sameOps (tSl tU8 : Nat) : List Oper := [mk (some 16) (.move (tm 0)), mk (some 17) (.move (tm 5)), mk (some 18) (.indexAddr tSl (tm 16) (tm 17)), mk (some 19) (.load tU8 (tm 18)), mk (some 20) (.move (tm 1)), mk (some 21) (.move (tm 5)), mk (some 22) (.indexAddr tSl (tm 20) (tm 21)), mk (some 23) (.load tU8 (tm 22)), mk (some 24) (.binOp .neq tU8 (tm 19) (tm 23) 0)]
def retB (b : Bool) : Code := .seq (rg [mk (some 4) (.assign (.const (.bool b)))]) .ret
def cSame (tSl tU8 tInt : Nat) : Code := sq [rg [mk (some 4) (.assign (.const (.bool false)))],
  .seq (rg [mk (some 6) (.move (tm 0)), bi (some 7) .len [tm 6] [tSl] tInt, mk (some 8) (.move (tm 1)), bi (some 9) .len [tm 8] [tSl] tInt, mk (some 10) (.binOp .neq tInt (tm 7) (tm 9) 0)]) (.cond (tm 10) (retB false) .skip),
  .seq (rg [mk (some 11) (.move (tm 0)), bi (some 12) .len [tm 11] [tSl] tInt, mk (some 13) (.move (ki .i64 0))])
    (.block 0 (.loop (.seq (rg [mk (some 14) (.binOp .lss tInt (tm 13) (tm 12) 0)]) (.seq (.cond (tm 14) .skip (.exit 0))
      (.seq (.block 1 (.seq (rg [mk (some 15) (.move (tm 13)), mk (some 5) (.assign (tm 15))]) (.seq (.region 1 (sameOps tSl tU8).toArray true) (.cond (tm 24) (retB false) .skip))))
        (rg [mk (some 25) (.binOp .add tInt (tm 13) (ki .i64 1) 0), mk (some 13) (.move (tm 25))])))))),
  rg [mk (some 4) (.assign (.const (.bool true)))], .ret]
def lenGt (tSl tInt n : Nat) (k : Int) : Code := .seq (rg [mk (some n) (.move (tm 1)), bi (some (n + 1)) .len [tm n] [tSl] tInt, mk (some (n + 2)) (.binOp .gtr tInt (tm (n + 1)) (ki .i64 k) 0)]) (.cond (tm (n + 2)) (retB true) .skip)
def callAg (fV fA n s x y : Nat) : Code := rg [mk (some (n + 1)) (.move (tm 0)), mk (some (n + 2)) (.move (tm 5)), cl (some (n + 3)) fV [tm (n + 1), tm (n + 2)], mk (some (n + 4)) (.move (tm s)), cl (some (n + 5)) fA [tm (n + 3), tm (n + 4)], mk (some n) (.move (tm (n + 5))),
  mk (some (n + 6)) (.extract (tm n) 0), mk (some (n + 7)) (.extract (tm n) 1), mk (some x) (.assign (tm (n + 6))), mk (some y) (.assign (tm (n + 7)))]
/-- FnAnyX -/
def cAny (tSl tInt tB fM fV fA fS : Nat) : Code := sq [rg [mk (some 4) (.assign (.const (.bool false)))], lenGt tSl tInt 10 2147483647, rg [cl (some 13) fM [], mk (some 5) (.assign (tm 13))],
  .seq (rg [mk (some 14) (.move (tm 5)), mk (some 15) (.binOp .lss tInt (tm 14) (ki .i64 0) 0)]) (.cond (tm 15) (retB false) .skip),
  lenGt tSl tInt 16 1000, callAg fV fA 19 1 6 7,
  .seq (rg [mk (some 27) (.move (tm 7)), mk (some 28) (.unOp .not tB (tm 27))]) (.cond (tm 28) (retB true) .skip),
  callAg fV fA 29 6 8 9,
  rg [mk (some 37) (.move (tm 9)), mk (some 38) (.move (tm 37)), gd 39 (.move (tm 6)) 1 true, gd 40 (.move (tm 8)) 1 true, ⟨some 41, .call ⟨.value (.func fS), #[tm 39, tm 40], #[]⟩, 0, "", #[], some (1, true)⟩,
    mk (some 42) (.pick (tm 38) (tm 41) (.const (.bool false))), mk (some 4) (.assign (tm 42))], .ret]

end Go.Proofs.YtmkioomgfdpeiacDoor.Kx

/-
  GLUE, 2: what AppendTo of a message does; the small functions.
-/
namespace Go.Proofs.YtmkioomgfdpeiacDoor.Kx
open Go

section
variable {P : Program} {g : GW} {av : PF → Bool} {fl nl : Bool} {te : Nat}

theorem callsA (hm : P.follows .mixedOrders = true) {f ntmps : Nat} {res : List Nat} {c : Code} {w : World} {RR : Ending → World → Prop} (hfn : FnIs P f ntmps res c) (hl : res.length ≤ 2) (args : List Value) (hnt : args.length ≤ ntmps)
    (h : ∀ a, (∀ i v, args[i]? = some v → a.get i = v) → a.tmps.size = ntmps → a.defers = [] → NWP P c (Rt (fun a' w' => a'.defers = [] ∧ RR (.returned (retOf res a')) w') (fun a' w' => a'.defers = [] ∧ RR (.returned (retOf res a')) w')) a w) : Calls P f args.toArray w RR := by
  refine hfn.calls hm hl ?_
  refine h _ (fun i v hi => ?_) (size_args args.toArray ntmps (by simpa using hnt)) rfl
  have hlt : i < args.length := (List.getElem?_eq_some_iff.1 hi).1
  rw [get_args _ _ _ (by simpa using hlt)]
  have := (List.getElem?_eq_some_iff.1 hi).2
  simpa using this

/-! ## AppendTo -/
def topMW (cx : Cx) (v6 : Nat) : Nat := max (max cx.ver cx.fx) (max v6 4) + 1
def topOkW (e : EvW) (kept : Bool) (cx : Cx) (fs : Fds) (T kt : Nat) (toff : Option Nat) (v6 n0 ntmps : Nat) (ms : List Nm) (used : Nat) : Bool :=
  decide (cx.s = 0 ∧ 4 < cx.ver ∧ (cx.hf = true → 4 < cx.fx ∧ cx.fx ≠ cx.ver) ∧ (cx.hf = false → cx.fx = 0) ∧ (kept = true → 4 < v6 ∧ v6 ≠ cx.ver ∧ v6 ≠ cx.fx) ∧ topMW cx v6 ≤ n0) && decide (used ≤ ntmps) && fldB e.P T 0 e.g.tVer 0 false 1 && (!kept || e.av .i16) &&
  okStW e cx.hf T kt toff && okFdsW e cx.hf (topMW cx v6) n0 T fs ms
def topUsedW (g : GW) (kept : Bool) (cx : Cx) (fs : Fds) (T kt flex v6 n0 : Nat) (ms : List Nm) : Nat := (gL (gwHead g kept cx T flex v6 ++ (gwFds g cx fs ms ++ gwTags g cx T kt ++ gwEnd)) n0).2

theorem write_fn (K0 : KW P g av fl nl te) {f ntmps : Nat} {kept : Bool} {cx : Cx} {fs : Fds} {T kt flex v6 n0 : Nat} {toff : Option Nat} {ms : List Nm} (hfl : cx.hf = true → fl = true) (hfn : FnIs P f ntmps [4] (gWrite g kept cx fs T kt flex v6 n0 ms))
    (hchk : topOkW ⟨P, g, av, nl⟩ kept cx fs T kt toff v6 n0 ntmps ms (topUsedW g kept cx fs T kt flex v6 n0 ms) = true) {w : World} {B : Nat} {ver : Int} {vs : List V} {t : List (Nat × Bs)} (hver : -32768 ≤ ver ∧ ver < 32768) (hB : B < w.heap.size) (hcell : w.cell? ⟨B, 0, none⟩ = some (.int .i16 ver))
    (hr : RpF w (fun k => w.heap.size ≤ k) fs B 0 vs) (ht : TgAt w (fun k => w.heap.size ≤ k) B 0 toff t) (hlim : (wrMsg kept cx.hf flex fs ver (.st vs t)).length ≤ LIM) :
    Calls P f #[pt B 0, nilS] w fun e w' => ∃ d', e = .returned d' ∧ DstAt w' w.heap.size te d' (wrMsg kept cx.hf flex fs ver (.st vs t)) ∧ Keeps (fun _ => False) w w' := by
  simp only [topOkW, Bool.and_eq_true, Bool.or_eq_true, Bool.not_eq_true', decide_eq_true_eq] at hchk
  obtain ⟨⟨⟨⟨⟨⟨hs0, hv4, hfx4, hfx0, hkept, hM⟩, hused⟩, hfld⟩, hi16⟩, hst⟩, hokf⟩ := hchk
  have hmw : cx.ver < topMW cx v6 ∧ cx.fx < topMW cx v6 ∧ v6 < topMW cx v6 ∧ 4 < topMW cx v6 := by simp only [topMW]; omega
  refine callsA K0.mixed hfn (by simp) [pt B 0, nilS] ?_ fun a harg hs hd => ?_
  · simp only [List.length_cons, List.length_nil]
    have : n0 ≤ topUsedW g kept cx fs T kt flex v6 n0 ms := by
      refine upL_append ?_ (upL_append (upL_append (upL_wfds g fs cx ms) (upL_wtags g cx T kt)) (upL_cons (up_ops _ _) (upL_cons (up_code _) upL_nil))) n0
      exact upL_append (upL_append (upL_cons (up_ops _ _) (upL_cons (up_ops _ _) (upL_cons (up_ops _ _) upL_nil))) (upL_ite (upL_cons (up_ops _ _) (upL_cons (up_ops _ _) upL_nil)) upL_nil)) (upL_ite (upL_cons (up_S (upL_cons (up_ops _ _) (upL_cons (up_ops _ _) upL_nil))) upL_nil) upL_nil)
    omega
  have h0 := harg 0 _ rfl
  have h1 := harg 1 _ rfl
  have hF := fldB_ok hfld
  have hdst : DstAt w w.heap.size te nilS [] := DstAt.nil _ _ _
  -- where the fields begin
  have fields : ∀ (n : Nat) (a1 : Act) (w1 : World) (d1 : Value) (bs1 : Bs), n0 ≤ n → bs1 = (if kept then be 2 ver else []) → a1.tmps.size = ntmps → a1.defers = [] → a1.get 0 = pt B 0 → a1.get cx.ver = .int .i16 ver → (cx.hf = true → a1.get cx.fx = .bool (decide ((flex : Int) ≤ ver))) → a1.get 1 = d1 → Gr w.heap.size te nilS w d1 bs1 w1 →
      (gL (gwFds g cx fs ms ++ gwTags g cx T kt ++ gwEnd) n).2 ≤ ntmps →
      LW P (gwFds g cx fs ms ++ gwTags g cx T kt ++ gwEnd) n (Rt (fun a' w' => a'.defers = [] ∧ ∃ d', .returned (retOf [4] a') = Ending.returned d' ∧ DstAt w' w.heap.size te d' (wrMsg kept cx.hf flex fs ver (.st vs t)) ∧ Keeps (fun _ => False) w w') (fun a' w' => a'.defers = [] ∧ ∃ d', .returned (retOf [4] a') = Ending.returned d' ∧ DstAt w' w.heap.size te d' (wrMsg kept cx.hf flex fs ver (.st vs t)) ∧ Keeps (fun _ => False) w w')) a1 w1 := by
    intro n a1 w1 d1 bs1 hn hbs hsz hdf hg0 hgv hgf hg1 hgr hused
    rw [gL_append] at hused
    have hu1 : (gL (gwFds g cx fs ms ++ gwTags g cx T kt) n).2 + 1 ≤ ntmps := hused
    have hfar := Gr.far hdst hgr
    have hwc : WC cx (cx.hf && decide ((flex : Int) ≤ ver)) ver te w.heap.size B 0 d1 bs1 a1 w1 :=
      ⟨hgr.dst, hg1, by rw [hs0]; exact hg0, hgv, fun hf => by rw [hgf hf, hf]; rfl, fun hf => by rw [hf]; rfl, hB, hgr.keeps.size⟩
    have hcw : CxW cx (topMW cx v6) n0 := ⟨⟨by omega, by omega⟩, ⟨hmw.1, by omega⟩, ⟨hmw.2.1, by
      cases hh : cx.hf with
      | true => have := hfx4 hh; omega
      | false => rw [hfx0 hh]; omega⟩, by omega, hM⟩
    have hmsg : wrMsg kept cx.hf flex fs ver (.st vs t) = bs1 ++ (wrFds (cx.hf && decide ((flex : Int) ≤ ver)) ver fs vs ++ wTagsC (cx.hf && decide ((flex : Int) ≤ ver)) t) := by
      simp only [wrMsg, V.fields, V.tags, hbs]
    have hup := upL_append (upL_wfds g fs cx ms) (upL_wtags g cx T kt) n
    refine LW_append ?_
    rw [then_rt]
    refine w_st K0 (wr_fds K0 fs) hst hokf hwc hcw hfl hn (by omega) (by omega) (hr.far hfar hB (Nat.le_refl _)) (ht.far hfar hB (Nat.le_refl _)) (by rw [← List.length_append, ← hmsg]; exact hlim) fun a2 w2 d2 hp2 hg2 hgr2 => ?_
    have hs2 := hp2.size
    refine LW_cons (nwp_rg (wl_move (wl_assign (wpList_nil (LW_cons (.ret ⟨?_, d2, ?_, ?_, ?_⟩))))))
    · simp only [put_defers]; rw [hp2.defers]; exact hdf
    · show Ending.returned (Act.get _ 4) = _
      rw [get_put _ _ _ (by simp only [put_size]; omega), eval_tm, get_put _ _ _ (by omega), eval_tm, hg2]
    · rw [hmsg]; exact hgr2.dst
    · exact (hgr.trans hgr2).keeps.mono fun k _ hk => by simp [Value.ownBlock, nilS] at hk
  -- the head
  have kpt : ∀ (n : Nat) (a1 : Act), n0 ≤ n → a1.tmps.size = ntmps → a1.defers = [] → a1.get 0 = pt B 0 → a1.get cx.ver = .int .i16 ver → (cx.hf = true → a1.get cx.fx = .bool (decide ((flex : Int) ≤ ver))) → a1.get 1 = nilS →
      (gL ((if kept then [gS [gLoad 0 v6 T 0 g.tVer, gwApp (g.ap .i16) v6]] else []) ++ (gwFds g cx fs ms ++ gwTags g cx T kt ++ gwEnd)) n).2 ≤ ntmps →
      LW P ((if kept then [gS [gLoad 0 v6 T 0 g.tVer, gwApp (g.ap .i16) v6]] else []) ++ (gwFds g cx fs ms ++ gwTags g cx T kt ++ gwEnd)) n (Rt (fun a' w' => a'.defers = [] ∧ ∃ d', .returned (retOf [4] a') = Ending.returned d' ∧ DstAt w' w.heap.size te d' (wrMsg kept cx.hf flex fs ver (.st vs t)) ∧ Keeps (fun _ => False) w w') (fun a' w' => a'.defers = [] ∧ ∃ d', .returned (retOf [4] a') = Ending.returned d' ∧ DstAt w' w.heap.size te d' (wrMsg kept cx.hf flex fs ver (.st vs t)) ∧ Keeps (fun _ => False) w w')) a1 w := by
    intro n a1 hn hsz hdf hg0 hgv hgf hg1 hused
    have hupF := upL_append (upL_append (upL_wfds g fs cx ms) (upL_wtags g cx T kt)) (upL_cons (up_ops 1 fun n => [mk (some n) (.move (tm 1)), mk (some 4) (.assign (tm n))]) (upL_cons (up_code .ret) upL_nil))
    by_cases hk : kept = true
    · obtain ⟨h64, h6v, h6f⟩ := hkept hk
      rw [if_pos hk] at hused ⊢
      have hav : av .i16 = true := by rcases hi16 with h | h; rw [hk] at h; cases h; exact h
      have hu1 : (gL (gwFds g cx fs ms ++ gwTags g cx T kt ++ gwEnd) (n + 4 + 3)).2 ≤ ntmps := hused
      have := hupF (n + 4 + 3)
      have hn7 : n + 4 + 3 ≤ ntmps := Nat.le_trans this hu1
      refine LW_cons ?_
      rw [then_rt]
      refine nwp_gS (LW_cons (s_load (x := v6) (m := n0) (k0 := n0) (off := 0) hg0 hF (by rw [Nat.zero_add]; exact hcell) (.inl rfl) (Nat.le_refl _) hn (by omega) (by omega) fun a2 hp2 hg2 => ?_))
      have hs2 := hp2.size
      refine LW_cons (s_wapp (m := n0) (k0 := n0) (L := w.heap.size) (bs := []) (enc := PF.wr .i16 (.n ver)) (K0.apE .i16 hav) (K0.apC .i16 hav w w.heap.size [.int .i16 ver] (.int .i16 ver) (.n ver) ⟨ver, rfl, rfl, hver⟩ rfl) (by rw [hp2.get 1 (by omega) (.inl (by omega))]; exact hg1) hg2 (by show v6 < n + 4; omega) hdst (Nat.le_refl _) ?_ (Nat.le_refl _) (by show n0 ≤ n + 4; omega) (by show 1 < n + 4; omega) (by show n + 4 + 3 ≤ _; omega) fun a3 w3 d3 hp3 hg3 hgr3 => ?_)
      · have : (PF.wr .i16 (.n ver)).length = 2 := by simp [PF.wr, be]
        rw [this]; decide
      have hp : ∀ s, s < n0 → s ≠ v6 → s ≠ 1 → a3.get s = a1.get s := fun s hs hs6 hs1 => by rw [hp3.get s hs1 (.inl hs), hp2.get s hs6 (.inl hs)]
      refine LW_nil (fields (n + 4 + 3) a3 w3 d3 _ (by omega) (by rw [if_pos hk]; rfl) (by rw [hp3.size, hs2]; exact hsz) (by rw [hp3.defers, hp2.defers]; exact hdf) (by rw [hp 0 (by omega) (by omega) (by omega)]; exact hg0) (by rw [hp cx.ver (by omega) (by omega) (by omega)]; exact hgv)
        (fun hf => by have := hfx4 hf; rw [hp cx.fx (by omega) (by omega) (by omega)]; exact hgf hf) hg3 hgr3 hu1)
    · rw [if_neg hk] at hused ⊢
      exact fields n a1 w nilS [] hn (by rw [if_neg hk]) hsz hdf hg0 hgv hgf hg1 (Gr.refl hdst) hused
  have hused' : (gL (gwHead g kept cx T flex v6 ++ (gwFds g cx fs ms ++ gwTags g cx T kt ++ gwEnd)) n0).2 ≤ ntmps := hused
  unfold gWrite
  refine nwp_gS ?_
  have e1 : gwHead g kept cx T flex v6 ++ (gwFds g cx fs ms ++ gwTags g cx T kt ++ gwEnd) = gSet 4 (.slice none 0 0) :: gLoad 0 cx.ver T 0 g.tVer :: gOps 1 (fun n => [mk (some n) (.move (tm cx.ver))]) ::
      ((if cx.hf then [gOps 2 fun n => [mk (some n) (.move (tm cx.ver)), mk (some (n + 1)) (.binOp .geq g.tVer (tm n) (ki .i16 flex) 0), mk (some cx.fx) (.assign (tm (n + 1)))], gOps 1 fun n => [mk (some n) (.move (tm cx.fx))]] else []) ++
        ((if kept then [gS [gLoad 0 v6 T 0 g.tVer, gwApp (g.ap .i16) v6]] else []) ++ (gwFds g cx fs ms ++ gwTags g cx T kt ++ gwEnd))) := by
    simp only [gwHead, List.cons_append, List.nil_append, List.append_assoc]
  rw [e1] at hused' ⊢
  have hu0 : (gL ((if cx.hf then [gOps 2 fun n => [mk (some n) (.move (tm cx.ver)), mk (some (n + 1)) (.binOp .geq g.tVer (tm n) (ki .i16 flex) 0), mk (some cx.fx) (.assign (tm (n + 1)))], gOps 1 fun n => [mk (some n) (.move (tm cx.fx))]] else []) ++
        ((if kept then [gS [gLoad 0 v6 T 0 g.tVer, gwApp (g.ap .i16) v6]] else []) ++ (gwFds g cx fs ms ++ gwTags g cx T kt ++ gwEnd))) (n0 + 4 + 1)).2 ≤ ntmps := hused'
  have hupAll : UpL ((if kept then [gS [gLoad 0 v6 T 0 g.tVer, gwApp (g.ap .i16) v6]] else []) ++ (gwFds g cx fs ms ++ gwTags g cx T kt ++ gwEnd)) :=
    upL_append (upL_ite (upL_cons (up_S (upL_cons (up_ops _ _) (upL_cons (up_ops _ _) upL_nil))) upL_nil) upL_nil) (upL_append (upL_append (upL_wfds g fs cx ms) (upL_wtags g cx T kt)) (upL_cons (up_ops _ _) (upL_cons (up_code _) upL_nil)))
  have hn5 : n0 + 4 + 1 ≤ ntmps := Nat.le_trans (upL_append (upL_ite (upL_cons (up_ops _ _) (upL_cons (up_ops _ _) upL_nil)) upL_nil) hupAll _) hu0
  refine LW_cons (s_set (x := 4) (m := 0) (k0 := 0) (.inl rfl) (by omega) fun a1 hp1 _ => ?_)
  have hs1 := hp1.size
  refine LW_cons (s_load (x := cx.ver) (m := n0) (k0 := n0) (off := 0) (by rw [hp1.get 0 (by omega) (.inr (by omega))]; exact h0) hF (by rw [Nat.zero_add]; exact hcell) (.inl rfl) (Nat.le_refl _) (by show n0 ≤ n0 + 0; omega) (by show n0 + 0 + 4 ≤ _; omega) (by omega) fun a2 hp2 hg2 => ?_)
  have hs2 := hp2.size
  refine LW_cons (nwp_rg (wl_move (wpList_nil ?_)))
  have hb : ∀ s, s < n0 → s ≠ 4 → s ≠ cx.ver → (a2.put (some (n0 + 0 + 4)) (a2.eval (tm cx.ver))).get s = a.get s := fun s hs hs4 hsv => by
    rw [get_put_ne _ _ _ _ (by omega), hp2.get s hsv (.inl hs), hp1.get s hs4 (.inr ⟨by omega, by omega⟩)]
  have hbv : (a2.put (some (n0 + 0 + 4)) (a2.eval (tm cx.ver))).get cx.ver = .int .i16 ver := by rw [get_put_ne _ _ _ _ (by omega)]; exact hg2
  have hbs : (a2.put (some (n0 + 0 + 4)) (a2.eval (tm cx.ver))).tmps.size = ntmps := by rw [put_size, hs2, hs1]; exact hs
  have hbd : (a2.put (some (n0 + 0 + 4)) (a2.eval (tm cx.ver))).defers = [] := by rw [put_defers, hp2.defers, hp1.defers]; exact hd
  show LW P _ (n0 + 0 + 4 + 1) _ (a2.put (some (n0 + 0 + 4)) (a2.eval (tm cx.ver))) w
  generalize a2.put (some (n0 + 0 + 4)) (a2.eval (tm cx.ver)) = a3 at hb hbv hbs hbd ⊢
  by_cases hf : cx.hf = true
  · obtain ⟨hf4, hfv⟩ := hfx4 hf
    rw [if_pos hf] at hu0 ⊢
    have hu1 : (gL ((if kept then [gS [gLoad 0 v6 T 0 g.tVer, gwApp (g.ap .i16) v6]] else []) ++ (gwFds g cx fs ms ++ gwTags g cx T kt ++ gwEnd)) (n0 + 4 + 1 + 2 + 1)).2 ≤ ntmps := hu0
    have hn8 := Nat.le_trans (hupAll _) hu1
    refine LW_cons (nwp_rg (wl_move ?_))
    rw [eval_tm, hbv]
    refine wl_cmp (b := decide ((flex : Int) ≤ ver)) (p := ver) (q := flex) (k := .i16) (by rw [eval_tm, get_put _ _ _ (by omega)]) rfl (.inl ⟨rfl, rfl⟩) (wl_assign (wpList_nil ?_))
    rw [eval_tm, get_put _ _ _ (by simp only [put_size]; omega)]
    refine LW_cons (nwp_rg (wl_move (wpList_nil ?_)))
    refine kpt (n0 + 4 + 1 + 2 + 1) _ (by omega) (by simp only [put_size]; exact hbs) (by simp only [put_defers]; exact hbd) ?_ ?_ (fun _ => ?_) ?_ hu1
    · rw [get_put_ne _ _ _ _ (by show (0 : Nat) ≠ n0 + 0 + 4 + 1 + 2; omega), get_put_ne _ _ _ _ (by omega), get_put_ne _ _ _ _ (by omega), get_put_ne _ _ _ _ (by omega), hb 0 (by omega) (by omega) (by omega)]; exact h0
    · rw [get_put_ne _ _ _ _ (by show cx.ver ≠ n0 + 0 + 4 + 1 + 2; omega), get_put_ne _ _ _ _ (by omega), get_put_ne _ _ _ _ (by omega), get_put_ne _ _ _ _ (by omega)]; exact hbv
    · rw [get_put_ne _ _ _ _ (by show cx.fx ≠ n0 + 0 + 4 + 1 + 2; omega), get_put _ _ _ (by simp only [put_size]; omega)]
    · rw [get_put_ne _ _ _ _ (by show (1 : Nat) ≠ n0 + 0 + 4 + 1 + 2; omega), get_put_ne _ _ _ _ (by omega), get_put_ne _ _ _ _ (by omega), get_put_ne _ _ _ _ (by omega), hb 1 (by omega) (by omega) (by omega)]; exact h1
  · rw [if_neg hf] at hu0 ⊢
    exact kpt (n0 + 4 + 1) a3 (by omega) hbs hbd ((hb 0 (by omega) (by omega) (by omega)).trans h0) hbv (fun h => absurd h hf) ((hb 1 (by omega) (by omega) (by omega)).trans h1) hu0

end
end Go.Proofs.YtmkioomgfdpeiacDoor.Kx

/-
  GLUE, 3: NewPtr, SetVersion, MaxVersion, ReadFrom, version, Same; AgainX.
-/
namespace Go.Proofs.YtmkioomgfdpeiacDoor.Kx
open Go

section
variable {P : Program}

theorem retOf_one (t : Nat) (a : Act) : retOf [t] a = a.get t := rfl
theorem wl_extract {ops : Array Oper} {Q : Exit → Act → World → Prop} {r : List Oper} {a : Act} {w : World} {d : Option Nat} {x : Operand} {i : Nat} {vs : Array Value} {v : Value} (hx : a.eval x = .tuple vs) (hv : vs[i]? = some v) (h : wpList P ops Q r (a.put d v) w) : wpList P ops Q (mk d (.extract x i) :: r) a w := by
  refine wl_value ?_ h
  simp [execOp, mk, hx, Instr.extract, hv]
theorem wl_neErr {ops : Array Oper} {Q : Exit → Act → World → Prop} {r : List Oper} {a : Act} {w : World} {d : Option Nat} {x : Operand} {T : Nat} {ms : Array (String × TypeId)} {v : Value} {b : Bool} (hT : P.underlying T = some (.interface ms)) (hx : a.eval x = v) (hv : (v = .nilIface ∧ b = false) ∨ ((∃ t y, v = .iface t y) ∧ b = true))
    (h : wpList P ops Q r (a.put d (.bool b)) w) : wpList P ops Q (mk d (.binOp .neq T x (.const .nilIface) 0) :: r) a w := by
  refine wl_value ?_ h
  have e2 : a.eval (.const .nilIface) = .nilIface := rfl
  have he : (eqGuard .neq T x (.const .nilIface) v .nilIface).run P w = .ok () w := by
    rcases hv with ⟨rfl, _⟩ | ⟨⟨t, y, rfl⟩, _⟩ <;> simp [eqGuard]
  simp [execOp, mk, hx, e2, he, run_neNil hT hv w]

theorem newPtr_calls (hm : P.follows .mixedOrders = true) {f nt T fD : Nat} {zv : Value} {wr : List (Nat × Value)} (hfn : FnIs P f nt [0] (cNewPtr T fD)) (hnt : 3 ≤ nt) (hz : zeroOf P T = some zv) (hE : Ent P fD) (hD : DfC P fD wr) (hwr : ∀ p ∈ wr, p.1 < zv.cells.size) (w : World) :
    Calls P f #[] w fun e w' => e = .returned (pt w.heap.size 0) ∧ Keeps (fun _ => False) w w' ∧ w'.heap[w.heap.size]? = some (.cells (applyWr zv.cells 0 wr) T (0, 0)) := by
  refine callsA hm hfn (by simp) [] (by simp) fun a _ hs hd => ?_
  unfold cNewPtr
  refine nwp_sq_cons (nwp_rg (wl_assign (wpList_nil ?_)))
  refine nwp_sq_cons (nwp_rg (wl_alloc (zeroOf_ok hz w) (wpList_nil ?_)))
  have hb : (w.alloc (.cells zv.cells T (0, 0))).heap[w.heap.size]? = some (.cells zv.cells T (0, 0)) := heap_alloc_new' _ _
  refine nwp_sq_cons (nwp_rg (wl_call (vs := #[pt w.heap.size 0]) hE ?_ (hD _ w.heap.size 0 zv.cells T hb (fun p hp => by simpa using hwr p hp)) fun e w' hR => ⟨_, hR.1, wpList_nil ?_⟩))
  · simp only [List.map_cons, List.map_nil, eval_tm]
    rw [get_put _ _ _ (by simp only [put_size]; omega)]
    rfl
  refine nwp_sq_cons (nwp_rg (wl_assign (wpList_nil (nwp_sq_cons (.ret ⟨?_, ?_, ?_, hR.2.2⟩)))))
  · simp only [put_defers]; exact hd
  · rw [retOf_one, get_put _ _ _ (by simp only [put_size]; omega), eval_tm, get_put_ne _ _ _ _ (by omega), get_put _ _ _ (by simp only [put_size]; omega)]
    rfl
  · have hk : Keeps (fun k => w.heap.size ≤ k) w w' := (Keeps.alloc _ _ _).trans (hR.2.1.mono fun k _ hk => by omega)
    exact hk.mono fun k hk hX => by omega

theorem setV_calls (hm : P.follows .mixedOrders = true) {f nt T tI B te : Nat} {cur : Array Value} {x : Int} {w : World} (hfn : FnIs P f nt [] (cSetV T tI)) (hnt : 8 ≤ nt) (hF : FldIs P T 0 tI 0 false 1) (hB : w.heap[B]? = some (.cells cur te (0, 0))) (h0 : 0 < cur.size) :
    Calls P f #[pt B 0, .int .i16 x] w fun e w' => e = .returned (.tuple #[]) ∧ Keeps (· = B) w w' ∧ w'.heap[B]? = some (.cells (cur.setIfInBounds 0 (.int .i16 x)) te (0, 0)) := by
  refine callsA hm hfn (by simp) [pt B 0, .int .i16 x] (by simp; omega) fun a harg hs hd => ?_
  have g0 := harg 0 _ rfl
  have g1 := harg 1 _ rfl
  refine .reg (wl_move (wl_move ?_))
  rw [eval_tm, g0, eval_tm, get_put_ne _ _ _ _ (by omega), g1]
  refine wl_nilCheck (by rw [eval_tm, get_put_ne _ _ _ _ (by omega), get_put _ _ _ (by omega)]; rfl) ?_
  refine wl_fld (by rw [eval_tm, get_put _ _ _ (by simp only [put_size]; omega)]) hF ?_
  refine wl_store (g := B) (o := 0) (cur := cur) (t := te) (v := .int .i16 x) (vs := [.int .i16 x]) (by rw [eval_tm, get_put _ _ _ (by simp only [put_size]; omega)]) (by rw [eval_tm, get_put_ne _ _ _ _ (by omega), get_put_ne _ _ _ _ (by omega), get_put _ _ _ (by simp only [put_size]; omega)]) rfl (hF.var.size w) hB (by simp only [List.length_cons, List.length_nil]; omega) (by simp [Value.oneCell']) (wpList_nil ⟨?_, rfl, Keeps.setRow _ _ _ _ rfl, ?_⟩)
  · simp only [put_defers]; exact hd
  · rw [setRow_heap _ _ _ _ _ _ hB, splice_one h0]

theorem maxV_calls (hm : P.follows .mixedOrders = true) {f nt : Nat} {k : Int} {x : Value} {w : World} (hfn : FnIs P f nt [2] (cMaxV k)) (hnt : 3 ≤ nt) : Calls P f #[x] w fun e w' => e = .returned (.int .i16 k) ∧ Keeps (fun _ => False) w w' := by
  refine callsA hm hfn (by simp) [x] (by simp; omega) fun a harg hs hd => ?_
  refine nwp_sq_cons (nwp_rg (wl_assign (wpList_nil (nwp_sq_cons (nwp_rg (wl_assign (wpList_nil (nwp_sq_cons (.ret ⟨?_, ?_, Keeps.refl _ _⟩)))))))))
  · simp only [put_defers]; exact hd
  · rw [retOf_one, get_put _ _ _ (by simp only [put_size]; omega)]
    rfl
theorem max_calls (hm : P.follows .mixedOrders = true) {f nt tI16 tInt f1 f2 : Nat} {k : Nat} {x : Value} {w : World} (hI : P.underlying tI16 = some (.int .i16)) (hInt : P.underlying tInt = some (.int .i64)) (hk : k < 32768) (hfn : FnIs P f nt [0] (cMax tI16 tInt f1 f2)) (hnt : 4 ≤ nt)
    (h1E : Ent P f1) (h1 : Calls P f1 #[] w fun e w' => e = .returned x ∧ Keeps (fun _ => False) w w') (h2E : Ent P f2) (h2 : ∀ w, Calls P f2 #[x] w fun e w' => e = .returned (.int .i16 (k : Int)) ∧ Keeps (fun _ => False) w w') : Calls P f #[] w fun e w' => e = .returned (.int .i64 (k : Int)) ∧ Keeps (fun _ => False) w w' := by
  refine callsA hm hfn (by simp) [] (by simp) fun a _ hs hd => ?_
  refine nwp_sq_cons (nwp_rg (wl_assign (wpList_nil (nwp_sq_cons (nwp_rg ?_)))))
  refine wl_call (vs := #[]) h1E rfl h1 fun e w1 hR1 => ⟨_, hR1.1, ?_⟩
  refine wl_call (vs := #[x]) h2E ?_ (h2 w1) fun e w2 hR2 => ⟨_, hR2.1, ?_⟩
  · simp only [List.map_cons, List.map_nil, eval_tm]
    rw [get_put _ _ _ (by simp only [put_size]; omega)]
  refine wl_convInt (k := .i16) (k' := .i64) (m := (k : Int)) (by rw [eval_tm, get_put _ _ _ (by simp only [put_size]; omega)]) hI hInt ?_
  have hw : IntKind.i64.wrap (k : Int) = (k : Int) := by simp [IntKind.wrap, IntKind.bits, IntKind.signed]; omega
  rw [hw]
  refine wl_assign (wpList_nil (nwp_sq_cons (.ret ⟨?_, ?_, hR1.2.trans hR2.2⟩)))
  · simp only [put_defers]; exact hd
  · rw [retOf_one, get_put _ _ _ (by simp only [put_size]; omega), eval_tm, get_put _ _ _ (by simp only [put_size]; omega)]
theorem rdF_calls (hm : P.follows .mixedOrders = true) {f nt f2 : Nat} {x y : Value} {w : World} {RR : Value → World → Prop} (hfn : FnIs P f nt [4] (cRdF f2)) (hnt : 8 ≤ nt) (hE : Ent P f2) (h : Calls P f2 #[x, y, .bool false] w fun e w' => ∃ v, e = .returned v ∧ RR v w') : Calls P f #[x, y] w fun e w' => ∃ v, e = .returned v ∧ RR v w' := by
  refine callsA hm hfn (by simp) [x, y] (by simp; omega) fun a harg hs hd => ?_
  have g0 := harg 0 _ rfl
  have g1 := harg 1 _ rfl
  refine nwp_sq_cons (nwp_rg (wl_assign (wpList_nil (nwp_sq_cons (nwp_rg (wl_move (wl_move ?_)))))))
  refine wl_call (vs := #[x, y, .bool false]) hE ?_ h fun e w1 hR => ?_
  · simp only [List.map_cons, List.map_nil, eval_tm]
    rw [get_put_ne _ _ _ _ (by omega), get_put _ _ _ (by simp only [put_size]; omega), get_put_ne _ _ _ _ (by omega), g0, get_put _ _ _ (by simp only [put_size]; omega), get_put_ne _ _ _ _ (by omega), get_put_ne _ _ _ _ (by omega), g1]
    rfl
  obtain ⟨v, he, hv⟩ := hR
  refine ⟨v, he, wl_assign (wpList_nil (nwp_sq_cons (.ret ⟨?_, v, ?_, hv⟩)))⟩
  · simp only [put_defers]; exact hd
  · rw [retOf_one, get_put _ _ _ (by simp only [put_size]; omega), eval_tm, get_put _ _ _ (by simp only [put_size]; omega)]
theorem run_rem {k : IntKind} {A : Nat} {x y : Int} (hy : y ≠ 0) (w : World) : (binOp .rem A (.int k x) (.int k y)).run P w = .ok (.int k (x.tmod y)) w := by
  simp [binOp, Op.intDiv, hy]
theorem ver_calls (hm : P.follows .mixedOrders = true) {f nt tU8 tInt x most : Nat} {w : World} (h8 : P.underlying tU8 = some (.int .u8)) (hInt : P.underlying tInt = some (.int .i64)) (hx : x < 256) (hmost : most < 32768) (hfn : FnIs P f nt [4] (cVer tU8 tInt)) (hnt : 10 ≤ nt) :
    Calls P f #[.int .u8 x, .int .i64 most] w fun e w' => e = .returned (.int .i64 ((x % (most + 1) : Nat) : Int)) ∧ Keeps (fun _ => False) w w' := by
  refine callsA hm hfn (by simp) [.int .u8 x, .int .i64 most] (by simp; omega) fun a harg hs hd => ?_
  have g0 := harg 0 _ rfl
  have g1 := harg 1 _ rfl
  refine nwp_sq_cons (nwp_rg (wl_assign (wpList_nil (nwp_sq_cons (nwp_rg (wl_move ?_))))))
  rw [eval_tm, get_put_ne _ _ _ _ (by omega), g0]
  refine wl_convInt (k := .u8) (k' := .i64) (m := x) (by rw [eval_tm, get_put _ _ _ (by simp only [put_size]; omega)]) h8 hInt (wl_move ?_)
  have hw : IntKind.i64.wrap (x : Int) = (x : Int) := by simp [IntKind.wrap, IntKind.bits, IntKind.signed]; omega
  rw [hw, eval_tm, get_put_ne _ _ _ _ (by omega), get_put_ne _ _ _ _ (by omega), get_put_ne _ _ _ _ (by omega), g1]
  have hw2 : IntKind.i64.wrap ((most : Int) + 1) = ((most + 1 : Nat) : Int) := by simp [IntKind.wrap, IntKind.bits, IntKind.signed]; omega
  refine wl_bin (k := .i64) (m := most) (n := 1) (v := .int .i64 ((most + 1 : Nat) : Int)) (by rw [eval_tm, get_put _ _ _ (by simp only [put_size]; omega)]) rfl (by simp) (by simp [binOp, Op.intArith, hw2]) ?_
  have hrem : (binOp .rem tInt (.int .i64 (x : Int)) (.int .i64 ((most + 1 : Nat) : Int))).run P w = .ok (.int .i64 ((x % (most + 1) : Nat) : Int)) w := by
    have h1 := run_rem (P := P) (k := .i64) (A := tInt) (x := (x : Int)) (y := ((most + 1 : Nat) : Int)) (by omega) w
    have h2 : (x : Int).tmod ((most + 1 : Nat) : Int) = ((x % (most + 1) : Nat) : Int) := (Int.ofNat_tmod x (most + 1)).symm
    rw [h2] at h1
    exact h1
  refine wl_bin (k := .i64) (m := x) (n := ((most + 1 : Nat) : Int)) (by rw [eval_tm, get_put_ne _ _ _ _ (by omega), get_put_ne _ _ _ _ (by omega), get_put _ _ _ (by simp only [put_size]; omega)]) (by rw [eval_tm, get_put _ _ _ (by simp only [put_size]; omega)]) (by simp) hrem ?_
  refine wl_assign (wpList_nil (nwp_sq_cons (.ret ⟨?_, ?_, Keeps.refl _ _⟩)))
  · simp only [put_defers]; exact hd
  · rw [retOf_one, get_put _ _ _ (by simp only [put_size]; omega), eval_tm, get_put _ _ _ (by simp only [put_size]; omega)]

theorem run_append_nil0 {tSl te tx ty : Nat} (ot : OctT P tSl te) {x : Value} {w : World} (hs : Src P 1 tx x 0 [] w) : (Builtin.append_ #[tSl, tx] ty #[nilS, x]).run P w = .ok nilS w := by
  obtain ⟨i, z, hi, hz, hsz, hby, hzs⟩ := ot.info
  have ht := ot.und
  have h1 := hs.len
  have h2 := hs.cells
  rcases hs.kind with ⟨e', hk⟩ | hk <;> simp [nilS, Builtin.append_, run_underlying ht, run_underlying hk, sizeOf, typeInfo, hi, hsz, h1, h2]

end
end Go.Proofs.YtmkioomgfdpeiacDoor.Kx

/-
  GLUE, 4: spec.Same; AgainX.
-/
namespace Go.Proofs.YtmkioomgfdpeiacDoor.Kx
open Go

section
variable {P : Program} {te : Nat}

theorem SlRp.form {w : World} {X : Nat → Prop} {v : Value} {l : Bs} (h : SlRp w X v l) : ∃ base c, v = .slice base l.length c ∧ (l = [] ∨ ∃ b o, base = some ⟨b, o, none⟩ ∧ OctAt w b o l) := by
  rcases h with ⟨rfl, rfl⟩ | ⟨b, o, c, rfl, _, _, _, _, ho⟩
  · exact ⟨none, 0, rfl, .inl rfl⟩
  · exact ⟨some ⟨b, o, none⟩, c, rfl, .inr ⟨b, o, rfl, ho⟩⟩

theorem same_calls (hm : P.follows .mixedOrders = true) {f nt tSl tU8 tInt : Nat} (ot : OctT P tSl tU8) (h8 : VarIs P tU8 false 1) (hfn : FnIs P f nt [4] (cSame tSl tU8 tInt)) (hnt : 26 ≤ nt) {w : World} {X : Nat → Prop} {va vb : Value} {la lb : Bs} (ha : SlRp w X va la) (hb : SlRp w X vb lb) (hla : la.length ≤ maxLen) :
    Calls P f #[va, vb] w fun e w' => e = .returned (.bool (decide (la = lb))) ∧ Keeps (fun _ => False) w w' := by
  obtain ⟨ba, ca, rfl, hoa⟩ := ha.form
  obtain ⟨bb, cb, rfl, hob⟩ := hb.form
  refine callsA hm hfn (by simp) [_, _] (by simp; omega) fun a harg hs hd => ?_
  have g0 := harg 0 _ rfl
  have g1 := harg 1 _ rfl
  have retF : ∀ (a1 : Act) (w1 : World) (N : Act → World → Prop) (b : Bool), a1.tmps.size = nt → a1.defers = [] → Keeps (fun _ => False) w w1 → b = decide (la = lb) → NWP P (retB b) (Rt N (fun a' w' => a'.defers = [] ∧ (Ending.returned (retOf [4] a') = .returned (.bool (decide (la = lb))) ∧ Keeps (fun _ => False) w w'))) a1 w1 := by
    intro a1 w1 N b hs1 hd1 hk hbb
    refine nwp_sq_cons (cs := [.ret]) (nwp_rg (wl_assign (wpList_nil (.ret ⟨?_, ?_, hk⟩))))
    · simp only [put_defers]; exact hd1
    · rw [retOf_one, get_put _ _ _ (by omega), hbb]
      rfl
  unfold cSame
  refine nwp_sq_cons (nwp_rg (wl_assign (wpList_nil ?_)))
  refine nwp_sq_cons ?_
  rw [then_rt]
  -- the two lengths
  have htest : ∀ (b : Bool), b = decide (la.length ≠ lb.length) → ∀ (Y : Act → World → Prop) (E : Act → World → Prop), (∀ a1, a1.get 10 = .bool b → a1.get 0 = .slice ba la.length ca → a1.get 1 = .slice bb lb.length cb → a1.tmps.size = nt → a1.defers = [] → Y a1 w) →
      NWP P (rg [mk (some 6) (.move (tm 0)), bi (some 7) .len [tm 6] [tSl] tInt, mk (some 8) (.move (tm 1)), bi (some 9) .len [tm 8] [tSl] tInt, mk (some 10) (.binOp .neq tInt (tm 7) (tm 9) 0)]) (Rt Y E) (a.put (some 4) (Act.eval a (.const (.bool false)))) w := by
    intro b hbb Y E hY
    refine .reg (wl_move ?_)
    rw [eval_tm, get_put_ne _ _ _ _ (by omega), g0]
    refine wl_len (base := ba) (n := la.length) (c := ca) (by rw [eval_tm, get_put _ _ _ (by simp only [put_size]; omega)]) ot.und (wl_move ?_)
    rw [eval_tm, get_put_ne _ _ _ _ (by omega), get_put_ne _ _ _ _ (by omega), get_put_ne _ _ _ _ (by omega), g1]
    refine wl_len (base := bb) (n := lb.length) (c := cb) (by rw [eval_tm, get_put _ _ _ (by simp only [put_size]; omega)]) ot.und ?_
    refine wl_cmp (b := b) (p := la.length) (q := lb.length) (k := .i64) (by rw [eval_tm, get_put_ne _ _ _ _ (by omega), get_put_ne _ _ _ _ (by omega), get_put _ _ _ (by simp only [put_size]; omega)]) (by rw [eval_tm, get_put _ _ _ (by simp only [put_size]; omega)]) (.inr (.inr (.inr (.inr (.inr ⟨rfl, by rw [hbb]; exact decide_eq_decide.2 (by omega)⟩))))) (wpList_nil (hY _ ?_ ?_ ?_ ?_ ?_))
    · rw [get_put _ _ _ (by simp only [put_size]; omega)]
    · rw [get_put_ne _ _ _ _ (by omega), get_put_ne _ _ _ _ (by omega), get_put_ne _ _ _ _ (by omega), get_put_ne _ _ _ _ (by omega), get_put_ne _ _ _ _ (by omega), get_put_ne _ _ _ _ (by omega)]; exact g0
    · rw [get_put_ne _ _ _ _ (by omega), get_put_ne _ _ _ _ (by omega), get_put_ne _ _ _ _ (by omega), get_put_ne _ _ _ _ (by omega), get_put_ne _ _ _ _ (by omega), get_put_ne _ _ _ _ (by omega)]; exact g1
    · simp only [put_size]; exact hs
    · simp only [put_defers]; exact hd
  by_cases hne : la.length ≠ lb.length
  · refine .seq (htest true (by simp [hne]) _ _ fun a1 h10 _ _ hs1 hd1 => ?_) (fun a1 w1 hh => hh) (fun e a w he hq => by cases e <;> first | exact absurd rfl he | exact hq | exact hq.elim)
    refine .condT h10 (retF a1 w _ false hs1 hd1 (Keeps.refl _ _) ?_)
    have : la ≠ lb := fun h => hne (by rw [h])
    simp [this]
  have hlen : la.length = lb.length := by omega
  refine .seq (htest false (by simp [hlen]) _ _ fun a1 h10 e0 e1 hs1 hd1 => ?_) (fun a1 w1 hh => hh) (fun e a w he hq => by cases e <;> first | exact absurd rfl he | exact hq | exact hq.elim)
  refine .condF h10 (.skip (nwp_sq_cons ?_))
  rw [then_rt]
  refine .seq (R := Rt (fun a2 w2 => a2.get 0 = .slice ba la.length ca ∧ a2.get 1 = .slice bb lb.length cb ∧ a2.get 12 = .int .i64 (la.length : Int) ∧ a2.get 13 = .int .i64 ((0 : Nat) : Int) ∧ a2.tmps.size = nt ∧ a2.defers = [] ∧ w2 = w) fun _ _ => False) (.reg (wl_move ?_)) (fun a2 w2 hh => ?_) (fun e a w he hq => by cases e <;> first | exact absurd rfl he | exact hq.elim)
  · rw [eval_tm, e0]
    refine wl_len (base := ba) (n := la.length) (c := ca) (by rw [eval_tm, get_put _ _ _ (by omega)]) ot.und (wl_move (wpList_nil ⟨?_, ?_, ?_, ?_, ?_, ?_, rfl⟩))
    · rw [get_put_ne _ _ _ _ (by omega), get_put_ne _ _ _ _ (by omega), get_put_ne _ _ _ _ (by omega)]; exact e0
    · rw [get_put_ne _ _ _ _ (by omega), get_put_ne _ _ _ _ (by omega), get_put_ne _ _ _ _ (by omega)]; exact e1
    · rw [get_put_ne _ _ _ _ (by omega), get_put _ _ _ (by simp only [put_size]; omega)]
    · rw [get_put _ _ _ (by simp only [put_size]; omega)]; rfl
    · simp only [put_size]; exact hs1
    · simp only [put_defers]; exact hd1
  obtain ⟨e0, e1, e12, e13, hs2, hd2, rfl⟩ := hh
  refine .block (.loop (fun a3 w3 => ∃ j : Nat, j ≤ la.length ∧ a3.get 0 = .slice ba la.length ca ∧ a3.get 1 = .slice bb lb.length cb ∧ a3.get 12 = .int .i64 (la.length : Int) ∧ a3.get 13 = .int .i64 (j : Int) ∧ a3.tmps.size = nt ∧ a3.defers = [] ∧ Keeps (fun _ => False) w2 w3 ∧ la.take j = lb.take j)
    (fun a3 _ => ((la.length : Int) - (match a3.get 13 with | .int _ q => q | _ => 0)).toNat) ⟨0, by omega, e0, e1, e12, e13, hs2, hd2, Keeps.refl _ _, by simp⟩ ?_)
  rintro a3 w3 ⟨j, hj, f0, f1, f12, f13, hs3, hd3, hk3, htake⟩
  have htest2 : ∀ (b : Bool) (E : Act → World → Prop), b = decide ((j : Int) < (la.length : Int)) → NWP P (rg [mk (some 14) (.binOp .lss tInt (tm 13) (tm 12) 0)]) (Rt (fun a' w' => a'.get 14 = .bool b ∧ a' = a3.put (some 14) (.bool b) ∧ w' = w3) E) a3 w3 := by
    intro b E hbb
    refine .reg (wl_cmp (b := b) (p := j) (q := la.length) (k := .i64) f13 f12 (.inr (.inr (.inl ⟨rfl, hbb⟩))) (wpList_nil ⟨get_put _ _ _ (by omega), rfl, rfl⟩))
  by_cases hlt : j < la.length
  · refine .seq (htest2 true _ (by simp [hlt])) (fun a4 w4 hh => ?_) (fun e a w he hq => by cases e <;> first | exact absurd rfl he | exact hq | exact hq.elim)
    obtain ⟨h14, rfl, rfl⟩ := hh
    refine .seq (R := Rt (fun a' w' => a' = a3.put (some 14) (.bool true) ∧ w' = w4) fun _ _ => False) (.condT h14 (.skip ⟨rfl, rfl⟩)) (fun a5 w5 hh => ?_) (fun e a w he hq => by cases e <;> first | exact absurd rfl he | exact hq.elim)
    obtain ⟨rfl, rfl⟩ := hh
    refine .seq (R := Rt (fun a6 w6 => a6.get 0 = .slice ba la.length ca ∧ a6.get 1 = .slice bb lb.length cb ∧ a6.get 12 = .int .i64 (la.length : Int) ∧ a6.get 13 = .int .i64 (j : Int) ∧ a6.tmps.size = nt ∧ a6.defers = [] ∧ Keeps (fun _ => False) w2 w6 ∧ la.take (j + 1) = lb.take (j + 1)) (fun a' w' => a'.defers = [] ∧ (Ending.returned (retOf [4] a') = .returned (.bool (decide (la = lb))) ∧ Keeps (fun _ => False) w2 w')))
      (.block ?_) (fun a6 w6 hh => ?_) (fun e a w he hq => by cases e <;> first | exact absurd rfl he | exact hq | exact hq.elim)
    · -- the round
      refine .seq (R := Rt (fun a6 w6 => a6.get 0 = .slice ba la.length ca ∧ a6.get 1 = .slice bb lb.length cb ∧ a6.get 12 = .int .i64 (la.length : Int) ∧ a6.get 13 = .int .i64 (j : Int) ∧ a6.get 5 = .int .i64 (j : Int) ∧ a6.tmps.size = nt ∧ a6.defers = [] ∧ w6 = w5) fun _ _ => False) (.reg (wl_move ?_)) (fun a6 w6 hh => ?_) (fun e a w he hq => by cases e <;> first | exact absurd rfl he | exact hq.elim)
      · rw [eval_tm, get_put_ne _ _ _ _ (by omega), f13]
        refine wl_assign (wpList_nil ⟨?_, ?_, ?_, ?_, ?_, ?_, ?_, rfl⟩)
        · rw [get_put_ne _ _ _ _ (by omega), get_put_ne _ _ _ _ (by omega), get_put_ne _ _ _ _ (by omega)]; exact f0
        · rw [get_put_ne _ _ _ _ (by omega), get_put_ne _ _ _ _ (by omega), get_put_ne _ _ _ _ (by omega)]; exact f1
        · rw [get_put_ne _ _ _ _ (by omega), get_put_ne _ _ _ _ (by omega), get_put_ne _ _ _ _ (by omega)]; exact f12
        · rw [get_put_ne _ _ _ _ (by omega), get_put_ne _ _ _ _ (by omega), get_put_ne _ _ _ _ (by omega)]; exact f13
        · rw [get_put _ _ _ (by simp only [put_size]; omega), eval_tm, get_put _ _ _ (by simp only [put_size]; omega)]
        · simp only [put_size]; exact hs3
        · simp only [put_defers]; exact hd3
      obtain ⟨k0, k1, k12, k13, k5, hs6, hd6, rfl⟩ := hh
      have hlo : loudOf (sameOps tSl tU8) = [false, false, false, false, false, false, false, false, false] := by kernel_rfl
      obtain ⟨xa, hxa⟩ : ∃ x, la[j]? = some x := ⟨la[j], List.getElem?_eq_getElem hlt⟩
      obtain ⟨xb, hxb⟩ : ∃ x, lb[j]? = some x := ⟨lb[j]'(by omega), List.getElem?_eq_getElem (by omega)⟩
      have hane : la ≠ [] := fun h => by rw [h] at hlt; simp at hlt
      have hbne : lb ≠ [] := fun h => by rw [hlen, h] at hlt; simp at hlt
      obtain ⟨pa, oa, rfl, hoa'⟩ := hoa.resolve_left hane
      obtain ⟨pb, ob, rfl, hob'⟩ := hob.resolve_left hbne
      have hca : ∀ w' : World, w'.heap = w6.heap → w'.cell? ⟨pa, oa + j * 1, none⟩ = some (.int .u8 (xa.toNat : Int)) := fun w' hw => by
        have h1 := hk3.cell id (hoa' j xa hxa)
        rw [Nat.mul_one]
        simpa [World.cell?, hw] using h1
      have hcb : ∀ w' : World, w'.heap = w6.heap → w'.cell? ⟨pb, ob + j * 1, none⟩ = some (.int .u8 (xb.toNat : Int)) := fun w' hw => by
        have h1 := hk3.cell id (hob' j xb hxb)
        rw [Nat.mul_one]
        simpa [World.cell?, hw] using h1
      refine .seq (R := Rt (fun a7 w7 => a7.get 24 = .bool (decide (xa ≠ xb)) ∧ a7.get 0 = .slice (some ⟨pa, oa, none⟩) la.length ca ∧ a7.get 1 = .slice (some ⟨pb, ob, none⟩) lb.length cb ∧ a7.get 12 = .int .i64 (la.length : Int) ∧ a7.get 13 = .int .i64 (j : Int) ∧ a7.tmps.size = nt ∧ a7.defers = [] ∧ w7 = w6.drew) fun _ _ => False) (.drw (fun w' => w'.heap = w6.heap) ?_) (fun a7 w7 hh => ?_) (fun e a w he hq => by cases e <;> first | exact absurd rfl he | exact hq.elim)
      · rw [hlo]
        show evF P _ (sameOps tSl tU8) a6 fun af => wpLd P _ _ [] af w6.drew
        refine ev_move (ev_move ?_)
        rw [eval_tm, k0, eval_tm, get_put_ne _ _ _ _ (by omega), k5]
        refine ev_index (b := pa) (o := oa) (m := la.length) (c := ca) (i := j) (k := .i64) (sz := 1) (by rw [eval_tm, get_put_ne _ _ _ _ (by omega), get_put _ _ _ (by omega)]) (by rw [eval_tm, get_put _ _ _ (by simp only [put_size]; omega)]) hlt ot.und h8.size ?_
        refine ev_load1 (p := ⟨pa, oa + j * 1, none⟩) (v := .int .u8 (xa.toNat : Int)) (by rw [eval_tm, get_put _ _ _ (by simp only [put_size]; omega)]) h8.agg hca (ev_move (ev_move ?_))
        rw [eval_tm, get_put_ne _ _ _ _ (by omega), get_put_ne _ _ _ _ (by omega), get_put_ne _ _ _ _ (by omega), get_put_ne _ _ _ _ (by omega), k1, eval_tm, get_put_ne _ _ _ _ (by omega), get_put_ne _ _ _ _ (by omega), get_put_ne _ _ _ _ (by omega), get_put_ne _ _ _ _ (by omega), get_put_ne _ _ _ _ (by omega), k5]
        refine ev_index (b := pb) (o := ob) (m := lb.length) (c := cb) (i := j) (k := .i64) (sz := 1) (by rw [eval_tm, get_put_ne _ _ _ _ (by omega), get_put _ _ _ (by simp only [put_size]; omega)]) (by rw [eval_tm, get_put _ _ _ (by simp only [put_size]; omega)]) (by omega) ot.und h8.size ?_
        refine ev_load1 (p := ⟨pb, ob + j * 1, none⟩) (v := .int .u8 (xb.toNat : Int)) (by rw [eval_tm, get_put _ _ _ (by simp only [put_size]; omega)]) h8.agg hcb ?_
        refine ev_bin (k := .u8) (k2 := .u8) (m := (xa.toNat : Int)) (m2 := (xb.toNat : Int)) (v := .bool (decide (xa ≠ xb))) ?_ ?_ ?_ ⟨rfl, ?_, ?_, ?_, ?_, ?_, ?_, ?_, rfl⟩
        · rw [eval_tm, get_put_ne _ _ _ _ (by omega), get_put_ne _ _ _ _ (by omega), get_put_ne _ _ _ _ (by omega), get_put_ne _ _ _ _ (by omega), get_put _ _ _ (by simp only [put_size]; omega)]
        · rw [eval_tm, get_put _ _ _ (by simp only [put_size]; omega)]
        · intro w'
          refine run_cmp (.inr (.inr (.inr (.inr (.inr ⟨rfl, ?_⟩)))))
          have : xa ≠ xb ↔ (xa.toNat : Int) ≠ (xb.toNat : Int) := by
            rw [Ne, Ne, UInt8.toNat_inj.symm]; omega
          simp only [this]
        · rw [get_put _ _ _ (by simp only [put_size]; omega)]
        · iterate 9 rw [get_put_ne _ _ _ _ (by omega)]
          exact k0
        · iterate 9 rw [get_put_ne _ _ _ _ (by omega)]
          exact k1
        · iterate 9 rw [get_put_ne _ _ _ _ (by omega)]
          exact k12
        · iterate 9 rw [get_put_ne _ _ _ _ (by omega)]
          exact k13
        · simp only [put_size]; exact hs6
        · simp only [put_defers]; exact hd6
      · obtain ⟨h24, l0, l1, l12, l13, hs7, hd7, rfl⟩ := hh
        have hk7 : Keeps (fun _ => False) w2 w6.drew := hk3.trans (Keeps.drew _ _)
        have hta : la.take (j + 1) = la.take j ++ [xa] := by rw [List.take_add_one, hxa]; rfl
        have htb : lb.take (j + 1) = lb.take j ++ [xb] := by rw [List.take_add_one, hxb]; rfl
        by_cases hxx : xa = xb
        · refine .condF (by rw [eval_tm, h24]; simp [hxx]) (.skip ?_)
          exact ⟨l0, l1, l12, l13, hs7, hd7, hk7, by rw [hta, htb, htake, hxx]⟩
        · refine .condT (by rw [eval_tm, h24]; simp [hxx]) (.mono (retF a7 w6.drew (fun _ _ => False) false hs7 hd7 hk7 ?_) fun e a w hq => by cases e <;> first | exact hq | exact hq.elim)
          have : la ≠ lb := fun h => by rw [h, hxb] at hxa; exact hxx (Option.some.inj hxa).symm
          simp [this]
    · obtain ⟨l0, l1, l12, l13, hs7, hd7, hk7, ht7⟩ := hh
      have hwr : IntKind.i64.wrap ((j : Int) + 1) = ((j + 1 : Nat) : Int) := by simp only [maxLen] at hla; simp [IntKind.wrap, IntKind.bits, IntKind.signed]; omega
      refine .reg (wl_bin (v := .int .i64 ((j + 1 : Nat) : Int)) (k := .i64) (m := j) (n := 1) l13 rfl (by simp) (by simp [binOp, Op.intArith, hwr]) (wl_move (wpList_nil ?_)))
      rw [eval_tm, get_put _ _ _ (by omega)]
      have hg : ((a6.put (some 25) (.int .i64 ((j + 1 : Nat) : Int))).put (some 13) (.int .i64 ((j + 1 : Nat) : Int))).get 13 = .int .i64 ((j + 1 : Nat) : Int) := get_put _ _ _ (by simp only [put_size]; omega)
      refine ⟨⟨j + 1, by omega, ?_, ?_, ?_, hg, by simp only [put_size]; exact hs7, by simp only [put_defers]; exact hd7, hk7, ht7⟩, ?_⟩
      · rw [get_put_ne _ _ _ _ (by omega), get_put_ne _ _ _ _ (by omega)]; exact l0
      · rw [get_put_ne _ _ _ _ (by omega), get_put_ne _ _ _ _ (by omega)]; exact l1
      · rw [get_put_ne _ _ _ _ (by omega), get_put_ne _ _ _ _ (by omega)]; exact l12
      · rw [hg, f13]
        simp only
        omega
  · have hjn : j = la.length := by omega
    subst hjn
    refine .seq (htest2 false _ (by simp)) (fun a4 w4 hh => ?_) (fun e a w he hq => by cases e <;> first | exact absurd rfl he | exact hq | exact hq.elim)
    obtain ⟨h14, rfl, rfl⟩ := hh
    refine .seq (R := fun e a w => e ≠ .normal ∧ Exit.inBlock 0 (Rt (fun a' w' => a'.tmps.size = nt ∧ a'.defers = [] ∧ Keeps (fun _ => False) w2 w') fun _ _ => False) e a w) (.condF h14 (.exit ?_)) (fun a2 w2 hh => absurd rfl hh.1) (fun e a w he hq => ?_)
    · simp only [Exit.inBlock, if_true]
      exact ⟨by simp, by simp only [put_size]; exact hs3, by simp only [put_defers]; exact hd3, hk3⟩
    · rw [then_ne he]
      have hq2 := hq.2
      cases e with
      | normal => exact absurd rfl he
      | exit i =>
        simp only [Exit.inBlock] at hq2 ⊢
        split at hq2
        · rename_i hi
          rw [if_pos hi]
          obtain ⟨hs5, hd5, hk5⟩ := hq2
          refine nwp_sq_cons (nwp_rg (wl_assign (wpList_nil (.ret ⟨?_, ?_, hk5⟩))))
          · simp only [put_defers]; exact hd5
          · rw [retOf_one, get_put _ _ _ (by omega)]
            have : la = lb := by
              rw [List.take_length] at htake
              rw [htake, hlen, List.take_length]
            simp [this]
            rfl
        · exact hq2.elim
      | _ => exact hq2.elim

end
end Go.Proofs.YtmkioomgfdpeiacDoor.Kx

/-
  GLUE, 5: AgainX; FnAnyX.
-/
namespace Go.Proofs.YtmkioomgfdpeiacDoor.Kx
open Go

def src0 (l : Bs) : RS := ⟨l, false, l.isEmpty⟩
/-- what AgainX gives: the octets, or an error -/
def againOut (kept hf : Bool) (flex : Nat) (fs : Fds) (ver : Int) (l : Bs) : Option Bs :=
  match rdMsg hf flex fs (vread kept ver (src0 l)).1 (vread kept ver (src0 l)).2 with
  | .ok v r => if r.bad then none else some (wrMsg kept hf flex fs (vread kept ver (src0 l)).1 v)
  | _ => none

/-- the contracts of a message's functions. z: the cells of a new message -/
structure MsgC (P : Program) (gErr te : Nat) (kept hf : Bool) (flex : Nat) (fs : Fds) (toff : Option Nat) (T : Nat) (z : Array Value) (fN fS fR fA : Nat) : Prop where
  zpos : 0 < z.size
  newE : Ent P fN
  newC : ∀ w, Calls P fN #[] w fun e w' => e = .returned (pt w.heap.size 0) ∧ Keeps (fun _ => False) w w' ∧ w'.heap[w.heap.size]? = some (.cells z T (0, 0))
  setE : Ent P fS
  setC : ∀ (w : World) (B : Nat) (cur : Array Value) (x : Int), w.heap[B]? = some (.cells cur T (0, 0)) → 0 < cur.size → Calls P fS #[pt B 0, .int .i16 x] w fun e w' => e = .returned (.tuple #[]) ∧ Keeps (· = B) w w' ∧ w'.heap[B]? = some (.cells (cur.setIfInBounds 0 (.int .i16 x)) T (0, 0))
  rdE : Ent P fR
  rdC : ∀ (w : World) (B S : Nat) (ver : Int) (srcv : Value) (r0 : RS), w.heap[B]? = some (.cells (z.setIfInBounds 0 (.int .i16 ver)) T (0, 0)) → SrcAt w S srcv r0 → r0.bad = false → ErrAt gErr w → S < w.heap.size → B ≠ S → gErr ≠ B → rdMsg hf flex fs (vread kept ver r0).1 (vread kept ver r0).2 ≠ .stuck →
    Calls P fR #[pt B 0, srcv] w fun e w' => ∃ x, e = .returned x ∧ ReadPost fs toff B S T z.size w (vread kept ver r0).1 (rdMsg hf flex fs (vread kept ver r0).1 (vread kept ver r0).2) x w'
  apE : Ent P fA
  apC : ∀ (w : World) (B : Nat) (ver : Int) (vs : List V) (t : List (Nat × Bs)), -32768 ≤ ver ∧ ver < 32768 → B < w.heap.size → w.cell? ⟨B, 0, none⟩ = some (.int .i16 ver) → RpF w (fun k => w.heap.size ≤ k) fs B 0 vs → TgAt w (fun k => w.heap.size ≤ k) B 0 toff t → (wrMsg kept hf flex fs ver (.st vs t)).length ≤ LIM →
    Calls P fA #[pt B 0, nilS] w fun e w' => ∃ d', e = .returned d' ∧ DstAt w' w.heap.size te d' (wrMsg kept hf flex fs ver (.st vs t)) ∧ Keeps (fun _ => False) w w'

theorem DstAt.sl {w : World} {L te : Nat} {d : Value} {bs : Bs} (h : DstAt w L te d bs) : SlRp w (fun _ => False) d bs := by
  rcases h with ⟨rfl, rfl⟩ | ⟨g, c, cur, rfl, _, hg, hn, hc, hs, hat⟩
  · exact .inl ⟨rfl, rfl⟩
  · refine .inr ⟨g, 0, c, rfl, id, (Array.getElem?_eq_some_iff.1 hg).1, hn, hc, fun i x hi => ?_⟩
    rw [Nat.zero_add]
    simp [World.cell?, hg, hat i x hi, octv]
theorem vread_range {kept : Bool} {ver : Int} {r : RS} (h : -32768 ≤ ver ∧ ver < 32768) : -32768 ≤ (vread kept ver r).1 ∧ (vread kept ver r).1 < 32768 := by
  cases kept with
  | false => exact h
  | true =>
    show -32768 ≤ (rI 2 r).1 ∧ (rI 2 r).1 < 32768
    have h1 : (rU 2 r).1 < 65536 := by
      unfold rU
      split
      · decide
      · have := unbe_lt (r.src.take 2)
        have hl : (r.src.take 2).length = 2 := by rw [List.length_take]; omega
        rw [hl] at this
        exact this
    show -32768 ≤ sgn 16 (rU 2 r).1 ∧ sgn 16 (rU 2 r).1 < 32768
    simp only [sgn]
    split <;> omega

section
variable {P : Program} {gErr te : Nat} {kept hf : Bool} {flex : Nat} {fs : Fds} {toff : Option Nat} {T : Nat} {z : Array Value} {fN fS fR fA : Nat}

theorem again_calls (hm : P.follows .mixedOrders = true) (M : MsgC P gErr te kept hf flex fs toff T z fN fS fR fA) {f nt tI16 tInt tSl tErr : Nat} (ot : OctT P tSl te) (hI : P.underlying tI16 = some (.int .i16)) (hInt : P.underlying tInt = some (.int .i64)) {ms : Array (String × TypeId)} (hErr : P.underlying tErr = some (.interface ms))
    (hfn : FnIs P f nt [4, 5] (cAgain tI16 tInt tSl tErr fN fS fR fA)) (hnt : 19 ≤ nt) {w : World} {x : Int} {srcv : Value} {l : Bs} (hsrc : SlRp w (fun _ => False) srcv l) (hll : l.length ≤ LIM) (herr : ErrAt gErr w)
    (hgo : rdMsg hf flex fs (vread kept (IntKind.i16.wrap x) (src0 l)).1 (vread kept (IntKind.i16.wrap x) (src0 l)).2 ≠ .stuck) (hlim : ∀ bs, againOut kept hf flex fs (IntKind.i16.wrap x) l = some bs → bs.length ≤ LIM) :
    Calls P f #[.int .i64 x, srcv] w fun e w' => ∃ y b, e = .returned (.tuple #[y, .bool b]) ∧ Keeps (fun _ => False) w w' ∧
      (againOut kept hf flex fs (IntKind.i16.wrap x) l = none → b = false ∧ y = nilS) ∧ (∀ bs, againOut kept hf flex fs (IntKind.i16.wrap x) l = some bs → b = true ∧ SlRp w' (fun _ => False) y bs) := by
  refine callsA hm hfn (by simp) [.int .i64 x, srcv] (by simp; omega) fun a harg hs hd => ?_
  have g0 := harg 0 _ rfl
  have g1 := harg 1 _ rfl
  have herrlt : gErr < w.heap.size := by obtain ⟨_, _, h⟩ := herr; exact lt_of_cell h
  generalize hver : IntKind.i16.wrap x = ver at hgo hlim ⊢
  have hvr : -32768 ≤ ver ∧ ver < 32768 := by rw [← hver]; simp [IntKind.wrap, IntKind.bits, IntKind.signed]; omega
  unfold cAgain
  refine nwp_sq_cons (nwp_rg (wl_assign (wl_assign (wpList_nil ?_))))
  refine nwp_sq_cons (nwp_rg (wl_call (vs := #[]) M.newE rfl (M.newC w) fun e w1 hR1 => ⟨_, hR1.1, wl_assign (wpList_nil ?_)⟩))
  obtain ⟨_, hk1, hb1⟩ := hR1
  have hz1 := hk1.size
  have hBlt : w.heap.size < w1.heap.size := (Array.getElem?_eq_some_iff.1 hb1).1
  rw [eval_tm, get_put _ _ _ (by simp only [put_size]; omega)]
  have q0 : ((((a.put (some 4) (Act.eval a (.const nilS))).put (some 5) (Act.eval (a.put (some 4) (Act.eval a (.const nilS))) (.const (.bool false)))).put (some 7) (pt w.heap.size 0)).put (some 6) (pt w.heap.size 0)).get 0 = .int .i64 x := by
    rw [get_put_ne _ _ _ _ (by omega), get_put_ne _ _ _ _ (by omega), get_put_ne _ _ _ _ (by omega), get_put_ne _ _ _ _ (by omega)]; exact g0
  have q1 : ((((a.put (some 4) (Act.eval a (.const nilS))).put (some 5) (Act.eval (a.put (some 4) (Act.eval a (.const nilS))) (.const (.bool false)))).put (some 7) (pt w.heap.size 0)).put (some 6) (pt w.heap.size 0)).get 1 = srcv := by
    rw [get_put_ne _ _ _ _ (by omega), get_put_ne _ _ _ _ (by omega), get_put_ne _ _ _ _ (by omega), get_put_ne _ _ _ _ (by omega)]; exact g1
  have q6 : ((((a.put (some 4) (Act.eval a (.const nilS))).put (some 5) (Act.eval (a.put (some 4) (Act.eval a (.const nilS))) (.const (.bool false)))).put (some 7) (pt w.heap.size 0)).put (some 6) (pt w.heap.size 0)).get 6 = pt w.heap.size 0 := get_put _ _ _ (by simp only [put_size]; omega)
  have qs : ((((a.put (some 4) (Act.eval a (.const nilS))).put (some 5) (Act.eval (a.put (some 4) (Act.eval a (.const nilS))) (.const (.bool false)))).put (some 7) (pt w.heap.size 0)).put (some 6) (pt w.heap.size 0)).tmps.size = nt := by simp only [put_size]; exact hs
  have qd : ((((a.put (some 4) (Act.eval a (.const nilS))).put (some 5) (Act.eval (a.put (some 4) (Act.eval a (.const nilS))) (.const (.bool false)))).put (some 7) (pt w.heap.size 0)).put (some 6) (pt w.heap.size 0)).defers = [] := by simp only [put_defers]; exact hd
  generalize (((a.put (some 4) (Act.eval a (.const nilS))).put (some 5) (Act.eval (a.put (some 4) (Act.eval a (.const nilS))) (.const (.bool false)))).put (some 7) (pt w.heap.size 0)).put (some 6) (pt w.heap.size 0) = a at q0 q1 q6 qs qd ⊢
  generalize hBe : w.heap.size = B at hb1 hBlt q6 hz1 herrlt
  -- SetVersion
  refine nwp_sq_cons (nwp_rg (wl_move (wl_move ?_)))
  rw [eval_tm, q6, eval_tm, get_put_ne _ _ _ _ (by omega), q0]
  refine wl_convInt (k := .i64) (k' := .i16) (m := x) (by rw [eval_tm, get_put _ _ _ (by simp only [put_size]; omega)]) hInt hI ?_
  rw [hver]
  refine wl_call (vs := #[pt B 0, .int .i16 ver]) M.setE ?_ (M.setC w1 B z ver hb1 M.zpos) fun e w2 hR2 => ⟨_, hR2.1, wpList_nil ?_⟩
  · simp only [List.map_cons, List.map_nil, eval_tm]
    rw [get_put_ne _ _ _ _ (by omega), get_put_ne _ _ _ _ (by omega), get_put _ _ _ (by omega), get_put _ _ _ (by simp only [put_size]; omega)]
  obtain ⟨_, hk2, hb2⟩ := hR2
  have hz2 := hk2.size
  have p1 : ((((a.put (some 8) (pt B 0)).put (some 9) (.int .i64 x)).put (some 10) (.int .i16 ver)).put (some 11) (.tuple #[])).get 1 = srcv := by
    rw [get_put_ne _ _ _ _ (by omega), get_put_ne _ _ _ _ (by omega), get_put_ne _ _ _ _ (by omega), get_put_ne _ _ _ _ (by omega)]; exact q1
  have p6 : ((((a.put (some 8) (pt B 0)).put (some 9) (.int .i64 x)).put (some 10) (.int .i16 ver)).put (some 11) (.tuple #[])).get 6 = pt B 0 := by
    rw [get_put_ne _ _ _ _ (by omega), get_put_ne _ _ _ _ (by omega), get_put_ne _ _ _ _ (by omega), get_put_ne _ _ _ _ (by omega)]; exact q6
  have ps : ((((a.put (some 8) (pt B 0)).put (some 9) (.int .i64 x)).put (some 10) (.int .i16 ver)).put (some 11) (.tuple #[])).tmps.size = nt := by simp only [put_size]; exact qs
  have pd : ((((a.put (some 8) (pt B 0)).put (some 9) (.int .i64 x)).put (some 10) (.int .i16 ver)).put (some 11) (.tuple #[])).defers = [] := by simp only [put_defers]; exact qd
  generalize (((a.put (some 8) (pt B 0)).put (some 9) (.int .i64 x)).put (some 10) (.int .i16 ver)).put (some 11) (.tuple #[]) = a at p1 p6 ps pd ⊢
  have hk02 : Keeps (fun _ => False) w w2 := by
    have : Keeps (fun k => B ≤ k) w w2 := (hk1.mono fun _ _ h => h.elim).trans (hk2.mono fun k _ hk => by omega)
    exact this.mono fun k hk hX => by omega
  have hsrc2 : SlRp w2 (fun _ => False) srcv l := hsrc.keep hk02
  have herr2 : ErrAt gErr w2 := herr.keep hk02 id
  -- the copy of what came in
  have hcopy : ∃ d' w3 S, (Builtin.append_ #[tSl, tSl] tSl #[nilS, srcv]).run P w2 = .ok d' w3 ∧ SrcAt w3 S d' (src0 l) ∧ Keeps (fun _ => False) w2 w3 ∧ S < w3.heap.size ∧ S ≠ B := by
    by_cases hl0 : l = []
    · subst hl0
      have hS : Src P 1 tSl srcv 0 [] w2 := by
        rcases hsrc2 with ⟨rfl, _⟩ | ⟨b, o, c, rfl, _, _, _, _, ho⟩
        · exact src_nil ot w2 0
        · exact src_oct ot ho
      exact ⟨nilS, w2, gErr, run_append_nil0 ot hS, .inl ⟨rfl, rfl, rfl⟩, Keeps.refl _ _, by omega, by omega⟩
    · have hS : Src P 1 tSl srcv l.length (l.map octv) w2 := by
        rcases hsrc2 with ⟨rfl, rfl⟩ | ⟨b, o, c, rfl, _, _, _, _, ho⟩
        · exact absurd rfl hl0
        · exact src_oct ot ho
      obtain ⟨d', w3, hr, hg⟩ := run_append_dst (L := w2.heap.size) (ty := tSl) ot (DstAt.nil w2 w2.heap.size te) hS (Nat.le_refl _) (by simpa using hll)
      rw [List.nil_append] at hg
      have hk3 : Keeps (fun _ => False) w2 w3 := hg.keeps.mono fun k _ hk => by simp [Value.ownBlock] at hk
      rcases hg.dst with ⟨_, h⟩ | ⟨gg, c, cur, rfl, hL, hgb, hn, hc, hsz, hat⟩
      · exact absurd h hl0
      · have hlt : gg < w3.heap.size := (Array.getElem?_eq_some_iff.1 hgb).1
        refine ⟨_, w3, gg, hr, .inr ⟨0, c, rfl, by cases l with | nil => exact absurd rfl hl0 | cons _ _ => rfl, hn, hc, hlt, fun i y hi => ?_⟩, hk3, hlt, by omega⟩
        rw [Nat.zero_add]
        simp [World.cell?, hgb, hat i y hi, octv]
  obtain ⟨d', w3, S, hrun, hS3, hk3, hSlt, hSB⟩ := hcopy
  have hz3 := hk3.size
  have hb3 : w3.heap[B]? = some (.cells (z.setIfInBounds 0 (.int .i16 ver)) T (0, 0)) := by rw [hk3.block B (by omega) id]; exact hb2
  have herr3 : ErrAt gErr w3 := herr2.keep hk3 id
  have hrd := M.rdC w3 B S ver d' (src0 l) hb3 hS3 rfl herr3 hSlt (by omega) (by omega) hgo
  have hvv := vread_range (kept := kept) (r := src0 l) hvr
  unfold againOut at hlim ⊢
  generalize hvrd : vread kept ver (src0 l) = vr at hrd hlim hvv hgo ⊢
  generalize hout : rdMsg hf flex fs vr.1 vr.2 = out at hrd hlim hgo ⊢
  have hk03 : Keeps (fun _ => False) w w3 := hk02.trans hk3
  -- ReadFrom
  have head : ∀ (b : Bool) (Y : Act → World → Prop) (E : Act → World → Prop), (∀ a4 w4 y, a4.get 16 = .bool b → a4.get 6 = pt B 0 → a4.tmps.size = nt → a4.defers = [] → ReadPost fs toff B S T z.size w3 vr.1 out y w4 → Y a4 w4) → (∀ y w4, ReadPost fs toff B S T z.size w3 vr.1 out y w4 → (y = .nilIface ∧ b = false) ∨ ((∃ t q, y = .iface t q) ∧ b = true)) →
      NWP P (rg [mk (some 12) (.move (tm 6)), mk (some 13) (.move (tm 1)), bi (some 14) .append [.const nilS, tm 13] [tSl, tSl] tSl, cl (some 15) fR [tm 12, tm 14], mk (some 16) (.binOp .neq tErr (tm 15) (.const .nilIface) 0)]) (Rt Y E) a w2 := by
    intro b Y E hY hb
    refine .reg (wl_move (wl_move ?_))
    rw [eval_tm, p6, eval_tm, get_put_ne _ _ _ _ (by omega), p1]
    refine wpList_plain rfl fun _ hK => ?_
    unfold Oper.wp
    have hx : (execOp (Act.eval ((a.put (some 12) (pt B 0)).put (some 13) srcv)) (bi (some 14) .append [.const nilS, tm 13] [tSl, tSl] tSl)).run P w2 = .ok (.value d') w3 := by
      have e13 : Act.eval ((a.put (some 12) (pt B 0)).put (some 13) srcv) (tm 13) = srcv := get_put _ _ _ (by simp only [put_size]; omega)
      have ec : Act.eval ((a.put (some 12) (pt B 0)).put (some 13) srcv) (.const nilS) = nilS := rfl
      simp [execOp, bi, resolve, invoke, e13, ec, builtin, hrun]
    rw [hx]
    refine hK _ _ ?_
    refine wl_call (vs := #[pt B 0, d']) M.rdE ?_ hrd fun e w4 hR4 => ?_
    · simp only [List.map_cons, List.map_nil, eval_tm]
      show ([Act.get (Act.put _ (some 14) d') 12, Act.get (Act.put _ (some 14) d') 14] : List Value).toArray = _
      rw [get_put_ne _ _ _ _ (by omega), get_put_ne _ _ _ _ (by omega), get_put _ _ _ (by omega), get_put _ _ _ (by simp only [put_size]; omega)]
    obtain ⟨y, he, hpost⟩ := hR4
    refine ⟨y, he, ?_⟩
    show wpList P _ _ _ (Act.put (Act.put _ (some 14) d') (some 15) y) w4
    refine wl_neErr (b := b) hErr (by rw [eval_tm, get_put _ _ _ (by simp only [put_size]; omega)]) (hb y w4 hpost) (wpList_nil (hY _ w4 y ?_ ?_ ?_ ?_ hpost))
    · rw [get_put _ _ _ (by simp only [put_size]; omega)]
    · rw [get_put_ne _ _ _ _ (by omega), get_put_ne _ _ _ _ (by omega), get_put_ne _ _ _ _ (by omega), get_put_ne _ _ _ _ (by omega), get_put_ne _ _ _ _ (by omega)]; exact p6
    · simp only [put_size]; exact ps
    · simp only [put_defers]; exact pd
  have kB : ∀ w4, Keeps (· = B) w3 w4 → Keeps (fun _ => False) w w4 := fun w4 hk => by
    have : Keeps (fun k => B ≤ k) w w4 := (hk03.mono fun _ _ h => h.elim).trans (hk.mono fun k _ hk => by omega)
    exact this.mono fun k hk hX => by omega
  -- an error is handed back
  have bad : (∀ y w4, ReadPost fs toff B S T z.size w3 vr.1 out y w4 → ∃ t q, y = .iface t q) → (match out with | .ok v r => if r.bad then none else some (wrMsg kept hf flex fs vr.1 v) | _ => none) = (none : Option Bs) →
      NWP P (sq [.seq (rg [mk (some 12) (.move (tm 6)), mk (some 13) (.move (tm 1)), bi (some 14) .append [.const nilS, tm 13] [tSl, tSl] tSl, cl (some 15) fR [tm 12, tm 14], mk (some 16) (.binOp .neq tErr (tm 15) (.const .nilIface) 0)])
        (.cond (tm 16) (.seq (rg [mk (some 4) (.assign (.const nilS)), mk (some 5) (.assign (.const (.bool false)))]) .ret) .skip), rg [mk (some 17) (.move (tm 6)), cl (some 18) fA [tm 17, .const nilS], mk (some 4) (.assign (tm 18)), mk (some 5) (.assign (.const (.bool true)))], .ret])
        (Rt (fun a' w' => a'.defers = [] ∧ ∃ y b, Ending.returned (retOf [4, 5] a') = .returned (.tuple #[y, .bool b]) ∧ Keeps (fun _ => False) w w' ∧ ((match out with | .ok v r => if r.bad then none else some (wrMsg kept hf flex fs vr.1 v) | _ => none) = none → b = false ∧ y = nilS) ∧ (∀ bs, (match out with | .ok v r => if r.bad then none else some (wrMsg kept hf flex fs vr.1 v) | _ => none) = some bs → b = true ∧ SlRp w' (fun _ => False) y bs))
          (fun a' w' => a'.defers = [] ∧ ∃ y b, Ending.returned (retOf [4, 5] a') = .returned (.tuple #[y, .bool b]) ∧ Keeps (fun _ => False) w w' ∧ ((match out with | .ok v r => if r.bad then none else some (wrMsg kept hf flex fs vr.1 v) | _ => none) = none → b = false ∧ y = nilS) ∧ (∀ bs, (match out with | .ok v r => if r.bad then none else some (wrMsg kept hf flex fs vr.1 v) | _ => none) = some bs → b = true ∧ SlRp w' (fun _ => False) y bs))) a w2 := by
    intro hiface hnone
    refine nwp_sq_cons ?_
    rw [then_rt]
    refine .seq (head true _ _ (fun a4 w4 y h16 h6 hs4 hd4 hpost => ?_) (fun y w4 hp => .inr ⟨hiface y w4 hp, rfl⟩)) (fun a1 w1 hh => hh) (fun e a w he hq => by cases e <;> first | exact absurd rfl he | exact hq | exact hq.elim)
    refine .condT h16 (nwp_sq_cons (cs := [.ret]) (nwp_rg (wl_assign (wl_assign (wpList_nil (.ret ⟨?_, nilS, false, ?_, kB w4 hpost.1, fun _ => ⟨rfl, rfl⟩, fun bs hbs => ?_⟩))))))
    · simp only [put_defers]; exact hd4
    · show Ending.returned (.tuple #[Act.get _ 4, Act.get _ 5]) = _
      rw [get_put_ne _ _ _ _ (by omega), get_put _ _ _ (by omega), get_put _ _ _ (by simp only [put_size]; omega)]
      rfl
    · rw [hnone] at hbs; cases hbs
  cases out with
  | stuck => exact absurd rfl hgo
  | err => exact bad (fun y w4 hp => hp.2) rfl
  | ok v r =>
    by_cases hbadr : r.bad = true
    · exact bad (fun y w4 hp => hp.2.2.1 hbadr) (by simp [hbadr])
    · have hbf : r.bad = false := by simpa using hbadr
      simp only [hbf, Bool.false_eq_true, if_false] at hlim ⊢
      have hlim' := hlim _ rfl
      refine nwp_sq_cons ?_
      rw [then_rt]
      refine .seq (head false _ _ (fun a4 w4 y h16 h6 hs4 hd4 hpost => ?_) (fun y w4 hp => .inl ⟨hp.2.1 hbf, rfl⟩)) (fun a1 w1 hh => hh) (fun e a w he hq => by cases e <;> first | exact absurd rfl he | exact hq | exact hq.elim)
      refine .condF h16 (.skip (nwp_sq_cons (nwp_rg (wl_move ?_))))
      rw [eval_tm, h6]
      obtain ⟨hkB, _, _, vs, t, cur, rfl, hbB, hcsz, hc0, hfar, hft⟩ := hpost
      have hlt4 : B < w4.heap.size := (Array.getElem?_eq_some_iff.1 hbB).1
      have hz4 := hkB.size
      have hcell : w4.cell? ⟨B, 0, none⟩ = some (.int .i16 vr.1) := by simp [World.cell?, hbB, hc0]
      have hrp : RpF w4 (fun k => w4.heap.size ≤ k) fs B 0 vs := RpF.mono (fun k hk hX => by omega) fs B 0 vs (hfar (fun _ => False) (fun _ h => h.elim) id)
      have htg : TgAt w4 (fun k => w4.heap.size ≤ k) B 0 toff t := (hft (fun _ => False) (fun _ h => h.elim) id).mono fun k hk hX => by omega
      refine wl_call (vs := #[pt B 0, nilS]) M.apE ?_ (M.apC w4 B vr.1 vs t hvv hlt4 hcell hrp htg hlim') fun e w5 hR5 => ?_
      · simp only [List.map_cons, List.map_nil, eval_tm]
        rw [get_put _ _ _ (by omega)]
        rfl
      obtain ⟨d5, he5, hd5, hk5⟩ := hR5
      refine ⟨d5, he5, wl_assign (wl_assign (wpList_nil (nwp_sq_cons (.ret ⟨?_, d5, true, ?_, (kB w4 hkB).trans hk5, (fun h => by cases h), fun bs hbs => ⟨rfl, ?_⟩⟩))))⟩
      · simp only [put_defers]; exact hd4
      · show Ending.returned (.tuple #[Act.get _ 4, Act.get _ 5]) = _
        rw [get_put_ne _ _ _ _ (by omega), get_put _ _ _ (by simp only [put_size]; omega), get_put _ _ _ (by simp only [put_size]; omega), eval_tm, get_put _ _ _ (by simp only [put_size]; omega)]
        rfl
      · obtain rfl := Option.some.inj hbs
        exact hd5.sl

end
end Go.Proofs.YtmkioomgfdpeiacDoor.Kx

/-
  GLUE, 6: FnAnyX: what is read of any octets is written as octets that are read again, and written as the same.
-/
namespace Go.Proofs.YtmkioomgfdpeiacDoor.Kx
open Go

section
variable {P : Program}

/-- what a call of AgainX is: the octets, or an error -/
def AgC (P : Program) (fA : Nat) (gErr : Nat) (out : Int → Bs → Option Bs) (okIn : Int → Bs → Prop) : Prop :=
  ∀ (w : World) (x : Int) (srcv : Value) (l : Bs), SlRp w (fun _ => False) srcv l → ErrAt gErr w → okIn x l → Calls P fA #[.int .i64 x, srcv] w fun e w' => ∃ y b, e = .returned (.tuple #[y, .bool b]) ∧ Keeps (fun _ => False) w w' ∧
      (out x l = none → b = false ∧ y = nilS) ∧ (∀ bs, out x l = some bs → b = true ∧ SlRp w' (fun _ => False) y bs)

theorem s_callAg {fV fA gErr n s x y x0 most : Nat} {out : Int → Bs → Option Bs} {okIn : Int → Bs → Prop} {srcv : Value} {l : Bs} {a : Act} {w : World} {K E : Act → World → Prop} (hVE : Ent P fV) (hV : Calls P fV #[.int .u8 x0, .int .i64 most] w fun e w' => e = .returned (.int .i64 ((x0 % (most + 1) : Nat) : Int)) ∧ Keeps (fun _ => False) w w')
    (hAE : Ent P fA) (hA : AgC P fA gErr out okIn) (h0 : a.get 0 = .int .u8 x0) (h5 : a.get 5 = .int .i64 most) (hs : a.get s = srcv) (hsn : s < n) (h5n : 5 < n) (hxy : x < n ∧ y < n ∧ x ≠ y) (hn : n + 8 ≤ a.tmps.size) (hsrc : SlRp w (fun _ => False) srcv l) (herr : ErrAt gErr w) (hok : okIn ((x0 % (most + 1) : Nat) : Int) l)
    (h : ∀ a' w' v b, (∀ i, i < n → i ≠ x → i ≠ y → a'.get i = a.get i) → a'.tmps.size = a.tmps.size → a'.defers = a.defers → a'.get x = v → a'.get y = .bool b → Keeps (fun _ => False) w w' → (out ((x0 % (most + 1) : Nat) : Int) l = none → b = false ∧ v = nilS) → (∀ bs, out ((x0 % (most + 1) : Nat) : Int) l = some bs → b = true ∧ SlRp w' (fun _ => False) v bs) → K a' w') :
    NWP P (callAg fV fA n s x y) (Rt K E) a w := by
  refine .reg (wl_move (wl_move ?_))
  rw [eval_tm, h0, eval_tm, get_put_ne _ _ _ _ (by omega), h5]
  refine wl_call (vs := #[.int .u8 x0, .int .i64 most]) hVE ?_ hV fun e w1 hR1 => ⟨_, hR1.1, ?_⟩
  · simp only [List.map_cons, List.map_nil, eval_tm]
    rw [get_put_ne _ _ _ _ (by omega), get_put _ _ _ (by omega), get_put _ _ _ (by simp only [put_size]; omega)]
  have hk1 := hR1.2
  refine wl_move ?_
  rw [eval_tm, get_put_ne _ _ _ _ (by omega), get_put_ne _ _ _ _ (by omega), get_put_ne _ _ _ _ (by omega), hs]
  refine wl_call (vs := #[.int .i64 ((x0 % (most + 1) : Nat) : Int), srcv]) hAE ?_ (hA w1 _ srcv l (hsrc.keep hk1) (herr.keep hk1 id) hok) fun e w2 hR2 => ?_
  · simp only [List.map_cons, List.map_nil, eval_tm]
    rw [get_put_ne _ _ _ _ (by omega), get_put _ _ _ (by simp only [put_size]; omega), get_put _ _ _ (by simp only [put_size]; omega)]
  obtain ⟨v, b, he, hk2, hnone, hsome⟩ := hR2
  refine ⟨_, he, wl_move ?_⟩
  rw [eval_tm, get_put _ _ _ (by simp only [put_size]; omega)]
  refine wl_extract (vs := #[v, .bool b]) (v := v) (by rw [eval_tm, get_put _ _ _ (by simp only [put_size]; omega)]) rfl ?_
  refine wl_extract (vs := #[v, .bool b]) (v := .bool b) (by rw [eval_tm, get_put_ne _ _ _ _ (by omega), get_put _ _ _ (by simp only [put_size]; omega)]) rfl ?_
  refine wl_assign (wl_assign (wpList_nil (h _ w2 v b (fun i hi hx hy => ?_) ?_ ?_ ?_ ?_ (hk1.trans hk2) hnone hsome)))
  · rw [get_put_ne _ _ _ _ hy, get_put_ne _ _ _ _ hx, get_put_ne _ _ _ _ (by omega), get_put_ne _ _ _ _ (by omega), get_put_ne _ _ _ _ (by omega), get_put_ne _ _ _ _ (by omega), get_put_ne _ _ _ _ (by omega), get_put_ne _ _ _ _ (by omega), get_put_ne _ _ _ _ (by omega), get_put_ne _ _ _ _ (by omega)]
  · simp only [put_size]
  · simp only [put_defers]
  · rw [get_put_ne _ _ _ _ hxy.2.2, get_put _ _ _ (by simp only [put_size]; omega), eval_tm, get_put_ne _ _ _ _ (by omega), get_put _ _ _ (by simp only [put_size]; omega)]
  · rw [get_put _ _ _ (by simp only [put_size]; omega), eval_tm, get_put_ne _ _ _ _ (by omega), get_put _ _ _ (by simp only [put_size]; omega)]

theorem any_calls (hm : P.follows .mixedOrders = true) {f nt tSl tU8 tInt tB fM fV fA fS gErr most x0 : Nat} {out : Int → Bs → Option Bs} {okIn : Int → Bs → Prop} (ot : OctT P tSl tU8) (_hInt : P.underlying tInt = some (.int .i64)) (hfn : FnIs P f nt [4] (cAny tSl tInt tB fM fV fA fS)) (hnt : 43 ≤ nt)
    (hME : Ent P fM) (hM : ∀ w, Calls P fM #[] w fun e w' => e = .returned (.int .i64 (most : Int)) ∧ Keeps (fun _ => False) w w') (hVE : Ent P fV) (hV : ∀ w, Calls P fV #[.int .u8 x0, .int .i64 most] w fun e w' => e = .returned (.int .i64 ((x0 % (most + 1) : Nat) : Int)) ∧ Keeps (fun _ => False) w w')
    (hAE : Ent P fA) (hA : AgC P fA gErr out okIn) (hSE : Ent P fS) (hS : ∀ (w : World) (va vb : Value) (la lb : Bs), SlRp w (fun _ => False) va la → SlRp w (fun _ => False) vb lb → la.length ≤ maxLen → Calls P fS #[va, vb] w fun e w' => e = .returned (.bool (decide (la = lb))) ∧ Keeps (fun _ => False) w w')
    {w : World} {srcv : Value} {l : Bs} (hsrc : SlRp w (fun _ => False) srcv l) (herr : ErrAt gErr w)
    (hok : l.length ≤ 1000 → okIn ((x0 % (most + 1) : Nat) : Int) l ∧ ∀ bs, out ((x0 % (most + 1) : Nat) : Int) l = some bs → bs.length ≤ maxLen ∧ okIn ((x0 % (most + 1) : Nat) : Int) bs ∧ out ((x0 % (most + 1) : Nat) : Int) bs = some bs) :
    Calls P f #[.int .u8 x0, srcv] w fun e w' => e = .returned (.bool true) ∧ Keeps (fun _ => False) w w' := by
  refine callsA hm hfn (by simp) [.int .u8 x0, srcv] (by simp; omega) fun a harg hs hd => ?_
  have g0 := harg 0 _ rfl
  have g1 := harg 1 _ rfl
  obtain ⟨base, c, hform, _⟩ := hsrc.form
  have retT : ∀ (a1 : Act) (w1 : World) (N : Act → World → Prop), a1.tmps.size = nt → a1.defers = [] → Keeps (fun _ => False) w w1 → NWP P (retB true) (Rt N (fun a' w' => a'.defers = [] ∧ (Ending.returned (retOf [4] a') = .returned (.bool true) ∧ Keeps (fun _ => False) w w'))) a1 w1 := by
    intro a1 w1 N hs1 hd1 hk
    refine nwp_sq_cons (cs := [.ret]) (nwp_rg (wl_assign (wpList_nil (.ret ⟨?_, ?_, hk⟩))))
    · simp only [put_defers]; exact hd1
    · rw [retOf_one, get_put _ _ _ (by omega)]
      rfl
  -- a bound on the length
  have gt : ∀ (n : Nat) (k : Nat) (a1 : Act) (w1 : World) (K' : Act → World → Prop), 5 < n → n + 3 ≤ nt → a1.get 1 = srcv → a1.tmps.size = nt → a1.defers = [] → Keeps (fun _ => False) w w1 → (l.length ≤ k → ∀ a2, (∀ i, i < n → a2.get i = a1.get i) → a2.tmps.size = nt → a2.defers = [] → K' a2 w1) →
      NWP P (lenGt tSl tInt n (k : Int)) (Rt K' (fun a' w' => a'.defers = [] ∧ (Ending.returned (retOf [4] a') = .returned (.bool true) ∧ Keeps (fun _ => False) w w'))) a1 w1 := by
    intro n k a1 w1 K' hn5 hn3 h1 hs1 hd1 hk hK
    have test : ∀ (b : Bool) (Y : Act → World → Prop) (E : Act → World → Prop), b = decide ((k : Int) < (l.length : Int)) → (∀ a2, a2.get (n + 2) = .bool b → (∀ i, i < n → a2.get i = a1.get i) → a2.tmps.size = nt → a2.defers = [] → Y a2 w1) →
        NWP P (rg [mk (some n) (.move (tm 1)), bi (some (n + 1)) .len [tm n] [tSl] tInt, mk (some (n + 2)) (.binOp .gtr tInt (tm (n + 1)) (ki .i64 k) 0)]) (Rt Y E) a1 w1 := by
      intro b Y E hb hY
      refine .reg (wl_move ?_)
      rw [eval_tm, h1, hform]
      refine wl_len (base := base) (n := l.length) (c := c) (by rw [eval_tm, get_put _ _ _ (by omega)]) ot.und ?_
      refine wl_cmp (b := b) (p := l.length) (q := k) (k := .i64) (by rw [eval_tm, get_put _ _ _ (by simp only [put_size]; omega)]) rfl (.inr (.inr (.inr (.inl ⟨rfl, hb⟩)))) (wpList_nil (hY _ ?_ (fun i hi => ?_) ?_ ?_))
      · rw [get_put _ _ _ (by simp only [put_size]; omega)]
      · rw [get_put_ne _ _ _ _ (by omega), get_put_ne _ _ _ _ (by omega), get_put_ne _ _ _ _ (by omega)]
      · simp only [put_size]; exact hs1
      · simp only [put_defers]; exact hd1
    by_cases hl : k < l.length
    · refine .seq (test true _ _ (by simp [hl]) fun a2 h2 _ hs2 hd2 => ?_) (fun a1 w1 hh => hh) (fun e a w he hq => by cases e <;> first | exact absurd rfl he | exact hq | exact hq.elim)
      exact .condT h2 (retT a2 w1 _ hs2 hd2 hk)
    · refine .seq (test false _ _ (by simp; omega) fun a2 h2 hlow hs2 hd2 => ?_) (fun a1 w1 hh => hh) (fun e a w he hq => by cases e <;> first | exact absurd rfl he | exact hq | exact hq.elim)
      exact .condF h2 (.skip (hK (by omega) a2 hlow hs2 hd2))
  unfold cAny
  refine nwp_sq_cons (nwp_rg (wl_assign (wpList_nil ?_)))
  refine nwp_sq_cons ?_
  rw [then_rt]
  refine gt 10 2147483647 _ w _ (by omega) (by omega) (by rw [get_put_ne _ _ _ _ (by omega)]; exact g1) (by rw [put_size]; exact hs) (by rw [put_defers]; exact hd) (Keeps.refl _ _) fun _ a2 hlow hs2 hd2 => ?_
  have e0 : a2.get 0 = .int .u8 x0 := by rw [hlow 0 (by omega), get_put_ne _ _ _ _ (by omega)]; exact g0
  have e1 : a2.get 1 = srcv := by rw [hlow 1 (by omega), get_put_ne _ _ _ _ (by omega)]; exact g1
  -- the highest version
  refine nwp_sq_cons (nwp_rg (wl_call (vs := #[]) hME rfl (hM w) fun e w1 hR1 => ⟨_, hR1.1, wl_assign (wpList_nil ?_)⟩))
  have hk1 := hR1.2
  rw [eval_tm, get_put _ _ _ (by omega)]
  refine nwp_sq_cons ?_
  rw [then_rt]
  refine .seq (R := Rt (fun a3 w3 => a3.get 15 = .bool false ∧ a3.get 0 = .int .u8 x0 ∧ a3.get 1 = srcv ∧ a3.get 5 = .int .i64 (most : Int) ∧ a3.tmps.size = nt ∧ a3.defers = [] ∧ w3 = w1) fun _ _ => False) (.reg (wl_move ?_)) (fun a3 w3 hh => ?_) (fun e a w he hq => by cases e <;> first | exact absurd rfl he | exact hq.elim)
  · rw [eval_tm, get_put _ _ _ (by simp only [put_size]; omega)]
    refine wl_cmp (b := false) (p := (most : Int)) (q := 0) (k := .i64) (by rw [eval_tm, get_put _ _ _ (by simp only [put_size]; omega)]) rfl (.inr (.inr (.inl ⟨rfl, by simp⟩))) (wpList_nil ⟨?_, ?_, ?_, ?_, ?_, ?_, rfl⟩)
    · rw [get_put _ _ _ (by simp only [put_size]; omega)]
    · rw [get_put_ne _ _ _ _ (by omega), get_put_ne _ _ _ _ (by omega), get_put_ne _ _ _ _ (by omega), get_put_ne _ _ _ _ (by omega)]; exact e0
    · rw [get_put_ne _ _ _ _ (by omega), get_put_ne _ _ _ _ (by omega), get_put_ne _ _ _ _ (by omega), get_put_ne _ _ _ _ (by omega)]; exact e1
    · rw [get_put_ne _ _ _ _ (by omega), get_put_ne _ _ _ _ (by omega), get_put _ _ _ (by simp only [put_size]; omega)]
    · simp only [put_size]; exact hs2
    · simp only [put_defers]; exact hd2
  obtain ⟨h15, f0, f1, f5, hs3, hd3, rfl⟩ := hh
  refine .condF h15 (.skip (nwp_sq_cons ?_))
  rw [then_rt]
  refine gt 16 1000 a3 w3 _ (by omega) (by omega) f1 hs3 hd3 hk1 fun hl a4 hlow4 hs4 hd4 => ?_
  obtain ⟨hok1, hok2⟩ := hok hl
  -- read once
  refine nwp_sq_cons ?_
  rw [then_rt]
  refine s_callAg (x0 := x0) (most := most) (out := out) (okIn := okIn) (l := l) hVE (hV w3) hAE hA (by rw [hlow4 0 (by omega)]; exact f0) (by rw [hlow4 5 (by omega)]; exact f5) (by rw [hlow4 1 (by omega)]; exact f1) (by omega) (by omega) (by omega) (by omega) (hsrc.keep hk1) (herr.keep hk1 id) hok1 fun a5 w5 v b hlow5 hs5 hd5 h6 h7 hk5 hnone hsome => ?_
  have hk15 := hk1.trans hk5
  have p0 : a5.get 0 = .int .u8 x0 := by rw [hlow5 0 (by omega) (by omega) (by omega), hlow4 0 (by omega)]; exact f0
  have p5 : a5.get 5 = .int .i64 (most : Int) := by rw [hlow5 5 (by omega) (by omega) (by omega), hlow4 5 (by omega)]; exact f5
  have ps5 : a5.tmps.size = nt := hs5.trans hs4
  have pd5 : a5.defers = [] := hd5.trans hd4
  have ntest : ∀ (Y : Act → World → Prop) (E : Act → World → Prop), (∀ a6, a6.get 28 = .bool (!b) → (∀ i, i < 27 → a6.get i = a5.get i) → a6.tmps.size = nt → a6.defers = [] → Y a6 w5) → NWP P (rg [mk (some 27) (.move (tm 7)), mk (some 28) (.unOp .not tB (tm 27))]) (Rt Y E) a5 w5 := by
    intro Y E hY
    refine .reg (wl_move ?_)
    rw [eval_tm, h7]
    refine wl_not (b := b) (by rw [eval_tm, get_put _ _ _ (by omega)]) (wpList_nil (hY _ ?_ (fun i hi => ?_) ?_ ?_))
    · rw [get_put _ _ _ (by simp only [put_size]; omega)]
    · rw [get_put_ne _ _ _ _ (by omega), get_put_ne _ _ _ _ (by omega)]
    · simp only [put_size]; exact ps5
    · simp only [put_defers]; exact pd5
  refine nwp_sq_cons ?_
  rw [then_rt]
  cases hout : out ((x0 % (most + 1) : Nat) : Int) l with
  | none =>
    obtain ⟨rfl, _⟩ := hnone hout
    refine .seq (ntest _ _ fun a6 h28 _ hs6 hd6 => ?_) (fun a1 w1 hh => hh) (fun e a w he hq => by cases e <;> first | exact absurd rfl he | exact hq | exact hq.elim)
    exact .condT h28 (retT a6 w5 _ hs6 hd6 hk15)
  | some bs =>
    obtain ⟨rfl, hvb⟩ := hsome bs hout
    obtain ⟨hbl, hokb, houtb⟩ := hok2 bs hout
    refine .seq (ntest _ _ fun a6 h28 hlow6 hs6 hd6 => ?_) (fun a1 w1 hh => hh) (fun e a w he hq => by cases e <;> first | exact absurd rfl he | exact hq | exact hq.elim)
    refine .condF h28 (.skip (nwp_sq_cons ?_))
    rw [then_rt]
    -- read again
    refine s_callAg (x0 := x0) (most := most) (out := out) (okIn := okIn) (l := bs) hVE (hV w5) hAE hA (by rw [hlow6 0 (by omega)]; exact p0) (by rw [hlow6 5 (by omega)]; exact p5) (by rw [hlow6 6 (by omega)]; exact h6) (by omega) (by omega) (by omega) (by omega) hvb (herr.keep hk15 id) hokb fun a7 w7 v7 b7 hlow7 hs7 hd7 h8 h9 hk7 _ hsome7 => ?_
    obtain ⟨rfl, hvb7⟩ := hsome7 bs houtb
    have hs7' : a7.tmps.size = nt := hs7.trans hs6
    have q6 : a7.get 6 = v := by rw [hlow7 6 (by omega) (by omega) (by omega), hlow6 6 (by omega)]; exact h6
    refine nwp_sq_cons (nwp_rg (wl_move ?_))
    rw [eval_tm, h9]
    refine wl_move ?_
    rw [eval_tm, get_put _ _ _ (by omega)]
    have y1 : ∀ (a8 : Act), a8.tmps.size = nt → a8.get 38 = .bool true → yielded [mk (some 37) (.move (tm 9)), mk (some 38) (.move (tm 37)), gd 39 (.move (tm 6)) 1 true, gd 40 (.move (tm 8)) 1 true, ⟨some 41, .call ⟨.value (.func fS), #[tm 39, tm 40], #[]⟩, 0, "", #[], some (1, true)⟩, mk (some 42) (.pick (tm 38) (tm 41) (.const (.bool false))), mk (some 4) (.assign (tm 42))].toArray a8.tmps 1 = some true := by
      intro a8 hs8 h38
      exact yielded_of (d := 38) (o := mk (some 38) (.move (tm 37))) rfl rfl (by omega) h38
    refine wg_value (v := v) (y1 _ (by simp only [put_size]; exact hs7') (get_put _ _ _ (by simp only [put_size]; omega))) ?_ ?_
    · have : Act.eval ((a7.put (some 37) (.bool true)).put (some 38) (.bool true)) (tm 6) = v := by rw [eval_tm, get_put_ne _ _ _ _ (by omega), get_put_ne _ _ _ _ (by omega)]; exact q6
      show Result.ok (Next.value (Act.eval _ (tm 6))) _ = _
      rw [this]
    refine wg_value (v := v7) (y1 _ (by simp only [put_size]; exact hs7') (by rw [get_put_ne _ _ _ _ (by omega), get_put _ _ _ (by simp only [put_size]; omega)])) ?_ ?_
    · have : Act.eval (((a7.put (some 37) (.bool true)).put (some 38) (.bool true)).put (some 39) v) (tm 8) = v7 := by rw [eval_tm, get_put_ne _ _ _ _ (by omega), get_put_ne _ _ _ _ (by omega), get_put_ne _ _ _ _ (by omega)]; exact h8
      show Result.ok (Next.value (Act.eval _ (tm 8))) _ = _
      rw [this]
    refine wg_call (args := [tm 39, tm 40]) (vs := #[v, v7]) (y1 _ (by simp only [put_size]; exact hs7') (by rw [get_put_ne _ _ _ _ (by omega), get_put_ne _ _ _ _ (by omega), get_put _ _ _ (by simp only [put_size]; omega)])) hSE ?_ (hS w7 v v7 bs bs (hvb.keep hk7) hvb7 hbl) fun e w8 hR8 => ⟨_, hR8.1, ?_⟩
    · simp only [List.map_cons, List.map_nil, eval_tm]
      rw [get_put_ne _ _ _ _ (by omega), get_put _ _ _ (by simp only [put_size]; omega), get_put _ _ _ (by simp only [put_size]; omega)]
    refine wl_pick (b := true) (by rw [eval_tm, get_put_ne _ _ _ _ (by omega), get_put_ne _ _ _ _ (by omega), get_put_ne _ _ _ _ (by omega), get_put _ _ _ (by simp only [put_size]; omega)]) ?_
    rw [if_pos rfl, eval_tm, get_put _ _ _ (by simp only [put_size]; omega)]
    refine wl_assign (wpList_nil (nwp_sq_cons (.ret ⟨?_, ?_, hk15.trans (hk7.trans hR8.2)⟩)))
    · simp only [put_defers]; rw [hd7, hd6]
    · rw [retOf_one, get_put _ _ _ (by simp only [put_size]; omega), eval_tm, get_put _ _ _ (by simp only [put_size]; omega)]
      simp

end
end Go.Proofs.YtmkioomgfdpeiacDoor.Kx

/-
  THE PLAIN LAW, 1: what is read of octets is written as octets that are read again, and written as the same: values of one kind, counts, tags.
-/
namespace Go.Proofs.YtmkioomgfdpeiacDoor.Kx

def BIG : Nat := 33554432

/-- reading and writing fit -/
structure RW {α : Type} (f : RS → Out α) (w : α → Bs) : Prop where
  bad : ∀ r v r', f r = .ok v r' → r'.bad = false → r.bad = false
  le : ∀ r v r', f r = .ok v r' → r'.src.length ≤ r.src.length
  len : ∀ r v r', f r = .ok v r' → r'.bad = false → (w v).length + r'.src.length ≤ r.src.length
  again : ∀ r v r', f r = .ok v r' → r'.bad = false → ∀ rest nl, (nl = true → w v ++ rest = []) → (w v ++ rest).length ≤ BIG → ∃ v', f ⟨w v ++ rest, false, nl⟩ = .ok v' ⟨rest, false, nl⟩ ∧ w v' = w v
  go : ∀ r, r.src.length ≤ BIG → f r ≠ .stuck

/-! ## Numbers -/
theorem u8n {m : Nat} (h : m < 256) : (UInt8.ofNat m).toNat = m := UInt8.toNat_ofNat_of_lt (by simpa using h)
theorem be_length (k : Nat) (x : Int) : (be k x).length = k := by
  induction k with
  | zero => rfl
  | succ k ih => simp only [be, List.length_cons, ih]
theorem foldl_unbe (l : Bs) (acc : Nat) : l.foldl (fun a b => a * 256 + b.toNat) acc = acc * 256 ^ l.length + unbe l := by
  induction l generalizing acc with
  | nil => simp [unbe]
  | cons b l ih =>
    simp only [List.foldl_cons, List.length_cons, unbe]
    rw [ih, ih (0 * 256 + b.toNat)]
    simp only [Nat.zero_mul, Nat.zero_add, Nat.pow_succ, Nat.add_mul]
    rw [Nat.mul_assoc, Nat.mul_comm 256, Nat.add_assoc]
theorem unbe_cons' (b : UInt8) (l : Bs) : unbe (b :: l) = b.toNat * 256 ^ l.length + unbe l := by
  show (b :: l).foldl (fun a b => a * 256 + b.toNat) 0 = _
  rw [List.foldl_cons, foldl_unbe]
  simp
theorem unbe_be (k : Nat) (x : Int) : (unbe (be k x) : Int) = x % 256 ^ k := by
  induction k with
  | zero => simp [be, unbe]
  | succ k ih =>
    simp only [be]
    rw [unbe_cons', be_length]
    have h0 : (0 : Int) ≤ x / 256 ^ k % 256 := Int.emod_nonneg _ (by omega)
    have h1 : x / 256 ^ k % 256 < 256 := Int.emod_lt_of_pos _ (by omega)
    have e1 : (UInt8.ofNat (x / 256 ^ k % 256).toNat).toNat = (x / 256 ^ k % 256).toNat := u8n (by omega)
    rw [e1, Int.natCast_add, Int.natCast_mul, Int.natCast_pow, ih, Int.toNat_of_nonneg h0]
    show x / 256 ^ k % 256 * 256 ^ k + x % 256 ^ k = _
    have hp : (0 : Int) < 256 ^ k := Int.pow_pos (by omega)
    rw [Int.pow_succ]
    have e2 : x % (256 ^ k * 256) = x - 256 ^ k * 256 * (x / (256 ^ k * 256)) := Int.emod_def _ _
    have e3 : x / (256 ^ k * 256) = x / 256 ^ k / 256 := (Int.ediv_ediv_of_nonneg (by omega)).symm
    have e4 : x / 256 ^ k % 256 = x / 256 ^ k - 256 * (x / 256 ^ k / 256) := Int.emod_def _ _
    have e5 : x % 256 ^ k = x - 256 ^ k * (x / 256 ^ k) := Int.emod_def _ _
    rw [e2, e3, e4, e5, Int.sub_mul]
    have : 256 ^ k * 256 * (x / 256 ^ k / 256) = 256 * (x / 256 ^ k / 256) * 256 ^ k := by
      rw [Int.mul_comm (256 ^ k) 256, Int.mul_assoc, Int.mul_comm (256 ^ k), ← Int.mul_assoc]
    rw [this, Int.mul_comm (256 ^ k) (x / 256 ^ k)]
    omega

theorem rU_be {k : Nat} {x : Nat} (h : x < 256 ^ k) (rest : Bs) (nl : Bool) : rU k ⟨be k x ++ rest, false, nl⟩ = (x, ⟨rest, false, nl⟩) := by
  have hl : ¬ ((be k x ++ rest).length < k) := by rw [List.length_append, be_length]; omega
  have h1 : (be k x ++ rest).take k = be k x := by rw [List.take_append_of_le_length (by rw [be_length]; omega), List.take_of_length_le (by rw [be_length]; omega)]
  have h2 : (be k x ++ rest).drop k = rest := by rw [List.drop_append_of_le_length (by rw [be_length]; omega), List.drop_of_length_le (by rw [be_length]; omega)]; rfl
  simp only [rU, if_neg hl, h1, h2]
  have := unbe_be k x
  have h3 : ((x : Nat) : Int) % 256 ^ k = x := Int.emod_eq_of_lt (by omega) (by have := Int.ofNat_lt.2 h; rw [Int.natCast_pow] at this; exact this)
  rw [h3] at this
  congr 1
  omega
/-- numbers with a sign -/
theorem rI_be {k : Nat} (hk : k = 1 ∨ k = 2 ∨ k = 4 ∨ k = 8) {x : Int} (h : -(2 ^ (8 * k - 1) : Int) ≤ x ∧ x < 2 ^ (8 * k - 1)) (rest : Bs) (nl : Bool) : rI k ⟨be k x ++ rest, false, nl⟩ = (x, ⟨rest, false, nl⟩) := by
  have e : be k x = be k ((x % 256 ^ k).toNat : Nat) := by
    have h0 : 0 ≤ x % 256 ^ k := Int.emod_nonneg _ (by have := Int.pow_pos (n := 256) (m := k) (by omega); omega)
    rw [Int.toNat_of_nonneg h0]
    apply List.ext_getElem?
    intro i
    have key : ∀ (m : Nat) (j : Nat), j ≤ m → be j (x % 256 ^ m) = be j x := by
      intro m j
      induction j with
      | zero => intro _; rfl
      | succ j ih =>
        intro hj
        simp only [be]
        rw [ih (by omega)]
        congr 2
        have hp : (256 : Int) ^ m = 256 ^ j * (256 * 256 ^ (m - j - 1)) := by
          rw [← Int.pow_succ', ← Int.pow_add]
          congr 1; omega
        rw [hp]
        have hk : (0 : Int) < 256 ^ j := Int.pow_pos (by omega)
        have e1 : x % (256 ^ j * (256 * 256 ^ (m - j - 1))) = x + 256 ^ j * (-(256 * (256 ^ (m - j - 1) * (x / (256 ^ j * (256 * 256 ^ (m - j - 1))))))) := by
          rw [Int.emod_def, Int.mul_neg, ← Int.sub_eq_add_neg]
          simp only [Int.mul_assoc]
        rw [e1, Int.add_mul_ediv_left _ _ (by omega)]
        generalize 256 ^ (m - j - 1) * (x / (256 ^ j * (256 * 256 ^ (m - j - 1)))) = t
        generalize x / 256 ^ j = y
        congr 1
        omega
    rw [key k k (Nat.le_refl _)]
  have hlt : (x % 256 ^ k).toNat < 256 ^ k := by
    have h0 : 0 ≤ x % 256 ^ k := Int.emod_nonneg _ (by have := Int.pow_pos (n := 256) (m := k) (by omega); omega)
    have h1 : x % 256 ^ k < 256 ^ k := Int.emod_lt_of_pos _ (Int.pow_pos (by omega))
    have : ((x % 256 ^ k).toNat : Int) < ((256 ^ k : Nat) : Int) := by rw [Int.toNat_of_nonneg h0, Int.natCast_pow]; exact h1
    exact Int.ofNat_lt.1 this
  rw [e]
  simp only [rI, rU_be hlt]
  congr 1
  rcases hk with rfl | rfl | rfl | rfl <;> simp only [sgn, Nat.reduceMul, Nat.reduceSub, Int.reducePow, Nat.reducePow] at h ⊢ <;> split <;> omega

theorem uvarAux_read : ∀ (x : Nat), x < 4294967296 → ∀ rest : Bs, uvRead (uvar x ++ rest) = (x, ((uvar x).length : Int)) := by
  intro x hx rest
  have t : ∀ m, m < 128 → (UInt8.ofNat (m + 128)).toNat = m + 128 := fun m hm => u8n (by omega)
  have s : ∀ m, m < 128 → (UInt8.ofNat m).toNat = m := fun m hm => u8n (by omega)
  simp only [uvar, uvarAux]
  by_cases c1 : x < 128
  · simp [c1, uvRead, s x c1]
  by_cases c2 : x / 128 < 128
  · have n1 : ¬ (x % 128 + 128 < 128) := by omega
    simp only [c1, c2, if_true, if_false, List.cons_append, List.nil_append, uvRead, t _ (Nat.mod_lt x (by omega)), n1, s _ c2]
    simp; omega
  by_cases c3 : x / 128 / 128 < 128
  · have n1 : ¬ (x % 128 + 128 < 128) := by omega
    have n2 : ¬ (x / 128 % 128 + 128 < 128) := by omega
    simp only [c1, c2, c3, if_true, if_false, List.cons_append, List.nil_append, uvRead, t _ (Nat.mod_lt x (by omega)), t _ (Nat.mod_lt (x / 128) (by omega)), n1, n2, s _ c3]
    simp; omega
  by_cases c4 : x / 128 / 128 / 128 < 128
  · have n1 : ¬ (x % 128 + 128 < 128) := by omega
    have n2 : ¬ (x / 128 % 128 + 128 < 128) := by omega
    have n3 : ¬ (x / 128 / 128 % 128 + 128 < 128) := by omega
    simp only [c1, c2, c3, c4, if_true, if_false, List.cons_append, List.nil_append, uvRead, t _ (Nat.mod_lt x (by omega)), t _ (Nat.mod_lt (x / 128) (by omega)), t _ (Nat.mod_lt (x / 128 / 128) (by omega)), n1, n2, n3, s _ c4]
    simp; omega
  have c5 : x / 128 / 128 / 128 / 128 < 128 := by omega
  have c6 : x / 128 / 128 / 128 / 128 ≤ 15 := by omega
  have n1 : ¬ (x % 128 + 128 < 128) := by omega
  have n2 : ¬ (x / 128 % 128 + 128 < 128) := by omega
  have n3 : ¬ (x / 128 / 128 % 128 + 128 < 128) := by omega
  have n4 : ¬ (x / 128 / 128 / 128 % 128 + 128 < 128) := by omega
  simp only [c1, c2, c3, c4, c5, if_true, if_false, List.cons_append, List.nil_append, uvRead, t _ (Nat.mod_lt x (by omega)), t _ (Nat.mod_lt (x / 128) (by omega)), t _ (Nat.mod_lt (x / 128 / 128) (by omega)), t _ (Nat.mod_lt (x / 128 / 128 / 128) (by omega)), n1, n2, n3, n4, s _ c5, c6]
  simp; omega
theorem uvar_pos (x : Nat) : 0 < (uvar x).length := by
  simp only [uvar, uvarAux]
  split <;> simp
theorem rUv_uvar {x : Nat} (h : x < 4294967296) (rest : Bs) (nl : Bool) : rUv ⟨uvar x ++ rest, false, nl⟩ = (x, ⟨rest, false, nl⟩) := by
  have h1 := uvarAux_read x h rest
  have h2 := uvar_pos x
  have h3 : ¬ (((uvar x).length : Int) ≤ 0) := by omega
  simp only [rUv, h1, if_neg h3, Int.toNat_natCast]
  rw [List.drop_append_of_le_length (Nat.le_refl _), List.drop_of_length_le (Nat.le_refl _)]
  rfl
theorem uvar_len (x : Nat) (h : x < 4294967296) : (uvar x).length = if x < 128 then 1 else if x < 16384 then 2 else if x < 2097152 then 3 else if x < 268435456 then 4 else 5 := by
  simp only [uvar, uvarAux]
  by_cases c1 : x < 128
  · simp [c1]
  by_cases c2 : x / 128 < 128
  · have : x < 16384 := by omega
    simp [c1, c2, this]
  by_cases c3 : x / 128 / 128 < 128
  · have a : ¬ x < 16384 := by omega
    have b : x < 2097152 := by omega
    simp [c1, c2, c3, a, b]
  by_cases c4 : x / 128 / 128 / 128 < 128
  · have a : ¬ x < 16384 := by omega
    have b : ¬ x < 2097152 := by omega
    have c : x < 268435456 := by omega
    simp [c1, c2, c3, c4, a, b, c]
  have a : ¬ x < 16384 := by omega
  have b : ¬ x < 2097152 := by omega
  have c : ¬ x < 268435456 := by omega
  have c5 : x / 128 / 128 / 128 / 128 < 128 := by omega
  simp [c1, c2, c3, c4, c5, a, b, c]
theorem uvar_mono {x y : Nat} (h : x ≤ y) (hy : y < 4294967296) : (uvar x).length ≤ (uvar y).length := by
  rw [uvar_len x (by omega), uvar_len y hy]
  repeat' split
  all_goals omega

/-- what rUv takes -/
theorem uvRead_spec (l : Bs) : (uvRead l).2 ≤ 0 ∨ ((uvRead l).1 < 4294967296 ∧ ((uvar (uvRead l).1).length : Int) ≤ (uvRead l).2 ∧ (uvRead l).2 ≤ l.length) := by
  have hb : ∀ b : UInt8, b.toNat < 256 := fun b => b.toNat_lt
  unfold uvRead
  cases l with
  | nil => left; simp
  | cons a l =>
    simp only
    have ha := hb a
    split
    · right; rw [uvar_len _ (by omega)]; simp; split <;> omega
    · cases l with
      | nil => left; simp
      | cons b l =>
        simp only
        have hb' := hb b
        split
        · right; rw [uvar_len _ (by omega)]; refine ⟨by omega, ?_, by simp; omega⟩; repeat' split
          all_goals simp
          all_goals omega
        · cases l with
          | nil => left; simp
          | cons c l =>
            simp only
            have hc := hb c
            split
            · right; rw [uvar_len _ (by omega)]; refine ⟨by omega, ?_, by simp; omega⟩; repeat' split
              all_goals simp
              all_goals omega
            · cases l with
              | nil => left; simp
              | cons d l =>
                simp only
                have hd := hb d
                split
                · right; rw [uvar_len _ (by omega)]; refine ⟨by omega, ?_, by simp; omega⟩; repeat' split
                  all_goals simp
                  all_goals omega
                · cases l with
                  | nil => left; simp
                  | cons e l =>
                    simp only
                    split
                    · right; rw [uvar_len _ (by omega)]; refine ⟨by omega, ?_, by simp; omega⟩; repeat' split
                      all_goals simp
                    · left; simp

theorem rUv_spec (r : RS) : (rUv r).1 < 4294967296 ∧ (rUv r).2.src.length ≤ r.src.length ∧ ((rUv r).2.bad = false → r.bad = false ∧ (uvar (rUv r).1).length + (rUv r).2.src.length ≤ r.src.length ∧ (rUv r).2.nl = r.nl) := by
  unfold rUv
  rcases uvRead_spec r.src with h | ⟨h1, h2, h3⟩
  · rw [if_pos h]; simp [RS.fail]
  · have hp := uvar_pos (uvRead r.src).1
    have hn : ¬ (uvRead r.src).2 ≤ 0 := by omega
    rw [if_neg hn]
    simp only [List.length_drop]
    exact ⟨h1, by omega, fun hb => ⟨hb, by omega, trivial⟩⟩
theorem rU_spec (k : Nat) (r : RS) : (rU k r).1 < 256 ^ k ∧ (rU k r).2.src.length ≤ r.src.length ∧ ((rU k r).2.bad = false → r.bad = false ∧ k + (rU k r).2.src.length ≤ r.src.length ∧ (rU k r).2.nl = r.nl) := by
  unfold rU
  split
  · refine ⟨?_, by simp [RS.fail], by simp [RS.fail]⟩
    exact Nat.pow_pos (by omega)
  · rename_i h
    refine ⟨?_, by simp, fun hb => ⟨hb, by simp; omega, rfl⟩⟩
    have : ∀ l : Bs, unbe l < 256 ^ l.length := by
      intro l
      induction l with
      | nil => simp [unbe]
      | cons b l ih =>
        rw [unbe_cons', List.length_cons, Nat.pow_succ]
        have hb := b.toNat_lt
        have : b.toNat * 256 ^ l.length ≤ 255 * 256 ^ l.length := Nat.mul_le_mul_right _ (by omega)
        omega
    have h2 := this (r.src.take k)
    rwa [List.length_take, Nat.min_eq_left (by omega)] at h2
theorem rI_spec (k : Nat) (r : RS) : (rI k r).2.src.length ≤ r.src.length ∧ ((rI k r).2.bad = false → r.bad = false ∧ k + (rI k r).2.src.length ≤ r.src.length ∧ (rI k r).2.nl = r.nl) := (rU_spec k r).2
theorem rI_rng {k : Nat} (hk : k = 1 ∨ k = 2 ∨ k = 4 ∨ k = 8) (r : RS) : -(2 ^ (8 * k - 1) : Int) ≤ (rI k r).1 ∧ (rI k r).1 < 2 ^ (8 * k - 1) := by
  have h := (rU_spec k r).1
  show -(2 ^ (8 * k - 1) : Int) ≤ sgn (8 * k) (rU k r).1 ∧ sgn (8 * k) (rU k r).1 < 2 ^ (8 * k - 1)
  rcases hk with rfl | rfl | rfl | rfl <;> simp only [sgn, Nat.reduceMul, Nat.reduceSub, Int.reducePow, Nat.reducePow] at h ⊢ <;> split <;> omega
theorem rSpan_spec (k : Int) (r : RS) : (rSpan k r).2.src.length ≤ r.src.length ∧ ((rSpan k r).2.bad = false → r.bad = false ∧ 0 ≤ k ∧ ((rSpan k r).1.octets.length : Int) ≤ k ∧ (rSpan k r).1.octets.length + (rSpan k r).2.src.length ≤ r.src.length ∧ (rSpan k r).2.nl = r.nl ∧ ((rSpan k r).1 = .nul ∨ (rSpan k r).1 = .s (rSpan k r).1.octets)) := by
  unfold rSpan
  split
  · simp [RS.fail]
  · rename_i h
    refine ⟨by simp, fun hb => ⟨hb, by omega, ?_, ?_, rfl, ?_⟩⟩
    · cases r.nl
      · simp [V.octets]; omega
      · simp [V.octets]; omega
    · cases r.nl
      · simp [V.octets]; omega
      · simp [V.octets]
    · cases r.nl
      · right; simp [V.octets]
      · left; simp
theorem rSpan_app (l rest : Bs) : rSpan (l.length : Nat) ⟨l ++ rest, false, false⟩ = (.s l, ⟨rest, false, false⟩) := by
  unfold rSpan
  rw [if_neg (by simp; omega)]
  simp

end Go.Proofs.YtmkioomgfdpeiacDoor.Kx
