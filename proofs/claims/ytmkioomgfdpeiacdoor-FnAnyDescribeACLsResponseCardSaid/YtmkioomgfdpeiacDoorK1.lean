/-
  PLAIN LAWS AND CONTRACTS of messages, part 1 of 5: how readers and writers are printed, what they do, and that what is read is written as the same. Nothing of a statement stands here.
-/
import Derived.StillTail
import Derived.ScopeJumps
import Derived.Deep.Quiet
import Derived.Laws.AppendOwn
import Derived.WalkKit

/-
  PURE: what a message says (V), its plan (Ty, Fds), how it is written (wrTy ..) and read (rdTy ..): plain functions over lists of bytes; no Go in sight.
-/
namespace Go.Proofs.YtmkioomgfdpeiacDoor.Kx

abbrev Bs := List UInt8

/-- The kinds of fixed width. -/
inductive Prim where
  | bool | i8 | i16 | u16 | i32 | i64 | uuid
  deriving DecidableEq

mutual
/-- A type of a field: a number; a text; octets; a list; a part. 'nul': from which version on it may be null. -/
inductive Ty where
  | prim (p : Prim)
  | str (nul : Option Nat)
  | bytes (nul : Option Nat)
  | list (nul : Option Nat) (esz : Nat) (e : Ty)
  | struct (nul : Option Nat) (toff : Option Nat) (fs : Fds)
/-- The fields of a part: from which version, to which, the tag, the default, the place in the struct. -/
inductive Fds where
  | nil
  | cons (lo : Nat) (hi : Option Nat) (tag : Option Nat) (df : Int) (off : Nat) (ty : Ty) (r : Fds)
end

/-- What is said: nothing; a number; octets; a list; a part (its fields, its unknown tags). -/
inductive V where
  | nul
  | n (x : Int)
  | s (x : Bs)
  | l (xs : List V)
  | st (vs : List V) (tg : List (Nat × Bs))

def V.num : V → Int | .n x => x | _ => 0
def V.octets : V → Bs | .s x => x | _ => []
def V.list : V → List V | .l xs => xs | _ => []
def V.isNul : V → Bool | .nul => true | _ => false
def V.fields : V → List V | .st vs _ => vs | _ => []
def V.tags : V → List (Nat × Bs) | .st _ t => t | _ => []

/-! ## Numbers -/

/-- k octets of a number, the highest one first. -/
def be : Nat → Int → Bs
  | 0, _ => []
  | k + 1, x => UInt8.ofNat ((x / (256 : Int) ^ k % 256).toNat) :: be k x

/-- The number of some octets. -/
def unbe (l : Bs) : Nat := l.foldl (fun a b => a * 256 + b.toNat) 0

/-- A number of so many bits with a sign. -/
def sgn (bits : Nat) (x : Nat) : Int := if x < 2 ^ (bits - 1) then (x : Int) else (x : Int) - (2 : Int) ^ bits

/-- Groups of seven bits (of a number below 2^35). -/
def uvarAux : Nat → Nat → Bs
  | 0, x => [UInt8.ofNat x]
  | f + 1, x => if x < 128 then [UInt8.ofNat x] else UInt8.ofNat (x % 128 + 128) :: uvarAux f (x / 128)
def uvar (x : Nat) : Bs := uvarAux 9 x

/-! ## The reader -/

structure RS where
  src : Bs
  bad : Bool
  nl : Bool

def RS.fail : RS := ⟨[], true, true⟩

/-- the next k octets -/
def RS.take (r : RS) (k : Nat) : Option (Bs × RS) :=
  if r.src.length < k then none else some (r.src.take k, ⟨r.src.drop k, r.bad, r.nl⟩)

def rU (k : Nat) (r : RS) : Nat × RS :=
  if r.src.length < k then (0, .fail) else (unbe (r.src.take k), ⟨r.src.drop k, r.bad, r.nl⟩)

def rI (k : Nat) (r : RS) : Int × RS := (sgn (8 * k) (rU k r).1, (rU k r).2)

def rBool (r : RS) : Int × RS :=
  match r.src with
  | [] => (0, .fail)
  | b :: t => ((if b.toNat = 0 then 0 else 1), ⟨t, r.bad, r.nl⟩)

/-- a number in groups of seven bits: its value, and how many octets it took (0 or less: none is there, or it is too great) -/
def uvRead : Bs → Nat × Int
  | [] => (0, 0)
  | a :: l =>
    if a.toNat < 128 then (a.toNat, 1) else
    match l with
    | [] => (0, 0)
    | b :: l =>
      if b.toNat < 128 then (a.toNat % 128 + b.toNat * 128, 2) else
      match l with
      | [] => (0, 0)
      | c :: l =>
        if c.toNat < 128 then (a.toNat % 128 + b.toNat % 128 * 128 + c.toNat * 16384, 3) else
        match l with
        | [] => (0, 0)
        | d :: l =>
          if d.toNat < 128 then (a.toNat % 128 + b.toNat % 128 * 128 + c.toNat % 128 * 16384 + d.toNat * 2097152, 4) else
          match l with
          | [] => (0, 0)
          | e :: _ => if e.toNat ≤ 15 then (a.toNat % 128 + b.toNat % 128 * 128 + c.toNat % 128 * 16384 + d.toNat % 128 * 2097152 + e.toNat * 268435456, 5) else (0, -5)

def rUv (r : RS) : Nat × RS :=
  if (uvRead r.src).2 ≤ 0 then (0, .fail) else ((uvRead r.src).1, ⟨r.src.drop (uvRead r.src).2.toNat, r.bad, r.nl⟩)

/-- Span: some octets, or nothing (nil) -/
def rSpan (k : Int) (r : RS) : V × RS :=
  if (r.src.length : Int) < k ∨ k < 0 then (.nul, .fail)
  else (if r.nl then .nul else .s (r.src.take k.toNat), ⟨r.src.drop k.toNat, r.bad, r.nl⟩)

/-- the octets of what Span gave, as a text -/
def rText (k : Int) (r : RS) : V × RS := (.s (rSpan k r).1.octets, (rSpan k r).2)

/-- The kinds of functions that read one value. -/
inductive PF where
  | bool | i8 | i16 | u16 | i32 | i64 | uuid | str | cstr | nstr | cnstr | bytes | cbytes | nbytes | cnbytes
  deriving DecidableEq

def PF.run : PF → RS → V × RS
  | .bool, r => (.n (rBool r).1, (rBool r).2)
  | .i8, r => (.n (rI 1 r).1, (rI 1 r).2)
  | .i16, r => (.n (rI 2 r).1, (rI 2 r).2)
  | .u16, r => (.n (rU 2 r).1, (rU 2 r).2)
  | .i32, r => (.n (rI 4 r).1, (rI 4 r).2)
  | .i64, r => (.n (rI 8 r).1, (rI 8 r).2)
  | .uuid, r => if r.src.length < 16 then (.s (List.replicate 16 0), .fail) else (.s (r.src.take 16), ⟨r.src.drop 16, r.bad, r.nl⟩)
  | .str, r => rText (rI 2 r).1 (rI 2 r).2
  | .cstr, r => rText ((rUv r).1 - 1 : Int) (rUv r).2
  | .nstr, r => if (rI 2 r).1 < 0 then (.nul, (rI 2 r).2) else rText (rI 2 r).1 (rI 2 r).2
  | .cnstr, r => if ((rUv r).1 - 1 : Int) < 0 then (.nul, (rUv r).2) else rText ((rUv r).1 - 1 : Int) (rUv r).2
  | .bytes, r => if (rI 4 r).1 = -1 then (.s [], (rI 4 r).2) else rSpan (rI 4 r).1 (rI 4 r).2
  | .cbytes, r => if ((rUv r).1 - 1 : Int) = -1 then (.s [], (rUv r).2) else rSpan ((rUv r).1 - 1 : Int) (rUv r).2
  | .nbytes, r => if (rI 4 r).1 < 0 then (.nul, (rI 4 r).2) else rSpan (rI 4 r).1 (rI 4 r).2
  | .cnbytes, r => if ((rUv r).1 - 1 : Int) < 0 then (.nul, (rUv r).2) else rSpan ((rUv r).1 - 1 : Int) (rUv r).2

/-- how many things a list has -/
def wrap32 (x : Int) : Int := (x + 2147483648) % 4294967296 - 2147483648
def rLen (fx : Bool) (r : RS) : Int × RS :=
  let p : Int × RS := if fx then (wrap32 (wrap32 (rUv r).1 - 1), (rUv r).2) else rI 4 r
  if (p.2.src.length : Int) < p.1 then (0, .fail) else p

/-- a tag is set: the tags by rising numbers, each once -/
def setTag (k : Nat) (v : Bs) : List (Nat × Bs) → List (Nat × Bs)
  | [] => [(k, v)]
  | (j, u) :: r => if k < j then (k, v) :: (j, u) :: r else if k = j then (k, v) :: r else (j, u) :: setTag k v r

def rTags : Nat → List (Nat × Bs) → RS → List (Nat × Bs) × RS
  | 0, t, r => (t, r)
  | n + 1, t, r =>
    let k := rUv r
    let z := rUv k.2
    let s := rSpan z.1 z.2
    rTags n (setTag k.1 s.1.octets t) s.2

/-- How reading ends: with something, with an error, or at a place of which nothing is said. -/
inductive Out (α : Type) where
  | ok (a : α) (r : RS)
  | err
  | stuck

def Out.bind {α β : Type} (x : Out α) (f : α → RS → Out β) : Out β :=
  match x with
  | .ok a r => f a r
  | .err => .err
  | .stuck => .stuck

/-- so many things, one behind the other -/
def rMany (f : RS → Out V) : Nat → RS → Out (List V)
  | 0, r => .ok [] r
  | n + 1, r => (f r).bind fun v r => (rMany f n r).bind fun vs r => .ok (v :: vs) r

def has (lo : Nat) (hi : Option Nat) (ver : Int) : Bool := match hi with | some h => decide ((lo : Int) ≤ ver) && decide (ver ≤ (h : Int)) | none => decide (lo = 0) || decide ((lo : Int) ≤ ver)

/-- whether a text, or octets, may be null -/
def nullS (nul : Option Nat) (ver : Int) : Bool := match nul with | some m => decide (m = 0) || decide ((m : Int) ≤ ver) | none => false
def nullable (nul : Option Nat) (ver : Int) : Bool := match nul with | some m => decide ((m : Int) ≤ ver) | none => false

def primPF : Prim → PF
  | .bool => .bool | .i8 => .i8 | .i16 => .i16 | .u16 => .u16 | .i32 => .i32 | .i64 => .i64 | .uuid => .uuid

def strPF (nul fx : Bool) : PF := if nul then (if fx then .cnstr else .nstr) else (if fx then .cstr else .str)
def bytesPF (nul fx : Bool) : PF := if nul then (if fx then .cnbytes else .nbytes) else (if fx then .cbytes else .bytes)

/-- what a new thing of a type says (df: its number) -/
def uuid0 : Bs := List.replicate 16 0
mutual
def dfTy (df : Int) : Ty → V
  | .prim .uuid => .s uuid0
  | .prim _ => .n df
  | .str none => .s []
  | .str (some _) => .nul
  | .bytes _ => .nul
  | .list _ _ _ => .nul
  | .struct none _ fs => .st (dfFds fs) []
  | .struct (some _) _ _ => .nul
def dfFds : Fds → List V
  | .nil => []
  | .cons _ _ _ df _ ty r => dfTy df ty :: dfFds r
end

/-- tags that a part knows: how many fields, each with its tag -/
def Fds.knows : Fds → Nat → Bool
  | .nil, _ => false
  | .cons _ _ t _ _ _ r, k => t == some k || r.knows k
def Fds.tagged : Fds → Bool
  | .nil => false
  | .cons _ _ t _ _ _ r => t.isSome || r.tagged

/-- what lies behind the tags of a part is read: so many tags, the fields so far, the unknown tags so far. 'f k': what is done at the known tag k -/
def rTagLoop (f : Nat → Option (List V → RS → Out (List V))) : Nat → List V → List (Nat × Bs) → RS → Out V
  | 0, vs, t, r => .ok (.st vs t) r
  | n + 1, vs, t, r =>
    let k := rUv r
    let z := rUv k.2
    let s := rSpan z.1 z.2
    match f k.1 with
    | none => rTagLoop f n vs (setTag k.1 s.1.octets t) s.2
    | some g =>
      match g vs ⟨s.1.octets, false, s.1.isNul⟩ with
      | .ok vs' r' => if r'.bad then .err else rTagLoop f n vs' t s.2
      | .err => .err
      | .stuck => .stuck

/-- the most octets that an array may ask for -/
def roomy (l : Int) (esz : Nat) : Bool := decide (l * (24 * esz + 8) ≤ 70368744177664)

/-- a part: its fields, then, at a flexible version, its tags -/
def rdStOf (fx tagged : Bool) (fields : RS → Out (List V)) (tag : Nat → Option (List V → RS → Out (List V))) (r : RS) : Out V :=
  (fields r).bind fun vs r =>
    if !fx then .ok (.st vs []) r
    else if tagged then rTagLoop tag (rUv r).1 vs [] (rUv r).2
    else .ok (.st vs (rTags (rUv r).1 [] (rUv r).2).1) (rTags (rUv r).1 [] (rUv r).2).2

mutual
def rdTy (fx : Bool) (ver : Int) : Ty → V → RS → Out V
  | .prim p, _, r => .ok ((primPF p).run r).1 ((primPF p).run r).2
  | .str nul, _, r => .ok ((strPF (nullS nul ver) fx).run r).1 ((strPF (nullS nul ver) fx).run r).2
  | .bytes nul, _, r => .ok ((bytesPF (nullS nul ver) fx).run r).1 ((bytesPF (nullS nul ver) fx).run r).2
  | .list nul esz e, old, r =>
    if !old.isNul then .stuck else
    if (rLen fx r).2.bad then .err else
    if !roomy (rLen fx r).1 esz then .stuck else
    if (rLen fx r).1 ≤ 0 then .ok (if nul.isSome && (decide ((rLen fx r).1 = 0) || !nullable nul ver) then .l [] else .nul) (rLen fx r).2
    else (rMany (rdTy fx ver e (dfTy 0 e)) (rLen fx r).1.toNat (rLen fx r).2).bind fun vs r => .ok (.l vs) r
  | .struct none _ fs, _, r => rdStOf fx fs.tagged (rdFds fx ver fs) (rdTag fx ver fs) r
  | .struct (some _) _ fs, old, r =>
    if !old.isNul then .stuck else
    if (rI 1 r).1 = -1 ∨ (rI 1 r).2.bad = true then .ok .nul (rI 1 r).2 else rdStOf fx fs.tagged (rdFds fx ver fs) (rdTag fx ver fs) (rI 1 r).2
def rdFds (fx : Bool) (ver : Int) : Fds → RS → Out (List V)
  | .nil, r => .ok [] r
  | .cons lo hi tag df _ ty rest, r =>
    if tag.isNone && has lo hi ver then
      (rdTy fx ver ty (dfTy df ty) r).bind fun v r => (rdFds fx ver rest r).bind fun vs r => .ok (v :: vs) r
    else (rdFds fx ver rest r).bind fun vs r => .ok (dfTy df ty :: vs) r
def rdTag (fx : Bool) (ver : Int) : Fds → Nat → Option (List V → RS → Out (List V))
  | .nil, _ => none
  | .cons _ _ tag _ _ ty rest, k =>
    if tag == some k then some fun vs r => (rdTy fx ver ty (vs.headD .nul) r).bind fun v r => .ok (v :: vs.tail) r
    else (rdTag fx ver rest k).map fun g vs r => (g vs.tail r).bind fun vs' r => .ok (vs.headD .nul :: vs') r
end

end Go.Proofs.YtmkioomgfdpeiacDoor.Kx

/-
  A REGION THAT DRAWS ITS ORDER: where what acts stands in one chain, and all else only computes (or reads what the chain leaves alone), every order comes to what the text's order comes to: first what computes, then the chain.
-/
namespace Go.Proofs.YtmkioomgfdpeiacDoor.Kx
open Go

def rdsOf (o : Oper) : List Nat := o.op.operands.toList.filterMap fun | .tmp t => some t | _ => none

/-- an operation that acts -/
def acts (o : Oper) : Bool :=
  match o.op with
  | .move _ | .pick .. | .build .. | .load .. | .nilCheck _ | .binOp .. | .unOp .. | .convert .. | .slice .. | .fieldAddr .. | .field .. | .indexAddr .. | .index .. | .extract .. => false
  | .call c => match c.callee with | .builtin .len => false | _ => true
  | _ => true

/-- the operations of the chain: those that act, and those that read what one of the chain gives -/
def loudOf (ops : List Oper) : List Bool :=
  ops.foldl (fun (acc : List Bool) o => acc ++ [acts o || (acc.zip ops).any fun p => p.1 && (match p.2.dst with | some d => (rdsOf o).contains d | none => false)]) []

def waits (o : Oper) (j : Nat) : Bool := o.after.any fun e => Region.binds .any e && e.on == j

def isSel (o : Oper) : Bool := match o.op with | .select .. => true | _ => false

/-- whether a region is of that kind, its chain being 'loud' -/
def drawB (ops : List Oper) (loud : List Bool) : Bool :=
  (ops.all fun o => o.guard.isNone && !isSel o) && loud.length == ops.length &&
  ((List.range ops.length).all fun i =>
    match ops[i]?, loud[i]? with
    | some o, some l =>
      (l || (match o.dst with | some d => !(rdsOf o).contains d | none => false)) && (o.after.all fun e => !Region.binds .any e || decide (e.on < i)) &&
      ((List.range ops.length).all fun j =>
        match ops[j]?, loud[j]? with
        | some p, some m =>
          decide (i = j) ||
          ((match p.dst with
            | some d =>
              (!(rdsOf o).contains d || (!m && decide (j < i) && waits o j) || (m && (l || waits p i))) &&
              (l || o.dst != some d)
            | none => true) &&
           (!(l && m && decide (j < i)) || waits o j || (List.range ops.length).any fun k => decide (j < k) && decide (k < i) && (loud[k]?).getD false))
        | _, _ => false)
    | _, _ => false)

section
variable {P : Program}

/-- what computes, one behind the other: it gives the same in every world of which I holds -/
def evF (P : Program) (I : World → Prop) : List Oper → Act → (Act → Prop) → Prop
  | [], a, K => K a
  | o :: r, a, K => ∃ v, (∀ w, I w → (execOp a.eval o).run P w = .ok (.value v) w) ∧ evF P I r (a.put o.dst v) K

/-- the chain -/
def wpLd (P : Program) (I : World → Prop) (Q : Exit → Act → World → Prop) : List Oper → Act → World → Prop
  | [], a, w => I w ∧ Q .normal a w
  | o :: r, a, w => I w ∧ o.wp P a w (wpLd P I Q r) (fun _ _ _ => False)

theorem wpLd_I {I : World → Prop} {Q : Exit → Act → World → Prop} {l : List Oper} {a : Act} {w : World} (h : wpLd P I Q l a w) : I w := by
  cases l <;> exact h.1

theorem execOp_reads (o : Oper) (hs : isSel o = false) (a b : Act) (h : ∀ t ∈ rdsOf o, a.tmps.getD t undef = b.tmps.getD t undef) : execOp a.eval o = execOp b.eval o := by
  refine execOp_congr o (fun cs bl hc => by simp [isSel, hc] at hs) fun x hx => ?_
  cases x with
  | tmp t => exact h t (List.mem_filterMap.2 ⟨.tmp t, by simpa using hx, rfl⟩)
  | _ => rfl

theorem getD_put (a : Act) (d : Option Nat) (v : Value) (t : Nat) (h : d ≠ some t) : (a.put d v).tmps.getD t undef = a.tmps.getD t undef := by
  cases d with
  | none => rfl
  | some d =>
    have : d ≠ t := fun e => h (by rw [e])
    simp [Act.put, Array.getElem?_setIfInBounds_ne this]

/-- two acts put the same: they agree there, and where they agreed -/
theorem put_agree (a b : Act) (hsz : a.tmps.size = b.tmps.size) (d : Option Nat) (v : Value) (t : Nat) (h : d = some t ∨ a.tmps.getD t undef = b.tmps.getD t undef) :
    (a.put d v).tmps.getD t undef = (b.put d v).tmps.getD t undef := by
  by_cases hd : d = some t
  · subst hd
    simp [Act.put, Array.getElem?_setIfInBounds, hsz]
  · rw [getD_put a d v t hd, getD_put b d v t hd]
    exact h.resolve_left hd

theorem wp_congr_reads {o : Oper} (hs : isSel o = false) {a b : Act} {w : World} {K K' : Act → World → Prop} {Q' : Exit → Act → World → Prop} (h : ∀ t ∈ rdsOf o, a.tmps.getD t undef = b.tmps.getD t undef)
    (hd : a.defers = b.defers) (hK : ∀ ds v w', K (({ a with defers := ds } : Act).put o.dst v) w' → K' (({ b with defers := ds } : Act).put o.dst v) w')
    (hh : o.wp P a w K (fun _ _ _ => False)) : o.wp P b w K' Q' := by
  unfold Oper.wp at *
  rw [← execOp_reads o hs a b h]
  generalize (execOp a.eval o).run P w = r at *
  have hK0 : ∀ v w', K (a.put o.dst v) w' → K' (b.put o.dst v) w' := fun v w' hk => by
    have := hK a.defers v w' hk
    rw [hd] at this
    exact this
  cases r with
  | ok n w' =>
    cases n with
    | value v => exact hK0 v w' hh
    | skip => exact hK0 undef w' hh
    | enter f args =>
      refine Calls.mono hh fun e w'' he => ?_
      cases e with
      | returned v => exact hK0 v w'' he
      | panicked c => exact he.elim
      | outgrown => obtain ⟨_, _, hf⟩ := he; exact hf.elim
    | row row args => exact Rows.mono hh fun v w'' he => hK0 v w'' he
    | defer d =>
      have := hK (d :: a.defers) undef w' hh
      rw [hd] at this
      exact this
    | _ => exact hh.elim
  | halt x w' =>
    cases x <;> exact hh.elim

/-- what the order's walk keeps -/
structure DInv (ops : List Oper) (loud : List Bool) (a0 : Act) (af : Act) (n : Nat) (listed : Array Bool) (a : Act) : Prop where
  size : listed.size = ops.length
  asz : a.tmps.size = af.tmps.size
  defers : a.defers = af.defers
  chain : ∀ i : Nat, loud[i]? = some true → (listed.getD i false = true ↔ i < n)
  closed : ∀ (i : Nat) o, ops[i]? = some o → listed.getD i false = true → ∀ j, waits o j = true → listed.getD j false = true
  agree : ∀ t, (∀ (i : Nat) o, ops[i]? = some o → loud[i]? = some false → listed.getD i false = false → o.dst ≠ some t) → a.tmps.getD t undef = af.tmps.getD t undef
  orig : ∀ t, (∀ (i : Nat) o, ops[i]? = some o → listed.getD i false = true → o.dst ≠ some t) → a.tmps.getD t undef = a0.tmps.getD t undef


/-- What drawB says, as facts. -/
structure DrawOk (ops : List Oper) (loud : List Bool) : Prop where
  len : loud.length = ops.length
  guard : ∀ (i : Nat) (o : Oper), ops[i]? = some o → o.guard = none ∧ isSel o = false
  hasDst : ∀ (i : Nat) (o : Oper), ops[i]? = some o → loud[i]? = some false → ∃ d, o.dst = some d ∧ d ∉ rdsOf o
  lower : ∀ (i : Nat) (o : Oper), ops[i]? = some o → ∀ j, waits o j = true → j < i
  reads : ∀ (i : Nat) (o : Oper) (j : Nat) (p : Oper) (d : Nat), ops[i]? = some o → ops[j]? = some p → i ≠ j → p.dst = some d → d ∈ rdsOf o →
    (loud[j]? = some false ∧ j < i ∧ waits o j = true) ∨ (loud[j]? = some true ∧ (loud[i]? = some true ∨ waits p i = true))
  apart : ∀ (i : Nat) (o : Oper) (j : Nat) (p : Oper) (d : Nat), ops[i]? = some o → ops[j]? = some p → i ≠ j → p.dst = some d → loud[i]? = some false → o.dst ≠ some d
  chain : ∀ (i : Nat) (o : Oper) (j : Nat), ops[i]? = some o → loud[i]? = some true → loud[j]? = some true → j < i → waits o j = true ∨ ∃ k : Nat, j < k ∧ k < i ∧ loud[k]? = some true

theorem drawB_ok {ops : List Oper} {loud : List Bool} (h : drawB ops loud = true) : DrawOk ops loud := by
  simp only [drawB, Bool.and_eq_true, List.all_eq_true, List.mem_range, beq_iff_eq] at h
  obtain ⟨⟨hg, hl⟩, hh⟩ := h
  have key : ∀ (i : Nat) (o : Oper), ops[i]? = some o → ∃ l, loud[i]? = some l := by
    intro i o ho
    have : i < loud.length := by rw [hl]; exact (List.getElem?_eq_some_iff.1 ho).1
    exact ⟨_, List.getElem?_eq_getElem this⟩
  have row : ∀ (i : Nat) (o : Oper) (l : Bool), ops[i]? = some o → loud[i]? = some l → _ := fun i o l ho hlo => by
    have h1 := hh i (List.getElem?_eq_some_iff.1 ho).1
    rw [ho, hlo] at h1
    simp only [Bool.and_eq_true, List.all_eq_true, List.mem_range] at h1
    exact h1
  have cell : ∀ (i : Nat) (o : Oper) (l : Bool) (j : Nat) (p : Oper) (m : Bool), ops[i]? = some o → loud[i]? = some l → ops[j]? = some p → loud[j]? = some m → _ := fun i o l j p m ho hlo hp hm => by
    have h1 := (row i o l ho hlo).2 j (List.getElem?_eq_some_iff.1 hp).1
    rw [hp, hm] at h1
    exact h1
  refine ⟨hl, fun i o ho => ?_, fun i o ho hlo => ?_, fun i o ho j hw => ?_, fun i o j p d ho hp hij hd hr => ?_, fun i o j p d ho hp hij hd hlo => ?_, fun i o j ho hlo hlj hji => ?_⟩
  · have := hg o (List.mem_of_getElem? ho)
    simpa [Option.isNone_iff_eq_none] using this
  · have := (row i o false ho hlo).1.1
    cases hd : o.dst with
    | none => rw [hd] at this; simp at this
    | some d => rw [hd] at this; exact ⟨d, rfl, by simpa using this⟩
  · obtain ⟨l, hlo⟩ := key i o ho
    have h1 := (row i o l ho hlo).1.2
    unfold waits at hw
    obtain ⟨e, he, hb⟩ := Array.any_eq_true'.1 hw
    simp only [Bool.and_eq_true, beq_iff_eq] at hb
    have h2 := Array.all_eq_true'.1 h1 e he
    simp only [hb.1, Bool.not_true, Bool.false_or, decide_eq_true_eq] at h2
    omega
  · obtain ⟨l, hlo⟩ := key i o ho
    obtain ⟨m, hlm⟩ := key j p hp
    have h1 := cell i o l j p m ho hlo hp hlm
    simp only [hd, hij, decide_false, Bool.false_or, Bool.and_eq_true, Bool.or_eq_true, List.contains_eq_mem, hr, decide_true, Bool.not_true, Bool.not_eq_true', decide_eq_true_eq] at h1
    rcases h1.1.1 with ⟨⟨h2, h3⟩, h4⟩ | ⟨h2, h3⟩
    · subst h2; exact .inl ⟨hlm, h3, h4⟩
    · subst h2
      refine .inr ⟨hlm, ?_⟩
      rcases h3 with h3 | h3
      · subst h3; exact .inl hlo
      · exact .inr h3
  · obtain ⟨m, hlm⟩ := key j p hp
    have h1 := cell i o false j p m ho hlo hp hlm
    simp only [hd, hij, decide_false, Bool.false_or, Bool.and_eq_true] at h1
    simpa using h1.1.2
  · have hjl : j < ops.length := by rw [← hl]; exact (List.getElem?_eq_some_iff.1 hlj).1
    have hp : ops[j]? = some ops[j] := List.getElem?_eq_getElem hjl
    have h1 := cell i o true j _ true ho hlo hp hlj
    have hij : i ≠ j := by omega
    simp only [hij, decide_false, Bool.false_or, Bool.and_eq_true, hji, decide_true, Bool.not_true, Bool.or_eq_true, Bool.true_and] at h1
    rcases h1.2 with h2 | h2
    · exact .inl h2
    · obtain ⟨k, hk, hk2⟩ := List.any_eq_true.1 h2
      simp only [Bool.and_eq_true, decide_eq_true_eq] at hk2
      refine .inr ⟨k, hk2.1.1, hk2.1.2, ?_⟩
      cases hc : loud[k]? with
      | none => rw [hc] at hk2; simp at hk2
      | some x => rw [hc] at hk2; simp at hk2; rw [hk2.2]

/-- What computes, as a fact of each operation. -/
def FreeOk (P : Program) (I : World → Prop) (ops : List Oper) (loud : List Bool) (a0 af : Act) : Prop :=
  ∀ (i : Nat) (o : Oper), ops[i]? = some o → loud[i]? = some false → ∃ v, (∀ b : Act, b.tmps.size = af.tmps.size → ∀ d, o.dst = some d → (b.put o.dst v).tmps.getD d undef = af.tmps.getD d undef) ∧
    ∀ w, I w → ∀ b : Act, (∀ t ∈ rdsOf o, (∃ (j : Nat) (p : Oper), ops[j]? = some p ∧ loud[j]? = some false ∧ p.dst = some t) → b.tmps.getD t undef = af.tmps.getD t undef) →
      (∀ t ∈ rdsOf o, (¬ ∃ (j : Nat) (p : Oper), ops[j]? = some p ∧ loud[j]? = some false ∧ p.dst = some t) → b.tmps.getD t undef = a0.tmps.getD t undef) → (execOp b.eval o).run P w = .ok (.value v) w

def freesOf : List Oper → List Bool → List Oper
  | o :: r, l :: m => if l then freesOf r m else o :: freesOf r m
  | _, _ => []
def loudsOf : List Oper → List Bool → List Oper
  | o :: r, l :: m => if l then o :: loudsOf r m else loudsOf r m
  | _, _ => []

theorem evF_ok {I : World → Prop} {ops : List Oper} {loud : List Bool} (hd : DrawOk ops loud) (a0 : Act) (K : Act → Prop) : ∀ (r : List Oper) (m : List Bool) (k : Nat) (a : Act), r.length = m.length →
    (∀ i, r[i]? = ops[k + i]?) → (∀ i, m[i]? = loud[k + i]?) → (∀ t, (∀ (j : Nat) (p : Oper), j < k → ops[j]? = some p → loud[j]? = some false → p.dst ≠ some t) → a.tmps.getD t undef = a0.tmps.getD t undef) →
    evF P I (freesOf r m) a K →
    ∃ af, K af ∧ af.tmps.size = a.tmps.size ∧ af.defers = a.defers ∧ (∀ t, (∀ (j : Nat) (p : Oper), k ≤ j → ops[j]? = some p → loud[j]? = some false → p.dst ≠ some t) → af.tmps.getD t undef = a.tmps.getD t undef) ∧
      (∀ (i : Nat) (o : Oper), k ≤ i → ops[i]? = some o → loud[i]? = some false → ∃ v, (∀ b : Act, b.tmps.size = af.tmps.size → ∀ d, o.dst = some d → (b.put o.dst v).tmps.getD d undef = af.tmps.getD d undef) ∧
        ∀ w, I w → ∀ b : Act, (∀ t ∈ rdsOf o, (∃ (j : Nat) (p : Oper), ops[j]? = some p ∧ loud[j]? = some false ∧ p.dst = some t) → b.tmps.getD t undef = af.tmps.getD t undef) →
          (∀ t ∈ rdsOf o, (¬ ∃ (j : Nat) (p : Oper), ops[j]? = some p ∧ loud[j]? = some false ∧ p.dst = some t) → b.tmps.getD t undef = a0.tmps.getD t undef) → (execOp b.eval o).run P w = .ok (.value v) w)
  | [], m, k, a, hl, hr, _, _, h => by
    obtain rfl : m = [] := by cases m; rfl; simp at hl
    refine ⟨a, h, rfl, rfl, fun _ _ => rfl, fun i o hi ho => ?_⟩
    have := hr (i - k)
    rw [show k + (i - k) = i by omega, ho] at this
    simp at this
  | o :: r, l :: m, k, a, hl, hr, hm, ha, h => by
    have ho : ops[k]? = some o := by have := hr 0; simpa using this.symm
    have hlk : loud[k]? = some l := by have := hm 0; simpa using this.symm
    have hr' : ∀ i, r[i]? = ops[k + 1 + i]? := fun i => by have := hr (i + 1); simp only [List.getElem?_cons_succ] at this; rw [this]; congr 1; omega
    have hm' : ∀ i, m[i]? = loud[k + 1 + i]? := fun i => by have := hm (i + 1); simp only [List.getElem?_cons_succ] at this; rw [this]; congr 1; omega
    cases l with
    | true =>
      simp only [freesOf, if_true] at h
      obtain ⟨af, h1, h2, h3, h4, h5⟩ := evF_ok hd a0 K r m (k + 1) a (by simpa using hl) hr' hm' (fun t ht => ha t fun j p hj hp hlj => ht j p (by omega) hp hlj) h
      refine ⟨af, h1, h2, h3, fun t ht => h4 t fun j p hj => ht j p (by omega), fun i o' hi ho' hli => h5 i o' ?_ ho' hli⟩
      rcases Nat.lt_or_ge k i with hk | hk
      · exact hk
      · obtain rfl : i = k := by omega
        rw [hlk] at hli; cases hli
    | false =>
      simp only [freesOf] at h
      obtain ⟨v, hv, h⟩ := h
      obtain ⟨d, hdst, hself⟩ := hd.hasDst k o ho hlk
      obtain ⟨af, h1, h2, h3, h4, h5⟩ := evF_ok hd a0 K r m (k + 1) (a.put o.dst v) (by simpa using hl) hr' hm' (fun t ht => by
        rw [getD_put _ _ _ _ (ht k o (by omega) ho hlk)]
        exact ha t fun j p hj hp hlj => ht j p (by omega) hp hlj) h
      have hsz : (a.put o.dst v).tmps.size = a.tmps.size := by rw [hdst]; simp [Act.put]
      have hdf : (a.put o.dst v).defers = a.defers := by rw [hdst]; rfl
      -- nothing behind writes d
      have hlater : ∀ (j : Nat) (p : Oper), k + 1 ≤ j → ops[j]? = some p → loud[j]? = some false → p.dst ≠ some d := fun j p hj hp hlj hpd =>
        hd.apart j p k o d hp ho (by omega) hdst hlj hpd
      refine ⟨af, h1, h2.trans hsz, h3.trans hdf, fun t ht => ?_, fun i o' hi ho' hli => ?_⟩
      · rw [h4 t fun j p hj => ht j p (by omega), getD_put _ _ _ _ (ht k o (Nat.le_refl _) ho hlk)]
      · rcases Nat.lt_or_ge k i with hk | hk
        · exact h5 i o' hk ho' hli
        · obtain rfl : i = k := by omega
          obtain rfl : o' = o := Option.some.inj (ho'.symm.trans ho)
          refine ⟨v, fun b hb d' hd' => ?_, fun w hI b hb1 hb2 => ?_⟩
          · obtain rfl : d' = d := Option.some.inj (hd'.symm.trans hdst)
            rw [h4 d' hlater]
            exact put_agree b a (by rw [hb, h2, hsz]) o'.dst v d' (.inl hdst)
          · rw [← hv w hI]
            congr 1
            refine execOp_reads o' (hd.guard i o' ho).2 b a fun t ht => ?_
            by_cases hex : ∃ (j : Nat) (p : Oper), ops[j]? = some p ∧ loud[j]? = some false ∧ p.dst = some t
            · rw [hb1 t ht hex]
              obtain ⟨j, p, hp, hlj, hpd⟩ := hex
              by_cases hij : i = j
              · subst hij
                obtain rfl : p = o' := Option.some.inj (hp.symm.trans ho)
                obtain rfl : d = t := Option.some.inj (hdst.symm.trans hpd)
                exact absurd ht hself
              · rcases hd.reads i o' j p t ho hp hij hpd ht with ⟨_, hji, _⟩ | ⟨hlt, _⟩
                · rw [h4 t fun j' p' hj' hp' hlj' hpd' => ?_]
                  · rw [getD_put _ _ _ _ (fun e => ?_)]
                    exact hd.apart i o' j p t ho hp hij hpd hlk e
                  · have hjj : j' ≠ j := by omega
                    exact hd.apart j' p' j p t hp' hp hjj hpd hlj' hpd'
                · rw [hlj] at hlt; cases hlt
            · rw [hb2 t ht hex]
              exact (ha t fun j p hj hp hlj hpd => hex ⟨j, p, hp, hlj, hpd⟩).symm
  | _ :: _, [], _, _, hl, _, _, _, _ => by simp at hl

/-- how many are not yet listed -/
def unl (n : Nat) (listed : Array Bool) : Nat := (List.range n).countP fun i => !listed.getD i true

theorem unl_set {n i : Nat} {listed : Array Bool} (hi : i < n) (hs : listed.size = n) (h : listed.getD i true = false) : unl n (listed.setIfInBounds i true) < unl n listed := by
  unfold unl
  have key : ∀ m, m ≤ n → (List.range m).countP (fun j => !(listed.setIfInBounds i true).getD j true) + (if i < m then 1 else 0) = (List.range m).countP (fun j => !listed.getD j true) := by
    intro m
    induction m with
    | zero => intro _; simp
    | succ m ih =>
      intro hm
      rw [List.range_succ, List.countP_append, List.countP_append]
      have := ih (by omega)
      by_cases e : i = m
      · subst e
        have e1 : (listed.setIfInBounds i true).getD i true = true := by simp [hs, hi]
        simp only [Nat.lt_irrefl, if_false, Nat.add_zero] at this
        simp only [List.countP_cons, List.countP_nil, e1, h, this]
        simp
      · rw [List.countP_cons, List.countP_cons, getD_set_ne true e]
        by_cases hlt : i < m
        · have : i < m + 1 := by omega
          simp_all
          omega
        · have : ¬ i < m + 1 := by omega
          simp_all
  have := key n (Nat.le_refl n)
  rw [if_pos hi] at this
  omega

theorem loudsOf_cons {ops : List Oper} {loud : List Bool} (hl : loud.length = ops.length) : ∀ (n : Nat), (∃ i o, n ≤ i ∧ ops[i]? = some o ∧ loud[i]? = some true ∧ (∀ j, n ≤ j → j < i → loud[j]? = some false) ∧
      loudsOf (ops.drop n) (loud.drop n) = o :: loudsOf (ops.drop (i + 1)) (loud.drop (i + 1))) ∨
    (loudsOf (ops.drop n) (loud.drop n) = [] ∧ ∀ j, n ≤ j → loud[j]? ≠ some true) := by
  intro n
  generalize hd : ops.length - n = d
  induction d generalizing n with
  | zero =>
    right
    have h1 : ops.drop n = [] := List.drop_eq_nil_of_le (by omega)
    refine ⟨by rw [h1]; simp [loudsOf], fun j hj => ?_⟩
    rw [List.getElem?_eq_none (by omega)]
    simp
  | succ d ih =>
    have hn : n < ops.length := by omega
    have hn2 : n < loud.length := by omega
    rw [List.drop_eq_getElem_cons hn, List.drop_eq_getElem_cons hn2]
    have ho : ops[n]? = some ops[n] := List.getElem?_eq_getElem hn
    have hlo : loud[n]? = some loud[n] := List.getElem?_eq_getElem hn2
    cases hc : loud[n] with
    | true =>
      left
      refine ⟨n, ops[n], Nat.le_refl _, ho, by rw [hlo, hc], fun j h1 h2 => by omega, ?_⟩
      simp [loudsOf]
    | false =>
      simp only [loudsOf]
      rcases ih (n + 1) (by omega) with ⟨i, o, h1, h2, h3, h4, h5⟩ | ⟨h1, h2⟩
      · left
        refine ⟨i, o, by omega, h2, h3, fun j hj hji => ?_, h5⟩
        by_cases e : j = n
        · subst e; rw [hlo, hc]
        · exact h4 j (by omega) hji
      · right
        refine ⟨h1, fun j hj => ?_⟩
        by_cases e : j = n
        · subst e; rw [hlo, hc]; simp
        · exact h2 j (by omega)

theorem draw_any {I : World → Prop} {Q : Exit → Act → World → Prop} {ops : List Oper} {loud : List Bool} (hd : DrawOk ops loud) {a0 af0 : Act} (hF : FreeOk P I ops loud a0 af0) :
    ∀ (fuel : Nat) (listed : Array Bool) (a af : Act) (w : World) (n : Nat), unl ops.length listed ≤ fuel → DInv ops loud a0 af n listed a → af.tmps.size = af0.tmps.size →
      (∀ (i : Nat) (o : Oper) (d : Nat), ops[i]? = some o → loud[i]? = some false → o.dst = some d → af.tmps.getD d undef = af0.tmps.getD d undef) →
      wpLd P I Q (loudsOf (ops.drop n) (loud.drop n)) af w → wpAny P .any ops.toArray Q fuel listed a w := by
  -- where nothing is ready all is listed, and the act is the full one
  have done : ∀ (listed : Array Bool) (a af : Act) (w : World) (n : Nat), DInv ops loud a0 af n listed a → wpLd P I Q (loudsOf (ops.drop n) (loud.drop n)) af w → Region.ready .any ops.toArray listed = [] → Q .normal a w := by
    intro listed a af w n inv hw hr
    have all : ∀ i, i < ops.length → listed.getD i false = true := by
      intro i
      induction i using Nat.strongRecOn with
      | _ i ih =>
        intro hi
        cases hc : listed.getD i false with
        | true => rfl
        | false =>
          exfalso
          have ho : ops[i]? = some ops[i] := List.getElem?_eq_getElem hi
          have : i ∈ Region.ready .any ops.toArray listed := by
            rw [mem_ready]
            refine ⟨getD_in (by rw [inv.size]; exact hi) hc, ops[i], by simp, fun e he hb => ?_⟩
            have hlt := hd.lower i _ ho e.on (by unfold waits; exact Array.any_eq_true'.2 ⟨e, he, by simp [hb]⟩)
            exact ih e.on hlt (by omega)
          rw [hr] at this
          cases this
    have hnone : loudsOf (ops.drop n) (loud.drop n) = [] := by
      rcases loudsOf_cons hd.len n with ⟨i, o, h1, h2, h3, _⟩ | ⟨h1, _⟩
      · have := (inv.chain i h3).1 (all i (List.getElem?_eq_some_iff.1 h2).1)
        omega
      · exact h1
    rw [hnone] at hw
    have e : a = af := by
      obtain ⟨t1, d1⟩ := a
      obtain ⟨t2, d2⟩ := af
      have e1 : d1 = d2 := inv.defers
      have e2 : t1 = t2 := by
        apply Array.ext inv.asz
        intro i h1 h2
        have := inv.agree i (fun j o ho _ hu => by rw [all j (List.getElem?_eq_some_iff.1 ho).1] at hu; cases hu)
        simpa [h1, h2] using this
      rw [e1, e2]
    rw [e]
    exact hw.2
  intro fuel
  induction fuel with
  | zero =>
    intro listed a af w n hu inv _ _ hw
    have hr : Region.ready .any ops.toArray listed = [] := by
      cases hr : Region.ready .any ops.toArray listed with
      | nil => rfl
      | cons i r =>
        have hi : i ∈ Region.ready .any ops.toArray listed := by rw [hr]; exact List.mem_cons_self
        obtain ⟨h1, o, ho, _⟩ := mem_ready.1 hi
        have := unl_set (n := ops.length) (List.getElem?_eq_some_iff.1 (by simpa using ho : ops[i]? = some o)).1 inv.size h1
        omega
    exact ⟨hr, done listed a af w n inv hw hr⟩
  | succ fuel ih =>
    intro listed a af w n hu inv hsz hfix hw
    refine ⟨done listed a af w n inv hw, fun i hi => ?_⟩
    obtain ⟨hun, o, ho0, hall⟩ := mem_ready.1 hi
    have ho : ops[i]? = some o := by simpa using ho0
    have hil : i < ops.length := (List.getElem?_eq_some_iff.1 ho).1
    have hlt : i < loud.length := by rw [hd.len]; exact hil
    have hu' := unl_set (n := ops.length) hil inv.size hun
    have hun' := getD_both hun
    have hwait : ∀ j, waits o j = true → listed.getD j false = true := by
      intro j hj
      unfold waits at hj
      obtain ⟨e, he, hb⟩ := Array.any_eq_true'.1 hj
      simp only [Bool.and_eq_true, beq_iff_eq] at hb
      rw [← hb.2]
      exact hall e he hb.1
    have hset : ∀ j, (listed.setIfInBounds i true).getD j false = true → j = i ∨ listed.getD j false = true := by
      intro j hj
      by_cases e : i = j
      · exact .inl e.symm
      · rw [getD_set_ne false e] at hj; exact .inr hj
    have hseti : (listed.setIfInBounds i true).getD i false = true := by
      have : i < listed.size := by rw [inv.size]; exact hil
      simp [this]
    unfold wpOp
    rw [ho0]
    simp only
    rw [if_pos (by simp [Region.wanted, (hd.guard i o ho).1])]
    refine .inl ?_
    cases hlo : loud[i] with
    | false =>
      have hloi : loud[i]? = some false := by rw [List.getElem?_eq_getElem hlt, hlo]
      obtain ⟨v, hv1, hv2⟩ := hF i o ho hloi
      obtain ⟨d, hdst, hself⟩ := hd.hasDst i o ho hloi
      have hrun : (execOp a.eval o).run P w = .ok (.value v) w := by
        refine hv2 w (wpLd_I hw) a (fun t ht hex => ?_) (fun t ht hex => ?_)
        · obtain ⟨j, p, hp, hlj, hpd⟩ := hex
          have hij : i ≠ j := fun e => by
            subst e
            obtain rfl : p = o := Option.some.inj (hp.symm.trans ho)
            obtain rfl : d = t := Option.some.inj (hdst.symm.trans hpd)
            exact hself ht
          rcases hd.reads i o j p t ho hp hij hpd ht with ⟨_, _, hwj⟩ | ⟨hltj, _⟩
          · have hjl := hwait j hwj
            rw [inv.agree t fun j' p' hp' hlj' huj' hpd' => ?_]
            · exact hfix j p t hp hlj hpd
            · by_cases e : j' = j
              · subst e; rw [hjl] at huj'; cases huj'
              · exact hd.apart j' p' j p t hp' hp e hpd hlj' hpd'
          · rw [hlj] at hltj; cases hltj
        · refine inv.orig t fun j p hp hlj hpd => ?_
          by_cases hij : i = j
          · subst hij; rw [hun'] at hlj; cases hlj
          · rcases hd.reads i o j p t ho hp hij hpd ht with ⟨h1, _⟩ | ⟨hltj, h2⟩
            · exact hex ⟨j, p, hp, h1, hpd⟩
            · rcases h2 with h2 | h2
              · rw [hloi] at h2; cases h2
              · have := inv.closed j p hp hlj i h2
                rw [hun'] at this; cases this
      unfold Oper.wp
      rw [hrun]
      show wpAny P .any ops.toArray Q fuel (listed.setIfInBounds i true) (a.put o.dst v) w
      refine ih _ _ af w n (by omega) ?_ hsz hfix hw
      have hpsz : (a.put o.dst v).tmps.size = a.tmps.size := by rw [hdst]; simp [Act.put]
      refine ⟨by simp [inv.size], hpsz.trans inv.asz, (by rw [hdst]; exact inv.defers), fun j hj => ?_, fun j p hp hlj k hk => ?_, fun t ht => ?_, fun t ht => ?_⟩
      · have hij : i ≠ j := fun e => by subst e; rw [hloi] at hj; cases hj
        rw [getD_set_ne false hij]
        exact inv.chain j hj
      · rcases hset j hlj with e | e
        · subst e
          obtain rfl : p = o := Option.some.inj (hp.symm.trans ho)
          exact getD_set_true (hwait k hk)
        · exact getD_set_true (inv.closed j p hp e k hk)
      · by_cases e : d = t
        · subst e
          rw [hv1 a (inv.asz.trans hsz) d hdst]
          exact (hfix i o d ho hloi hdst).symm
        · rw [getD_put _ _ _ _ (by rw [hdst]; simpa using e)]
          refine inv.agree t fun j p hp hlj huj => ?_
          by_cases e2 : i = j
          · subst e2
            obtain rfl : p = o := Option.some.inj (hp.symm.trans ho)
            rw [hdst]; simpa using e
          · exact ht j p hp hlj (by rw [getD_set_ne false e2]; exact huj)
      · rw [getD_put _ _ _ _ (ht i o ho hseti)]
        exact inv.orig t fun j p hp hlj => ht j p hp (getD_set_true hlj)
    | true =>
      have hloi : loud[i]? = some true := by rw [List.getElem?_eq_getElem hlt, hlo]
      rcases loudsOf_cons hd.len n with ⟨k, o', h1, h2, h3, h4, h5⟩ | ⟨_, h2⟩
      · -- the next of the chain is this one
        have hni : n ≤ i := by
          rcases Nat.lt_or_ge i n with h | h
          · have := (inv.chain i hloi).2 h
            rw [hun'] at this; cases this
          · exact h
        have hki : k = i := by
          rcases Nat.lt_trichotomy k i with h | h | h
          · exfalso
            -- some loud one ahead of i is not listed, and i waits for the last of them
            have : ∀ (m : Nat), ∀ q, i - q = m → k ≤ q → q < i → loud[q]? = some true → False := by
              intro m
              induction m using Nat.strongRecOn with
              | _ m ihm =>
                intro q hm hkq hqi hq
                rcases hd.chain i o q ho hloi hq hqi with hw1 | ⟨r, hr1, hr2, hr3⟩
                · have := (inv.chain q hq).1 (hwait q hw1)
                  omega
                · exact ihm (i - r) (by omega) r rfl (by omega) hr2 hr3
            exact this _ k rfl (Nat.le_refl _) h h3
          · exact h
          · have := h4 i hni h
            rw [hloi] at this; cases this
        subst hki
        obtain rfl : o' = o := Option.some.inj (h2.symm.trans ho)
        rw [h5] at hw
        refine wp_congr_reads (a := af) (b := a) (hd.guard k o' ho).2 (fun t ht => ?_) inv.defers.symm (fun ds v w' hk => ?_) hw.2
        · refine (inv.agree t fun j p hp hlj huj hpd => ?_).symm
          have hij : k ≠ j := fun e => by subst e; rw [hloi] at hlj; cases hlj
          rcases hd.reads k o' j p t ho hp hij hpd ht with ⟨_, _, hwj⟩ | ⟨hltj, _⟩
          · rw [hwait j hwj] at huj; cases huj
          · rw [hlj] at hltj; cases hltj
        · refine ih _ _ (({ af with defers := ds } : Act).put o'.dst v) w' (k + 1) (by omega) ?_ ?_ (fun i' o'' d' hi' hli' hd' => ?_) hk
          · have hps : ∀ (x : Act), (({ x with defers := ds } : Act).put o'.dst v).tmps.size = x.tmps.size := fun x => by cases o'.dst <;> simp [Act.put]
            have hpd : ∀ (x : Act), (({ x with defers := ds } : Act).put o'.dst v).defers = ds := fun x => by cases o'.dst <;> rfl
            refine ⟨by simp [inv.size], by rw [hps, hps]; exact inv.asz, by rw [hpd, hpd], fun j hj => ?_, fun j p hp hlj q hq => ?_, fun t ht => ?_, fun t ht => ?_⟩
            · by_cases e : k = j
              · subst e; rw [hseti]; simp
              · rw [getD_set_ne false e, inv.chain j hj]
                constructor
                · intro h; omega
                · intro h
                  rcases Nat.lt_or_ge j n with h' | h'
                  · exact h'
                  · have := h4 j h' (by omega)
                    rw [hj] at this; cases this
            · rcases hset j hlj with e | e
              · subst e
                obtain rfl : p = o' := Option.some.inj (hp.symm.trans ho)
                exact getD_set_true (hwait q hq)
              · exact getD_set_true (inv.closed j p hp e q hq)
            · refine put_agree { a with defers := ds } { af with defers := ds } inv.asz o'.dst v t ?_
              by_cases e : o'.dst = some t
              · exact .inl e
              · refine .inr (inv.agree t fun j p hp hlj huj => ?_)
                have hij : k ≠ j := fun e => by subst e; rw [hloi] at hlj; cases hlj
                exact ht j p hp hlj (by rw [getD_set_ne false hij]; exact huj)
            · rw [getD_put _ _ _ _ (ht k o' ho hseti)]
              exact inv.orig t fun j p hp hlj => ht j p hp (getD_set_true hlj)
          · have : (({ af with defers := ds } : Act).put o'.dst v).tmps.size = af.tmps.size := by cases o'.dst <;> simp [Act.put]
            exact this.trans hsz
          · have hij : i' ≠ k := fun e => by subst e; rw [hloi] at hli'; cases hli'
            rw [getD_put _ _ _ _ (fun e => hd.apart i' o'' k o' d' hi' ho hij e hli' hd')]
            exact hfix i' o'' d' hi' hli' hd'
      · exfalso
        have hni : n ≤ i := by
          rcases Nat.lt_or_ge i n with h | h
          · have := (inv.chain i hloi).2 h
            rw [hun'] at this; cases this
          · exact h
        exact h2 i hni hloi

/-- THE RULE. -/
theorem wp_draw (hm : P.follows .mixedOrders = true) {id : Nat} {l : List Oper} {loud : List Bool} (hB : drawB l loud = true) (I : World → Prop) {Q : Exit → Act → World → Prop} {a : Act} {w : World}
    (h : evF P I (freesOf l loud) a fun af => wpLd P I Q (loudsOf l loud) af w.drew) : (Code.region id l.toArray true).wp P Q a w := by
  have hd := drawB_ok hB
  obtain ⟨af, h1, h2, h3, h4, h5⟩ := evF_ok hd a _ l loud 0 a hd.len.symm (by simp) (by simp) (fun t _ => rfl) h
  refine wp_region_any hm ?_
  refine draw_any hd (a0 := a) (af0 := af) (fun i o ho hl => h5 i o (Nat.zero_le _) ho hl) _ _ a af _ 0 ?_ ?_ rfl (fun _ _ _ _ _ _ => rfl) (by simpa using h1)
  · unfold unl
    exact Nat.le_trans List.countP_le_length (by simp)
  · refine ⟨by simp, h2.symm, h3.symm, fun i hi => ?_, fun i o _ hl => ?_, fun t ht => ?_, fun t _ => rfl⟩
    · rw [getD_replicate_false]; simp
    · rw [getD_replicate_false] at hl; cases hl
    · exact (h4 t fun j p _ hp hlj => ht j p hp hlj (getD_replicate_false _ _)).symm

end
end Go.Proofs.YtmkioomgfdpeiacDoor.Kx

/-
  CODE WITHOUT ITS MARKS: a function's code without places, edges and numbers of regions ('nCode'); a syntactic weakest precondition over it ('NWP'); it is sound for the code itself ('NWP.sound').
-/
namespace Go.Proofs.YtmkioomgfdpeiacDoor.Kx
open Go

/-- An operation without what no step reads. -/
def nOp : Op → Op
  | .call c => .call { c with argTypes := match c.callee with | .builtin _ => c.argTypes | _ => #[] }
  | .binOp o t x y _ => .binOp o t x y 0
  | o => o

/-- The type of an operation, where a step reads it. -/
def nTy : Op → TypeId → TypeId
  | .call c, t => match c.callee with | .builtin _ => t | _ => 0
  | .next .., t => t
  | .go _, t => t
  | .defer _, t => t
  | _, _ => 0

def nOper (o : Oper) : Oper := { dst := o.dst, op := nOp o.op, type := nTy o.op o.type, pos := "", after := #[], guard := o.guard }

theorem execOp_nOper (ρ : Operand → Value) (o : Oper) : execOp ρ (nOper o) = execOp ρ o := by
  obtain ⟨dst, op, type, pos, after, guard⟩ := o
  cases op <;> try rfl
  case call c =>
    obtain ⟨callee, args, argTypes⟩ := c
    cases callee <;> rfl

theorem nOper_dst (o : Oper) : (nOper o).dst = o.dst := rfl
theorem nOper_guard (o : Oper) : (nOper o).guard = o.guard := rfl

theorem nOper_upon (P : Program) (o : Oper) (a : Act) (K : Act → World → Prop) (Q : Exit → Act → World → Prop) (r : Result Next) :
    (nOper o).upon P a K Q r = o.upon P a K Q r := by
  cases r with
  | ok x w => cases x <;> rfl
  | halt h w => cases h <;> rfl

theorem nOper_wp (P : Program) (o : Oper) (a : Act) (w : World) (K : Act → World → Prop) (Q : Exit → Act → World → Prop) :
    (nOper o).wp P a w K Q = o.wp P a w K Q := by
  unfold Oper.wp
  rw [execOp_nOper, nOper_upon]

theorem nOper_asks (P : Program) (o : Oper) (a : Act) (w : World) : (nOper o).asks P a w = o.asks P a w := by
  unfold Oper.asks
  rw [execOp_nOper]

theorem nOper_stillUpon (P : Program) (o : Oper) (a : Act) (w : World) (K : Act → Prop) (r : Result Next) :
    (nOper o).stillUpon P a w K r = o.stillUpon P a w K r := by
  cases r with
  | ok x w => cases x <;> rfl
  | halt h w => cases h <;> rfl

theorem nOper_still (P : Program) (o : Oper) (a : Act) (w : World) (K : Act → Prop) : (nOper o).still P a w K = o.still P a w K := by
  unfold Oper.still
  rw [execOp_nOper, nOper_stillUpon]

theorem yielded_nOper (ops : Array Oper) (tmps : Array Value) : yielded (ops.toList.map nOper).toArray tmps = yielded ops tmps := by
  funext j
  have h : ((ops.toList.map nOper).toArray[j]?).bind (·.dst) = (ops[j]?).bind (·.dst) := by
    simp only [List.getElem?_toArray, List.getElem?_map, Array.getElem?_toList]
    cases ops[j]? <;> rfl
  unfold yielded
  rw [h]

theorem wanted_nOper (o : Oper) (y : Nat → Option Bool) : Region.wanted (nOper o) y = Region.wanted o y := rfl

theorem wpList_nOper (P : Program) (ops : Array Oper) (Q : Exit → Act → World → Prop) (l : List Oper) :
    wpList P (ops.toList.map nOper).toArray Q (l.map nOper) = wpList P ops Q l := by
  induction l with
  | nil => rfl
  | cons o r ih =>
    funext a w
    simp only [List.map_cons, wpList, wanted_nOper, yielded_nOper, nOper_wp, nOper_asks, nOper_dst, ih]

theorem rdsOf_nOper (o : Oper) : rdsOf (nOper o) = rdsOf o := by
  obtain ⟨dst, op, type, pos, after, guard⟩ := o
  cases op <;> try rfl

theorem acts_nOper (o : Oper) : acts (nOper o) = acts o := by
  obtain ⟨dst, op, type, pos, after, guard⟩ := o
  cases op <;> try rfl

theorem loudOf_nOper (l : List Oper) : loudOf (l.map nOper) = loudOf l := by
  unfold loudOf
  rw [List.foldl_map]
  congr 1
  funext acc o
  rw [acts_nOper]
  congr 2
  congr 1
  have : acc.zip (l.map nOper) = (acc.zip l).map (fun p => (p.1, nOper p.2)) := by rw [List.zip_map_right]; rfl
  rw [this, List.any_map]
  congr 1
  funext p
  simp only [Function.comp, nOper_dst, rdsOf_nOper]

theorem freesOf_nOper : ∀ (l : List Oper) (m : List Bool), freesOf (l.map nOper) m = (freesOf l m).map nOper
  | [], _ => rfl
  | _ :: _, [] => rfl
  | o :: r, b :: m => by cases b <;> simp [freesOf, freesOf_nOper r m]
theorem loudsOf_nOper : ∀ (l : List Oper) (m : List Bool), loudsOf (l.map nOper) m = (loudsOf l m).map nOper
  | [], _ => rfl
  | _ :: _, [] => rfl
  | o :: r, b :: m => by cases b <;> simp [loudsOf, loudsOf_nOper r m]

theorem evF_nOper (P : Program) (I : World → Prop) : ∀ (l : List Oper) (a : Act) (K : Act → Prop), evF P I (l.map nOper) a K = evF P I l a K
  | [], _, _ => rfl
  | o :: r, a, K => by
    simp only [List.map_cons, evF, execOp_nOper, nOper_dst, evF_nOper P I r]
theorem wpLd_nOper (P : Program) (I : World → Prop) (Q : Exit → Act → World → Prop) : ∀ (l : List Oper), wpLd P I Q (l.map nOper) = wpLd P I Q l
  | [] => rfl
  | o :: r => by
    funext a w
    simp only [List.map_cons, wpLd, nOper_wp, wpLd_nOper P I Q r]

/-- how a region that draws is walked: 1: by its chain; 2: by its text's order, all of it being quiet -/
def markOf (d : Bool) (ops : Array Oper) : Nat := if d then (if drawB ops.toList (loudOf ops.toList) then 1 else if Region.lexB .any ops then 2 else 0) else 0

theorem quiet_nOper (P : Program) (o : Oper) (a : Act) (C : World → Prop) (K : Act → Prop) : (nOper o).quiet P a C K = o.quiet P a C K := by
  unfold Oper.quiet Oper.quietAt
  rw [execOp_nOper, nOper_dst]
theorem wpQuiet_nOper (P : Program) (ops : Array Oper) (C : World → Prop) (Q : Act → Prop) : ∀ (l : List Oper), wpQuiet P (ops.toList.map nOper).toArray C Q (l.map nOper) = wpQuiet P ops C Q l
  | [] => rfl
  | o :: r => by
    funext a
    simp only [List.map_cons, wpQuiet, wanted_nOper, yielded_nOper, quiet_nOper, nOper_dst, wpQuiet_nOper P ops C Q r]

def nCode : Code → Code
  | .region _ ops d => .region (markOf d ops) (ops.toList.map nOper).toArray d
  | .seq a b => .seq (nCode a) (nCode b)
  | .cond c x y => .cond c (nCode x) (nCode y)
  | .block id c => .block id (nCode c)
  | .loop c => .loop (nCode c)
  | .scope c => .scope (nCode c)
  | .rangeFunc .. => .refuse ""
  | c => c


inductive NWP (P : Program) : Code → (Exit → Act → World → Prop) → Act → World → Prop
  | skip {Q : Exit → Act → World → Prop} {a : Act} {w : World} : Q .normal a w → NWP P .skip Q a w
  | label {l : Nat} {Q : Exit → Act → World → Prop} {a : Act} {w : World} : Q .normal a w → NWP P (.label l) Q a w
  | exit {id : Nat} {Q : Exit → Act → World → Prop} {a : Act} {w : World} : Q (.exit id) a w → NWP P (.exit id) Q a w
  | goto {l : Nat} {Q : Exit → Act → World → Prop} {a : Act} {w : World} : Q (.goto l) a w → NWP P (.goto l) Q a w
  | ret {Q : Exit → Act → World → Prop} {a : Act} {w : World} : Q .ret a w → NWP P .ret Q a w
  | reg {id : Nat} {l : List Oper} {Q : Exit → Act → World → Prop} {a : Act} {w : World} : wpList P l.toArray Q l a w → NWP P (.region id l.toArray false) Q a w
  | drw {l : List Oper} {Q : Exit → Act → World → Prop} {a : Act} {w : World} (I : World → Prop) :
      evF P I (freesOf l (loudOf l)) a (fun af => wpLd P I Q (loudsOf l (loudOf l)) af w.drew) → NWP P (.region 1 l.toArray true) Q a w
  | drq {l : List Oper} {Q : Exit → Act → World → Prop} {a : Act} {w : World} (C : World → Prop) : C w.drew →
      wpQuiet P l.toArray C (fun a' => ∀ w', C w' → Q .normal a' w') l a → NWP P (.region 2 l.toArray true) Q a w
  | seq {x y : Code} {Q R : Exit → Act → World → Prop} {a : Act} {w : World} : NWP P x R a w → (∀ a w, R .normal a w → NWP P y Q a w) →
      (∀ e a w, e ≠ .normal → R e a w → Q e a w) → NWP P (.seq x y) Q a w
  | condT {c : Operand} {x y : Code} {Q : Exit → Act → World → Prop} {a : Act} {w : World} : a.eval c = .bool true → NWP P x Q a w → NWP P (.cond c x y) Q a w
  | condF {c : Operand} {x y : Code} {Q : Exit → Act → World → Prop} {a : Act} {w : World} : a.eval c = .bool false → NWP P y Q a w → NWP P (.cond c x y) Q a w
  | block {id : Nat} {c : Code} {Q : Exit → Act → World → Prop} {a : Act} {w : World} : NWP P c (Exit.inBlock id Q) a w → NWP P (.block id c) Q a w
  | loop {c : Code} {Q : Exit → Act → World → Prop} {a : Act} {w : World} (I : Act → World → Prop) (μ : Act → World → Nat) : I a w →
      (∀ a w, I a w → NWP P c (Exit.then (fun a' w' => I a' w' ∧ μ a' w' < μ a w) Q) a w) → NWP P (.loop c) Q a w
  | scope {c rest : Code} {Q : Exit → Act → World → Prop} {a : Act} {w : World} (l : Nat) (J : Act → World → Prop) (μ : Act → World → Nat) : findLabel c l = some rest →
      NWP P c (Exit.jump l J Q) a w → (∀ a w, J a w → NWP P rest (Exit.jump l (fun a' w' => J a' w' ∧ μ a' w' < μ a w) Q) a w) → NWP P (.scope c) Q a w
  | mono {c : Code} {Q R : Exit → Act → World → Prop} {a : Act} {w : World} : NWP P c R a w → (∀ e a w, R e a w → Q e a w) → NWP P c Q a w

theorem findLabel_nCode (l : Nat) : ∀ (c rest : Code), findLabel (nCode c) l = some rest → ∃ r, findLabel c l = some r ∧ rest = nCode r := by
  intro c
  induction c with
  | seq x y ihx ihy =>
    intro rest h
    simp only [nCode, findLabel] at h
    cases hx : findLabel (nCode x) l with
    | some r =>
      rw [hx] at h
      obtain ⟨r0, h0, rfl⟩ := ihx r hx
      obtain rfl := Option.some.inj h
      exact ⟨.seq r0 y, by simp [findLabel, h0], rfl⟩
    | none =>
      rw [hx] at h
      obtain ⟨r0, h0, rfl⟩ := ihy rest h
      have hn : findLabel x l = none := by
        cases hxx : findLabel x l with
        | none => rfl
        | some r =>
          exfalso
          have : ∀ (c r : Code), findLabel c l = some r → ∃ r', findLabel (nCode c) l = some r' := by
            intro c
            induction c with
            | seq a b iha ihb =>
              intro r hr
              simp only [findLabel] at hr
              cases ha : findLabel a l with
              | some q => obtain ⟨q', hq⟩ := iha q ha; exact ⟨.seq q' (nCode b), by simp [nCode, findLabel, hq]⟩
              | none =>
                rw [ha] at hr
                obtain ⟨q', hq⟩ := ihb r hr
                cases hna : findLabel (nCode a) l with
                | some z => exact ⟨.seq z (nCode b), by simp [nCode, findLabel, hna]⟩
                | none => exact ⟨q', by simp [nCode, findLabel, hna, hq]⟩
            | label l' => intro r hr; exact ⟨r, hr⟩
            | _ => intro r hr; simp [findLabel] at hr
          obtain ⟨r', hr'⟩ := this x r hxx
          rw [hx] at hr'
          cases hr'
      exact ⟨r0, by simp [findLabel, hn, h0], rfl⟩
  | label l' =>
    intro rest h
    simp only [nCode, findLabel] at h ⊢
    split at h
    · rename_i he
      obtain rfl := Option.some.inj h
      exact ⟨.skip, by simp [he], rfl⟩
    · cases h
  | _ => intro rest h; simp [nCode, findLabel] at h

theorem NWP.sound {P : Program} (hm : P.follows .mixedOrders = true) {d : Code} {Q : Exit → Act → World → Prop} {a : Act} {w : World} (h : NWP P d Q a w) :
    ∀ c, d = nCode c → c.wp P Q a w := by
  induction h with
  | skip hq => intro c hc; cases c <;> simp [nCode] at hc; exact wp_skip hq
  | label hq => intro c hc; cases c <;> simp [nCode] at hc; exact wp_label hq
  | exit hq => intro c hc; cases c <;> simp [nCode] at hc; subst hc; exact wp_exit hq
  | goto hq => intro c hc; cases c <;> simp [nCode] at hc; subst hc; exact wp_goto hq
  | ret hq => intro c hc; cases c <;> simp [nCode] at hc; exact wp_ret hq
  | @reg id l Q a w hq =>
    intro c hc
    cases c with
    | region id' ops dr =>
      simp only [nCode, Code.region.injEq] at hc
      obtain ⟨_, hl, rfl⟩ := hc
      have hl' : l = ops.toList.map nOper := by simpa using congrArg Array.toList hl
      subst hl'
      rw [wpList_nOper] at hq
      exact wp_region_list hq
    | _ => simp [nCode] at hc
  | @drw l Q a w I hq =>
    intro c hc
    cases c with
    | region id' ops dr =>
      simp only [nCode, Code.region.injEq] at hc
      obtain ⟨hn, hl, rfl⟩ := hc
      have hl' : l = ops.toList.map nOper := by simpa using congrArg Array.toList hl
      subst hl'
      rw [loudOf_nOper, freesOf_nOper, loudsOf_nOper, evF_nOper, wpLd_nOper] at hq
      simp only [markOf, if_true] at hn
      split at hn
      · rename_i hB
        have := wp_draw hm (id := id') hB I hq
        simpa using this
      · split at hn <;> cases hn
    | _ => simp [nCode] at hc
  | @drq l Q a w C hC hq =>
    intro c hc
    cases c with
    | region id' ops dr =>
      simp only [nCode, Code.region.injEq] at hc
      obtain ⟨hn, hl, rfl⟩ := hc
      have hl' : l = ops.toList.map nOper := by simpa using congrArg Array.toList hl
      subst hl'
      rw [wpQuiet_nOper] at hq
      simp only [markOf, if_true] at hn
      split at hn
      · cases hn
      · split at hn
        · rename_i hB
          exact wp_region_quiet hm hB hC hq
        · cases hn
    | _ => simp [nCode] at hc
  | seq hx hy he ihx ihy =>
    intro c hc
    cases c <;> simp [nCode] at hc
    obtain ⟨rfl, rfl⟩ := hc
    refine wp_seq (wp_mono (ihx _ rfl) fun e a w hr => ?_)
    cases e with
    | normal => exact ihy a w hr _ rfl
    | _ => exact he _ a w (by simp) hr
  | condT hc0 _ ih =>
    intro c hc
    cases c <;> simp [nCode] at hc
    obtain ⟨rfl, rfl, rfl⟩ := hc
    exact wp_cond_true hc0 (ih _ rfl)
  | condF hc0 _ ih =>
    intro c hc
    cases c <;> simp [nCode] at hc
    obtain ⟨rfl, rfl, rfl⟩ := hc
    exact wp_cond_false hc0 (ih _ rfl)
  | block _ ih =>
    intro c hc
    cases c <;> simp [nCode] at hc
    obtain ⟨rfl, rfl⟩ := hc
    exact wp_block (ih _ rfl)
  | loop I μ h0 _ ih =>
    intro c hc
    cases c <;> simp [nCode] at hc
    subst hc
    exact wp_loop I μ h0 fun a w hI => ih a w hI _ rfl
  | scope l J μ hf _ _ ih1 ih2 =>
    intro c hc
    cases c <;> simp [nCode] at hc
    subst hc
    obtain ⟨r, hr, rfl⟩ := findLabel_nCode l _ _ hf
    exact wp_scope_jumps l J μ hr (ih1 _ rfl) fun a w hJ => ih2 a w hJ _ rfl
  | mono _ hq ih => intro c hc; exact wp_mono (ih c hc) hq

/-- A call of a function whose code, without its marks, is known. -/
theorem calls_of_nwp {P : Program} (hm : P.follows .mixedOrders = true) {f : FuncId} {fn : Func} {c d : Code} {args : Array Value} {w : World} {R : Ending → World → Prop}
    (hf : P.funcs[f]? = some fn) (hb : fn.body = some c) (hd : d = nCode c)
    (h : NWP P d (bodyPost P fn R) { tmps := args ++ Array.replicate (fn.ntmps - args.size) undef, defers := [] } w) : Calls P f args w R :=
  calls_of_wp hf hb (h.sound hm c hd)

end Go.Proofs.YtmkioomgfdpeiacDoor.Kx

/-
  SLOTS AND OPERATIONS: what a slot holds behind a step; one lemma an operation.
-/
namespace Go.Proofs.YtmkioomgfdpeiacDoor.Kx
open Go

def mk (d : Option Nat) (op : Op) : Oper := ⟨d, op, 0, "", #[], none⟩
def tm (n : Nat) : Operand := .tmp n
def rg (l : List Oper) : Code := .region 0 l.toArray false
def sq : List Code → Code
  | [] => .skip
  | [x] => x
  | x :: r => .seq x (sq r)

def _root_.Go.Act.get (a : Act) (t : Nat) : Value := a.tmps.getD t undef

theorem eval_tm (a : Act) (t : Nat) : a.eval (tm t) = a.get t := rfl
theorem eval_tmp (a : Act) (t : Nat) : a.eval (.tmp t) = a.get t := rfl
theorem eval_const (a : Act) (v : Value) : a.eval (.const v) = v := rfl

theorem put_size (a : Act) (d : Option Nat) (v : Value) : (a.put d v).tmps.size = a.tmps.size := by
  cases d <;> simp [Act.put]
theorem put_defers (a : Act) (d : Option Nat) (v : Value) : (a.put d v).defers = a.defers := by
  cases d <;> rfl
theorem put_none (a : Act) (v : Value) : a.put none v = a := rfl
theorem get_put (a : Act) (d : Nat) (v : Value) (h : d < a.tmps.size) : (a.put (some d) v).get d = v := by
  simp [Act.put, Act.get, h]
theorem get_put_ne (a : Act) (d s : Nat) (v : Value) (h : s ≠ d) : (a.put (some d) v).get s = a.get s := by
  simp only [Act.put, Act.get, Array.getD_eq_getD_getElem?, Array.getElem?_setIfInBounds]
  rw [if_neg (by omega)]

/-- Kept: all slots but x that lie below m, or from k0 on and below n. -/
structure Pv (x m k0 n : Nat) (a a' : Act) : Prop where
  size : a'.tmps.size = a.tmps.size
  defers : a'.defers = a.defers
  get : ∀ s, s ≠ x → (s < m ∨ (k0 ≤ s ∧ s < n)) → a'.get s = a.get s

theorem Pv.refl (x m k0 n : Nat) (a : Act) : Pv x m k0 n a a := ⟨rfl, rfl, fun _ _ _ => rfl⟩
theorem Pv.trans {x m k0 n : Nat} {a b c : Act} (h : Pv x m k0 n a b) (k : Pv x m k0 n b c) : Pv x m k0 n a c :=
  ⟨k.size.trans h.size, k.defers.trans h.defers, fun s hs hm => (k.get s hs hm).trans (h.get s hs hm)⟩
theorem Pv.mono {x m k0 n m' n' : Nat} {a b : Act} (h : Pv x m k0 n a b) (hm : m' ≤ m) (hn : n' ≤ n) : Pv x m' k0 n' a b :=
  ⟨h.size, h.defers, fun s hs hh => h.get s hs (by omega)⟩
theorem Pv.put {x m k0 n : Nat} {a b : Act} (h : Pv x m k0 n a b) {d : Nat} (v : Value) (hd : d = x ∨ (m ≤ d ∧ (d < k0 ∨ n ≤ d))) : Pv x m k0 n a (b.put (some d) v) :=
  ⟨(put_size _ _ _).trans h.size, (put_defers _ _ _).trans h.defers, fun s hs hh => by rw [get_put_ne _ _ _ _ (by omega)]; exact h.get s hs hh⟩

section ops
variable {P : Program} {ops : Array Oper} {Q : Exit → Act → World → Prop} {r : List Oper} {a : Act} {w : World}

theorem wl_intro {d : Option Nat} {op : Op} (h : (mk d op).wp P a w (wpList P ops Q r) Q) : wpList P ops Q (mk d op :: r) a w := by
  unfold wpList
  rw [if_pos (by simp [Region.wanted, mk])]
  exact .inl h

theorem wl_value {d : Option Nat} {op : Op} {v : Value} {w' : World} (h : (execOp a.eval (mk d op)).run P w = .ok (.value v) w')
    (hn : wpList P ops Q r (a.put d v) w') : wpList P ops Q (mk d op :: r) a w :=
  wl_intro (by unfold Oper.wp; rw [h]; exact hn)

theorem wl_skip {d : Option Nat} {op : Op} {w' : World} (h : (execOp a.eval (mk d op)).run P w = .ok .skip w')
    (hn : wpList P ops Q r (a.put d undef) w') : wpList P ops Q (mk d op :: r) a w :=
  wl_intro (by unfold Oper.wp; rw [h]; exact hn)

theorem wl_move {d : Option Nat} {x : Operand} (h : wpList P ops Q r (a.put d (a.eval x)) w) : wpList P ops Q (mk d (.move x) :: r) a w :=
  wl_value rfl h
theorem wl_assign {d : Option Nat} {x : Operand} (h : wpList P ops Q r (a.put d (a.eval x)) w) : wpList P ops Q (mk d (.assign x) :: r) a w :=
  wl_value rfl h

theorem wl_nilCheck {d : Option Nat} {x : Operand} {p : Addr} (hx : a.eval x = .pointer (some p)) (h : wpList P ops Q r (a.put d (.pointer (some p))) w) :
    wpList P ops Q (mk d (.nilCheck x) :: r) a w :=
  wl_value (by simp [execOp, mk, hx]) h

/-- what the program's table says of a type: its underlying form, how many cells, how many octets -/
structure TyIs (P : Program) (t : TypeId) (d : TypeDesc) (size : Nat) : Prop where
  und : P.underlying t = some d
  info : ∃ i, P.info? t = some i ∧ i.size = size

theorem TyIs.sizeOf {t : TypeId} {d : TypeDesc} {n : Nat} (h : TyIs P t d n) (w : World) : (sizeOf t).run P w = .ok n w := by
  obtain ⟨i, hi, rfl⟩ := h.info
  simp [Go.sizeOf, typeInfo, hi]
theorem TyIs.isAgg {t : TypeId} {d : TypeDesc} {n : Nat} (h : TyIs P t d n) (w : World) :
    (isAgg t).run P w = .ok (match d with | .struct _ | .array _ _ => true | _ => false) w := by
  simp only [Go.isAgg, run_underlying h.und, Sem.run_bind, Result.andThen_ok]
  cases d <;> rfl

theorem wl_fieldAddr {d : Option Nat} {x : Operand} {T k b o off : Nat} {fs : Array Field} {f : Field} {n : Nat} (hx : a.eval x = .pointer (some ⟨b, o, none⟩)) (hT : P.underlying T = some (.struct fs)) (hk : fs[k]? = some f)
    (ho : f.offset = off) (hn : ∀ w, (sizeOf f.type).run P w = .ok (n + 1) w) (h : wpList P ops Q r (a.put d (.pointer (some ⟨b, o + off, none⟩))) w) :
    wpList P ops Q (mk d (.fieldAddr T x k) :: r) a w := by
  refine wl_value ?_ h
  simp [execOp, mk, hx, Instr.fieldAt, run_underlying hT, hk, ho, fieldPlace, hn, Instr.sureAddr, Addr.add_lit]

theorem wl_load1 {d : Option Nat} {x : Operand} {F : TypeId} {p : Addr} {v : Value} (hx : a.eval x = .pointer (some p)) (hF : (isAgg F).run P w = .ok false w) (hv : w.cell? p = some v)
    (h : wpList P ops Q r (a.put d v) w) : wpList P ops Q (mk d (.load F x) :: r) a w := by
  refine wl_value ?_ h
  simp [execOp, mk, hx, Instr.loadAt, Instr.sureAddr, loadVar, hF, load, hv, Sem.run]

theorem wl_loadN {d : Option Nat} {x : Operand} {F : TypeId} {b o : Nat} {cs : List Value} (hx : a.eval x = .pointer (some ⟨b, o, none⟩)) (hF : (isAgg F).run P w = .ok true w) (hs : (sizeOf F).run P w = .ok cs.length w)
    (hc : ∀ j v, cs[j]? = some v → w.cell? ⟨b, o + j, none⟩ = some v)
    (h : wpList P ops Q r (a.put d (.agg cs.toArray)) w) : wpList P ops Q (mk d (.load F x) :: r) a w := by
  refine wl_value ?_ h
  have hl := run_loadCells_list (P := P) w ⟨b, o, none⟩ cs (fun j v hj => by rw [Addr.add_lit]; exact hc j v hj)
  simp [execOp, mk, hx, Instr.loadAt, Instr.sureAddr, loadVar, hF, hs, hl]

/-- some cells of a row written anew -/
def splice (cur : Array Value) (o : Nat) (vs : List Value) : Array Value := (cur.toList.take o ++ vs ++ cur.toList.drop (o + vs.length)).toArray

theorem splice_size {cur : Array Value} {o : Nat} {vs : List Value} (h : o + vs.length ≤ cur.size) : (splice cur o vs).size = cur.size := by
  simp [splice]; omega
theorem splice_out {cur : Array Value} {o : Nat} {vs : List Value} (h : o + vs.length ≤ cur.size) (j : Nat) (hj : j < o ∨ o + vs.length ≤ j) : (splice cur o vs)[j]? = cur[j]? := by
  simp only [splice, List.getElem?_toArray, List.append_assoc]
  rcases hj with hj | hj
  · rw [List.getElem?_append_left (by simp; omega), List.getElem?_take_of_lt hj]; simp
  · rw [List.getElem?_append_right (by simp; omega), List.getElem?_append_right (by simp; omega), List.getElem?_drop]
    simp only [List.length_take, Array.length_toList, Array.getElem?_toList]
    congr 1
    omega
theorem splice_in {cur : Array Value} {o : Nat} {vs : List Value} (h : o + vs.length ≤ cur.size) (j : Nat) (hj : j < vs.length) : (splice cur o vs)[o + j]? = vs[j]? := by
  simp only [splice, List.getElem?_toArray, List.append_assoc]
  rw [List.getElem?_append_right (by simp; omega), List.getElem?_append_left (by simp; omega)]
  simp only [List.length_take, Array.length_toList]
  congr 1
  omega

theorem wl_store {x y : Operand} {F : TypeId} {g o : Nat} {cur : Array Value} {t : TypeId} {v : Value} {vs : List Value} (hx : a.eval x = .pointer (some ⟨g, o, none⟩)) (hy : a.eval y = v)
    (hv : v.cells.toList = vs) (hF : (sizeOf F).run P w = .ok vs.length w) (hg : w.heap[g]? = some (.cells cur t (0, 0))) (ho : o + vs.length ≤ cur.size) (h1 : ∀ u ∈ vs, u.oneCell' = true)
    (h : wpList P ops Q r a (w.setRow g (splice cur o vs))) : wpList P ops Q (mk none (.store F x y) :: r) a w := by
  refine wl_skip (w' := w.setRow g (splice cur o vs)) ?_ h
  have hst := run_storeCells_at P g o t vs 0 cur w hg (by simpa using ho) h1
  simp only [Nat.add_zero] at hst
  have hsz : v.cells.size = vs.length := by rw [← hv]; simp
  simp [execOp, mk, hx, hy, Instr.storeAt, Instr.sureAddr, storeVar, hF, hsz, hv, hst, splice]

/-- a function with a body: a call of it enters it -/
def Ent (P : Program) (f : Nat) : Prop := ∀ args w, (callFunc f args).run P w = .ok (.enter f args) w

theorem wl_call {d : Option Nat} {f : Nat} {args : List Operand} {vs : Array Value} {R : Ending → World → Prop} (hf : Ent P f)
    (hargs : (args.map a.eval).toArray = vs)
    (hc : Calls P f vs w R) (h : ∀ e w', R e w' → ∃ v, e = .returned v ∧ wpList P ops Q r (a.put d v) w') :
    wpList P ops Q (mk d (.call ⟨.value (.func f), args.toArray, #[]⟩) :: r) a w := by
  refine wl_intro ?_
  unfold Oper.wp
  have : (execOp a.eval (mk d (.call ⟨.value (.func f), args.toArray, #[]⟩))).run P w = .ok (.enter f vs) w := by
    have he : a.eval (.func f) = .func (.func f) #[] #[] := rfl
    simp only [execOp, mk, resolve, he, Deferred.ofValue, invoke, Sem.run_bind, Sem.run_pure, Result.andThen_ok, Array.empty_append, Array.append_empty, List.map_toArray, hargs]
    exact hf _ _
  rw [this]
  exact hc.mono fun e w' hR => by
    obtain ⟨v, rfl, hh⟩ := h e w' hR
    exact hh

theorem wl_bin {d : Option Nat} {op : BinOp} {T U : TypeId} {x y : Operand} {k : IntKind} {m n : Int} {v : Value} (hx : a.eval x = .int k m) (hy : a.eval y = .int k n)
    (hs : op ≠ .shl ∧ op ≠ .shr) (hop : (binOp op T (.int k m) (.int k n)).run P w = .ok v w) (h : wpList P ops Q r (a.put d v) w) : wpList P ops Q (mk d (.binOp op T x y U) :: r) a w := by
  refine wl_value ?_ h
  have he : (eqGuard op T x y (.int k m) (.int k n)).run P w = .ok () w := by
    unfold eqGuard
    cases op <;> simp
  simp only [execOp, mk, hx, hy, Sem.run_bind, he, Result.andThen_ok, hop, Sem.run_pure]

theorem wl_not {d : Option Nat} {T : TypeId} {x : Operand} {b : Bool} (hx : a.eval x = .bool b) (h : wpList P ops Q r (a.put d (.bool !b)) w) : wpList P ops Q (mk d (.unOp .not T x) :: r) a w := by
  refine wl_value ?_ h
  simp [execOp, mk, hx, Op.unary]

theorem wl_convInt {d : Option Nat} {S T : TypeId} {x : Operand} {k k' : IntKind} {m : Int} (hx : a.eval x = .int k m) (hS : P.underlying S = some (.int k)) (hT : P.underlying T = some (.int k'))
    (h : wpList P ops Q r (a.put d (.int k' (k'.wrap m))) w) : wpList P ops Q (mk d (.convert S T x) :: r) a w := by
  refine wl_value ?_ h
  simp [execOp, mk, hx, convert, run_underlying hS, run_underlying hT, Conv.intToInt]

theorem wl_alloc {d : Option Nat} {T : TypeId} {z : Value} (hz : (zeroValue T).run P w = .ok z w) (h : wpList P ops Q r (a.put d (.pointer (some ⟨w.heap.size, 0, none⟩))) (w.alloc (.cells z.cells T (0, 0)))) :
    wpList P ops Q (mk d (.alloc T) :: r) a w := by
  refine wl_value (w' := w.alloc (.cells z.cells T (0, 0))) ?_ h
  simp [execOp, mk, Instr.alloc, hz, newVar, newRow, newObj, Sem.run]

theorem wl_slice0 {d : Option Nat} {x : Operand} {F E : TypeId} {base : Option Addr} {n c : Nat} (hx : a.eval x = .slice base n c) (hF : P.underlying F = some (.slice E))
    {sz : Nat} (hs : (sizeOf E).run P w = .ok sz w) (h : wpList P ops Q r (a.put d (.slice base 0 c)) w) :
    wpList P ops Q (mk d (.slice F x none (some (.const (.int .i64 0))) none) :: r) a w := by
  refine wl_value ?_ h
  have e0 : a.eval (.const (.int .i64 0)) = .int .i64 0 := rfl
  cases base with
  | none =>
    by_cases hc : c = 0
    · subst hc
      simp [execOp, mk, hx, e0, Instr.sliceAt, Instr.slice, run_underlying hF, Instr.sliceBounds, Instr.sliceBound, asIntOf, hs]
    · simp [execOp, mk, hx, e0, Instr.sliceAt, Instr.slice, run_underlying hF, Instr.sliceBounds, Instr.sliceBound, asIntOf, hs]
  | some b =>
    by_cases hc : c = 0
    · subst hc
      simp [execOp, mk, hx, e0, Instr.sliceAt, Instr.slice, run_underlying hF, Instr.sliceBounds, Instr.sliceBound, asIntOf, hs]
    · simp [execOp, mk, hx, e0, Instr.sliceAt, Instr.slice, run_underlying hF, Instr.sliceBounds, Instr.sliceBound, asIntOf, hs, Addr.add]

theorem wl_indexAddr {d : Option Nat} {x y : Operand} {F E : TypeId} {b o n c i sz : Nat} {k : IntKind} (hx : a.eval x = .slice (some ⟨b, o, none⟩) n c) (hy : a.eval y = .int k i) (hi : i < n) (hF : P.underlying F = some (.slice E))
    (hs : (sizeOf E).run P w = .ok sz w) (h : wpList P ops Q r (a.put d (.pointer (some ⟨b, o + i * sz, none⟩))) w) : wpList P ops Q (mk d (.indexAddr F x y) :: r) a w := by
  refine wl_value ?_ h
  simp [execOp, mk, hx, hy, Instr.indexAt, asIntOf, run_underlying hF, hs, hi, Addr.add_lit]

theorem wl_len {d : Option Nat} {x : Operand} {F E ty : TypeId} {base : Option Addr} {n c : Nat} (hx : a.eval x = .slice base n c) (hF : P.underlying F = some (.slice E))
    (h : wpList P ops Q r (a.put d (.int .i64 n)) w) : wpList P ops Q (⟨d, .call ⟨.builtin .len, #[x], #[F]⟩, ty, "", #[], none⟩ :: r) a w := by
  have hw : Region.wanted ⟨d, .call ⟨.builtin .len, #[x], #[F]⟩, ty, "", #[], none⟩ (yielded ops a.tmps) = true := by simp [Region.wanted]
  unfold wpList
  rw [if_pos hw]
  refine .inl ?_
  unfold Oper.wp
  have : (execOp a.eval ⟨d, .call ⟨.builtin .len, #[x], #[F]⟩, ty, "", #[], none⟩).run P w = .ok (.value (.int .i64 n)) w := by
    simp [execOp, resolve, invoke, builtin, hx, Builtin.len_, run_underlying hF, goInt]
  rw [this]
  exact h

/-- a = append(a, make([]T, l)...) on an empty slice of no room -/
theorem wl_growNil {d : Option Nat} {x y : Operand} {F E I ty : TypeId} {z : Value} {l bytes : Nat} {base : Option Addr} (hx : a.eval x = .slice base 0 0) (hy : a.eval y = .int .i32 l) (hl : 0 < l) (hF : P.underlying F = some (.slice E)) (hI : P.underlying I = some (.int .i32))
    {i : TypeInfo} (hE : P.info? E = some i) (hz : i.zero = some z) (hsz : z.cells.size = i.size) (hpos : 0 < i.size) (_hbp : 0 < i.bytes) (hb : i.bytes = bytes) (hroom : l * bytes ≤ 140737488355328) (hl31 : l < 2147483648)
    (h : ∀ (c : Nat) (cs : Array Value), l ≤ c → c ≤ maxLen → cs.size = c * i.size → (∀ q j, q < l → j < i.size → cs[q * i.size + j]? = z.cells[j]?) →
      wpList P ops Q r (a.put d (.slice (some ⟨w.heap.size, 0, none⟩) l c)) (w.drew.alloc (.cells cs E (0, 0)))) :
    wpList P ops Q (⟨d, .call ⟨.builtin .append, #[x, y], #[F, I]⟩, ty, "", #[], none⟩ :: r) a w := by
  have hw : Region.wanted ⟨d, .call ⟨.builtin .append, #[x, y], #[F, I]⟩, ty, "", #[], none⟩ (yielded ops a.tmps) = true := by simp [Region.wanted]
  unfold wpList
  rw [if_pos hw]
  refine .inl ?_
  unfold Oper.wp
  have hwl : IntKind.i64.wrap (l : Int) = l := by simp [IntKind.wrap, IntKind.bits, IntKind.signed]; omega
  have hcap := grownCap_ge w l 0 E
  have hcapm := grownCap_le_maxLen w l 0 E (by simp only [maxLen]; omega)
  have h1 : ¬ (281474976710656 < (l : Int) * (i.bytes : Int)) := by rw [hb, ← Int.natCast_mul]; omega
  have h63' : ¬ (9223372036854775807 < (l : Int)) := by omega
  have h48' : ¬ (281474976710656 < Builtin.nextslicecap l 0 * i.bytes) := by rw [nextslicecap_zero hl, hb]; omega
  have hl0 : l ≠ 0 := by omega
  have hi0 : i.size ≠ 0 := by omega
  have hneg : ¬ ((l : Int) < 0) := by omega
  have hli : l * i.size ≠ 0 := Nat.mul_ne_zero hl0 hi0
  have hrun : (execOp a.eval ⟨d, .call ⟨.builtin .append, #[x, y], #[F, I]⟩, ty, "", #[], none⟩).run P w =
      .ok (.value (.slice (some ⟨w.heap.size, 0, none⟩) l (grownCap w l 0 E))) (w.drew.alloc (.cells (Builtin.zeroCells z.cells l ++ Builtin.zeroCells z.cells (grownCap w l 0 E - l)) E)) := by
    cases base <;> simp [execOp, resolve, invoke, builtin, hx, hy, Builtin.append_, run_underlying hF, run_underlying hI, sizeOf, typeInfo, zeroValue, hE, hz, asInt, asIntOf, hwl, h1, h63', h48', hl0, hneg, hli, Question.forced, Builtin.firstCells, loadCells, loadCellsFrom, newRow, grownCap]
  rw [hrun]
  refine h (grownCap w l 0 E) _ hcap hcapm ?_ ?_
  · simp only [Array.size_append, size_zeroCells, hsz, ← Nat.add_mul]
    congr 1
    omega
  · intro q j hq hj
    have hlt : q * i.size + j < l * i.size := by
      have : (q + 1) * i.size ≤ l * i.size := Nat.mul_le_mul_right _ hq
      rw [Nat.add_mul] at this
      omega
    rw [Array.getElem?_append_left (by rw [size_zeroCells, hsz]; exact hlt)]
    simp only [Builtin.zeroCells, hsz, Array.getElem?_map]
    rw [Array.getElem?_range]
    have hm : (q * i.size + j) % i.size = j := by rw [Nat.add_comm, Nat.add_mul_mod_self_right, Nat.mod_eq_of_lt hj]
    simp [hlt, hm, getElem!_pos, hsz, hj]

end ops
end Go.Proofs.YtmkioomgfdpeiacDoor.Kx

/-
  HOW WHAT IS SAID LIES IN MEMORY: a thing of a type at a place (Rp), a reader (RdS), what stays (Keeps); all of it is kept where nothing that it leans on is written.
-/
namespace Go.Proofs.YtmkioomgfdpeiacDoor.Kx
open Go

/-- Outside of the blocks X nothing that was there has turned. -/
structure Keeps (X : Nat → Prop) (w w' : World) : Prop where
  os : w'.os = w.os
  tape : w'.tape = w.tape
  output : w'.output = w.output
  size : w.heap.size ≤ w'.heap.size
  block : ∀ k, k < w.heap.size → ¬ X k → w'.heap[k]? = w.heap[k]?

theorem Keeps.refl (X : Nat → Prop) (w : World) : Keeps X w w := ⟨rfl, rfl, rfl, Nat.le_refl _, fun _ _ _ => rfl⟩
theorem Keeps.trans {X : Nat → Prop} {a b c : World} (h : Keeps X a b) (k : Keeps X b c) : Keeps X a c :=
  ⟨k.os.trans h.os, k.tape.trans h.tape, k.output.trans h.output, Nat.le_trans h.size k.size, fun i hi hx => (k.block i (Nat.lt_of_lt_of_le hi h.size) hx).trans (h.block i hi hx)⟩
theorem Keeps.mono {X Y : Nat → Prop} {a b : World} (h : Keeps X a b) (hxy : ∀ k, k < a.heap.size → X k → Y k) : Keeps Y a b :=
  ⟨h.os, h.tape, h.output, h.size, fun i hi hy => h.block i hi (fun hx => hy (hxy i hi hx))⟩
theorem Keeps.drew (X : Nat → Prop) (w : World) : Keeps X w w.drew := ⟨rfl, rfl, rfl, Nat.le_refl _, fun _ _ _ => rfl⟩
theorem Keeps.alloc (X : Nat → Prop) (w : World) (o : Obj) : Keeps X w (w.alloc o) :=
  ⟨rfl, rfl, rfl, by simp, fun k hk _ => by show (w.heap.push o)[k]? = _; rw [Array.getElem?_push, if_neg (by omega)]⟩
theorem Keeps.setRow (X : Nat → Prop) (w : World) (g : Nat) (cs : Array Value) (hg : X g) : Keeps X w (w.setRow g cs) :=
  ⟨rfl, rfl, rfl, by simp, fun k _ hk => setRow_other w g k cs (fun e => hk (e ▸ hg))⟩

theorem lt_of_cell {w : World} {b o : Nat} {v : Value} (h : w.cell? ⟨b, o, none⟩ = some v) : b < w.heap.size := World.block_lt_of_cell? w ⟨b, o, none⟩ h
theorem cell_of_block {w w' : World} {b : Nat} (h : w'.heap[b]? = w.heap[b]?) (o : Nat) : w'.cell? ⟨b, o, none⟩ = w.cell? ⟨b, o, none⟩ := by simp [World.cell?, h]
theorem Keeps.cell {X : Nat → Prop} {w w' : World} (h : Keeps X w w') {b o : Nat} {v : Value} (hb : ¬ X b) (hv : w.cell? ⟨b, o, none⟩ = some v) : w'.cell? ⟨b, o, none⟩ = some v := by
  rw [cell_of_block (h.block b (lt_of_cell hv) hb)]; exact hv

/-- Some octets in a row of cells. -/
def OctAt (w : World) (b o : Nat) (l : Bs) : Prop := ∀ i x, l[i]? = some x → w.cell? ⟨b, o + i, none⟩ = some (.int .u8 (x.toNat : Int))

theorem OctAt.keep {X : Nat → Prop} {w w' : World} {b o : Nat} {l : Bs} (h : OctAt w b o l) (hk : Keeps X w w') (hb : ¬ X b) : OctAt w' b o l :=
  fun i x hi => hk.cell hb (h i x hi)

/-- A slice of octets. -/
def SlRp (w : World) (X : Nat → Prop) (v : Value) (l : Bs) : Prop :=
  (v = .slice none 0 0 ∧ l = []) ∨ ∃ b o c, v = .slice (some ⟨b, o, none⟩) l.length c ∧ ¬ X b ∧ b < w.heap.size ∧ l.length ≤ c ∧ c ≤ maxLen ∧ OctAt w b o l

theorem SlRp.keep {X : Nat → Prop} {w w' : World} {v : Value} {l : Bs} (h : SlRp w X v l) (hk : Keeps X w w') : SlRp w' X v l := by
  rcases h with h | ⟨b, o, c, hv, hb, hs, hc, hm, ho⟩
  · exact .inl h
  · exact .inr ⟨b, o, c, hv, hb, Nat.lt_of_lt_of_le hs hk.size, hc, hm, ho.keep hk hb⟩
theorem SlRp.mono {X Y : Nat → Prop} {w : World} {v : Value} {l : Bs} (h : SlRp w X v l) (hy : ∀ k, k < w.heap.size → Y k → X k) : SlRp w Y v l := by
  rcases h with h | ⟨b, o, c, hv, hb, hs, hc, hm, ho⟩
  · exact .inl h
  · exact .inr ⟨b, o, c, hv, fun hh => hb (hy b hs hh), hs, hc, hm, ho⟩

/-- One entry of a map of tags. -/
structure Ent1 where
  key : Nat
  val : Value
  born : Nat
def Ent1.entry (e : Ent1) : MapEntry := ⟨.int .u32 (e.key : Int), e.val, e.born⟩

/-- Tags, by rising numbers. -/
def Rising : List (Nat × Bs) → Prop
  | [] => True
  | [_] => True
  | x :: y :: r => x.1 < y.1 ∧ Rising (y :: r)

/-- Block r is a map of tags. -/
def MapIs (w : World) (X : Nat → Prop) (r : Nat) (t : List (Nat × Bs)) : Prop :=
  ∃ (es : List Ent1) (clock : Nat) (f : Ent1 → Bs), w.heap[r]? = some (.map (es.map Ent1.entry).toArray clock) ∧ (∀ e ∈ es, e.key < 4294967296 ∧ e.born < clock ∧ SlRp w (fun k => X k ∨ k = r) e.val (f e)) ∧
    (es.map Ent1.born).Nodup ∧ (es.map Ent1.key).Nodup ∧ (es.map fun e => (e.key, f e)).Perm t ∧ Rising t

theorem MapIs.keep {X : Nat → Prop} {w w' : World} {r : Nat} {t : List (Nat × Bs)} (h : MapIs w X r t) (hk : Keeps X w w') (hr : ¬ X r) : MapIs w' X r t := by
  obtain ⟨es, c, f, hh, he, h1, h2, h3, h4⟩ := h
  exact ⟨es, c, f, by rw [hk.block r (Array.getElem?_eq_some_iff.1 hh).1 hr]; exact hh, fun e hm => ⟨(he e hm).1, (he e hm).2.1, (he e hm).2.2.keep (hk.mono fun _ _ h => .inl h)⟩, h1, h2, h3, h4⟩
theorem MapIs.mono {X Y : Nat → Prop} {w : World} {r : Nat} {t : List (Nat × Bs)} (h : MapIs w X r t) (hy : ∀ k, k < w.heap.size → Y k → X k) : MapIs w Y r t := by
  obtain ⟨es, c, f, hh, he, h1, h2, h3, h4⟩ := h
  exact ⟨es, c, f, hh, fun e hm => ⟨(he e hm).1, (he e hm).2.1, (he e hm).2.2.mono fun k hk h => h.elim (fun h => .inl (hy k hk h)) .inr⟩, h1, h2, h3, h4⟩

/-- The tags of a part, as its field's value. -/
def TgRp (w : World) (X : Nat → Prop) (v : Value) (t : List (Nat × Bs)) : Prop :=
  (v = .map none ∧ t = []) ∨ ∃ r, v = .map (some r) ∧ ¬ X r ∧ r < w.heap.size ∧ MapIs w X r t

theorem TgRp.keep {X : Nat → Prop} {w w' : World} {v : Value} {t : List (Nat × Bs)} (h : TgRp w X v t) (hk : Keeps X w w') : TgRp w' X v t := by
  rcases h with h | ⟨r, hv, hr, hs, hm⟩
  · exact .inl h
  · exact .inr ⟨r, hv, hr, Nat.lt_of_lt_of_le hs hk.size, hm.keep hk hr⟩
theorem TgRp.mono {X Y : Nat → Prop} {w : World} {v : Value} {t : List (Nat × Bs)} (h : TgRp w X v t) (hy : ∀ k, k < w.heap.size → Y k → X k) : TgRp w Y v t := by
  rcases h with h | ⟨r, hv, hr, hs, hm⟩
  · exact .inl h
  · exact .inr ⟨r, hv, fun hh => hr (hy r hs hh), hs, hm.mono hy⟩

def Prim.kind : Prim → IntKind
  | .i8 => .i8 | .i16 => .i16 | .u16 => .u16 | .i32 => .i32 | _ => .i64
/-- the numbers of a kind -/
def Prim.fits : Prim → Int → Prop
  | .bool, x => x = 0 ∨ x = 1
  | .i8, x => -128 ≤ x ∧ x < 128
  | .i16, x => -32768 ≤ x ∧ x < 32768
  | .u16, x => 0 ≤ x ∧ x < 65536
  | .i32, x => -2147483648 ≤ x ∧ x < 2147483648
  | .i64, x => -9223372036854775808 ≤ x ∧ x < 9223372036854775808
  | .uuid, _ => False

/-- A value of a type without parts, as the cells of a variable. -/
def LRp (w : World) (X : Nat → Prop) : Ty → List Value → V → Prop
  | .prim .bool, cs, v => ∃ b : Bool, cs = [.bool b] ∧ v = .n (if b then 1 else 0)
  | .prim .uuid, cs, v => ∃ l : Bs, l.length = 16 ∧ cs = l.map (fun b => .int .u8 (b.toNat : Int)) ∧ v = .s l
  | .prim p, cs, v => ∃ x : Int, cs = [.int p.kind x] ∧ v = .n x ∧ p.fits x
  | .str none, cs, v => ∃ l : Bs, cs = [.string ⟨l.toArray⟩] ∧ v = .s l ∧ l.length ≤ maxLen
  | .str (some _), cs, v => (cs = [.pointer none] ∧ v = .nul) ∨ ∃ (l : Bs) (b o : Nat), cs = [.pointer (some ⟨b, o, none⟩)] ∧ ¬ X b ∧ w.cell? ⟨b, o, none⟩ = some (.string ⟨l.toArray⟩) ∧ v = .s l ∧ l.length ≤ maxLen
  | .bytes _, cs, v => (cs = [.slice none 0 0] ∧ v = .nul) ∨ ∃ (l : Bs) (b o c : Nat), cs = [.slice (some ⟨b, o, none⟩) l.length c] ∧ ¬ X b ∧ b < w.heap.size ∧ l.length ≤ c ∧ c ≤ maxLen ∧ OctAt w b o l ∧ v = .s l
  | _, _, _ => False

theorem LRp.keep {X : Nat → Prop} {w w' : World} {ty : Ty} {cs : List Value} {v : V} (h : LRp w X ty cs v) (hk : Keeps X w w') : LRp w' X ty cs v := by
  cases ty with
  | prim p => cases p <;> exact h
  | str nul =>
    cases nul with
    | none => exact h
    | some m =>
      rcases h with h | ⟨l, b, o, h1, h2, h3, h4⟩
      · exact .inl h
      · exact .inr ⟨l, b, o, h1, h2, hk.cell h2 h3, h4⟩
  | bytes nul =>
    rcases h with h | ⟨l, b, o, c, h1, h2, h3, h4, h5, h6, h7⟩
    · exact .inl h
    · exact .inr ⟨l, b, o, c, h1, h2, Nat.lt_of_lt_of_le h3 hk.size, h4, h5, h6.keep hk h2, h7⟩
  | list => exact h.elim
  | struct => exact h.elim
theorem LRp.mono {X Y : Nat → Prop} {w : World} {ty : Ty} {cs : List Value} {v : V} (h : LRp w X ty cs v) (hy : ∀ k, k < w.heap.size → Y k → X k) : LRp w Y ty cs v := by
  cases ty with
  | prim p => cases p <;> exact h
  | str nul =>
    cases nul with
    | none => exact h
    | some m =>
      rcases h with h | ⟨l, b, o, h1, h2, h3, h4⟩
      · exact .inl h
      · exact .inr ⟨l, b, o, h1, fun hh => h2 (hy b (lt_of_cell h3) hh), h3, h4⟩
  | bytes nul =>
    rcases h with h | ⟨l, b, o, c, h1, h2, h3, h4, h5, h6, h7⟩
    · exact .inl h
    · exact .inr ⟨l, b, o, c, h1, fun hh => h2 (hy b h3 hh), h3, h4, h5, h6, h7⟩
  | list => exact h.elim
  | struct => exact h.elim

/-- how many cells a thing takes -/
def Ty.leaf : Ty → Bool
  | .prim _ | .str _ | .bytes _ => true
  | _ => false
def toffEnd : Option Nat → Nat | some k => k + 1 | none => 0
mutual
def Ty.sz : Ty → Nat
  | .prim .uuid => 16
  | .struct none toff fs => fs.ext (toffEnd toff)
  | _ => 1
def Fds.ext : Fds → Nat → Nat
  | .nil, m => m
  | .cons _ _ _ _ off ty r, m => r.ext (Nat.max m (off + ty.sz))
end

/-- the tags of the part at ⟨b, o⟩; a part of a message that is never flexible has none -/
def TgAt (w : World) (X : Nat → Prop) (b o : Nat) (toff : Option Nat) (t : List (Nat × Bs)) : Prop :=
  match toff with
  | some k => ∃ m, w.cell? ⟨b, o + k, none⟩ = some m ∧ TgRp w X m t
  | none => t = []
theorem TgAt.frame {X : Nat → Prop} {w w' : World} {b o : Nat} {toff : Option Nat} {t : List (Nat × Bs)} (h : TgAt w X b o toff t) (hk : Keeps X w w') (hs : ∀ k, toff = some k → w'.cell? ⟨b, o + k, none⟩ = w.cell? ⟨b, o + k, none⟩) : TgAt w' X b o toff t := by
  cases toff with
  | none => exact h
  | some k => obtain ⟨m, h1, h2⟩ := h; exact ⟨m, by rw [hs k rfl]; exact h1, h2.keep hk⟩
theorem TgAt.mono {X Y : Nat → Prop} {w : World} {b o : Nat} {toff : Option Nat} {t : List (Nat × Bs)} (h : TgAt w X b o toff t) (hy : ∀ k, k < w.heap.size → Y k → X k) : TgAt w Y b o toff t := by
  cases toff with
  | none => exact h
  | some k => obtain ⟨m, h1, h2⟩ := h; exact ⟨m, h1, h2.mono hy⟩

def CellsAt (w : World) (b o : Nat) (cs : List Value) : Prop := ∀ j c, cs[j]? = some c → w.cell? ⟨b, o + j, none⟩ = some c

mutual
/-- A thing of a type at a place, leaning on no block of X beside its own place. -/
def Rp (w : World) (X : Nat → Prop) : Ty → Nat → Nat → V → Prop
  | .prim p, b, o, v => ∃ cs, CellsAt w b o cs ∧ LRp w X (.prim p) cs v
  | .str nul, b, o, v => ∃ cs, CellsAt w b o cs ∧ LRp w X (.str nul) cs v
  | .bytes nul, b, o, v => ∃ cs, CellsAt w b o cs ∧ LRp w X (.bytes nul) cs v
  | .list _ esz e, b, o, v =>
    (w.cell? ⟨b, o, none⟩ = some (.slice none 0 0) ∧ v = .nul) ∨
    ∃ (xs : List V) (p q c : Nat), w.cell? ⟨b, o, none⟩ = some (.slice (some ⟨p, q, none⟩) xs.length c) ∧ ¬ X p ∧ p < w.heap.size ∧ xs.length ≤ c ∧ c ≤ maxLen ∧ v = .l xs ∧
      ∀ i x, xs[i]? = some x → Rp w X e p (q + i * esz) x
  | .struct none toff fs, b, o, v => ∃ (vs : List V) (t : List (Nat × Bs)), v = .st vs t ∧ RpF w X fs b o vs ∧ TgAt w X b o toff t
  | .struct (some _) toff fs, b, o, v =>
    (w.cell? ⟨b, o, none⟩ = some (.pointer none) ∧ v = .nul) ∨
    ∃ (p q : Nat) (vs : List V) (t : List (Nat × Bs)), w.cell? ⟨b, o, none⟩ = some (.pointer (some ⟨p, q, none⟩)) ∧ ¬ X p ∧ p < w.heap.size ∧ v = .st vs t ∧ RpF w X fs p q vs ∧ TgAt w X p q toff t
def RpF (w : World) (X : Nat → Prop) : Fds → Nat → Nat → List V → Prop
  | .nil, _, _, vs => vs = []
  | .cons _ _ _ _ off ty r, b, o, vs => ∃ v vs', vs = v :: vs' ∧ Rp w X ty b (o + off) v ∧ RpF w X r b o vs'
end

theorem LRp.len {w : World} {X : Nat → Prop} {ty : Ty} {cs : List Value} {v : V} (h : LRp w X ty cs v) : cs.length = ty.sz := by
  cases ty with
  | prim p =>
    cases p
    case bool => obtain ⟨b, rfl, _⟩ := h; rfl
    case uuid => obtain ⟨l, hl, rfl, _⟩ := h; simpa [Ty.sz] using hl
    all_goals (obtain ⟨x, rfl, _⟩ := h; rfl)
  | str nul =>
    cases nul with
    | none => obtain ⟨l, rfl, _⟩ := h; rfl
    | some m =>
      rcases h with ⟨rfl, _⟩ | ⟨l, b, o, rfl, _⟩ <;> rfl
  | bytes nul =>
    rcases h with ⟨rfl, _⟩ | ⟨l, b, o, c, rfl, _⟩ <;> rfl
  | list => exact h.elim
  | struct => exact h.elim

theorem CellsAt.same {w w' : World} {b o : Nat} {cs : List Value} (h : CellsAt w b o cs) (hs : ∀ j, o ≤ j → j < o + cs.length → w'.cell? ⟨b, j, none⟩ = w.cell? ⟨b, j, none⟩) : CellsAt w' b o cs := by
  intro j c hj
  have hlt : j < cs.length := (List.getElem?_eq_some_iff.1 hj).1
  rw [hs (o + j) (by omega) (by omega)]
  exact h j c hj

theorem le_ext : ∀ (fs : Fds) (m : Nat), m ≤ fs.ext m
  | .nil, m => Nat.le_refl m
  | .cons _ _ _ _ off ty r, m => Nat.le_trans (Nat.le_max_left m (off + ty.sz)) (le_ext r _)

mutual
theorem Rp.frame {X : Nat → Prop} {w w' : World} (hk : Keeps X w w') : ∀ (ty : Ty) (b o : Nat) (v : V), Rp w X ty b o v →
    (∀ j, o ≤ j → j < o + ty.sz → w'.cell? ⟨b, j, none⟩ = w.cell? ⟨b, j, none⟩) → Rp w' X ty b o v
  | .prim p, b, o, v, h, hs => by
    obtain ⟨cs, hc, hl⟩ := h
    exact ⟨cs, hc.same (by rw [hl.len]; exact hs), hl.keep hk⟩
  | .str nul, b, o, v, h, hs => by
    obtain ⟨cs, hc, hl⟩ := h
    exact ⟨cs, hc.same (by rw [hl.len]; exact hs), hl.keep hk⟩
  | .bytes nul, b, o, v, h, hs => by
    obtain ⟨cs, hc, hl⟩ := h
    exact ⟨cs, hc.same (by rw [hl.len]; exact hs), hl.keep hk⟩
  | .list nul esz e, b, o, v, h, hs => by
    have h0 : w'.cell? ⟨b, o, none⟩ = w.cell? ⟨b, o, none⟩ := hs o (Nat.le_refl _) (by simp [Ty.sz])
    rcases h with ⟨h1, h2⟩ | ⟨xs, p, q, c, h1, h2, h3, h4, h5, h6, h7⟩
    · exact .inl ⟨by rw [h0]; exact h1, h2⟩
    · refine .inr ⟨xs, p, q, c, by rw [h0]; exact h1, h2, Nat.lt_of_lt_of_le h3 hk.size, h4, h5, h6, fun i x hi => ?_⟩
      exact Rp.frame hk e p _ x (h7 i x hi) (fun j _ _ => cell_of_block (hk.block p h3 h2) j)
  | .struct none toff fs, b, o, v, h, hs => by
    obtain ⟨vs, t, h1, h2, h3⟩ := h
    have hle := le_ext fs (toffEnd toff)
    simp only [Ty.sz] at hs
    exact ⟨vs, t, h1, RpF.frame hk fs b o vs _ h2 hs, h3.frame hk fun k hk' => by subst hk'; simp only [toffEnd] at hle hs; exact hs (o + k) (by omega) (by omega)⟩
  | .struct (some n) toff fs, b, o, v, h, hs => by
    have h0 : w'.cell? ⟨b, o, none⟩ = w.cell? ⟨b, o, none⟩ := hs o (Nat.le_refl _) (by simp [Ty.sz])
    rcases h with ⟨h1, h2⟩ | ⟨p, q, vs, t, h1, h2, h3, h4, h5, h6⟩
    · exact .inl ⟨by rw [h0]; exact h1, h2⟩
    · have hp : ∀ j, w'.cell? ⟨p, j, none⟩ = w.cell? ⟨p, j, none⟩ := fun j => cell_of_block (hk.block p h3 h2) j
      exact .inr ⟨p, q, vs, t, by rw [h0]; exact h1, h2, Nat.lt_of_lt_of_le h3 hk.size, h4, RpF.frame hk fs p q vs 0 h5 (fun j _ _ => hp j), h6.frame hk fun k _ => hp _⟩
theorem RpF.frame {X : Nat → Prop} {w w' : World} (hk : Keeps X w w') : ∀ (fs : Fds) (b o : Nat) (vs : List V) (m : Nat), RpF w X fs b o vs →
    (∀ j, o ≤ j → j < o + fs.ext m → w'.cell? ⟨b, j, none⟩ = w.cell? ⟨b, j, none⟩) → RpF w' X fs b o vs
  | .nil, b, o, vs, m, h, hs => h
  | .cons lo hi tag df off ty r, b, o, vs, m, h, hs => by
    obtain ⟨v, vs', h1, h2, h3⟩ := h
    have hle : Nat.max m (off + ty.sz) ≤ r.ext (Nat.max m (off + ty.sz)) := le_ext r _
    have hle2 : off + ty.sz ≤ Nat.max m (off + ty.sz) := Nat.le_max_right _ _
    exact ⟨v, vs', h1, Rp.frame hk ty b (o + off) v h2 (fun j hj hj2 => hs j (by omega) (by simp only [Fds.ext]; omega)), RpF.frame hk r b o vs' (Nat.max m (off + ty.sz)) h3 hs⟩
end

mutual
theorem Rp.mono {X Y : Nat → Prop} {w : World} (hy : ∀ k, k < w.heap.size → Y k → X k) : ∀ (ty : Ty) (b o : Nat) (v : V), Rp w X ty b o v → Rp w Y ty b o v
  | .prim p, b, o, v, h => by obtain ⟨cs, hc, hl⟩ := h; exact ⟨cs, hc, hl.mono hy⟩
  | .str nul, b, o, v, h => by obtain ⟨cs, hc, hl⟩ := h; exact ⟨cs, hc, hl.mono hy⟩
  | .bytes nul, b, o, v, h => by obtain ⟨cs, hc, hl⟩ := h; exact ⟨cs, hc, hl.mono hy⟩
  | .list nul esz e, b, o, v, h => by
    rcases h with h | ⟨xs, p, q, c, h1, h2, h3, h4, h5, h6, h7⟩
    · exact .inl h
    · exact .inr ⟨xs, p, q, c, h1, fun hh => h2 (hy p h3 hh), h3, h4, h5, h6, fun i x hi => Rp.mono hy e p _ x (h7 i x hi)⟩
  | .struct none toff fs, b, o, v, h => by
    obtain ⟨vs, t, h1, h2, h3⟩ := h
    exact ⟨vs, t, h1, RpF.mono hy fs b o vs h2, h3.mono hy⟩
  | .struct (some n) toff fs, b, o, v, h => by
    rcases h with h | ⟨p, q, vs, t, h1, h2, h3, h4, h5, h6⟩
    · exact .inl h
    · exact .inr ⟨p, q, vs, t, h1, fun hh => h2 (hy p h3 hh), h3, h4, RpF.mono hy fs p q vs h5, h6.mono hy⟩
theorem RpF.mono {X Y : Nat → Prop} {w : World} (hy : ∀ k, k < w.heap.size → Y k → X k) : ∀ (fs : Fds) (b o : Nat) (vs : List V), RpF w X fs b o vs → RpF w Y fs b o vs
  | .nil, b, o, vs, h => h
  | .cons lo hi tag df off ty r, b, o, vs, h => by
    obtain ⟨v, vs', h1, h2, h3⟩ := h
    exact ⟨v, vs', h1, Rp.mono hy ty b _ v h2, RpF.mono hy r b o vs' h3⟩
end

/-- What lies beyond X is kept with all that it leans on. -/
theorem Rp.keep {X : Nat → Prop} {w w' : World} (hk : Keeps X w w') {ty : Ty} {b o : Nat} {v : V} (h : Rp w X ty b o v) (hb : ¬ X b) (hlt : b < w.heap.size) : Rp w' X ty b o v :=
  Rp.frame hk ty b o v h (fun j _ _ => cell_of_block (hk.block b hlt hb) j)

/-! ## The reader -/

/-- What a reader's Src holds: a part of block S. -/
def SrcAt (w : World) (S : Nat) (v : Value) (r : RS) : Prop :=
  (v = .slice none 0 0 ∧ r.src = [] ∧ r.nl = true) ∨
  ∃ o c, v = .slice (some ⟨S, o, none⟩) r.src.length c ∧ r.nl = false ∧ r.src.length ≤ c ∧ c ≤ maxLen ∧ S < w.heap.size ∧ OctAt w S o r.src

/-- Block R is a reader (of type T) over block S. -/
def RdS (w : World) (T S R : Nat) (r : RS) : Prop :=
  ∃ v, w.heap[R]? = some (.cells #[v, .bool r.bad] T (0, 0)) ∧ SrcAt w S v r

theorem SrcAt.keep {X : Nat → Prop} {w w' : World} {S : Nat} {v : Value} {r : RS} (h : SrcAt w S v r) (hk : Keeps X w w') (hS : ¬ X S) : SrcAt w' S v r := by
  rcases h with h | ⟨o, c, h1, h2, h3, h4, h5, h6⟩
  · exact .inl h
  · exact .inr ⟨o, c, h1, h2, h3, h4, Nat.lt_of_lt_of_le h5 hk.size, h6.keep hk hS⟩
theorem RdS.keep {X : Nat → Prop} {w w' : World} {T S R : Nat} {r : RS} (h : RdS w T S R r) (hk : Keeps X w w') (hS : ¬ X S) (hR : ¬ X R) : RdS w' T S R r := by
  obtain ⟨v, h1, h2⟩ := h
  exact ⟨v, by rw [hk.block R (Array.getElem?_eq_some_iff.1 h1).1 hR]; exact h1, h2.keep hk hS⟩
theorem RdS.lt {w : World} {T S R : Nat} {r : RS} (h : RdS w T S R r) : R < w.heap.size := by
  obtain ⟨v, h1, _⟩ := h
  exact (Array.getElem?_eq_some_iff.1 h1).1

end Go.Proofs.YtmkioomgfdpeiacDoor.Kx

/-
  THE CODE OF A READER, printed of a plan: what 'readFrom' of a message is, without its marks.
-/
namespace Go.Proofs.YtmkioomgfdpeiacDoor.Kx
open Go

/-- the numbers of one translation: functions and types -/
structure G where
  rd : PF → Nat
  un : PF → Nat
  len : Nat
  clen : Nat
  ok : Nat
  complete : Nat
  uv : Nat
  span : Nat
  tags : Nat
  set : Nat
  tR : Nat
  tUuid : Nat
  tVer : Nat
  tI8 : Nat
  tI32 : Nat
  tU32 : Nat
  tInt : Nat
  tBool : Nat
  tErr : Nat
  tTags : Nat
  tSl : Nat
  tStr : Nat
  gErr : Nat

/-- the slots and numbers of one thing -/
inductive Nm where
  | mk (l : List Nat) (s : List Nm)
def Nm.l : Nm → List Nat | .mk l _ => l
def Nm.s : Nm → List Nm | .mk _ s => s
def Nm.n (m : Nm) (i : Nat) : Nat := m.l.getD i 0
def Nm.sub (m : Nm) (i : Nat) : Nm := m.s.getD i (.mk [] [])

/-- a function that the program has not is 999999 -/
def hasF (f : Nat) : Bool := f != 999999
def hasLst (g : G) (hf : Bool) : Bool := hasF g.len && hasF g.ok && (!hf || hasF g.clen)

structure Cx where
  hf : Bool
  b : Nat
  s : Nat
  ver : Nat
  fx : Nat

abbrev GC := Nat → Code × Nat

def gOps (k : Nat) (f : Nat → List Oper) : GC := fun n => (rg (f n), n + k)
def gCode (c : Code) : GC := fun n => (c, n)
def gL : List GC → Nat → List Code × Nat
  | [], n => ([], n)
  | x :: r, n => ((x n).1 :: (gL r (x n).2).1, (gL r (x n).2).2)
def gS (l : List GC) : GC := fun n => (sq (gL l n).1, (gL l n).2)
def gIf (t k : Nat) (ops : Nat → List Oper) (A B : GC) : GC := fun n =>
  (.seq (rg (ops n)) (.cond (tm (n + t)) (A (n + k)).1 (B (A (n + k)).2).1), (B (A (n + k)).2).2)
def gSkip : GC := gCode .skip

def gd (d : Nat) (op : Op) (j : Nat) (b : Bool) : Oper := ⟨some d, op, 0, "", #[], some (j, b)⟩
def bi (d : Option Nat) (b : Builtin) (args : List Operand) (tys : List Nat) (ty : Nat) : Oper := ⟨d, .call ⟨.builtin b, args.toArray, tys.toArray⟩, ty, "", #[], none⟩
def cl (d : Option Nat) (f : Nat) (args : List Operand) : Oper := mk d (.call ⟨.value (.func f), args.toArray, #[]⟩)
def ki (k : IntKind) (x : Int) : Operand := .const (.int k x)

def gCall (f b v : Nat) : GC := gOps 1 fun n => [cl (some n) f [tm b], mk (some v) (.assign (tm n))]
def gSet (v : Nat) (x : Value) : GC := gOps 0 fun _ => [mk (some v) (.assign (.const x))]
def gMove (x y : Nat) : GC := gOps 1 fun n => [mk (some n) (.move (tm x)), mk (some y) (.assign (tm n))]
def gLoad (s v T k F : Nat) : GC := gOps 4 fun n => [mk (some n) (.move (tm s)), mk (some (n + 1)) (.nilCheck (tm n)), mk (some (n + 2)) (.fieldAddr T (tm (n + 1)) k), mk (some (n + 3)) (.load F (tm (n + 2))), mk (some v) (.assign (tm (n + 3)))]
def gStore (uu : Option Nat) (s v T k F : Nat) : GC := gOps 4 fun n => [mk (some n) (.move (tm s)), mk (some (n + 1)) (match uu with | some u => .load u (tm v) | none => .move (tm v)), mk (some (n + 2)) (.nilCheck (tm n)),
  mk (some (n + 3)) (.fieldAddr T (tm (n + 2)) k), mk none (.store F (tm (n + 3)) (tm (n + 1)))]
def gFx (cx : Cx) (A B : GC) : GC := gIf 0 1 (fun n => [mk (some n) (.move (tm cx.fx))]) A B
def gUn (A B : GC) : GC := gIf 0 1 (fun n => [mk (some n) (.move (tm 2))]) A B
def gGuard (g : G) (cx : Cx) (lo : Nat) (hi : Option Nat) (A : GC) : GC :=
  match hi with
  | some h => gIf 5 6 (fun n => [mk (some n) (.move (tm cx.ver)), mk (some (n + 1)) (.binOp .geq g.tVer (tm n) (ki .i16 lo) 0), mk (some (n + 2)) (.move (tm (n + 1))), gd (n + 3) (.move (tm cx.ver)) 2 true,
      gd (n + 4) (.binOp .leq g.tVer (tm (n + 3)) (ki .i16 h) 0) 2 true, mk (some (n + 5)) (.pick (tm (n + 2)) (tm (n + 4)) (.const (.bool false)))]) A gSkip
  | none => if lo = 0 then A else gIf 1 2 (fun n => [mk (some n) (.move (tm cx.ver)), mk (some (n + 1)) (.binOp .geq g.tVer (tm n) (ki .i16 lo) 0)]) A gSkip

/-- a value of a type without parts is read into slot v -/
def gVal (g : G) (cx : Cx) (ty : Ty) (v : Nat) (x : List Nat) : List GC :=
  match ty with
  | .prim .uuid => [gOps 1 fun n => [cl (some n) (g.rd .uuid) [tm cx.b], mk (some v) (.alloc g.tUuid), mk none (.store g.tUuid (tm v) (tm n))]]
  | .prim p =>
    match x with
    | [t, u] => [gSet t (.int .i8 0), gS [gCall (g.rd (primPF p)) cx.b u, gMove u t], gMove t v]
    | _ => [gCall (g.rd (primPF p)) cx.b v]
  | .str nul =>
    let c (p : PF) : GC := gCall (g.rd p) cx.b v
    let u (p : PF) : GC := gCall (g.un p) cx.b v
    let nn : GC := if cx.hf then gFx cx (gUn (u .cnstr) (c .cnstr)) (gUn (u .nstr) (c .nstr)) else gUn (u .nstr) (c .nstr)
    match nul with
    | some 0 => [gSet v (.pointer none), nn]
    | some (m + 1) =>
      -- [vv]
      let d (f : Nat) : GC := gOps 1 fun n => [cl (some n) f [tm cx.b], mk none (.store g.tStr (tm (x.getD 0 0)) (tm n))]
      [gSet v (.pointer none), gIf 1 2 (fun n => [mk (some n) (.move (tm cx.ver)), mk (some (n + 1)) (.binOp .lss g.tVer (tm n) (ki .i16 ((m : Int) + 1)) 0)])
        (gS [gOps 0 fun _ => [mk (some (x.getD 0 0)) (.alloc g.tStr)],
          if cx.hf then gFx cx (gUn (d (g.un .cstr)) (d (g.rd .cstr))) (gUn (d (g.un .str)) (d (g.rd .str))) else gUn (d (g.un .str)) (d (g.rd .str)),
          gOps 0 fun _ => [mk (some v) (.assign (tm (x.getD 0 0)))]]) nn]
    | none => [gSet v (.string ⟨#[]⟩), if cx.hf then gUn (gFx cx (u .cstr) (u .str)) (gFx cx (c .cstr) (c .str)) else gUn (u .str) (c .str)]
  | .bytes nul =>
    let c (p : PF) : GC := gCall (g.rd p) cx.b v
    if cx.hf then [gSet v (.slice none 0 0), gFx cx (c (bytesPF nul.isSome true)) (c (bytesPF nul.isSome false))] else [c (bytesPF nul.isSome false)]
  | _ => []

def uuOf (g : G) : Ty → Option Nat
  | .prim .uuid => some g.tUuid
  | _ => none

def gRet (g : G) (b : Nat) : GC := gS [gOps 1 fun n => [cl (some n) g.complete [tm b], mk (some 6) (.assign (tm n))], gCode .ret]
def gOkChk (g : G) (cx : Cx) : GC := gIf 1 2 (fun n => [cl (some n) g.ok [tm cx.b], mk (some (n + 1)) (.unOp .not g.tBool (tm n))]) (gRet g cx.b) gSkip
def gNull (g : G) (cx : Cx) (nul : Option Nat) (a l F : Nat) : List GC :=
  match nul with
  | none => []
  | some m => [gIf 5 6 (fun n => [mk (some n) (.move (tm cx.ver)), mk (some (n + 1)) (.binOp .lss g.tVer (tm n) (ki .i16 m) 0), mk (some (n + 2)) (.move (tm (n + 1))), gd (n + 3) (.move (tm l)) 2 false,
      gd (n + 4) (.binOp .eql g.tI32 (tm (n + 3)) (ki .i32 0) 0) 2 false, mk (some (n + 5)) (.pick (tm (n + 2)) (.const (.bool true)) (tm (n + 4)))])
      (gOps 1 fun n => [mk (some n) (.buildSlice F 0 #[]), mk (some a) (.assign (tm n))]) gSkip]
def gSl0 (a F : Nat) : GC := gOps 2 fun n => [mk (some n) (.move (tm a)), mk (some (n + 1)) (.slice F (tm n) none (some (ki .i64 0)) none), mk (some a) (.assign (tm (n + 1)))]
def gGrow (g : G) (a l F : Nat) : GC := gIf 1 2 (fun n => [mk (some n) (.move (tm l)), mk (some (n + 1)) (.binOp .gtr g.tI32 (tm n) (ki .i32 0) 0)])
  (gOps 3 fun n => [mk (some n) (.move (tm a)), mk (some (n + 1)) (.move (tm l)), bi (some (n + 2)) .append [tm n, tm (n + 1)] [F, g.tI32] F, mk (some a) (.assign (tm (n + 2)))]) gSkip
/-- for i := int32(0); i < l; i++ -/
def gFor (g : G) (i l b1 b2 : Nat) (body : GC) : GC := fun n =>
  (.seq (rg [mk (some i) (.assign (ki .i32 0))])
    (.block b1 (.loop (.seq (.seq (rg [mk (some n) (.move (tm i)), mk (some (n + 1)) (.move (tm l)), mk (some (n + 2)) (.binOp .lss g.tI32 (tm n) (tm (n + 1)) 0)]) (.cond (tm (n + 2)) .skip (.exit b1)))
      (.seq (.block b2 (body (n + 5)).1) (rg [mk (some (n + 3)) (.move (tm i)), mk (some (n + 4)) (.binOp .add g.tI32 (tm (n + 3)) (ki .i32 1) 0), mk (some i) (.assign (tm (n + 4)))]))))),
   (body (n + 5)).2)
def gIdxStore (uu : Option Nat) (a i v F E : Nat) : GC := gOps 4 fun n => [mk (some n) (.move (tm a)), mk (some (n + 1)) (.move (tm i)), mk (some (n + 2)) (match uu with | some u => .load u (tm v) | none => .move (tm v)),
  mk (some (n + 3)) (.indexAddr F (tm n) (tm (n + 1))), mk none (.store E (tm (n + 3)) (tm (n + 2)))]
def gIdxAddr (a i v F : Nat) : GC := gOps 3 fun n => [mk (some n) (.move (tm a)), mk (some (n + 1)) (.move (tm i)), mk (some (n + 2)) (.indexAddr F (tm n) (tm (n + 1))), mk (some v) (.assign (tm (n + 2)))]
def gDefault (v f : Nat) : GC := gOps 2 fun n => [mk (some n) (.move (tm v)), cl (some (n + 1)) f [tm n]]
def gFieldAddr (s v T k : Nat) : GC := gOps 3 fun n => [mk (some n) (.move (tm s)), mk (some (n + 1)) (.nilCheck (tm n)), mk (some (n + 2)) (.fieldAddr T (tm (n + 1)) k), mk (some v) (.assign (tm (n + 2)))]
def gNew (s T k F E : Nat) : GC := gOps 4 fun n => [mk (some n) (.move (tm s)), mk (some (n + 1)) (.alloc E), mk (some (n + 2)) (.nilCheck (tm n)), mk (some (n + 3)) (.fieldAddr T (tm (n + 2)) k), mk none (.store F (tm (n + 3)) (tm (n + 1)))]
def gPresent (g : G) (cx : Cx) (p : Nat) (body : GC) : GC := gS [gCall (g.rd .i8) cx.b p,
  gIf 4 5 (fun n => [mk (some n) (.move (tm p)), mk (some (n + 1)) (.binOp .neq g.tI8 (tm n) (ki .i8 (-1)) 0), mk (some (n + 2)) (.move (tm (n + 1))), ⟨some (n + 3), .call ⟨.value (.func g.ok), #[tm cx.b], #[]⟩, 0, "", #[], some (2, true)⟩,
    mk (some (n + 4)) (.pick (tm (n + 2)) (tm (n + 3)) (.const (.bool false)))]) body gSkip]
def gReadTags (g : G) (cx : Cx) (T k : Nat) : GC := gOps 4 fun n => [mk (some n) (.move (tm cx.s)), cl (some (n + 1)) g.tags [tm cx.b], mk (some (n + 2)) (.nilCheck (tm n)), mk (some (n + 3)) (.fieldAddr T (tm (n + 2)) k), mk none (.store g.tTags (tm (n + 3)) (tm (n + 1)))]
/-- b := kbin.Reader{Src: b.Span(int(b.Uvarint()))} -/
def gInner (g : G) (b b' : Nat) : GC := gOps 4 fun n => [cl (some n) g.uv [tm b], mk (some (n + 1)) (.convert g.tU32 g.tInt (tm n)), cl (some (n + 2)) g.span [tm b, tm (n + 1)], mk (some (n + 3)) (.build g.tR #[(0, tm (n + 2))]),
  mk (some b') (.alloc g.tR), mk none (.store g.tR (tm b') (tm (n + 3)))]
def gErrChk (g : G) (b' err : Nat) : GC := gS [gCall g.complete b' err, gIf 1 2 (fun n => [mk (some n) (.move (tm err)), mk (some (n + 1)) (.binOp .neq g.tErr (tm n) (.const .nilIface) 0)])
  (gS [gOps 1 fun n => [mk (some n) (.move (tm err)), mk (some 6) (.assign (tm n))], gCode .ret]) gSkip]
/-- for i := b.Uvarint(); i > 0; i-- { switch key := b.Uvarint(); key { .. } } -/
def gTagFor (g : G) (cx : Cx) (i b1 b2 : Nat) (body : GC) : GC := fun n =>
  (.seq (rg [cl (some n) g.uv [tm cx.b], mk (some i) (.assign (tm n))])
    (.block b1 (.loop (.seq (.seq (rg [mk (some (n + 1)) (.move (tm i)), mk (some (n + 2)) (.binOp .gtr g.tU32 (tm (n + 1)) (ki .u32 0) 0)]) (.cond (tm (n + 2)) .skip (.exit b1)))
      (.seq (.block b2 (body (n + 5)).1) (rg [mk (some (n + 3)) (.move (tm i)), mk (some (n + 4)) (.binOp .sub g.tU32 (tm (n + 3)) (ki .u32 1) 0), mk (some i) (.assign (tm (n + 4)))]))))),
   (body (n + 5)).2)
def gUnknown (g : G) (cx : Cx) (key T k : Nat) (n : Nat) : Code :=
  .region 1 [mk (some n) (.move (tm cx.s)), mk (some (n + 1)) (.nilCheck (tm n)), mk (some (n + 2)) (.fieldAddr T (tm (n + 1)) k), mk (some (n + 3)) (.move (tm key)), cl (some (n + 4)) g.uv [tm cx.b],
    mk (some (n + 5)) (.convert g.tU32 g.tInt (tm (n + 4))), cl (some (n + 6)) g.span [tm cx.b, tm (n + 5)], cl (some (n + 7)) g.set [tm (n + 2), tm (n + 3), tm (n + 6)]].toArray true
/-- the cases of the switch: (tag, what is done) -/
def gCases (g : G) (key : Nat) (dflt : Code) : List (Nat × GC) → Nat → Code × Nat
  | [], n => (dflt, n)
  | (t, x) :: r, n => (.seq (rg [mk (some (n + 1)) (.binOp .eql g.tU32 (tm key) (ki .u32 t) 0), mk (some n) (.assign (tm (n + 1)))]) (.cond (tm n) (x (n + 2)).1 (gCases g key dflt r (x (n + 2)).2).1), (gCases g key dflt r (x (n + 2)).2).2)
def gSwitch (g : G) (cx : Cx) (key b3 T k : Nat) (cs : List (Nat × GC)) : GC := fun n =>
  (.seq (rg [mk (some n) (.move (tm key))]) (.block b3 (gCases g n (gUnknown g cx key T k (n + 1)) cs (n + 9)).1), (gCases g n (gUnknown g cx key T k (n + 1)) cs (n + 9)).2)

/-- a part: its fields, and its tags. m: [i, key, b1, b2, b3] where tags are known -/
def gStOf (g : G) (cx : Cx) (tagged : Bool) (T kt : Nat) (m : Nm) (items : List GC) (cases : List (Nat × GC)) : List GC :=
  items ++ (if !cx.hf then []
    else if tagged then [gFx cx (gTagFor g cx (m.n 0) (m.n 2) (m.n 3) (gS [gCall g.uv cx.b (m.n 1), gSwitch g cx (m.n 1) (m.n 4) T kt cases])) gSkip]
    else [gFx cx (gReadTags g cx T kt) gSkip])

mutual
/-- a field, read in its place. nm: [v, T, k, F, ..] -/
def gTy (g : G) (cx : Cx) : Ty → Nm → List GC
  | .prim p, m => gVal g cx (.prim p) (m.n 0) (m.l.drop 4) ++ [gStore (uuOf g (.prim p)) cx.s (m.n 0) (m.n 1) (m.n 2) (m.n 3)]
  | .str nul, m => gVal g cx (.str nul) (m.n 0) (m.l.drop 4) ++ [gStore none cx.s (m.n 0) (m.n 1) (m.n 2) (m.n 3)]
  | .bytes nul, m => gVal g cx (.bytes nul) (m.n 0) [] ++ [gStore none cx.s (m.n 0) (m.n 1) (m.n 2) (m.n 3)]
  | .list nul _ e, m =>
    -- [v, T, k, F, a, l, i, b1, b2]
    let v := m.n 0
    let F := m.n 3
    let a := m.n 4
    let l := m.n 5
    let i := m.n 6
    [gLoad cx.s v (m.n 1) (m.n 2) F, gMove v a, gSet l (.int .i32 0), if cx.hf then gFx cx (gCall g.clen cx.b l) (gCall g.len cx.b l) else gCall g.len cx.b l] ++ gNull g cx nul a l F ++
    [gOkChk g cx, gSl0 a F, gGrow g a l F, gFor g i l (m.n 7) (m.n 8) (gS (gEl g cx e a i F (m.sub 0))), gMove a v, gStore none cx.s v (m.n 1) (m.n 2) F]
  | .struct none _ fs, m =>
    -- [v, T, k, s', default, T', ktags]
    [gFieldAddr cx.s (m.n 0) (m.n 1) (m.n 2), gDefault (m.n 0) (m.n 4), gMove (m.n 0) (m.n 3)] ++ gStOf g { cx with s := m.n 3 } fs.tagged (m.n 5) (m.n 6) (m.sub 0) (gFds g { cx with s := m.n 3 } fs (m.sub 0).s) (gTagd g { cx with s := m.n 3 } fs (m.sub 0).s)
  | .struct (some _) _ fs, m =>
    -- [v, T, k, F, s', default, T', ktags, present, E]
    [gPresent g cx (m.n 8) (gS ([gNew cx.s (m.n 1) (m.n 2) (m.n 3) (m.n 9), gLoad cx.s (m.n 0) (m.n 1) (m.n 2) (m.n 3), gDefault (m.n 0) (m.n 5), gMove (m.n 0) (m.n 4)] ++ gStOf g { cx with s := m.n 4 } fs.tagged (m.n 6) (m.n 7) (m.sub 0) (gFds g { cx with s := m.n 4 } fs (m.sub 0).s) (gTagd g { cx with s := m.n 4 } fs (m.sub 0).s)))]
/-- an element of a list -/
def gEl (g : G) (cx : Cx) : Ty → Nat → Nat → Nat → Nm → List GC
  | .struct _ _ fs, a, i, F, m =>
    -- [v, s', default, T', ktags]
    [gIdxAddr a i (m.n 0) F, gDefault (m.n 0) (m.n 2), gMove (m.n 0) (m.n 1)] ++ gStOf g { cx with s := m.n 1 } fs.tagged (m.n 3) (m.n 4) (m.sub 0) (gFds g { cx with s := m.n 1 } fs (m.sub 0).s) (gTagd g { cx with s := m.n 1 } fs (m.sub 0).s)
  | ty, a, i, F, m =>
    -- [v, E, ..]
    gVal g cx ty (m.n 0) (m.l.drop 2) ++ [gIdxStore (uuOf g ty) a i (m.n 0) F (m.n 1)]
def gFds (g : G) (cx : Cx) : Fds → List Nm → List GC
  | .nil, _ => []
  | .cons lo hi tag _ _ ty r, ms =>
    if tag.isNone then gGuard g cx lo hi (gS (gTy g cx ty (ms.headD (.mk [] [])))) :: gFds g cx r ms.tail else gFds g cx r ms.tail
/-- the cases of the known tags. A field's numbers in 's 0'; [b', err] -/
def gTagd (g : G) (cx : Cx) : Fds → List Nm → List (Nat × GC)
  | .nil, _ => []
  | .cons _ _ tag _ _ ty r, ms =>
    match tag with
    | some t => (t, gS ([gInner g cx.b ((ms.headD (.mk [] [])).n 0)] ++ gTy g { cx with b := (ms.headD (.mk [] [])).n 0 } ty ((ms.headD (.mk [] [])).sub 0) ++ [gErrChk g ((ms.headD (.mk [] [])).n 0) ((ms.headD (.mk [] [])).n 1)])) :: gTagd g cx r ms.tail
    | none => gTagd g cx r ms.tail
end

/-- the whole function. kept: the version is read first. numbers: [default, T, n0, flex] -/
def gRead (g : G) (hf kept : Bool) (cx : Cx) (fs : Fds) (dflt T kt flex n0 : Nat) (m : Nm) : Code :=
  (gS ([gSet 6 .nilIface, gDefault 0 dflt, gOps 2 fun n => [mk (some n) (.move (tm 1)), mk (some (n + 1)) (.build g.tR #[(0, tm n)]), mk (some cx.b) (.alloc g.tR), mk none (.store g.tR (tm cx.b) (tm (n + 1)))]] ++
    (if kept then [gOps 4 fun n => [mk (some n) (.move (tm 0)), cl (some (n + 1)) (g.rd .i16) [tm cx.b], mk (some (n + 2)) (.nilCheck (tm n)), mk (some (n + 3)) (.fieldAddr T (tm (n + 2)) 0), mk none (.store g.tVer (tm (n + 3)) (tm (n + 1)))]] else []) ++
    [gLoad 0 cx.ver T 0 g.tVer, gOps 1 fun n => [mk (some n) (.move (tm cx.ver))]] ++
    (if hf then [gOps 2 fun n => [mk (some n) (.move (tm cx.ver)), mk (some (n + 1)) (.binOp .geq g.tVer (tm n) (ki .i16 flex) 0), mk (some cx.fx) (.assign (tm (n + 1)))], gOps 1 fun n => [mk (some n) (.move (tm cx.fx))]] else []) ++
    [gMove 0 cx.s] ++ gStOf g cx fs.tagged T kt m (gFds g cx fs m.s) (gTagd g cx fs m.s) ++
    [gOps 1 fun n => [cl (some n) g.complete [tm cx.b], mk (some 6) (.assign (tm n))], gCode .ret]) n0).1

end Go.Proofs.YtmkioomgfdpeiacDoor.Kx

/-
  STATEMENTS: what each statement of the printed code does.
-/
namespace Go.Proofs.YtmkioomgfdpeiacDoor.Kx
open Go

section
variable {P : Program}

theorem nwp_skip_inv {c : Code} {Q : Exit → Act → World → Prop} {a : Act} {w : World} (h : NWP P c Q a w) : c = .skip → Q .normal a w := by
  induction h with
  | skip hq => intro _; exact hq
  | mono _ hq ih => intro hc; exact hq _ _ _ (ih hc)
  | reg => intro hc; cases hc
  | drw => intro hc; cases hc
  | _ => intro hc; cases hc

/-- the pieces of a block, one behind the other -/
def LW (P : Program) (l : List GC) (n : Nat) (Q : Exit → Act → World → Prop) (a : Act) (w : World) : Prop := NWP P (sq (gL l n).1) Q a w

theorem LW_nil {n : Nat} {Q : Exit → Act → World → Prop} {a : Act} {w : World} (h : Q .normal a w) : LW P [] n Q a w := .skip h

theorem then_normal {K : Act → World → Prop} {Q : Exit → Act → World → Prop} {a : Act} {w : World} (h : K a w) : Exit.then K Q .normal a w := h
theorem then_ne {K : Act → World → Prop} {Q : Exit → Act → World → Prop} {e : Exit} {a : Act} {w : World} (he : e ≠ .normal) : Exit.then K Q e a w = Q e a w := by
  cases e <;> first | rfl | exact absurd rfl he

theorem nwp_sq_cons {c : Code} {cs : List Code} {Q : Exit → Act → World → Prop} {a : Act} {w : World} (h : NWP P c (Exit.then (NWP P (sq cs) Q) Q) a w) : NWP P (sq (c :: cs)) Q a w := by
  cases cs with
  | nil =>
    refine .mono h fun e a w hq => ?_
    cases e with
    | normal => exact nwp_skip_inv hq rfl
    | _ => exact hq
  | cons d ds => exact .seq h (fun a w hq => hq) (fun e a w he hq => by rw [then_ne he] at hq; exact hq)

theorem LW_cons {x : GC} {r : List GC} {n : Nat} {Q : Exit → Act → World → Prop} {a : Act} {w : World} (h : NWP P (x n).1 (Exit.then (LW P r (x n).2 Q) Q) a w) : LW P (x :: r) n Q a w :=
  nwp_sq_cons h

theorem nwp_gS {l : List GC} {n : Nat} {Q : Exit → Act → World → Prop} {a : Act} {w : World} (h : LW P l n Q a w) : NWP P (gS l n).1 Q a w := h

/-- what a piece's slots are: from n on, n only grows -/
def Up (x : GC) : Prop := ∀ n, n ≤ (x n).2
theorem up_ops (k : Nat) (f : Nat → List Oper) : Up (gOps k f) := fun n => Nat.le_add_right n k
theorem up_code (c : Code) : Up (gCode c) := fun n => Nat.le_refl n
theorem up_list {l : List GC} (h : ∀ x ∈ l, Up x) : ∀ n, n ≤ (gL l n).2 := by
  induction l with
  | nil => intro n; exact Nat.le_refl n
  | cons x l ih => intro n; exact Nat.le_trans (h x (by simp) n) (ih (fun y hy => h y (by simp [hy])) _)
theorem up_gS {l : List GC} (h : ∀ x ∈ l, Up x) : Up (gS l) := fun n => up_list h n
theorem up_if {t k : Nat} {ops : Nat → List Oper} {A B : GC} (hA : Up A) (hB : Up B) : Up (gIf t k ops A B) := fun n =>
  Nat.le_trans (Nat.le_trans (Nat.le_add_right n k) (hA _)) (hB _)

/-- a region of operations in the text's order -/
theorem nwp_rg {l : List Oper} {K : Act → World → Prop} {Q : Exit → Act → World → Prop} {a : Act} {w : World} (h : wpList P l.toArray (Exit.then K Q) l a w) : NWP P (rg l) (Exit.then K Q) a w := .reg h

/-- what a variable of a type is: of parts or not, how many cells -/
structure VarIs (P : Program) (F : Nat) (agg : Bool) (sz : Nat) : Prop where
  agg : ∀ w, (isAgg F).run P w = .ok agg w
  size : ∀ w, (sizeOf F).run P w = .ok sz w

/-- a field of a struct, by the program's table -/
structure FldIs (P : Program) (T k F off : Nat) (agg : Bool) (sz : Nat) : Prop where
  fld : ∃ fs f, P.underlying T = some (.struct fs) ∧ fs[k]? = some f ∧ f.offset = off ∧ f.type = F
  var : VarIs P F agg sz
  pos : 0 < sz

variable {x m k0 n : Nat} {K : Act → World → Prop} {Q : Exit → Act → World → Prop} {a : Act} {w : World}

theorem s_set {v : Nat} {y : Value} (hv : v = x ∨ (m ≤ v ∧ v < k0)) (hvs : v < a.tmps.size) (h : ∀ a', Pv x m k0 n a a' → a'.get v = y → K a' w) : NWP P (gSet v y n).1 (Exit.then K Q) a w :=
  nwp_rg (wl_assign (wpList_nil (h _ ((Pv.refl _ _ _ _ _).put _ (by omega)) (get_put _ _ _ hvs))))

theorem s_move {y z : Nat} (hz : z = x ∨ (m ≤ z ∧ z < k0)) (hm : m ≤ k0) (hk : k0 ≤ n) (hn : n < a.tmps.size) (hzs : z < a.tmps.size)
    (h : ∀ a', Pv x m k0 n a a' → a'.get z = a.get y → K a' w) : NWP P (gMove y z n).1 (Exit.then K Q) a w := by
  refine nwp_rg (wl_move (wl_assign (wpList_nil ?_)))
  rw [eval_tm, eval_tm, get_put _ _ _ hn]
  exact h _ (((Pv.refl _ _ _ _ _).put _ (by omega)).put _ (by omega)) (get_put _ _ _ (by rw [put_size]; exact hzs))

theorem wl_fld {ops : Array Oper} {Q : Exit → Act → World → Prop} {r : List Oper} {d : Option Nat} {y : Operand} {T k F B O off sz : Nat} {agg : Bool} (hy : a.eval y = .pointer (some ⟨B, O, none⟩)) (hF : FldIs P T k F off agg sz)
    (h : wpList P ops Q r (a.put d (.pointer (some ⟨B, O + off, none⟩))) w) : wpList P ops Q (mk d (.fieldAddr T y k) :: r) a w := by
  obtain ⟨fs, f, h1, h2, h3, h4⟩ := hF.fld
  obtain ⟨q, rfl⟩ : ∃ q, sz = q + 1 := ⟨sz - 1, by have := hF.pos; omega⟩
  exact wl_fieldAddr (n := q) hy h1 h2 h3 (fun w => by rw [h4]; exact hF.var.size w) h

theorem s_load {s v T k F B O off : Nat} (hs : a.get s = .pointer (some ⟨B, O, none⟩)) (hF : FldIs P T k F off false 1) {y : Value} (hy : w.cell? ⟨B, O + off, none⟩ = some y)
    (hv : v = x ∨ (m ≤ v ∧ v < k0)) (hm : m ≤ k0) (hk : k0 ≤ n) (hn : n + 4 ≤ a.tmps.size) (hvs : v < a.tmps.size)
    (h : ∀ a', Pv x m k0 n a a' → a'.get v = y → K a' w) : NWP P (gLoad s v T k F n).1 (Exit.then K Q) a w := by
  refine nwp_rg (wl_move ?_)
  rw [eval_tm, hs]
  refine wl_nilCheck (by rw [eval_tm, get_put _ _ _ (by omega)]) ?_
  refine wl_fld (by rw [eval_tm, get_put _ _ _ (by rw [put_size]; omega)]) hF ?_
  refine wl_load1 (by rw [eval_tm, get_put _ _ _ (by simp only [put_size]; omega)]) (hF.var.agg _) hy ?_
  refine wl_assign (wpList_nil ?_)
  rw [eval_tm, get_put _ _ _ (by simp only [put_size]; omega)]
  exact h _ ((((((Pv.refl _ _ _ _ _).put _ (by omega)).put _ (by omega)).put _ (by omega)).put _ (by omega)).put _ (by omega)) (get_put _ _ _ (by simp only [put_size]; exact hvs))

/-- s.F = v, v of one cell or of many (uu: v lies in memory) -/
theorem s_store {s v T k F B O off sz : Nat} {agg : Bool} {uu : Option Nat} {cs : List Value} {cur : Array Value} {te : TypeId} (hs : a.get s = .pointer (some ⟨B, O, none⟩)) (hF : FldIs P T k F off agg sz)
    (hval : match uu with
      | none => ∃ y, a.get v = y ∧ y.cells.toList = cs
      | some u => VarIs P u true cs.length ∧ ∃ b o, a.get v = .pointer (some ⟨b, o, none⟩) ∧ CellsAt w b o cs)
    (hsz : cs.length = sz) (h1 : ∀ u ∈ cs, u.oneCell' = true) (hB : w.heap[B]? = some (.cells cur te (0, 0))) (hO : O + off + sz ≤ cur.size)
    (hm : m ≤ k0) (hk : k0 ≤ n) (hn : n + 4 ≤ a.tmps.size) (hvn : v < n)
    (h : ∀ a', Pv x m k0 n a a' → K a' (w.setRow B (splice cur (O + off) cs))) : NWP P (gStore uu s v T k F n).1 (Exit.then K Q) a w := by
  refine nwp_rg (wl_move ?_)
  rw [eval_tm, hs]
  have hpv : Pv x m k0 n a (a.put (some n) (.pointer (some ⟨B, O, none⟩))) := (Pv.refl _ _ _ _ _).put _ (by omega)
  -- the value, in slot n + 1
  have key : ∀ y : Value, y.cells.toList = cs → wpList P (#[mk (some n) (.move (tm s)), mk (some (n + 1)) (match uu with | some u => .load u (tm v) | none => .move (tm v)), mk (some (n + 2)) (.nilCheck (tm n)),
      mk (some (n + 3)) (.fieldAddr T (tm (n + 2)) k), mk none (.store F (tm (n + 3)) (tm (n + 1)))]) (Exit.then K Q) [mk (some (n + 2)) (.nilCheck (tm n)), mk (some (n + 3)) (.fieldAddr T (tm (n + 2)) k), mk none (.store F (tm (n + 3)) (tm (n + 1)))]
      ((a.put (some n) (.pointer (some ⟨B, O, none⟩))).put (some (n + 1)) y) w := by
    intro y hy
    refine wl_nilCheck (by rw [eval_tm, get_put_ne _ _ _ _ (by omega), get_put _ _ _ (by omega)]) ?_
    refine wl_fld (by rw [eval_tm, get_put _ _ _ (by simp only [put_size]; omega)]) hF ?_
    refine wl_store (cur := cur) (t := te) (by rw [eval_tm, get_put _ _ _ (by simp only [put_size]; omega)]) (by rw [eval_tm, get_put_ne _ _ _ _ (by omega), get_put_ne _ _ _ _ (by omega), get_put _ _ _ (by simp only [put_size]; omega)]) hy
      (by rw [hsz]; exact hF.var.size w) hB (by rw [hsz]; exact hO) h1 ?_
    exact wpList_nil (h _ (((hpv.put _ (by omega)).put _ (by omega)).put _ (by omega)))
  cases uu with
  | none =>
    obtain ⟨y, hy, hyc⟩ := hval
    refine wl_move ?_
    rw [eval_tm, get_put_ne _ _ _ _ (by omega), hy]
    exact key y hyc
  | some u =>
    obtain ⟨hu, b, o, hb, hc⟩ := hval
    refine wl_loadN (cs := cs) (by rw [eval_tm, get_put_ne _ _ _ _ (by omega), hb]) (hu.agg w) (hu.size w) hc ?_
    exact key (.agg cs.toArray) (by simp [Value.cells])

end
end Go.Proofs.YtmkioomgfdpeiacDoor.Kx

/-
  WHAT THE PACKAGE'S SMALL FUNCTIONS DO, as one record of contracts (KB): the reader's functions, tags. And the statements that call them.
-/
namespace Go.Proofs.YtmkioomgfdpeiacDoor.Kx
open Go

def pfTy : PF → Ty
  | .bool => .prim .bool | .i8 => .prim .i8 | .i16 => .prim .i16 | .u16 => .prim .u16 | .i32 => .prim .i32 | .i64 => .prim .i64 | .uuid => .prim .uuid
  | .str | .cstr => .str none
  | .nstr | .cnstr => .str (some 0)
  | .bytes | .cbytes => .bytes none
  | .nbytes | .cnbytes => .bytes (some 0)

/-- the package's error lies in its variable -/
def ErrAt (g : Nat) (w : World) : Prop := ∃ t x, w.cell? ⟨g, 0, none⟩ = some (.iface t x)
theorem ErrAt.keep {g : Nat} {X : Nat → Prop} {w w' : World} (h : ErrAt g w) (hk : Keeps X w w') (hg : ¬ X g) : ErrAt g w' := by
  obtain ⟨t, x, h⟩ := h
  exact ⟨t, x, hk.cell hg h⟩

def pt (b o : Nat) : Value := .pointer (some ⟨b, o, none⟩)

structure KB (P : Program) (g : G) (av : PF → Bool) (fl : Bool) : Prop where
  mixed : P.follows .mixedOrders = true
  rdE : ∀ p, av p = true → Ent P (g.rd p)
  rdC : ∀ p, av p = true → ∀ (w : World) (S R : Nat) (r : RS), RdS w g.tR S R r → S ≠ R → Calls P (g.rd p) #[pt R 0] w fun e w' =>
    ∃ v, e = .returned v ∧ RdS w' g.tR S R (p.run r).2 ∧ Keeps (· = R) w w' ∧ ∀ X : Nat → Prop, (∀ k, X k → k < w.heap.size) → ¬ X S → LRp w' X (pfTy p) v.cells.toList (p.run r).1
  i8C : av .i8 = true → ∀ (w : World) (S R : Nat) (r : RS), RdS w g.tR S R r → S ≠ R → Calls P (g.rd .i8) #[pt R 0] w fun e w' => e = .returned (.int .i8 (rI 1 r).1) ∧ RdS w' g.tR S R (rI 1 r).2 ∧ Keeps (· = R) w w'
  okE : hasF g.ok = true → Ent P g.ok
  okC : hasF g.ok = true → ∀ (w : World) (S R : Nat) (r : RS), RdS w g.tR S R r → Calls P g.ok #[pt R 0] w fun e w' => e = .returned (.bool (!r.bad)) ∧ Keeps (fun _ => False) w w'
  cmE : Ent P g.complete
  cmC : ∀ (w : World) (S R : Nat) (r : RS), RdS w g.tR S R r → ErrAt g.gErr w → Calls P g.complete #[pt R 0] w fun e w' =>
    Keeps (fun _ => False) w w' ∧ ∃ v, e = .returned v ∧ (r.bad = false → v = .nilIface) ∧ (r.bad = true → ∃ t x, v = .iface t x)
  lenE : hasF g.len = true → Ent P g.len
  lenC : hasF g.len = true → ∀ (w : World) (S R : Nat) (r : RS), RdS w g.tR S R r → S ≠ R → Calls P g.len #[pt R 0] w fun e w' => e = .returned (.int .i32 (rLen false r).1) ∧ RdS w' g.tR S R (rLen false r).2 ∧ Keeps (· = R) w w'
  clenE : fl = true → hasF g.clen = true → Ent P g.clen
  clenC : fl = true → hasF g.clen = true → ∀ (w : World) (S R : Nat) (r : RS), RdS w g.tR S R r → S ≠ R → Calls P g.clen #[pt R 0] w fun e w' => e = .returned (.int .i32 (rLen true r).1) ∧ RdS w' g.tR S R (rLen true r).2 ∧ Keeps (· = R) w w'
  uvE : fl = true → Ent P g.uv
  uvC : fl = true → ∀ (w : World) (S R : Nat) (r : RS), RdS w g.tR S R r → S ≠ R → Calls P g.uv #[pt R 0] w fun e w' => e = .returned (.int .u32 (rUv r).1) ∧ RdS w' g.tR S R (rUv r).2 ∧ Keeps (· = R) w w'
  spanE : fl = true → Ent P g.span
  spanC : fl = true → ∀ (w : World) (S R : Nat) (r : RS) (k : Int), 0 ≤ k → k < 4294967296 → RdS w g.tR S R r → S ≠ R → Calls P g.span #[pt R 0, .int .i64 k] w fun e w' =>
    ∃ v, e = .returned v ∧ RdS w' g.tR S R (rSpan k r).2 ∧ Keeps (· = R) w w' ∧ SrcAt w' S v ⟨(rSpan k r).1.octets, false, (rSpan k r).1.isNul⟩
  tagsE : fl = true → Ent P g.tags
  tagsC : fl = true → ∀ (w : World) (S R : Nat) (r : RS), RdS w g.tR S R r → S ≠ R → S < w.heap.size → Calls P g.tags #[pt R 0] w fun e w' =>
    ∃ m, e = .returned (.agg #[m]) ∧ RdS w' g.tR S R (rTags (rUv r).1 [] (rUv r).2).2 ∧ Keeps (· = R) w w' ∧ ∀ X : Nat → Prop, (∀ k, X k → k < w.heap.size) → ¬ X S → TgRp w' X m (rTags (rUv r).1 [] (rUv r).2).1
  setE : fl = true → Ent P g.set
  /-- Set on the tags at ⟨B, o⟩: a new map there, or the one that is there grows -/
  setC : fl = true → ∀ (w : World) (B o : Nat) (m : Value) (t : List (Nat × Bs)) (k : Nat) (v : Value) (l : Bs) (cur : Array Value) (te : TypeId), k < 4294967296 → w.heap[B]? = some (.cells cur te (0, 0)) → cur[o]? = some m → TgRp w (· = B) m t → SlRp w (· = B) v l →
    Calls P g.set #[pt B o, .int .u32 k, v] w fun e w' => e = .returned (.tuple #[]) ∧ ∃ (q : Nat) (w1 : World), w' = w1 ∧ Keeps (fun b => b = B ∨ b = q) w w' ∧ (m = .map none → q = w.heap.size) ∧ (∀ r, m = .map (some r) → q = r) ∧
      w'.heap[B]? = some (.cells (cur.setIfInBounds o (.map (some q))) te (0, 0)) ∧ ∀ X : Nat → Prop, ¬ X q → (∀ k, X k → k < w.heap.size) → SlRp w (fun k => X k ∨ k = q) v l → TgRp w X m t → TgRp w' X (.map (some q)) (setTag k l t)
  fR : ∃ fs f0 f1, P.underlying g.tR = some (.struct fs) ∧ fs.toList = [f0, f1] ∧ f0.offset = 0 ∧ f1.offset = 1 ∧ VarIs P f0.type false 1 ∧ VarIs P f1.type false 1
  zR : ∀ w, (zeroValue g.tR).run P w = .ok (.agg #[.slice none 0 0, .bool false]) w
  vR : VarIs P g.tR true 2
  uuid : av .uuid = true → VarIs P g.tUuid true 16 ∧ ∀ w, (zeroValue g.tUuid).run P w = .ok (.agg (Array.replicate 16 (.int .u8 0))) w
  tI32 : P.underlying g.tI32 = some (.int .i32)
  tU32 : fl = true → P.underlying g.tU32 = some (.int .u32)
  tInt : P.underlying g.tInt = some (.int .i64)
  vStr : VarIs P g.tStr false 1 ∧ ∀ w, (zeroValue g.tStr).run P w = .ok (.string ⟨#[]⟩) w
  vTags : fl = true → VarIs P g.tTags true 1
  tErr : fl = true → ∃ ms, P.underlying g.tErr = some (.interface ms)

section
variable {P : Program} {x m k0 n : Nat} {K : Act → World → Prop} {Q : Exit → Act → World → Prop} {a : Act} {w : World}

theorem s_call {f b v : Nat} {y : Value} {R : Ending → World → Prop} (hf : Ent P f) (hb : a.get b = y) (hc : Calls P f #[y] w R)
    (hv : v = x ∨ (m ≤ v ∧ v < k0)) (hm : m ≤ k0) (hk : k0 ≤ n) (hn : n < a.tmps.size) (hvs : v < a.tmps.size)
    (h : ∀ e w', R e w' → ∃ z, e = .returned z ∧ ∀ a', Pv x m k0 n a a' → a'.get v = z → K a' w') : NWP P (gCall f b v n).1 (Exit.then K Q) a w := by
  refine nwp_rg (wl_call (vs := #[y]) hf (by simp [eval_tm, hb]) hc fun e w' hR => ?_)
  obtain ⟨z, he, hh⟩ := h e w' hR
  refine ⟨z, he, wl_assign (wpList_nil ?_)⟩
  rw [eval_tm, get_put _ _ _ hn]
  exact hh _ (((Pv.refl _ _ _ _ _).put _ (by omega)).put _ (by omega)) (get_put _ _ _ (by rw [put_size]; exact hvs))

theorem then_then {K : Act → World → Prop} {Q : Exit → Act → World → Prop} {e : Exit} {a : Act} {w : World} (h : Exit.then K (Exit.then K Q) e a w) : Exit.then K Q e a w := by
  cases e <;> exact h

/-- a test on one slot -/
theorem s_ifT {t k : Nat} {ops : Nat → List Oper} {A B : GC} (hops : wpList P (ops n).toArray (Exit.then (fun a' w' => a'.eval (tm (n + t)) = .bool true ∧ NWP P (A (n + k)).1 Q a' w') Q) (ops n) a w) : NWP P (gIf t k ops A B n).1 Q a w :=
  .seq (.reg hops) (fun a' w' h => .condT h.1 h.2) (fun e a w he hq => by rw [then_ne he] at hq; exact hq)
theorem s_ifF {t k : Nat} {ops : Nat → List Oper} {A B : GC} (hops : wpList P (ops n).toArray (Exit.then (fun a' w' => a'.eval (tm (n + t)) = .bool false ∧ NWP P (B (A (n + k)).2).1 Q a' w') Q) (ops n) a w) : NWP P (gIf t k ops A B n).1 Q a w :=
  .seq (.reg hops) (fun a' w' h => .condF h.1 h.2) (fun e a w he hq => by rw [then_ne he] at hq; exact hq)

/-- if isFlexible -/
theorem s_fx {cx : Cx} {A B : GC} {fx : Bool} (hf : a.get cx.fx = .bool fx) (hm : m ≤ k0) (hk : k0 ≤ n) (hn : n < a.tmps.size)
    (h : ∀ a', Pv x m k0 n a a' → if fx then NWP P (A (n + 1)).1 Q a' w else NWP P (B (A (n + 1)).2).1 Q a' w) : NWP P (gFx cx A B n).1 Q a w := by
  have hp : Pv x m k0 n a (a.put (some n) (.bool fx)) := (Pv.refl _ _ _ _ _).put _ (by omega)
  have := h _ hp
  cases fx with
  | true =>
    refine s_ifT (wl_move (wpList_nil ?_))
    rw [eval_tm, hf]
    exact ⟨by rw [eval_tm]; exact get_put _ _ _ hn, by simpa using this⟩
  | false =>
    refine s_ifF (wl_move (wpList_nil ?_))
    rw [eval_tm, hf]
    exact ⟨by rw [eval_tm]; exact get_put _ _ _ hn, by simpa using this⟩

/-- the flag: it is not set -/
theorem s_un {A B : GC} (hf : a.get 2 = .bool false) (hm : m ≤ k0) (hk : k0 ≤ n) (hn : n < a.tmps.size)
    (h : ∀ a', Pv x m k0 n a a' → NWP P (B (A (n + 1)).2).1 Q a' w) : NWP P (gUn A B n).1 Q a w := by
  have hp : Pv x m k0 n a (a.put (some n) (.bool false)) := (Pv.refl _ _ _ _ _).put _ (by omega)
  refine s_ifF (wl_move (wpList_nil ?_))
  rw [eval_tm, hf]
  exact ⟨by rw [eval_tm]; exact get_put _ _ _ hn, h _ hp⟩

/-- a comparison of two integers of one kind -/
theorem run_cmp {op : BinOp} {T : TypeId} {k : IntKind} {p q : Int} {b : Bool} (h : (op = .geq ∧ b = decide (q ≤ p)) ∨ (op = .leq ∧ b = decide (p ≤ q)) ∨ (op = .lss ∧ b = decide (p < q)) ∨ (op = .gtr ∧ b = decide (q < p)) ∨ (op = .eql ∧ b = decide (p = q)) ∨ (op = .neq ∧ b = decide (p ≠ q))) :
    (binOp op T (.int k p) (.int k q)).run P w = .ok (.bool b) w := by
  rcases h with ⟨rfl, rfl⟩ | ⟨rfl, rfl⟩ | ⟨rfl, rfl⟩ | ⟨rfl, rfl⟩ | ⟨rfl, rfl⟩ | ⟨rfl, rfl⟩ <;> simp [binOp, Op.intCmp]
  · exact Bool.beq_eq_decide_eq p q
  · simp [bne, Bool.beq_eq_decide_eq]

theorem wl_cmp {ops : Array Oper} {Q : Exit → Act → World → Prop} {r : List Oper} {d : Option Nat} {op : BinOp} {T : TypeId} {y z : Operand} {k : IntKind} {p q : Int} {b : Bool} (hy : a.eval y = .int k p) (hz : a.eval z = .int k q)
    (hb : (op = .geq ∧ b = decide (q ≤ p)) ∨ (op = .leq ∧ b = decide (p ≤ q)) ∨ (op = .lss ∧ b = decide (p < q)) ∨ (op = .gtr ∧ b = decide (q < p)) ∨ (op = .eql ∧ b = decide (p = q)) ∨ (op = .neq ∧ b = decide (p ≠ q)))
    (h : wpList P ops Q r (a.put d (.bool b)) w) : wpList P ops Q (mk d (.binOp op T y z 0) :: r) a w :=
  wl_bin hy hz (by rcases hb with ⟨rfl, _⟩ | ⟨rfl, _⟩ | ⟨rfl, _⟩ | ⟨rfl, _⟩ | ⟨rfl, _⟩ | ⟨rfl, _⟩ <;> simp) (run_cmp hb) h

theorem yielded_of {ops : Array Oper} {j d : Nat} {o : Oper} {b : Bool} (ho : ops[j]? = some o) (hd : o.dst = some d) (hs : d < a.tmps.size) (hg : a.get d = .bool b) : yielded ops a.tmps j = some b := by
  have : a.tmps[d]? = some (.bool b) := by
    rw [← hg]
    simp [Act.get, hs]
  simp [yielded, ho, hd, this]

theorem wg_run {ops : Array Oper} {Q : Exit → Act → World → Prop} {r : List Oper} {d j : Nat} {op : Op} {b : Bool} (hy : yielded ops a.tmps j = some b) (h : (⟨some d, op, 0, "", #[], some (j, b)⟩ : Oper).wp P a w (wpList P ops Q r) Q) :
    wpList P ops Q (gd d op j b :: r) a w := by
  unfold wpList gd
  rw [if_pos (by simp [Region.wanted, hy])]
  exact .inl h
theorem wg_value {ops : Array Oper} {Q : Exit → Act → World → Prop} {r : List Oper} {d j : Nat} {op : Op} {b : Bool} {v : Value} (hy : yielded ops a.tmps j = some b) (hrun : (execOp a.eval (mk (some d) op)).run P w = .ok (.value v) w)
    (h : wpList P ops Q r (a.put (some d) v) w) : wpList P ops Q (gd d op j b :: r) a w := by
  refine wg_run hy ?_
  unfold Oper.wp
  have : execOp a.eval (⟨some d, op, 0, "", #[], some (j, b)⟩ : Oper) = execOp a.eval (mk (some d) op) := by
    simp only [execOp, mk]
  rw [this, hrun]
  exact h
theorem wg_skip {ops : Array Oper} {Q : Exit → Act → World → Prop} {r : List Oper} {d j : Nat} {op : Op} {b c : Bool} (hy : yielded ops a.tmps j = some c) (hc : c ≠ b) (h : wpList P ops Q r (a.put (some d) undef) w) : wpList P ops Q (gd d op j b :: r) a w := by
  unfold wpList gd
  rw [if_neg (by simp [Region.wanted, hy, hc])]
  exact h
theorem wl_pick {ops : Array Oper} {Q : Exit → Act → World → Prop} {r : List Oper} {d : Option Nat} {c y z : Operand} {b : Bool} (hc : a.eval c = .bool b) (h : wpList P ops Q r (a.put d (if b then a.eval y else a.eval z)) w) : wpList P ops Q (mk d (.pick c y z) :: r) a w := by
  refine wl_value ?_ h
  simp [execOp, mk, hc, asBool]

/-- two tests of integers, the second asked where the first says so -/
theorem wl_and {Q : Exit → Act → World → Prop} {n : Nat} {y1 y2 : Nat} {op1 op2 : BinOp} {T1 T2 : TypeId} {k1 k2 : IntKind} {p1 q1 p2 q2 : Int} {b1 b2 : Bool} (hm : m ≤ k0) (hk : k0 ≤ n) (hn : n + 6 ≤ a.tmps.size) (hy2 : y2 < n)
    (h1 : a.get y1 = .int k1 p1) (h2 : a.get y2 = .int k2 p2)
    (hb1 : (op1 = .geq ∧ b1 = decide (q1 ≤ p1)) ∨ (op1 = .leq ∧ b1 = decide (p1 ≤ q1)) ∨ (op1 = .lss ∧ b1 = decide (p1 < q1)) ∨ (op1 = .gtr ∧ b1 = decide (q1 < p1)) ∨ (op1 = .eql ∧ b1 = decide (p1 = q1)) ∨ (op1 = .neq ∧ b1 = decide (p1 ≠ q1)))
    (hb2 : (op2 = .geq ∧ b2 = decide (q2 ≤ p2)) ∨ (op2 = .leq ∧ b2 = decide (p2 ≤ q2)) ∨ (op2 = .lss ∧ b2 = decide (p2 < q2)) ∨ (op2 = .gtr ∧ b2 = decide (q2 < p2)) ∨ (op2 = .eql ∧ b2 = decide (p2 = q2)) ∨ (op2 = .neq ∧ b2 = decide (p2 ≠ q2)))
    (and : Bool) (y z : Operand) (hyz : y = if and then tm (n + 4) else .const (.bool true)) (hzz : z = if and then .const (.bool false) else tm (n + 4))
    (h : ∀ a', Pv x m k0 n a a' → a'.eval (tm (n + 5)) = .bool (if and then b1 && b2 else b1 || b2) → Q .normal a' w) :
    wpList P [mk (some n) (.move (tm y1)), mk (some (n + 1)) (.binOp op1 T1 (tm n) (ki k1 q1) 0), mk (some (n + 2)) (.move (tm (n + 1))), gd (n + 3) (.move (tm y2)) 2 and,
      gd (n + 4) (.binOp op2 T2 (tm (n + 3)) (ki k2 q2) 0) 2 and, mk (some (n + 5)) (.pick (tm (n + 2)) y z)].toArray Q
      [mk (some n) (.move (tm y1)), mk (some (n + 1)) (.binOp op1 T1 (tm n) (ki k1 q1) 0), mk (some (n + 2)) (.move (tm (n + 1))), gd (n + 3) (.move (tm y2)) 2 and,
      gd (n + 4) (.binOp op2 T2 (tm (n + 3)) (ki k2 q2) 0) 2 and, mk (some (n + 5)) (.pick (tm (n + 2)) y z)] a w := by
  refine wl_move ?_
  rw [eval_tm, h1]
  refine wl_cmp (b := b1) (q := q1) (p := p1) (k := k1) (by rw [eval_tm, get_put _ _ _ (by omega)]) rfl hb1 ?_
  refine wl_move ?_
  rw [eval_tm, get_put _ _ _ (by simp only [put_size]; omega)]
  have hp3 : Pv x m k0 n a (((a.put (some n) (.int k1 p1)).put (some (n + 1)) (.bool b1)).put (some (n + 2)) (.bool b1)) := (((Pv.refl _ _ _ _ _).put _ (by omega)).put _ (by omega)).put _ (by omega)
  generalize hA : ((a.put (some n) (.int k1 p1)).put (some (n + 1)) (.bool b1)).put (some (n + 2)) (.bool b1) = A at hp3 ⊢
  have hsz : A.tmps.size = a.tmps.size := hp3.size
  have hg2 : A.get (n + 2) = .bool b1 := by rw [← hA]; exact get_put _ _ _ (by simp only [put_size]; omega)
  have hgy : A.get y2 = .int k2 p2 := by rw [← hA, get_put_ne _ _ _ _ (by omega), get_put_ne _ _ _ _ (by omega), get_put_ne _ _ _ _ (by omega)]; exact h2
  have hyield : ∀ (A' : Act), A'.tmps.size = A.tmps.size → A'.get (n + 2) = .bool b1 → yielded [mk (some n) (.move (tm y1)), mk (some (n + 1)) (.binOp op1 T1 (tm n) (ki k1 q1) 0), mk (some (n + 2)) (.move (tm (n + 1))), gd (n + 3) (.move (tm y2)) 2 and,
      gd (n + 4) (.binOp op2 T2 (tm (n + 3)) (ki k2 q2) 0) 2 and, mk (some (n + 5)) (.pick (tm (n + 2)) y z)].toArray A'.tmps 2 = some b1 := fun A' hs hg =>
    yielded_of (d := n + 2) (o := mk (some (n + 2)) (.move (tm (n + 1)))) rfl rfl (by rw [hs, hsz]; omega) hg
  by_cases hb : b1 = and
  · subst hb
    refine wg_value (v := .int k2 p2) (hyield A rfl hg2) (by simp only [execOp, mk, eval_tm, hgy]; rfl) ?_
    have hp4 := hp3.put (.int k2 p2) (d := n + 3) (by omega)
    refine wg_value (v := .bool b2) (hyield _ (put_size _ _ _) (by rw [get_put_ne _ _ _ _ (by omega)]; exact hg2)) ?_ ?_
    · have he : (A.put (some (n + 3)) (.int k2 p2)).eval (tm (n + 3)) = .int k2 p2 := by rw [eval_tm]; exact get_put _ _ _ (by rw [hsz]; omega)
      have he2 : (A.put (some (n + 3)) (.int k2 p2)).eval (ki k2 q2) = .int k2 q2 := rfl
      have hg : (eqGuard op2 T2 (tm (n + 3)) (ki k2 q2) (.int k2 p2) (.int k2 q2)).run P w = .ok () w := by unfold eqGuard; cases op2 <;> simp
      simp only [execOp, mk, he, he2, Sem.run_bind, hg, Result.andThen_ok, run_cmp hb2, Sem.run_pure]
    · have hp5 := hp4.put (.bool b2) (d := n + 4) (by omega)
      refine wl_pick (b := b1) (by rw [eval_tm, get_put_ne _ _ _ _ (by omega), get_put_ne _ _ _ _ (by omega)]; exact hg2) (wpList_nil ?_)
      refine h _ (hp5.put _ (by omega)) ?_
      rw [eval_tm, get_put _ _ _ (by simp only [put_size]; rw [hsz]; omega)]
      subst hyz hzz
      have hg4 : ((A.put (some (n + 3)) (.int k2 p2)).put (some (n + 4)) (.bool b2)).eval (tm (n + 4)) = .bool b2 := by rw [eval_tm]; exact get_put _ _ _ (by simp only [put_size]; rw [hsz]; omega)
      cases b1 <;> simp [hg4]
  · refine wg_skip (hyield A rfl hg2) hb ?_
    refine wg_skip (hyield _ (put_size _ _ _) (by rw [get_put_ne _ _ _ _ (by omega)]; exact hg2)) hb ?_
    have hp5 := (hp3.put undef (d := n + 3) (by omega)).put undef (d := n + 4) (by omega)
    refine wl_pick (b := b1) (by rw [eval_tm, get_put_ne _ _ _ _ (by omega), get_put_ne _ _ _ _ (by omega)]; exact hg2) (wpList_nil ?_)
    refine h _ (hp5.put _ (by omega)) ?_
    rw [eval_tm, get_put _ _ _ (by simp only [put_size]; rw [hsz]; omega)]
    subst hyz hzz
    cases b1 <;> cases and <;> simp_all <;> rfl

/-- if version >= lo (&& version <= hi) -/
theorem s_guard {g : G} {cx : Cx} {lo : Nat} {hi : Option Nat} {A : GC} {ver : Int} (hv : a.get cx.ver = .int .i16 ver) (hm : m ≤ k0) (hk : k0 ≤ n) (hcx : cx.ver < n) (hA : Up A) (hn : (gGuard g cx lo hi A n).2 ≤ a.tmps.size)
    (h : ∀ a' n', Pv x m k0 n a a' → n ≤ n' → n' ≤ n + 6 → (gGuard g cx lo hi A n).2 = (A n').2 → has lo hi ver = true → NWP P (A n').1 Q a' w) (hno : ∀ a', Pv x m k0 n a a' → has lo hi ver = false → Q .normal a' w) : NWP P (gGuard g cx lo hi A n).1 Q a w := by
  have hck : ∀ (v : Int), a.eval (ki .i16 v) = .int .i16 v := fun v => rfl
  cases hi with
  | none =>
    by_cases h0 : lo = 0
    · subst h0
      simp only [gGuard, if_true]
      exact h a n (Pv.refl _ _ _ _ _) (Nat.le_refl _) (by omega) (by simp [gGuard]) (by simp [has])
    · simp only [gGuard, if_neg h0, gIf, gSkip, gCode] at hn
      have := hA (n + 2)
      simp only [gGuard, if_neg h0]
      by_cases hlo : (lo : Int) ≤ ver
      · refine s_ifT (wl_move ?_)
        rw [eval_tm, hv]
        refine wl_cmp (b := true) (q := lo) (p := ver) (k := .i16) (by rw [eval_tm, get_put _ _ _ (by omega)]) rfl (.inl ⟨rfl, by simp; omega⟩) (wpList_nil ?_)
        exact ⟨by rw [eval_tm, get_put _ _ _ (by simp only [put_size]; omega)], h _ (n + 2) (((Pv.refl _ _ _ _ _).put _ (by omega)).put _ (by omega)) (by omega) (by omega) (by simp [gGuard, h0, gIf, gSkip, gCode]) (by simp [has, hlo])⟩
      · refine s_ifF (wl_move ?_)
        rw [eval_tm, hv]
        refine wl_cmp (b := false) (q := lo) (p := ver) (k := .i16) (by rw [eval_tm, get_put _ _ _ (by omega)]) rfl (.inl ⟨rfl, by simp; omega⟩) (wpList_nil ?_)
        exact ⟨by rw [eval_tm, get_put _ _ _ (by simp only [put_size]; omega)], .skip (hno _ (((Pv.refl _ _ _ _ _).put _ (by omega)).put _ (by omega)) (by simp [has, hlo, h0]))⟩
  | some hh =>
    simp only [gGuard, gIf, gSkip, gCode] at hn
    have := hA (n + 6)
    replace hn : n + 6 ≤ a.tmps.size := by omega
    have key : ∀ (b : Bool), b = (decide ((lo : Int) ≤ (ver : Int)) && decide ((ver : Int) ≤ (hh : Int))) → has lo (some hh) ver = b := by
      intro b hb
      rw [hb]
      simp [has]
    by_cases hin : (lo : Int) ≤ ver ∧ ver ≤ (hh : Int)
    · refine s_ifT (wl_and (b1 := true) (b2 := true) (x := x) (m := m) (k0 := k0) hm hk hn hcx hv hv (.inl ⟨rfl, by simp; omega⟩) (.inr (.inl ⟨rfl, by simp; omega⟩)) true _ _ rfl rfl fun a' hp he => ?_)
      exact ⟨by simpa using he, h a' (n + 6) hp (by omega) (by omega) (by simp [gGuard, gIf, gSkip, gCode]) (by simp [has]; omega)⟩
    · refine s_ifF (wl_and (b1 := decide ((lo : Int) ≤ (ver : Int))) (b2 := decide ((ver : Int) ≤ (hh : Int))) (x := x) (m := m) (k0 := k0) hm hk hn hcx hv hv (.inl ⟨rfl, rfl⟩) (.inr (.inl ⟨rfl, rfl⟩)) true _ _ rfl rfl fun a' hp he => ?_)
      refine ⟨?_, .skip (hno a' hp (by simp [has]; omega))⟩
      rw [he]
      simp
      omega

end
end Go.Proofs.YtmkioomgfdpeiacDoor.Kx

/-
  THE READER IS SOUND: the printed code of a plan, run in memory, does what the plan's plain reader says.
-/
namespace Go.Proofs.YtmkioomgfdpeiacDoor.Kx
open Go

/-- what a piece may change: the reader R, the block B (and of that its places Z), and what is new -/
structure Evo (R B : Nat) (Z : Nat → Prop) (w w' : World) : Prop where
  keeps : Keeps (fun k => k = R ∨ k = B) w w'
  blk : ∀ cs te, w.heap[B]? = some (.cells cs te (0, 0)) → ∃ cs', w'.heap[B]? = some (.cells cs' te (0, 0)) ∧ cs'.size = cs.size ∧ ∀ j, ¬ Z j → cs'[j]? = cs[j]?

theorem Evo.refl (R B : Nat) (Z : Nat → Prop) (w : World) : Evo R B Z w w := ⟨Keeps.refl _ _, fun cs _ h => ⟨cs, h, rfl, fun _ _ => rfl⟩⟩
theorem Evo.trans {R B : Nat} {Z : Nat → Prop} {a b c : World} (h : Evo R B Z a b) (k : Evo R B Z b c) : Evo R B Z a c :=
  ⟨h.keeps.trans k.keeps, fun cs te hc => by
    obtain ⟨c1, h1, h2, h3⟩ := h.blk cs te hc
    obtain ⟨c2, k1, k2, k3⟩ := k.blk c1 te h1
    exact ⟨c2, k1, k2.trans h2, fun j hj => (k3 j hj).trans (h3 j hj)⟩⟩
theorem Evo.mono {R B : Nat} {Z Z' : Nat → Prop} {a b : World} (h : Evo R B Z a b) (hz : ∀ j, Z j → Z' j) : Evo R B Z' a b :=
  ⟨h.keeps, fun cs te hc => by
    obtain ⟨c1, k1, k2, k3⟩ := h.blk cs te hc
    exact ⟨c1, k1, k2, fun j hj => k3 j fun hh => hj (hz j hh)⟩⟩
theorem Evo.of_keeps {X : Nat → Prop} {R B : Nat} {Z : Nat → Prop} {w w' : World} (h : Keeps X w w') (hx : ∀ k, k < w.heap.size → X k → k = R) (hB : B ≠ R) : Evo R B Z w w' :=
  ⟨h.mono fun k hk hX => .inl (hx k hk hX), fun cs te hc => ⟨cs, by
    have hlt : B < w.heap.size := (Array.getElem?_eq_some_iff.1 hc).1
    rw [h.block B hlt fun hX => hB (hx B hlt hX)]; exact hc, rfl, fun _ _ => rfl⟩⟩
theorem Evo.store {R B lo : Nat} {Z : Nat → Prop} {w : World} {cur : Array Value} {te : TypeId} {cs : List Value} (hB : w.heap[B]? = some (.cells cur te (0, 0))) (hs : lo + cs.length ≤ cur.size) (hz : ∀ j, lo ≤ j → j < lo + cs.length → Z j) :
    Evo R B Z w (w.setRow B (splice cur lo cs)) := by
  refine ⟨Keeps.setRow _ w B _ (.inr rfl), fun c te' hc => ?_⟩
  rw [hB] at hc
  obtain ⟨rfl, rfl, _⟩ := Obj.cells.inj (Option.some.inj hc)
  refine ⟨_, setRow_heap w B cur _ te (0, 0) hB, splice_size hs, fun j hj => splice_out hs j ?_⟩
  rcases Nat.lt_or_ge j lo with h | h
  · exact .inl h
  · rcases Nat.lt_or_ge j (lo + cs.length) with h2 | h2
    · exact absurd (hz j h h2) hj
    · exact .inr h2
theorem Evo.cell {R B : Nat} {Z : Nat → Prop} {w w' : World} (h : Evo R B Z w w') {cs : Array Value} {te : TypeId} (hB : w.heap[B]? = some (.cells cs te (0, 0))) {j : Nat} (hj : ¬ Z j) : w'.cell? ⟨B, j, none⟩ = w.cell? ⟨B, j, none⟩ := by
  obtain ⟨c1, k1, _, k3⟩ := h.blk cs te hB
  simp [World.cell?, hB, k1, k3 j hj]

/-- something said of a world for every set of blocks that were there at w0, but for the source -/
def Far (w0 : World) (S : Nat) (T : (Nat → Prop) → Prop) : Prop := ∀ X : Nat → Prop, (∀ k, X k → k < w0.heap.size) → ¬ X S → T X

/-- a thing beside the places that were changed is kept -/
theorem Rp.evo {w0 : World} {S R B : Nat} {Z : Nat → Prop} {w w' : World} (h : Evo R B Z w w') (hR : R < w0.heap.size) (hB0 : B < w0.heap.size) (hRS : R ≠ S) (hBS : B ≠ S) {ty : Ty} {o : Nat} {v : V} (hv : Far w0 S fun X => Rp w X ty B o v)
    (hd : ∀ j, o ≤ j → j < o + ty.sz → ¬ Z j) {cs : Array Value} {te : TypeId} (hB : w.heap[B]? = some (.cells cs te (0, 0))) : Far w0 S fun X => Rp w' X ty B o v := by
  intro X hX hS
  have h1 := hv (fun k => X k ∨ k = R ∨ k = B) (fun k hk => by rcases hk with hk | rfl | rfl <;> first | exact hX k hk | assumption) (fun hk => by rcases hk with hk | hk | hk <;> first | exact hS hk | exact hRS hk.symm | exact hBS hk.symm)
  have h2 := Rp.frame (h.keeps.mono fun k _ hk => .inr hk) ty B o v h1 fun j h3 h4 => h.cell hB (hd j h3 h4)
  exact Rp.mono (fun k _ hk => .inl hk) ty B o v h2

/-- the slots that a part of the code leans on -/
structure CxOk (cx : Cx) (m k0 : Nat) : Prop where
  b : cx.b < m ∧ cx.b ≠ 6
  s : cx.s < m ∧ cx.s ≠ 6
  ver : cx.ver < m ∧ cx.ver ≠ 6
  fx : cx.fx < m ∧ cx.fx ≠ 6
  six : 6 < m
  le : m ≤ k0

/-- what holds where a part of the code begins -/
structure RC (g : G) (cx : Cx) (fx : Bool) (ver : Int) (S R B O : Nat) (r : RS) (a : Act) (w : World) : Prop where
  rd : RdS w g.tR S R r
  sb : a.get cx.b = pt R 0
  ss : a.get cx.s = pt B O
  sv : a.get cx.ver = .int .i16 ver
  sf : cx.hf = true → a.get cx.fx = .bool fx
  nf : cx.hf = false → fx = false
  su : a.get 2 = .bool false
  err : ErrAt g.gErr w
  SR : S ≠ R
  BR : B ≠ R
  BS : B ≠ S
  gR : g.gErr ≠ R
  gB : g.gErr ≠ B
  Slt : S < w.heap.size

theorem RC.step {g : G} {cx : Cx} {fx : Bool} {ver : Int} {S R B O : Nat} {r r' : RS} {a a' : Act} {w w' : World} {m k0 n : Nat} {X : Nat → Prop} (h : RC g cx fx ver S R B O r a w) (hc : CxOk cx m k0) (hp : Pv 6 m k0 n a a') (hr : RdS w' g.tR S R r')
    (hk : Keeps X w w') (hX : ∀ k, k < w.heap.size → X k → k = R ∨ k = B) : RC g cx fx ver S R B O r' a' w' := by
  obtain ⟨t, x, he⟩ := h.err
  exact ⟨hr, (hp.get _ hc.b.2 (.inl hc.b.1)).trans h.sb, (hp.get _ hc.s.2 (.inl hc.s.1)).trans h.ss, (hp.get _ hc.ver.2 (.inl hc.ver.1)).trans h.sv, fun hf => (hp.get _ hc.fx.2 (.inl hc.fx.1)).trans (h.sf hf), h.nf,
    (hp.get 2 (by omega) (.inl (by have := hc.six; omega))).trans h.su, ErrAt.keep ⟨t, x, he⟩ hk (fun hx => by
      rcases hX _ (lt_of_cell he) hx with e | e
      · exact h.gR e
      · exact h.gB e), h.SR, h.BR, h.BS, h.gR, h.gB, Nat.lt_of_lt_of_le h.Slt hk.size⟩

/-- a value of a type without parts, where it stands before it is stored -/
def ValAt (w : World) (a : Act) (uu : Option Nat) (v : Nat) (cs : List Value) : Prop :=
  match uu with
  | none => ∃ y, a.get v = y ∧ y.cells.toList = cs
  | some _ => ∃ b o, a.get v = .pointer (some ⟨b, o, none⟩) ∧ CellsAt w b o cs

def okVal (av : PF → Bool) (hf : Bool) : Ty → Bool
  | .prim p => av (primPF p)
  | .str none => av .str && (!hf || av .cstr)
  | .str (some 0) => av .nstr && (!hf || av .cnstr)
  | .str (some (_ + 1)) => false && av .str && av .nstr && (!hf || (av .cstr && av .cnstr))
  | .bytes none => av .bytes && (!hf || av .cbytes)
  | .bytes (some 0) => av .nbytes && (!hf || av .cnbytes)
  | _ => false

theorem LRp.str_any {w : World} {X : Nat → Prop} {m m' : Nat} {cs : List Value} {v : V} (h : LRp w X (.str (some m)) cs v) : LRp w X (.str (some m')) cs v := h
theorem LRp.bytes_any {w : World} {X : Nat → Prop} {m m' : Option Nat} {cs : List Value} {v : V} (h : LRp w X (.bytes m) cs v) : LRp w X (.bytes m') cs v := h

section
variable {P : Program} {g : G} {av : PF → Bool} {fl : Bool} {cx : Cx} {fx : Bool} {ver : Int} {S R B O : Nat} {r : RS} {m k0 n : Nat} {Q : Exit → Act → World → Prop} {a : Act} {w : World}

/-- what a call of a reading function gives -/
def Got (g : G) (S R : Nat) (p : PF) (ty : Ty) (r : RS) (w : World) (val : Value) (w' : World) : Prop :=
  RdS w' g.tR S R (p.run r).2 ∧ Keeps (· = R) w w' ∧ ∀ X : Nat → Prop, (∀ k, X k → k < w.heap.size) → ¬ X S → LRp w' X ty val.cells.toList (p.run r).1

theorem s_rd (K : KB P g av fl) {K' : Act → World → Prop} {p : PF} (hp : av p = true) (hrc : RC g cx fx ver S R B O r a w) {v : Nat} (hv : m ≤ v ∧ v < k0) (hm : m ≤ k0) (hk : k0 ≤ n) (hn : n < a.tmps.size) (hvs : v < a.tmps.size)
    (h : ∀ a' w' val, Pv 6 m k0 n a a' → a'.get v = val → Got g S R p (pfTy p) r w val w' → K' a' w') : NWP P (gCall (g.rd p) cx.b v n).1 (Exit.then K' Q) a w := by
  refine s_call (x := 6) (m := m) (k0 := k0) (K.rdE p hp) hrc.sb (K.rdC p hp w S R r hrc.rd hrc.SR) (.inr hv) hm hk hn hvs fun e w' hR => ?_
  obtain ⟨val, he, h1, h2, h3⟩ := hR
  exact ⟨val, he, fun a' hp hg => h a' w' val hp hg ⟨h1, h2, h3⟩⟩

/-- the same where the text parts at isFlexible -/
theorem s_rdFx (K : KB P g av fl) {K' : Act → World → Prop} {p q : PF} (hp : av p = true) (hq : av q = true) (hhf : cx.hf = true) (hrc : RC g cx fx ver S R B O r a w) (hc : CxOk cx m k0) {v : Nat} (hv : m ≤ v ∧ v < k0) (hk : k0 ≤ n) (hn : n + 3 ≤ a.tmps.size) (hvs : v < a.tmps.size)
    (h : ∀ a' w' val, Pv 6 m k0 n a a' → a'.get v = val → Got g S R (if fx then p else q) (pfTy (if fx then p else q)) r w val w' → K' a' w') :
    NWP P (gFx cx (gCall (g.rd p) cx.b v) (gCall (g.rd q) cx.b v) n).1 (Exit.then K' Q) a w := by
  refine s_fx (x := 6) (m := m) (k0 := k0) (fx := fx) (hrc.sf hhf) hc.le hk (by omega) fun a' hp' => ?_
  have hrc' : RC g cx fx ver S R B O r a' w := hrc.step hc hp' hrc.rd (Keeps.refl (fun _ => False) w) (fun _ _ h => h.elim)
  have hsz := hp'.size
  cases fx with
  | true =>
    simp only [if_true] at h ⊢
    exact s_rd K hp hrc' hv hc.le (by omega : k0 ≤ n + 1) (by omega) (by omega) fun a2 w2 val h1 h2 h3 => h a2 w2 val (hp'.trans (h1.mono (Nat.le_refl _) (by omega))) h2 h3
  | false =>
    simp only [Bool.false_eq_true, if_false] at h ⊢
    exact s_rd K hq hrc' hv hc.le (by simp [gCall, gOps]; omega) (by simp [gCall, gOps]; omega) (by omega) fun a2 w2 val h1 h2 h3 => h a2 w2 val (hp'.trans (h1.mono (Nat.le_refl _) (by simp [gCall, gOps]; omega))) h2 h3

/-- a text that may be null, by the version's form -/
theorem s_nstr (K : KB P g av fl) {K' : Act → World → Prop} (hp : av .nstr = true) (hq : cx.hf = true → av .cnstr = true) (hrc : RC g cx fx ver S R B O r a w) (hc : CxOk cx m k0) {v : Nat} (hv : m ≤ v ∧ v < k0) (hk : k0 ≤ n)
    (hn : ((if cx.hf then gFx cx (gUn (gCall (g.un .cnstr) cx.b v) (gCall (g.rd .cnstr) cx.b v)) (gUn (gCall (g.un .nstr) cx.b v) (gCall (g.rd .nstr) cx.b v)) else gUn (gCall (g.un .nstr) cx.b v) (gCall (g.rd .nstr) cx.b v) : GC) n).2 ≤ a.tmps.size) (hvs : v < a.tmps.size)
    (h : ∀ a' w' val, Pv 6 m k0 n a a' → a'.get v = val → Got g S R (strPF true fx) (.str (some 0)) r w val w' → K' a' w') :
    NWP P ((if cx.hf then gFx cx (gUn (gCall (g.un .cnstr) cx.b v) (gCall (g.rd .cnstr) cx.b v)) (gUn (gCall (g.un .nstr) cx.b v) (gCall (g.rd .nstr) cx.b v)) else gUn (gCall (g.un .nstr) cx.b v) (gCall (g.rd .nstr) cx.b v) : GC) n).1 (Exit.then K' Q) a w := by
  cases hhf : cx.hf with
  | true =>
    simp only [hhf, if_true, gFx, gUn, gIf, gCall, gOps] at hn
    simp only [if_true]
    refine s_fx (x := 6) (m := m) (k0 := k0) (fx := fx) (hrc.sf hhf) hc.le hk (by omega) fun a1 hp1 => ?_
    have hs1 := hp1.size
    have hrc1 : RC g cx fx ver S R B O r a1 w := hrc.step hc hp1 hrc.rd (Keeps.refl (fun _ => False) w) (fun _ _ h => h.elim)
    cases fx with
    | true =>
      simp only [if_true]
      refine s_un (x := 6) (m := m) (k0 := k0) hrc1.su hc.le (by omega) (by omega) fun a2 hp2 => ?_
      have hs2 := hp2.size
      have hrc2 : RC g cx true ver S R B O r a2 w := hrc1.step hc hp2 hrc1.rd (Keeps.refl (fun _ => False) w) (fun _ _ h => h.elim)
      simp only [gCall, gOps] at hp2 ⊢
      exact s_rd K (hq hhf) hrc2 hv hc.le (by omega) (by omega) (by omega) fun a3 w3 val h1 h2 h3 => h a3 w3 val ((hp1.trans (hp2.mono (Nat.le_refl _) (by omega))).trans (h1.mono (Nat.le_refl _) (by omega))) h2 h3
    | false =>
      simp only [Bool.false_eq_true, if_false]
      refine s_un (x := 6) (m := m) (k0 := k0) hrc1.su hc.le (by simp [gUn, gIf, gCall, gOps]; omega) (by simp [gUn, gIf, gCall, gOps]; omega) fun a2 hp2 => ?_
      have hs2 := hp2.size
      have hrc2 : RC g cx false ver S R B O r a2 w := hrc1.step hc hp2 hrc1.rd (Keeps.refl (fun _ => False) w) (fun _ _ h => h.elim)
      simp only [gUn, gIf, gCall, gOps] at hp2 ⊢
      exact s_rd K hp hrc2 hv hc.le (by omega) (by omega) (by omega) fun a3 w3 val h1 h2 h3 => h a3 w3 val ((hp1.trans (hp2.mono (Nat.le_refl _) (by omega))).trans (h1.mono (Nat.le_refl _) (by omega))) h2 h3
  | false =>
    have hfx := hrc.nf hhf
    subst hfx
    simp only [hhf, Bool.false_eq_true, if_false, gUn, gIf, gCall, gOps] at hn
    simp only [Bool.false_eq_true, if_false]
    refine s_un (x := 6) (m := m) (k0 := k0) hrc.su hc.le hk (by omega) fun a2 hp2 => ?_
    have hs2 := hp2.size
    have hrc2 : RC g cx false ver S R B O r a2 w := hrc.step hc hp2 hrc.rd (Keeps.refl (fun _ => False) w) (fun _ _ h => h.elim)
    simp only [gCall, gOps] at hp2 ⊢
    exact s_rd K hp hrc2 hv hc.le (by omega) (by omega) (by omega) fun a3 w3 val h1 h2 h3 => h a3 w3 val (hp2.trans (h1.mono (Nat.le_refl _) (by omega))) h2 h3

/-- a text is read into a variable that lies in memory -/
theorem s_rdBox (K : KB P g av fl) {K' : Act → World → Prop} {p : PF} (hp : av p = true) (hpt : pfTy p = .str none) (hrc : RC g cx fx ver S R B O r a w) {vv q : Nat} {cur : Array Value} (hvv : a.get vv = pt q 0) (hq : w.heap[q]? = some (.cells cur g.tStr (0, 0))) (hqs : cur.size = 1) (hqR : q ≠ R) (hqS : q ≠ S)
    (hm : m ≤ k0) (hk : k0 ≤ n) (hvn : vv < n) (hn : n < a.tmps.size)
    (h : ∀ a' w', Pv 6 m k0 n a a' → (∃ l : Bs, (p.run r).1 = .s l ∧ l.length ≤ maxLen ∧ w'.cell? ⟨q, 0, none⟩ = some (.string ⟨l.toArray⟩)) → RdS w' g.tR S R (p.run r).2 → Keeps (fun k => k = R ∨ k = q) w w' → K' a' w') :
    NWP P (gOps 1 (fun n => [cl (some n) (g.rd p) [tm cx.b], mk none (.store g.tStr (tm vv) (tm n))]) n).1 (Exit.then K' Q) a w := by
  refine nwp_rg (wl_call (vs := #[pt R 0]) (K.rdE p hp) (by simp [eval_tm, hrc.sb]) (K.rdC p hp w S R r hrc.rd hrc.SR) fun e w' hR => ?_)
  obtain ⟨val, he, h1, h2, h3⟩ := hR
  refine ⟨val, he, ?_⟩
  have hl := h3 (fun _ => False) (fun _ h => h.elim) (fun h => h.elim)
  rw [hpt] at hl
  obtain ⟨l, hl1, hl2, hl3⟩ := hl
  have hqlt : q < w.heap.size := (Array.getElem?_eq_some_iff.1 hq).1
  have hq' : w'.heap[q]? = some (.cells cur g.tStr (0, 0)) := by rw [h2.block q hqlt hqR]; exact hq
  refine wl_store (g := q) (o := 0) (cur := cur) (t := g.tStr) (v := val) (vs := val.cells.toList) ?_ ?_ rfl (by rw [hl1]; exact K.vStr.1.size _) hq' (by rw [hl1]; simp; omega) (by rw [hl1]; simp [Value.oneCell']) (wpList_nil ?_)
  · rw [eval_tm, get_put_ne _ _ _ _ (by omega)]; exact hvv
  · rw [eval_tm, get_put _ _ _ hn]
  · refine h _ _ ((Pv.refl _ _ _ _ _).put _ (by omega)) ⟨l, hl2, hl3, ?_⟩ ?_ ?_
    · rw [cell_setRow_same _ _ _ _ _ _ _ hq', hl1]
      have := splice_in (cur := cur) (o := 0) (vs := [Value.string ⟨l.toArray⟩]) (by simp; omega) 0 (by simp)
      simpa using this
    · have hkS : Keeps (fun k => k = q) w' (w'.setRow q (splice cur 0 val.cells.toList)) := Keeps.setRow _ _ _ _ rfl
      exact h1.keep hkS (Ne.symm hqS) (Ne.symm hqR)
    · have hkS : Keeps (fun k => k = R ∨ k = q) w' (w'.setRow q (splice cur 0 val.cells.toList)) := Keeps.setRow _ _ _ _ (.inr rfl)
      exact (h2.mono fun _ _ h => .inl h).trans hkS

/-- what reading a value of a type without parts gives -/
def leafRun (fx : Bool) (ver : Int) (ty : Ty) (r : RS) : V × RS :=
  match ty with
  | .prim p => (primPF p).run r
  | .str nul => (strPF (nullS nul ver) fx).run r
  | .bytes nul => (bytesPF (nullS nul ver) fx).run r
  | _ => (.nul, r)

theorem rdTy_leaf (fx : Bool) (ver : Int) (ty : Ty) (old : V) (r : RS) (h : ty.leaf = true) : rdTy fx ver ty old r = .ok (leafRun fx ver ty r).1 (leafRun fx ver ty r).2 := by
  cases ty <;> first | rfl | cases h

def slotsOk (m k0 v : Nat) (x : List Nat) : Bool := decide (m ≤ v ∧ v < k0) && x.all fun t => decide (m ≤ t ∧ t < k0) && t != v

/-- behind a value -/
def ValPost (g : G) (S R : Nat) (ty : Ty) (m k0 n v : Nat) (a : Act) (w : World) (res : V × RS) (a' : Act) (w' : World) : Prop :=
  ∃ cs, Pv 6 m k0 n a a' ∧ ValAt w' a' (uuOf g ty) v cs ∧ RdS w' g.tR S R res.2 ∧ Keeps (· = R) w w' ∧ ∀ X : Nat → Prop, (∀ k, X k → k < w.heap.size) → ¬ X S → LRp w' X ty cs res.1

theorem valPost_of_got {p : PF} {ty : Ty} {v : Nat} {a' : Act} {w' : World} {val : Value} {res : V × RS} (hu : uuOf g ty = none) (h1 : Pv 6 m k0 n a a') (h2 : a'.get v = val) (h3 : Got g S R p (pfTy p) r w val w') (hres : res = p.run r)
    (hl : ∀ X cs y, LRp w' X (pfTy p) cs y → LRp w' X ty cs y) : ValPost g S R ty m k0 n v a w res a' w' := by
  subst hres
  refine ⟨val.cells.toList, h1, ?_, h3.1, h3.2.1, fun X hX hS => hl X _ _ (h3.2.2 X hX hS)⟩
  rw [hu]
  exact ⟨val, h2, rfl⟩

theorem splice_whole {cur : Array Value} {cs : List Value} (h : cs.length = cur.size) : splice cur 0 cs = cs.toArray := by
  simp [splice, h]

theorem s_val (K : KB P g av fl) {ty : Ty} {v : Nat} {x : List Nat} {rest : List GC} (hty : okVal av cx.hf ty = true) (hrc : RC g cx fx ver S R B O r a w) (hc : CxOk cx m k0) (hk : k0 ≤ n) (hsl : slotsOk m k0 v x = true) (hk0 : k0 ≤ a.tmps.size)
    (hx : (∃ t, x = [t] ∧ ∃ q, ty = .str (some (q + 1))) ∨ (x = [] ∧ ∀ q, ty ≠ .str (some (q + 1))) ∨ (∃ t u, x = [t, u] ∧ ∃ p, ty = .prim p ∧ p ≠ .uuid))
    (hN : (gL (gVal g cx ty v x) n).2 ≤ a.tmps.size)
    (h : ∀ a' w', ValPost g S R ty m k0 n v a w (leafRun fx ver ty r) a' w' → LW P rest (gL (gVal g cx ty v x) n).2 Q a' w') :
    LW P (gVal g cx ty v x ++ rest) n Q a w := by
  have hvm : m ≤ v ∧ v < k0 := by simp only [slotsOk, Bool.and_eq_true, decide_eq_true_eq] at hsl; exact hsl.1
  have hsx : ∀ t ∈ x, (m ≤ t ∧ t < k0) ∧ t ≠ v := fun t ht => by
    simp only [slotsOk, Bool.and_eq_true, decide_eq_true_eq, List.all_eq_true] at hsl
    have := hsl.2 t ht
    simpa using this
  cases ty with
  | list => cases hty
  | struct => cases hty
  | prim p =>
    by_cases hu : p = .uuid
    · subst hu
      rcases hx with ⟨t, rfl, q, hq⟩ | ⟨rfl, _⟩ | ⟨t, u, rfl, p, hp, hne⟩
      · cases hq
      · simp only [okVal, primPF] at hty
        simp only [gVal, gL, gOps] at hN
        refine LW_cons (nwp_rg (wl_call (vs := #[pt R 0]) (K.rdE .uuid hty) (by simp [eval_tm, hrc.sb]) (K.rdC .uuid hty w S R r hrc.rd hrc.SR) fun e w' hR => ?_))
        obtain ⟨val, he, h1, h2, h3⟩ := hR
        refine ⟨val, he, ?_⟩
        obtain ⟨hvU, hzU⟩ := K.uuid hty
        refine wl_alloc (hzU w') ?_
        have hl := (h3 (fun _ => False) (fun _ h => h.elim) (fun h => h.elim)).len
        have hcl : val.cells.toList.length = 16 := by simpa [pfTy, Ty.sz] using hl
        have hone : ∀ y ∈ val.cells.toList, y.oneCell' = true := by
          obtain ⟨l, _, hl2, _⟩ := h3 (fun _ => False) (fun _ h => h.elim) (fun h => h.elim)
          intro y hy
          rw [hl2] at hy
          obtain ⟨b, _, rfl⟩ := List.mem_map.1 hy
          rfl
        have hnew : (w'.alloc (.cells (Value.agg (Array.replicate 16 (.int .u8 0))).cells g.tUuid (0, 0))).heap[w'.heap.size]? = some (.cells (Array.replicate 16 (.int .u8 0)) g.tUuid (0, 0)) := heap_alloc_new w' _
        refine wl_store (g := w'.heap.size) (o := 0) (cur := Array.replicate 16 (.int .u8 0)) (t := g.tUuid) (v := val) (vs := val.cells.toList) ?_ ?_ rfl (by rw [hcl]; exact hvU.size _) hnew (by rw [hcl]; simp) hone (wpList_nil ?_)
        · rw [eval_tm, get_put _ _ _ (by simp only [put_size]; omega)]
        · rw [eval_tm, get_put_ne _ _ _ _ (by omega), get_put _ _ _ (by omega)]
        · have hkA : Keeps (· = R) w' (w'.alloc (.cells (Value.agg (Array.replicate 16 (.int .u8 0))).cells g.tUuid (0, 0))) := Keeps.alloc _ _ _
          have hkS : Keeps (fun k => k = w'.heap.size) (w'.alloc (.cells (Value.agg (Array.replicate 16 (.int .u8 0))).cells g.tUuid (0, 0))) ((w'.alloc (.cells (Value.agg (Array.replicate 16 (.int .u8 0))).cells g.tUuid (0, 0))).setRow w'.heap.size (splice (Array.replicate 16 (.int .u8 0)) 0 val.cells.toList)) :=
            Keeps.setRow _ _ _ _ rfl
          have hk0' : Keeps (fun _ => False) w' ((w'.alloc (.cells (Value.agg (Array.replicate 16 (.int .u8 0))).cells g.tUuid (0, 0))).setRow w'.heap.size (splice (Array.replicate 16 (.int .u8 0)) 0 val.cells.toList)) :=
            ⟨rfl, rfl, rfl, by simp, fun k hkk _ => by rw [setRow_other _ _ _ _ (by omega)]; exact (Keeps.alloc (fun _ => False) w' _).block k hkk id⟩
          refine h _ _ ⟨val.cells.toList, ((Pv.refl _ _ _ _ _).put _ (by omega)).put _ (by omega), ⟨w'.heap.size, 0, get_put _ _ _ (by simp only [put_size]; omega), ?_⟩, ?_, h2.trans (hk0'.mono fun _ _ h => h.elim), fun X hX hS => ?_⟩
          · intro j c hj
            have hjl : j < val.cells.toList.length := (List.getElem?_eq_some_iff.1 hj).1
            rw [cell_setRow_same _ _ _ _ _ _ _ hnew, splice_in (by rw [hcl]; simp) j hjl]
            exact hj
          · exact h1.keep hk0' (fun h => h.elim) (fun h => h.elim)
          · exact (h3 X hX hS).keep (hk0'.mono fun _ _ h => h.elim)
      · cases hp
        exact absurd rfl hne
    · have hgv : ∀ y, LRp y = LRp y := fun _ => rfl
      have huu : uuOf g (.prim p) = none := by cases p <;> first | rfl | exact absurd rfl hu
      have hpt : pfTy (primPF p) = .prim p := by cases p <;> rfl
      have hleaf : leafRun fx ver (.prim p) r = (primPF p).run r := rfl
      rcases hx with ⟨t, rfl, q, hq⟩ | ⟨rfl, _⟩ | ⟨t, u, rfl, p', hp', _⟩
      · cases hq
      · have hval : gVal g cx (.prim p) v [] = [gCall (g.rd (primPF p)) cx.b v] := by cases p <;> first | rfl | exact absurd rfl hu
        rw [hval] at hN h ⊢
        simp only [gL, gCall, gOps] at hN
        refine LW_cons (s_rd K hty hrc hvm hc.le hk (by omega) (by omega) fun a' w' val h1 h2 h3 => h a' w' ?_)
        exact valPost_of_got huu h1 h2 h3 rfl (fun X cs y hh => by rw [← hpt]; exact hh)
      · have hval : gVal g cx (.prim p) v [t, u] = [gSet t (.int .i8 0), gS [gCall (g.rd (primPF p)) cx.b u, gMove u t], gMove t v] := by cases p <;> first | rfl | exact absurd rfl hu
        rw [hval] at hN h ⊢
        obtain ⟨ht, htv⟩ := hsx t (by simp)
        obtain ⟨hu', huv⟩ := hsx u (by simp)
        simp only [gL, gS, gCall, gMove, gSet, gOps] at hN
        refine LW_cons (s_set (x := 6) (m := m) (k0 := k0) (n := n) (.inr ht) (by omega) fun a1 hp1 _ => ?_)
        have hrc1 : RC g cx fx ver S R B O r a1 w := hrc.step hc hp1 hrc.rd (Keeps.refl (fun _ => False) w) (fun _ _ h => h.elim)
        have hs1 := hp1.size
        refine LW_cons (nwp_gS (LW_cons (s_rd K hty hrc1 hu' hc.le (by simpa [gSet, gOps] using hk) (by simp [gSet, gOps]; omega) (by omega) fun a2 w2 val h1 h2 h3 => ?_)))
        have hs2 := h1.size
        refine LW_cons (s_move (x := 6) (m := m) (k0 := k0) (.inr ht) hc.le (by simp [gSet, gOps, gCall]; omega) (by simp [gSet, gOps, gCall]; omega) (by omega) fun a3 hp3 hg3 => LW_nil ?_)
        have hs3 := hp3.size
        refine LW_cons (s_move (x := 6) (m := m) (k0 := k0) (.inr hvm) hc.le (by simp [gS, gL, gSet, gOps, gCall, gMove]; omega) (by simp [gS, gL, gSet, gOps, gCall, gMove]; omega) (by omega) fun a4 hp4 hg4 => h a4 w2 ?_)
        simp only [gSet, gOps, gCall, gS, gL, gMove] at hp1 h1 hp3 hp4
        have hpv : Pv 6 m k0 n a a4 := ((hp1.trans (h1.mono (Nat.le_refl _) (by omega))).trans (hp3.mono (Nat.le_refl _) (by omega))).trans (hp4.mono (Nat.le_refl _) (by omega))
        exact valPost_of_got huu hpv (by rw [hg4, hg3, h2]) h3 rfl (fun X cs y hh => by rw [← hpt]; exact hh)
  | bytes nul =>
    have huu : uuOf g (.bytes nul) = none := rfl
    obtain rfl : x = [] := by
      rcases hx with ⟨t, rfl, q, hq⟩ | ⟨rfl, _⟩ | ⟨t, u, rfl, p', hp', _⟩
      · cases hq
      · rfl
      · cases hp'
    have hnul : nul = none ∨ nul = some 0 := by
      cases nul with
      | none => exact .inl rfl
      | some q => cases q with
        | zero => exact .inr rfl
        | succ q => simp [okVal] at hty
    have hnn : nullS nul ver = nul.isSome := by rcases hnul with rfl | rfl <;> simp [nullS]
    have hav : av (bytesPF nul.isSome false) = true ∧ (cx.hf = true → av (bytesPF nul.isSome true) = true) := by
      rcases hnul with rfl | rfl <;> simp only [okVal, Bool.and_eq_true, Bool.or_eq_true, Bool.not_eq_true'] at hty <;> refine ⟨hty.1, fun hh => ?_⟩ <;> rcases hty.2 with h | h <;> first | (rw [hh] at h; cases h) | exact h
    have hleaf : leafRun fx ver (.bytes nul) r = (bytesPF nul.isSome fx).run r := by simp only [leafRun, hnn]
    have hpt : ∀ (b : Bool) (w : World) X cs y, LRp w X (pfTy (bytesPF nul.isSome b)) cs y → LRp w X (.bytes nul) cs y := by
      intro b w X cs y hh
      rcases hnul with rfl | rfl <;> cases b <;> exact hh
    cases hhf : cx.hf with
    | true =>
      have hval : gVal g cx (.bytes nul) v [] = [gSet v (.slice none 0 0), gFx cx (gCall (g.rd (bytesPF nul.isSome true)) cx.b v) (gCall (g.rd (bytesPF nul.isSome false)) cx.b v)] := by simp [gVal, hhf]
      rw [hval] at hN h ⊢
      simp only [gL, gFx, gIf, gCall, gSet, gOps] at hN
      refine LW_cons (s_set (x := 6) (m := m) (k0 := k0) (n := n) (.inr hvm) (by omega) fun a1 hp1 _ => ?_)
      have hrc1 : RC g cx fx ver S R B O r a1 w := hrc.step hc hp1 hrc.rd (Keeps.refl (fun _ => False) w) (fun _ _ h => h.elim)
      have hs1 := hp1.size
      refine LW_cons (s_rdFx K (hav.2 hhf) hav.1 hhf hrc1 hc hvm (by simpa [gSet, gOps] using hk) (by simp [gSet, gOps]; omega) (by omega) fun a2 w2 val h1 h2 h3 => h a2 w2 ?_)
      simp only [gSet, gOps] at h1
      have e : (if fx = true then bytesPF nul.isSome true else bytesPF nul.isSome false) = bytesPF nul.isSome fx := by cases fx <;> rfl
      rw [e] at h3
      exact valPost_of_got huu (hp1.trans h1) h2 h3 hleaf (hpt fx w2)
    | false =>
      have hfx := hrc.nf hhf
      subst hfx
      have hval : gVal g cx (.bytes nul) v [] = [gCall (g.rd (bytesPF nul.isSome false)) cx.b v] := by simp [gVal, hhf]
      rw [hval] at hN h ⊢
      simp only [gL, gCall, gOps] at hN
      exact LW_cons (s_rd K hav.1 hrc hvm hc.le hk (by omega) (by omega) fun a' w' val h1 h2 h3 => h a' w' (valPost_of_got huu h1 h2 h3 hleaf (hpt false w')))
  | str nul =>
    have huu : uuOf g (.str nul) = none := rfl
    cases nul with
    | none =>
      obtain rfl : x = [] := by
        rcases hx with ⟨t, rfl, q, hq⟩ | ⟨rfl, _⟩ | ⟨t, u, rfl, p', hp', _⟩
        · cases hq
        · rfl
        · cases hp'
      have hleaf : leafRun fx ver (.str none) r = (strPF false fx).run r := rfl
      simp only [okVal, Bool.and_eq_true, Bool.or_eq_true, Bool.not_eq_true'] at hty
      have hpt : ∀ (b : Bool) (w : World) X cs y, LRp w X (pfTy (strPF false b)) cs y → LRp w X (.str none) cs y := by
        intro b w X cs y hh
        cases b <;> exact hh
      cases hhf : cx.hf with
      | true =>
        have hval : gVal g cx (.str none) v [] = [gSet v (.string ⟨#[]⟩), gUn (gFx cx (gCall (g.un .cstr) cx.b v) (gCall (g.un .str) cx.b v)) (gFx cx (gCall (g.rd .cstr) cx.b v) (gCall (g.rd .str) cx.b v))] := by simp [gVal, hhf]
        rw [hval] at hN h ⊢
        simp only [gL, gUn, gFx, gIf, gCall, gSet, gOps] at hN
        have hav : av .cstr = true := by rcases hty.2 with h | h; rw [hhf] at h; cases h; exact h
        refine LW_cons (s_set (x := 6) (m := m) (k0 := k0) (n := n) (.inr hvm) (by omega) fun a1 hp1 _ => ?_)
        have hrc1 : RC g cx fx ver S R B O r a1 w := hrc.step hc hp1 hrc.rd (Keeps.refl (fun _ => False) w) (fun _ _ h => h.elim)
        have hs1 := hp1.size
        refine LW_cons (s_un (x := 6) (m := m) (k0 := k0) hrc1.su hc.le (by simpa [gSet, gOps] using hk) (by simp [gSet, gOps]; omega) fun a2 hp2 => ?_)
        have hs2 := hp2.size
        have hrc2 : RC g cx fx ver S R B O r a2 w := hrc1.step hc hp2 hrc1.rd (Keeps.refl (fun _ => False) w) (fun _ _ h => h.elim)
        refine s_rdFx K hav hty.1 hhf hrc2 hc hvm (by simp [gSet, gFx, gIf, gCall, gOps]; omega) (by simp [gSet, gFx, gIf, gCall, gOps]; omega) (by omega) fun a3 w3 val h1 h2 h3 => h a3 w3 ?_
        simp only [gSet, gFx, gIf, gCall, gOps] at h1 hp2
        have e : (if fx = true then PF.cstr else PF.str) = strPF false fx := by cases fx <;> rfl
        rw [e] at h3
        exact valPost_of_got huu ((hp1.trans (hp2.mono (Nat.le_refl _) (by omega))).trans (h1.mono (Nat.le_refl _) (by omega))) h2 h3 hleaf (hpt fx w3)
      | false =>
        have hfx := hrc.nf hhf
        subst hfx
        have hval : gVal g cx (.str none) v [] = [gSet v (.string ⟨#[]⟩), gUn (gCall (g.un .str) cx.b v) (gCall (g.rd .str) cx.b v)] := by simp [gVal, hhf]
        rw [hval] at hN h ⊢
        simp only [gL, gUn, gIf, gCall, gSet, gOps] at hN
        refine LW_cons (s_set (x := 6) (m := m) (k0 := k0) (n := n) (.inr hvm) (by omega) fun a1 hp1 _ => ?_)
        have hrc1 : RC g cx false ver S R B O r a1 w := hrc.step hc hp1 hrc.rd (Keeps.refl (fun _ => False) w) (fun _ _ h => h.elim)
        have hs1 := hp1.size
        refine LW_cons (s_un (x := 6) (m := m) (k0 := k0) hrc1.su hc.le (by simpa [gSet, gOps] using hk) (by simp [gSet, gOps]; omega) fun a2 hp2 => ?_)
        have hs2 := hp2.size
        have hrc2 : RC g cx false ver S R B O r a2 w := hrc1.step hc hp2 hrc1.rd (Keeps.refl (fun _ => False) w) (fun _ _ h => h.elim)
        refine s_rd K hty.1 hrc2 hvm hc.le (by simp [gSet, gCall, gOps]; omega) (by simp [gSet, gCall, gOps]; omega) (by omega) fun a3 w3 val h1 h2 h3 => h a3 w3 ?_
        simp only [gSet, gCall, gOps] at h1 hp2
        exact valPost_of_got huu ((hp1.trans (hp2.mono (Nat.le_refl _) (by omega))).trans (h1.mono (Nat.le_refl _) (by omega))) h2 h3 hleaf (hpt false w3)
    | some q =>
      cases q with
      | zero =>
        obtain rfl : x = [] := by
          rcases hx with ⟨t, rfl, q, hq⟩ | ⟨rfl, _⟩ | ⟨t, u, rfl, p', hp', _⟩
          · cases hq
          · rfl
          · cases hp'
        have hleaf : leafRun fx ver (.str (some 0)) r = (strPF true fx).run r := by simp [leafRun, nullS]
        simp only [okVal, Bool.and_eq_true, Bool.or_eq_true, Bool.not_eq_true'] at hty
        have hval : gVal g cx (.str (some 0)) v [] = [gSet v (.pointer none), if cx.hf then gFx cx (gUn (gCall (g.un .cnstr) cx.b v) (gCall (g.rd .cnstr) cx.b v)) (gUn (gCall (g.un .nstr) cx.b v) (gCall (g.rd .nstr) cx.b v)) else gUn (gCall (g.un .nstr) cx.b v) (gCall (g.rd .nstr) cx.b v)] := rfl
        rw [hval] at hN h ⊢
        refine LW_cons (s_set (x := 6) (m := m) (k0 := k0) (n := n) (.inr hvm) (by omega) fun a1 hp1 _ => ?_)
        have hrc1 : RC g cx fx ver S R B O r a1 w := hrc.step hc hp1 hrc.rd (Keeps.refl (fun _ => False) w) (fun _ _ h => h.elim)
        have hs1 := hp1.size
        refine LW_cons (s_nstr K hty.1 (fun hhf => by rcases hty.2 with h | h; rw [hhf] at h; cases h; exact h) hrc1 hc hvm (by simpa [gSet, gOps] using hk) (by rw [hs1]; exact hN) (by omega) fun a2 w2 val h1 h2 h3 => h a2 w2 ?_)
        simp only [gSet, gOps] at h1
        have h3' : Got g S R (strPF true fx) (pfTy (strPF true fx)) r w val w2 := by cases fx <;> exact h3
        exact valPost_of_got huu (hp1.trans (h1.mono (Nat.le_refl _) (by omega))) h2 h3' hleaf (fun X cs y hh => by cases fx <;> exact hh)
      | succ q =>
        simp [okVal] at hty

end
end Go.Proofs.YtmkioomgfdpeiacDoor.Kx

/-
  LOOPS AND SMALL STATEMENTS of the printed reader.
-/
namespace Go.Proofs.YtmkioomgfdpeiacDoor.Kx
open Go

/-- ways out of a piece: its end, or a return -/
def Rt (N E : Act → World → Prop) : Exit → Act → World → Prop
  | .normal, a, w => N a w
  | .ret, a, w => E a w
  | _, _, _ => False

theorem then_rt {N K E : Act → World → Prop} : Exit.then K (Rt N E) = Rt K E := by
  funext e a w
  cases e <;> rfl

section
variable {P : Program} {g : G} {m k0 n : Nat} {K N E : Act → World → Prop} {a : Act} {w : World}

theorem rt_mono {K K' E E' : Act → World → Prop} {c : Code} (h : NWP P c (Rt K E) a w) (hk : ∀ a w, K a w → K' a w) (he : ∀ a w, E a w → E' a w) : NWP P c (Rt K' E') a w :=
  .mono h fun e a w hq => by cases e <;> first | exact hk _ _ hq | exact he _ _ hq | exact hq

theorem s_for {i l b1 b2 : Nat} {body : GC} {L : Int} (hi : m ≤ i ∧ i < k0) (hli : l < i) (h6 : 6 < i) (hl6 : l ≠ 6) (_hm : m ≤ k0) (hk : k0 ≤ n) (hn : n + 5 ≤ a.tmps.size) (hl : a.get l = .int .i32 L) (hL : L < 2147483648) (W : Nat → World → Prop) (h0 : W 0 w)
    (hbody : ∀ (j : Nat) (a1 : Act) (w1 : World), j < L.toNat → Pv 6 i k0 n a a1 → a1.get i = .int .i32 j → W j w1 → NWP P (body (n + 5)).1 (Rt (fun a2 w2 => Pv 6 (i + 1) k0 (n + 5) a1 a2 ∧ W (j + 1) w2) E) a1 w1)
    (hend : ∀ a1 w1, Pv 6 i k0 n a a1 → W L.toNat w1 → K a1 w1) : NWP P (gFor g i l b1 b2 body n).1 (Rt K E) a w := by
  have his : i < a.tmps.size := by omega
  refine .seq (R := Rt (fun a' w' => Pv 6 i k0 n a a' ∧ a'.get i = .int .i32 ((0 : Nat) : Int) ∧ w' = w) E) (.reg (wl_assign (wpList_nil ?_))) (fun a' w' hh => ?_) (fun e a w he hq => by cases e <;> first | exact absurd rfl he | exact hq)
  · exact ⟨(Pv.refl _ _ _ _ _).put _ (by omega), get_put _ _ _ his, rfl⟩
  · obtain ⟨hp, hgi, rfl⟩ := hh
    refine .block (.loop (fun a1 w1 => ∃ j : Nat, j ≤ L.toNat ∧ Pv 6 i k0 n a a1 ∧ a1.get i = .int .i32 (j : Int) ∧ W j w1) (fun a1 _ => (L - (match a1.get i with | .int _ q => q | _ => 0)).toNat) ⟨0, by omega, hp, hgi, h0⟩ ?_)
    rintro a1 w1 ⟨j, hj, hp1, hg1, hW⟩
    have hs1 := hp1.size
    have hl1 : a1.get l = .int .i32 L := by rw [hp1.get l hl6 (.inl hli)]; exact hl
    -- the test
    have htest : ∀ (b : Bool), b = decide ((j : Int) < L) → wpList P [mk (some n) (.move (tm i)), mk (some (n + 1)) (.move (tm l)), mk (some (n + 2)) (.binOp .lss g.tI32 (tm n) (tm (n + 1)) 0)].toArray
        (Rt (fun a' w' => a'.eval (tm (n + 2)) = .bool b ∧ Pv 6 (i + 1) k0 n a1 a' ∧ w' = w1) E) [mk (some n) (.move (tm i)), mk (some (n + 1)) (.move (tm l)), mk (some (n + 2)) (.binOp .lss g.tI32 (tm n) (tm (n + 1)) 0)] a1 w1 := by
      intro b hb
      refine wl_move ?_
      rw [eval_tm, hg1]
      refine wl_move ?_
      rw [eval_tm, get_put_ne _ _ _ _ (by omega), hl1]
      refine wl_cmp (b := b) (p := j) (q := L) (k := .i32) (by rw [eval_tm, get_put_ne _ _ _ _ (by omega), get_put _ _ _ (by omega)]) (by rw [eval_tm, get_put _ _ _ (by rw [put_size]; omega)]) (.inr (.inr (.inl ⟨rfl, hb⟩))) (wpList_nil ?_)
      exact ⟨by rw [eval_tm, get_put _ _ _ (by simp only [put_size]; omega)], (((Pv.refl _ _ _ _ _).put _ (by omega)).put _ (by omega)).put _ (by omega), rfl⟩
    by_cases hlt : (j : Int) < L
    · refine .seq (R := Rt (fun a2 w2 => Pv 6 (i + 1) k0 n a1 a2 ∧ w2 = w1) E) ?_ (fun a2 w2 hh => ?_) (fun e a w he hq => by cases e <;> first | exact absurd rfl he | exact hq | exact hq.elim)
      · refine .seq (.reg (htest true (by simp [hlt]))) (fun a2 w2 hh => .condT hh.1 (.skip hh.2)) (fun e a w he hq => by cases e <;> first | exact absurd rfl he | exact hq)
      · obtain ⟨hp2, rfl⟩ := hh
        have hp02 : Pv 6 i k0 n a a2 := hp1.trans (hp2.mono (by omega) (Nat.le_refl _))
        have hg2 : a2.get i = .int .i32 (j : Int) := by rw [hp2.get i (by omega) (.inl (by omega))]; exact hg1
        have hb := hbody j a2 w2 (by omega) hp02 hg2 hW
        have hs2 := hp2.size
        refine .seq (R := Rt (fun a3 w3 => Pv 6 (i + 1) k0 (n + 5) a2 a3 ∧ W (j + 1) w3) E) (.block (.mono hb fun e a w hq => by cases e <;> first | exact hq | exact hq.elim)) (fun a3 w3 hh => ?_) (fun e a w he hq => by cases e <;> first | exact absurd rfl he | exact hq | exact hq.elim)
        obtain ⟨hp3, hW3⟩ := hh
        have hs3 := hp3.size
        have hg3 : a3.get i = .int .i32 (j : Int) := by rw [hp3.get i (by omega) (.inl (by omega))]; exact hg2
        refine .reg (wl_move ?_)
        rw [eval_tm, hg3]
        have hwr : IntKind.i32.wrap ((j : Int) + 1) = ((j + 1 : Nat) : Int) := by simp [IntKind.wrap, IntKind.bits, IntKind.signed]; omega
        refine wl_bin (v := .int .i32 ((j + 1 : Nat) : Int)) (k := .i32) (m := j) (n := 1) (by rw [eval_tm, get_put _ _ _ (by omega)]) rfl (by simp) (by simp [binOp, Op.intArith, hwr]) ?_
        refine wl_assign (wpList_nil ?_)
        rw [eval_tm, get_put _ _ _ (by simp only [put_size]; omega)]
        have hgi' : (((a3.put (some (n + 3)) (.int .i32 (j : Int))).put (some (n + 4)) (.int .i32 ((j + 1 : Nat) : Int))).put (some i) (.int .i32 ((j + 1 : Nat) : Int))).get i = .int .i32 ((j + 1 : Nat) : Int) := get_put _ _ _ (by simp only [put_size]; omega)
        refine ⟨⟨j + 1, by omega, ?_, hgi', hW3⟩, ?_⟩
        · exact ((hp02.trans (hp3.mono (by omega) (by omega))).put _ (by omega)).put _ (by omega) |>.put _ (by omega)
        · rw [hgi', hg1]
          simp only
          omega
    · have hjL : j = L.toNat := by omega
      refine .seq (R := fun e a w => e ≠ .normal ∧ Exit.inBlock b1 (Rt K E) e a w) ?_ (fun a2 w2 hh => absurd rfl hh.1) (fun e a w he hq => ?_)
      · refine .seq (R := Rt (fun a' w' => a'.eval (tm (n + 2)) = .bool false ∧ Pv 6 (i + 1) k0 n a1 a' ∧ w' = w1) E) (.reg (htest false (by simp [hlt]))) (fun a2 w2 hh => .condF hh.1 (.exit ?_)) (fun e a w he hq => by cases e <;> first | exact absurd rfl he | exact ⟨by simp, hq⟩ | exact hq.elim)
        simp only [Exit.inBlock, if_true]
        refine ⟨by simp, ?_⟩
        obtain ⟨_, hp2, rfl⟩ := hh
        exact hend a2 w2 (hp1.trans (hp2.mono (by omega) (Nat.le_refl _))) (hjL ▸ hW)
      · rw [then_ne he]; exact hq.2

variable {av : PF → Bool} {fl : Bool} {cx : Cx} {fx : Bool} {ver : Int} {S R B O : Nat} {r : RS}

/-- return b.Complete(), where the reader has failed -/
theorem s_ret (K0 : KB P g av fl) (hrc : RC g cx fx ver S R B O r a w) (hb : r.bad = true) (h6 : 6 < a.tmps.size) (hm : m ≤ k0) (hk : k0 ≤ n) (hn : n < a.tmps.size)
    (h : ∀ a' w', Pv 6 m k0 n a a' → (∃ t y, a'.get 6 = .iface t y) → Keeps (fun _ => False) w w' → E a' w') : NWP P (gRet g cx.b n).1 (Rt N E) a w := by
  refine nwp_gS (LW_cons (nwp_rg (wl_call (vs := #[pt R 0]) K0.cmE (by simp [eval_tm, hrc.sb]) (K0.cmC w S R r hrc.rd hrc.err) fun e w' hR => ?_)))
  obtain ⟨hk', v, he, _, hv⟩ := hR
  obtain ⟨t, y, rfl⟩ := hv hb
  refine ⟨_, he, wl_assign (wpList_nil ?_)⟩
  rw [eval_tm, get_put _ _ _ hn]
  exact LW_cons (.ret (h _ w' (((Pv.refl _ _ _ _ _).put _ (by omega)).put _ (by omega)) ⟨t, y, get_put _ _ _ (by rw [put_size]; exact h6)⟩ hk'))

theorem s_okChk (K0 : KB P g av fl) (hho : hasF g.ok = true) (hrc : RC g cx fx ver S R B O r a w) (hc : CxOk cx m k0) (hk : k0 ≤ n) (hn : n + 3 ≤ a.tmps.size)
    (hbad : r.bad = true → ∀ a' w', Pv 6 m k0 n a a' → (∃ t y, a'.get 6 = .iface t y) → Keeps (fun _ => False) w w' → E a' w')
    (hok : r.bad = false → ∀ a' w', Pv 6 m k0 n a a' → Keeps (fun _ => False) w w' → K a' w') : NWP P (gOkChk g cx n).1 (Rt K E) a w := by
  have hops : ∀ (b : Bool), b = r.bad → wpList P [cl (some n) g.ok [tm cx.b], mk (some (n + 1)) (.unOp .not g.tBool (tm n))].toArray
      (Rt (fun a' w' => a'.eval (tm (n + 1)) = .bool b ∧ Pv 6 m k0 n a a' ∧ Keeps (fun _ => False) w w') E) [cl (some n) g.ok [tm cx.b], mk (some (n + 1)) (.unOp .not g.tBool (tm n))] a w := by
    intro b hb
    refine wl_call (vs := #[pt R 0]) (K0.okE hho) (by simp [eval_tm, hrc.sb]) (K0.okC hho w S R r hrc.rd) fun e w' hR => ⟨_, hR.1, ?_⟩
    refine wl_not (b := !r.bad) (by rw [eval_tm, get_put _ _ _ (by omega)]) (wpList_nil ⟨?_, ((Pv.refl _ _ _ _ _).put _ (by have := hc.le; omega)).put _ (by have := hc.le; omega), hR.2⟩)
    rw [eval_tm, get_put _ _ _ (by rw [put_size]; omega), hb]
    simp
  have h6 := hc.six
  have hle := hc.le
  cases hb : r.bad with
  | true =>
    refine .seq (.reg (hops true hb.symm)) (fun a' w' hh => .condT hh.1 ?_) (fun e a w he hq => by cases e <;> first | exact absurd rfl he | exact hq)
    obtain ⟨_, hp, hkk⟩ := hh
    have hs := hp.size
    have hrc' := hrc.step hc hp (hrc.rd.keep hkk id id) hkk (fun _ _ h => h.elim)
    exact s_ret (m := m) (k0 := k0) K0 hrc' hb (by omega) hc.le (by omega) (by omega) fun a2 w2 h1 h2 h3 => hbad hb a2 w2 (hp.trans (h1.mono (Nat.le_refl _) (by omega))) h2 (hkk.trans h3)
  | false =>
    refine .seq (.reg (hops false hb.symm)) (fun a' w' hh => .condF hh.1 (.skip ?_)) (fun e a w he hq => by cases e <;> first | exact absurd rfl he | exact hq)
    exact hok hb a' w' hh.2.1 hh.2.2

theorem s_sl0 {Q : Exit → Act → World → Prop} {x y F E' sz c : Nat} {base : Option Addr} (hy : a.get y = .slice base 0 c) (hF : P.underlying F = some (.slice E')) (hs : ∀ w, (sizeOf E').run P w = .ok sz w) (hy1 : y = x ∨ (m ≤ y ∧ y < k0)) (hm : m ≤ k0) (hk : k0 ≤ n) (hn : n + 2 ≤ a.tmps.size) (hys : y < a.tmps.size)
    (h : ∀ a', Pv x m k0 n a a' → a'.get y = .slice base 0 c → K a' w) : NWP P (gSl0 y F n).1 (Exit.then K Q) a w := by
  refine nwp_rg (wl_move ?_)
  rw [eval_tm, hy]
  refine wl_slice0 (by rw [eval_tm, get_put _ _ _ (by omega)]) hF (hs w) (wl_assign (wpList_nil ?_))
  rw [eval_tm, get_put _ _ _ (by rw [put_size]; omega)]
  exact h _ ((((Pv.refl _ _ _ _ _).put _ (by omega)).put _ (by omega)).put _ (by omega)) (get_put _ _ _ (by simp only [put_size]; omega))

/-- a list's row in the program's table: elements of type E', sz cells each, zero value z -/
structure RowIs (P : Program) (F E' sz : Nat) (z : Array Value) : Prop where
  und : P.underlying F = some (.slice E')
  info : ∃ i z', P.info? E' = some i ∧ i.zero = some z' ∧ z'.cells = z ∧ i.size = sz ∧ z.size = sz ∧ 0 < sz ∧ 0 < i.bytes ∧ i.bytes ≤ 24 * sz + 8

theorem RowIs.size {F E' sz : Nat} {z : Array Value} (h : RowIs P F E' sz z) (w : World) : (sizeOf E').run P w = .ok sz w := by
  obtain ⟨i, z', h1, _, _, h4, _⟩ := h.info
  simp [Go.sizeOf, typeInfo, h1, h4]
theorem RowIs.pos {F E' sz : Nat} {z : Array Value} (h : RowIs P F E' sz z) : 0 < sz := by
  obtain ⟨i, z', h1, _, _, h4, _, h5, _⟩ := h.info
  exact h5

/-- if l > 0 { a = append(a, make([]T, l)...) } -/
theorem s_grow {Q : Exit → Act → World → Prop} (K0 : KB P g av fl) {x y l F E' sz : Nat} {z : Array Value} {base : Option Addr} {L : Int} (hy : a.get y = .slice base 0 0) (hl : a.get l = .int .i32 L) (hF : RowIs P F E' sz z) (hL : L < 2147483648) (hroom : roomy L sz = true)
    (hy1 : y = x ∨ (m ≤ y ∧ y < k0)) (hyn : y < n) (hm : m ≤ k0) (hln : l < n) (hk : k0 ≤ n) (hn : n + 5 ≤ a.tmps.size)
    (hno : L ≤ 0 → ∀ a', Pv x m k0 n a a' → a'.get y = .slice base 0 0 → K a' w)
    (hyes : 0 < L → ∀ (a' : Act) (c : Nat) (cs : Array Value), Pv x m k0 n a a' → L.toNat ≤ c → c ≤ maxLen → cs.size = c * sz → (∀ q j, q < L.toNat → j < sz → cs[q * sz + j]? = z[j]?) →
      a'.get y = .slice (some ⟨w.heap.size, 0, none⟩) L.toNat c → K a' (w.drew.alloc (.cells cs E' (0, 0)))) : NWP P (gGrow g y l F n).1 (Exit.then K Q) a w := by
  obtain ⟨i, z', h1, h2, h3, h4, h5, h6, h7, h8⟩ := hF.info
  have htest : ∀ (b : Bool) (K' : Act → World → Prop), b = decide ((0 : Int) < L) → (∀ a', a'.eval (tm (n + 1)) = .bool b → Pv x m k0 n a a' → a'.get y = .slice base 0 0 → a'.get l = .int .i32 L → K' a' w) →
      wpList P [mk (some n) (.move (tm l)), mk (some (n + 1)) (.binOp .gtr g.tI32 (tm n) (ki .i32 0) 0)].toArray
      (Exit.then K' (Exit.then K Q)) [mk (some n) (.move (tm l)), mk (some (n + 1)) (.binOp .gtr g.tI32 (tm n) (ki .i32 0) 0)] a w := by
    intro b K' hb hk'
    refine wl_move ?_
    rw [eval_tm, hl]
    refine wl_cmp (b := b) (p := L) (q := 0) (k := .i32) (by rw [eval_tm, get_put _ _ _ (by omega)]) rfl (.inr (.inr (.inr (.inl ⟨rfl, hb⟩)))) (wpList_nil (hk' _ ?_ (((Pv.refl _ _ _ _ _).put _ (by omega)).put _ (by omega)) ?_ ?_))
    · rw [eval_tm, get_put _ _ _ (by simp only [put_size]; omega)]
    · rw [get_put_ne _ _ _ _ (by omega), get_put_ne _ _ _ _ (by omega)]; exact hy
    · rw [get_put_ne _ _ _ _ (by omega), get_put_ne _ _ _ _ (by omega)]; exact hl
  by_cases hpos : 0 < L
  · refine s_ifT (htest true _ (by simp [hpos]) fun a1 he hp hy' hl' => ⟨he, ?_⟩)
    have hs := hp.size
    refine nwp_rg (wl_move ?_)
    rw [eval_tm, hy']
    refine wl_move ?_
    rw [eval_tm, get_put_ne _ _ _ _ (by omega), hl']
    have hLn : ((L.toNat : Nat) : Int) = L := by omega
    refine wl_growNil (base := base) (l := L.toNat) (F := F) (E := E') (I := g.tI32) (bytes := i.bytes) ?_ ?_ (by omega) hF.und K0.tI32 h1 h2 (by rw [h3, h5, h4]) (by omega) h7 rfl ?_ (by omega) fun c cs hc1 hc2 hc3 hc4 => ?_
    · rw [eval_tm, get_put_ne _ _ _ _ (by omega), get_put _ _ _ (by omega)]
    · rw [eval_tm, get_put _ _ _ (by rw [put_size]; omega), hLn]
    · simp only [roomy, decide_eq_true_eq] at hroom
      have e : L.toNat * i.bytes ≤ L.toNat * (24 * sz + 8) := Nat.mul_le_mul_left _ h8
      have e2 : ((L.toNat * (24 * sz + 8) : Nat) : Int) = L * (24 * (sz : Int) + 8) := by
        rw [Int.natCast_mul, hLn]; rfl
      omega
    · refine wl_assign (wpList_nil ?_)
      rw [eval_tm, get_put _ _ _ (by simp only [put_size]; omega)]
      rw [h4] at hc3 hc4
      rw [h3] at hc4
      refine hyes hpos _ c cs ((((hp.trans (Pv.refl _ _ _ _ _)).put _ (by omega)).put _ (by omega)).put _ (by omega) |>.put _ (by omega)) hc1 hc2 hc3 hc4 (get_put _ _ _ (by simp only [put_size]; omega))
  · refine s_ifF (htest false _ (by simp; omega) fun a1 he hp hy' _ => ⟨he, .skip (hno (by omega) a1 hp hy')⟩)

end
end Go.Proofs.YtmkioomgfdpeiacDoor.Kx

/-
  SMALL STATEMENTS of the printed reader: lengths, lists, parts, tags.
-/
namespace Go.Proofs.YtmkioomgfdpeiacDoor.Kx
open Go

section inv
variable {P : Program}

theorem nwp_seq_inv {c : Code} {Q : Exit → Act → World → Prop} {a : Act} {w : World} (h : NWP P c Q a w) : ∀ x y, c = .seq x y → ∃ R : Exit → Act → World → Prop, NWP P x R a w ∧ (∀ a w, R .normal a w → NWP P y Q a w) ∧ ∀ e a w, e ≠ .normal → R e a w → Q e a w := by
  induction h with
  | seq hx hy he => intro x y hc; cases hc; exact ⟨_, hx, hy, he⟩
  | mono _ hq ih =>
    intro x y hc
    obtain ⟨R, h1, h2, h3⟩ := ih x y hc
    exact ⟨R, h1, fun a w hr => .mono (h2 a w hr) hq, fun e a w he hr => hq e a w (h3 e a w he hr)⟩
  | _ => intro x y hc; cases hc

theorem nwp_sq_append {cs ds : List Code} {Q : Exit → Act → World → Prop} : ∀ {a : Act} {w : World}, NWP P (sq cs) (Exit.then (NWP P (sq ds) Q) Q) a w → NWP P (sq (cs ++ ds)) Q a w := by
  induction cs with
  | nil => intro a w h; exact nwp_skip_inv h rfl
  | cons c cs ih =>
    intro a w h
    cases cs with
    | nil => exact nwp_sq_cons h
    | cons d r =>
      obtain ⟨R, h1, h2, h3⟩ := nwp_seq_inv h _ _ rfl
      refine .seq h1 (fun a w hr => ih (h2 a w hr)) (fun e a w he hr => ?_)
      have := h3 e a w he hr
      rwa [then_ne he] at this

theorem gL_append (l r : List GC) : ∀ n, gL (l ++ r) n = ((gL l n).1 ++ (gL r (gL l n).2).1, (gL r (gL l n).2).2) := by
  induction l with
  | nil => intro n; rfl
  | cons x l ih => intro n; simp [gL, ih]

theorem LW_append {l r : List GC} {n : Nat} {Q : Exit → Act → World → Prop} {a : Act} {w : World} (h : LW P l n (Exit.then (LW P r (gL l n).2 Q) Q) a w) : LW P (l ++ r) n Q a w := by
  unfold LW at h ⊢
  rw [gL_append]
  exact nwp_sq_append h
end inv

section
variable {P : Program} {g : G} {av : PF → Bool} {fl : Bool} {cx : Cx} {fx : Bool} {ver : Int} {S R B O : Nat} {r : RS} {x m k0 n : Nat} {K N E : Act → World → Prop} {Q : Exit → Act → World → Prop} {a : Act} {w : World}

theorem rLen_lt (fx : Bool) (r : RS) : (rLen fx r).1 < 2147483648 := by
  have h4 : (rI 4 r).1 < 2147483648 := by
    simp only [rI, sgn]
    split
    · rename_i h; simp at h; omega
    · rename_i h
      have : (rU 4 r).1 < 4294967296 := by
        simp only [rU]
        split
        · simp
        · rename_i hl
          have hb : ∀ (l : Bs) (a : Nat), l.foldl (fun a b => a * 256 + b.toNat) a < (a + 1) * 256 ^ l.length := by
            intro l
            induction l with
            | nil => intro a; simp
            | cons b l ih =>
              intro a
              simp only [List.foldl_cons, List.length_cons, Nat.pow_succ]
              refine Nat.lt_of_lt_of_le (ih _) ?_
              have := UInt8.toNat_lt b
              have e : (a + 1) * (256 ^ l.length * 256) = ((a + 1) * 256) * 256 ^ l.length := by rw [Nat.mul_comm (256 ^ l.length), Nat.mul_assoc]
              rw [e]
              exact Nat.mul_le_mul_right _ (by omega)
          have := hb (r.src.take 4) 0
          have hlen : (r.src.take 4).length ≤ 4 := by simp; omega
          have hp : 256 ^ (r.src.take 4).length ≤ 256 ^ 4 := Nat.pow_le_pow_right (by omega) hlen
          simp only [unbe]
          omega
      have e : (2 : Int) ^ (8 * 4) = 4294967296 := by decide
      omega
  have key : ∀ p : Int × RS, p.1 < 2147483648 → (if (p.2.src.length : Int) < p.1 then ((0 : Int), RS.fail) else p).1 < 2147483648 := by
    intro p hp
    split
    · simp
    · exact hp
  cases fx
  · simp only [rLen, Bool.false_eq_true, if_false]
    exact key (rI 4 r) h4
  · simp only [rLen, if_true]
    refine key (wrap32 (wrap32 (rUv r).1 - 1), (rUv r).2) ?_
    simp only [wrap32]; omega

/-- how many there are -/
theorem s_len (K0 : KB P g av fl) (hhl : hasLst g cx.hf = true) (hfl : cx.hf = true → fl = true) (hrc : RC g cx fx ver S R B O r a w) (hc : CxOk cx m k0) {l : Nat} (hl : m ≤ l ∧ l < k0) (hk : k0 ≤ n)
    (hn : ((if cx.hf then gFx cx (gCall g.clen cx.b l) (gCall g.len cx.b l) else gCall g.len cx.b l : GC) n).2 ≤ a.tmps.size)
    (h : ∀ a' w', Pv 6 m k0 n a a' → a'.get l = .int .i32 (rLen fx r).1 → RdS w' g.tR S R (rLen fx r).2 → Keeps (· = R) w w' → K a' w') :
    NWP P ((if cx.hf then gFx cx (gCall g.clen cx.b l) (gCall g.len cx.b l) else gCall g.len cx.b l : GC) n).1 (Exit.then K Q) a w := by
  have hle := hc.le
  simp only [hasLst, Bool.and_eq_true, Bool.or_eq_true, Bool.not_eq_true'] at hhl
  obtain ⟨⟨hhl1, hhl2⟩, hhl3⟩ := hhl
  cases hhf : cx.hf with
  | true =>
    have hhl4 : hasF g.clen = true := hhl3.resolve_left (by rw [hhf]; simp)
    simp only [hhf, if_true, gFx, gIf, gCall, gOps] at hn
    simp only [if_true]
    refine s_fx (x := 6) (m := m) (k0 := k0) (fx := fx) (hrc.sf hhf) hc.le hk (by omega) fun a1 hp1 => ?_
    have hs1 := hp1.size
    have hrc1 : RC g cx fx ver S R B O r a1 w := hrc.step hc hp1 hrc.rd (Keeps.refl (fun _ => False) w) (fun _ _ h => h.elim)
    cases fx with
    | true =>
      simp only [if_true]
      refine s_call (x := 6) (m := m) (k0 := k0) (K0.clenE (hfl hhf) hhl4) hrc1.sb (K0.clenC (hfl hhf) hhl4 w S R r hrc1.rd hrc1.SR) (.inr hl) hc.le (by omega) (by omega) (by omega) fun e w' hR => ?_
      obtain ⟨he, h1, h2⟩ := hR
      exact ⟨_, he, fun a' hp hg => h a' w' (hp1.trans (hp.mono (Nat.le_refl _) (by omega))) hg h1 h2⟩
    | false =>
      simp only [Bool.false_eq_true, if_false]
      refine s_call (x := 6) (m := m) (k0 := k0) (K0.lenE hhl1) hrc1.sb (K0.lenC hhl1 w S R r hrc1.rd hrc1.SR) (.inr hl) hc.le (by simp [gCall, gOps]; omega) (by simp [gCall, gOps]; omega) (by omega) fun e w' hR => ?_
      obtain ⟨he, h1, h2⟩ := hR
      exact ⟨_, he, fun a' hp hg => h a' w' (hp1.trans (hp.mono (Nat.le_refl _) (by simp [gCall, gOps]; omega))) hg h1 h2⟩
  | false =>
    have hfx := hrc.nf hhf
    subst hfx
    simp only [hhf, Bool.false_eq_true, if_false, gCall, gOps] at hn
    simp only [Bool.false_eq_true, if_false]
    refine s_call (x := 6) (m := m) (k0 := k0) (K0.lenE hhl1) hrc.sb (K0.lenC hhl1 w S R r hrc.rd hrc.SR) (.inr hl) hc.le hk (by omega) (by omega) fun e w' hR => ?_
    obtain ⟨he, h1, h2⟩ := hR
    exact ⟨_, he, fun a' hp hg => h a' w' hp hg h1 h2⟩

theorem wl_buildSlice0 {ops : Array Oper} {r : List Oper} {d : Option Nat} {F E' sz : Nat} (hF : P.underlying F = some (.slice E')) (hs : ∀ w, (sizeOf E').run P w = .ok sz w)
    (h : wpList P ops Q r (a.put d (.slice (some ⟨w.heap.size, 0, none⟩) 0 0)) (w.alloc (.cells #[] E' (0, 0)))) : wpList P ops Q (mk d (.buildSlice F 0 #[]) :: r) a w := by
  refine wl_value (w' := w.alloc (.cells #[] E' (0, 0))) ?_ h
  have e0 : (Array.range 0) = #[] := rfl
  simp [execOp, mk, Instr.buildSlice, run_underlying hF, hs, Instr.fill, newRow, newObj, Sem.run, e0]

theorem Pv.low {x m k0 n : Nat} {a b : Act} (h : Pv x k0 k0 n a b) (hm : m ≤ k0) : Pv x m k0 n a b := h.mono hm (Nat.le_refl _)

/-- whether the list is to be empty where it would be nil -/
theorem s_null {nul : Option Nat} {y l F E' sz : Nat} {z : Array Value} {L : Int} {rest : List GC} (hv : a.get cx.ver = .int .i16 ver) (hy : a.get y = .slice none 0 0) (hl : a.get l = .int .i32 L) (hF : RowIs P F E' sz z) (hy1 : m ≤ y ∧ y < k0) (hl1 : l < k0) (hly : l ≠ y) (hl6 : l ≠ x) (hy6 : y ≠ x)
    (_hvn : cx.ver < n) (hm : m ≤ k0) (hk : k0 ≤ n) (hn : (gL (gNull g cx nul y l F) n).2 ≤ a.tmps.size)
    (h : ∀ a' w' base, Pv x m k0 n a a' → Keeps (fun _ => False) w w' → a'.get y = .slice base 0 0 → a'.get l = .int .i32 L → (base = none ∨ ∃ p, base = some ⟨p, 0, none⟩ ∧ w.heap.size ≤ p ∧ p < w'.heap.size) →
      base.isSome = (nul.isSome && (decide (L = 0) || !nullable nul ver)) → LW P rest (gL (gNull g cx nul y l F) n).2 Q a' w') : LW P (gNull g cx nul y l F ++ rest) n Q a w := by
  cases nul with
  | none => exact h a w none (Pv.refl _ _ _ _ _) (Keeps.refl _ _) hy hl (.inl rfl) rfl
  | some q =>
    simp only [gNull, gL, gIf, gOps, gSkip, gCode] at hn
    have hb : ∀ (b : Bool) (K' : Act → World → Prop), b = (decide ((ver : Int) < (q : Int)) || decide (L = 0)) → (∀ a', Pv x k0 k0 n a a' → a'.eval (tm (n + 5)) = .bool b → K' a' w) → wpList P _ (Exit.then K' (Exit.then (LW P rest (gL (gNull g cx (some q) y l F) n).2 Q) Q)) _ a w := fun b K' hb hk' =>
      wl_and (x := x) (m := k0) (k0 := k0) (T1 := g.tVer) (T2 := g.tI32) (Nat.le_refl _) hk (by omega) (by omega) hv hl (b1 := decide ((ver : Int) < (q : Int))) (.inr (.inr (.inl ⟨rfl, rfl⟩))) (b2 := decide (L = 0)) (.inr (.inr (.inr (.inr (.inl ⟨rfl, rfl⟩))))) false _ _ rfl rfl fun a' hp he => hk' a' hp (by rw [hb]; exact he)
    refine LW_cons ?_
    by_cases hc : ver < q ∨ L = 0
    · refine s_ifT (hb true _ (by simp; omega) fun a1 hp he => ⟨he, ?_⟩)
      have hs := hp.size
      have hy' : a1.get y = .slice none 0 0 := (hp.get y hy6 (.inl hy1.2)).trans hy
      have hl' : a1.get l = .int .i32 L := (hp.get l hl6 (.inl hl1)).trans hl
      refine nwp_rg (wl_buildSlice0 hF.und hF.size (wl_assign (wpList_nil ?_)))
      rw [eval_tm, get_put _ _ _ (by omega)]
      refine h _ _ (some ⟨w.heap.size, 0, none⟩) (((hp.low hm).put _ (by omega)).put _ (by omega)) (Keeps.alloc _ _ _) (get_put _ _ _ (by simp only [put_size]; omega)) ?_ (.inr ⟨_, rfl, Nat.le_refl _, by simp⟩) ?_
      · rw [get_put_ne _ _ _ _ hly, get_put_ne _ _ _ _ (by omega)]; exact hl'
      · simp [nullable]; omega
    · refine s_ifF (hb false _ (by simp; omega) fun a1 hp he => ⟨he, .skip ?_⟩)
      refine h a1 w none (hp.low hm) (Keeps.refl _ _) ((hp.get y hy6 (.inl hy1.2)).trans hy) ((hp.get l hl6 (.inl hl1)).trans hl) (.inl rfl) ?_
      simp [nullable]
      omega

/-- a[i] = v -/
theorem s_idxStore {y i v F F' E' sz p q cnt c j : Nat} {uu : Option Nat} {cs : List Value} {cur : Array Value} {te : TypeId} (hy : a.get y = .slice (some ⟨p, q, none⟩) cnt c) (hi : a.get i = .int .i32 j) (hj : j < cnt) (hF : P.underlying F = some (.slice E')) (hE : ∀ w, (sizeOf E').run P w = .ok sz w)
    (hF' : ∀ w, (sizeOf F').run P w = .ok sz w)
    (hval : match uu with
      | none => ∃ y, a.get v = y ∧ y.cells.toList = cs
      | some u => VarIs P u true cs.length ∧ ∃ b o, a.get v = .pointer (some ⟨b, o, none⟩) ∧ CellsAt w b o cs)
    (hsz : cs.length = sz) (h1 : ∀ u ∈ cs, u.oneCell' = true) (hB : w.heap[p]? = some (.cells cur te (0, 0))) (hO : q + j * sz + sz ≤ cur.size)
    (hm : m ≤ k0) (hk : k0 ≤ n) (hn : n + 4 ≤ a.tmps.size) (_hyn : y < n) (hin : i < n) (hvn : v < n)
    (h : ∀ a', Pv x m k0 n a a' → K a' (w.setRow p (splice cur (q + j * sz) cs))) : NWP P (gIdxStore uu y i v F F' n).1 (Exit.then K Q) a w := by
  refine nwp_rg (wl_move ?_)
  rw [eval_tm, hy]
  refine wl_move ?_
  rw [eval_tm, get_put_ne _ _ _ _ (by omega), hi]
  have hpv : Pv x m k0 n a ((a.put (some n) (.slice (some ⟨p, q, none⟩) cnt c)).put (some (n + 1)) (.int .i32 j)) := ((Pv.refl _ _ _ _ _).put _ (by omega)).put _ (by omega)
  have key : ∀ u : Value, u.cells.toList = cs → wpList P (#[mk (some n) (.move (tm y)), mk (some (n + 1)) (.move (tm i)), mk (some (n + 2)) (match uu with | some u => .load u (tm v) | none => .move (tm v)),
      mk (some (n + 3)) (.indexAddr F (tm n) (tm (n + 1))), mk none (.store F' (tm (n + 3)) (tm (n + 2)))]) (Exit.then K Q) [mk (some (n + 3)) (.indexAddr F (tm n) (tm (n + 1))), mk none (.store F' (tm (n + 3)) (tm (n + 2)))]
      (((a.put (some n) (.slice (some ⟨p, q, none⟩) cnt c)).put (some (n + 1)) (.int .i32 j)).put (some (n + 2)) u) w := by
    intro u hu
    refine wl_indexAddr (i := j) (k := .i32) (n := cnt) (c := c) (b := p) (o := q) (sz := sz) ?_ ?_ hj hF (hE w) ?_
    · rw [eval_tm, get_put_ne _ _ _ _ (by omega), get_put_ne _ _ _ _ (by omega), get_put _ _ _ (by omega)]
    · rw [eval_tm, get_put_ne _ _ _ _ (by omega), get_put _ _ _ (by simp only [put_size]; omega)]
    refine wl_store (cur := cur) (t := te) (by rw [eval_tm, get_put _ _ _ (by simp only [put_size]; omega)]) (by rw [eval_tm, get_put_ne _ _ _ _ (by omega), get_put _ _ _ (by simp only [put_size]; omega)]) hu
      (by rw [hsz]; exact hF' w) hB (by rw [hsz]; exact hO) h1 ?_
    exact wpList_nil (h _ ((hpv.put _ (by omega)).put _ (by omega)))
  cases uu with
  | none =>
    obtain ⟨u, hu, huc⟩ := hval
    refine wl_move ?_
    rw [eval_tm, get_put_ne _ _ _ _ (by omega), get_put_ne _ _ _ _ (by omega), hu]
    exact key u huc
  | some u =>
    obtain ⟨hu, b, o, hb, hc⟩ := hval
    refine wl_loadN (cs := cs) (by rw [eval_tm, get_put_ne _ _ _ _ (by omega), get_put_ne _ _ _ _ (by omega), hb]) (hu.agg w) (hu.size w) hc ?_
    exact key (.agg cs.toArray) (by simp [Value.cells])

/-- v := &a[i] -/
theorem s_idxAddr {y i v F E' sz p q cnt c j : Nat} (hy : a.get y = .slice (some ⟨p, q, none⟩) cnt c) (hi : a.get i = .int .i32 j) (hj : j < cnt) (hF : P.underlying F = some (.slice E')) (hE : ∀ w, (sizeOf E').run P w = .ok sz w)
    (hv : v = x ∨ (m ≤ v ∧ v < k0)) (hm : m ≤ k0) (hk : k0 ≤ n) (hn : n + 3 ≤ a.tmps.size) (hvs : v < a.tmps.size) (_hyn : y < n) (hin : i < n)
    (h : ∀ a', Pv x m k0 n a a' → a'.get v = pt p (q + j * sz) → K a' w) : NWP P (gIdxAddr y i v F n).1 (Exit.then K Q) a w := by
  refine nwp_rg (wl_move ?_)
  rw [eval_tm, hy]
  refine wl_move ?_
  rw [eval_tm, get_put_ne _ _ _ _ (by omega), hi]
  refine wl_indexAddr (i := j) (k := .i32) (n := cnt) (c := c) (b := p) (o := q) (sz := sz) ?_ ?_ hj hF (hE w) ?_
  · rw [eval_tm, get_put_ne _ _ _ _ (by omega), get_put _ _ _ (by omega)]
  · rw [eval_tm, get_put _ _ _ (by simp only [put_size]; omega)]
  refine wl_assign (wpList_nil ?_)
  rw [eval_tm, get_put _ _ _ (by simp only [put_size]; omega)]
  exact h _ (((((Pv.refl _ _ _ _ _).put _ (by omega)).put _ (by omega)).put _ (by omega)).put _ (by omega)) (get_put _ _ _ (by simp only [put_size]; omega))

/-- some cells written, by their places -/
def applyWr (cur : Array Value) (O : Nat) (wr : List (Nat × Value)) : Array Value := wr.foldl (fun c p => c.setIfInBounds (O + p.1) p.2) cur

/-- what a Default function does -/
def DfC (P : Program) (f : Nat) (wr : List (Nat × Value)) : Prop :=
  ∀ (w : World) (B O : Nat) (cur : Array Value) (te : TypeId), w.heap[B]? = some (.cells cur te (0, 0)) → (∀ p ∈ wr, O + p.1 < cur.size) →
    Calls P f #[pt B O] w fun e w' => e = .returned (.tuple #[]) ∧ Keeps (· = B) w w' ∧ w'.heap[B]? = some (.cells (applyWr cur O wr) te (0, 0))

/-- v.Default() -/
theorem s_default {f v : Nat} {wr : List (Nat × Value)} {cur : Array Value} {te : TypeId} (hE : Ent P f) (hD : DfC P f wr) (hv : a.get v = pt B O) (hB : w.heap[B]? = some (.cells cur te (0, 0))) (hO : ∀ p ∈ wr, O + p.1 < cur.size)
    (hm : m ≤ k0) (hk : k0 ≤ n) (hn : n + 2 ≤ a.tmps.size)
    (h : ∀ a' w', Pv x m k0 n a a' → (∀ s, s < n → a'.get s = a.get s) → Keeps (· = B) w w' → w'.heap[B]? = some (.cells (applyWr cur O wr) te (0, 0)) → K a' w') : NWP P (gDefault v f n).1 (Exit.then K Q) a w := by
  refine nwp_rg (wl_move ?_)
  rw [eval_tm, hv]
  refine wl_call (vs := #[pt B O]) hE ?_ (hD w B O cur te hB hO) fun e w' hR => ⟨_, hR.1, wpList_nil ?_⟩
  · simp [eval_tm, get_put _ _ _ (show n < a.tmps.size by omega)]
  · exact h _ w' (((Pv.refl _ _ _ _ _).put _ (by omega)).put _ (by omega)) (fun s hs => by rw [get_put_ne _ _ _ _ (by omega), get_put_ne _ _ _ _ (by omega)]) hR.2.1 hR.2.2

/-- v := &s.F -/
theorem s_fieldAddr {s v T k F off sz : Nat} {agg : Bool} (hs : a.get s = pt B O) (hF : FldIs P T k F off agg sz) (hv : v = x ∨ (m ≤ v ∧ v < k0)) (hm : m ≤ k0) (hk : k0 ≤ n) (hn : n + 3 ≤ a.tmps.size) (hvs : v < a.tmps.size)
    (h : ∀ a', Pv x m k0 n a a' → a'.get v = pt B (O + off) → K a' w) : NWP P (gFieldAddr s v T k n).1 (Exit.then K Q) a w := by
  refine nwp_rg (wl_move ?_)
  rw [eval_tm, hs]
  refine wl_nilCheck (by rw [eval_tm, get_put _ _ _ (by omega)]; rfl) ?_
  refine wl_fld (by rw [eval_tm, get_put _ _ _ (by rw [put_size]; omega)]) hF ?_
  refine wl_assign (wpList_nil ?_)
  rw [eval_tm, get_put _ _ _ (by simp only [put_size]; omega)]
  exact h _ (((((Pv.refl _ _ _ _ _).put _ (by omega)).put _ (by omega)).put _ (by omega)).put _ (by omega)) (get_put _ _ _ (by simp only [put_size]; exact hvs))

/-- s.F = new(E) -/
theorem s_new {s T k F E' off : Nat} {z : Value} {cur : Array Value} {te : TypeId} (hs : a.get s = pt B O) (hF : FldIs P T k F off false 1) (hz : ∀ w, (zeroValue E').run P w = .ok z w) (hB : w.heap[B]? = some (.cells cur te (0, 0))) (hO : O + off + 1 ≤ cur.size)
    (hm : m ≤ k0) (hk : k0 ≤ n) (hn : n + 4 ≤ a.tmps.size)
    (h : ∀ a', Pv x m k0 n a a' → (∀ s, s < n → a'.get s = a.get s) → K a' ((w.alloc (.cells z.cells E' (0, 0))).setRow B (splice cur (O + off) [pt w.heap.size 0]))) : NWP P (gNew s T k F E' n).1 (Exit.then K Q) a w := by
  refine nwp_rg (wl_move ?_)
  rw [eval_tm, hs]
  refine wl_alloc (hz w) ?_
  refine wl_nilCheck (by rw [eval_tm, get_put_ne _ _ _ _ (by omega), get_put _ _ _ (by omega)]; rfl) ?_
  refine wl_fld (by rw [eval_tm, get_put _ _ _ (by simp only [put_size]; omega)]) hF ?_
  have hlt : B < w.heap.size := (Array.getElem?_eq_some_iff.1 hB).1
  refine wl_store (cur := cur) (t := te) (v := pt w.heap.size 0) (vs := [pt w.heap.size 0]) (by rw [eval_tm, get_put _ _ _ (by simp only [put_size]; omega)]) ?_ rfl (hF.var.size _) ?_ (by simpa using hO) (by simp [pt, Value.oneCell']) (wpList_nil ?_)
  · rw [eval_tm, get_put_ne _ _ _ _ (by omega), get_put_ne _ _ _ _ (by omega), get_put _ _ _ (by simp only [put_size]; omega)]; rfl
  · show (w.heap.push _)[B]? = _
    rw [Array.getElem?_push, if_neg (by omega)]; exact hB
  · exact h _ (((((Pv.refl _ _ _ _ _).put _ (by omega)).put _ (by omega)).put _ (by omega)).put _ (by omega)) (fun s hs => by rw [get_put_ne _ _ _ _ (by omega), get_put_ne _ _ _ _ (by omega), get_put_ne _ _ _ _ (by omega), get_put_ne _ _ _ _ (by omega)])

end
end Go.Proofs.YtmkioomgfdpeiacDoor.Kx

/-
  SLOTS ONLY GROW: the numbers that the printed code takes for its scratch slots.
-/
namespace Go.Proofs.YtmkioomgfdpeiacDoor.Kx
open Go

def UpL (l : List GC) : Prop := ∀ n, n ≤ (gL l n).2
theorem upL_nil : UpL [] := fun n => Nat.le_refl n
theorem upL_cons {x : GC} {l : List GC} (hx : Up x) (hl : UpL l) : UpL (x :: l) := fun n => Nat.le_trans (hx n) (hl _)
theorem upL_append {l r : List GC} (hl : UpL l) (hr : UpL r) : UpL (l ++ r) := fun n => by
  rw [gL_append]
  exact Nat.le_trans (hl n) (hr _)
theorem up_S {l : List GC} (h : UpL l) : Up (gS l) := h
theorem up_ite {c : Prop} [Decidable c] {x y : GC} (hx : Up x) (hy : Up y) : Up (if c then x else y) := by split <;> assumption
theorem upL_ite {c : Prop} [Decidable c] {x y : List GC} (hx : UpL x) (hy : UpL y) : UpL (if c then x else y) := by split <;> assumption
theorem up_for {g : G} {i l b1 b2 : Nat} {body : GC} (h : Up body) : Up (gFor g i l b1 b2 body) := fun n => Nat.le_trans (Nat.le_add_right n 5) (h _)
theorem up_tagFor {g : G} {cx : Cx} {i b1 b2 : Nat} {body : GC} (h : Up body) : Up (gTagFor g cx i b1 b2 body) := fun n => Nat.le_trans (Nat.le_add_right n 5) (h _)
theorem up_cases {g : G} {key : Nat} {dflt : Code} : ∀ {l : List (Nat × GC)}, (∀ p ∈ l, Up p.2) → ∀ n, n ≤ (gCases g key dflt l n).2
  | [], _, n => Nat.le_refl n
  | (t, x) :: r, h, n => Nat.le_trans (Nat.le_trans (Nat.le_add_right n 2) (h (t, x) (List.mem_cons_self ..) (n + 2))) (up_cases (l := r) (fun p hp => h p (List.mem_cons_of_mem _ hp)) _)
theorem up_switch {g : G} {cx : Cx} {key b3 T k : Nat} {l : List (Nat × GC)} (h : ∀ p ∈ l, Up p.2) : Up (gSwitch g cx key b3 T k l) := fun n => Nat.le_trans (Nat.le_add_right n 9) (up_cases h _)

theorem up_gVal (g : G) (cx : Cx) (ty : Ty) (v : Nat) (x : List Nat) : UpL (gVal g cx ty v x) := by
  have hc : ∀ f b v, Up (gCall f b v) := fun _ _ _ => up_ops _ _
  have hm : ∀ x y, Up (gMove x y) := fun _ _ => up_ops _ _
  have hs : ∀ v x, Up (gSet v x) := fun _ _ => up_ops _ _
  have hf : ∀ A B, Up A → Up B → Up (gFx cx A B) := fun _ _ => up_if
  have hu : ∀ A B, Up A → Up B → Up (gUn A B) := fun _ _ => up_if
  unfold gVal
  split
  · exact upL_cons (up_ops _ _) upL_nil
  · split
    · exact upL_cons (hs _ _) (upL_cons (up_S (upL_cons (hc _ _ _) (upL_cons (hm _ _) upL_nil))) (upL_cons (hm _ _) upL_nil))
    · exact upL_cons (hc _ _ _) upL_nil
  · simp only
    split
    · exact upL_cons (hs _ _) (upL_cons (up_ite (hf _ _ (hu _ _ (hc _ _ _) (hc _ _ _)) (hu _ _ (hc _ _ _) (hc _ _ _))) (hu _ _ (hc _ _ _) (hc _ _ _))) upL_nil)
    · refine upL_cons (hs _ _) (upL_cons (up_if (up_S (upL_cons (up_ops _ _) (upL_cons (up_ite (hf _ _ (hu _ _ (up_ops _ _) (up_ops _ _)) (hu _ _ (up_ops _ _) (up_ops _ _))) (hu _ _ (up_ops _ _) (up_ops _ _))) (upL_cons (up_ops _ _) upL_nil))))
        (up_ite (hf _ _ (hu _ _ (hc _ _ _) (hc _ _ _)) (hu _ _ (hc _ _ _) (hc _ _ _))) (hu _ _ (hc _ _ _) (hc _ _ _)))) upL_nil)
    · exact upL_cons (hs _ _) (upL_cons (up_ite (hu _ _ (hf _ _ (hc _ _ _) (hc _ _ _)) (hf _ _ (hc _ _ _) (hc _ _ _))) (hu _ _ (hc _ _ _) (hc _ _ _))) upL_nil)
  · simp only
    split
    · exact upL_cons (hs _ _) (upL_cons (hf _ _ (hc _ _ _) (hc _ _ _)) upL_nil)
    · exact upL_cons (hc _ _ _) upL_nil
  · exact upL_nil

theorem up_gStOf {g : G} {cx : Cx} {tagged : Bool} {T kt : Nat} {m : Nm} {items : List GC} {cases : List (Nat × GC)} (hi : UpL items) (hc : ∀ p ∈ cases, Up p.2) : UpL (gStOf g cx tagged T kt m items cases) := by
  unfold gStOf
  refine upL_append hi (upL_ite upL_nil (upL_ite (upL_cons (up_if (up_tagFor (up_S (upL_cons (up_ops _ _) (upL_cons (up_switch hc) upL_nil)))) (up_code _)) upL_nil) (upL_cons (up_if (up_ops _ _) (up_code _)) upL_nil)))

theorem up_gNull (g : G) (cx : Cx) (nul : Option Nat) (a l F : Nat) : UpL (gNull g cx nul a l F) := by
  cases nul with
  | none => exact upL_nil
  | some m => exact upL_cons (up_if (up_ops _ _) (up_code _)) upL_nil

theorem up_ret (g : G) (b : Nat) : Up (gRet g b) := up_S (upL_cons (up_ops _ _) (upL_cons (up_code _) upL_nil))

mutual
theorem up_gTy (g : G) : ∀ (ty : Ty) (nm : Nm) (cx : Cx), UpL (gTy g cx ty nm)
  | .prim p, nm, cx => upL_append (up_gVal _ _ _ _ _) (upL_cons (up_ops _ _) upL_nil)
  | .str _, nm, cx => upL_append (up_gVal _ _ _ _ _) (upL_cons (up_ops _ _) upL_nil)
  | .bytes _, nm, cx => upL_append (up_gVal _ _ _ _ _) (upL_cons (up_ops _ _) upL_nil)
  | .list nul esz e, nm, cx => by
    have he : ∀ a i F, UpL (gEl g cx e a i F (nm.sub 0)) := fun a i F => up_gEl g e (nm.sub 0) cx a i F
    refine upL_append (upL_append (upL_cons (up_ops _ _) (upL_cons (up_ops _ _) (upL_cons (up_ops _ _) (upL_cons (up_ite (up_if (up_ops _ _) (up_ops _ _)) (up_ops _ _)) upL_nil)))) (up_gNull _ _ _ _ _ _)) ?_
    exact upL_cons (up_if (up_ret _ _) (up_code _)) (upL_cons (up_ops _ _) (upL_cons (up_if (up_ops _ _) (up_code _)) (upL_cons (up_for (up_S (he _ _ _))) (upL_cons (up_ops _ _) (upL_cons (up_ops _ _) upL_nil)))))
  | .struct none _ fs, nm, cx =>
    upL_append (upL_cons (up_ops _ _) (upL_cons (up_ops _ _) (upL_cons (up_ops _ _) upL_nil))) (up_gStOf (up_gFds g fs _ _) (up_gTagd g fs _ _))
  | .struct (some _) _ fs, nm, cx => by
    refine upL_cons (up_S (upL_cons (up_ops _ _) (upL_cons (up_if (up_S (upL_append (upL_cons (up_ops _ _) (upL_cons (up_ops _ _) (upL_cons (up_ops _ _) (upL_cons (up_ops _ _) upL_nil)))) (up_gStOf (up_gFds g fs _ _) (up_gTagd g fs _ _)))) (up_code _)) upL_nil))) upL_nil
theorem up_gEl (g : G) : ∀ (ty : Ty) (nm : Nm) (cx : Cx) (a i F : Nat), UpL (gEl g cx ty a i F nm)
  | .struct _ _ fs, _nm, _cx, _a, _i, _F => upL_append (upL_cons (up_ops _ _) (upL_cons (up_ops _ _) (upL_cons (up_ops _ _) upL_nil))) (up_gStOf (up_gFds g fs _ _) (up_gTagd g fs _ _))
  | .prim _p, _nm, _cx, _a, _i, _F => upL_append (up_gVal _ _ _ _ _) (upL_cons (up_ops _ _) upL_nil)
  | .str _, _nm, _cx, _a, _i, _F => upL_append (up_gVal _ _ _ _ _) (upL_cons (up_ops _ _) upL_nil)
  | .bytes _, _nm, _cx, _a, _i, _F => upL_append (up_gVal _ _ _ _ _) (upL_cons (up_ops _ _) upL_nil)
  | .list _ _ _, _nm, _cx, _a, _i, _F => upL_append (up_gVal _ _ _ _ _) (upL_cons (up_ops _ _) upL_nil)
theorem up_gFds (g : G) : ∀ (fs : Fds) (ms : List Nm) (cx : Cx), UpL (gFds g cx fs ms)
  | .nil, ms, cx => upL_nil
  | .cons lo hi tag df off ty r, ms, cx => by
    have h1 := up_gTy g ty (ms.headD (.mk [] [])) cx
    have h2 := up_gFds g r ms.tail cx
    unfold gFds
    refine upL_ite (upL_cons ?_ h2) h2
    unfold gGuard
    split
    · exact up_if (up_S h1) (up_code _)
    · exact up_ite (up_S h1) (up_if (up_S h1) (up_code _))
theorem up_gTagd (g : G) : ∀ (fs : Fds) (ms : List Nm) (cx : Cx), ∀ p ∈ gTagd g cx fs ms, Up p.2
  | .nil, ms, cx => fun p hp => by cases hp
  | .cons lo hi tag df off ty r, ms, cx => by
    have h1 := up_gTy g ty ((ms.headD (.mk [] [])).sub 0) { cx with b := (ms.headD (.mk [] [])).n 0 }
    have h2 := up_gTagd g r ms.tail cx
    cases tag with
    | none => exact h2
    | some t =>
      intro p hp
      simp only [gTagd, List.mem_cons] at hp
      rcases hp with rfl | hp
      · exact up_S (upL_append (upL_append (upL_cons (up_ops _ _) upL_nil) h1) (upL_cons (up_S (upL_cons (up_ops _ _) (upL_cons (up_if (up_S (upL_cons (up_ops _ _) (upL_cons (up_code _) upL_nil))) (up_code _)) upL_nil))) upL_nil))
      · exact h2 p hp
end

end Go.Proofs.YtmkioomgfdpeiacDoor.Kx

/-
  TAGS: the statements of the printed reader that read tags.
-/
namespace Go.Proofs.YtmkioomgfdpeiacDoor.Kx
open Go

theorem uvRead_lt (l : Bs) : (uvRead l).1 < 4294967296 := by
  unfold uvRead
  split
  · simp
  · rename_i a l
    have ha := UInt8.toNat_lt a
    split
    · simp only; omega
    · split
      · simp
      · rename_i b l
        have hb := UInt8.toNat_lt b
        split
        · simp only; omega
        · split
          · simp
          · rename_i c l
            have hc := UInt8.toNat_lt c
            split
            · simp only; omega
            · split
              · simp
              · rename_i d l
                have hd := UInt8.toNat_lt d
                split
                · simp only; omega
                · split
                  · simp
                  · rename_i e l
                    split
                    · simp only; omega
                    · simp
theorem rUv_lt (r : RS) : (rUv r).1 < 4294967296 := by
  unfold rUv
  split
  · simp
  · exact uvRead_lt _

theorem TgRp.one {w : World} {X : Nat → Prop} {v : Value} {t : List (Nat × Bs)} (h : TgRp w X v t) : v.oneCell' = true := by
  rcases h with ⟨rfl, _⟩ | ⟨r, rfl, _⟩ <;> rfl

section
variable {P : Program} {g : G} {av : PF → Bool} {fl : Bool} {cx : Cx} {fx : Bool} {ver : Int} {S R B O : Nat} {r : RS} {x m k0 n : Nat} {K N E : Act → World → Prop} {Q : Exit → Act → World → Prop} {a : Act} {w : World}

/-- s.UnknownTags = internalReadTags(&b) -/
theorem s_readTags (K0 : KB P g av fl) (hfl : fl = true) (hrc : RC g cx fx ver S R B O r a w) (hc : CxOk cx m k0) {T k off : Nat} {cur : Array Value} {te : TypeId} (hF : FldIs P T k g.tTags off true 1) (hB : w.heap[B]? = some (.cells cur te (0, 0))) (hO : O + off + 1 ≤ cur.size)
    (hk : k0 ≤ n) (hn : n + 4 ≤ a.tmps.size)
    (h : ∀ a' w', Pv 6 m k0 n a a' → RdS w' g.tR S R (rTags (rUv r).1 [] (rUv r).2).2 → Evo R B (fun j => j = O + off) w w' →
      (∀ X : Nat → Prop, (∀ k, X k → k < w.heap.size) → ¬ X S → ∃ mm, w'.cell? ⟨B, O + off, none⟩ = some mm ∧ TgRp w' X mm (rTags (rUv r).1 [] (rUv r).2).1) → K a' w') :
    NWP P (gReadTags g cx T k n).1 (Exit.then K Q) a w := by
  have hbm := hc.b
  have hle := hc.le
  refine nwp_rg (wl_move ?_)
  rw [eval_tm, hrc.ss]
  refine wl_call (vs := #[pt R 0]) (K0.tagsE hfl) (by simp [eval_tm, get_put_ne _ _ _ _ (show cx.b ≠ n by omega), hrc.sb]) (K0.tagsC hfl w S R r hrc.rd hrc.SR hrc.Slt) fun e w1 hR => ?_
  obtain ⟨mm, he, h1, h2, h3⟩ := hR
  refine ⟨_, he, ?_⟩
  refine wl_nilCheck (by rw [eval_tm, get_put_ne _ _ _ _ (by omega), get_put _ _ _ (by omega)]; rfl) ?_
  refine wl_fld (by rw [eval_tm, get_put _ _ _ (by simp only [put_size]; omega)]) hF ?_
  have hlt : B < w.heap.size := (Array.getElem?_eq_some_iff.1 hB).1
  have hB1 : w1.heap[B]? = some (.cells cur te (0, 0)) := by rw [h2.block B hlt hrc.BR]; exact hB
  have hone := (h3 (fun _ => False) (fun _ h => h.elim) id).one
  refine wl_store (cur := cur) (t := te) (v := .agg #[mm]) (vs := [mm]) (by rw [eval_tm, get_put _ _ _ (by simp only [put_size]; omega)]) ?_ rfl (hF.var.size _) hB1 (by simpa using hO) (by simpa using hone) (wpList_nil ?_)
  · rw [eval_tm, get_put_ne _ _ _ _ (by omega), get_put_ne _ _ _ _ (by omega), get_put _ _ _ (by simp only [put_size]; omega)]
  · have hE : Evo R B (fun j => j = O + off) w1 (w1.setRow B (splice cur (O + off) [mm])) := Evo.store hB1 (by simpa using hO) (fun j h1 h2 => by simp at h2; omega)
    refine h _ _ ((((((Pv.refl _ _ _ _ _).put _ (by omega)).put _ (by omega)).put _ (by omega)).put _ (by omega))) (h1.keep (Keeps.setRow (fun k => k = B) _ _ _ rfl) (fun h => hrc.BS h.symm) (fun h => hrc.BR h.symm))
      ((Evo.of_keeps h2 (fun _ _ h => h) hrc.BR).trans hE) fun X hX hS => ⟨mm, ?_, ?_⟩
    · rw [cell_setRow_same _ _ _ _ _ _ _ hB1]
      have := splice_in (cur := cur) (o := O + off) (vs := [mm]) (by simpa using hO) 0 (by simp)
      simpa using this
    · have h4 := h3 (fun k => X k ∨ k = B) (fun k hk => by rcases hk with hk | rfl <;> first | exact hX k hk | exact hlt) (fun hk => by rcases hk with hk | hk <;> first | exact hS hk | exact hrc.BS hk.symm)
      exact (h4.keep (Keeps.setRow (fun k => X k ∨ k = B) _ _ _ (.inr rfl))).mono fun k _ hk => .inl hk

theorem oneCell_src {w : World} {S : Nat} {v : Value} {r : RS} (h : SrcAt w S v r) : v.oneCell' = true ∧ v.cells = #[v] := by
  rcases h with ⟨rfl, _⟩ | ⟨o, c, rfl, _⟩ <;> exact ⟨rfl, rfl⟩

theorem wl_buildR (K0 : KB P g av fl) {ops : Array Oper} {l : List Oper} {d : Option Nat} {y : Operand} {v : Value} (hy : a.eval y = v) (hv : v.cells = #[v]) (h : wpList P ops Q l (a.put d (.agg #[v, .bool false])) w) : wpList P ops Q (mk d (.build g.tR #[(0, y)]) :: l) a w := by
  refine wl_value ?_ h
  obtain ⟨fs, f0, f1, h1, h2, h3, h4, h5, h6⟩ := K0.fR
  have hz := K0.zR w
  have hfs : fs = #[f0, f1] := by rw [← Array.toArray_toList (xs := fs), h2]
  subst hfs
  have hcells : (Value.agg #[.slice none 0 0, .bool false]).cells = #[.slice none 0 0, .bool false] := rfl
  simp [execOp, mk, hy, Instr.build, hz, run_underlying h1, h5.size, h6.size, h3, h4, Instr.fill, hv, hcells]

theorem heap_alloc_new' (w : World) (o : Obj) : (w.alloc o).heap[w.heap.size]? = some o := heap_alloc_new w o

theorem heap_alloc_old {w : World} {o : Obj} {b : Nat} (h : b < w.heap.size) : (w.alloc o).heap[b]? = w.heap[b]? := by
  show (w.heap.push o)[b]? = _
  rw [Array.getElem?_push, if_neg (by omega)]

/-- b := kbin.Reader{Src: v}: the reader lies in a block of its own -/
theorem wl_newReader (K0 : KB P g av fl) {l : List Oper} {y b' t : Nat} {v : Value} {r' : RS} {ops : Array Oper} (hy : a.get y = v) (hv : SrcAt w S v r') (_hbad : r'.bad = false) (ht : t < a.tmps.size) (hb : b' < a.tmps.size) (hbt : b' ≠ t)
    (h : wpList P ops Q l ((a.put (some t) (.agg #[v, .bool false])).put (some b') (pt w.heap.size 0)) ((w.alloc (.cells #[.slice none 0 0, .bool false] g.tR (0, 0))).setRow w.heap.size #[v, .bool false])) :
    wpList P ops Q (mk (some t) (.build g.tR #[(0, tm y)]) :: mk (some b') (.alloc g.tR) :: mk none (.store g.tR (tm b') (tm t)) :: l) a w := by
  obtain ⟨hone, hcv⟩ := oneCell_src hv
  refine wl_buildR K0 (v := v) (by rw [eval_tm]; exact hy) hcv ?_
  refine wl_alloc (K0.zR w) ?_
  refine wl_store (g := w.heap.size) (o := 0) (cur := #[.slice none 0 0, .bool false]) (t := g.tR) (v := .agg #[v, .bool false]) (vs := [v, .bool false]) ?_ ?_ rfl (K0.vR.size _) (heap_alloc_new _ _) (by simp) ?_ ?_
  · rw [eval_tm, get_put _ _ _ (by simp only [put_size]; omega)]
  · rw [eval_tm, get_put_ne _ _ _ _ (by omega), get_put _ _ _ (by omega)]
  · intro u hu
    simp only [List.mem_cons, List.not_mem_nil, or_false] at hu
    rcases hu with rfl | rfl
    · exact hone
    · rfl
  · have : splice #[Value.slice none 0 0, .bool false] 0 [v, .bool false] = #[v, .bool false] := by simp [splice]
    rw [this]
    exact h

theorem keeps_newReader (X : Nat → Prop) (w : World) (o : Obj) (cs : Array Value) : Keeps X w ((w.alloc o).setRow w.heap.size cs) :=
  ⟨rfl, rfl, rfl, by simp, fun k hkk _ => by rw [setRow_other _ _ _ _ (by omega)]; exact heap_alloc_old hkk⟩

theorem rds_newReader {v : Value} {r' : RS} {T : Nat} (hv : SrcAt w S v r') (hbad : r'.bad = false) : RdS ((w.alloc (.cells #[.slice none 0 0, .bool false] T (0, 0))).setRow w.heap.size #[v, .bool false]) T S w.heap.size r' := by
  refine ⟨v, ?_, hv.keep (keeps_newReader (fun _ => False) w _ _) id⟩
  rw [hbad]
  exact setRow_heap _ _ _ _ _ _ (heap_alloc_new _ _)

/-- b := kbin.Reader{Src: b.Span(int(b.Uvarint()))} -/
theorem s_inner (K0 : KB P g av fl) (hfl : fl = true) (hrc : RC g cx fx ver S R B O r a w) (hc : CxOk cx m k0) {b' : Nat} (hb' : m ≤ b' ∧ b' < k0) (hk : k0 ≤ n) (hn : n + 4 ≤ a.tmps.size)
    (h : ∀ a' w' R', Pv 6 m k0 n a a' → a'.get b' = pt R' 0 → w.heap.size ≤ R' → RdS w' g.tR S R' ⟨(rSpan (rUv r).1 (rUv r).2).1.octets, false, (rSpan (rUv r).1 (rUv r).2).1.isNul⟩ → RdS w' g.tR S R (rSpan (rUv r).1 (rUv r).2).2 →
      Keeps (· = R) w w' → K a' w') : NWP P (gInner g cx.b b' n).1 (Exit.then K Q) a w := by
  have hbm := hc.b
  have hle := hc.le
  refine nwp_rg (wl_call (vs := #[pt R 0]) (K0.uvE hfl) (by simp [eval_tm, hrc.sb]) (K0.uvC hfl w S R r hrc.rd hrc.SR) fun e w1 hR => ?_)
  obtain ⟨he, h1, h2⟩ := hR
  refine ⟨_, he, ?_⟩
  have hlt := rUv_lt r
  have hwr : IntKind.i64.wrap ((rUv r).1 : Int) = ((rUv r).1 : Int) := by simp [IntKind.wrap, IntKind.bits, IntKind.signed]; omega
  refine wl_convInt (k := .u32) (k' := .i64) (m := ((rUv r).1 : Int)) (by rw [eval_tm, get_put _ _ _ (by omega)]) (K0.tU32 hfl) K0.tInt ?_
  rw [hwr]
  refine wl_call (vs := #[pt R 0, .int .i64 ((rUv r).1 : Int)]) (K0.spanE hfl) ?_ (K0.spanC hfl w1 S R (rUv r).2 ((rUv r).1 : Int) (by omega) (by omega) h1 hrc.SR) fun e2 w2 hR2 => ?_
  · simp only [List.map_cons, List.map_nil, eval_tm]
    rw [get_put _ _ _ (by simp only [put_size]; omega), get_put_ne _ _ _ _ (show cx.b ≠ n + 1 by omega), get_put_ne _ _ _ _ (show cx.b ≠ n by omega), hrc.sb]
  obtain ⟨v, he2, h3, h4, h5⟩ := hR2
  refine ⟨_, he2, ?_⟩
  refine wl_newReader K0 (y := n + 2) (v := v) (get_put _ _ _ (by simp only [put_size]; omega)) h5 rfl (by simp only [put_size]; omega) (by simp only [put_size]; omega) (by omega) (wpList_nil ?_)
  have hk2 : Keeps (· = R) w w2 := h2.trans h4
  refine h _ _ w2.heap.size (((((Pv.refl _ _ _ _ _).put _ (by omega)).put _ (by omega)).put _ (by omega)).put _ (by omega) |>.put _ (by omega)) (get_put _ _ _ (by simp only [put_size]; omega)) hk2.size (rds_newReader h5 rfl)
    (h3.keep (keeps_newReader (fun _ => False) w2 _ _) id id) (hk2.trans (keeps_newReader _ w2 _ _))

theorem run_eqNil0 (d : Nat) {T : TypeId} {ms : Array (String × TypeId)} (hT : P.underlying T = some (.interface ms)) (w : World) : (Op.equalIn (d + 1) T .nilIface .nilIface).run P w = .ok true w := by
  simp [Op.equalIn, run_underlying hT]
theorem run_eqNil1 (d : Nat) {T : TypeId} {ms : Array (String × TypeId)} (hT : P.underlying T = some (.interface ms)) (t : TypeId) (y : Value) (w : World) : (Op.equalIn (d + 1) T (.iface t y) .nilIface).run P w = .ok false w := by
  simp [Op.equalIn, run_underlying hT]
theorem run_neNil {T : TypeId} {ms : Array (String × TypeId)} (hT : P.underlying T = some (.interface ms)) {v : Value} {b : Bool} (hv : (v = .nilIface ∧ b = false) ∨ ((∃ t y, v = .iface t y) ∧ b = true)) (w : World) : (binOp .neq T v .nilIface).run P w = .ok (.bool b) w := by
  rcases hv with ⟨rfl, rfl⟩ | ⟨⟨t, y, rfl⟩, rfl⟩
  · have : (Op.equal T .nilIface .nilIface).run P w = .ok true w := run_eqNil0 9999 hT w
    simp [binOp, this]
  · have : (Op.equal T (.iface t y) .nilIface).run P w = .ok false w := run_eqNil1 9999 hT t y w
    simp [binOp, this]

/-- if err := b.Complete(); err != nil { return err } -/
theorem s_errChk (K0 : KB P g av fl) (hfl : fl = true) {b' err R' : Nat} {r' : RS} (hb : a.get b' = pt R' 0) (hrd : RdS w g.tR S R' r') (herr : ErrAt g.gErr w) (hm6 : 6 < m) (he' : m ≤ err ∧ err < k0) (hm : m ≤ k0) (hk : k0 ≤ n) (hn : n + 4 ≤ a.tmps.size)
    (hbad : r'.bad = true → ∀ a' w', Pv 6 m k0 n a a' → (∃ t y, a'.get 6 = .iface t y) → Keeps (fun _ => False) w w' → E a' w')
    (hok : r'.bad = false → ∀ a' w', Pv 6 m k0 n a a' → Keeps (fun _ => False) w w' → K a' w') : NWP P (gErrChk g b' err n).1 (Rt K E) a w := by
  obtain ⟨ms, hT⟩ := K0.tErr hfl
  refine nwp_gS (LW_cons (s_call (x := 6) (m := m) (k0 := k0) K0.cmE hb (K0.cmC w S R' r' hrd herr) (.inr he') hm hk (by omega) (by omega) fun e w1 hR => ?_))
  obtain ⟨hk1, v, he, h0, h1⟩ := hR
  refine ⟨v, he, fun a1 hp1 hg1 => ?_⟩
  have hs1 := hp1.size
  have htest : ∀ (b : Bool) (K' : Act → World → Prop), (v = .nilIface ∧ b = false) ∨ ((∃ t y, v = .iface t y) ∧ b = true) → (∀ a', a'.eval (tm (n + 1 + 1)) = .bool b → Pv 6 k0 k0 (n + 1) a1 a' → K' a' w1) →
      wpList P [mk (some (n + 1)) (.move (tm err)), mk (some (n + 1 + 1)) (.binOp .neq g.tErr (tm (n + 1)) (.const .nilIface) 0)].toArray (Exit.then K' (Exit.then (LW P [] (n + 4) (Rt K E)) (Rt K E)))
        [mk (some (n + 1)) (.move (tm err)), mk (some (n + 1 + 1)) (.binOp .neq g.tErr (tm (n + 1)) (.const .nilIface) 0)] a1 w1 := by
    intro b K' hb hK'
    refine wl_move ?_
    rw [eval_tm, hg1]
    refine wl_value (v := .bool b) (w' := w1) ?_ (wpList_nil (hK' _ ?_ (((Pv.refl _ _ _ _ _).put _ (by omega)).put _ (by omega))))
    · have e1 : (a1.put (some (n + 1)) v).eval (tm (n + 1)) = v := by rw [eval_tm, get_put _ _ _ (by omega)]
      have e2 : (a1.put (some (n + 1)) v).eval (.const .nilIface) = .nilIface := rfl
      have hg : (eqGuard .neq g.tErr (tm (n + 1)) (.const .nilIface) v .nilIface).run P w1 = .ok () w1 := by
        rcases hb with ⟨rfl, _⟩ | ⟨⟨t, y, rfl⟩, _⟩ <;> simp [eqGuard, tm]
      have hr := run_neNil hT hb w1
      simp only [execOp, mk, e1, e2, Sem.run_bind, hg, Result.andThen_ok, hr, Sem.run_pure]
    · rw [eval_tm, get_put _ _ _ (by simp only [put_size]; omega)]
  refine LW_cons ?_
  cases hb' : r'.bad with
  | true =>
    obtain ⟨t, y, rfl⟩ := h1 hb'
    refine s_ifT (htest true _ (.inr ⟨⟨t, y, rfl⟩, rfl⟩) fun a2 he2 hp2 => ⟨he2, ?_⟩)
    have hs2 := hp2.size
    have herr2 : a2.get err = .iface t y := (hp2.get err (by omega) (.inl he'.2)).trans hg1
    refine nwp_gS (LW_cons (nwp_rg (wl_move (wl_assign (wpList_nil (LW_cons (.ret ?_)))))))
    rw [eval_tm, eval_tm, herr2, get_put _ _ _ (by simp only [gCall, gOps]; omega)]
    refine hbad hb' _ w1 ((hp1.trans ((hp2.low hm).mono (Nat.le_refl _) (by omega))).trans (((Pv.refl _ _ _ _ _).put _ ?_).put _ ?_)) ⟨t, y, get_put _ _ _ (by simp only [put_size]; omega)⟩ hk1
    · simp only [gCall, gOps]; omega
    · omega
  | false =>
    have hv0 := h0 hb'
    subst hv0
    refine s_ifF (htest false _ (.inl ⟨rfl, rfl⟩) fun a2 he2 hp2 => ⟨he2, .skip (LW_nil ?_)⟩)
    exact hok hb' a2 w1 (hp1.trans ((hp2.low hm).mono (Nat.le_refl _) (by omega))) hk1

end
end Go.Proofs.YtmkioomgfdpeiacDoor.Kx

/-
  TAGS, LOOPS: the loop over tags, its cases; a part that may be absent.
-/
namespace Go.Proofs.YtmkioomgfdpeiacDoor.Kx
open Go

theorem SrcAt.sl {w : World} {S : Nat} {X : Nat → Prop} {v : Value} {r : RS} (h : SrcAt w S v r) (hS : ¬ X S) : SlRp w X v r.src := by
  rcases h with ⟨h1, h2, _⟩ | ⟨o, c, h1, _, h3, h4, h5, h6⟩
  · exact .inl ⟨h1, h2⟩
  · exact .inr ⟨S, o, c, h1, hS, h5, h3, h4, h6⟩

section
variable {P : Program} {g : G} {av : PF → Bool} {fl : Bool} {cx : Cx} {fx : Bool} {ver : Int} {S R B O : Nat} {r : RS} {x m k0 n : Nat} {K N E : Act → World → Prop} {Q : Exit → Act → World → Prop} {a : Act} {w : World}

theorem wg_call {ops : Array Oper} {l : List Oper} {d j f : Nat} {b : Bool} {args : List Operand} {vs : Array Value} {R : Ending → World → Prop} (hy : yielded ops a.tmps j = some b) (hf : Ent P f) (hargs : (args.map a.eval).toArray = vs)
    (hc : Calls P f vs w R) (h : ∀ e w', R e w' → ∃ v, e = .returned v ∧ wpList P ops Q l (a.put (some d) v) w') :
    wpList P ops Q (⟨some d, .call ⟨.value (.func f), args.toArray, #[]⟩, 0, "", #[], some (j, b)⟩ :: l) a w := by
  refine wg_run (op := .call ⟨.value (.func f), args.toArray, #[]⟩) hy ?_
  unfold Oper.wp
  have : (execOp a.eval (⟨some d, .call ⟨.value (.func f), args.toArray, #[]⟩, 0, "", #[], some (j, b)⟩ : Oper)).run P w = .ok (.enter f vs) w := by
    have he : a.eval (.func f) = .func (.func f) #[] #[] := rfl
    simp only [execOp, resolve, he, Deferred.ofValue, invoke, Sem.run_bind, Sem.run_pure, Result.andThen_ok, Array.empty_append, Array.append_empty, List.map_toArray, hargs]
    exact hf _ _
  rw [this]
  exact hc.mono fun e w' hR => by
    obtain ⟨v, rfl, hh⟩ := h e w' hR
    exact hh

/-- if present := b.Int8(); present != -1 && b.Ok() -/
theorem s_present (K0 : KB P g av fl) (hav : av .i8 = true) (hho : hasF g.ok = true) (hrc : RC g cx fx ver S R B O r a w) (hc : CxOk cx m k0) {p : Nat} {body : GC} (hp : m ≤ p ∧ p < k0) (hk : k0 ≤ n) (hn : n + 6 ≤ a.tmps.size)
    (hyes : (rI 1 r).1 ≠ -1 → (rI 1 r).2.bad = false → ∀ a' w', Pv 6 m k0 n a a' → RdS w' g.tR S R (rI 1 r).2 → Keeps (· = R) w w' → NWP P (body (n + 6)).1 (Rt K E) a' w')
    (hno : ((rI 1 r).1 = -1 ∨ (rI 1 r).2.bad = true) → ∀ a' w', Pv 6 m k0 n a a' → RdS w' g.tR S R (rI 1 r).2 → Keeps (· = R) w w' → K a' w') : NWP P (gPresent g cx p body n).1 (Rt K E) a w := by
  have hbm := hc.b
  have hle := hc.le
  have h66 := hc.six
  refine nwp_gS (LW_cons (s_call (x := 6) (m := m) (k0 := k0) (K0.rdE _ hav) hrc.sb (K0.i8C hav w S R r hrc.rd hrc.SR) (.inr hp) hc.le hk (by omega) (by omega) fun e w1 hR => ?_))
  obtain ⟨he, h1, h2⟩ := hR
  refine ⟨_, he, fun a1 hp1 hg1 => ?_⟩
  have hs1 := hp1.size
  have hrc1 : RC g cx fx ver S R B O (rI 1 r).2 a1 w1 := hrc.step hc hp1 h1 h2 (fun _ _ h => .inl h)
  generalize hx : (rI 1 r).1 = y at *
  generalize hr' : (rI 1 r).2 = r' at *
  have htest : ∀ (b : Bool) (K' : Act → World → Prop), b = (decide (y ≠ -1) && !r'.bad) → (∀ a' w', a'.eval (tm (n + 1 + 4)) = .bool b → Pv 6 m k0 (n + 1) a1 a' → Keeps (fun _ => False) w1 w' → K' a' w') →
      wpList P [mk (some (n + 1)) (.move (tm p)), mk (some (n + 1 + 1)) (.binOp .neq g.tI8 (tm (n + 1)) (ki .i8 (-1)) 0), mk (some (n + 1 + 2)) (.move (tm (n + 1 + 1))), ⟨some (n + 1 + 3), .call ⟨.value (.func g.ok), #[tm cx.b], #[]⟩, 0, "", #[], some (2, true)⟩,
        mk (some (n + 1 + 4)) (.pick (tm (n + 1 + 2)) (tm (n + 1 + 3)) (.const (.bool false)))].toArray (Exit.then K' (Exit.then (LW P [] (gIf 4 5 (fun n => [mk (some n) (.move (tm p)), mk (some (n + 1)) (.binOp .neq g.tI8 (tm n) (ki .i8 (-1)) 0), mk (some (n + 2)) (.move (tm (n + 1))), ⟨some (n + 3), .call ⟨.value (.func g.ok), #[tm cx.b], #[]⟩, 0, "", #[], some (2, true)⟩,
    mk (some (n + 4)) (.pick (tm (n + 2)) (tm (n + 3)) (.const (.bool false)))]) body gSkip (n + 1)).2 (Rt K E)) (Rt K E)))
      [mk (some (n + 1)) (.move (tm p)), mk (some (n + 1 + 1)) (.binOp .neq g.tI8 (tm (n + 1)) (ki .i8 (-1)) 0), mk (some (n + 1 + 2)) (.move (tm (n + 1 + 1))), ⟨some (n + 1 + 3), .call ⟨.value (.func g.ok), #[tm cx.b], #[]⟩, 0, "", #[], some (2, true)⟩,
        mk (some (n + 1 + 4)) (.pick (tm (n + 1 + 2)) (tm (n + 1 + 3)) (.const (.bool false)))] a1 w1 := by
    intro b K' hb hK'
    refine wl_move ?_
    rw [eval_tm, hg1]
    refine wl_cmp (b := decide (y ≠ -1)) (p := y) (q := -1) (k := .i8) (by rw [eval_tm, get_put _ _ _ (by omega)]) rfl (.inr (.inr (.inr (.inr (.inr ⟨rfl, rfl⟩))))) ?_
    refine wl_move ?_
    rw [eval_tm, get_put _ _ _ (by simp only [put_size]; omega)]
    have hp3 : Pv 6 m k0 (n + 1) a1 (((a1.put (some (n + 1)) (.int .i8 y)).put (some (n + 1 + 1)) (.bool (decide (y ≠ -1)))).put (some (n + 1 + 2)) (.bool (decide (y ≠ -1)))) :=
      (((Pv.refl _ _ _ _ _).put _ (by omega)).put _ (by omega)).put _ (by omega)
    generalize hA : ((a1.put (some (n + 1)) (.int .i8 y)).put (some (n + 1 + 1)) (.bool (decide (y ≠ -1)))).put (some (n + 1 + 2)) (.bool (decide (y ≠ -1))) = A at hp3 ⊢
    have hsz : A.tmps.size = a1.tmps.size := hp3.size
    have hg2 : A.get (n + 1 + 2) = .bool (decide (y ≠ -1)) := by rw [← hA]; exact get_put _ _ _ (by simp only [put_size]; omega)
    have hyield : ∀ (ops : Array Oper), ops[2]? = some (mk (some (n + 1 + 2)) (.move (tm (n + 1 + 1)))) → yielded ops A.tmps 2 = some (decide (y ≠ -1)) := fun ops ho => yielded_of (d := n + 1 + 2) ho rfl (by rw [hsz]; omega) hg2
    have hAb : A.get cx.b = pt R 0 := by rw [hp3.get _ hbm.2 (.inl hbm.1)]; exact hrc1.sb
    by_cases hy : y = -1
    · subst hy
      refine wg_skip (c := false) (hyield _ rfl) (by simp) ?_
      refine wl_pick (b := false) (by rw [eval_tm, get_put_ne _ _ _ _ (by omega), hg2]; rfl) (wpList_nil ?_)
      refine hK' _ w1 ?_ ((hp3.put undef (d := n + 1 + 3) (by omega)).put _ (by omega)) (Keeps.refl _ _)
      rw [eval_tm, get_put _ _ _ (by simp only [put_size]; omega), hb]
      rfl
    · refine wg_call (b := true) (vs := #[pt R 0]) (by rw [hyield _ rfl]; simp [hy]) (K0.okE hho) (by simp [eval_tm, hAb]) (K0.okC hho w1 S R r' hrc1.rd) fun e2 w2 hR2 => ⟨_, hR2.1, ?_⟩
      refine wl_pick (b := true) (by rw [eval_tm, get_put_ne _ _ _ _ (by omega), hg2]; simp [hy]) (wpList_nil ?_)
      refine hK' _ w2 ?_ ((hp3.put _ (d := n + 1 + 3) (by omega)).put _ (by omega)) hR2.2
      rw [eval_tm, get_put _ _ _ (by simp only [put_size]; omega), hb]
      simp only [if_true]
      rw [eval_tm, get_put _ _ _ (by omega)]
      simp [hy]
  refine LW_cons ?_
  by_cases hy : y = -1 ∨ r'.bad = true
  · refine s_ifF (htest false _ (by rcases hy with h | h <;> simp [h]) fun a2 w2 he2 hp2 hk2 => ⟨he2, .skip (LW_nil (hno hy a2 w2 (hp1.trans (hp2.mono (Nat.le_refl _) (by omega))) (h1.keep hk2 id id) (h2.trans (hk2.mono fun _ _ h => h.elim))))⟩)
  · refine s_ifT (htest true _ (by simp at hy; simp [hy]) fun a2 w2 he2 hp2 hk2 => ⟨he2, ?_⟩)
    have := hyes (fun h => hy (.inl h)) (by simpa using fun h => hy (.inr h)) a2 w2 (hp1.trans (hp2.mono (Nat.le_refl _) (by omega))) (h1.keep hk2 id id) (h2.trans (hk2.mono fun _ _ h => h.elim))
    refine .mono this fun e a w hq => ?_
    cases e <;> first | exact LW_nil hq | exact hq

/-- a tag is asked: is it this one -/
theorem s_case {key : Nat} {dflt : Code} {t : Nat} {A : GC} {l : List (Nat × GC)} {kk : Nat} (hkey : a.get key = .int .u32 kk) (hkn : key < n) (hm : m ≤ k0) (hk : k0 ≤ n) (hn : n + 2 ≤ a.tmps.size)
    (hyes : kk = t → ∀ a', Pv x m k0 n a a' → NWP P (A (n + 2)).1 Q a' w) (hno : kk ≠ t → ∀ a', Pv x m k0 n a a' → a'.get key = .int .u32 kk → NWP P (gCases g key dflt l (A (n + 2)).2).1 Q a' w) : NWP P (gCases g key dflt ((t, A) :: l) n).1 Q a w := by
  have htest : ∀ (b : Bool) (K' : Act → World → Prop), b = decide ((kk : Int) = (t : Int)) → (∀ a', a'.eval (tm n) = .bool b → Pv x m k0 n a a' → a'.get key = .int .u32 kk → K' a' w) →
      wpList P [mk (some (n + 1)) (.binOp .eql g.tU32 (tm key) (ki .u32 t) 0), mk (some n) (.assign (tm (n + 1)))].toArray (Exit.then K' Q) [mk (some (n + 1)) (.binOp .eql g.tU32 (tm key) (ki .u32 t) 0), mk (some n) (.assign (tm (n + 1)))] a w := by
    intro b K' hb hK'
    refine wl_cmp (b := b) (p := kk) (q := t) (k := .u32) (by rw [eval_tm, hkey]) rfl (.inr (.inr (.inr (.inr (.inl ⟨rfl, hb⟩))))) (wl_assign (wpList_nil (hK' _ ?_ (((Pv.refl _ _ _ _ _).put _ (by omega)).put _ (by omega)) ?_)))
    · rw [eval_tm, eval_tm, get_put _ _ _ (by simp only [put_size]; omega), get_put _ _ _ (by omega)]
    · rw [get_put_ne _ _ _ _ (by omega), get_put_ne _ _ _ _ (by omega)]; exact hkey
  by_cases hkt : kk = t
  · exact .seq (.reg (htest true (fun a' w' => a'.eval (tm n) = .bool true ∧ NWP P (A (n + 2)).1 Q a' w') (by simp [hkt]) fun a' he hp hk' => ⟨he, hyes hkt a' hp⟩)) (fun a' w' h => .condT h.1 h.2) (fun e a w he hq => by rw [then_ne he] at hq; exact hq)
  · exact .seq (.reg (htest false (fun a' w' => a'.eval (tm n) = .bool false ∧ NWP P (gCases g key dflt l (A (n + 2)).2).1 Q a' w') (by simp; omega) fun a' he hp hk' => ⟨he, hno hkt a' hp hk'⟩)) (fun a' w' h => .condF h.1 h.2) (fun e a w he hq => by rw [then_ne he] at hq; exact hq)

/-- for i := b.Uvarint(); i > 0; i-- -/
theorem s_tagFor (K0 : KB P g av fl) (hfl : fl = true) (hrc : RC g cx fx ver S R B O r a w) (hc : CxOk cx m k0) {i b1 b2 : Nat} {body : GC} (hi : m ≤ i ∧ i < k0) (hk : k0 ≤ n) (hn : n + 5 ≤ a.tmps.size) (W : Nat → World → Prop)
    (h0 : ∀ w1, RdS w1 g.tR S R (rUv r).2 → Keeps (· = R) w w1 → W (rUv r).1 w1)
    (hbody : ∀ (c : Nat) (a1 : Act) (w1 : World), Pv 6 i k0 n a a1 → W (c + 1) w1 → NWP P (body (n + 5)).1 (Rt (fun a2 w2 => Pv 6 (i + 1) k0 (n + 5) a1 a2 ∧ W c w2) E) a1 w1)
    (hend : ∀ a1 w1, Pv 6 i k0 n a a1 → W 0 w1 → K a1 w1) : NWP P (gTagFor g cx i b1 b2 body n).1 (Rt K E) a w := by
  have hbm := hc.b
  have hle := hc.le
  have h66 := hc.six
  have hlt := rUv_lt r
  refine .seq (R := Rt (fun a' w' => Pv 6 i k0 n a a' ∧ a'.get i = .int .u32 ((rUv r).1 : Int) ∧ W (rUv r).1 w') E) (.reg (wl_call (vs := #[pt R 0]) (K0.uvE hfl) (by simp [eval_tm, hrc.sb]) (K0.uvC hfl w S R r hrc.rd hrc.SR) fun e w1 hR => ?_)) (fun a' w' hh => ?_)
    (fun e a w he hq => by cases e <;> first | exact absurd rfl he | exact hq)
  · obtain ⟨he, h1, h2⟩ := hR
    refine ⟨_, he, wl_assign (wpList_nil ?_)⟩
    rw [eval_tm, get_put _ _ _ (by omega)]
    exact ⟨((Pv.refl _ _ _ _ _).put _ (by omega)).put _ (by omega), get_put _ _ _ (by simp only [put_size]; omega), h0 w1 h1 h2⟩
  · obtain ⟨hp, hgi, hW0⟩ := hh
    refine .block (.loop (fun a1 w1 => ∃ c : Nat, c ≤ (rUv r).1 ∧ Pv 6 i k0 n a a1 ∧ a1.get i = .int .u32 (c : Int) ∧ W c w1) (fun a1 _ => (match a1.get i with | .int _ q => q | _ => 0).toNat) ⟨_, Nat.le_refl _, hp, hgi, hW0⟩ ?_)
    rintro a1 w1 ⟨c, hc1, hp1, hg1, hW⟩
    have hs1 := hp1.size
    have htest : ∀ (b : Bool), b = decide ((0 : Int) < (c : Int)) → wpList P [mk (some (n + 1)) (.move (tm i)), mk (some (n + 2)) (.binOp .gtr g.tU32 (tm (n + 1)) (ki .u32 0) 0)].toArray
        (Rt (fun a' w' => a'.eval (tm (n + 2)) = .bool b ∧ Pv 6 (i + 1) k0 n a1 a' ∧ w' = w1) E) [mk (some (n + 1)) (.move (tm i)), mk (some (n + 2)) (.binOp .gtr g.tU32 (tm (n + 1)) (ki .u32 0) 0)] a1 w1 := by
      intro b hb
      refine wl_move ?_
      rw [eval_tm, hg1]
      refine wl_cmp (b := b) (p := c) (q := 0) (k := .u32) (by rw [eval_tm, get_put _ _ _ (by omega)]) rfl (.inr (.inr (.inr (.inl ⟨rfl, hb⟩)))) (wpList_nil ?_)
      exact ⟨by rw [eval_tm, get_put _ _ _ (by simp only [put_size]; omega)], ((Pv.refl _ _ _ _ _).put _ (by omega)).put _ (by omega), rfl⟩
    cases c with
    | succ c =>
      refine .seq (R := Rt (fun a2 w2 => Pv 6 (i + 1) k0 n a1 a2 ∧ w2 = w1) E) ?_ (fun a2 w2 hh => ?_) (fun e a w he hq => by cases e <;> first | exact absurd rfl he | exact hq | exact hq.elim)
      · refine .seq (.reg (htest true (by simp))) (fun a2 w2 hh => .condT hh.1 (.skip hh.2)) (fun e a w he hq => by cases e <;> first | exact absurd rfl he | exact hq)
      · obtain ⟨hp2, rfl⟩ := hh
        have hp02 : Pv 6 i k0 n a a2 := hp1.trans (hp2.mono (by omega) (Nat.le_refl _))
        have hg2 : a2.get i = .int .u32 ((c + 1 : Nat) : Int) := by rw [hp2.get i (by omega) (.inl (by omega))]; exact hg1
        have hb := hbody c a2 w2 hp02 hW
        have hs2 := hp2.size
        refine .seq (R := Rt (fun a3 w3 => Pv 6 (i + 1) k0 (n + 5) a2 a3 ∧ W c w3) E) (.block (.mono hb fun e a w hq => by cases e <;> first | exact hq | exact hq.elim)) (fun a3 w3 hh => ?_) (fun e a w he hq => by cases e <;> first | exact absurd rfl he | exact hq | exact hq.elim)
        obtain ⟨hp3, hW3⟩ := hh
        have hs3 := hp3.size
        have hg3 : a3.get i = .int .u32 ((c + 1 : Nat) : Int) := by rw [hp3.get i (by omega) (.inl (by omega))]; exact hg2
        refine .reg (wl_move ?_)
        rw [eval_tm, hg3]
        have hwr : IntKind.u32.wrap (((c + 1 : Nat) : Int) - 1) = (c : Int) := by simp [IntKind.wrap, IntKind.bits, IntKind.signed]; omega
        refine wl_bin (v := .int .u32 (c : Int)) (k := .u32) (m := ((c + 1 : Nat) : Int)) (n := 1) (by rw [eval_tm, get_put _ _ _ (by omega)]) rfl (by simp) (by simp only [binOp, Op.intArith, hwr]; simp) ?_
        refine wl_assign (wpList_nil ?_)
        rw [eval_tm, get_put _ _ _ (by simp only [put_size]; omega)]
        have hgi' : (((a3.put (some (n + 3)) (.int .u32 ((c + 1 : Nat) : Int))).put (some (n + 4)) (.int .u32 (c : Int))).put (some i) (.int .u32 (c : Int))).get i = .int .u32 (c : Int) := get_put _ _ _ (by simp only [put_size]; omega)
        refine ⟨⟨c, by omega, ?_, hgi', hW3⟩, ?_⟩
        · exact ((hp02.trans (hp3.mono (by omega) (by omega))).put _ (by omega)).put _ (by omega) |>.put _ (by omega)
        · rw [hgi', hg1]
          simp only
          omega
    | zero =>
      refine .seq (R := fun e a w => e ≠ .normal ∧ Exit.inBlock b1 (Rt K E) e a w) ?_ (fun a2 w2 hh => absurd rfl hh.1) (fun e a w he hq => ?_)
      · refine .seq (R := Rt (fun a' w' => a'.eval (tm (n + 2)) = .bool false ∧ Pv 6 (i + 1) k0 n a1 a' ∧ w' = w1) E) (.reg (htest false (by simp))) (fun a2 w2 hh => .condF hh.1 (.exit ?_)) (fun e a w he hq => by cases e <;> first | exact absurd rfl he | exact ⟨by simp, hq⟩ | exact hq.elim)
        simp only [Exit.inBlock, if_true]
        refine ⟨by simp, ?_⟩
        obtain ⟨_, hp2, rfl⟩ := hh
        exact hend a2 w2 (hp1.trans (hp2.mono (by omega) (Nat.le_refl _))) hW
      · rw [then_ne he]; exact hq.2

theorem wp_callK {P : Program} {o : Oper} {d : Option Nat} {f : Nat} {args : List Operand} {vs : Array Value} {R : Ending → World → Prop} {K' : Act → World → Prop} {Q' : Exit → Act → World → Prop} (ho : o = cl d f args) (hf : Ent P f) (hargs : (args.map a.eval).toArray = vs)
    (hc : Calls P f vs w R) (h : ∀ e w', R e w' → ∃ v, e = .returned v ∧ K' (a.put d v) w') : o.wp P a w K' Q' := by
  subst ho
  unfold Oper.wp
  have : (execOp a.eval (cl d f args)).run P w = .ok (.enter f vs) w := by
    have he : a.eval (.func f) = .func (.func f) #[] #[] := rfl
    simp only [cl, execOp, mk, resolve, he, Deferred.ofValue, invoke, Sem.run_bind, Sem.run_pure, Result.andThen_ok, Array.empty_append, Array.append_empty, List.map_toArray, hargs]
    exact hf _ _
  rw [this]
  exact hc.mono fun e w' hR => by
    obtain ⟨v, rfl, hh⟩ := h e w' hR
    exact hh

/-- s.UnknownTags.Set(key, b.Span(int(b.Uvarint()))) -/
theorem s_unknown (K0 : KB P g av fl) (hfl : fl = true) (hrc : RC g cx fx ver S R B O r a w) (hc : CxOk cx m k0) {key T k off kk : Nat} {cur : Array Value} {te : TypeId} {mm : Value} {t : List (Nat × Bs)} (hF : FldIs P T k g.tTags off true 1) (hkey : a.get key = .int .u32 kk) (hkk : kk < 4294967296)
    (hB : w.heap[B]? = some (.cells cur te (0, 0))) (hO : cur[O + off]? = some mm) (htg : TgRp w (fun k => k = B ∨ k = R) mm t) (hqS : ∀ p, mm = .map (some p) → p ≠ S) (hkn : key < n) (hk : k0 ≤ n) (hn : n + 8 ≤ a.tmps.size)
    (h : ∀ a' w' q, Pv 6 m k0 n a a' → RdS w' g.tR S R (rSpan (rUv r).1 (rUv r).2).2 → (mm = .map none → w.heap.size ≤ q) → (∀ p, mm = .map (some p) → q = p) → Keeps (fun b => b = R ∨ b = B ∨ b = q) w w' →
      w'.heap[B]? = some (.cells (cur.setIfInBounds (O + off) (.map (some q))) te (0, 0)) →
      (∀ X : Nat → Prop, ¬ X q → (∀ k, X k → k < w.heap.size) → ¬ X S → TgRp w (fun k => X k ∨ k = R) mm t → TgRp w' X (.map (some q)) (setTag kk (rSpan (rUv r).1 (rUv r).2).1.octets t)) → K a' w') :
    NWP P (gUnknown g cx key T k n) (Exit.then K Q) a w := by
  have hbm := hc.b
  have hle := hc.le
  have hlt := rUv_lt r
  have hBlt : B < w.heap.size := (Array.getElem?_eq_some_iff.1 hB).1
  have hL : loudOf [mk (some n) (.move (tm cx.s)), mk (some (n + 1)) (.nilCheck (tm n)), mk (some (n + 2)) (.fieldAddr T (tm (n + 1)) k), mk (some (n + 3)) (.move (tm key)), cl (some (n + 4)) g.uv [tm cx.b],
    mk (some (n + 5)) (.convert g.tU32 g.tInt (tm (n + 4))), cl (some (n + 6)) g.span [tm cx.b, tm (n + 5)], cl (some (n + 7)) g.set [tm (n + 2), tm (n + 3), tm (n + 6)]] = [false, false, false, false, true, true, true, true] := by
    simp [loudOf, acts, mk, cl, rdsOf, Op.operands, tm]
  refine .drw (fun _ => True) ?_
  rw [hL]
  simp only [freesOf, loudsOf]
  obtain ⟨fs, f, hf1, hf2, hf3, hf4⟩ := hF.fld
  have hsz1 : ∀ w, (sizeOf f.type).run P w = .ok (0 + 1) w := fun w => by rw [hf4]; exact hF.var.size w
  refine ⟨pt B O, fun w _ => ?_, pt B O, fun w _ => ?_, pt B (O + off), fun w _ => ?_, .int .u32 kk, fun w _ => ?_, ?_⟩
  · have : a.eval (tm cx.s) = pt B O := hrc.ss
    simp [execOp, mk, this]
  · have : (a.put (some n) (pt B O)).eval (tm n) = pt B O := by rw [eval_tm, get_put _ _ _ (by omega)]
    simp only [mk, pt] at this ⊢
    simp [execOp, this]
  · have : ((a.put (some n) (pt B O)).put (some (n + 1)) (pt B O)).eval (tm (n + 1)) = pt B O := by rw [eval_tm, get_put _ _ _ (by simp only [put_size]; omega)]
    simp only [mk, pt] at this ⊢
    simp [execOp, this, Instr.fieldAt, run_underlying hf1, hf2, hf3, fieldPlace, hsz1, Instr.sureAddr, Addr.add_lit]
  · have : (((a.put (some n) (pt B O)).put (some (n + 1)) (pt B O)).put (some (n + 2)) (pt B (O + off))).eval (tm key) = .int .u32 kk := by
      rw [eval_tm, get_put_ne _ _ _ _ (by omega), get_put_ne _ _ _ _ (by omega), get_put_ne _ _ _ _ (by omega)]; exact hkey
    simp only [mk] at this ⊢
    simp [execOp, this]
  · simp only [mk]
    have hp4 : Pv 6 m k0 n a ((((a.put (some n) (pt B O)).put (some (n + 1)) (pt B O)).put (some (n + 2)) (pt B (O + off))).put (some (n + 3)) (.int .u32 kk)) :=
      ((((Pv.refl _ _ _ _ _).put _ (by omega)).put _ (by omega)).put _ (by omega)).put _ (by omega)
    have hg2 : ((((a.put (some n) (pt B O)).put (some (n + 1)) (pt B O)).put (some (n + 2)) (pt B (O + off))).put (some (n + 3)) (.int .u32 kk)).get (n + 2) = pt B (O + off) := by
      rw [get_put_ne _ _ _ _ (by omega), get_put _ _ _ (by simp only [put_size]; omega)]
    have hg3 : ((((a.put (some n) (pt B O)).put (some (n + 1)) (pt B O)).put (some (n + 2)) (pt B (O + off))).put (some (n + 3)) (.int .u32 kk)).get (n + 3) = .int .u32 kk := get_put _ _ _ (by simp only [put_size]; omega)
    generalize hA : (((a.put (some n) (pt B O)).put (some (n + 1)) (pt B O)).put (some (n + 2)) (pt B (O + off))).put (some (n + 3)) (.int .u32 kk) = A at hp4 hg2 hg3 ⊢
    have hsz : A.tmps.size = a.tmps.size := hp4.size
    have hAb : A.get cx.b = pt R 0 := (hp4.get _ hbm.2 (.inl hbm.1)).trans hrc.sb
    have hkd : Keeps (fun _ => False) w w.drew := Keeps.drew _ _
    have hrd : RdS w.drew g.tR S R r := hrc.rd.keep hkd id id
    refine ⟨trivial, wp_callK (vs := #[pt R 0]) rfl (K0.uvE hfl) (by simp [eval_tm, hAb]) (K0.uvC hfl w.drew S R r hrd hrc.SR) fun e w1 hR => ?_⟩
    obtain ⟨he, h1, h2⟩ := hR
    refine ⟨_, he, trivial, ?_⟩
    have hwr : IntKind.i64.wrap ((rUv r).1 : Int) = ((rUv r).1 : Int) := by simp [IntKind.wrap, IntKind.bits, IntKind.signed]; omega
    have hcv : (execOp (A.put (some (n + 4)) (.int .u32 ((rUv r).1 : Int))).eval (⟨some (n + 5), .convert g.tU32 g.tInt (tm (n + 4)), 0, "", #[], none⟩ : Oper)).run P w1 = .ok (.value (.int .i64 ((rUv r).1 : Int))) w1 := by
      have : (A.put (some (n + 4)) (.int .u32 ((rUv r).1 : Int))).eval (tm (n + 4)) = .int .u32 ((rUv r).1 : Int) := by rw [eval_tm, get_put _ _ _ (by omega)]
      simp [execOp, this, convert, run_underlying (K0.tU32 hfl), run_underlying K0.tInt, Conv.intToInt, hwr]
    unfold Oper.wp
    rw [hcv]
    refine ⟨trivial, ?_⟩
    have hb2 : ((A.put (some (n + 4)) (.int .u32 ((rUv r).1 : Int))).put (some (n + 5)) (.int .i64 ((rUv r).1 : Int))).get cx.b = pt R 0 := by
      rw [get_put_ne _ _ _ _ (by omega), get_put_ne _ _ _ _ (by omega)]; exact hAb
    have hb5 : ((A.put (some (n + 4)) (.int .u32 ((rUv r).1 : Int))).put (some (n + 5)) (.int .i64 ((rUv r).1 : Int))).get (n + 5) = .int .i64 ((rUv r).1 : Int) := get_put _ _ _ (by simp only [put_size]; omega)
    refine wp_callK (vs := #[pt R 0, .int .i64 ((rUv r).1 : Int)]) rfl (K0.spanE hfl) (by simp [eval_tm, hb2, hb5]) (K0.spanC hfl w1 S R (rUv r).2 ((rUv r).1 : Int) (by omega) (by omega) h1 hrc.SR) fun e2 w2 hR2 => ?_
    obtain ⟨v, he2, h3, h4, h5⟩ := hR2
    refine ⟨_, he2, trivial, ?_⟩
    have hkR : Keeps (· = R) w w2 := ((hkd.mono fun _ _ h => h.elim).trans h2).trans h4
    have hB2 : w2.heap[B]? = some (.cells cur te (0, 0)) := by rw [hkR.block B hBlt hrc.BR]; exact hB
    have htg2 : TgRp w2 (fun k => k = B ∨ k = R) mm t := htg.keep (hkR.mono fun _ _ h => .inr h)
    refine wp_callK (vs := #[pt B (O + off), .int .u32 kk, v]) rfl (K0.setE hfl) ?_ (K0.setC hfl w2 B (O + off) mm t kk v _ cur te hkk hB2 hO (htg2.mono fun _ _ h => .inl h) (h5.sl hrc.BS.symm)) fun e3 w3 hR3 => ?_
    · simp only [List.map_cons, List.map_nil, eval_tm]
      rw [get_put _ _ _ (by simp only [put_size]; omega), get_put_ne _ _ _ _ (show n + 2 ≠ n + 6 by omega), get_put_ne _ _ _ _ (show n + 2 ≠ n + 5 by omega), get_put_ne _ _ _ _ (show n + 2 ≠ n + 4 by omega), hg2,
        get_put_ne _ _ _ _ (show n + 3 ≠ n + 6 by omega), get_put_ne _ _ _ _ (show n + 3 ≠ n + 5 by omega), get_put_ne _ _ _ _ (show n + 3 ≠ n + 4 by omega), hg3]
    obtain ⟨he3, q, w', rfl, h6, h7, h8, h9, h10⟩ := hR3
    refine ⟨_, he3, trivial, ?_⟩
    have hqn : mm = .map none → w.heap.size ≤ q := fun hm0 => by rw [h7 hm0]; exact hkR.size
    have hqold : q < w2.heap.size → ¬ (q = B ∨ q = R ∨ q = S) := fun hlt hq => by
      rcases htg2 with ⟨hm0, _⟩ | ⟨p, hp1, hp2, _⟩
      · have := h7 hm0; omega
      · have := h8 p hp1
        subst this
        rcases hq with hq | hq | hq
        · exact hp2 (.inl hq)
        · exact hp2 (.inr hq)
        · exact hqS _ hp1 hq
    have hk6 : Keeps (fun b => (b = B ∨ b = q) ∧ b < w2.heap.size) w2 w3 := h6.mono fun _ hk hh => ⟨hh, hk⟩
    refine h _ w3 q ?_ (h3.keep hk6 (fun hh => ?_) (fun hh => ?_)) hqn h8 ((hkR.mono fun _ _ h => .inl h).trans (h6.mono fun _ _ h => .inr h)) h9 fun X hXq hX hXS hT => ?_
    · exact (((hp4.put _ (by omega)).put _ (by omega)).put _ (by omega)).put _ (by omega)
    · rcases hh with ⟨hh | hh, hlt2⟩
      · exact hrc.BS hh.symm
      · exact hqold (hh ▸ hlt2) (.inr (.inr hh.symm))
    · rcases hh with ⟨hh | hh, hlt2⟩
      · exact hrc.BR hh.symm
      · exact hqold (hh ▸ hlt2) (.inr (.inl hh.symm))
    · exact h10 X hXq (fun k hk => Nat.lt_of_lt_of_le (hX k hk) hkR.size) (h5.sl fun h => h.elim hXS fun h => hqold (h ▸ Nat.lt_of_lt_of_le hrc.Slt hkR.size) (.inr (.inr h.symm))) ((hT.keep (hkR.mono fun _ _ h => .inr h)).mono fun _ _ h => .inl h)

end
end Go.Proofs.YtmkioomgfdpeiacDoor.Kx
