/- A symbolic executor for code over words: its state and its steps. -/
import Derived.Test.YtcpnimnilojooaaSy1
import Derived.Laws.Bits64
import Derived.Laws.BitsLemmas
import Derived.Laws.Rows
import Derived.Laws.StructEq
namespace Go.Fiat
open Go

/-- A function of the tables that is not entered. `aggs`: m arrays of len words (or bytes) whose numbers are below p (0: nothing is asked), an array of n words comes back. `slis`: m slices of n words whose numbers are below p, then a slice whose number is p; a new slice of n words, of the type ty, comes back. -/
inductive Orc where
  | aggs (k : Kind) (p len : Nat) (byt : Bool) (m n : Nat)
  | slis (k : Kind) (p m n ty : Nat)
  | less
  | same
  | consts (l : List Nat) (ty : Nat)
  | one (ty : Nat)
  | ofB (ty : Nat)

/-- What is known of the program: its types' and functions' numbers. `arr`: array types, their length, whether of words (else of bytes). `mul`, `addF`, `subF`, `cmov`: one more than the function's number (0: there is none). -/
structure Tab where
  arr : List (Nat × Nat × Bool)
  word : List Nat
  byte : List Nat
  mul : Nat
  addF : Nat
  subF : Nat
  cmov : Nat
  funs : List (Nat × Func)
  orcs : List (Nat × Orc)

structure St where
  N : Nat
  tm : Tree
  mem : List (Nat × List (Bool × Ref))
  n : Nat
  cb : Nat
  pc : List (Nat × Bool)
  out : List Ins
  deriving DecidableEq

def isIn (t : Nat) : List Nat → Bool
  | [] => false
  | x :: r => match Nat.beq t x with
    | true => true
    | false => isIn t r

theorem isIn_mem {t : Nat} : ∀ {l : List Nat}, isIn t l = true → t ∈ l
  | x :: r, h => by
    unfold isIn at h
    split at h
    · rename_i h1; rw [Nat.eq_of_beq_eq_true h1]; exact List.mem_cons_self
    · exact List.mem_cons_of_mem _ (isIn_mem h)

def look {α : Type} (t : Nat) : List (Nat × α) → Option α
  | [] => none
  | x :: r => match Nat.beq t x.1 with
    | true => some x.2
    | false => look t r

theorem look_mem {α : Type} {t : Nat} {a : α} : ∀ {l : List (Nat × α)}, look t l = some a → (t, a) ∈ l
  | x :: r, h => by
    unfold look at h
    split at h
    · rename_i h1
      have h2 : x.2 = a := Option.some.inj h
      rw [Nat.eq_of_beq_eq_true h1, ← h2]; exact List.mem_cons_self
    · exact List.mem_cons_of_mem _ (look_mem h)

/-- A block's content is turned. -/
def updBlk : List (Nat × List (Bool × Ref)) → Nat → (List (Bool × Ref) → Option (List (Bool × Ref))) → Option (List (Nat × List (Bool × Ref)))
  | [], _, _ => none
  | b :: r, 0, g => match g b.2 with
    | some l => some ((b.1, l) :: r)
    | none => none
  | b :: r, k + 1, g => match updBlk r k g with
    | some r' => some (b :: r')
    | none => none

def setAt (o : Nat) (x : Bool × Ref) (l : List (Bool × Ref)) : Option (List (Bool × Ref)) :=
  match Nat.blt o l.length with
  | true => some (l.set o x)
  | false => none

def setAll (m l : List (Bool × Ref)) : Option (List (Bool × Ref)) :=
  match Nat.beq l.length m.length with
  | true => some m
  | false => none

/-- The references of a row that holds words alone (or bytes alone). -/
def refsOf (k : Bool) : List (Bool × Ref) → Option (List Ref)
  | [] => some []
  | (k', r) :: l => match k', k, refsOf k l with
    | true, true, some rs => some (r :: rs)
    | false, false, some rs => some (r :: rs)
    | _, _, _ => none

theorem refsOf_eq {k : Bool} : ∀ {l : List (Bool × Ref)} {rs : List Ref}, refsOf k l = some rs → l = rs.map fun r => (k, r)
  | [], rs, h => by rw [← Option.some.inj h]; rfl
  | (k', r) :: l, rs, h => by
    unfold refsOf at h
    split at h
    · rename_i h1; rw [← Option.some.inj h, List.map_cons, refsOf_eq h1]
    · rename_i h1; rw [← Option.some.inj h, List.map_cons, refsOf_eq h1]
    · cases h

def opnd (s : St) : Operand → Option AV
  | .tmp t => s.tm.get t
  | .const (.int .u64 (.ofNat n)) => match Nat.blt n 18446744073709551616 with
    | true => some (.w (.k n))
    | false => none
  | .const (.int .i64 (.ofNat n)) => some (.int n)
  | .const (.bool true) => some (.bool false (.k 1))
  | .const (.bool false) => some (.bool false (.k 0))
  | _ => none

def opnds (s : St) : List Operand → Option (List AV)
  | [] => some []
  | x :: r => match opnd s x, opnds s r with
    | some a, some l => some (a :: l)
    | _, _ => none

def natOf : Operand → Option Nat
  | .const (.int _ (.ofNat n)) => some n
  | _ => none

def St.put (s : St) (dst : Option Tmp) (av : Option AV) : Option St :=
  match dst with
  | some d => match Nat.blt d s.N with
    | true => some { s with tm := s.tm.set 14 d av }
    | false => none
  | none => some s

/-- One state, if there is one. -/
def St.put1 (s : St) (dst : Option Tmp) (av : Option AV) : Option (List St) :=
  match s.put dst av with
  | some s' => some [s']
  | none => none

def isBit (s : St) : Ref → Bool
  | .k n => Nat.ble n 1
  | .v i => s.cb.testBit i

/-- Both truth values that a reference may have on this way. -/
def splitB (s : St) (neg : Bool) : Ref → List (Bool × St)
  | .k n => [(neg != !(Nat.beq n 0), s)]
  | .v i => match look i s.pc with
    | some b => [(neg != b, s)]
    | none => [(neg != true, { s with pc := (i, true) :: s.pc }), (neg != false, { s with pc := (i, false) :: s.pc })]

/-- The results of all, none of them empty. -/
def collect {α β : Type} (f : α → Option (List β)) : List α → Option (List β)
  | [] => some []
  | a :: r => match f a with
    | some (x :: xs) => match collect f r with
      | some l => some ((x :: xs) ++ l)
      | none => none
    | _ => none

theorem collect_mem {α β : Type} {f : α → Option (List β)} : ∀ {l : List α} {L : List β}, collect f l = some L → ∀ a ∈ l, ∃ x xs, f a = some (x :: xs) ∧ ∀ y ∈ x :: xs, y ∈ L
  | a :: r, L, h, b, hb => by
    unfold collect at h
    split at h
    · rename_i x xs hx
      split at h
      · rename_i l hl
        have h1 := Option.some.inj h
        rcases List.mem_cons.1 hb with rfl | hb
        · exact ⟨x, xs, hx, fun y hy => by rw [← h1]; exact List.mem_append_left _ hy⟩
        · obtain ⟨x', xs', h2, h3⟩ := collect_mem hl b hb
          exact ⟨x', xs', h2, fun y hy => by rw [← h1]; exact List.mem_append_right _ (h3 y hy)⟩
      · cases h
    · cases h

theorem collect_from {α β : Type} {f : α → Option (List β)} : ∀ {l : List α} {L : List β}, collect f l = some L → ∀ y ∈ L, ∃ a ∈ l, ∃ L', f a = some L' ∧ y ∈ L'
  | [], L, h, y, hy => by rw [← Option.some.inj h] at hy; cases hy
  | a :: r, L, h, y, hy => by
    unfold collect at h
    split at h
    · rename_i x xs hx
      split at h
      · rename_i l hl
        rw [← Option.some.inj h] at hy
        rcases List.mem_append.1 hy with hy | hy
        · exact ⟨a, List.mem_cons_self, _, hx, hy⟩
        · obtain ⟨b, hb, L', h1, h2⟩ := collect_from hl y hy
          exact ⟨b, List.mem_cons_of_mem _ hb, L', h1, h2⟩
      · cases h
    · cases h

/-- Operations that leave the world alone and do not look at it. -/
def pureStep (T : Tab) (o : Oper) (s : St) : Option (List St) :=
  match o.op with
  | .move x | .assign x => match opnd s x with
    | some av => s.put1 o.dst (some av)
    | none => none
  | .pick c x y => match opnd s c with
    | some (.bool neg r) => collect (fun z => match z.1 with
      | true => match opnd s x with
        | some a => z.2.put1 o.dst (some a)
        | none => none
      | false => match opnd s y with
        | some b => z.2.put1 o.dst (some b)
        | none => none) (splitB s neg r)
    | _ => none
  | .unOp .not _ x => match opnd s x with
    | some (.bool neg r) => s.put1 o.dst (some (.bool (!neg) r))
    | _ => none
  | .nilCheck x => match opnd s x with
    | some (.cell k off) => s.put1 o.dst (some (.cell k off))
    | _ => none
  | .indexAddr t x i => match opnd s x, natOf i, look t T.arr with
    | some (.cell k off), some j, some n => match Nat.blt j n.1 with
      | true => s.put1 o.dst (some (.cell k (off + j)))
      | false => none
    | _, _, _ => none
  | .slice t x none none none => match opnd s x, look t T.arr with
    | some (.cell k 0), some n => match s.mem[k]? with
      | some b => match Nat.beq b.2.length n.1 with
        | true => s.put1 o.dst (some (.slice k n.1))
        | false => none
      | none => none
    | _, _ => none
  | .convert src dst x => match opnd s x with
    | some (.w r) => match isIn src T.word && isIn dst T.word with
      | true => s.put1 o.dst (some (.w r))
      | false => match isIn src T.word && isIn dst T.byte with
        | true => St.put1 { s with n := s.n + 1, out := .low s.n r :: s.out } o.dst (some (.b (.v s.n)))
        | false => none
    | some (.b r) => match isIn src T.byte && isIn dst T.word with
      | true => s.put1 o.dst (some (.w r))
      | false => none
    | _ => none
  | .binOp .add _ x y _ => match opnd s x, opnd s y with
    | some (.w r), some (.w r') => St.put1 { s with n := s.n + 1, out := .plus s.n r r' :: s.out } o.dst (some (.w (.v s.n)))
    | _, _ => none
  | .binOp .shl _ x y _ => match opnd s x, natOf y with
    | some (.w r), some k => match Nat.blt k 64 with
      | true => St.put1 { s with n := s.n + 1, out := .shl s.n r k :: s.out } o.dst (some (.w (.v s.n)))
      | false => none
    | _, _ => none
  | .binOp .shr _ x y _ => match opnd s x, natOf y with
    | some (.w r), some k => match Nat.blt k 64 with
      | true => St.put1 { s with n := s.n + 1, out := .shr s.n r k :: s.out } o.dst (some (.w (.v s.n)))
      | false => none
    | _, _ => none
  | .binOp .eql t x y _ => match opnd s x, opnd s y, look t T.arr with
    | some (.agg l), some (.agg l'), some n => match refsOf n.2 l, refsOf n.2 l' with
      | some xs, some ys => match Nat.beq xs.length n.1 && Nat.beq ys.length n.1 with
        | true => St.put1 { s with n := s.n + 1, out := .same s.n xs ys :: s.out } o.dst (some (.bool false (.v s.n)))
        | false => none
      | _, _ => none
    | _, _, _ => none
  | .build t parts => match look t T.arr, parts.toList with
    | some n, [] => s.put1 o.dst (some (.agg (List.replicate n.1 (n.2, .k 0))))
    | _, _ => none
  | .extract (.tmp t) j => match s.tm.get t with
    | some (.pair r r') => match j with
      | 0 => s.put1 o.dst (some (.w r))
      | 1 => s.put1 o.dst (some (.w r'))
      | _ => none
    | _ => none
  | .call c => match c.callee with
    | .value (.func f) => match Nat.beq (f + 1) T.addF with
      | true => match c.args.toList with
        | [x, y, z] => match opnd s x, opnd s y, opnd s z with
          | some (.w r), some (.w r'), some (.w c) => match isBit s c with
            | true => St.put1 { s with n := s.n + 2, cb := s.cb ||| 2 ^ (s.n + 1), out := .add s.n r r' c :: s.out } o.dst (some (.pair (.v s.n) (.v (s.n + 1))))
            | false => none
          | _, _, _ => none
        | _ => none
      | false => match Nat.beq (f + 1) T.subF with
        | true => match c.args.toList with
          | [x, y, z] => match opnd s x, opnd s y, opnd s z with
            | some (.w r), some (.w r'), some (.w c) => match isBit s c with
              | true => St.put1 { s with n := s.n + 2, cb := s.cb ||| 2 ^ (s.n + 1), out := .sub s.n r r' c :: s.out } o.dst (some (.pair (.v s.n) (.v (s.n + 1))))
              | false => none
            | _, _, _ => none
          | _ => none
        | false => none
    | _ => none
  | _ => none

/-- How a call of a function of the tables that is entered goes. -/
abbrev Handler := Func → List AV → St → Option (List (Option AV × St))

def vars (d n : Nat) : List Ref := (List.range n).map fun i => .v (d + i)

/-- All known, and a number below p (or p itself). -/
def consts? : List Ref → Option (List Nat)
  | [] => some []
  | .k n :: r => match consts? r with
    | some l => some (n :: l)
    | none => none
  | .v _ :: _ => none

def isP (p : Nat) (xs : List Ref) : Bool := match consts? xs with
  | some l => Nat.beq (wval l) p
  | none => false

/-- That these words' number is below p is known on this way. -/
def knownLess (s : St) (p : Nat) (xs : List Ref) : Bool :=
  (match consts? xs with
    | some l => Nat.blt (wval l) p
    | none => false) ||
  s.out.any fun i => match i with
    | .less d ys zs => decide (ys = xs) && isP p zs && decide ((d, true) ∈ s.pc)
    | .fn d n k _ _ => decide (xs = vars d n) && Nat.blt 0 k.bound && Nat.ble k.bound p
    | _ => false

/-- Arrays of len words or bytes, each below p. -/
def aggArgs (s : St) (p len : Nat) (byt : Bool) : List AV → Option (List (List Ref))
  | [] => some []
  | .agg l :: r => match refsOf (!byt) l, aggArgs s p len byt r with
    | some xs, some ys => match Nat.beq xs.length len && (Nat.beq p 0 || knownLess s p xs) with
      | true => some (xs :: ys)
      | false => none
    | _, _ => none
  | _ :: _ => none

/-- A slice's references: a whole block of words (or bytes). -/
def sliceArg (s : St) (k : Bool) : AV → Option (List Ref)
  | .slice b len => match s.mem[b]? with
    | some blk => match refsOf k blk.2 with
      | some xs => match Nat.beq xs.length len with
        | true => some xs
        | false => none
      | none => none
    | none => none
  | _ => none

/-- Slices of n words below p, then one that holds p. -/
def sliceArgs (s : St) (p n : Nat) : Nat → List AV → Option (List (List Ref))
  | 0, [a] => match sliceArg s true a with
    | some xs => match Nat.beq xs.length n && isP p xs with
      | true => some []
      | false => none
    | none => none
  | m + 1, a :: r => match sliceArg s true a, sliceArgs s p n m r with
    | some xs, some ys => match Nat.beq xs.length n && knownLess s p xs with
      | true => some (xs :: ys)
      | false => none
    | _, _ => none
  | _, _ => none

def words (xs : List Ref) : List (Bool × Ref) := xs.map fun r => (true, r)

def orcStep (o : Orc) (args : List AV) (dst : Option Tmp) (s : St) : Option (List St) :=
  match o with
  | .aggs k p len byt m n => match Nat.beq args.length m, aggArgs s p len byt args with
    | true, some xs => St.put1 { s with n := s.n + n, out := .fn s.n n k byt xs :: s.out } dst (some (.agg (words (vars s.n n))))
    | _, _ => none
  | .slis k p m n ty => match sliceArgs s p n m args with
    | some xs => St.put1 { s with n := s.n + n, out := .fn s.n n k false xs :: s.out, mem := s.mem ++ [(ty, words (vars s.n n))] } dst (some (.slice s.mem.length n))
    | none => none
  | .less => match args with
    | [a, b] => match sliceArg s true a, sliceArg s true b with
      | some xs, some ys => match Nat.beq xs.length ys.length && Nat.blt xs.length 65536 with
        | true => St.put1 { s with n := s.n + 1, out := .less s.n xs ys :: s.out } dst (some (.bool false (.v s.n)))
        | false => none
      | _, _ => none
    | _ => none
  | .same => match args with
    | [a, b] => match sliceArg s true a, sliceArg s true b with
      | some xs, some ys => match Nat.beq xs.length ys.length && Nat.blt xs.length 65536 with
        | true => St.put1 { s with n := s.n + 1, out := .same s.n xs ys :: s.out } dst (some (.bool false (.v s.n)))
        | false => none
      | _, _ => none
    | _ => none
  | .consts l ty => match args with
    | [] => St.put1 { s with mem := s.mem ++ [(ty, words (l.map .k))] } dst (some (.slice s.mem.length l.length))
    | _ => none
  | .one ty => match args with
    | [.int n] => match Nat.blt 0 n && Nat.blt n 65536 with
      | true => St.put1 { s with mem := s.mem ++ [(ty, words (.k 1 :: List.replicate (n - 1) (.k 0)))] } dst (some (.slice s.mem.length n))
      | false => none
    | _ => none
  | .ofB ty => match args with
    | [a, .int n] => match sliceArg s false a with
      | some xs => match Nat.ble xs.length (8 * n) && Nat.blt n 65536 with
        | true => St.put1 { s with n := s.n + n, out := .fn s.n n .idv true [xs] :: s.out, mem := s.mem ++ [(ty, words (vars s.n n))] } dst (some (.slice s.mem.length n))
        | false => none
      | none => none
    | _ => none

/-- Whatever operation. -/
def opStep (T : Tab) (H : Handler) (o : Oper) (s : St) : Option (List St) :=
  match o.op with
  | .load t x => match opnd s x with
    | some (.cell k off) => match s.mem[k]? with
      | some b => match isIn t T.word || isIn t T.byte with
        | true => match b.2[off]? with
          | some x => s.put1 o.dst (some (AV.ofS x))
          | none => none
        | false => match look t T.arr, off with
          | some n, 0 => match Nat.beq b.2.length n.1 with
            | true => s.put1 o.dst (some (.agg b.2))
            | false => none
          | _, _ => none
      | none => none
    | _ => none
  | .store t x y => match opnd s x, opnd s y with
    | some (.cell k off), some (.w r) => match isIn t T.word || isIn t T.byte, updBlk s.mem k (setAt off (true, r)), o.dst with
      | true, some m, none => some [{ s with mem := m }]
      | _, _, _ => none
    | some (.cell k off), some (.b r) => match isIn t T.word || isIn t T.byte, updBlk s.mem k (setAt off (false, r)), o.dst with
      | true, some m, none => some [{ s with mem := m }]
      | _, _, _ => none
    | some (.cell k 0), some (.agg l) => match look t T.arr, updBlk s.mem k (setAll l), o.dst with
      | some n, some m, none => match Nat.beq l.length n.1 with
        | true => some [{ s with mem := m }]
        | false => none
      | _, _, _ => none
    | _, _ => none
  | .alloc t => match isIn t T.word with
    | true => St.put1 { s with mem := s.mem ++ [(t, [(true, .k 0)])] } o.dst (some (.cell s.mem.length 0))
    | false => match look t T.arr with
      | some n => St.put1 { s with mem := s.mem ++ [(t, List.replicate n.1 (n.2, .k 0))] } o.dst (some (.cell s.mem.length 0))
      | none => none
  | .box t x => match opnd s x with
    | some (.agg l) => St.put1 { s with mem := s.mem ++ [(t, l)] } o.dst (some (.cell s.mem.length 0))
    | _ => none
  | .call c => match c.callee with
    | .value (.func f) => match opnds s c.args.toList with
      | some args => match look f T.orcs with
        | some orc => orcStep orc args o.dst s
        | none => match look f T.funs with
          | some fn => match H fn args s with
            | some L => collect (fun x => St.put1 x.2 o.dst x.1) L
            | none => none
          | none => match Nat.beq (f + 1) T.mul with
            | true => match args with
              | [.w r, .w r'] => St.put1 { s with n := s.n + 2, out := .mul s.n r r' :: s.out } o.dst (some (.pair (.v s.n) (.v (s.n + 1))))
              | _ => none
            | false => match Nat.beq (f + 1) T.cmov with
              | true => match args with
                | [.cell k off, .w c, .w r, .w r'] => match isBit s c with
                  | true => match updBlk s.mem k (setAt off (true, .v s.n)) with
                    | some m => St.put1 { s with n := s.n + 1, mem := m, out := .sel s.n c r r' :: s.out } o.dst none
                    | none => none
                  | false => none
                | _ => none
              | false => pureStep T o s
      | none => none
    | _ => none
  | _ => pureStep T o s

def zeroOf (k : Bool) : Value := .int (match k with | true => .u64 | false => .u8) 0

end Go.Fiat
