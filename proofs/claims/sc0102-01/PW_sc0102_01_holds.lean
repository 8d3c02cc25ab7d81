import PyProof.Rows.All
import Wide.All
import OpenK.AllK
import Wide.FinOn
import PySem.Challenge.RW_sc0102_01
set_option Elab.async false
set_option maxRecDepth 100000
section
open PySem
namespace Mine

inductive V where
  | d (x : PyData)
  | ws (fs : List PyData)
  | own (j : Nat)
  | ins (j : Nat)

inductive O where
  | l (xs : List PyData)
  | i (fs : List PyData)
  | x

inductive Fn where
  | init | longest | indent | equal | neW | less | nlW | div2 | i2d | d2i | dmpos | idm
  | drawn | lead | read | figs | cols | plain | ways | prod | law
  deriving DecidableEq

inductive Bop where
  | add | sub | mul | fdiv | mod | pow | shl | shr | xor
inductive Cop where
  | eq | ne | lt | le | gt | ge | is | isn
inductive Blt where
  | len | max | sum | divmod | tuple

mutual
inductive PE where
  | int (i : Int) | str (s : Str) | tt (b : Bool) | no
  | var (k : Nat)
  | gint (x : Str) (i : Int)
  | cls (x : Str) (v : Str)
  | bin (o : Bop) (a b : PE) | binO (o : Bop) (a b : PE)
  | cmp (o : Cop) (a b : PE)
  | bop (isAnd : Bool) (l : PL)
  | nt (e : PE) | neg (e : PE)
  | ite (c a b : PE)
  | cF (f : Fn) (l : PL)
  | cB (b : Blt) (l : PL)
  | cM (m : Fn) (o : PE) (l : PL)
  | mk (e : PE)
  | cI (k : Nat) (l : PL)
  | fld (e : PE) (k : Nat)
  | sub (o i : PE)
  | sl (o l u s : PE)
  | ls (l : PL) | lsO (l : PL) | tp (l : PL)
  | lc (elt : PE) (x : Nat) (src : PI) (c : PE) (cap : List Nat)
  | bl (e : PE)
  | join (s o : PE)
  | din (e : PE) | dget (e : PE)
inductive PL where
  | nil | cons (e : PE) (l : PL)
inductive PI where
  | rng1 (e : PE) | rng2 (a b : PE) | rev (e : PE) | it (e : PE)
end

mutual
inductive PS where
  | asg (k : Nat) (e : PE)
  | unp (ks : List Nat) (e : PE)
  | unpT (ks : List Nat) (l : PL)
  | asgN (ks : List Nat) (e : PE)
  | setF (o : PE) (k : Nat) (e : PE)
  | setI (o i e : PE)
  | app (o e : PE)
  | pop (o : PE)
  | rvs (o : PE)
  | ex (e : PE)
  | ifs (c : PE) (t e : PB)
  | for_ (x : Nat) (src : PI) (b : PB)
  | whl (c : PE) (b : PB)
  | ret (e : PE)
  | ret0
  | brk
  | dead
  | defI (k : Nat)
inductive PB where
  | nil | cons (s : PS) (b : PB)
end

inductive Fl where
  | next | brk
  | ret (v : V)

structure FnIR where
  names : List Str
  np : Nat
  body : PB

noncomputable abbrev Sg := List O
noncomputable abbrev En := List (Option V)

noncomputable def eget : En → Nat → Option V
  | [], _ => none
  | a :: _, 0 => a
  | _ :: r, n + 1 => eget r n
noncomputable def eput : En → Nat → Option V → En
  | [], _, _ => []
  | _ :: r, 0, v => v :: r
  | a :: r, n + 1, v => a :: eput r n v
noncomputable def sget : Sg → Nat → O
  | [], _ => .x
  | a :: _, 0 => a
  | _ :: r, n + 1 => sget r n
noncomputable def sput : Sg → Nat → O → Sg
  | [], _, _ => []
  | _ :: r, 0, v => v :: r
  | a :: r, n + 1, v => a :: sput r n v

noncomputable def dat (σ : Sg) : V → Option PyData
  | .d x => some x
  | .ws _ => none
  | .ins _ => none
  | .own j => match sget σ j with
    | .l xs => some (.list xs)
    | _ => none
noncomputable def frz (σ : Sg) : V → Option (V × Sg)
  | .d x => some (.d x, σ)
  | .ws f => some (.ws f, σ)
  | .ins _ => none
  | .own j => match sget σ j with
    | .l xs => some (.d (.list xs), sput σ j .x)
    | _ => none
noncomputable def frzL (σ : Sg) : List V → Option (List V × Sg)
  | [] => some ([], σ)
  | v :: r => (frz σ v).bind fun (v', σ') => (frzL σ' r).bind fun (r', σ'') => some (v' :: r', σ'')
noncomputable def datL : List V → Option (List PyData)
  | [] => some []
  | .d x :: r => (datL r).map (x :: ·)
  | _ :: _ => none

noncomputable def lim : Nat := 100000

noncomputable def intsOf : List PyData → Option (List Int)
  | [] => some []
  | .int i :: r => (intsOf r).map (i :: ·)
  | _ :: _ => none
noncomputable def strsOf : List PyData → Option (List Str)
  | [] => some []
  | .str i :: r => (strsOf r).map (i :: ·)
  | _ :: _ => none

noncomputable def iiD (f : Int → Int → Option PyData) : PyData → PyData → Option PyData
  | .int a, .int b => f a b
  | _, _ => none
noncomputable def addD : PyData → PyData → Option PyData
  | .int a, .int b => some (.int (a + b))
  | .str a, .str b => if a.length + b.length ≤ lim then some (.str (a ++ b)) else none
  | .list a, .list b => if a.length + b.length ≤ lim then some (.list (a ++ b)) else none
  | _, _ => none
noncomputable def mulD : PyData → PyData → Option PyData
  | .int a, .int b => if Builtin.Int.intBits a + Builtin.Int.intBits b ≤ 100000 then some (.int (a * b)) else none
  | .str a, .int n => if 0 ≤ n ∧ n ≤ 1000000 ∧ a.length ≤ 16 then some (.str ⟨(List.replicate n.toNat a.cps.toList).flatten.toArray⟩) else none
  | .list a, .int n => if 0 ≤ n ∧ n < 2 ^ 62 ∧ a.length * n.toNat ≤ lim then some (.list (List.replicate n.toNat a).flatten) else none
  | _, _ => none
noncomputable def bopD (o : Bop) (x y : PyData) : Option PyData := match o with
  | .add => addD x y
  | .sub => iiD (fun a b => some (.int (a - b))) x y
  | .mul => mulD x y
  | .fdiv => iiD (fun a b => if 0 < b ∧ b < 1073741824 then some (.int (a / b)) else none) x y
  | .mod => iiD (fun a b => if 0 < b then some (.int (a % b)) else none) x y
  | .pow => iiD (fun a n => if 0 ≤ n ∧ Builtin.Int.intBits a * n.toNat ≤ 100000 then some (.int (a ^ n.toNat)) else none) x y
  | .shl => iiD (fun a n => if 0 ≤ n ∧ Builtin.Int.intBits a + n.toNat ≤ 100000 then some (.int (a * 2 ^ n.toNat)) else none) x y
  | .shr => iiD (fun a n => if 0 ≤ n then some (.int (a / 2 ^ n.toNat)) else none) x y
  | .xor => iiD (fun a b => some (.int (Builtin.bitXor a b))) x y

noncomputable def icD (f : Int → Int → Bool) : PyData → PyData → Option Bool
  | .int a, .int b => some (f a b)
  | _, _ => none
noncomputable def bcD (f : Bool → Bool → Bool) : PyData → PyData → Option Bool
  | .bool a, .bool b => some (f a b)
  | _, _ => none
noncomputable def cmpD (o : Cop) (x y : PyData) : Option Bool := match o with
  | .eq => if SeqAt.shaped x && SeqAt.shaped y then some (PyData.eqv x y) else none
  | .ne => if SeqAt.shaped x && SeqAt.shaped y then some (!PyData.eqv x y) else none
  | .lt => icD (fun a b => decide (a < b)) x y
  | .le => icD (fun a b => decide (a ≤ b)) x y
  | .gt => icD (fun a b => decide (b < a)) x y
  | .ge => icD (fun a b => decide (b ≤ a)) x y
  | .is => bcD (fun a b => a == b) x y
  | .isn => bcD (fun a b => a != b) x y

noncomputable def truD : PyData → Option Bool
  | .bool b => some b
  | .int i => some (i != 0)
  | .list xs => if xs.length ≤ lim then some (!xs.isEmpty) else none
  | _ => none

noncomputable def maxI (a b : Int) : Int := if b > a then b else a

noncomputable def lenD : List PyData → Option PyData
  | [.list xs] => if xs.length ≤ lim then some (.int xs.length) else none
  | [.tuple xs] => if xs.length ≤ lim then some (.int xs.length) else none
  | [.str x] => if x.length ≤ lim then some (.int x.length) else none
  | _ => none
noncomputable def maxD : List PyData → Option PyData
  | [.int a, .int b] => some (.int (maxI a b))
  | [.list xs] => match intsOf xs with
    | some (i :: r) => some (.int (r.foldl maxI i))
    | _ => none
  | _ => none
noncomputable def sumD : List PyData → Option PyData
  | [.list xs] => match intsOf xs with
    | some r => some (.int r.sum)
    | none => none
  | _ => none
noncomputable def dvmD : List PyData → Option PyData
  | [.int a, .int b] => if 0 < b ∧ b.natAbs.log2 < 9000 then some (.tuple [.int (a / b), .int (a % b)]) else none
  | _ => none
noncomputable def tupD : List PyData → Option PyData
  | [.list xs] => if xs.length ≤ lim then some (.tuple xs) else none
  | _ => none
noncomputable def bltD (b : Blt) (xs : List PyData) : Option PyData := match b with
  | .len => lenD xs | .max => maxD xs | .sum => sumD xs | .divmod => dvmD xs | .tuple => tupD xs

noncomputable def partOf : PyData → Option (Option Int)
  | .none => some none
  | .int i => some (some i)
  | _ => none

noncomputable def slP (n : Nat) (lo hi st : Option Int) : List Nat :=
  let (a, b, c) := sliceBounds lo hi st n
  sliceRange a b c
noncomputable def slD : PyData → Option Int → Option Int → Option Int → Option PyData
  | .list xs, lo, hi, st => if xs.length ≤ lim ∧ st ≠ some 0 then some (.list ((slP xs.length lo hi st).filterMap (xs[·]?))) else none
  | .str x, some i, some j, none => if x.length ≤ lim then some (.str (Txt.slice x (some i) (some j))) else none
  | _, _, _, _ => none

noncomputable def subD : PyData → PyData → Option PyData
  | .list xs, .int i => if 0 ≤ i ∧ i < 2 ^ 60 then xs[i.toNat]? else none
  | .tuple xs, .int i => if 0 ≤ i ∧ i < 2 ^ 60 then xs[i.toNat]? else none
  | .str x, .int i => if 0 ≤ i ∧ i < 2 ^ 60 then (x.cps[i.toNat]?).map fun c => .str ⟨#[c]⟩ else none
  | _, _ => none

noncomputable def itemsD : PyData → Option (List PyData)
  | .list xs => if xs.length ≤ lim then some xs else none
  | .tuple xs => if xs.length ≤ lim then some xs else none
  | .str x => if x.cps.all (· < 128) = true ∧ x.length ≤ lim then some (x.cps.toList.map fun c => .str ⟨#[c]⟩) else none
  | _ => none

noncomputable def rangeI (a b : Int) : List Int := (List.range (b - a).toNat).map fun (k : Nat) => a + k

noncomputable def tokTab : List (Str × Int) := [(Str.ofString "!", 54), (Str.ofString "!=", 28), (Str.ofString "%", 24), (Str.ofString "%=", 40), (Str.ofString "&", 19), (Str.ofString "&=", 41), (Str.ofString "(", 7), (Str.ofString ")", 8), (Str.ofString "*", 16), (Str.ofString "**", 35), (Str.ofString "**=", 46), (Str.ofString "*=", 38), (Str.ofString "+", 14), (Str.ofString "+=", 36), (Str.ofString ",", 12), (Str.ofString "-", 15), (Str.ofString "-=", 37), (Str.ofString "->", 51), (Str.ofString ".", 23), (Str.ofString "...", 52), (Str.ofString "/", 17), (Str.ofString "//", 47), (Str.ofString "//=", 48), (Str.ofString "/=", 39), (Str.ofString ":", 11), (Str.ofString ":=", 53), (Str.ofString ";", 13), (Str.ofString "<", 20), (Str.ofString "<<", 33), (Str.ofString "<<=", 44), (Str.ofString "<=", 29), (Str.ofString "=", 22), (Str.ofString "==", 27), (Str.ofString ">", 21), (Str.ofString ">=", 30), (Str.ofString ">>", 34), (Str.ofString ">>=", 45), (Str.ofString "@", 49), (Str.ofString "@=", 50), (Str.ofString "[", 9), (Str.ofString "]", 10), (Str.ofString "^", 32), (Str.ofString "^=", 43), (Str.ofString "{", 25), (Str.ofString "|", 18), (Str.ofString "|=", 42), (Str.ofString "}", 26), (Str.ofString "~", 31)]
noncomputable def tokOf (x : Str) : Option Int := tokTab.lookup x

noncomputable def mask : List Nat → Nat → En → En
  | _, _, [] => []
  | c, n, a :: r => (if c.contains n then (match a with | some (.own _) => none | some (.ins _) => none | y => y) else none) :: mask c (n + 1) r

noncomputable def b1 {α β : Type} (o : Option α) (f : α → Option β) : Option β := match o with
  | some p => f p
  | none => none
noncomputable def b2 {α β : Type} (o : Option (α × Sg)) (f : α → Sg → Option β) : Option β := match o with
  | some p => f p.1 p.2
  | none => none
noncomputable def b3 {β : Type} (o : Option (Fl × En × Sg)) (f : Fl → En → Sg → Option β) : Option β := match o with
  | some p => f p.1 p.2.1 p.2.2
  | none => none
noncomputable def vd : V → Option PyData | .d x => some x | _ => none
noncomputable def vw : V → Option (List PyData) | .ws f => some f | _ => none
noncomputable def vo : V → Option Nat | .own j => some j | _ => none
noncomputable def vi : V → Option Nat | .ins j => some j | _ => none
noncomputable def dInt : PyData → Option Int | .int i => some i | _ => none
noncomputable def dStr : PyData → Option Str | .str i => some i | _ => none
noncomputable def dLst : PyData → Option (List PyData) | .list i => some i | _ => none
noncomputable def dTup : PyData → Option (List PyData) | .tuple i => some i | _ => none
noncomputable def ol : O → Option (List PyData) | .l xs => some xs | _ => none
noncomputable def oi : O → Option (List PyData) | .i xs => some xs | _ => none
noncomputable def flds (σ : Sg) : V → Option (List PyData) | .ws f => some f | .ins j => oi (sget σ j) | _ => none
noncomputable def pur : Option (V × Sg) → Option V | some p => (match p.2 with | [] => some p.1 | _ => none) | none => none
noncomputable def gd {α : Type} (p : Prop) [Decidable p] (a : α) : Option α := if p then some a else none

noncomputable def loopC (f : PyData → Option (Option PyData)) : List PyData → Option (List PyData)
  | [] => some []
  | v :: r => match f v with
    | none => none
    | some o => match o with
      | none => loopC f r
      | some y => (loopC f r).map (y :: ·)

noncomputable def loopF (f : PyData → En → Sg → Option (Fl × En × Sg)) : List PyData → En → Sg → Option (Fl × En × Sg)
  | [], en, σ => some (.next, en, σ)
  | v :: r, en, σ => match f v en σ with
    | none => none
    | some (fl, en, σ) => match fl with
      | .next => loopF f r en σ
      | .brk => some (.next, en, σ)
      | .ret v => some (.ret v, en, σ)

noncomputable def loopW (c : En → Sg → Option (Bool × Sg)) (f : En → Sg → Option (Fl × En × Sg)) : Nat → En → Sg → Option (Fl × En × Sg)
  | 0, _, _ => none
  | n + 1, en, σ => match c en σ with
    | none => none
    | some (b, σ) => match b with
      | false => some (.next, en, σ)
      | true => match f en σ with
        | none => none
        | some (fl, en, σ) => match fl with
          | .next => loopW c f n en σ
          | .brk => some (.next, en, σ)
          | .ret v => some (.ret v, en, σ)

structure Sem where
  Φ : Fn → List V → Option V
  Ψ : List V → Sg → Option (V × Sg)
  fuel : Nat

noncomputable def Sem.cut (S : Sem) : Sem := { S with Ψ := fun _ _ => none }

noncomputable def truV (σ : Sg) (v : V) : Option Bool := (dat σ v).bind truD

noncomputable def partV : V → Option (Option Int) | .d x => partOf x | _ => none
noncomputable def plE : PL → Bool | .nil => true | .cons .. => false

mutual
noncomputable def evE (S : Sem) (en : En) : PE → Sg → Option (V × Sg)
  | .int i, σ => some (.d (.int i), σ)
  | .str x, σ => some (.d (.str x), σ)
  | .tt b, σ => some (.d (.bool b), σ)
  | .no, σ => some (.d .none, σ)
  | .var k, σ => match eget en k with
    | none => none
    | some v => some (v, σ)
  | .gint _ i, σ => some (.d (.int i), σ)
  | .cls _ v, σ => some (.d (.str v), σ)
  | .bin o a b, σ => match evE S en a σ with
    | none => none
    | some (x, σ) => match evE S en b σ with
      | none => none
      | some (y, σ) => match dat σ x with
        | none => none
        | some x => match dat σ y with
          | none => none
          | some y => match bopD o x y with
            | none => none
            | some z => some (.d z, σ)
  | .binO o a b, σ => match evE S en a σ with
    | none => none
    | some (x, σ) => match evE S en b σ with
      | none => none
      | some (y, σ) => match dat σ x with
        | none => none
        | some x => match dat σ y with
          | none => none
          | some y => match bopD o x y with
            | none => none
            | some z => match dLst z with
              | none => none
              | some z => some (.own σ.length, σ ++ [.l z])
  | .cmp o a b, σ => match evE S en a σ with
    | none => none
    | some (x, σ) => match evE S en b σ with
      | none => none
      | some (y, σ) => match dat σ x with
        | none => none
        | some x => match dat σ y with
          | none => none
          | some y => match cmpD o x y with
            | none => none
            | some z => some (.d (.bool z), σ)
  | .bop k l, σ => evB S en k l σ
  | .nt e, σ => match evE S en e σ with
    | none => none
    | some (v, σ) => match truV σ v with
      | none => none
      | some b => some (.d (.bool !b), σ)
  | .neg e, σ => match evE S en e σ with
    | none => none
    | some (v, σ) => match vd v with
      | none => none
      | some x => match dInt x with
        | none => none
        | some i => some (.d (.int (-i)), σ)
  | .ite c a b, σ => match evE S en c σ with
    | none => none
    | some (v, σ) => match truV σ v with
      | none => none
      | some t => match t with
        | true => evE S en a σ
        | false => evE S en b σ
  | .cF f l, σ => match evL S en l σ with
    | none => none
    | some (vs, σ) => match frzL σ vs with
      | none => none
      | some (vs, σ) => match S.Φ f vs with
        | none => none
        | some v => some (v, σ)
  | .cB b l, σ => match evL S en l σ with
    | none => none
    | some (vs, σ) => match vs.mapM (dat σ) with
      | none => none
      | some ds => match bltD b ds with
        | none => none
        | some z => some (.d z, σ)
  | .cM f o l, σ => match evE S en o σ with
    | none => none
    | some (u, σ) => match vw u with
      | none => none
      | some fs => match evL S en l σ with
        | none => none
        | some (vs, σ) => match frzL σ vs with
          | none => none
          | some (vs, σ) => match S.Φ f (.ws fs :: vs) with
            | none => none
            | some v => some (v, σ)
  | .mk e, σ => match evE S en e σ with
    | none => none
    | some (v, σ) => match vd v with
      | none => none
      | some x => match S.Φ .init [.d x] with
        | none => none
        | some v => some (v, σ)
  | .cI _ l, σ => match evL S en l σ with
    | none => none
    | some (vs, σ) => S.Ψ vs σ
  | .fld e k, σ => match evE S en e σ with
    | none => none
    | some (v, σ) => match flds σ v with
      | none => none
      | some fs => match fs[k]? with
        | none => none
        | some x => some (.d x, σ)
  | .sub o i, σ => match evE S en o σ with
    | none => none
    | some (x, σ) => match evE S en i σ with
      | none => none
      | some (y, σ) => match dat σ x with
        | none => none
        | some x => match dat σ y with
          | none => none
          | some y => match subD x y with
            | none => none
            | some z => some (.d z, σ)
  | .sl o l u st, σ => match evE S en o σ with
    | none => none
    | some (x, σ) => match evE S en l σ with
      | none => none
      | some (a, σ) => match evE S en u σ with
        | none => none
        | some (b, σ) => match evE S en st σ with
          | none => none
          | some (c, σ) => match dat σ x with
            | none => none
            | some x => match partV a with
              | none => none
              | some a => match partV b with
                | none => none
                | some b => match partV c with
                  | none => none
                  | some c => match slD x a b c with
                    | none => none
                    | some z => some (.d z, σ)
  | .ls l, σ => match evL S en l σ with
    | none => none
    | some (vs, σ) => match frzL σ vs with
      | none => none
      | some (vs, σ) => match datL vs with
        | none => none
        | some xs => if xs.length ≤ lim then some (.d (.list xs), σ) else none
  | .lsO l, σ => match evL S en l σ with
    | none => none
    | some (vs, σ) => match frzL σ vs with
      | none => none
      | some (vs, σ) => match datL vs with
        | none => none
        | some xs => if xs.length ≤ lim then some (.own σ.length, σ ++ [.l xs]) else none
  | .tp l, σ => match evL S en l σ with
    | none => none
    | some (vs, σ) => match frzL σ vs with
      | none => none
      | some (vs, σ) => match datL vs with
        | none => none
        | some xs => if xs.length ≤ lim then some (.d (.tuple xs), σ) else none
  | .lc elt x src c cap, σ => match evI S en src σ with
    | none => none
    | some (its, σ) => match loopC (fun v => match pur (evE S.cut (eput (mask cap 0 en) x (some (.d v))) c []) with
        | none => none
        | some w => match truV [] w with
          | none => none
          | some t => match t with
            | false => some none
            | true => match pur (evE S.cut (eput (mask cap 0 en) x (some (.d v))) elt []) with
              | none => none
              | some u => match vd u with
                | none => none
                | some y => some (some y)) its with
      | none => none
      | some ys => if its.length ≤ lim then some (.d (.list ys), σ) else none
  | .bl e, σ => match evE S en e σ with
    | none => none
    | some (v, σ) => match vd v with
      | none => none
      | some x => match dInt x with
        | none => none
        | some i => some (.d (.int (Builtin.Int.intBits i)), σ)
  | .join x o, σ => match evE S en x σ with
    | none => none
    | some (v, σ) => match vd v with
      | none => none
      | some x => match dStr x with
        | none => none
        | some sep => match evE S en o σ with
          | none => none
          | some (v, σ) => match vd v with
            | none => none
            | some y => match dLst y with
              | none => none
              | some ys => match strsOf ys with
                | none => none
                | some ts => if JoinOk sep ts then some (.d (.str (Txt.join sep ts)), σ) else none
  | .din e, σ => match evE S en e σ with
    | none => none
    | some (v, σ) => match vd v with
      | none => none
      | some x => match dStr x with
        | none => none
        | some x => some (.d (.bool (tokOf x).isSome), σ)
  | .dget e, σ => match evE S en e σ with
    | none => none
    | some (v, σ) => match vd v with
      | none => none
      | some x => match dStr x with
        | none => none
        | some x => match tokOf x with
          | none => none
          | some i => some (.d (.int i), σ)
noncomputable def evL (S : Sem) (en : En) : PL → Sg → Option (List V × Sg)
  | .nil, σ => some ([], σ)
  | .cons e l, σ => match evE S en e σ with
    | none => none
    | some (v, σ) => match evL S en l σ with
      | none => none
      | some (vs, σ) => some (v :: vs, σ)
noncomputable def evB (S : Sem) (en : En) (k : Bool) : PL → Sg → Option (V × Sg)
  | .nil, _ => none
  | .cons e l, σ => match evE S en e σ with
    | none => none
    | some (v, σ) => match plE l with
      | true => some (v, σ)
      | false => match truV σ v with
        | none => none
        | some b => if b == k then evB S en k l σ else some (v, σ)
noncomputable def evI (S : Sem) (en : En) : PI → Sg → Option (List PyData × Sg)
  | .rng1 e, σ => match evE S en e σ with
    | none => none
    | some (v, σ) => match vd v with
      | none => none
      | some x => match dInt x with
        | none => none
        | some b => if b < 100000 ∧ -(2 ^ 62) < b then some ((rangeI 0 b).map .int, σ) else none
  | .rng2 a b, σ => match evE S en a σ with
    | none => none
    | some (v, σ) => match vd v with
      | none => none
      | some x => match dInt x with
        | none => none
        | some a => match evE S en b σ with
          | none => none
          | some (v, σ) => match vd v with
            | none => none
            | some x => match dInt x with
              | none => none
              | some b => if -100000 < a ∧ b < 100000 ∧ a < 2 ^ 62 ∧ -(2 ^ 62) < b then some ((rangeI a b).map .int, σ) else none
  | .rev e, σ => match evE S en e σ with
    | none => none
    | some (v, σ) => match vd v with
      | none => none
      | some x => match dLst x with
        | none => none
        | some xs => if xs.length ≤ lim then some (xs.reverse, σ) else none
  | .it e, σ => match evE S en e σ with
    | none => none
    | some (v, σ) => match vd v with
      | none => none
      | some x => match itemsD x with
        | none => none
        | some its => some (its, σ)
end
noncomputable def putAll : List Nat → List V → En → Option En
  | [], [], en => some en
  | k :: ks, x :: xs, en => putAll ks xs (eput en k (some x))
  | _, _, _ => none
noncomputable def putEach (v : V) : List Nat → En → En
  | [], en => en
  | k :: ks, en => putEach v ks (eput en k (some v))

mutual
noncomputable def evS (S : Sem) : PS → En → Sg → Option (Fl × En × Sg)
  | .asg k e, en, σ => match evE S en e σ with
    | none => none
    | some (v, σ) => some (.next, eput en k (some v), σ)
  | .unp ks e, en, σ => match evE S en e σ with
    | none => none
    | some (v, σ) => match vd v with
      | none => none
      | some x => match dTup x with
        | none => none
        | some xs => match putAll ks (xs.map .d) en with
          | none => none
          | some en => some (.next, en, σ)
  | .unpT ks l, en, σ => match evL S en l σ with
    | none => none
    | some (vs, σ) => match putAll ks vs en with
      | none => none
      | some en => some (.next, en, σ)
  | .asgN ks e, en, σ => match evE S en e σ with
    | none => none
    | some (v, σ) => match vd v with
      | none => none
      | some x => some (.next, putEach (.d x) ks en, σ)
  | .setF o k e, en, σ => match evE S en e σ with
    | none => none
    | some (v, σ) => match vd v with
      | none => none
      | some x => match evE S en o σ with
        | none => none
        | some (u, σ) => match vi u with
          | none => none
          | some j => match oi (sget σ j) with
            | none => none
            | some fs => if fs.length = k then some (.next, en, sput σ j (.i (fs ++ [x]))) else none
  | .setI o i e, en, σ => match evE S en e σ with
    | none => none
    | some (v, σ) => match vd v with
      | none => none
      | some x => match evE S en o σ with
        | none => none
        | some (u, σ) => match vo u with
          | none => none
          | some j => match evE S en i σ with
            | none => none
            | some (w, σ) => match vd w with
              | none => none
              | some y => match dInt y with
                | none => none
                | some k => match ol (sget σ j) with
                  | none => none
                  | some xs => if 0 ≤ k ∧ k < xs.length ∧ xs.length ≤ lim then some (.next, en, sput σ j (.l (xs.set k.toNat x))) else none
  | .app o e, en, σ => match evE S en o σ with
    | none => none
    | some (u, σ) => match vo u with
      | none => none
      | some j => match ol (sget σ j) with
        | none => none
        | some _ => match evE S en e σ with
          | none => none
          | some (v, σ) => match vd v with
            | none => none
            | some x => match ol (sget σ j) with
              | none => none
              | some xs => if xs.length ≤ lim then some (.next, en, sput σ j (.l (xs ++ [x]))) else none
  | .pop o, en, σ => match evE S en o σ with
    | none => none
    | some (u, σ) => match vo u with
      | none => none
      | some j => match ol (sget σ j) with
        | none => none
        | some xs => if 0 < xs.length ∧ xs.length ≤ lim then some (.next, en, sput σ j (.l xs.dropLast)) else none
  | .rvs o, en, σ => match evE S en o σ with
    | none => none
    | some (u, σ) => match vo u with
      | none => none
      | some j => match ol (sget σ j) with
        | none => none
        | some xs => if xs.length ≤ lim then some (.next, en, sput σ j (.l xs.reverse)) else none
  | .ex e, en, σ => match evE S en e σ with
    | none => none
    | some (_, σ) => some (.next, en, σ)
  | .ifs c t e, en, σ => match evE S en c σ with
    | none => none
    | some (v, σ) => match truV σ v with
      | none => none
      | some b => match b with
        | true => evBl S t en σ
        | false => evBl S e en σ
  | .for_ x src b, en, σ => match evI S en src σ with
    | none => none
    | some (its, σ) => loopF (fun v en σ => match evBl S b (eput en x (some (.d v))) σ with
        | none => none
        | some (fl, en, σ) => some (fl, eput en x none, σ)) its (eput en x none) σ
  | .whl c b, en, σ => loopW (fun en σ => match evE S en c σ with
      | none => none
      | some (v, σ) => match truV σ v with
        | none => none
        | some b => some (b, σ)) (fun en σ => evBl S b en σ) S.fuel en σ
  | .ret e, en, σ => match evE S en e σ with
    | none => none
    | some (v, σ) => match frz σ v with
      | none => none
      | some (v, σ) => some (.ret v, en, σ)
  | .ret0, en, σ => some (.ret (.d .none), en, σ)
  | .brk, en, σ => some (.brk, en, σ)
  | .dead, _, _ => none
  | .defI _, en, σ => some (.next, en, σ)
noncomputable def evBl (S : Sem) : PB → En → Sg → Option (Fl × En × Sg)
  | .nil, en, σ => some (.next, en, σ)
  | .cons s b, en, σ => match evS S s en σ with
    | none => none
    | some (fl, en, σ) => match fl with
      | .next => evBl S b en σ
      | .brk => some (.brk, en, σ)
      | .ret v => some (.ret v, en, σ)
end

noncomputable def pad (n : Nat) (l : En) : En := l ++ List.replicate (n - l.length) none

noncomputable def flV : Fl → Option V
  | .ret v => some v
  | .next => some (.d .none)
  | .brk => none
noncomputable def runF (S : Sem) (f : FnIR) (args : List V) : Option V :=
  if args.length = f.np then match evBl S f.body (pad f.names.length (args.map some)) [] with
    | none => none
    | some (fl, _, _) => flV fl else none
noncomputable def runInit (S : Sem) (f : FnIR) (x : PyData) : Option V :=
  match evBl S f.body (pad f.names.length [some (.ins 0), some (.d x)]) [.i []] with
  | none => none
  | some (fl, _, σ) => match fl with
    | .next => match oi (sget σ 0) with
      | none => none
      | some fs => some (.ws fs)
    | .brk => none
    | .ret _ => none
section
variable {α β : Type} {r : β} {C : Prop}
theorem b1e {o : Option α} {f : α → Option β} (h : b1 o f = some r) (k : ∀ x, o = some x → f x = some r → C) : C := by
  cases o with
  | some x => exact k x rfl h
  | none => cases h
theorem b0e {o : Option α} {f : α → Option β} (h : o.bind f = some r) (k : ∀ x, o = some x → f x = some r → C) : C := by
  cases o with
  | some x => exact k x rfl h
  | none => cases h
theorem b2e {o : Option (α × Sg)} {f : α → Sg → Option β} (h : b2 o f = some r) (k : ∀ x σ, o = some (x, σ) → f x σ = some r → C) : C := by
  cases o with
  | some p => exact k p.1 p.2 rfl h
  | none => cases h
theorem b3e {o : Option (Fl × En × Sg)} {f : Fl → En → Sg → Option β} (h : b3 o f = some r) (k : ∀ x en σ, o = some (x, en, σ) → f x en σ = some r → C) : C := by
  cases o with
  | some p => exact k p.1 p.2.1 p.2.2 rfl h
  | none => cases h
theorem gde {p : Prop} [Decidable p] {a z : α} (h : gd p a = some z) : p ∧ a = z :=
  (Decidable.em p).elim (fun q => ⟨q, Option.some.inj ((if_pos q).symm.trans h)⟩) (fun q => nomatch (if_neg q).symm.trans h)
theorem gd_pos {p : Prop} [Decidable p] (a : α) (q : p) : gd p a = some a := if_pos q
theorem b2_some (x : α) (σ : Sg) (f : α → Sg → Option β) : b2 (some (x, σ)) f = f x σ := rfl
theorem b2_none (f : α → Sg → Option β) : b2 none f = none := rfl
theorem b3_some (x : Fl) (en : En) (σ : Sg) (f : Fl → En → Sg → Option β) : b3 (some (x, en, σ)) f = f x en σ := rfl
theorem b3_none (f : Fl → En → Sg → Option β) : b3 none f = none := rfl
end
theorem pur_i {o : Option (V × Sg)} {v : V} (h : pur o = some v) : o = some (v, []) := by
  match o, h with
  | some (w, []), h => cases h; rfl
  | some (w, _ :: _), h => cases h
theorem pur_some (v : V) : pur (some (v, [])) = some v := rfl
theorem vw_i {v : V} {x : List PyData} (h : vw v = some x) : v = .ws x := by cases v <;> first | (cases h; rfl) | cases h
theorem vo_i {v : V} {x : Nat} (h : vo v = some x) : v = .own x := by cases v <;> first | (cases h; rfl) | cases h
theorem vi_i {v : V} {x : Nat} (h : vi v = some x) : v = .ins x := by cases v <;> first | (cases h; rfl) | cases h
theorem vd_i {v : V} {x : PyData} (h : vd v = some x) : v = .d x := by cases v <;> first | (cases h; rfl) | cases h
theorem ol_i {v : O} {x : List PyData} (h : ol v = some x) : v = .l x := by cases v <;> first | (cases h; rfl) | cases h
theorem oi_i {v : O} {x : List PyData} (h : oi v = some x) : v = .i x := by cases v <;> first | (cases h; rfl) | cases h
theorem dLst_i {v : PyData} {x : List PyData} (h : dLst v = some x) : v = .list x := by cases v <;> first | (cases h; rfl) | cases h
theorem dTup_i {v : PyData} {x : List PyData} (h : dTup v = some x) : v = .tuple x := by cases v <;> first | (cases h; rfl) | cases h
theorem dInt_i {v : PyData} {x : Int} (h : dInt v = some x) : v = .int x := by cases v <;> first | (cases h; rfl) | cases h
theorem dStr_i {v : PyData} {x : Str} (h : dStr v = some x) : v = .str x := by cases v <;> first | (cases h; rfl) | cases h
noncomputable def two (o : Option (V × Sg)) (f : Sg → Option (V × Sg)) : Option ((PyData × PyData) × Sg) :=
  b2 o fun x σ => b2 (f σ) fun y σ => b1 (dat σ x) fun x => b1 (dat σ y) fun y => some ((x, y), σ)
noncomputable def lsD (o : Option (List V × Sg)) : Option (List PyData × Sg) :=
  b2 o fun vs σ => b2 (frzL σ vs) fun vs σ => b1 (datL vs) fun xs => gd (xs.length ≤ lim) (xs, σ)
theorem b2_b2 {α β γ : Type} (o : Option (α × Sg)) (f : α → Sg → Option (γ × Sg)) (k : γ → Sg → Option β) : b2 (b2 o f) k = b2 o fun x σ => b2 (f x σ) k := by cases o <;> rfl
theorem b2_b1 {α β γ : Type} (o : Option α) (f : α → Option (γ × Sg)) (k : γ → Sg → Option β) : b2 (b1 o f) k = b1 o fun x => b2 (f x) k := by cases o <;> rfl
theorem two_as {β : Type} (o : Option (V × Sg)) (f : Sg → Option (V × Sg)) (k : PyData × PyData → Sg → Option β) :
    b2 (two o f) k = b2 o fun x σ => b2 (f σ) fun y σ => b1 (dat σ x) fun x => b1 (dat σ y) fun y => k (x, y) σ := by
  simp only [two, b2_b2, b2_b1]; rfl
theorem lsD_as {β : Type} (o : Option (List V × Sg)) (k : List PyData → Sg → Option β) :
    b2 (lsD o) k = b2 o fun vs σ => b2 (frzL σ vs) fun vs σ => b1 (datL vs) fun xs => if xs.length ≤ lim then k xs σ else none := by
  have h : ∀ xs σ, b2 (gd (xs.length ≤ lim) (xs, σ)) k = if xs.length ≤ lim then k xs σ else none := fun xs σ => by unfold gd; split <;> rfl
  simp only [lsD, b2_b2, b2_b1, h]
section
variable (S : Sem) (en : En) (e a b c d : PE) (l : PL) (σ : Sg)
theorem e_var (k : Nat) : evE S en (.var k) σ = b1 (eget en k) fun v => some (v, σ) := by kernel_rfl
theorem e_bin (o : Bop) : evE S en (.bin o a b) σ = b2 (two (evE S en a σ) fun σ => evE S en b σ) fun p σ => b1 (bopD o p.1 p.2) fun z => some (.d z, σ) := (show _ = _ by kernel_rfl).trans (two_as ..).symm
theorem e_binO (o : Bop) : evE S en (.binO o a b) σ = b2 (two (evE S en a σ) fun σ => evE S en b σ) fun p σ => b1 (bopD o p.1 p.2) fun z => b1 (dLst z) fun z => some (.own σ.length, σ ++ [.l z]) := (show _ = _ by kernel_rfl).trans (two_as ..).symm
theorem e_cmp (o : Cop) : evE S en (.cmp o a b) σ = b2 (two (evE S en a σ) fun σ => evE S en b σ) fun p σ => b1 (cmpD o p.1 p.2) fun z => some (.d (.bool z), σ) := (show _ = _ by kernel_rfl).trans (two_as ..).symm
theorem e_sub : evE S en (.sub a b) σ = b2 (two (evE S en a σ) fun σ => evE S en b σ) fun p σ => b1 (subD p.1 p.2) fun z => some (.d z, σ) := (show _ = _ by kernel_rfl).trans (two_as ..).symm
theorem e_nt : evE S en (.nt e) σ = b2 (evE S en e σ) fun v σ => b1 (truV σ v) fun b => some (.d (.bool !b), σ) := by kernel_rfl
theorem e_neg : evE S en (.neg e) σ = b2 (evE S en e σ) fun v σ => b1 (vd v) fun x => b1 (dInt x) fun i => some (.d (.int (-i)), σ) := by kernel_rfl
noncomputable def iteV {α : Type} (t : Bool) (x y : α) : α := match t with | true => x | false => y
theorem e_ite : evE S en (.ite c a b) σ = b2 (evE S en c σ) fun v σ => b1 (truV σ v) fun t => iteV t (evE S en a σ) (evE S en b σ) := by kernel_rfl
theorem e_cF (f : Fn) : evE S en (.cF f l) σ = b2 (evL S en l σ) fun vs σ => b2 (frzL σ vs) fun vs σ => b1 (S.Φ f vs) fun v => some (v, σ) := by kernel_rfl
theorem e_cB (b : Blt) : evE S en (.cB b l) σ = b2 (evL S en l σ) fun vs σ => b1 (vs.mapM (dat σ)) fun ds => b1 (bltD b ds) fun z => some (.d z, σ) := by kernel_rfl
theorem e_cM (f : Fn) : evE S en (.cM f e l) σ = b2 (evE S en e σ) fun u σ => b1 (vw u) fun fs => b2 (evL S en l σ) fun vs σ => b2 (frzL σ vs) fun vs σ => b1 (S.Φ f (.ws fs :: vs)) fun v => some (v, σ) := by kernel_rfl
theorem e_mk : evE S en (.mk e) σ = b2 (evE S en e σ) fun v σ => b1 (vd v) fun x => b1 (S.Φ .init [.d x]) fun v => some (v, σ) := by kernel_rfl
theorem e_cI (k : Nat) : evE S en (.cI k l) σ = b2 (evL S en l σ) fun vs σ => S.Ψ vs σ := by kernel_rfl
theorem e_fld (k : Nat) : evE S en (.fld e k) σ = b2 (evE S en e σ) fun v σ => b1 (flds σ v) fun fs => b1 (fs[k]?) fun x => some (.d x, σ) := by kernel_rfl
theorem e_sl : evE S en (.sl a b c d) σ = b2 (evE S en a σ) fun x σ => b2 (evE S en b σ) fun a σ => b2 (evE S en c σ) fun b σ => b2 (evE S en d σ) fun c σ => b1 (dat σ x) fun x =>
      b1 (partV a) fun a => b1 (partV b) fun b => b1 (partV c) fun c => b1 (slD x a b c) fun z => some (.d z, σ) := by kernel_rfl
theorem e_ls : evE S en (.ls l) σ = b2 (lsD (evL S en l σ)) fun xs σ => some (.d (.list xs), σ) := (show _ = _ by kernel_rfl).trans (lsD_as ..).symm
theorem e_lsO : evE S en (.lsO l) σ = b2 (lsD (evL S en l σ)) fun xs σ => some (.own σ.length, σ ++ [.l xs]) := (show _ = _ by kernel_rfl).trans (lsD_as ..).symm
theorem e_tp : evE S en (.tp l) σ = b2 (lsD (evL S en l σ)) fun xs σ => some (.d (.tuple xs), σ) := (show _ = _ by kernel_rfl).trans (lsD_as ..).symm
noncomputable def stepC (x : Nat) (c elt : PE) (v : PyData) : Option (Option PyData) :=
  match pur (evE S (eput en x (some (.d v))) c []) with
  | none => none
  | some w => match truV [] w with
    | none => none
    | some t => match t with
      | false => some none
      | true => match pur (evE S (eput en x (some (.d v))) elt []) with
        | none => none
        | some u => match vd u with
          | none => none
          | some y => some (some y)
theorem stepC_b (x : Nat) (v : PyData) : stepC S en x c e v = b1 (pur (evE S (eput en x (some (.d v))) c [])) fun w => b1 (truV [] w) fun t => iteV t (b1 (pur (evE S (eput en x (some (.d v))) e [])) fun u => b1 (vd u) fun y => some (some y)) (some none) := by kernel_rfl
theorem e_lc (x : Nat) (src : PI) (cap : List Nat) : evE S en (.lc e x src c cap) σ = b2 (evI S en src σ) fun its σ => b1 (loopC (stepC S.cut (mask cap 0 en) x c e) its) fun ys => gd (its.length ≤ lim) (.d (.list ys), σ) := by kernel_rfl
theorem e_bl : evE S en (.bl e) σ = b2 (evE S en e σ) fun v σ => b1 (vd v) fun x => b1 (dInt x) fun i => some (.d (.int (Builtin.Int.intBits i)), σ) := by kernel_rfl
theorem e_join : evE S en (.join a b) σ = b2 (evE S en a σ) fun v σ => b1 (vd v) fun x => b1 (dStr x) fun sep => b2 (evE S en b σ) fun v σ => b1 (vd v) fun y => b1 (dLst y) fun ys => b1 (strsOf ys) fun ts =>
      gd (JoinOk sep ts) (.d (.str (Txt.join sep ts)), σ) := by kernel_rfl
theorem e_din : evE S en (.din e) σ = b2 (evE S en e σ) fun v σ => b1 (vd v) fun x => b1 (dStr x) fun x => some (.d (.bool (tokOf x).isSome), σ) := by kernel_rfl
theorem e_dget : evE S en (.dget e) σ = b2 (evE S en e σ) fun v σ => b1 (vd v) fun x => b1 (dStr x) fun x => b1 (tokOf x) fun i => some (.d (.int i), σ) := by kernel_rfl
theorem l_cons : evL S en (.cons e l) σ = b2 (evE S en e σ) fun v σ => b2 (evL S en l σ) fun vs σ => some (v :: vs, σ) := by kernel_rfl
theorem b_cons (k : Bool) : evB S en k (.cons e l) σ = b2 (evE S en e σ) fun v σ => iteV (plE l) (some (v, σ)) (b1 (truV σ v) fun b => if b == k then evB S en k l σ else some (v, σ)) := by kernel_rfl
theorem i_rng1 : evI S en (.rng1 e) σ = b2 (evE S en e σ) fun v σ => b1 (vd v) fun x => b1 (dInt x) fun b => gd (b < 100000 ∧ -(2 ^ 62) < b) ((rangeI 0 b).map .int, σ) := by kernel_rfl
theorem i_rng2 : evI S en (.rng2 a b) σ = b2 (evE S en a σ) fun v σ => b1 (vd v) fun x => b1 (dInt x) fun a => b2 (evE S en b σ) fun v σ => b1 (vd v) fun x => b1 (dInt x) fun b =>
      gd (-100000 < a ∧ b < 100000 ∧ a < 2 ^ 62 ∧ -(2 ^ 62) < b) ((rangeI a b).map .int, σ) := by kernel_rfl
theorem i_rev : evI S en (.rev e) σ = b2 (evE S en e σ) fun v σ => b1 (vd v) fun x => b1 (dLst x) fun xs => gd (xs.length ≤ lim) (xs.reverse, σ) := by kernel_rfl
theorem i_it : evI S en (.it e) σ = b2 (evE S en e σ) fun v σ => b1 (vd v) fun x => b1 (itemsD x) fun its => some (its, σ) := by kernel_rfl
variable (k : Nat) (ks : List Nat) (s : PS) (r r' : PB)
theorem s_asg : evS S (.asg k e) en σ = b2 (evE S en e σ) fun v σ => some (.next, eput en k (some v), σ) := by kernel_rfl
theorem s_unp : evS S (.unp ks e) en σ = b2 (evE S en e σ) fun v σ => b1 (vd v) fun x => b1 (dTup x) fun xs => b1 (putAll ks (xs.map .d) en) fun en => some (.next, en, σ) := by kernel_rfl
theorem s_unpT : evS S (.unpT ks l) en σ = b2 (evL S en l σ) fun vs σ => b1 (putAll ks vs en) fun en => some (.next, en, σ) := by kernel_rfl
theorem s_asgN : evS S (.asgN ks e) en σ = b2 (evE S en e σ) fun v σ => b1 (vd v) fun x => some (.next, putEach (.d x) ks en, σ) := by kernel_rfl
theorem s_setF : evS S (.setF a k e) en σ = b2 (evE S en e σ) fun v σ => b1 (vd v) fun x => b2 (evE S en a σ) fun u σ => b1 (vi u) fun j => b1 (oi (sget σ j)) fun fs =>
      gd (fs.length = k) (.next, en, sput σ j (.i (fs ++ [x]))) := by kernel_rfl
theorem s_setI : evS S (.setI a b e) en σ = b2 (evE S en e σ) fun v σ => b1 (vd v) fun x => b2 (evE S en a σ) fun u σ => b1 (vo u) fun j => b2 (evE S en b σ) fun w σ => b1 (vd w) fun y => b1 (dInt y) fun k =>
      b1 (ol (sget σ j)) fun xs => gd (0 ≤ k ∧ k < xs.length ∧ xs.length ≤ lim) (.next, en, sput σ j (.l (xs.set k.toNat x))) := by kernel_rfl
theorem s_app : evS S (.app a e) en σ = b2 (evE S en a σ) fun u σ => b1 (vo u) fun j => b1 (ol (sget σ j)) fun _ => b2 (evE S en e σ) fun v σ => b1 (vd v) fun x =>
      b1 (ol (sget σ j)) fun xs => gd (xs.length ≤ lim) (.next, en, sput σ j (.l (xs ++ [x]))) := by kernel_rfl
theorem s_pop : evS S (.pop a) en σ = b2 (evE S en a σ) fun u σ => b1 (vo u) fun j => b1 (ol (sget σ j)) fun xs => gd (0 < xs.length ∧ xs.length ≤ lim) (.next, en, sput σ j (.l xs.dropLast)) := by kernel_rfl
theorem s_rvs : evS S (.rvs a) en σ = b2 (evE S en a σ) fun u σ => b1 (vo u) fun j => b1 (ol (sget σ j)) fun xs => gd (xs.length ≤ lim) (.next, en, sput σ j (.l xs.reverse)) := by kernel_rfl
theorem s_ex : evS S (.ex e) en σ = b2 (evE S en e σ) fun _ σ => some (.next, en, σ) := by kernel_rfl
theorem s_ifs : evS S (.ifs c r r') en σ = b2 (evE S en c σ) fun v σ => b1 (truV σ v) fun b => iteV b (evBl S r en σ) (evBl S r' en σ) := by kernel_rfl
noncomputable def stepF (x : Nat) (b : PB) (v : PyData) (en : En) (σ : Sg) : Option (Fl × En × Sg) :=
  match evBl S b (eput en x (some (.d v))) σ with
  | none => none
  | some (fl, en, σ) => some (fl, eput en x none, σ)
theorem stepF_b (v : PyData) : stepF S k r v en σ = b3 (evBl S r (eput en k (some (.d v))) σ) fun fl en σ => some (fl, eput en k none, σ) := by kernel_rfl
theorem s_for (src : PI) : evS S (.for_ k src r) en σ = b2 (evI S en src σ) fun its σ => loopF (stepF S k r) its (eput en k none) σ := by kernel_rfl
noncomputable def condW (c : PE) (en : En) (σ : Sg) : Option (Bool × Sg) :=
  match evE S en c σ with
  | none => none
  | some (v, σ) => match truV σ v with
    | none => none
    | some b => some (b, σ)
theorem condW_b : condW S c en σ = b2 (evE S en c σ) fun v σ => b1 (truV σ v) fun b => some (b, σ) := by kernel_rfl
noncomputable def stepW (b : PB) (en : En) (σ : Sg) : Option (Fl × En × Sg) := evBl S b en σ
theorem s_whl : evS S (.whl c r) en σ = loopW (condW S c) (stepW S r) S.fuel en σ := by kernel_rfl
theorem s_ret : evS S (.ret e) en σ = b2 (evE S en e σ) fun v σ => b2 (frz σ v) fun v σ => some (.ret v, en, σ) := by kernel_rfl
noncomputable def thenF (fl : Fl) (k : Option (Fl × En × Sg)) (en : En) (σ : Sg) : Option (Fl × En × Sg) := match fl with
  | .next => k
  | .brk => some (.brk, en, σ)
  | .ret v => some (.ret v, en, σ)
theorem bl_cons : evBl S (.cons s r) en σ = b3 (evS S s en σ) fun fl en σ => thenF fl (evBl S r en σ) en σ := by kernel_rfl
noncomputable def nextF (fl : Fl) (k : Option (Fl × En × Sg)) (en : En) (σ : Sg) : Option (Fl × En × Sg) := match fl with
  | .next => k
  | .brk => some (.next, en, σ)
  | .ret v => some (.ret v, en, σ)
theorem loopF_cons (f : PyData → En → Sg → Option (Fl × En × Sg)) (v : PyData) (l : List PyData) : loopF f (v :: l) en σ = b3 (f v en σ) fun fl en σ => nextF fl (loopF f l en σ) en σ := by kernel_rfl
theorem loopW_succ (f : En → Sg → Option (Bool × Sg)) (g : En → Sg → Option (Fl × En × Sg)) : loopW f g (k + 1) en σ = b2 (f en σ) fun b σ => iteV b (b3 (g en σ) fun fl en σ => nextF fl (loopW f g k en σ) en σ) (some (.next, en, σ)) := by kernel_rfl
noncomputable def consO (o : Option PyData) (k : Option (List PyData)) : Option (List PyData) := match o with
  | none => k
  | some y => k.map (y :: ·)
theorem loopC_cons (f : PyData → Option (Option PyData)) (v : PyData) (l : List PyData) : loopC f (v :: l) = b1 (f v) fun o => consO o (loopC f l) := by kernel_rfl
theorem runInit_b (f : FnIR) (x : PyData) : runInit S f x = b3 (evBl S f.body (pad f.names.length [some (.ins 0), some (.d x)]) [.i []]) fun fl _ σ => match fl with
    | .next => b1 (oi (sget σ 0)) fun fs => some (.ws fs)
    | .brk => none
    | .ret _ => none := by kernel_rfl
theorem runF_b (f : FnIR) (args : List V) : runF S f args = if args.length = f.np then b3 (evBl S f.body (pad f.names.length (args.map some)) []) fun fl _ _ => flV fl else none := by kernel_rfl
end
end Mine
end
section
open PySem
namespace Mine
noncomputable def ir_init : FnIR where
  names := [(Str.ofString "self"), (Str.ofString "ws"), (Str.ofString "S"), (Str.ofString "T"), (Str.ofString "count"), (Str.ofString "b"), (Str.ofString "n"), (Str.ofString "nt"), (Str.ofString "ch")]
  np := 2
  body := (.cons (.setF (.var 0) 0 (.var 1))
      (.cons (.unpT [2, 3] (.cons (.cls (Str.ofString "S") (Str.ofString " ")) (.cons (.cls (Str.ofString "T") (Str.ofString "\t")) .nil)))
      (.cons (.asg 4 (.lsO .nil))
      (.cons (.asgN [5, 6, 7] (.int 0))
      (.cons (.for_ 8 (.it (.fld (.var 0) 0)) (.cons (.ifs (.cmp .eq (.var 8) (.var 2)) (.cons (.asg 6 (.bin .add (.var 6) (.int 1)))
      (.cons (.asg 5 (.bin .add (.var 5) (.int 1)))
      .nil)) (.cons (.ifs (.cmp .eq (.var 8) (.var 3)) (.cons (.asg 6 (.bin .add (.var 6) (.int 1)))
      (.cons (.asg 7 (.bin .add (.var 7) (.int 1)))
      (.cons (.ifs (.cmp .ge (.var 5) (.cB .len (.cons (.var 4) .nil))) (.cons (.asg 4 (.binO .add (.var 4) (.bin .mul (.ls (.cons (.int 0) .nil)) (.bin .add (.bin .sub (.var 5) (.cB .len (.cons (.var 4) .nil))) (.int 1)))))
      .nil) .nil)
      (.cons (.setI (.var 4) (.var 5) (.bin .add (.sub (.var 4) (.var 5)) (.int 1)))
      (.cons (.asg 5 (.int 0))
      .nil))))) (.cons .brk
      .nil))
      .nil))
      .nil))
      (.cons (.setF (.var 0) 1 (.var 6))
      (.cons (.setF (.var 0) 2 (.var 7))
      (.cons (.setF (.var 0) 3 (.tp (.cons (.cB .tuple (.cons (.var 4) .nil)) (.cons (.var 5) .nil))))
      (.cons (.setF (.var 0) 4 (.cmp .le (.cB .len (.cons (.var 4) .nil)) (.int 1)))
      .nil)))))))))

noncomputable def ir_longest : FnIR where
  names := [(Str.ofString "self"), (Str.ofString "count"), (Str.ofString "trailing")]
  np := 1
  body := (.cons (.unp [1, 2] (.fld (.var 0) 3))
      (.cons (.ret (.cB .max (.cons (.bin .sub (.cB .len (.cons (.var 1) .nil)) (.int 1)) (.cons (.var 2) .nil))))
      .nil))

noncomputable def ir_indent : FnIR where
  names := [(Str.ofString "self"), (Str.ofString "tabsize"), (Str.ofString "count"), (Str.ofString "trailing"), (Str.ofString "il"), (Str.ofString "i")]
  np := 2
  body := (.cons (.unp [2, 3] (.fld (.var 0) 3))
      (.cons (.asg 4 (.int 0))
      (.cons (.for_ 5 (.rng2 (.var 1) (.cB .len (.cons (.var 2) .nil))) (.cons (.asg 4 (.bin .add (.var 4) (.bin .mul (.bin .fdiv (.var 5) (.var 1)) (.sub (.var 2) (.var 5)))))
      .nil))
      (.cons (.ret (.bin .add (.var 3) (.bin .mul (.var 1) (.bin .add (.var 4) (.fld (.var 0) 2)))))
      .nil))))

noncomputable def ir_equal : FnIR where
  names := [(Str.ofString "self"), (Str.ofString "other")]
  np := 2
  body := (.cons (.ret (.cmp .eq (.fld (.var 0) 3) (.fld (.var 1) 3)))
      .nil)

noncomputable def ir_neW : FnIR where
  names := [(Str.ofString "self"), (Str.ofString "other"), (Str.ofString "n"), (Str.ofString "a"), (Str.ofString "ts")]
  np := 2
  body := (.cons (.asg 2 (.bin .add (.cB .max (.cons (.cM .longest (.var 0) .nil) (.cons (.cM .longest (.var 1) .nil) .nil))) (.int 1)))
      (.cons (.asg 3 (.lsO .nil))
      (.cons (.for_ 4 (.rng2 (.int 1) (.bin .add (.var 2) (.int 1))) (.cons (.ifs (.cmp .ne (.cM .indent (.var 0) (.cons (.var 4) .nil)) (.cM .indent (.var 1) (.cons (.var 4) .nil))) (.cons (.app (.var 3) (.tp (.cons (.var 4) (.cons (.cM .indent (.var 0) (.cons (.var 4) .nil)) (.cons (.cM .indent (.var 1) (.cons (.var 4) .nil)) .nil)))))
      .nil) .nil)
      .nil))
      (.cons (.ret (.var 3))
      .nil))))

noncomputable def ir_less : FnIR where
  names := [(Str.ofString "self"), (Str.ofString "other"), (Str.ofString "n"), (Str.ofString "ts")]
  np := 2
  body := (.cons (.ifs (.cmp .ge (.fld (.var 0) 1) (.fld (.var 1) 1)) (.cons (.ret (.tt false))
      .nil) .nil)
      (.cons (.ifs (.bop true (.cons (.fld (.var 0) 4) (.cons (.fld (.var 1) 4) .nil))) (.cons (.ret (.cmp .le (.fld (.var 0) 2) (.fld (.var 1) 2)))
      .nil) .nil)
      (.cons (.asg 2 (.bin .add (.cB .max (.cons (.cM .longest (.var 0) .nil) (.cons (.cM .longest (.var 1) .nil) .nil))) (.int 1)))
      (.cons (.for_ 3 (.rng2 (.int 2) (.bin .add (.var 2) (.int 1))) (.cons (.ifs (.cmp .ge (.cM .indent (.var 0) (.cons (.var 3) .nil)) (.cM .indent (.var 1) (.cons (.var 3) .nil))) (.cons (.ret (.tt false))
      .nil) .nil)
      .nil))
      (.cons (.ret (.tt true))
      .nil)))))

noncomputable def ir_nlW : FnIR where
  names := [(Str.ofString "self"), (Str.ofString "other"), (Str.ofString "n"), (Str.ofString "a"), (Str.ofString "ts")]
  np := 2
  body := (.cons (.asg 2 (.bin .add (.cB .max (.cons (.cM .longest (.var 0) .nil) (.cons (.cM .longest (.var 1) .nil) .nil))) (.int 1)))
      (.cons (.asg 3 (.lsO .nil))
      (.cons (.for_ 4 (.rng2 (.int 1) (.bin .add (.var 2) (.int 1))) (.cons (.ifs (.cmp .ge (.cM .indent (.var 0) (.cons (.var 4) .nil)) (.cM .indent (.var 1) (.cons (.var 4) .nil))) (.cons (.app (.var 3) (.tp (.cons (.var 4) (.cons (.cM .indent (.var 0) (.cons (.var 4) .nil)) (.cons (.cM .indent (.var 1) (.cons (.var 4) .nil)) .nil)))))
      .nil) .nil)
      .nil))
      (.cons (.ret (.var 3))
      .nil))))

noncomputable def ir_div2 : FnIR where
  names := [(Str.ofString "a"), (Str.ofString "b"), (Str.ofString "n")]
  np := 3
  body := (.cons (.ifs (.cmp .le (.bin .sub (.bl (.var 0)) (.var 2)) (.gint (Str.ofString "_DIV_LIMIT") 4000)) (.cons (.ret (.cB .divmod (.cons (.var 0) (.cons (.var 1) .nil))))
      .nil) .nil) (.cons .dead .nil))

noncomputable def ir_i2d : FnIR where
  names := [(Str.ofString "a"), (Str.ofString "n"), (Str.ofString "a_digits"), (Str.ofString "inner")]
  np := 2
  body := (.cons (.asg 2 (.binO .mul (.ls (.cons (.int 0) .nil)) (.bin .fdiv (.bin .sub (.bin .add (.bl (.var 0)) (.var 1)) (.int 1)) (.var 1))))
      (.cons (.defI 3)
      (.cons (.ifs (.var 0) (.cons (.ex (.cI 3 (.cons (.var 0) (.cons (.int 0) (.cons (.cB .len (.cons (.var 2) .nil)) .nil)))))
      .nil) .nil)
      (.cons (.ret (.var 2))
      .nil))))

noncomputable def ir_i2dIn : FnIR where
  names := [(Str.ofString "x"), (Str.ofString "L"), (Str.ofString "R"), (Str.ofString "a_digits"), (Str.ofString "inner"), (Str.ofString "n"), (Str.ofString "mid"), (Str.ofString "shift"), (Str.ofString "upper"), (Str.ofString "lower")]
  np := 3
  body := (.cons (.ifs (.cmp .eq (.bin .add (.var 1) (.int 1)) (.var 2)) (.cons (.setI (.var 3) (.var 1) (.var 0))
      (.cons .ret0
      .nil)) .nil)
      (.cons (.asg 6 (.bin .shr (.bin .add (.var 1) (.var 2)) (.int 1)))
      (.cons (.asg 7 (.bin .mul (.bin .sub (.var 6) (.var 1)) (.var 5)))
      (.cons (.asg 8 (.bin .shr (.var 0) (.var 7)))
      (.cons (.asg 9 (.bin .xor (.var 0) (.bin .shl (.var 8) (.var 7))))
      (.cons (.ex (.cI 4 (.cons (.var 9) (.cons (.var 1) (.cons (.var 6) .nil)))))
      (.cons (.ex (.cI 4 (.cons (.var 8) (.cons (.var 6) (.cons (.var 2) .nil)))))
      .nil)))))))

noncomputable def ir_d2i : FnIR where
  names := [(Str.ofString "digits"), (Str.ofString "n"), (Str.ofString "inner")]
  np := 2
  body := (.cons (.defI 2)
      (.cons (.ret (.ite (.var 0) (.cI 2 (.cons (.int 0) (.cons (.cB .len (.cons (.var 0) .nil)) .nil))) (.int 0)))
      .nil))

noncomputable def ir_d2iIn : FnIR where
  names := [(Str.ofString "L"), (Str.ofString "R"), (Str.ofString "digits"), (Str.ofString "inner"), (Str.ofString "n"), (Str.ofString "mid"), (Str.ofString "shift")]
  np := 2
  body := (.cons (.ifs (.cmp .eq (.bin .add (.var 0) (.int 1)) (.var 1)) (.cons (.ret (.sub (.var 2) (.var 0)))
      .nil) .nil)
      (.cons (.asg 5 (.bin .shr (.bin .add (.var 0) (.var 1)) (.int 1)))
      (.cons (.asg 6 (.bin .mul (.bin .sub (.var 5) (.var 0)) (.var 4)))
      (.cons (.ret (.bin .add (.bin .shl (.cI 3 (.cons (.var 5) (.cons (.var 1) .nil))) (.var 6)) (.cI 3 (.cons (.var 0) (.cons (.var 5) .nil)))))
      .nil))))

noncomputable def ir_dmpos : FnIR where
  names := [(Str.ofString "a"), (Str.ofString "b"), (Str.ofString "n"), (Str.ofString "a_digits"), (Str.ofString "r"), (Str.ofString "q_digits"), (Str.ofString "a_digit"), (Str.ofString "q_digit"), (Str.ofString "q")]
  np := 2
  body := (.cons (.asg 2 (.bl (.var 1)))
      (.cons (.asg 3 (.cF .i2d (.cons (.var 0) (.cons (.var 2) .nil))))
      (.cons (.asg 4 (.int 0))
      (.cons (.asg 5 (.lsO .nil))
      (.cons (.for_ 6 (.rev (.var 3)) (.cons (.unp [7, 4] (.cF .div2 (.cons (.bin .add (.bin .shl (.var 4) (.var 2)) (.var 6)) (.cons (.var 1) (.cons (.var 2) .nil)))))
      (.cons (.app (.var 5) (.var 7))
      .nil)))
      (.cons (.rvs (.var 5))
      (.cons (.asg 8 (.cF .d2i (.cons (.var 5) (.cons (.var 2) .nil))))
      (.cons (.ret (.tp (.cons (.var 8) (.cons (.var 4) .nil))))
      .nil))))))))

noncomputable def ir_idm : FnIR where
  names := [(Str.ofString "a"), (Str.ofString "b")]
  np := 2
  body := (.cons (.ifs (.cmp .eq (.var 1) (.int 0)) (.cons .dead .nil) (.cons (.ifs (.cmp .lt (.var 1) (.int 0)) (.cons .dead .nil) (.cons (.ifs (.cmp .lt (.var 0) (.int 0)) (.cons .dead .nil) (.cons (.ret (.cF .dmpos (.cons (.var 0) (.cons (.var 1) .nil))))
      .nil))
      .nil))
      .nil))
      .nil)

noncomputable def ir_drawn : FnIR where
  names := [(Str.ofString "deal"), (Str.ofString "fold"), (Str.ofString "counts"), (Str.ofString "k"), (Str.ofString "lengths"), (Str.ofString "k")]
  np := 2
  body := (.cons (.asg 2 (.binO .mul (.ls (.cons (.int 0) .nil)) (.int 8)))
      (.cons (.asg 4 (.lc (.var 3) 3 (.rng2 (.int 1) (.int 8)) (.cmp .ne (.bin .mod (.var 3) (.var 1)) (.int 0)) [1]))
      (.cons (.for_ 5 (.rng1 (.int 4)) (.cons (.setI (.var 2) (.sub (.var 4) (.var 5)) (.bin .mod (.sub (.var 0) (.bin .add (.var 5) (.int 1))) (.sub (.ls (.cons (.int 10) (.cons (.int 5) (.cons (.int 3) (.cons (.int 2) .nil))))) (.var 5))))
      .nil))
      (.cons (.ret (.var 2))
      .nil))))

noncomputable def ir_lead : FnIR where
  names := [(Str.ofString "counts"), (Str.ofString "blanks"), (Str.ofString "first"), (Str.ofString "rows"), (Str.ofString "k")]
  np := 3
  body := (.cons (.asg 3 (.ls .nil))
      (.cons (.for_ 4 (.rng1 (.cB .len (.cons (.var 0) .nil))) (.cons (.asg 3 (.bin .add (.var 3) (.bin .mul (.ls (.cons (.bin .add (.bin .mul (.str (Str.ofString " ")) (.var 4)) (.str (Str.ofString "\t"))) .nil)) (.sub (.var 0) (.var 4)))))
      .nil))
      (.cons (.ret (.bin .add (.join (.str (Str.ofString "")) (.bin .add (.sl (.var 3) (.var 2) .no (.int 2)) (.sl (.var 3) (.bin .sub (.int 1) (.var 2)) .no (.int 2)))) (.bin .mul (.str (Str.ofString " ")) (.var 1))))
      .nil)))

noncomputable def ir_read : FnIR where
  names := [(Str.ofString "counts"), (Str.ofString "sign"), (Str.ofString "numbers"), (Str.ofString "fold"), (Str.ofString "count"), (Str.ofString "text"), (Str.ofString "grown"), (Str.ofString "joined"), (Str.ofString "place"), (Str.ofString "length"), (Str.ofString "k"), (Str.ofString "width"), (Str.ofString "number")]
  np := 4
  body := (.cons (.asg 5 (.join (.str (Str.ofString ",")) (.lc (.bin .mul (.var 1) (.var 4)) 4 (.it (.var 0)) (.tt true) [1])))
      (.cons (.unpT [6, 7, 8, 9] (.cons (.binO .mul (.ls (.cons (.int 0) .nil)) (.bin .mul (.var 3) (.cB .len (.cons (.var 0) .nil)))) (.cons (.lsO .nil) (.cons (.int 0) (.cons (.int 0) .nil)))))
      (.cons (.whl (.cmp .lt (.var 8) (.cB .len (.cons (.var 5) .nil))) (.cons (.asg 11 (.cB .max (.cons (.lc (.var 10) 10 (.it (.ls (.cons (.int 1) (.cons (.int 2) (.cons (.int 3) .nil))))) (.din (.sl (.var 5) (.var 8) (.bin .add (.var 8) (.var 10)) .no)) [5, 8]) .nil)))
      (.cons (.asg 12 (.dget (.sl (.var 5) (.var 8) (.bin .add (.var 8) (.var 11)) .no)))
      (.cons (.asg 8 (.bin .add (.var 8) (.var 11)))
      (.cons (.ifs (.cmp .eq (.var 12) (.int 12)) (.cons (.asg 9 (.bin .add (.var 9) (.int 1)))
      .nil) (.cons (.ifs (.cmp .eq (.var 12) (.sub (.var 2) (.int 0))) (.cons (.setI (.var 6) (.var 9) (.bin .add (.sub (.var 6) (.var 9)) (.int 1)))
      .nil) (.cons (.ifs (.cmp .eq (.var 12) (.sub (.var 2) (.int 1))) (.cons (.setI (.var 6) (.bin .mul (.var 3) (.var 9)) (.bin .add (.sub (.var 6) (.bin .mul (.var 3) (.var 9))) (.int 1)))
      (.cons (.app (.var 7) (.var 9))
      .nil)) .nil)
      .nil))
      .nil))
      .nil)))))
      (.cons (.ret (.ls (.cons (.var 6) (.cons (.var 7) .nil))))
      .nil))))

noncomputable def ir_figs : FnIR where
  names := [(Str.ofString "counts"), (Str.ofString "fold"), (Str.ofString "found"), (Str.ofString "k"), (Str.ofString "count"), (Str.ofString "length"), (Str.ofString "figure")]
  np := 2
  body := (.cons (.asg 2 (.binO .mul (.ls (.cons (.int 0) .nil)) (.int 16)))
      (.cons (.for_ 3 (.rng1 (.cB .len (.cons (.var 0) .nil))) (.cons (.unpT [4, 5] (.cons (.sub (.var 0) (.var 3)) (.cons (.var 3) .nil)))
      (.cons (.whl (.cmp .gt (.var 4) (.int 0)) (.cons (.unp [4, 6] (.cF .idm (.cons (.var 4) (.cons (.var 1) .nil))))
      (.cons (.setI (.var 2) (.var 5) (.var 6))
      (.cons (.asg 5 (.bin .mul (.var 5) (.var 1)))
      .nil))))
      .nil)))
      (.cons (.whl (.cmp .eq (.sl (.var 2) (.neg (.int 1)) .no .no) (.ls (.cons (.int 0) .nil))) (.cons (.pop (.var 2))
      .nil))
      (.cons (.ret (.cB .tuple (.cons (.var 2) .nil)))
      .nil))))

noncomputable def ir_cols : FnIR where
  names := [(Str.ofString "counts"), (Str.ofString "joined"), (Str.ofString "blanks"), (Str.ofString "fold"), (Str.ofString "sizes"), (Str.ofString "rows"), (Str.ofString "size"), (Str.ofString "k"), (Str.ofString "column"), (Str.ofString "k"), (Str.ofString "moved")]
  np := 5
  body := (.cons (.asg 5 (.lsO .nil))
      (.cons (.for_ 6 (.rng2 (.int 1) (.bin .add (.var 4) (.int 1))) (.cons (.asg 8 (.bin .add (.var 2) (.cB .sum (.cons (.lc (.bin .mul (.bin .mul (.sub (.var 0) (.var 7)) (.var 6)) (.bin .add (.bin .fdiv (.var 7) (.var 6)) (.int 1))) 7 (.rng1 (.cB .len (.cons (.var 0) .nil))) (.tt true) [0, 6]) .nil))))
      (.cons (.asg 10 (.cB .sum (.cons (.lc (.bin .sub (.bin .sub (.var 3) (.int 1)) (.bin .sub (.bin .fdiv (.bin .mul (.var 3) (.var 9)) (.var 6)) (.bin .mul (.var 3) (.bin .fdiv (.var 9) (.var 6))))) 9 (.it (.var 1)) (.tt true) [3, 6]) .nil)))
      (.cons (.app (.var 5) (.tp (.cons (.var 6) (.cons (.var 8) (.cons (.bin .sub (.var 8) (.bin .mul (.var 6) (.var 10))) .nil)))))
      .nil))))
      (.cons (.ret (.var 5))
      .nil)))

noncomputable def ir_plain : FnIR where
  names := [(Str.ofString "room"), (Str.ofString "blanks"), (Str.ofString "bare"), (Str.ofString "k"), (Str.ofString "tabs")]
  np := 1
  body := (.cons (.unpT [1, 2] (.cons (.mk (.bin .mul (.str (Str.ofString " ")) (.var 0))) (.cons (.mk (.bin .mul (.str (Str.ofString "\t")) (.var 0))) .nil)))
      (.cons (.for_ 3 (.it (.ls (.cons (.bin .sub (.var 0) (.int 1)) (.cons (.var 0) (.cons (.bin .add (.var 0) (.int 1)) .nil))))) (.cons (.asg 4 (.mk (.bin .mul (.str (Str.ofString "\t")) (.var 3))))
      (.cons (.ifs (.bop false (.cons (.cmp .isn (.cM .less (.var 1) (.cons (.var 4) .nil)) (.cmp .lt (.var 0) (.var 3))) (.cons (.cmp .isn (.cM .less (.var 4) (.cons (.var 1) .nil)) (.cmp .eq (.var 3) (.int 0))) .nil))) (.cons (.ret (.tt false))
      .nil) .nil)
      (.cons (.ifs (.bop false (.cons (.cmp .isn (.cM .equal (.var 4) (.cons (.var 2) .nil)) (.cmp .eq (.var 3) (.var 0))) (.cons (.cmp .isn (.cM .equal (.var 4) (.cons (.var 1) .nil)) (.tt false)) .nil))) (.cons (.ret (.tt false))
      .nil) .nil)
      .nil))))
      (.cons (.ret (.cmp .is (.cM .equal (.mk (.bin .add (.bin .mul (.str (Str.ofString " ")) (.var 0)) (.str (Str.ofString "\t\t")))) (.cons (.mk (.bin .add (.bin .add (.str (Str.ofString " \t")) (.bin .mul (.str (Str.ofString " ")) (.bin .sub (.var 0) (.int 1)))) (.str (Str.ofString "\t")))) .nil)) (.cmp .eq (.var 0) (.int 1))))
      .nil)))

noncomputable def ir_ways : FnIR where
  names := [(Str.ofString "size"), (Str.ofString "fold"), (Str.ofString "ways"), (Str.ofString "part"), (Str.ofString "k")]
  np := 2
  body := (.cons (.asg 2 (.binO .add (.ls (.cons (.int 1) .nil)) (.bin .mul (.ls (.cons (.int 0) .nil)) (.var 0))))
      (.cons (.for_ 3 (.rng2 (.int 1) (.bin .add (.var 0) (.int 1))) (.cons (.for_ 4 (.rng2 (.var 3) (.bin .add (.var 0) (.int 1))) (.cons (.setI (.var 2) (.var 4) (.bin .add (.sub (.var 2) (.var 4)) (.ite (.cmp .ne (.bin .mod (.var 3) (.var 1)) (.int 0)) (.sub (.var 2) (.bin .sub (.var 4) (.var 3))) (.int 0))))
      .nil))
      .nil))
      (.cons (.ret (.var 2))
      .nil)))

noncomputable def ir_prod : FnIR where
  names := [(Str.ofString "width"), (Str.ofString "fold"), (Str.ofString "product"), (Str.ofString "k")]
  np := 2
  body := (.cons (.asg 2 (.int 1))
      (.cons (.for_ 3 (.rng2 (.int 1) (.int 6)) (.cons (.asg 2 (.bin .mul (.var 2) (.bin .sub (.bin .pow (.int 2) (.bin .mul (.bin .mul (.var 0) (.var 1)) (.var 3))) (.int 1))))
      .nil))
      (.cons (.ret (.var 2))
      .nil)))

noncomputable def ir_law : FnIR where
  names := [(Str.ofString "script"), (Str.ofString "base"), (Str.ofString "m"), (Str.ofString "sums"), (Str.ofString "kind"), (Str.ofString "many"), (Str.ofString "edge"), (Str.ofString "wide"), (Str.ofString "drawn"), (Str.ofString "begun"), (Str.ofString "ended"), (Str.ofString "pairs"), (Str.ofString "turn"), (Str.ofString "after"), (Str.ofString "laid"), (Str.ofString "due"), (Str.ofString "more"), (Str.ofString "pushed"), (Str.ofString "table"), (Str.ofString "near"), (Str.ofString "w"), (Str.ofString "far"), (Str.ofString "w"), (Str.ofString "w"), (Str.ofString "w"), (Str.ofString "w"), (Str.ofString "w"), (Str.ofString "over"), (Str.ofString "told"), (Str.ofString "rest"), (Str.ofString "figures")]
  np := 1
  body := (.cons (.asg 1 (.ls (.cons (.int 0) (.cons (.int 2) (.cons (.int 1) (.cons (.int 0) (.cons (.int 0) (.cons (.int 2) (.cons (.int 5) .nil)))))))))
      (.cons (.asg 3 (.lc (.bin .add (.cB .sum (.cons (.sl (.var 0) (.var 2) .no (.int 7)) .nil)) (.sub (.var 1) (.var 2))) 2 (.rng1 (.int 7)) (.tt true) [0, 1]))
      (.cons (.asg 4 (.bin .mod (.sub (.var 3) (.int 0)) (.int 6)))
      (.cons (.asg 5 (.ite (.cmp .eq (.var 4) (.int 5)) (.int 3) (.int 2)))
      (.cons (.asg 6 (.bin .mod (.sub (.var 3) (.int 5)) (.int 6)))
      (.cons (.asg 7 (.bin .add (.int 8) (.bin .mod (.sub (.var 3) (.int 6)) (.int 57))))
      (.cons (.asg 8 (.cF .drawn (.cons (.var 3) (.cons (.var 5) .nil))))
      (.cons (.asg 9 (.mk (.bin .add (.cF .lead (.cons (.var 8) (.cons (.var 6) (.cons (.int 1) .nil)))) (.str (Str.ofString "x \t")))))
      (.cons (.asg 10 (.var 9))
      (.cons (.asg 11 (.ls .nil))
      (.cons (.for_ 12 (.rng1 (.int 4)) (.cons (.asg 13 (.cF .read (.cons (.sub (.fld (.var 10) 3) (.int 0)) (.cons (.sub (.str (Str.ofString "=*/<>.")) (.var 4)) (.cons (.sub (.ls (.cons (.ls (.cons (.int 22) (.cons (.int 27) .nil))) (.cons (.ls (.cons (.int 16) (.cons (.int 35) .nil))) (.cons (.ls (.cons (.int 17) (.cons (.int 47) .nil))) (.cons (.ls (.cons (.int 20) (.cons (.int 33) .nil))) (.cons (.ls (.cons (.int 21) (.cons (.int 34) .nil))) (.cons (.ls (.cons (.int 23) (.cons (.int 52) .nil))) .nil))))))) (.var 4)) (.cons (.var 5) .nil))))))
      (.cons (.asg 14 (.mk (.bin .add (.cF .lead (.cons (.sub (.var 13) (.int 0)) (.cons (.var 6) (.cons (.bin .mod (.var 12) (.int 2)) .nil)))) (.str (Str.ofString "x \t")))))
      (.cons (.ifs (.cmp .isn (.cM .equal (.var 14) (.cons (.var 10) .nil)) (.cmp .eq (.sub (.var 13) (.int 1)) (.ls .nil))) (.cons (.ret (.tt false))
      .nil) .nil)
      (.cons (.asg 10 (.var 14))
      (.cons (.asg 11 (.bin .add (.var 11) (.sub (.var 13) (.int 1))))
      (.cons (.ifs (.cmp .eq (.sub (.var 13) (.int 1)) (.ls .nil)) (.cons .brk
      .nil) .nil)
      .nil)))))))
      (.cons (.asg 15 (.cF .figs (.cons (.var 8) (.cons (.var 5) .nil))))
      (.cons (.asg 16 (.bin .add (.bin .add (.var 6) (.int 1)) (.bin .mul (.bin .sub (.var 5) (.int 1)) (.cB .len (.cons (.var 11) .nil)))))
      (.cons (.asg 17 (.mk (.cF .lead (.cons (.sub (.var 13) (.int 0)) (.cons (.var 16) (.cons (.int 1) .nil))))))
      (.cons (.asg 18 (.cF .cols (.cons (.var 8) (.cons (.var 11) (.cons (.var 6) (.cons (.var 5) (.cons (.cB .max (.cons (.cB .len (.cons (.var 15) .nil)) (.cons (.bin .add (.var 16) (.int 1)) .nil))) .nil)))))))
      (.cons (.asg 19 (.sl (.var 18) .no (.cB .max (.cons (.cB .len (.cons (.var 15) .nil)) (.cons (.bin .add (.var 6) (.int 1)) .nil))) .no))
      (.cons (.asg 21 (.lc (.tp (.cons (.sub (.var 20) (.int 0)) (.cons (.sub (.var 20) (.int 1)) (.cons (.bin .sub (.bin .add (.sub (.var 20) (.int 2)) (.var 16)) (.var 6)) .nil)))) 20 (.it (.var 18)) (.tt true) [6, 16]))
      (.cons (.ifs (.bop false (.cons (.cmp .ne (.fld (.var 10) 3) (.tp (.cons (.var 15) (.cons (.var 6) .nil)))) (.cons (.cmp .ne (.fld (.var 17) 3) (.tp (.cons (.var 15) (.cons (.var 16) .nil)))) (.cons (.cmp .isn (.cM .equal (.var 10) (.cons (.var 17) .nil)) (.tt false)) .nil)))) (.cons (.ret (.tt false))
      .nil) .nil)
      (.cons (.ifs (.bop false (.cons (.cmp .ne (.cM .nlW (.var 9) (.cons (.var 10) .nil)) (.var 19)) (.cons (.cmp .ne (.cM .neW (.var 9) (.cons (.var 10) .nil)) (.lc (.var 22) 22 (.it (.var 19)) (.cmp .ne (.sub (.var 22) (.int 1)) (.sub (.var 22) (.int 2))) [])) .nil))) (.cons (.ret (.tt false))
      .nil) .nil)
      (.cons (.ifs (.cmp .ne (.cM .nlW (.var 10) (.cons (.var 9) .nil)) (.lc (.tp (.cons (.sub (.var 23) (.int 0)) (.cons (.sub (.var 23) (.int 2)) (.cons (.sub (.var 23) (.int 1)) .nil)))) 23 (.it (.var 19)) (.cmp .eq (.sub (.var 23) (.int 1)) (.sub (.var 23) (.int 2))) [])) (.cons (.ret (.tt false))
      .nil) .nil)
      (.cons (.ifs (.cmp .ne (.cM .neW (.var 17) (.cons (.var 9) .nil)) (.lc (.tp (.cons (.sub (.var 24) (.int 0)) (.cons (.sub (.var 24) (.int 2)) (.cons (.sub (.var 24) (.int 1)) .nil)))) 24 (.it (.var 21)) (.cmp .ne (.sub (.var 24) (.int 1)) (.sub (.var 24) (.int 2))) [])) (.cons (.ret (.tt false))
      .nil) .nil)
      (.cons (.ifs (.cmp .isn (.cM .less (.var 10) (.cons (.var 9) .nil)) (.cmp .eq (.lc (.var 25) 25 (.it (.var 19)) (.cmp .eq (.sub (.var 25) (.int 1)) (.sub (.var 25) (.int 2))) []) (.ls .nil))) (.cons (.ret (.tt false))
      .nil) .nil)
      (.cons (.asg 27 (.lc (.var 26) 26 (.it (.var 21)) (.cmp .ge (.sub (.var 26) (.int 1)) (.sub (.var 26) (.int 2))) []))
      (.cons (.ifs (.bop false (.cons (.cmp .ne (.cM .nlW (.var 9) (.cons (.var 17) .nil)) (.var 27)) (.cons (.cmp .isn (.cM .less (.var 9) (.cons (.var 17) .nil)) (.cmp .eq (.var 27) (.ls .nil))) .nil))) (.cons (.ret (.tt false))
      .nil) .nil)
      (.cons (.ifs (.bop false (.cons (.cmp .isn (.cM .less (.mk (.bin .add (.bin .mul (.str (Str.ofString "\t")) (.cB .sum (.cons (.var 8) .nil))) (.bin .mul (.str (Str.ofString " ")) (.var 6)))) (.cons (.var 9) .nil)) (.tt false)) (.cons (.nt (.cF .plain (.cons (.bin .add (.var 6) (.int 1)) .nil))) .nil))) (.cons (.ret (.tt false))
      .nil) .nil)
      (.cons (.unp [28, 29] (.cF .idm (.cons (.cF .prod (.cons (.var 7) (.cons (.var 5) .nil))) (.cons (.cF .prod (.cons (.var 7) (.cons (.int 1) .nil))) .nil))))
      (.cons (.asg 30 (.cF .i2d (.cons (.var 28) (.cons (.var 7) .nil))))
      (.cons (.ret (.bop true (.cons (.cmp .eq (.var 29) (.int 0)) (.cons (.cmp .eq (.sl (.var 30) .no (.int 6) .no) (.cF .ways (.cons (.int 5) (.cons (.var 5) .nil)))) (.cons (.cmp .eq (.var 30) (.sl (.var 30) .no .no (.neg (.int 1)))) (.cons (.cmp .eq (.cB .sum (.cons (.var 30) .nil)) (.bin .pow (.var 5) (.int 5))) .nil))))))
      .nil))))))))))))))))))))))))))))

noncomputable def irOf : Fn → FnIR
  | .longest => ir_longest
  | .indent => ir_indent
  | .equal => ir_equal
  | .neW => ir_neW
  | .less => ir_less
  | .nlW => ir_nlW
  | .div2 => ir_div2
  | .i2d => ir_i2d
  | .d2i => ir_d2i
  | .dmpos => ir_dmpos
  | .idm => ir_idm
  | .drawn => ir_drawn
  | .lead => ir_lead
  | .read => ir_read
  | .figs => ir_figs
  | .cols => ir_cols
  | .plain => ir_plain
  | .ways => ir_ways
  | .prod => ir_prod
  | .law => ir_law
  | .init => ir_init
end Mine
end
section
open PySem PySem.W PyProof.Rows PySem.Calls
namespace Mine

noncomputable abbrev PM := Addr → Option Obj

noncomputable def Le (P P' : PM) : Prop := ∀ b o, P b = some o → P' b = some o
theorem Le.refl (P : PM) : Le P P := fun _ _ e => e
theorem Le.trans {P P' P'' : PM} (x : Le P P') (y : Le P' P'') : Le P P'' := fun b o e => y b o (x b o e)

mutual
inductive Rd (P : PM) : Value → PyData → Prop
  | none : Rd P .none .none
  | bool (b) : Rd P (.bool b) (.bool b)
  | int (i t) : Rd P (.int i t) (.int i)
  | str (x t) : Rd P (.str x t) (.str x)
  | list {a o vs n xs} : P a = some o → o.cls = .type "list" → o.data = .seq vs n → RdL P vs.toList xs → Rd P (.ref a) (.list xs)
  | tuple {a o vs n xs} : P a = some o → o.cls = .type "tuple" → o.data = .seq vs n → RdL P vs.toList xs → Rd P (.ref a) (.tuple xs)
inductive RdL (P : PM) : List Value → List PyData → Prop
  | nil : RdL P [] []
  | cons {v vs d ds} : Rd P v d → RdL P vs ds → RdL P (v :: vs) (d :: ds)
end

theorem Rd.le {P P' : PM} (l : Le P P') {v : Value} {d : PyData} (h : Rd P v d) : Rd P' v d :=
  Rd.rec (motive_1 := fun v d _ => Rd P' v d) (motive_2 := fun vs ds _ => RdL P' vs ds) .none .bool .int .str (fun h1 h2 h3 _ ih => .list (l _ _ h1) h2 h3 ih) (fun h1 h2 h3 _ ih => .tuple (l _ _ h1) h2 h3 ih) .nil (fun _ _ a b => .cons a b) h
@[elab_as_elim] theorem RdL.ind {P : PM} {C : List Value → List PyData → Prop} {vs : List Value} {ds : List PyData} (h : RdL P vs ds) (n : C [] []) (c : ∀ {v vs d ds}, Rd P v d → RdL P vs ds → C vs ds → C (v :: vs) (d :: ds)) : C vs ds :=
  RdL.rec (motive_1 := fun _ _ _ => True) (motive_2 := fun vs ds _ => C vs ds) trivial (fun _ => trivial) (fun _ _ => trivial) (fun _ _ => trivial) (fun _ _ _ _ _ => trivial) (fun _ _ _ _ _ => trivial) n (fun a b _ ih => c a b ih) h
section
variable {P : PM} {vs ws : List Value} {ds es : List PyData}
theorem RdL.le {P' : PM} (l : Le P P') (h : RdL P vs ds) : RdL P' vs ds := h.ind .nil fun a _ ih => .cons (a.le l) ih
theorem RdL.length (h : RdL P vs ds) : vs.length = ds.length := h.ind rfl fun _ _ ih => congrArg (· + 1) ih
theorem RdL.app (h : RdL P vs ds) (y : RdL P ws es) : RdL P (vs ++ ws) (ds ++ es) := h.ind y fun a _ ih => .cons a ih
theorem RdL.get (h : RdL P vs ds) : ∀ (i : Nat) {d : PyData}, ds[i]? = some d → ∃ v, vs[i]? = some v ∧ Rd P v d :=
  h.ind (fun _ _ e => nomatch e) fun a _ ih i d e => by
    cases i with
    | zero => cases e; exact ⟨_, rfl, a⟩
    | succ i => exact ih i e
theorem RdL.get' (h : RdL P vs ds) : ∀ (i : Nat) {v : Value}, vs[i]? = some v → ∃ d, ds[i]? = some d ∧ Rd P v d :=
  h.ind (fun _ _ e => nomatch e) fun a _ ih i d e => by
    cases i with
    | zero => cases e; exact ⟨_, rfl, a⟩
    | succ i => exact ih i e
theorem RdL.set {w : Value} {e : PyData} (hw : Rd P w e) (h : RdL P vs ds) : ∀ i : Nat, RdL P (vs.set i w) (ds.set i e) :=
  h.ind (fun _ => .nil) fun a b ih i => by
    cases i with
    | zero => exact .cons hw b
    | succ i => exact .cons a (ih i)
theorem RdL.dropLast (h : RdL P vs ds) : RdL P vs.dropLast ds.dropLast := h.ind .nil fun a b ih => by
  cases b with
  | nil => exact .nil
  | cons => exact .cons a ih
theorem RdL.reverse (h : RdL P vs ds) : RdL P vs.reverse ds.reverse := h.ind .nil fun a _ ih => by
  rw [List.reverse_cons, List.reverse_cons]; exact ih.app (.cons a .nil)
end
theorem RdL.pick {P : PM} {vs : List Value} {ds : List PyData} (h : RdL P vs ds) : ∀ l : List Nat, RdL P (l.filterMap (vs[·]?)) (l.filterMap (ds[·]?))
  | [] => .nil
  | i :: l => by
    cases e : ds[i]? with
    | none =>
      have : vs[i]? = none := by
        rw [List.getElem?_eq_none_iff] at e ⊢; rw [h.length]; exact e
      simpa [e, this] using RdL.pick h l
    | some d =>
      obtain ⟨v, h1, h2⟩ := h.get i e
      simpa [e, h1] using RdL.cons h2 (RdL.pick h l)
theorem RdL.rep {P : PM} {vs : List Value} {ds : List PyData} (h : RdL P vs ds) : ∀ n : Nat, RdL P (List.replicate n vs).flatten (List.replicate n ds).flatten
  | 0 => .nil
  | n + 1 => by simpa [List.replicate_succ] using RdL.app h (RdL.rep h n)

theorem RdL.readsOf {P : PM} {h : Heap} {vs : List Value} {ds : List PyData} (k : RdL P vs ds) (r : ∀ v d, Rd P v d → ∃ as, Reads h v d as) : ∃ as, ReadsAll h vs ds as :=
  k.ind ⟨_, .nil⟩ fun a _ ⟨_, r2⟩ => let ⟨_, r1⟩ := r _ _ a; ⟨_, .cons r1 r2⟩
theorem Rd.reads {P : PM} {h : Heap} (l : Le P h.get?) {v : Value} {d : PyData} (r : Rd P v d) : ∃ as, Reads h v d as :=
  Rd.rec (motive_1 := fun v d _ => ∃ as, Reads h v d as) (motive_2 := fun vs ds _ => ∃ as, ReadsAll h vs ds as) ⟨_, .none⟩ (fun b => ⟨_, .bool b⟩) (fun i t => ⟨_, .int i t⟩) (fun x t => ⟨_, .str x t⟩)
    (fun h1 h2 h3 _ ⟨_, r⟩ => ⟨_, .list (l _ _ h1) h2 h3 r⟩) (fun h1 h2 h3 _ ⟨_, r⟩ => ⟨_, .tuple (l _ _ h1) h2 h3 r⟩) ⟨_, .nil⟩ (fun _ _ ⟨_, r1⟩ ⟨_, r2⟩ => ⟨_, .cons r1 r2⟩) r
theorem RdL.reads {P : PM} {h : Heap} (l : Le P h.get?) {vs : List Value} {ds : List PyData} (k : RdL P vs ds) : ∃ as, ReadsAll h vs ds as := k.readsOf fun _ _ r => r.reads l
theorem RdL.intsA {P : PM} {vs : List Value} {ds : List PyData} (h : RdL P vs ds) : ∀ ns : List Int, intsOf ds = some ns → IntsAre vs ns :=
  h.ind (fun _ e => by cases e; exact .nil) fun a _ ih ns e => by
    cases a with
    | int i t =>
      obtain ⟨r, h1, rfl⟩ := Option.map_eq_some_iff.mp e
      exact .cons _ _ (ih _ h1)
    | _ => cases e
theorem RdL.ints {P : PM} {vs : List Value} {ds : List PyData} (h : RdL P vs ds) {ns : List Int} (e : intsOf ds = some ns) : IntsAre vs ns := h.intsA ns e

noncomputable def PM.add (P : PM) (a : Addr) (o : Obj) : PM := fun b => if b = a then some o else P b
theorem le_add {P : PM} {a : Addr} {o : Obj} (h : P a = none) : Le P (P.add a o) := fun b o' e => by
  unfold PM.add; by_cases hb : b = a
  · subst hb; rw [h] at e; cases e
  · rw [if_neg hb]; exact e
theorem add_self {P : PM} {a : Addr} {o : Obj} : P.add a o a = some o := by simp [PM.add]
theorem add_ne {P : PM} {a b : Addr} {o : Obj} (h : b ≠ a) : P.add a o b = P b := by simp [PM.add, h]

theorem cut {h : Heap} {L : Addr} {m : Str → Option Value} (hn : h.Ns L m) :
    ∃ h₀ news, Fr h₀ L h m ∧ News h₀ L h news ∧ (∀ b o, b < L → h.get? b = some o → h₀.get? b = some o) ∧
      (∀ h' news', Fr h₀ L h' m → News h₀ L h' (news' ++ news) → (∀ b o, b ≠ L → h.get? b = some o → h'.get? b = some o)) ∧ (∀ b o, L < b → h.get? b = some o → (b, o) ∈ news) := by
  let h₀ : Heap := ⟨h.objs.extract 0 L, h.life⟩
  have hL := hn.lt
  have hsz : h₀.objs.size = L := by
    show (h.objs.extract 0 L).size = L
    rw [Array.size_extract, Nat.sub_zero]; exact Nat.min_eq_left (Nat.le_of_lt hL)
  have get0 : ∀ b o, b < L → (h₀.get? b = some o ↔ h.get? b = some o) := fun b o hb => by
    have : h₀.objs[b]? = h.objs[b]? := by
      show (h.objs.extract 0 L)[b]? = _
      rw [Array.getElem?_extract, Nat.sub_zero, Nat.min_eq_left (Nat.le_of_lt hL), if_pos hb, Nat.zero_add]
    unfold Heap.get?; rw [this]
  let news : List (Addr × Obj) := ((List.range h.objs.size).filter fun b => decide (L < b)).filterMap fun b => (h.get? b).map fun o => (b, o)
  have hmem : ∀ b o, (b, o) ∈ news ↔ L < b ∧ h.get? b = some o := fun b o => by
    simp only [news, List.mem_filterMap, List.mem_filter, List.mem_range, decide_eq_true_eq, Option.map_eq_some_iff, Prod.mk.injEq]
    constructor
    · rintro ⟨b', ⟨_, h2⟩, o', h3, rfl, rfl⟩; exact ⟨h2, h3⟩
    · rintro ⟨h1, h2⟩; exact ⟨b, ⟨Heap.lt_size h2, h1⟩, o, h2, rfl, rfl⟩
  have keep0 : ∀ b o, h₀.get? b = some o → h.get? b = some o := fun b o e => (get0 b o (hsz ▸ Heap.lt_size e)).mp e
  refine ⟨h₀, news, ⟨hn, keep0, Nat.le_of_eq hsz⟩, fun p hp => ?_, fun b o hb e => (get0 b o hb).mpr e, fun h' news' F N b o hb e => ?_, fun b o hb e => (hmem b o).mpr ⟨hb, e⟩⟩
  · obtain ⟨b, o⟩ := p
    obtain ⟨h1, h2⟩ := (hmem b o).mp hp
    refine ⟨h2, Nat.ne_of_gt h1, ?_⟩
    cases hq : h₀.get? b with
    | none => rfl
    | some o' => exact absurd (Nat.lt_of_lt_of_eq (Heap.lt_size hq) hsz) (Nat.lt_asymm h1)
  · rcases Nat.lt_or_gt_of_ne hb with hlt | hgt
    · exact F.keep b o ((get0 b o hlt).mpr e)
    · exact (N (b, o) (List.mem_append_right _ ((hmem b o).mpr ⟨hgt, e⟩))).1

end Mine
end
section
open PySem PySem.W PyProof.Rows PySem.Calls
namespace Mine

structure Tb where
  c : Addr
  t : Addr
  pos : Pos
  qual : Str

structure Wo where
  w : World
  B : Heap
  C : Addr
  tabs : List Tb

noncomputable def Wo.ts (W : Wo) : List Addr := W.tabs.map (·.t)

noncomputable def fldN : List Str := [Str.ofString "raw", Str.ofString "n", Str.ofString "nt", Str.ofString "norm", Str.ofString "is_simple"]
inductive Ents (hs : Str → Int) (P : PM) : List Str → List DictEntry → List PyData → Prop
  | nil {ns} : Ents hs P ns [] []
  | cons {x ns t v es d ds} : Rd P v d → Ents hs P ns es ds → Ents hs P (x :: ns) (⟨hs x, .str x t, v⟩ :: es) (d :: ds)
theorem Ents.le {hs : Str → Int} {P P' : PM} (l : Le P P') {ns es ds} (h : Ents hs P ns es ds) : Ents hs P' ns es ds := by
  induction h with
  | nil => exact .nil
  | cons a _ ih => exact .cons (a.le l) ih
noncomputable def WsO (W : Wo) (P : PM) (od : Obj) (fs : List PyData) : Prop :=
  ∃ es n, od = { cls := .type "dict", data := .dict es.toArray n } ∧ Ents (PyData.keyHash W.w.params) P fldN es fs
theorem WsO.le {W : Wo} {P P' : PM} (l : Le P P') {od fs} : WsO W P od fs → WsO W P' od fs
  | ⟨es, n, e, x⟩ => ⟨es, n, e, x.le l⟩

inductive RV (W : Wo) (P : PM) (ad : Nat → Addr) (n : Nat) : Value → V → Prop
  | d {v x} : Rd P v x → RV W P ad n v (.d x)
  | ws {a dx od fs} : P a = some (instObj W.C dx) → P dx = some od → WsO W P od fs → RV W P ad n (.ref a) (.ws fs)
  | own {j} : j < n → RV W P ad n (.ref (ad j)) (.own j)
  | ins {a j} : j < n → P a = some (instObj W.C (ad j)) → RV W P ad n (.ref a) (.ins j)
inductive RVs (W : Wo) (P : PM) (ad : Nat → Addr) (n : Nat) : List Value → List V → Prop
  | nil : RVs W P ad n [] []
  | cons {v x vs xs} : RV W P ad n v x → RVs W P ad n vs xs → RVs W P ad n (v :: vs) (x :: xs)

theorem RV.mono {W : Wo} {P P' : PM} {ad ad' : Nat → Addr} {n n' : Nat} (l : Le P P') (ha : ∀ j, j < n → ad' j = ad j) (hn : n ≤ n') {v x} (r : RV W P ad n v x) : RV W P' ad' n' v x := by
  cases r with
  | d h => exact .d (h.le l)
  | ws h1 h2 h3 => exact .ws (l _ _ h1) (l _ _ h2) (h3.le l)
  | own h => exact ha _ h ▸ .own (Nat.lt_of_lt_of_le h hn)
  | ins h h1 => exact .ins (Nat.lt_of_lt_of_le h hn) (ha _ h ▸ l _ _ h1)
theorem RVs.mono {W : Wo} {P P' : PM} {ad ad' : Nat → Addr} {n n' : Nat} (l : Le P P') (ha : ∀ j, j < n → ad' j = ad j) (hn : n ≤ n') {v x} (r : RVs W P ad n v x) : RVs W P' ad' n' v x := by
  induction r with
  | nil => exact .nil
  | cons a _ ih => exact .cons (a.mono l ha hn) ih

noncomputable abbrev lstO (vs : Array Value) (n : Nat) : Obj := { cls := .type "list", data := .seq vs n }

noncomputable def dead : O → Bool | .x => true | _ => false

noncomputable def TabOk (W : Wo) (P : PM) (h : Heap) : Prop := ∀ q ∈ W.tabs, P q.t = none ∧ ∃ ps, h.get? q.t = some (tabObj ps) ∧
  (ps = #[] ∨ ∃ c' oc vs t, ps = #[rawInt q.pos.line, rawInt q.pos.col, .ref c'] ∧ P c' = some oc ∧ oc.data = .fields vs ∧ vs[1]? = some (.str q.qual t))

structure Sto (W : Wo) (P : PM) (ad : Nat → Addr) (σ : Sg) (h : Heap) : Prop where
  base : Le W.B.get? P
  sub : Le P h.get?
  tab : TabOk W P h
  ls : ∀ j xs, sget σ j = .l xs → ∃ vs n, h.get? (ad j) = some (lstO vs n) ∧ RdL P vs.toList xs
  is : ∀ j fs, sget σ j = .i fs → ∃ od, h.get? (ad j) = some od ∧ WsO W P od fs
  out : ∀ j, sget σ j ≠ .x → P (ad j) = none ∧ ad j ∉ W.ts
  inj : ∀ i j, sget σ i ≠ .x → sget σ j ≠ .x → ad i = ad j → i = j

theorem sget_lt : ∀ {σ : Sg} {j : Nat}, sget σ j ≠ .x → j < σ.length
  | [], _, h => absurd rfl h
  | _ :: _, 0, _ => Nat.succ_pos _
  | _ :: r, j + 1, h => Nat.succ_lt_succ (sget_lt (σ := r) h)
theorem sget_app_lt : ∀ {σ τ : Sg} {j : Nat}, j < σ.length → sget (σ ++ τ) j = sget σ j
  | _ :: _, _, 0, _ => rfl
  | _ :: r, τ, j + 1, h => sget_app_lt (σ := r) (τ := τ) (Nat.lt_of_succ_lt_succ h)
theorem sget_app_eq : ∀ {σ : Sg} {o : O}, sget (σ ++ [o]) σ.length = o
  | [], _ => rfl
  | _ :: r, o => sget_app_eq (σ := r) (o := o)
theorem sget_put_eq : ∀ {σ : Sg} {j : Nat} {o : O}, j < σ.length → sget (sput σ j o) j = o
  | _ :: _, 0, _, _ => rfl
  | _ :: r, j + 1, o, h => sget_put_eq (σ := r) (Nat.lt_of_succ_lt_succ h)
theorem sget_put_ne : ∀ {σ : Sg} {i j : Nat} {o : O}, i ≠ j → sget (sput σ j o) i = sget σ i
  | [], _, _, _, _ => rfl
  | _ :: _, 0, 0, _, h => absurd rfl h
  | _ :: _, _ + 1, 0, _, _ => rfl
  | _ :: _, 0, _ + 1, _, _ => rfl
  | _ :: r, i + 1, j + 1, o, h => sget_put_ne (σ := r) fun e => h (by rw [e])
theorem sput_len : ∀ {σ : Sg} {j : Nat} {o : O}, (sput σ j o).length = σ.length
  | [], _, _ => rfl
  | _ :: _, 0, _ => rfl
  | _ :: r, j + 1, o => by simp [sput, sput_len (σ := r)]

theorem Sto.live {W : Wo} {P ad σ h} (S : Sto W P ad σ h) {j : Nat} (hj : sget σ j ≠ .x) : ∃ o, h.get? (ad j) = some o := by
  cases e : sget σ j with
  | x => exact absurd e hj
  | l xs => obtain ⟨_, _, h1, _⟩ := S.ls j xs e; exact ⟨_, h1⟩
  | i fs => obtain ⟨o, h1, _⟩ := S.is j fs e; exact ⟨o, h1⟩

structure Eff (W : Wo) (X : Addr → Prop) (P : PM) (ad : Nat → Addr) (σ : Sg) (h : Heap) (P' : PM) (ad' : Nat → Addr) (σ' : Sg) (h' : Heap) : Prop where
  le : Le P P'
  keep : ∀ b o, ¬ X b → b ∉ W.ts → (∀ j, sget σ j ≠ .x → b ≠ ad j) → h.get? b = some o → h'.get? b = some o
  stay : ∀ b o, h.get? b = some o → ∃ o', h'.get? b = some o'
  adk : ∀ j, j < σ.length → ad' j = ad j
  len : σ.length ≤ σ'.length
  lv : ∀ j, j < σ.length → sget σ' j ≠ .x → sget σ j ≠ .x
  newP : ∀ b, P' b ≠ none → P b ≠ none ∨ h.get? b = none ∨ ∃ j, sget σ j ≠ .x ∧ b = ad j
  newA : ∀ j, σ.length ≤ j → sget σ' j ≠ .x → h.get? (ad' j) = none
  sto : Sto W P' ad' σ' h'

theorem Eff.refl {W : Wo} {X P ad σ h} (S : Sto W P ad σ h) : Eff W X P ad σ h P ad σ h where
  le := .refl _
  keep := fun _ _ _ _ _ e => e
  stay := fun _ o e => ⟨o, e⟩
  adk := fun _ _ => rfl
  len := Nat.le_refl _
  lv := fun _ _ e => e
  newP := fun _ e => .inl e
  newA := fun _ hj e => absurd (sget_lt e) (Nat.not_lt.mpr hj)
  sto := S

theorem none_of {h h' : Heap} {b : Addr} (st : ∀ b o, h.get? b = some o → ∃ o', h'.get? b = some o') (e : h'.get? b = none) : h.get? b = none := by
  cases q : h.get? b with
  | none => rfl
  | some o => obtain ⟨o', e'⟩ := st b o q; rw [e] at e'; cases e'

theorem Eff.trans {W : Wo} {X X' X'' : Addr → Prop} {P ad σ h P' ad' σ' h' P'' ad'' σ'' h''} (a : Eff W X P ad σ h P' ad' σ' h') (b : Eff W X' P' ad' σ' h' P'' ad'' σ'' h'')
    (hx : ∀ b o, h.get? b = some o → X b → X'' b) (hx' : ∀ b o, h.get? b = some o → X' b → X'' b) : Eff W X'' P ad σ h P'' ad'' σ'' h'' where
  le := a.le.trans b.le
  keep := fun c o h1 h2 h3 e => b.keep c o (fun q => h1 (hx' c o e q)) h2 (fun j hj q => by
    by_cases hl : j < σ.length
    · exact h3 j (a.lv j hl hj) (q.trans (a.adk j hl))
    · have := a.newA j (Nat.not_lt.mp hl) hj
      rw [← q, e] at this; cases this) (a.keep c o (fun q => h1 (hx c o e q)) h2 h3 e)
  stay := fun c o e => by obtain ⟨o', e'⟩ := a.stay c o e; exact b.stay c o' e'
  adk := fun j hj => (b.adk j (Nat.lt_of_lt_of_le hj a.len)).trans (a.adk j hj)
  len := Nat.le_trans a.len b.len
  lv := fun j hj e => a.lv j hj (b.lv j (Nat.lt_of_lt_of_le hj a.len) e)
  newP := fun c e => by
    rcases b.newP c e with h1 | h1 | ⟨j, hj, rfl⟩
    · exact a.newP c h1
    · exact .inr (.inl (none_of a.stay h1))
    · by_cases hl : j < σ.length
      · exact .inr (.inr ⟨j, a.lv j hl hj, a.adk j hl⟩)
      · exact .inr (.inl (a.newA j (Nat.not_lt.mp hl) hj))
  newA := fun j hj e => by
    by_cases hl : j < σ'.length
    · rw [b.adk j hl]; exact a.newA j hj (b.lv j hl e)
    · exact none_of a.stay (b.newA j (Nat.not_lt.mp hl) e)
  sto := b.sto

structure Aside (W : Wo) (P : PM) (ad : Nat → Addr) (σ : Sg) (h : Heap) (b : Addr) : Prop where
  p : P b = none
  t : b ∉ W.ts
  o : ∀ j, sget σ j ≠ .x → b ≠ ad j
  e : ∃ o, h.get? b = some o
theorem Aside.eff {W : Wo} {X P ad σ h P' ad' σ' h' b} (a : Aside W P ad σ h b) (f : Eff W X P ad σ h P' ad' σ' h') : Aside W P' ad' σ' h' b := by
  obtain ⟨o, ho⟩ := a.e
  refine ⟨?_, a.t, fun j hj q => ?_, f.stay b o ho⟩
  · cases q : P' b with
    | none => rfl
    | some x =>
      rcases f.newP b (by rw [q]; exact nofun) with h1 | h1 | ⟨j, hj, e⟩
      · exact absurd a.p h1
      · rw [ho] at h1; cases h1
      · exact absurd e (a.o j hj)
  · by_cases hl : j < σ.length
    · exact a.o j (f.lv j hl hj) (q.trans (f.adk j hl))
    · have := f.newA j (Nat.not_lt.mp hl) hj
      rw [← q, ho] at this; cases this

noncomputable def isCell (k : Option NameKind) : Bool := match k with | some .cell => true | some .free => true | _ => false

structure Inn where
  a : Addr
  o : Obj
  ca : Addr
  cs : List (Addr × V)

structure InnOK (W : Wo) (I : Inn) (P : PM) (ad : Nat → Addr) (σ : Sg) (h : Heap) : Prop where
  fn : P I.a = some I.o
  fd : ∃ oc od f sl c ox vs t, I.o = ⟨oc, od, .func f, sl⟩ ∧ f.code = .ref c ∧ P c = some ox ∧ ox.data = .fields vs ∧ vs[1]? = some (.str f.qualname t)
  me : h.IsCell I.ca (some (.ref I.a)) ∧ Aside W P ad σ h I.ca
  cs : ∀ q ∈ I.cs, (∃ v, RV W P ad σ.length v q.2 ∧ h.IsCell q.1 (some v)) ∧ Aside W P ad σ h q.1

theorem IsCell.eff {W : Wo} {X P ad σ h P' ad' σ' h' c v} (f : Eff W X P ad σ h P' ad' σ' h') (A : Aside W P ad σ h c) (hx : ¬ X c) (x : h.IsCell c v) : h'.IsCell c v :=
  let ⟨o, h1, h2⟩ := x; ⟨o, f.keep c o hx A.t A.o h1, h2⟩

theorem InnOK.eff {W : Wo} {I : Inn} {X P ad σ h P' ad' σ' h'} (K : InnOK W I P ad σ h) (f : Eff W X P ad σ h P' ad' σ' h') (hx : ¬ X I.ca) (hc : ∀ q ∈ I.cs, ¬ X q.1) : InnOK W I P' ad' σ' h' where
  fn := f.le _ _ K.fn
  fd := let ⟨oc, od, g, sl, c, ox, vs, t, h1, h2, h3, h4⟩ := K.fd; ⟨oc, od, g, sl, c, ox, vs, t, h1, h2, f.le _ _ h3, h4⟩
  me := ⟨IsCell.eff f K.me.2 hx K.me.1, K.me.2.eff f⟩
  cs := fun q hq => by
    obtain ⟨⟨v, h1, h2⟩, A⟩ := K.cs q hq
    exact ⟨⟨v, h1.mono f.le f.adk f.len, IsCell.eff f A (hc q hq) h2⟩, A.eff f⟩

structure Fra (W : Wo) (io : Option Inn) (names : List Str) (act : List Nat) (env : Env) (P : PM) (ad : Nat → Addr) (σ : Sg) (en : En) (h : Heap) : Prop where
  hk : env.scope.kind = .function
  big : ∀ b o, W.B.get? b = some o → b < env.locals
  gl : env.globals = mainGlobals
  bl : env.builtins = builtinsNs
  ac : ∀ k V, eget en k = some V → k ∈ act
  slot : ∃ m, h.Ns env.locals m ∧ ∀ k V, eget en k = some V → ∃ x v, names[k]? = some x ∧ RV W P ad σ.length v V ∧
    ((env.kindOf x = some .local ∧ m x = some v) ∨ (isCell (env.kindOf x) = true ∧ ∃ c, env.cells.lookup x = some c ∧ h.IsCell c (some v)))
  lo : Aside W P ad σ h env.locals
  ce : ∀ x c, env.cells.lookup x = some c → Aside W P ad σ h c ∧ c ≠ env.locals ∧ ∃ v, h.IsCell c v
  cd : ∀ x y c, env.cells.lookup x = some c → env.cells.lookup y = some c → x = y
  cl : ∀ x, isCell (env.kindOf x) = true → ∃ c, env.cells.lookup x = some c
  inn : ∀ I, io = some I → InnOK W I P ad σ h ∧ I.ca ≠ env.locals ∧ (∀ q ∈ I.cs, q.1 ≠ env.locals) ∧ ∀ c, env.cells.lookup (Str.ofString "inner") = some c → c = I.ca

structure EfE (W : Wo) (L : Addr) (P : PM) (ad : Nat → Addr) (σ : Sg) (h : Heap) (P' : PM) (ad' : Nat → Addr) (σ' : Sg) (h' : Heap) : Prop where
  eff : Eff W (fun b => b = L) P ad σ h P' ad' σ' h'
  ns : ∀ m, h.Ns L m → h'.Ns L m
theorem EfE.refl {W : Wo} {L P ad σ h} (S : Sto W P ad σ h) : EfE W L P ad σ h P ad σ h := ⟨.refl S, fun _ x => x⟩
theorem EfE.trans {W : Wo} {L : Addr} {P ad σ h P' ad' σ' h' P'' ad'' σ'' h''} (a : EfE W L P ad σ h P' ad' σ' h') (b : EfE W L P' ad' σ' h' P'' ad'' σ'' h'') : EfE W L P ad σ h P'' ad'' σ'' h'' :=
  ⟨a.eff.trans b.eff (fun _ _ _ x => x) (fun _ _ _ x => x), fun m x => b.ns m (a.ns m x)⟩

theorem Fra.efe {W : Wo} {io names act env P ad σ en h P' ad' σ' h'} (F : Fra W io names act env P ad σ en h) (f : EfE W env.locals P ad σ h P' ad' σ' h') : Fra W io names act env P' ad' σ' en h' where
  hk := F.hk
  big := F.big
  gl := F.gl
  bl := F.bl
  ac := F.ac
  slot := by
    obtain ⟨m, hm, hs⟩ := F.slot
    refine ⟨m, f.ns m hm, fun k V e => ?_⟩
    obtain ⟨x, v, h1, h2, h3⟩ := hs k V e
    refine ⟨x, v, h1, h2.mono f.eff.le f.eff.adk f.eff.len, ?_⟩
    rcases h3 with h3 | ⟨h3, c, h4, h5⟩
    · exact .inl h3
    · obtain ⟨A, hne, _⟩ := F.ce x c h4
      exact .inr ⟨h3, c, h4, IsCell.eff f.eff A hne h5⟩
  lo := F.lo.eff f.eff
  ce := fun x c e => by
    obtain ⟨A, hne, v, h5⟩ := F.ce x c e
    exact ⟨A.eff f.eff, hne, v, IsCell.eff f.eff A hne h5⟩
  cd := F.cd
  cl := F.cl
  inn := fun I e => let ⟨K, h1, h2, h3⟩ := F.inn I e; ⟨K.eff f.eff h1 h2, h1, h2, h3⟩

end Mine
end
section
open PySem PySem.W PyProof.Rows PySem.Calls
namespace Mine

structure Cx (W : Wo) (L : Addr) (P : PM) (ad : Nat → Addr) (σ : Sg) (h : Heap) : Prop where
  sto : Sto W P ad σ h
  lo : Aside W P ad σ h L
  ns : ∃ m, h.Ns L m
  big : ∀ b o, W.B.get? b = some o → b < L

noncomputable def Gro (L : Addr) (h h' : Heap) : Prop := (∀ b o, b ≠ L → h.get? b = some o → h'.get? b = some o) ∧ (∀ m, h.Ns L m → h'.Ns L m)
theorem Gro.refl (L : Addr) (h : Heap) : Gro L h h := ⟨fun _ _ _ e => e, fun _ e => e⟩
theorem Gro.of {L : Addr} {h h' : Heap} (k : ∀ b o, h.get? b = some o → h'.get? b = some o) : Gro L h h' := ⟨fun b o _ e => k b o e, fun _ n => n.keeps k⟩
theorem Gro.push {L : Addr} {h : Heap} (o : Obj) : Gro L h (h.push o) := .of fun _ _ e => Heap.get?_push_of_some _ e
theorem Gro.trans {L : Addr} {h h' h'' : Heap} (a : Gro L h h') (b : Gro L h' h'') : Gro L h h'' := ⟨fun c o n e => b.1 c o n (a.1 c o n e), fun m n => b.2 m (a.2 m n)⟩
theorem Gro.stay {L : Addr} {h h' : Heap} (g : Gro L h h') {m} (hn : h.Ns L m) : ∀ b o, h.get? b = some o → ∃ o', h'.get? b = some o' := fun b o e => by
  by_cases q : b = L
  · obtain ⟨o', _, _, e', _⟩ := g.2 m hn; exact ⟨o', q ▸ e'⟩
  · exact ⟨o, g.1 b o q e⟩

theorem none_size (h : Heap) : h.get? h.objs.size = none := by
  cases e : h.get? h.objs.size with
  | none => rfl
  | some o => exact absurd (Heap.lt_size e) (Nat.lt_irrefl _)

section
variable {W : Wo} {L : Addr} {P : PM} {ad : Nat → Addr} {σ : Sg} {h h' : Heap}

theorem Sto.gro (S : Sto W P ad σ h) (lo : Aside W P ad σ h L) (g : Gro L h h') : Sto W P ad σ h' where
  base := S.base
  sub := fun b o e => g.1 b o (fun q => by rw [q, lo.p] at e; cases e) (S.sub b o e)
  tab := fun q hq => by
    obtain ⟨h1, ps, h2, h3⟩ := S.tab q hq
    exact ⟨h1, ps, g.1 _ _ (fun e => lo.t (e ▸ List.mem_map_of_mem hq)) h2, h3⟩
  ls := fun j xs e => by
    obtain ⟨vs, n, h1, h2⟩ := S.ls j xs e
    exact ⟨vs, n, g.1 _ _ (fun q => lo.o j (by rw [e]; exact nofun) q.symm) h1, h2⟩
  is := fun j fs e => by
    obtain ⟨od, h1, h2⟩ := S.is j fs e
    exact ⟨od, g.1 _ _ (fun q => lo.o j (by rw [e]; exact nofun) q.symm) h1, h2⟩
  out := S.out
  inj := S.inj

theorem EfE.gro (C : Cx W L P ad σ h) (g : Gro L h h') : EfE W L P ad σ h P ad σ h' where
  eff := { Eff.refl (X := fun b => b = L) C.sto with
    keep := fun b o n _ _ e => g.1 b o n e
    stay := let ⟨m, hm⟩ := C.ns; g.stay hm
    newA := fun j hj e => absurd (sget_lt e) (Nat.not_lt.mpr hj)
    newP := fun b e => .inl e
    sto := C.sto.gro C.lo g }
  ns := g.2

theorem Cx.efe (C : Cx W L P ad σ h) {P' ad' σ' h'} (f : EfE W L P ad σ h P' ad' σ' h') : Cx W L P' ad' σ' h' :=
  ⟨f.eff.sto, C.lo.eff f.eff, let ⟨m, hm⟩ := C.ns; ⟨m, f.ns m hm⟩, C.big⟩

theorem Sto.p_none (S : Sto W P ad σ h) {a : Addr} (e : h.get? a = none) : P a = none := by
  cases q : P a with
  | none => rfl
  | some o => rw [S.sub a o q] at e; cases e

theorem EfE.add (C : Cx W L P ad σ h) {a : Addr} {o : Obj} (ha : h.get? a = none) (ho : h'.get? a = some o) (g : Gro L h h') : EfE W L P ad σ h (P.add a o) ad σ h' := by
  have le := le_add (o := o) (C.sto.p_none ha)
  have S' := C.sto.gro C.lo g
  have hne : ∀ b o, h.get? b = some o → b ≠ a := fun b o e q => by rw [q, ha] at e; cases e
  exact {
    eff := {
      le := le
      keep := fun b o n _ _ e => g.1 b o n e
      stay := let ⟨m, hm⟩ := C.ns; g.stay hm
      adk := fun _ _ => rfl
      len := Nat.le_refl _
      lv := fun _ _ e => e
      newP := fun b e => by
        by_cases q : b = a
        · exact .inr (.inl (q ▸ ha))
        · rw [add_ne q] at e; exact .inl e
      newA := fun j hj e => absurd (sget_lt e) (Nat.not_lt.mpr hj)
      sto := {
        base := S'.base.trans le
        sub := fun b x e => by
          by_cases q : b = a
          · subst q; rw [add_self] at e; rw [ho, e]
          · rw [add_ne q] at e; exact S'.sub b x e
        tab := fun q hq => by
          obtain ⟨h1, ps, h2, h3⟩ := S'.tab q hq
          obtain ⟨_, _, h4, _⟩ := C.sto.tab q hq
          refine ⟨by rw [add_ne (hne _ _ h4)]; exact h1, ps, h2, ?_⟩
          rcases h3 with h3 | ⟨c', oc, vs, t, e1, e2, e3⟩
          · exact .inl h3
          · exact .inr ⟨c', oc, vs, t, e1, le _ _ e2, e3⟩
        ls := fun j xs e => let ⟨vs, n, h1, h4⟩ := S'.ls j xs e; ⟨vs, n, h1, h4.le le⟩
        is := fun j fs e => let ⟨od, h1, h2⟩ := S'.is j fs e; ⟨od, h1, h2.le le⟩
        out := fun j e => by
          obtain ⟨o', e'⟩ := C.sto.live e
          exact ⟨by rw [add_ne (hne _ _ e')]; exact (C.sto.out j e).1, (C.sto.out j e).2⟩
        inj := S'.inj } }
    ns := g.2 }

theorem EfE.own (C : Cx W L P ad σ h) {a : Addr} {xs : List PyData} {vs : Array Value} {n : Nat} (ha : h.get? a = none) (ho : h'.get? a = some (lstO vs n)) (g : Gro L h h')
    (hr : RdL P vs.toList xs) (hT : ∀ t ∈ W.ts, ∃ o, h.get? t = some o) : EfE W L P ad σ h P (fun j => if j = σ.length then a else ad j) (σ ++ [.l xs]) h' := by
  have S' := C.sto.gro C.lo g
  have hne : ∀ b o, h.get? b = some o → b ≠ a := fun b o e q => by rw [q, ha] at e; cases e
  have old : ∀ j, sget (σ ++ [.l xs]) j ≠ .x → j ≠ σ.length → sget (σ ++ [.l xs]) j = sget σ j ∧ j < σ.length := fun j e q => by
    have h1 := sget_lt e
    simp only [List.length_append, List.length_singleton] at h1
    have h2 : j < σ.length := by lia
    exact ⟨sget_app_lt h2, h2⟩
  exact {
    eff := {
      le := .refl _
      keep := fun b o n _ _ e => g.1 b o n e
      stay := let ⟨m, hm⟩ := C.ns; g.stay hm
      adk := fun j hj => if_neg (Nat.ne_of_lt hj)
      len := by simp
      lv := fun j hj e => by rwa [sget_app_lt hj] at e
      newP := fun b e => .inl e
      newA := fun j hj e => by
        have h1 := sget_lt e
        simp only [List.length_append, List.length_singleton] at h1
        have : j = σ.length := by lia
        simp only [this, if_pos]; exact ha
      sto := {
        base := S'.base
        sub := S'.sub
        tab := S'.tab
        ls := fun j ys e => by
          by_cases q : j = σ.length
          · subst q; rw [sget_app_eq] at e; cases e
            exact ⟨vs, n, by simpa using ho, hr⟩
          · obtain ⟨h1, h2⟩ := old j (by rw [e]; exact nofun) q
            simp only [if_neg q]; exact S'.ls j ys (h1 ▸ e)
        is := fun j fs e => by
          by_cases q : j = σ.length
          · subst q; rw [sget_app_eq] at e; cases e
          · obtain ⟨h1, h2⟩ := old j (by rw [e]; exact nofun) q
            simp only [if_neg q]; exact S'.is j fs (h1 ▸ e)
        out := fun j e => by
          by_cases q : j = σ.length
          · simp only [if_pos q]
            refine ⟨C.sto.p_none ha, fun hm => ?_⟩
            obtain ⟨o, ho⟩ := hT a hm
            rw [ha] at ho; cases ho
          · obtain ⟨h1, h2⟩ := old j e q
            simp only [if_neg q]; exact S'.out j (h1 ▸ e)
        inj := fun i j hi hj e => by
          by_cases q : i = σ.length <;> by_cases q' : j = σ.length
          · rw [q, q']
          · obtain ⟨h1, h2⟩ := old j hj q'
            simp only [if_pos q, if_neg q'] at e
            obtain ⟨o', e'⟩ := C.sto.live (h1 ▸ hj)
            exact absurd e.symm (hne _ _ e')
          · obtain ⟨h1, h2⟩ := old i hi q
            simp only [if_neg q, if_pos q'] at e
            obtain ⟨o', e'⟩ := C.sto.live (h1 ▸ hi)
            exact absurd e (hne _ _ e')
          · simp only [if_neg q, if_neg q'] at e
            exact S'.inj i j ((old i hi q).1 ▸ hi) ((old j hj q').1 ▸ hj) e } }
    ns := g.2 }

theorem Sto.tabs (S : Sto W P ad σ h) : ∀ t ∈ W.ts, ∃ o, h.get? t = some o := fun t ht => by
  obtain ⟨q, hq, rfl⟩ := List.mem_map.mp ht
  obtain ⟨_, ps, h2, _⟩ := S.tab q hq
  exact ⟨_, h2⟩

theorem EfE.frz (C : Cx W L P ad σ h) {j : Nat} {xs : List PyData} (e : sget σ j = .l xs) :
    ∃ P', EfE W L P ad σ h P' ad (sput σ j .x) h ∧ Rd P' (.ref (ad j)) (.list xs) := by
  obtain ⟨vs, n, h1, h4⟩ := C.sto.ls j xs e
  have hl : sget σ j ≠ .x := by rw [e]; exact nofun
  have le := le_add (o := lstO vs n) (C.sto.out j hl).1
  have hj := sget_lt hl
  have put : ∀ i, sget (sput σ j .x) i ≠ .x → i ≠ j ∧ sget (sput σ j .x) i = sget σ i := fun i hi => by
    by_cases q : i = j
    · subst q; rw [sget_put_eq hj] at hi; exact absurd rfl hi
    · exact ⟨q, sget_put_ne q⟩
  refine ⟨P.add (ad j) (lstO vs n), ⟨{
      le := le
      keep := fun _ _ _ _ _ e => e
      stay := fun b o e => ⟨o, e⟩
      adk := fun _ _ => rfl
      len := by rw [sput_len]; exact Nat.le_refl _
      lv := fun i _ hi => (put i hi).2 ▸ hi
      newP := fun b e => by
        by_cases q : b = ad j
        · exact .inr (.inr ⟨j, hl, q⟩)
        · rw [add_ne q] at e; exact .inl e
      newA := fun i hi e => absurd (sget_lt e) (by rw [sput_len]; exact Nat.not_lt.mpr hi)
      sto := {
        base := C.sto.base.trans le
        sub := fun b x e => by
          by_cases q : b = ad j
          · subst q; rw [add_self] at e; rw [h1, e]
          · rw [add_ne q] at e; exact C.sto.sub b x e
        tab := fun q hq => by
          obtain ⟨h1, ps, h2, h3⟩ := C.sto.tab q hq
          have : q.t ≠ ad j := fun e => (C.sto.out j hl).2 (e ▸ List.mem_map_of_mem hq)
          refine ⟨by rw [add_ne this]; exact h1, ps, h2, ?_⟩
          rcases h3 with h3 | ⟨c', oc, vs, t, e1, e2, e3⟩
          · exact .inl h3
          · exact .inr ⟨c', oc, vs, t, e1, le _ _ e2, e3⟩
        ls := fun i ys ei => by
          obtain ⟨_, q2⟩ := put i (by rw [ei]; exact nofun)
          obtain ⟨vs, n, h1, h4⟩ := C.sto.ls i ys (q2 ▸ ei)
          exact ⟨vs, n, h1, h4.le le⟩
        is := fun i fs ei => by
          obtain ⟨_, q2⟩ := put i (by rw [ei]; exact nofun)
          obtain ⟨od, h1, h2⟩ := C.sto.is i fs (q2 ▸ ei)
          exact ⟨od, h1, h2.le le⟩
        out := fun i hi => by
          obtain ⟨q1, q2⟩ := put i hi
          have hi' : sget σ i ≠ .x := q2 ▸ hi
          exact ⟨by rw [add_ne fun e => q1 (C.sto.inj i j hi' hl e)]; exact (C.sto.out i hi').1, (C.sto.out i hi').2⟩
        inj := fun i i' hi hi' e => C.sto.inj i i' ((put i hi).2 ▸ hi) ((put i' hi').2 ▸ hi') e } }, fun _ x => x⟩, .list add_self rfl rfl (h4.le le)⟩

inductive Lie (W : Wo) (P : PM) (h : Heap) : Value → PyData → Prop
  | rd {v x} : Rd P v x → Lie W P h v x
  | ls {a vs xs} : h.IsList a vs → RdL P vs.toList xs → Lie W P h (.ref a) (.list xs)

theorem RV.lie (S : Sto W P ad σ h) {v : Value} {V : V} {x : PyData} (r : RV W P ad σ.length v V) (e : dat σ V = some x) : Lie W P h v x := by
  cases r with
  | d r => simp only [dat, Option.some.injEq] at e; subst e; exact .rd r
  | ws => cases e
  | @own j hj =>
    simp only [dat] at e
    split at e
    · rename_i xs hx
      cases e
      obtain ⟨vs, n, h1, h4⟩ := S.ls j xs hx
      exact .ls (vs := vs) ⟨_, h1, rfl, n, rfl⟩ h4
    · cases e
  | ins => cases e
theorem Lie.list (S : Sto W P ad σ h) {v : Value} {xs : List PyData} (l : Lie W P h v (.list xs)) : ∃ a vs, v = .ref a ∧ h.IsList a vs ∧ RdL P vs.toList xs := by
  cases l with
  | rd r => cases r with | list h1 h2 h3 h4 => exact ⟨_, _, rfl, ⟨_, S.sub _ _ h1, h2, _, h3⟩, h4⟩
  | ls h1 h2 => exact ⟨_, _, rfl, h1, h2⟩
theorem Lie.tuple (S : Sto W P ad σ h) {v : Value} {xs : List PyData} (l : Lie W P h v (.tuple xs)) : ∃ a vs, v = .ref a ∧ IsTup h a vs ∧ h.IsTuple a vs ∧ RdL P vs.toList xs := by
  cases l with
  | rd r => cases r with | tuple h1 h2 h3 h4 => exact ⟨_, _, rfl, ⟨_, S.sub _ _ h1, h2, _, h3⟩, ⟨_, S.sub _ _ h1, h2, _, h3⟩, h4⟩
theorem Lie.int {v : Value} {i : Int} (l : Lie W P h v (.int i)) : ∃ t, v = .int i t := by
  cases l with | rd r => cases r with | int i t => exact ⟨t, rfl⟩
theorem Lie.str {v : Value} {i : Str} (l : Lie W P h v (.str i)) : ∃ t, v = .str i t := by
  cases l with | rd r => cases r with | str i t => exact ⟨t, rfl⟩
theorem Lie.bool {v : Value} {i : Bool} (l : Lie W P h v (.bool i)) : v = .bool i := by
  cases l with | rd r => cases r with | bool i => rfl
theorem Lie.reads (S : Sto W P ad σ h) {v : Value} {x : PyData} (l : Lie W P h v x) : ∃ as, Reads h v x as := by
  cases l with
  | rd r => exact r.reads S.sub
  | ls h1 h2 =>
    obtain ⟨o, e1, e2, n, e3⟩ := h1
    obtain ⟨as, r⟩ := h2.reads S.sub
    exact ⟨_, .list e1 e2 e3 r⟩

noncomputable def Then (W : Wo) (L : Addr) (P : PM) (ad : Nat → Addr) (σ : Sg) (s : Shared) (z : PyData) (Q : Value → Shared → Prop) : Prop :=
  ∀ r h' tk P', EfE W L P ad σ s.heap P' ad σ h' → Rd P' r z → Q r { s with heap := h', toks := tk }
noncomputable def ThenO (W : Wo) (L : Addr) (P : PM) (ad : Nat → Addr) (σ : Sg) (s : Shared) (z : List PyData) (Q : Value → Shared → Prop) : Prop :=
  ∀ a h' tk, EfE W L P ad σ s.heap P (fun j => if j = σ.length then a else ad j) (σ ++ [.l z]) h' → Q (.ref a) { s with heap := h', toks := tk }
noncomputable def ThenF (W : Wo) (L : Addr) (P : PM) (ad : Nat → Addr) (σ : Sg) (s : Shared) (z : List PyData) (Q : Value → Shared → Prop) : Prop :=
  ∀ a h' tk vs n, s.heap.get? a = none → h'.get? a = some (lstO vs n) → Gro L s.heap h' → RdL P vs.toList z → Q (.ref a) { s with heap := h', toks := tk }

variable {s : Shared} {Q : Value → Shared → Prop} {z : PyData} {zs : List PyData}
theorem Then.imm (C : Cx W L P ad σ s.heap) (k : Then W L P ad σ s z Q) {r : Value} {h' : Heap} {tk : Nat} (hr : Rd P r z) (g : Gro L s.heap h') : Q r { s with heap := h', toks := tk } :=
  k r h' tk P (.gro C g) hr
theorem Then.here (C : Cx W L P ad σ s.heap) (k : Then W L P ad σ s z Q) {r : Value} {tk : Nat} (hr : Rd P r z) : Q r { s with toks := tk } :=
  k r s.heap tk P (.refl C.sto) hr
theorem Then.frz (C : Cx W L P ad σ s.heap) (k : Then W L P ad σ s (.list zs) Q) : ThenF W L P ad σ s zs Q := fun a h' tk vs n h1 h2 g h5 =>
  k _ h' tk _ (.add C h1 h2 g) (.list add_self rfl rfl (h5.le (le_add (C.sto.p_none h1))))
theorem Then.tup (C : Cx W L P ad σ s.heap) (k : Then W L P ad σ s (.tuple zs) Q) {a : Addr} {h' : Heap} {tk : Nat} {o : Obj} {vs : Array Value} {n : Nat} (h1 : s.heap.get? a = none) (h2 : h'.get? a = some o)
    (g : Gro L s.heap h') (h3 : o.cls = .type "tuple") (h4 : o.data = .seq vs n) (h5 : RdL P vs.toList zs) : Q (.ref a) { s with heap := h', toks := tk } :=
  k _ h' tk _ (.add C h1 h2 g) (.tuple add_self h3 h4 (h5.le (le_add (C.sto.p_none h1))))
theorem ThenO.own (C : Cx W L P ad σ s.heap) (k : ThenO W L P ad σ s zs Q) : ThenF W L P ad σ s zs Q := fun a h' tk vs n h1 h2 g h5 =>
  k a h' tk (.own C h1 h2 g h5 C.sto.tabs)
end
end Mine
end
section
open PySem PySem.W PyProof.Rows PySem.Calls
namespace Mine
noncomputable def opOf : Bop → Operator
  | .add => .Add | .sub => .Sub | .mul => .Mult | .fdiv => .FloorDiv | .mod => .Mod | .pow => .Pow | .shl => .LShift | .shr => .RShift | .xor => .BitXor
noncomputable def copOf : Cop → CmpOp
  | .eq => .Eq | .ne => .NotEq | .lt => .Lt | .le => .LtE | .gt => .Gt | .ge => .GtE | .is => .Is | .isn => .IsNot

theorem ns_uniq {h : Heap} {a : Addr} {m m' : Str → Option Value} (x : h.Ns a m) (y : h.Ns a m') : m = m' := by
  obtain ⟨o, es, ep, e, hd, _, hf⟩ := x
  obtain ⟨o', es', ep', e', hd', _, hf'⟩ := y
  rw [e] at e'; cases e'; rw [hd] at hd'; cases hd'
  exact funext fun n => (hf n).symm.trans (hf' n)

theorem iiD_inv {f : Int → Int → Option PyData} {x y z : PyData} (e : iiD f x y = some z) : ∃ a b, x = .int a ∧ y = .int b ∧ f a b = some z := by
  unfold iiD at e
  split at e
  · exact ⟨_, _, rfl, rfl, e⟩
  · cases e
theorem ite_inv {p : Prop} [Decidable p] {a z : PyData} (e : (if p then some a else none) = some z) : p ∧ a = z := by
  split at e
  · exact ⟨by assumption, Option.some.inj e⟩
  · cases e
section
variable {W : Wo} {L : Addr} {P : PM} {ad : Nat → Addr} {σ : Sg} {h h' : Heap}

theorem cutG (C : Cx W L P ad σ h) : ∃ h₀ m news, Fr h₀ L h m ∧ News h₀ L h news ∧ (∀ h' news', Fr h₀ L h' m → News h₀ L h' (news' ++ news) → Gro L h h') ∧ Le W.B.get? h₀.get? := by
  obtain ⟨m, hm⟩ := C.ns
  obtain ⟨h₀, news, F, N, k0, k, _⟩ := cut hm
  refine ⟨h₀, m, news, F, N, fun h' news' F' N' => ⟨k h' news' F' N', fun m' hm' => ns_uniq hm hm' ▸ F'.ns⟩, fun b o e => ?_⟩
  exact k0 b o (C.big b o e) (C.sto.sub b o (C.sto.base b o e))

variable {prog : Program} {A : Around} {E : Value → Shared → Prop} {s : Shared} {Q : Value → Shared → Prop} {z : PyData} {zs : List PyData}

theorem op_addL (C : Cx W L P ad σ s.heap) {a b : Addr} {vs ws : Array Value} {xs ys : List PyData} (ha : s.heap.IsList a vs) (hb : s.heap.IsList b ws) (rx : RdL P vs.toList xs) (ry : RdL P ws.toList ys)
    (hz : xs.length + ys.length ≤ lim) (k : ThenF W L P ad σ s (xs ++ ys) Q) : wpAny (model prog W.w) A (binaryOp .Add (.ref a) (.ref b)) Q E s := by
  obtain ⟨h₀, m, news, F, N, g, _⟩ := cutG C
  refine add_lists (vs := vs.toList) (ws := ws.toList) F N ha hb (fun h' F' N' => ?_) (by rw [rx.length, ry.length]; exact Nat.le_trans hz (by decide))
  exact k _ h' s.toks _ 0 (none_size _) (N' _ (.head _)).1 (g h' [_] F' N') (rx.app ry)

theorem flat_rep (vs : List Value) : ∀ (n : Nat) (acc : Array Value), (List.foldl (fun x1 x2 => x1 ++ x2) acc (List.replicate n vs.toArray)).toList = acc.toList ++ (List.replicate n vs).flatten
  | 0, acc => by simp
  | n + 1, acc => by rw [List.replicate_succ, List.foldl_cons, flat_rep vs n]; simp [List.replicate_succ]

theorem op_mulL (C : Cx W L P ad σ s.heap) {a : Addr} {vs : Array Value} {xs : List PyData} {n : Int} {t : Tok} (ha : s.heap.IsList a vs) (rx : RdL P vs.toList xs)
    (h0 : 0 ≤ n) (hz : xs.length * n.toNat ≤ lim) (hn : n < 2 ^ 62) (k : ThenF W L P ad σ s (List.replicate n.toNat xs).flatten Q) : wpAny (model prog W.w) A (binaryOp .Mult (.ref a) (.int n t)) Q E s := by
  obtain ⟨⟨cls, d, data, sl⟩, ho, hcl, ep, hd⟩ := ha
  simp only at hcl hd
  subst hcl hd
  have hsz : vs.size * n.toNat ≤ 100000 := by
    have := rx.length; rw [Array.length_toList] at this; rw [this]; exact hz
  refine wpAny_binaryOp_repeat_ref (T := "list") (U := "int") (by decide) ⟨_, ho, rfl⟩ (fun s' => typeIs_int s' n t) noFill_list_mul F.fills_int_mul F.slot_int_rmul repeat_list F.slot_int_index.lookup
    (call_meets F.slot_int_rmul (typeIs_int s n t) F.entry_int_rmul (F.args_int_rmul_2 _ _) (lm_int_rmul_list_any n t a vs ep d sl)
      ⟨ho, rfl, ⟨_, ho, rfl⟩, call_meets F.slot_list_mul ⟨_, ho, rfl⟩ F.entry_list_mul (F.args_list_mul_2 _ _)
        (lm_list_mul_any a vs ep d sl n t (by simp [Builtin.List.listFitsIndex]; lia) (by lia) (by simp [Builtin.List.listTooLong, sizeLine]; lia))
        ⟨ho, ?_⟩⟩)
  refine k _ _ _ _ 0 (none_size _) (Heap.get?_push_size _ rfl) (.push _) ?_
  have e : (List.foldl (fun x1 x2 => x1 ++ x2) #[] (List.replicate (if vs.isEmpty = true then 0 else n.toNat) vs)).toList = (List.replicate n.toNat vs.toList).flatten := by
    obtain ⟨l⟩ := vs
    rw [flat_rep]
    cases l <;> simp
  rw [e]
  exact rx.rep _

theorem mul_txt (x : Str) (n : Nat) : Txt.mul x (n : Int) = ⟨(List.replicate n x.cps.toList).flatten.toArray⟩ := by
  obtain ⟨⟨l⟩⟩ := x
  unfold Txt.mul
  have fl : ∀ (k : Nat) (acc : Array Nat), (List.replicate k (l.toArray)).foldl (· ++ ·) acc = (acc.toList ++ (List.replicate k l).flatten).toArray := by
    intro k
    induction k with
    | zero => intro acc; simp
    | succ k ih => intro acc; rw [List.replicate_succ, List.foldl_cons, ih]; simp [List.replicate_succ]
  split
  · rename_i h
    have : n = 0 := by lia
    subst this; rfl
  · split
    · rename_i h1 h2
      rcases Bool.or_eq_true_iff.mp h2 with h2 | h2
      · have : n = 1 := by have := beq_iff_eq.mp h2; lia
        subst this; simp
      · have : l = [] := by simpa [Str.length] using h2
        subst this; simp
    · rw [Int.toNat_natCast, fl]; simp

theorem op_bin (C : Cx W L P ad σ s.heap) {o : Bop} {op : Operator} {v u : Value} {x y z : PyData} (ho : op = opOf o)
    (lx : Lie W P s.heap v x) (ly : Lie W P s.heap u y) (e : bopD o x y = some z) (k : Then W L P ad σ s z Q) : wpAny (model prog W.w) A (binaryOp op v u) Q E s := by
  subst ho
  cases o with
  | add =>
    have e : addD x y = some z := e
    unfold addD at e
    split at e
    · cases e
      obtain ⟨t, rfl⟩ := lx.int; obtain ⟨t', rfl⟩ := ly.int
      exact PyProof.Rows.add_int (k.here C (.int _ _))
    · obtain ⟨h, rfl⟩ := ite_inv e
      obtain ⟨t, rfl⟩ := lx.str; obtain ⟨t', rfl⟩ := ly.str
      exact PyProof.Rows.add_str (fun _ _ => k.here C (.str _ _)) (Nat.le_trans h (by decide))
    · obtain ⟨h, rfl⟩ := ite_inv e
      obtain ⟨a, vs, rfl, ha, ra⟩ := lx.list C.sto; obtain ⟨b, ws, rfl, hb, rb⟩ := ly.list C.sto
      exact op_addL C ha hb ra rb h (k.frz C)
    · cases e
  | sub =>
    obtain ⟨a, b, rfl, rfl, e⟩ := iiD_inv e
    cases e
    obtain ⟨t, rfl⟩ := lx.int; obtain ⟨t', rfl⟩ := ly.int
    exact PyProof.Rows.sub_int (k.here C (.int _ _))
  | mul =>
    have e : mulD x y = some z := e
    unfold mulD at e
    split at e
    · obtain ⟨h, rfl⟩ := ite_inv e
      obtain ⟨t, rfl⟩ := lx.int; obtain ⟨t', rfl⟩ := ly.int
      refine PyProof.Rows.mul_int (k.here C (.int _ _)) ?_
      unfold IntMulOk
      rw [show Builtin.Int.intTooBig (Builtin.Int.intBits _ + Builtin.Int.intBits _ : Int) = false from by
        unfold Builtin.Int.intTooBig; rw [decide_eq_false]; unfold bitsLine; omega]
      rw [Bool.and_false]; exact Bool.false_ne_true
    · obtain ⟨h, rfl⟩ := ite_inv e
      obtain ⟨t, rfl⟩ := lx.str; obtain ⟨t', rfl⟩ := ly.int
      refine SB.mul (mulOk_of 16 1000000 h.2.2 h.2.1 (by omega) (by decide) (by decide)) fun t' k' => ?_
      obtain ⟨m, hm⟩ := Int.eq_ofNat_of_zero_le h.1
      subst hm
      rw [mul_txt]
      exact k.here C (.str _ _)
    · obtain ⟨h, rfl⟩ := ite_inv e
      obtain ⟨a, vs, rfl, ha, ra⟩ := lx.list C.sto; obtain ⟨t', rfl⟩ := ly.int
      exact op_mulL C ha ra h.1 h.2.2 h.2.1 (k.frz C)
    · cases e
  | fdiv =>
    obtain ⟨a, b, rfl, rfl, e⟩ := iiD_inv e
    obtain ⟨h, rfl⟩ := ite_inv e
    obtain ⟨t, rfl⟩ := lx.int; obtain ⟨t', rfl⟩ := ly.int
    refine PyProof.Rows.floordiv_int (by omega) ?_ (.inl (PyProof.noPylong_small (by omega)))
    rw [Int.fdiv_eq_ediv_of_nonneg _ (Int.le_of_lt h.1)]
    exact k.here C (.int _ _)
  | mod =>
    obtain ⟨a, b, rfl, rfl, e⟩ := iiD_inv e
    obtain ⟨h, rfl⟩ := ite_inv e
    obtain ⟨t, rfl⟩ := lx.int; obtain ⟨t', rfl⟩ := ly.int
    refine PyProof.Rows.mod_int' (Int.ne_of_gt h) ?_
    rw [Int.fmod_eq_emod_of_nonneg _ (Int.le_of_lt h)]
    exact k.here C (.int _ _)
  | pow =>
    obtain ⟨a, n, rfl, rfl, e⟩ := iiD_inv e
    obtain ⟨h, rfl⟩ := ite_inv e
    obtain ⟨t, rfl⟩ := lx.int; obtain ⟨t', rfl⟩ := ly.int
    refine PyProof.Rows.pow_int h.1 ?_ (k.here C (.int _ _))
    obtain ⟨m, rfl⟩ := Int.eq_ofNat_of_zero_le h.1
    have := h.2
    rw [Int.toNat_natCast] at this
    have h2 : ((Builtin.Int.intBits a * m : Nat) : Int) ≤ (100000 : Nat) := Int.ofNat_le.mpr this
    rw [Int.natCast_mul] at h2
    exact Int.le_trans h2 (by decide)
  | shl =>
    obtain ⟨a, n, rfl, rfl, e⟩ := iiD_inv e
    obtain ⟨h, rfl⟩ := ite_inv e
    obtain ⟨t, rfl⟩ := lx.int; obtain ⟨t', rfl⟩ := ly.int
    exact PyProof.Rows.lshift_int h.1 (by omega) (k.here C (.int _ _))
  | shr =>
    obtain ⟨a, n, rfl, rfl, e⟩ := iiD_inv e
    obtain ⟨h, rfl⟩ := ite_inv e
    obtain ⟨t, rfl⟩ := lx.int; obtain ⟨t', rfl⟩ := ly.int
    refine PyProof.Rows.rshift_int h ?_
    rw [Int.fdiv_eq_ediv_of_nonneg _ (Int.le_of_lt (Int.pow_pos (by decide)))]
    exact k.here C (.int _ _)
  | xor =>
    obtain ⟨a, b, rfl, rfl, e⟩ := iiD_inv e
    cases e
    obtain ⟨t, rfl⟩ := lx.int; obtain ⟨t', rfl⟩ := ly.int
    exact PyProof.Rows.xor_int (k.here C (.int _ _))

theorem op_binO (C : Cx W L P ad σ s.heap) {o : Bop} {op : Operator} {v u : Value} {x y : PyData} {z : List PyData} (ho : op = opOf o)
    (lx : Lie W P s.heap v x) (ly : Lie W P s.heap u y) (e : bopD o x y = some (.list z)) (k : ThenO W L P ad σ s z Q) : wpAny (model prog W.w) A (binaryOp op v u) Q E s := by
  subst ho
  have ii : ∀ f : Int → Int → Option PyData, (∀ a b w, f a b ≠ some (.list w)) → iiD f x y ≠ some (.list z) := fun f hf q => by
    obtain ⟨a, b, _, _, e⟩ := iiD_inv q
    exact hf a b z e
  have it : ∀ (p : Prop) [Decidable p] (i : Int) (w : List PyData), (if p then some (PyData.int i) else none) ≠ some (.list w) := fun p _ i w q => by cases (ite_inv q).2
  cases o with
  | add =>
    have e : addD x y = some (.list z) := e
    unfold addD at e
    split at e
    · cases e
    · cases (ite_inv e).2
    · obtain ⟨h, e⟩ := ite_inv e
      cases e
      obtain ⟨a, vs, rfl, ha, ra⟩ := lx.list C.sto; obtain ⟨b, ws, rfl, hb, rb⟩ := ly.list C.sto
      exact op_addL C ha hb ra rb h (k.own C)
    · cases e
  | mul =>
    have e : mulD x y = some (.list z) := e
    unfold mulD at e
    split at e
    · cases (ite_inv e).2
    · cases (ite_inv e).2
    · obtain ⟨h, e⟩ := ite_inv e
      cases e
      obtain ⟨a, vs, rfl, ha, ra⟩ := lx.list C.sto; obtain ⟨t', rfl⟩ := ly.int
      exact op_mulL C ha ra h.1 h.2.2 h.2.1 (k.own C)
    · cases e
  | sub => exact absurd e (ii _ fun _ _ _ q => by cases q)
  | xor => exact absurd e (ii _ fun _ _ _ q => by cases q)
  | _ => exact absurd e (ii _ fun _ _ _ => it _ _ _)
end
end Mine
end
section
open PySem PySem.W PyProof.Rows PySem.Calls
namespace Mine

structure AOK (n : Nat) (A : Around) : Prop where
  h : A.handled = none
  d : A.depth + 3 * n ≤ 900
  u : A.units + 20 * n ≤ 9500

theorem foldl_maxI : ∀ (r : List Int) (i : Int), (r.foldl maxI i) ∈ i :: r ∧ ∀ a ∈ i :: r, a ≤ r.foldl maxI i
  | [], i => ⟨.head _, fun a h => by cases h with | head => exact Int.le_refl _ | tail _ h => cases h⟩
  | j :: r, i => by
    obtain ⟨h1, h2⟩ := foldl_maxI r (maxI i j)
    have hm : maxI i j = i ∨ maxI i j = j := by unfold maxI; split <;> simp
    have hi : i ≤ maxI i j := by unfold maxI; split <;> lia
    have hj : j ≤ maxI i j := by unfold maxI; split <;> lia
    refine ⟨?_, fun a h => ?_⟩
    · show r.foldl maxI (maxI i j) ∈ _
      rcases List.mem_cons.mp h1 with e | e
      · rw [e]; rcases hm with e | e <;> rw [e] <;> simp
      · simp [e]
    · show a ≤ r.foldl maxI (maxI i j)
      have hb := h2 _ (.head _)
      rcases List.mem_cons.mp h with e | e
      · subst e; lia
      · rcases List.mem_cons.mp e with e | e
        · subst e; lia
        · exact h2 a (.tail _ e)

noncomputable def notSl (e : Expr) : Bool := by
  cases e with
  | Slice => exact false
  | _ => exact true
theorem subscripted_not {e : Expr} (h : notSl e = true) (o i : Value) : subscripted e false o i = operate [o, i] (getItem o i) := by
  cases e <;> first | rfl | cases h

section
variable {W : Wo} {L : Addr} {P : PM} {ad : Nat → Addr} {σ : Sg} {h h' : Heap} {A : Around} {E : Value → Shared → Prop} {s : Shared} {Q : Value → Shared → Prop} {z : PyData} {zs : List PyData} {n : Nat} {prog : Program}

theorem icD_inv {f : Int → Int → Bool} {x y : PyData} {z : Bool} (e : icD f x y = some z) : ∃ a b, x = .int a ∧ y = .int b ∧ f a b = z := by
  unfold icD at e
  split at e
  · exact ⟨_, _, rfl, rfl, Option.some.inj e⟩
  · cases e
theorem bcD_inv {f : Bool → Bool → Bool} {x y : PyData} {z : Bool} (e : bcD f x y = some z) : ∃ a b, x = .bool a ∧ y = .bool b ∧ f a b = z := by
  unfold bcD at e
  split at e
  · exact ⟨_, _, rfl, rfl, Option.some.inj e⟩
  · cases e
theorem ite_inv' {α : Type} {p : Prop} [Decidable p] {a z : α} (e : (if p then some a else none) = some z) : p ∧ a = z := by
  split at e
  · exact ⟨by assumption, Option.some.inj e⟩
  · cases e
theorem op_cmp (C : Cx W L P ad σ s.heap) (hA : AOK n A) {o : Cop} {op : CmpOp} {v u : Value} {x y : PyData} {b : Bool}
    (ho : op = copOf o)
    (lx : Lie W P s.heap v x) (ly : Lie W P s.heap u y) (e : cmpD o x y = some b) (k : ∀ tk, Q (.bool b) { s with toks := tk }) : wpAny (model prog W.w) A (compareOp op v u) Q E s := by
  subst ho
  have hu : A.units + 64 < cLine := by have := hA.u; unfold cLine; lia
  cases o with
  | eq =>
    obtain ⟨q, rfl⟩ := ite_inv' e
    have q := Bool.and_eq_true_iff.mp q
    obtain ⟨_, r1⟩ := lx.reads C.sto; obtain ⟨_, r2⟩ := ly.reads C.sto
    exact SeqAt.compareEq_shaped r1 r2 q.1 q.2 hu (k _)
  | ne =>
    obtain ⟨q, rfl⟩ := ite_inv' e
    have q := Bool.and_eq_true_iff.mp q
    obtain ⟨_, r1⟩ := lx.reads C.sto; obtain ⟨_, r2⟩ := ly.reads C.sto
    exact SeqAt.compareNe_shaped r1 r2 q.1 q.2 hu (k _)
  | lt => obtain ⟨a, b, rfl, rfl, rfl⟩ := icD_inv e; obtain ⟨t, rfl⟩ := lx.int; obtain ⟨t', rfl⟩ := ly.int; exact PyProof.Rows.lt_int (k _)
  | le => obtain ⟨a, b, rfl, rfl, rfl⟩ := icD_inv e; obtain ⟨t, rfl⟩ := lx.int; obtain ⟨t', rfl⟩ := ly.int; exact PyProof.Rows.le_int (k _)
  | gt => obtain ⟨a, b, rfl, rfl, rfl⟩ := icD_inv e; obtain ⟨t, rfl⟩ := lx.int; obtain ⟨t', rfl⟩ := ly.int; exact PyProof.Rows.gt_int (k _)
  | ge => obtain ⟨a, b, rfl, rfl, rfl⟩ := icD_inv e; obtain ⟨t, rfl⟩ := lx.int; obtain ⟨t', rfl⟩ := ly.int; exact PyProof.Rows.ge_int (k _)
  | is =>
    obtain ⟨p, q, rfl, rfl, rfl⟩ := bcD_inv e
    obtain rfl := lx.bool; obtain rfl := ly.bool
    refine wpAny_is_plain rfl ?_
    have := k s.toks
    cases p <;> cases q <;> exact this
  | isn =>
    obtain ⟨p, q, rfl, rfl, rfl⟩ := bcD_inv e
    obtain rfl := lx.bool; obtain rfl := ly.bool
    refine wpAny_isNot_plain rfl ?_
    have := k s.toks
    cases p <;> cases q <;> exact this

theorem op_truthy (C : Cx W L P ad σ s.heap) {v : Value} {x : PyData} {b : Bool} {Q : Bool → Shared → Prop} (lx : Lie W P s.heap v x) (e : truD x = some b) (k : ∀ tk, Q b { s with toks := tk }) :
    wpAny (model prog W.w) A (truthy v) Q E s := by
  unfold truD at e
  split at e
  · cases e; obtain rfl := lx.bool; exact wpAny_truthy_bool (k _)
  · cases e; obtain ⟨t, rfl⟩ := lx.int; exact PyProof.Rows.truthy_int (k _)
  · split at e
    · cases e
      rename_i xs hl
      obtain ⟨a, vs, rfl, ha, ra⟩ := lx.list C.sto
      have hlen := ra.length
      refine wpAny_truthy_list ha (by rw [Array.length_toList] at hlen; rw [hlen]; unfold lim at hl; lia) ?_
      have : vs.isEmpty = xs.isEmpty := by
        obtain ⟨l⟩ := vs
        cases l with
        | nil => cases xs with
          | nil => rfl
          | cons => simp at hlen
        | cons => cases xs with
          | nil => simp at hlen
          | cons => rfl
      rw [this]; exact k _
    · cases e
  · cases e

theorem vs_one {us : List Value} {xs : List PyData} {h : Heap} : True := trivial

inductive Lies (W : Wo) (P : PM) (h : Heap) : List Value → List PyData → Prop
  | nil : Lies W P h [] []
  | cons {v x vs xs} : Lie W P h v x → Lies W P h vs xs → Lies W P h (v :: vs) (x :: xs)
theorem Lies.one {us x} (l : Lies W P h us [x]) : ∃ v, us = [v] ∧ Lie W P h v x := by
  cases l with | cons a b => cases b; exact ⟨_, rfl, a⟩
theorem Lies.two {us x y} (l : Lies W P h us [x, y]) : ∃ v u, us = [v, u] ∧ Lie W P h v x ∧ Lie W P h u y := by
  cases l with | cons a b => obtain ⟨u, rfl, c⟩ := Lies.one b; exact ⟨_, _, rfl, a, c⟩

noncomputable def bltV : Blt → Value
  | .len => .builtin "len" | .max => .builtin "max" | .sum => .builtin "sum" | .divmod => .builtin "divmod" | .tuple => .type "tuple"

theorem ints_items {vs : List Value} {ns : List Int} (hi : IntsAre vs ns) : ∃ xs : Array (Int × Tok), vs.toArray = intItems xs ∧ ns = xs.toList.map (·.1) := by
  obtain ⟨xs, e⟩ := hi.allInts.items
  refine ⟨xs, e, ?_⟩
  rw [← hi.numsOf, ← nums_intItems, ← e]

theorem op_blt (C : Cx W L P ad σ s.heap) (hA : AOK n A) {b : Blt} {us : List Value} {xs : List PyData} (lx : Lies W P s.heap us xs) (e : bltD b xs = some z) (k : Then W L P ad σ s z Q) :
    wpAny (model prog W.w) A (call (bltV b) us) Q E s := by
  cases b with
  | len =>
    have e : lenD xs = some z := e
    unfold lenD at e
    split at e
    · split at e
      · cases e
        obtain ⟨v, rfl, l⟩ := lx.one
        obtain ⟨a, vs, rfl, ha, ra⟩ := l.list C.sto
        rename_i hl
        have hlen := ra.length
        rw [Array.length_toList] at hlen
        refine len_list ha (by rw [hlen]; unfold lim at hl; lia) ?_
        rw [hlen]; exact k.here C (.int _ _)
      · cases e
    · split at e
      · cases e
        rename_i hl
        obtain ⟨v, rfl, l⟩ := lx.one
        obtain ⟨a, vs, rfl, ha, _, ra⟩ := l.tuple C.sto
        have hlen := ra.length
        rw [Array.length_toList] at hlen
        refine PyProof.Rows.len_tuple ha (by rw [hlen]; unfold lim at hl; lia) ?_
        rw [hlen]; exact k.here C (.int _ _)
      · cases e
    · split at e
      · cases e
        obtain ⟨v, rfl, l⟩ := lx.one
        obtain ⟨t, rfl⟩ := l.str
        rename_i hl
        exact PyProof.Rows.len_str (by unfold lim at hl; lia) (k.here C (.int _ _))
      · cases e
    · cases e
  | max =>
    have e : maxD xs = some z := e
    unfold maxD at e
    split at e
    · cases e
      obtain ⟨v, u, rfl, l1, l2⟩ := lx.two
      obtain ⟨t, rfl⟩ := l1.int; obtain ⟨t', rfl⟩ := l2.int
      obtain ⟨h₀, m, news, F, N, g, _⟩ := cutG C
      exact max_two_N hA.h F N fun h' tk F' N' => k.imm C (.int _ _) (g h' [] F' N')
    · split at e
      · cases e
        rename_i i r hi
        obtain ⟨v, rfl, l⟩ := lx.one
        obtain ⟨a, vs, rfl, ha, ra⟩ := l.list C.sto
        have hI := ra.ints hi
        obtain ⟨h₀, m, news, F, N, g, _⟩ := cutG C
        refine max_list_N (vs := vs.toList) hA.h F N ha hI (Nat.succ_pos _) fun h' M t tk F' N' h1 h2 => ?_
        obtain ⟨h3, h4⟩ := foldl_maxI r i
        have : M = r.foldl maxI i := Int.le_antisymm (h4 M h1) (h2 _ h3)
        rw [this]
        exact k.imm C (.int _ _) (g h' [] F' N')
      · cases e
    · cases e
  | sum =>
    have e : sumD xs = some z := e
    unfold sumD at e
    split at e
    · split at e
      · cases e
        rename_i r hi
        obtain ⟨v, rfl, l⟩ := lx.one
        obtain ⟨a, vs, rfl, ha, ra⟩ := l.list C.sto
        have hI := ra.ints hi
        obtain ⟨xs, e1, rfl⟩ := ints_items hI
        have ha' : s.heap.IsList a (intItems xs) := by rw [← e1]; exact ha
        refine sum_intListG hA.h ha' fun h' tk t' hk => ?_
        have : preSum (numAt xs) xs.size = (xs.toList.map (·.1)).sum := by
          rw [preSum_eq]; congr 1; rw [List.take_of_length_le]; simp
        rw [this]
        exact k.imm C (.int _ _) (.of hk)
      · cases e
    · cases e
  | divmod =>
    have e : dvmD xs = some z := e
    unfold dvmD at e
    split at e
    · split at e
      · cases e
        rename_i hb
        obtain ⟨v, u, rfl, l1, l2⟩ := lx.two
        obtain ⟨t, rfl⟩ := l1.int; obtain ⟨t', rfl⟩ := l2.int
        obtain ⟨h₀, m, news, F, N, g, _⟩ := cutG C
        refine divmod_N F N (by omega) (fun h' F' N' => ?_) (.inl (PyProof.noPylong_of_log2 hb.2))
        refine k.tup C (none_size _) (N' _ (.head _)).1 (g h' [_] F' N') rfl rfl ?_
        rw [Int.fdiv_eq_ediv_of_nonneg _ (by lia), Int.fmod_eq_emod_of_nonneg _ (by lia)]
        exact .cons (.int _ _) (.cons (.int _ _) .nil)
      · cases e
    · cases e
  | tuple =>
    have e : tupD xs = some z := e
    unfold tupD at e
    split at e
    · split at e
      · cases e
        rename_i hl
        obtain ⟨v, rfl, l⟩ := lx.one
        obtain ⟨a, vs, rfl, ha, ra⟩ := l.list C.sto
        have hlen := ra.length
        rw [Array.length_toList] at hlen
        refine call_tuple_list ha (fun h' hk => ?_) (by rw [hlen]; exact Nat.le_trans hl (by decide))
        have : s.heap.get? h'.objs.size = none := by
          cases q : s.heap.get? h'.objs.size with
          | none => rfl
          | some o => exact absurd (Heap.lt_size (hk _ _ q)) (Nat.lt_irrefl _)
        exact k.tup C this (Heap.get?_push_size _ rfl) (.of fun b o e => Heap.get?_push_of_some _ (hk b o e)) rfl rfl ra
      · cases e
    · cases e


theorem op_sub (C : Cx W L P ad σ s.heap) {value slice : Expr} {v u : Value} {x y : PyData} (hs : notSl slice = true) (lx : Lie W P s.heap v x) (ly : Lie W P s.heap u y) (e : subD x y = some z) (k : Then W L P ad σ s z Q) :
    wpAny (model prog W.w) A (subscriptTail value slice v u) Q E s := by
  unfold subD at e
  split at e
  · split at e
    · obtain ⟨a, vs, rfl, ha, ra⟩ := lx.list C.sto; obtain ⟨t, rfl⟩ := ly.int
      obtain ⟨w, h1, h2⟩ := ra.get _ e
      rename_i hb
      exact tail_any ha.typeIs slot_list_getitem.lookup (wpAny_getItem_list ha hb.1 (by lia) (by simpa using h1) (k.here C h2)) (subscripted_not hs _ _)
    · cases e
  · split at e
    · rename_i i hb
      obtain ⟨a, vs, rfl, ha, _, ra⟩ := lx.tuple C.sto; obtain ⟨t, rfl⟩ := ly.int
      obtain ⟨w, h1, h2⟩ := ra.get _ e
      have hlt : i.toNat < vs.toList.length := by
        rw [List.getElem?_eq_some_iff] at h1; exact h1.1
      refine item_tupleT (l := vs.toList) ha (by lia) (by lia) (j := i.toNat) ?_ h1 (k.here C h2) (subscripted_not hs _ _)
      unfold seqIndex?
      obtain ⟨m, rfl⟩ := Int.eq_ofNat_of_zero_le hb.1
      simp only [Int.toNat_natCast] at hlt
      have h1 : (decide ((0 : Int) ≤ (m : Int)) && decide ((m : Int) < (vs.toList.length : Int))) = true := by
        rw [decide_eq_true (by lia), decide_eq_true (by lia)]; rfl
      have h0 : ¬ (m : Int) < 0 := by lia
      simp only [if_neg h0, h1, if_true, Int.toNat_natCast]
    · cases e
  · split at e
    · simp only [Option.map_eq_some_iff] at e
      obtain ⟨c, hc, rfl⟩ := e
      obtain ⟨t, rfl⟩ := lx.str; obtain ⟨t', rfl⟩ := ly.int
      rename_i xx i hb
      have hlt : i.toNat < xx.length := by
        have := (Array.getElem?_eq_some_iff.mp hc).1; exact this
      refine tail_any (typeIs_str _ _ _) F.slot_str_getitem.lookup (PyProof.Rows.getItem_str ?_ ?_ (k.here C (.str _ _))) (subscripted_not hs _ _)
      · rw [decide_eq_false (by lia), decide_eq_false (by lia)]; rfl
      · unfold seqIndex?
        obtain ⟨m, rfl⟩ := Int.eq_ofNat_of_zero_le hb.1
        simp only [Int.toNat_natCast] at hlt hc
        have h1 : (decide ((0 : Int) ≤ (m : Int)) && decide ((m : Int) < (xx.length : Int))) = true := by
          rw [decide_eq_true (by lia), decide_eq_true (by lia)]; rfl
        have h0 : ¬ (m : Int) < 0 := by lia
        simp only [if_neg h0, h1, if_true, Int.toNat_natCast]
        exact hc
    · cases e
  · cases e
end
end Mine
end
section
open PySem PySem.W PyProof.Rows PySem.Calls
namespace Mine

section
variable {W : Wo} {L : Addr} {P : PM} {ad : Nat → Addr} {σ : Sg} {h h' : Heap} {A : Around} {E : Value → Shared → Prop} {s : Shared} {Q : Value → Shared → Prop} {z : PyData} {zs : List PyData} {n : Nat} {prog : Program}

theorem TabOk.step {P P' : PM} {h h' : Heap} (t : TabOk W P h) (k : ∀ q ∈ W.tabs, ∀ o, h.get? q.t = some o → h'.get? q.t = some o) (le : Le P P') (no : ∀ q ∈ W.tabs, P' q.t = none) : TabOk W P' h' := fun q hq => by
  obtain ⟨_, ps, h2, h3⟩ := t q hq
  refine ⟨no q hq, ps, k q hq _ h2, ?_⟩
  rcases h3 with h3 | ⟨c', oc, vs, t, e1, e2, e3⟩
  · exact .inl h3
  · exact .inr ⟨c', oc, vs, t, e1, le _ _ e2, e3⟩
theorem TabOk.none {P : PM} {h : Heap} (t : TabOk W P h) : ∀ q ∈ W.tabs, P q.t = none := fun q hq => (t q hq).1
theorem TabOk.at {P : PM} {h : Heap} (t : TabOk W P h) : ∀ b ∈ W.ts, ∃ o, h.get? b = some o := fun b hb => by
  obtain ⟨q, hq, rfl⟩ := List.mem_map.mp hb
  obtain ⟨_, ps, h2, _⟩ := t q hq
  exact ⟨_, h2⟩

theorem EfE.step (C : Cx W L P ad σ h) {P₁ P' : PM} {h₁ : Heap} (a : EfE W L P ad σ h P₁ ad σ h₁) (X : Addr → Prop) (hX : ∀ b, X b → h.get? b = none)
    (k : ∀ b o, ¬ X b → b ∉ W.ts → h₁.get? b = some o → h'.get? b = some o) (le : Le P₁ P') (new : ∀ b, P' b ≠ none → P₁ b ≠ none ∨ h₁.get? b = none ∨ X b) (sub : Le P' h'.get?) (tab : TabOk W P' h') : EfE W L P ad σ h P' ad σ h' := by
  have old : ∀ b o, h.get? b = some o → ¬ X b := fun b o e q => by rw [hX b q] at e; cases e
  have S₁ := a.eff.sto
  have lv : ∀ j, sget σ j ≠ .x → ¬ X (ad j) := fun j hj => by obtain ⟨o, e⟩ := C.sto.live hj; exact old _ _ e
  refine ⟨{
    le := a.eff.le.trans le
    keep := fun b o n1 n2 n3 e => k b o (old b o e) n2 (a.eff.keep b o n1 n2 n3 e)
    stay := fun b o e => by
      by_cases hb : b ∈ W.ts
      · exact tab.at b hb
      · obtain ⟨o', e'⟩ := a.eff.stay b o e; exact ⟨o', k b o' (old b o e) hb e'⟩
    adk := fun _ _ => rfl
    len := Nat.le_refl _
    lv := fun _ _ e => e
    newP := fun b e => by
      rcases new b e with q | q | q
      · exact a.eff.newP b q
      · exact .inr (.inl (none_of a.eff.stay q))
      · exact .inr (.inl (hX b q))
    newA := fun j hj e => absurd (sget_lt e) (Nat.not_lt.mpr hj)
    sto := {
      base := S₁.base.trans le
      sub := sub
      tab := tab
      ls := fun j xs e => let ⟨vs, n, h1, h4⟩ := S₁.ls j xs e; ⟨vs, n, k _ _ (lv j (by rw [e]; exact nofun)) (S₁.out j (by rw [e]; exact nofun)).2 h1, h4.le le⟩
      is := fun j fs e => let ⟨od, h1, h2⟩ := S₁.is j fs e; ⟨od, k _ _ (lv j (by rw [e]; exact nofun)) (S₁.out j (by rw [e]; exact nofun)).2 h1, h2.le le⟩
      out := fun j e => by
        refine ⟨?_, (S₁.out j e).2⟩
        cases q : P' (ad j) with
        | none => rfl
        | some o =>
          rcases new (ad j) (by rw [q]; exact nofun) with x | x | x
          · exact absurd (S₁.out j e).1 x
          · obtain ⟨o', e'⟩ := S₁.live e; rw [e'] at x; cases x
          · exact absurd x (lv j e)
      inj := S₁.inj } }, fun m hm => ?_⟩
  have hL : ¬ X L := by obtain ⟨o, _, _, e, _⟩ := hm; exact old _ _ e
  obtain ⟨o, es, ep, e, r⟩ := a.ns m hm
  exact ⟨o, es, ep, k _ _ hL C.lo.t e, r⟩

theorem Sto.nil (S : Sto W P ad σ h) (ad' : Nat → Addr) : Sto W P ad' [] h where
  base := S.base
  sub := S.sub
  tab := S.tab
  ls := fun j xs e => by cases e
  is := fun j fs e => by cases e
  out := fun j e => absurd rfl e
  inj := fun i j e => absurd rfl e

noncomputable def Itr (W : Wo) (prog : Program) (A : Around) (P : PM) (its : List PyData) (I : Addr) (h : Heap) : Prop :=
  ∃ fp St Pd, Walks prog W.w A I fp [I] its.length Pd St ∧ St 0 h ∧ (∀ b ∈ fp, b = I ∨ P b ≠ none) ∧ (∀ i h, St i h → ∃ o, h.get? I = some o) ∧
    (∀ i v, i < its.length → Pd i v → ∃ d, its[i]? = some d ∧ Rd P v d)

theorem Itr.elim {P : PM} {its : List PyData} {I : Addr} {G : Prop} (i : Itr W prog A P its I h) (k : ∀ fp St Pd, Walks prog W.w A I fp [I] its.length Pd St → St 0 h → (∀ b ∈ fp, b = I ∨ P b ≠ none) → (∀ i h, St i h → ∃ o, h.get? I = some o) →
    (∀ i v, i < its.length → Pd i v → ∃ d, its[i]? = some d ∧ Rd P v d) → G) : G := by
  obtain ⟨fp, St, Pd, a, b, c, d, e⟩ := i
  exact k fp St Pd a b c d e
theorem Itr.St_keep {P : PM} {its : List PyData} {I : Addr} {fp : List Addr} {St : Nat → Heap → Prop} {Pd : Nat → Value → Prop} (w : Walks prog W.w A I fp [I] n Pd St) (hf : ∀ b ∈ fp, b = I ∨ P b ≠ none)
    {i : Nat} (st : St i h) (sub : Le P h.get?) (sub' : Le P h'.get?) (hI : ∀ o, h.get? I = some o → h'.get? I = some o) : St i h' :=
  w.frame i h h' st fun b hb o e => by
    rcases hf b hb with q | q
    · subst q; exact hI o e
    · cases x : P b with
      | none => exact absurd x q
      | some o' => have h1 := sub b o' x; rw [e] at h1; cases h1; exact sub' b o x

noncomputable def ThenI (W : Wo) (prog : Program) (L : Addr) (A : Around) (P : PM) (s : Shared) (its : List PyData) (Q : Value → Shared → Prop) : Prop :=
  ∀ I h' tk, s.heap.get? I = none → (∀ b o, s.heap.get? b = some o → h'.get? b = some o) → Itr W prog A P its I h' → Q (.ref I) { s with heap := h', toks := tk }

theorem itemsD_iter (C : Cx W L P ad σ s.heap) (hA : A.handled = none) {v : Value} {x : PyData} {its : List PyData} (r : Rd P v x) (e : itemsD x = some its) (k : ThenI W prog L A P s its Q) :
    wpAny (model prog W.w) A (pyIter v) Q E s := by
  unfold itemsD at e
  split at e
  · split at e
    · cases e
      cases r with
      | @list a o vs m xs h1 h2 h3 h4 =>
      have hl : s.heap.IsList a vs := ⟨o, C.sto.sub _ _ h1, h2, m, h3⟩
      have hne : a ≠ s.heap.objs.size := by obtain ⟨_, q, _⟩ := hl; exact Nat.ne_of_lt (Heap.lt_size q)
      refine wpAny_pyIter_list hl (k _ _ _ (none_size _) (fun b o e => Heap.get?_push_of_some _ e) ⟨_, _, _, by
        have := Walks.list (prog := prog) (w := W.w) (A := A) hA s.heap.objs.size a hne vs
        rw [show vs.size = its.length from by rw [← h4.length, Array.length_toList]] at this
        exact this, ?_, fun b hb => ?_, fun i h st => ?_, fun i v hi hv => ?_⟩)
      · exact ⟨⟨_, Heap.get?_push_size _ rfl, rfl, rfl⟩, hl.push _⟩
      · rcases List.mem_cons.mp hb with q | q
        · exact .inl q
        · rcases List.mem_cons.mp q with q | q
          · subst q; exact .inr (by rw [h1]; exact nofun)
          · cases q
      · obtain ⟨o, q, _⟩ := st.1; exact ⟨o, q⟩
      · obtain ⟨d, q1, q2⟩ := h4.get' i (by simpa using hv)
        exact ⟨d, q1, q2⟩
    · cases e
  · split at e
    · cases e
      cases r with
      | @tuple a o vs m xs h1 h2 h3 h4 =>
      have hl : s.heap.IsTuple a vs := ⟨o, C.sto.sub _ _ h1, h2, m, h3⟩
      have hne : a ≠ s.heap.objs.size := by obtain ⟨_, q, _⟩ := hl; exact Nat.ne_of_lt (Heap.lt_size q)
      refine wpAny_pyIter_tuple hl (k _ _ _ (none_size _) (fun b o e => Heap.get?_push_of_some _ e) ⟨_, _, _, by
        have := Walks.tuple (prog := prog) (w := W.w) (A := A) hA s.heap.objs.size a hne vs
        rw [show vs.size = its.length from by rw [← h4.length, Array.length_toList]] at this
        exact this, ?_, fun b hb => ?_, fun i h st => ?_, fun i v hi hv => ?_⟩)
      · exact ⟨⟨_, Heap.get?_push_size _ rfl, rfl, rfl⟩, ⟨o, Heap.get?_push_of_some _ (C.sto.sub _ _ h1), h2, m, h3⟩⟩
      · rcases List.mem_cons.mp hb with q | q
        · exact .inl q
        · rcases List.mem_cons.mp q with q | q
          · subst q; exact .inr (by rw [h1]; exact nofun)
          · cases q
      · obtain ⟨o, q, _⟩ := st.1; exact ⟨o, q⟩
      · obtain ⟨d, q1, q2⟩ := h4.get' i (by simpa using hv)
        exact ⟨d, q1, q2⟩
    · cases e
  · split at e
    · cases e
      rename_i x hx
      cases r with
      | str _ t =>
      refine wpAny_pyIter_ascii hx.1 (k _ _ _ (none_size _) (fun b o e => Heap.get?_push_of_some _ e) ⟨_, _, _, by
        have := Walks.strAscii (prog := prog) (w := W.w) (A := A) hA s.heap.objs.size x t
        rw [show x.cps.size = (x.cps.toList.map fun c => PyData.str ⟨#[c]⟩).length from by simp] at this
        exact this, ?_, fun b hb => ?_, fun i h st => ?_, fun i v hi hv => ?_⟩)
      · exact ⟨_, Heap.get?_push_size _ rfl, rfl, rfl⟩
      · rcases List.mem_cons.mp hb with q | q
        · exact .inl q
        · cases q
      · obtain ⟨o, q, _⟩ := st; exact ⟨o, q⟩
      · obtain ⟨c, u, q1, rfl⟩ := hv
        exact ⟨.str ⟨#[c]⟩, by simp [q1], .str _ _⟩
    · cases e
  · cases e

theorem small_ok {a b : Int} (ha : -100000 < a) (hb : b < 100000) (ha' : a < 2 ^ 62) (hb' : -(2 ^ 62) < b) : Builtin.Range.small a b 1 = true := by
  have fit : ∀ x : Int, -(2 ^ 62) ≤ x → x ≤ 2 ^ 62 → Builtin.Range.rangeFitsLong x = true := fun x h1 h2 => by
    unfold Builtin.Range.rangeFitsLong
    simp only [Bool.and_eq_true, decide_eq_true_eq]; lia
  unfold Builtin.Range.small
  rw [rangeSize_one]
  have h1 := fit a (by lia) (by lia)
  have h2 := fit b (by lia) (by lia)
  have h3 := fit 1 (by decide) (by decide)
  have h4 := fit (if a < b then b - a else 0) (by split <;> lia) (by split <;> lia)
  have h5 := fit (b + (1 - 1)) (by lia) (by lia)
  rw [h1, h2, h3, h4]
  simp only [Bool.true_and, show ((1 : Int) > 0) = True from by simp, if_true, h5, Bool.or_true]

theorem rng_items {a b : Int} {i : Nat} {v : Value} {t : Tok} (hi : i < (rangeI a b).length) (e : v = .int (a + i * 1) t) : ∃ d, ((rangeI a b).map PyData.int)[i]? = some d ∧ Rd P v d := by
  subst e
  have hi' := hi
  simp only [rangeI, List.length_map, List.length_range] at hi'
  exact ⟨.int (a + i * 1), by simp [rangeI, hi'], .int _ _⟩


theorem op_iterRng {r : Addr} {a b : Int} {t u v : Tok} (hA : A.handled = none) (hr : IsRange s.heap r a b 1 t u v) (ha : -100000 < a) (hb : b < 100000) (ha' : a < 2 ^ 62) (hb' : -(2 ^ 62) < b)
    (k : ThenI W prog L A P s ((rangeI a b).map .int) Q) : wpAny (model prog W.w) A (pyIter (.ref r)) Q E s := by
  have hlen : ((rangeI a b).map PyData.int).length = (b - a).toNat := by simp [rangeI]
  refine wpAny_pyIter_range hr (small_ok ha hb ha' hb') (k _ _ _ (none_size _) (fun b o e => Heap.get?_push_of_some _ e) ⟨_, _, _, by
    have := Walks.range (prog := prog) (w := W.w) (A := A) hA s.heap.objs.size a 1 (b - a).toNat
    rw [← hlen] at this
    exact this, ?_, fun b hb => ?_, fun i h st => ?_, fun i v hi hv => ?_⟩)
  · show Heap.get? _ _ = _
    have e1 : (if a < b then b - a else 0) = (((b - a).toNat : Nat) : Int) - ((0 : Nat) : Int) := by split <;> lia
    have e2 : a + ((0 : Nat) : Int) * 1 = a := by lia
    rw [Heap.get?_push_size _ rfl, rangeSize_one, hlen, ← e1, e2]
  · rcases List.mem_cons.mp hb with q | q
    · exact .inl q
    · cases q
  · exact ⟨_, st⟩
  · obtain ⟨t, e⟩ := hv
    exact rng_items (by simpa using hi) e

theorem op_rng2 (hA : A.handled = none) {a b : Int} {t u : Tok} (ha : -100000 < a) (hb : b < 100000) (ha' : a < 2 ^ 62) (hb' : -(2 ^ 62) < b)
    (k : ThenI W prog L A P s ((rangeI a b).map .int) Q) : wpAny (model prog W.w) A (call (.type "range") [.int a t, .int b u]) (fun x s₁ => wpAny (model prog W.w) A (pyIter x) Q E s₁) E s := by
  refine call_range_2 (op_iterRng (W := W) (L := L) (P := P) hA (IsRange.new _ _ _ _ _ _ _) ha hb ha' hb' fun I h' tk h1 h2 h3 => k I h' tk ?_ (fun b o e => h2 b o (Heap.get?_push_of_some _ e)) h3)
  cases q : s.heap.get? I with
  | none => rfl
  | some o => have := Heap.get?_push_of_some { cls := .type "range", data := .fields #[.int a t, .int b u, .int 1 s.toks] } q; rw [h1] at this; cases this
theorem op_rng1 (hA : A.handled = none) {b : Int} {u : Tok} (hb : b < 100000) (hb' : -(2 ^ 62) < b)
    (k : ThenI W prog L A P s ((rangeI 0 b).map .int) Q) : wpAny (model prog W.w) A (call (.type "range") [.int b u]) (fun x s₁ => wpAny (model prog W.w) A (pyIter x) Q E s₁) E s := by
  refine call_range_1 (op_iterRng (W := W) (L := L) (P := P) hA (IsRange.new _ _ _ _ _ _ _) (by decide) hb (by decide) hb' fun I h' tk h1 h2 h3 => k I h' tk ?_ (fun b o e => h2 b o (Heap.get?_push_of_some _ e)) h3)
  cases q : s.heap.get? I with
  | none => rfl
  | some o => have := Heap.get?_push_of_some { cls := .type "range", data := .fields #[.int 0 s.toks, .int b u, .int 1 (s.toks + 1)] } q; rw [h1] at this; cases this

theorem op_rev (C : Cx W L P ad σ s.heap) (hA : A.handled = none) {v : Value} {its : List PyData} (r : Rd P v (.list its)) (k : ThenI W prog L A P s its.reverse Q) :
    wpAny (model prog W.w) A (call (.type "reversed") [v]) (fun x s₁ => wpAny (model prog W.w) A (pyIter x) Q E s₁) E s := by
  cases r with
  | @list a o vs m xs h1 h2 h3 h4 =>
  have hl : s.heap.IsList a vs := ⟨o, C.sto.sub _ _ h1, h2, m, h3⟩
  have hne : a ≠ s.heap.objs.size := by obtain ⟨_, q, _⟩ := hl; exact Nat.ne_of_lt (Heap.lt_size q)
  have hsz : vs.size = its.reverse.length := by rw [List.length_reverse, ← h4.length, Array.length_toList]
  refine call_reversed_list hl (wpAny_pyIter_revIter ⟨_, Heap.get?_push_size _ rfl, rfl, rfl⟩ (k _ _ s.toks (none_size _) (fun b o e => Heap.get?_push_of_some _ e) ⟨_, _, _, by
    have := Walks.listRev (prog := prog) (w := W.w) (A := A) hA s.heap.objs.size a hne vs
    rw [hsz] at this
    exact this, ?_, fun b hb => ?_, fun i h st => ?_, fun i v hi hv => ?_⟩))
  · refine ⟨Nat.zero_le _, ⟨_, Heap.get?_push_size _ rfl, rfl, ?_⟩, hl.push _⟩
    rw [← hsz]; simp; rfl
  · rcases List.mem_cons.mp hb with q | q
    · exact .inl q
    · rcases List.mem_cons.mp q with q | q
      · subst q; exact .inr (by rw [h1]; exact nofun)
      · cases q
  · obtain ⟨o, q, _⟩ := st.2.1; exact ⟨o, q⟩
  · rw [← hsz] at hv
    obtain ⟨d, q1, q2⟩ := h4.get' _ (by simpa using hv)
    refine ⟨d, ?_, q2⟩
    rw [List.getElem?_reverse (by simpa using hi)]
    rw [← q1]
    congr 1
    rw [hsz, List.length_reverse]

noncomputable def IsSl (e : Expr) : Bool := by
  cases e with
  | Slice => exact true
  | _ => exact false
theorem subscripted_sl {e : Expr} (h : IsSl e = true) (o i : Value) : ∃ ops, subscripted e false o i = operate ops (getItem o i) := by
  cases e <;> first | cases h | skip
  rename_i l u st p
  cases st
  · exact ⟨[i, o], rfl⟩
  · exact ⟨[o, i], rfl⟩

theorem part_of {v : Value} {x : PyData} {p : Option Int} (r : Rd P v x) (e : partOf x = some p) : IsPart v p := by
  cases r <;> simp [partOf] at e <;> subst e <;> constructor

theorem slicePick_toList {vs : Array Value} (lo hi st : Option Int) : (slicePick vs lo hi st).toList = (slP vs.size lo hi st).filterMap (vs.toList[·]?) := by
  unfold slicePick slP
  simp

theorem op_sl (C : Cx W L P ad σ s.heap) {value slice : Expr} {v vl vu vs : Value} {x a b c : PyData} {lo hi st : Option Int} (hs : IsSl slice = true) (lx : Lie W P s.heap v x)
    (ra : Rd P vl a) (rb : Rd P vu b) (rc : Rd P vs c) (ea : partOf a = some lo) (eb : partOf b = some hi) (ec : partOf c = some st) (e : slD x lo hi st = some z) (k : Then W L P ad σ s z Q) :
    wpAny (model prog W.w) A (subscriptTail value slice v (.ref s.heap.objs.size)) Q E { s with heap := s.heap.push { cls := .type "slice", data := .fields #[vl, vu, vs] } } := by
  have pa := part_of ra ea; have pb := part_of rb eb; have pc := part_of rc ec
  obtain ⟨ops, hops⟩ := subscripted_sl hs v (.ref s.heap.objs.size)
  unfold slD at e
  split at e
  · split at e
    · cases e
      rename_i xs hc
      obtain ⟨d, ws, rfl, hd, rd⟩ := lx.list C.sto
      have hsz : ws.size = xs.length := by rw [← Array.length_toList]; exact rd.length
      have hd' : (s.heap.push { cls := .type "slice", data := .fields #[vl, vu, vs] }).IsList d ws := hd.push _
      refine tail_any (s := { s with heap := _ }) hd'.typeIs slot_list_getitem.lookup (wpAny_getItem_list_slice (s := { s with heap := _ }) hd' ⟨_, Heap.get?_push_size _ rfl, rfl, rfl⟩ pa pb pc hc.2 ?_
        (by rw [hsz]; exact Nat.le_trans hc.1 (by decide))) hops
      have hn : s.heap.get? (s.heap.push { cls := .type "slice", data := .fields #[vl, vu, vs] }).objs.size = none := by
        cases q : s.heap.get? (s.heap.push { cls := .type "slice", data := .fields #[vl, vu, vs] }).objs.size with
        | none => rfl
        | some o => have := Heap.lt_size q; rw [Heap.size_push] at this; exact absurd this (Nat.not_lt.mpr (Nat.le_succ _))
      refine k.frz C _ _ s.toks _ 0 hn (Heap.get?_push_size _ rfl) ((Gro.push _).trans (.push _)) ?_
      rw [slicePick_toList, hsz]
      exact rd.pick _
    · cases e
  · split at e
    · cases e
      rename_i hc
      obtain ⟨t, rfl⟩ := lx.str
      cases pa with
      | int i ti =>
      cases pb with
      | int j tj =>
      cases pc with
      | none =>
      have hsub : subscripted slice false (.str _ t) (.ref s.heap.objs.size) = operate ops (getItem (.str _ t) (.ref s.heap.objs.size)) := hops
      obtain ⟨h₀, m, news, F, N, g, _⟩ := cutG C
      refine tail_of_ItemOn (SBH.sliceItem_ss keptFrN ⟨F, N⟩ (fun h' t' k' a => k.imm C (.str _ _) (g h' [] a.1 a.2)) (Nat.le_trans hc (by decide))) hsub ?_
      intro r; cases value <;> rfl
    · cases e
  · cases e
end
end Mine
end
section
open PySem PySem.W PyProof.Rows PySem.Calls
namespace Mine

noncomputable def fnm : Fn → Str
  | .init => Str.ofString "__init__" | .longest => Str.ofString "longest_run_of_spaces" | .indent => Str.ofString "indent_level" | .equal => Str.ofString "equal" | .neW => Str.ofString "not_equal_witness"
  | .less => Str.ofString "less" | .nlW => Str.ofString "not_less_witness" | .div2 => Str.ofString "_div2n1n" | .i2d => Str.ofString "_int2digits" | .d2i => Str.ofString "_digits2int"
  | .dmpos => Str.ofString "_divmod_pos" | .idm => Str.ofString "int_divmod" | .drawn => Str.ofString "_law_drawn" | .lead => Str.ofString "_law_lead" | .read => Str.ofString "_law_read"
  | .figs => Str.ofString "_law_figures" | .cols => Str.ofString "_law_columns" | .plain => Str.ofString "_law_plain" | .ways => Str.ofString "_law_ways" | .prod => Str.ofString "_law_product" | .law => Str.ofString "law"
noncomputable def isMeth : Fn → Bool
  | .longest | .indent | .equal | .neW | .less | .nlW => true
  | _ => false
noncomputable def isPlainF : Fn → Bool
  | .init => false
  | f => !isMeth f
noncomputable def bnm : Blt → Str
  | .len => Str.ofString "len" | .max => Str.ofString "max" | .sum => Str.ofString "sum" | .divmod => Str.ofString "divmod" | .tuple => Str.ofString "tuple"
noncomputable def sWs : Str := Str.ofString "Whitespace"
noncomputable def sTok : Str := Str.ofString "EXACT_TOKEN_TYPES"
noncomputable def sLim : Str := Str.ofString "_DIV_LIMIT"
noncomputable def sRange : Str := Str.ofString "range"
noncomputable def sRev : Str := Str.ofString "reversed"
noncomputable def sInner : Str := Str.ofString "inner"
noncomputable def sBl : Str := Str.ofString "bit_length"
noncomputable def sJoin : Str := Str.ofString "join"
noncomputable def clsTab : List (Str × Str) := [(Str.ofString "S", Str.ofString " "), (Str.ofString "T", Str.ofString "\t")]

noncomputable def locOk (sc : Scope) (x : Str) : Bool := !(x == ("__debug__" : Str)) && !(x == ("__classdict__" : Str)) && (match sc.names.lookup x with | some .local => true | some .cell => true | some .free => true | _ => false)
noncomputable def glbOk (sc : Scope) (x : Str) : Bool := !(x == ("__debug__" : Str)) && decide (sc.names.lookup x = some .globalImplicit)
noncomputable def notStar (e : Expr) : Bool := by
  cases e with
  | Starred => exact false
  | _ => exact true
noncomputable def isNm (e : Expr) : Bool := by
  cases e with
  | Name => exact true
  | _ => exact false
noncomputable def noSuper (e : Expr) : Bool := by
  cases e with
  | Call f a k => exact !(isNm f && a.isEmpty && k.isEmpty)
  | _ => exact true
noncomputable def notSet (e : Expr) : Bool := by
  cases e with
  | Set => exact false
  | _ => exact true
noncomputable def relabelS (scope sc : Scope) : Scope :=
  { scope with names := scope.names.map fun (n, k) => if (k == .free && sc.kind == .function && sc.names.lookup n == some .cell) then (n, .cell) else (n, k) }
noncomputable def isTT (p : PE) : Bool := by
  cases p with
  | tt b => exact b
  | _ => exact false
noncomputable def distinct : List Str → Bool
  | [] => true
  | x :: r => !(r.contains x) && distinct r
noncomputable def capNames (ns : List Str) : List Nat → Option (List Str)
  | [] => some []
  | k :: r => match ns[k]?, capNames ns r with
    | some x, some l => some (x :: l)
    | _, _ => none
noncomputable def capOk (ns : List Str) (scope : Scope) (x : Nat) (cap : List Nat) : Bool := match capNames ns (x :: cap) with
  | some (y :: l) => distinct (y :: l) && l.all fun z => decide (scope.names.lookup z = some .free)
  | _ => false
noncomputable def compOk (scope sc : Scope) (y : Str) : Bool :=
  decide (scope.kind = .function) && decide (sc.kind = .function) && decide (scope.names.lookup y = some .local) && !(y == ("__debug__" : Str)) &&
  (scope.names.all fun q => decide (q.2 ≠ .cell) && (decide (q.2 ≠ .local) || decide (scope.names.lookup q.1 = some .local)) && (decide (q.2 ≠ .free) || (decide (sc.names.lookup q.1 = some .cell) && decide (scope.names.lookup q.1 = some .free))))

theorem ftE {C : Prop} (h : false = true) : C := nomatch h
noncomputable def xCon (e : Expr) (f : Const → Bool) : Bool := by
  cases e with
  | Constant c _ _ => exact f c
  | _ => exact false
@[elab_as_elim] theorem xCon_e {e : Expr} {f : Const → Bool} {C : Expr → Prop} (h : xCon e f = true) (k : ∀ c a b, f c = true → C (.Constant c a b)) : C e := by
  cases e <;> first | exact k _ _ _ h | exact ftE h
noncomputable def xNam (e : Expr) (f : Str → Bool) : Bool := by
  cases e with
  | Name x _ => exact f x
  | _ => exact false
@[elab_as_elim] theorem xNam_e {e : Expr} {f : Str → Bool} {C : Expr → Prop} (h : xNam e f = true) (k : ∀ x p, f x = true → C (.Name x p)) : C e := by
  cases e <;> first | exact k _ _ h | exact ftE h
noncomputable def xAtt (e : Expr) (f : Expr → Str → Pos → Bool) : Bool := by
  cases e with
  | Attribute x m p => exact f x m p
  | _ => exact false
@[elab_as_elim] theorem xAtt_e {e : Expr} {f : Expr → Str → Pos → Bool} {C : Expr → Prop} (h : xAtt e f = true) (k : ∀ x m p, f x m p = true → C (.Attribute x m p)) : C e := by
  cases e <;> first | exact k _ _ _ h | exact ftE h
noncomputable def xBin (e : Expr) (f : Expr → Operator → Expr → Bool) : Bool := by
  cases e with
  | BinOp l o r _ => exact f l o r
  | _ => exact false
@[elab_as_elim] theorem xBin_e {e : Expr} {f : Expr → Operator → Expr → Bool} {C : Expr → Prop} (h : xBin e f = true) (k : ∀ l o r p, f l o r = true → C (.BinOp l o r p)) : C e := by
  cases e <;> first | exact k _ _ _ _ h | exact ftE h
noncomputable def xCmp (e : Expr) (f : Expr → List CmpOp → List Expr → Bool) : Bool := by
  cases e with
  | Compare l o r _ => exact f l o r
  | _ => exact false
@[elab_as_elim] theorem xCmp_e {e : Expr} {f : Expr → List CmpOp → List Expr → Bool} {C : Expr → Prop} (h : xCmp e f = true) (k : ∀ l o r p, f l o r = true → C (.Compare l o r p)) : C e := by
  cases e <;> first | exact k _ _ _ _ h | exact ftE h
noncomputable def xBop (e : Expr) (f : BoolOp → List Expr → Bool) : Bool := by
  cases e with
  | BoolOp o l _ => exact f o l
  | _ => exact false
@[elab_as_elim] theorem xBop_e {e : Expr} {f : BoolOp → List Expr → Bool} {C : Expr → Prop} (h : xBop e f = true) (k : ∀ o l p, f o l = true → C (.BoolOp o l p)) : C e := by
  cases e <;> first | exact k _ _ _ h | exact ftE h
noncomputable def xUn (e : Expr) (f : UnaryOp → Expr → Bool) : Bool := by
  cases e with
  | UnaryOp o x _ => exact f o x
  | _ => exact false
@[elab_as_elim] theorem xUn_e {e : Expr} {f : UnaryOp → Expr → Bool} {C : Expr → Prop} (h : xUn e f = true) (k : ∀ o x p, f o x = true → C (.UnaryOp o x p)) : C e := by
  cases e <;> first | exact k _ _ _ h | exact ftE h
noncomputable def xIf (e : Expr) (f : Expr → Expr → Expr → Bool) : Bool := by
  cases e with
  | IfExp t x y _ => exact f t x y
  | _ => exact false
@[elab_as_elim] theorem xIf_e {e : Expr} {f : Expr → Expr → Expr → Bool} {C : Expr → Prop} (h : xIf e f = true) (k : ∀ t x y p, f t x y = true → C (.IfExp t x y p)) : C e := by
  cases e <;> first | exact k _ _ _ _ h | exact ftE h
noncomputable def xCal (e : Expr) (f : Expr → List Expr → List Keyword → Pos → Bool) : Bool := by
  cases e with
  | Call x l k p => exact f x l k p
  | _ => exact false
@[elab_as_elim] theorem xCal_e {e : Expr} {f : Expr → List Expr → List Keyword → Pos → Bool} {C : Expr → Prop} (h : xCal e f = true) (k : ∀ x l k p, f x l k p = true → C (.Call x l k p)) : C e := by
  cases e <;> first | exact k _ _ _ _ h | exact ftE h
noncomputable def xSub (e : Expr) (f : Expr → Expr → Bool) : Bool := by
  cases e with
  | Subscript x y _ => exact f x y
  | _ => exact false
@[elab_as_elim] theorem xSub_e {e : Expr} {f : Expr → Expr → Bool} {C : Expr → Prop} (h : xSub e f = true) (k : ∀ x y p, f x y = true → C (.Subscript x y p)) : C e := by
  cases e <;> first | exact k _ _ _ h | exact ftE h
noncomputable def xSli (e : Expr) (f : Option Expr → Option Expr → Option Expr → Bool) : Bool := by
  cases e with
  | Slice x y z _ => exact f x y z
  | _ => exact false
@[elab_as_elim] theorem xSli_e {e : Expr} {f : Option Expr → Option Expr → Option Expr → Bool} {C : Expr → Prop} (h : xSli e f = true) (k : ∀ x y z p, f x y z = true → C (.Slice x y z p)) : C e := by
  cases e <;> first | exact k _ _ _ _ h | exact ftE h
noncomputable def xLst (e : Expr) (f : List Expr → Bool) : Bool := by
  cases e with
  | List l _ => exact f l
  | _ => exact false
@[elab_as_elim] theorem xLst_e {e : Expr} {f : List Expr → Bool} {C : Expr → Prop} (h : xLst e f = true) (k : ∀ l p, f l = true → C (.List l p)) : C e := by
  cases e <;> first | exact k _ _ h | exact ftE h
noncomputable def xTup (e : Expr) (f : List Expr → Bool) : Bool := by
  cases e with
  | Tuple l _ _ => exact f l
  | _ => exact false
@[elab_as_elim] theorem xTup_e {e : Expr} {f : List Expr → Bool} {C : Expr → Prop} (h : xTup e f = true) (k : ∀ l c p, f l = true → C (.Tuple l c p)) : C e := by
  cases e <;> first | exact k _ _ _ h | exact ftE h
noncomputable def xLC (e : Expr) (f : Expr → List Comprehension → Scope → Bool) : Bool := by
  cases e with
  | ListComp e g s _ => exact f e g s
  | _ => exact false
@[elab_as_elim] theorem xLC_e {e : Expr} {f : Expr → List Comprehension → Scope → Bool} {C : Expr → Prop} (h : xLC e f = true) (k : ∀ e g s p, f e g s = true → C (.ListComp e g s p)) : C e := by
  cases e <;> first | exact k _ _ _ _ h | exact ftE h
noncomputable def k0 {α : Type} : List α → Bool → Bool | [], b => b | _ :: _, _ => false
noncomputable def k1 {α : Type} : List α → (α → Bool) → Bool | [a], f => f a | _, _ => false
noncomputable def kC {α : Type} : List α → (α → List α → Bool) → Bool | a :: r, f => f a r | [], _ => false
@[elab_as_elim] theorem k0_e {α : Type} {l : List α} {b : Bool} {C : List α → Prop} (h : k0 l b = true) (k : b = true → C []) : C l := by
  cases l with
  | nil => exact k h
  | cons => exact ftE h
@[elab_as_elim] theorem k1_e {α : Type} {l : List α} {f : α → Bool} {C : List α → Prop} (h : k1 l f = true) (k : ∀ a, f a = true → C [a]) : C l := by
  cases l with
  | nil => exact ftE h
  | cons a r => cases r with
    | nil => exact k a h
    | cons => exact ftE h
@[elab_as_elim] theorem kC_e {α : Type} {l : List α} {f : α → List α → Bool} {C : List α → Prop} (h : kC l f = true) (k : ∀ a r, f a r = true → C (a :: r)) : C l := by
  cases l with
  | nil => exact ftE h
  | cons a r => exact k a r h
noncomputable def xCN (e : Expr) (f : Str → List Expr → Bool) : Bool := xCal e fun g l k _ => k0 k (xNam g fun x => kC l fun a r => f x (a :: r))
@[elab_as_elim] theorem xCN_e {e : Expr} {f : Str → List Expr → Bool} {C : Expr → Prop} (h : xCN e f = true) (k : ∀ x q a r p, f x (a :: r) = true → C (.Call (.Name x q) (a :: r) [] p)) : C e :=
  xCal_e h fun g l ks p h => k0_e (l := ks) (C := fun ks => C (.Call g l ks p)) h fun h => xNam_e (e := g) (C := fun g => C (.Call g l [] p)) h fun x q h => kC_e (l := l) (C := fun l => C (.Call (.Name x q) l [] p)) h fun a r h => k x q a r p h
noncomputable def xCM (e : Expr) (f : Expr → Str → List Expr → Bool) : Bool := xCal e fun g l k p => k0 k (xAtt g fun x m ap => noSuper x && decide (ap.endLine = p.line) && f x m l)
theorem and2 {a b : Bool} (h : (a && b) = true) : a = true ∧ b = true := Bool.and_eq_true_iff.mp h
theorem and2e {a b : Bool} {C : Prop} (h : (a && b) = true) (k : a = true → b = true → C) : C := k (and2 h).1 (and2 h).2
theorem and3e {a b c : Bool} {C : Prop} (h : (a && b && c) = true) (k : a = true → b = true → c = true → C) : C := and2e h fun h h3 => and2e h fun h1 h2 => k h1 h2 h3
theorem and4e {a b c d : Bool} {C : Prop} (h : (a && b && c && d) = true) (k : a = true → b = true → c = true → d = true → C) : C := and2e h fun h h4 => and3e h fun h1 h2 h3 => k h1 h2 h3 h4
theorem and5e {a b c d e : Bool} {C : Prop} (h : (a && b && c && d && e) = true) (k : a = true → b = true → c = true → d = true → e = true → C) : C := and2e h fun h h5 => and4e h fun h1 h2 h3 h4 => k h1 h2 h3 h4 h5
theorem deq {α : Type} [DecidableEq α] {a b : α} (h : decide (a = b) = true) : a = b := of_decide_eq_true h
@[elab_as_elim] theorem deqe {α : Type} [DecidableEq α] {a b : α} {q : Bool} {C : α → Prop} (h : (decide (a = b) && q) = true) (k : q = true → C b) : C a := deq (and2 h).1 ▸ k (and2 h).2
@[elab_as_elim] theorem xCM_e {e : Expr} {f : Expr → Str → List Expr → Bool} {C : Expr → Prop} (h : xCM e f = true) (k : ∀ x m ap l p, noSuper x = true → ap.endLine = p.line → f x m l = true → C (.Call (.Attribute x m ap) l [] p)) : C e :=
  xCal_e h fun g l ks p h => k0_e (l := ks) (C := fun ks => C (.Call g l ks p)) h fun h => xAtt_e (e := g) (C := fun g => C (.Call g l [] p)) h fun x m ap h => and3e h fun h1 h2 h3 => k x m ap l p h1 (deq h2) h3
noncomputable def xC1 (e : Expr) (f : Expr → CmpOp → Expr → Bool) : Bool := xCmp e fun l o r => k1 o fun o => k1 r fun r => f l o r
@[elab_as_elim] theorem xC1_e {e : Expr} {f : Expr → CmpOp → Expr → Bool} {C : Expr → Prop} (h : xC1 e f = true) (k : ∀ l o r p, f l o r = true → C (.Compare l [o] [r] p)) : C e :=
  xCmp_e h fun l os rs p h => k1_e (l := os) (C := fun os => C (.Compare l os rs p)) h fun o h => k1_e (l := rs) (C := fun rs => C (.Compare l [o] rs p)) h fun r h => k l o r p h
noncomputable def cInt : Const → (Int → Bool) → Bool | .int j, f => f j | _, _ => false
noncomputable def cStr : Const → (Str → Bool) → Bool | .str j, f => f j | _, _ => false
noncomputable def cBol : Const → (Bool → Bool) → Bool | .bool j, f => f j | _, _ => false
noncomputable def cNon : Const → Bool | .none => true | _ => false
@[elab_as_elim] theorem cInt_e {c : Const} {f : Int → Bool} {C : Const → Prop} (h : cInt c f = true) (k : ∀ j, f j = true → C (.int j)) : C c := by
  cases c <;> first | exact k _ h | exact ftE h
@[elab_as_elim] theorem cStr_e {c : Const} {f : Str → Bool} {C : Const → Prop} (h : cStr c f = true) (k : ∀ j, f j = true → C (.str j)) : C c := by
  cases c <;> first | exact k _ h | exact ftE h
@[elab_as_elim] theorem cBol_e {c : Const} {f : Bool → Bool} {C : Const → Prop} (h : cBol c f = true) (k : ∀ j, f j = true → C (.bool j)) : C c := by
  cases c <;> first | exact k _ h | exact ftE h
@[elab_as_elim] theorem cNon_e {c : Const} {C : Const → Prop} (h : cNon c = true) (k : C .none) : C c := by
  cases c <;> first | exact k | exact ftE h
noncomputable def uNot : UnaryOp → Bool → Bool | .Not, b => b | _, _ => false
noncomputable def uSub : UnaryOp → Bool → Bool | .USub, b => b | _, _ => false
@[elab_as_elim] theorem uNot_e {c : UnaryOp} {b : Bool} {C : UnaryOp → Prop} (h : uNot c b = true) (k : b = true → C .Not) : C c := by
  cases c <;> first | exact k h | exact ftE h
@[elab_as_elim] theorem uSub_e {c : UnaryOp} {b : Bool} {C : UnaryOp → Prop} (h : uSub c b = true) (k : b = true → C .USub) : C c := by
  cases c <;> first | exact k h | exact ftE h
noncomputable def gen1 : List Comprehension → (Str → Expr → List Expr → Bool) → Bool
  | [⟨t, iter, ifs, a⟩], f => a == 0 && xNam t fun y => f y iter ifs
  | _, _ => false

noncomputable def isNo (p : PE) : Bool := by
  cases p with
  | no => exact true
  | _ => exact false
mutual
noncomputable def okE (sc : Scope) (ns : List Str) : PE → Expr → Bool
  | .int i, e => xCon e fun c => cInt c fun j => decide (j = i)
  | .str x, e => xCon e fun c => cStr c fun y => decide (y = x)
  | .tt b, e => xCon e fun c => cBol c fun d => decide (d = b)
  | .no, e => xCon e cNon
  | .var k, e => xNam e fun x => decide (ns[k]? = some x) && locOk sc x
  | .gint x i, e => xNam e fun y => decide (y = sLim) && decide (i = 4000) && glbOk sc y
  | .cls a v, e => xAtt e fun x b _ => xNam x fun c => decide (b = a) && decide (c = sWs) && glbOk sc c && decide (clsTab.lookup a = some v)
  | .bin o a b, e => xBin e fun l op r => decide (op = opOf o) && okE sc ns a l && okE sc ns b r
  | .binO o a b, e => xBin e fun l op r => decide (op = opOf o) && okE sc ns a l && okE sc ns b r
  | .cmp o a b, e => xC1 e fun l op r => decide (op = copOf o) && !(behindInMarks op r) && okE sc ns a l && okE sc ns b r
  | .bop k l, e => xBop e fun op vs => decide (op = if k then .And else .Or) && okL sc ns l vs
  | .nt a, e => xUn e fun o x => uNot o (okE sc ns a x)
  | .neg a, e => xUn e fun o x => uSub o (okE sc ns a x)
  | .ite c a b, e => xIf e fun t x y => okE sc ns c t && okE sc ns a x && okE sc ns b y
  | .cF f l, e => xCN e fun x as => decide (x = fnm f) && isPlainF f && glbOk sc x && okL sc ns l as
  | .cB b l, e => xCN e fun x as => decide (x = bnm b) && glbOk sc x && okL sc ns l as
  | .cM f o l, e => xCM e fun x m as => decide (m = fnm f) && isMeth f && decide (as.length < 30) && okE sc ns o x && okL sc ns l as
  | .mk a, e => xCN e fun x as => k1 as fun y => decide (x = sWs) && glbOk sc x && notStar y && okE sc ns a y
  | .cI _ l, e => xCN e fun x as => decide (x = sInner) && locOk sc x && decide (sc.names.lookup x ≠ some .local) && okL sc ns l as
  | .fld a k, e => xAtt e fun x m _ => decide (fldN[k]? = some m) && noSuper x && okE sc ns a x
  | .sub o i, e => xSub e fun x y => notSl y && okE sc ns o x && okE sc ns i y
  | .sl o l u st, e => xSub e fun x y => xSli y fun a b c => okE sc ns o x && (match a with | some e => okE sc ns l e | none => isNo l) && (match b with | some e => okE sc ns u e | none => isNo u) && (match c with | some e => okE sc ns st e | none => isNo st)
  | .ls l, e => xLst e fun es => okL sc ns l es
  | .lsO l, e => xLst e fun es => okL sc ns l es
  | .tp l, e => xTup e fun es => okL sc ns l es
  | .lc elt x src c cap, e => xLC e fun e1 g scope => gen1 g fun y iter ifs => decide (ns[x]? = some y) && notSet iter && compOk scope sc y && capOk ns scope x cap && okI sc ns src iter &&
        (match ifs with | [] => isTT c | [t] => okE (relabelS scope sc) ns c t | _ => false) && okE (relabelS scope sc) ns elt e1
  | .bl a, e => xCM e fun x m as => k0 as (decide (m = sBl) && okE sc ns a x)
  | .join a b, e => xCM e fun x m as => k1 as fun y => decide (m = sJoin) && notStar y && okE sc ns a x && okE sc ns b y
  | .din a, e => xC1 e fun l op r => decide (op = .In) && xNam r fun x => decide (x = sTok) && glbOk sc x && okE sc ns a l
  | .dget a, e => xSub e fun t y => xNam t fun x => decide (x = sTok) && glbOk sc x && notSl y && okE sc ns a y
termination_by structural p => p
noncomputable def okL (sc : Scope) (ns : List Str) : PL → List Expr → Bool
  | .nil, es => k0 es true
  | .cons p l, es => kC es fun e es => notStar e && okE sc ns p e && okL sc ns l es
termination_by structural p => p
noncomputable def okI (sc : Scope) (ns : List Str) : PI → Expr → Bool
  | .rng1 a, e => xCN e fun x as => k1 as fun y => decide (x = sRange) && glbOk sc x && notStar y && okE sc ns a y
  | .rng2 a b, e => xCN e fun x as => kC as fun y as => k1 as fun z => decide (x = sRange) && glbOk sc x && notStar y && notStar z && okE sc ns a y && okE sc ns b z
  | .rev a, e => xCN e fun x as => k1 as fun y => decide (x = sRev) && glbOk sc x && notStar y && okE sc ns a y
  | .it a, e => okE sc ns a e
termination_by structural p => p
end
noncomputable def okO (sc : Scope) (ns : List Str) (p : PE) (o : Option Expr) : Bool := match o with
  | some e => okE sc ns p e
  | none => isNo p
end Mine
end
section
open PySem PySem.W PyProof.Rows PySem.Calls
namespace Mine

structure Fx (W : Wo) where
  prog : Program
  K : Frag
  X : K.In W.B
  mg : Str → Option Value
  mb : Str → Option Value
  g : W.B.Ns mainGlobals mg
  b : W.B.Ns builtinsNs mb
  lim : W.B.NoLimit
  fa : Fn → Addr
  nf : ∀ f, isPlainF f = true → mg (fnm f) = some (.ref (fa f)) ∧ keepIn K (.ref (fa f)) = true
  mf : ∀ f, isMeth f = true → findIn K (.ref W.C) (fnm f) = some (some (.ref (fa f))) ∧ typeIn K (.ref (fa f)) = some (.type "function") ∧ keepIn K (.ref (fa f)) = true
  nC : mg sWs = some (.ref W.C) ∧ keepIn K (.ref W.C) = true
  pg : findIn K (.ref W.C) "__getattribute__" = some (some (.builtin "object.__getattribute__")) ∧ findIn K (.ref W.C) "__getattr__" = some none
  fl : hasDictIn K W.C = true ∧ ∀ x ∈ fldN, findIn K (.ref W.C) x = some none
  sa : findIn K (.ref W.C) "__setattr__" = some (some (.builtin "object.__setattr__")) ∧ plainOver K W.C = true ∧ ∀ x ∈ fldN, takerIn K W.C x = some none
  mc : Value
  cr : readsIn K W.C mc = true
  cv : ∀ a v, clsTab.lookup a = some v → ∃ t, findCls K (.ref W.C) mc a = some (.val (.str v t))
  TT : Addr
  es : Array DictEntry
  ep : Nat
  nT : mg sTok = some (.ref TT)
  tt : K.lookup TT = some ⟨.type "dict", none, .dict es ep, #[]⟩ ∧ KeysLit W.w.params es.toList ∧ (TT == sysModules) = false
  tv : ∀ x, ∃ r, nsIn K TT x = some r ∧ (match tokOf x with | some i => ∃ t, r = some (.int i t) | none => r = none)
  nL : ∃ t, mg sLim = some (.int 4000 t)
  nB : ∀ b, mg (bnm b) = none ∧ mb (bnm b) = some (bltV b)
  nR : mg sRange = none ∧ mb sRange = some (.type "range") ∧ mg sRev = none ∧ mb sRev = some (.type "reversed")

noncomputable abbrev a0 : Nat → Addr := fun _ => 0
noncomputable def EfC (W : Wo) (P : PM) (h : Heap) (P' : PM) (h' : Heap) : Prop := Eff W (fun _ => False) P a0 [] h P' a0 [] h'

noncomputable def GoodF {W : Wo} (X : Fx W) (n : Nat) (f : Fn) (vs : List V) (v : V) : Prop :=
  ∀ (A : Around) (P : PM) (s : Shared) (vals : List Value) (R : Result → Shared → Prop), AOK n A → Sto W P a0 [] s.heap → RVs W P a0 0 vals vs →
    (∀ r h' tk P', EfC W P s.heap P' h' → RV W P' a0 0 r v → R (.ok (.ret r)) { s with heap := h', toks := tk }) →
    codeAny (model X.prog W.w) A (.call (.ref (X.fa f)) ⟨vals, []⟩) R s
noncomputable def GoodK {W : Wo} (X : Fx W) (n : Nat) (vs : List V) (v : V) : Prop :=
  ∀ (A : Around) (P : PM) (s : Shared) (vals : List Value) (R : Result → Shared → Prop), AOK n A → Sto W P a0 [] s.heap → RVs W P a0 0 vals vs →
    (∀ r h' tk P', EfC W P s.heap P' h' → RV W P' a0 0 r v → R (.ok (.ret r)) { s with heap := h', toks := tk }) →
    codeAny (model X.prog W.w) A (.call (.ref W.C) ⟨vals, []⟩) R s
structure SemOK {W : Wo} (X : Fx W) (n : Nat) (S : Sem) : Prop where
  fn : ∀ f vs v, (isPlainF f || isMeth f) = true → S.Φ f vs = some v → GoodF X n f vs v
  make : ∀ vs v, S.Φ .init vs = some v → GoodK X n vs v
noncomputable def PsiOK {W : Wo} (X : Fx W) (n : Nat) (Ψ : List V → Sg → Option (V × Sg)) (I : Inn) : Prop :=
  ∀ (A : Around) (P : PM) (ad : Nat → Addr) (σ : Sg) (s : Shared) (vals : List Value) (vs : List V) (v : V) (σ' : Sg) (R : Result → Shared → Prop), AOK n A → Sto W P ad σ s.heap → InnOK W I P ad σ s.heap → RVs W P ad σ.length vals vs →
    Ψ vs σ = some (v, σ') → (∀ r h' tk P' ad', Eff W (fun _ => False) P ad σ s.heap P' ad' σ' h' → RV W P' ad' σ'.length r v → R (.ok (.ret r)) { s with heap := h', toks := tk }) →
    codeAny (model X.prog W.w) A (.call (.ref I.a) ⟨vals, []⟩) R s

noncomputable def HPsi {W : Wo} (X : Fx W) (n : Nat) (S : Sem) (io : Option Inn) : Prop := match io with
  | some I => PsiOK X n S.Ψ I
  | none => ∀ vs σ, S.Ψ vs σ = none

structure At (W : Wo) (n : Nat) (io : Option Inn) (ns : List Str) (act : List Nat) (sc : Scope) (A : Around) (env : Env) (P : PM) (ad : Nat → Addr) (σ : Sg) (en : En) (h : Heap) : Prop where
  sto : Sto W P ad σ h
  fra : Fra W io ns act env P ad σ en h
  sc : env.scope = sc
  aok : AOK n A

section
variable {W : Wo} {n : Nat} {io : Option Inn} {ns : List Str} {act : List Nat} {sc : Scope} {A : Around} {env : Env} {P : PM} {ad : Nat → Addr} {σ : Sg} {en : En} {h : Heap}
theorem At.cx (a : At W n io ns act sc A env P ad σ en h) : Cx W env.locals P ad σ h := ⟨a.sto, a.fra.lo, let ⟨m, hm, _⟩ := a.fra.slot; ⟨m, hm⟩, a.fra.big⟩
theorem At.efe (a : At W n io ns act sc A env P ad σ en h) {P' ad' σ' h'} (f : EfE W env.locals P ad σ h P' ad' σ' h') : At W n io ns act sc A env P' ad' σ' en h' := ⟨f.eff.sto, a.fra.efe f, a.sc, a.aok⟩

noncomputable def KontE (W : Wo) (L : Addr) (P : PM) (ad : Nat → Addr) (σ : Sg) (s : Shared) (σ' : Sg) (V : V) (Q : Value → Shared → Prop) : Prop :=
  ∀ v h' tk P' ad', EfE W L P ad σ s.heap P' ad' σ' h' → RV W P' ad' σ'.length v V → Q v { s with heap := h', toks := tk }
noncomputable def KontL (W : Wo) (L : Addr) (P : PM) (ad : Nat → Addr) (σ : Sg) (s : Shared) (σ' : Sg) (Vs : List V) (Q : List Value → Shared → Prop) : Prop :=
  ∀ vs h' tk P' ad', EfE W L P ad σ s.heap P' ad' σ' h' → RVs W P' ad' σ'.length vs Vs → Q vs { s with heap := h', toks := tk }
noncomputable def KontB (W : Wo) (L : Addr) (P : PM) (ad : Nat → Addr) (σ : Sg) (s : Shared) (σ' : Sg) (b : Bool) (Q : Bool → Shared → Prop) : Prop :=
  ∀ h' tk P' ad', EfE W L P ad σ s.heap P' ad' σ' h' → Q b { s with heap := h', toks := tk }

noncomputable def SE {W : Wo} (X : Fx W) (n : Nat) (S : Sem) (pe : PE) : Prop :=
  ∀ (e : Expr) (io : Option Inn) (ns : List Str) (act : List Nat) (sc : Scope) (A : Around) (env : Env) (P : PM) (ad : Nat → Addr) (σ : Sg) (en : En) (s : Shared) (V : V) (σ' : Sg) (E : Value → Shared → Prop) (Q : Value → Shared → Prop),
    HPsi X n S io → okE sc ns pe e = true → At W n io ns act sc A env P ad σ en s.heap → evE S en pe σ = some (V, σ') → KontE W env.locals P ad σ s σ' V Q →
    wpAny (model X.prog W.w) A (eval e env) Q E s
noncomputable def ST {W : Wo} (X : Fx W) (n : Nat) (S : Sem) (pe : PE) : Prop :=
  ∀ (e : Expr) (io : Option Inn) (ns : List Str) (act : List Nat) (sc : Scope) (A : Around) (env : Env) (P : PM) (ad : Nat → Addr) (σ : Sg) (en : En) (s : Shared) (V : V) (σ' : Sg) (b : Bool) (E : Value → Shared → Prop) (Q : Bool → Shared → Prop),
    HPsi X n S io → okE sc ns pe e = true → At W n io ns act sc A env P ad σ en s.heap → evE S en pe σ = some (V, σ') → truV σ' V = some b → KontB W env.locals P ad σ s σ' b Q →
    wpAny (model X.prog W.w) A (isTrue e env (eval e env)) Q E s
noncomputable def SL {W : Wo} (X : Fx W) (n : Nat) (S : Sem) (pl : PL) : Prop :=
  ∀ (es : List Expr) (pos : Pos) (io : Option Inn) (ns : List Str) (act : List Nat) (sc : Scope) (A : Around) (env : Env) (P : PM) (ad : Nat → Addr) (σ : Sg) (en : En) (s : Shared) (Vs : List V) (σ' : Sg) (E : Value → Shared → Prop) (Q : List Value → Shared → Prop),
    HPsi X n S io → okL sc ns pl es = true → At W n io ns act sc A env P ad σ en s.heap → evL S en pl σ = some (Vs, σ') → KontL W env.locals P ad σ s σ' Vs Q →
    wpAny (model X.prog W.w) A (spliced (backTo pos (starEach es env))) Q E s
noncomputable def SBv {W : Wo} (X : Fx W) (n : Nat) (S : Sem) (pl : PL) : Prop :=
  ∀ (k : Bool) (es : List Expr) (pos : Pos) (io : Option Inn) (ns : List Str) (act : List Nat) (sc : Scope) (A : Around) (env : Env) (P : PM) (ad : Nat → Addr) (σ : Sg) (en : En) (s : Shared) (V : V) (σ' : Sg) (E : Value → Shared → Prop),
    HPsi X n S io → okL sc ns pl es = true → At W n io ns act sc A env P ad σ en s.heap → evB S en k pl σ = some (V, σ') →
    (∀ Q, KontE W env.locals P ad σ s σ' V Q → wpAny (model X.prog W.w) A (boolOp pos (if k then .And else .Or) (evalEach es env)) Q E s) ∧
    (∀ b Q, truV σ' V = some b → KontB W env.locals P ad σ s σ' b Q → wpAny (model X.prog W.w) A (allTrue (if k then .And else .Or) es env) Q E s)
noncomputable def SI {W : Wo} (X : Fx W) (n : Nat) (S : Sem) (pe : PI) : Prop :=
  ∀ (e : Expr) (io : Option Inn) (ns : List Str) (act : List Nat) (sc : Scope) (A : Around) (env : Env) (P : PM) (ad : Nat → Addr) (σ : Sg) (en : En) (s : Shared) (its : List PyData) (σ' : Sg) (E : Value → Shared → Prop) (Q : Value → Shared → Prop),
    HPsi X n S io → okI sc ns pe e = true → At W n io ns act sc A env P ad σ en s.heap → evI S en pe σ = some (its, σ') →
    (∀ I h₁ tk P' ad' h', EfE W env.locals P ad σ s.heap P' ad' σ' h₁ → h₁.get? I = none → (∀ b o, h₁.get? b = some o → h'.get? b = some o) → Itr W X.prog A P' its I h' → Q (.ref I) { s with heap := h', toks := tk }) →
    wpAny (model X.prog W.w) A (eval e env) (fun x s₁ => wpAny (model X.prog W.w) A (pyIter x) Q E s₁) E s

variable {L : Addr} {s : Shared} {σ' : Sg} {Q : Value → Shared → Prop} {z : PyData} {zs : List PyData} {V' : V}
theorem KontE.next (k : KontE W L P ad σ s σ' V' Q) {P₁ ad₁ σ₁ h₁ tk₁} (f : EfE W L P ad σ s.heap P₁ ad₁ σ₁ h₁) : KontE W L P₁ ad₁ σ₁ { s with heap := h₁, toks := tk₁ } σ' V' Q :=
  fun v h' tk P' ad' f' r => k v h' tk P' ad' (f.trans f') r
theorem KontL.next {Vs : List V} {Q : List Value → Shared → Prop} (k : KontL W L P ad σ s σ' Vs Q) {P₁ ad₁ σ₁ h₁ tk₁} (f : EfE W L P ad σ s.heap P₁ ad₁ σ₁ h₁) : KontL W L P₁ ad₁ σ₁ { s with heap := h₁, toks := tk₁ } σ' Vs Q :=
  fun v h' tk P' ad' f' r => k v h' tk P' ad' (f.trans f') r
theorem KontB.next {b : Bool} {Q : Bool → Shared → Prop} (k : KontB W L P ad σ s σ' b Q) {P₁ ad₁ σ₁ h₁ tk₁} (f : EfE W L P ad σ s.heap P₁ ad₁ σ₁ h₁) : KontB W L P₁ ad₁ σ₁ { s with heap := h₁, toks := tk₁ } σ' b Q :=
  fun h' tk P' ad' f' => k h' tk P' ad' (f.trans f')
theorem KontE.then (k : KontE W L P ad σ s σ (.d z) Q) : Then W L P ad σ s z Q := fun r h' tk P' f hr => k r h' tk P' ad f (.d hr)
theorem KontE.thenO (k : KontE W L P ad σ s (σ ++ [.l zs]) (.own σ.length) Q) : ThenO W L P ad σ s zs Q := fun a h' tk f => by
  have := k (.ref a) h' tk P _ f (by simpa using RV.own (W := W) (P := P) (ad := fun j => if j = σ.length then a else ad j) (n := (σ ++ [O.l zs]).length) (j := σ.length) (by simp))
  exact this
theorem KontE.here (C : Cx W L P ad σ s.heap) (k : KontE W L P ad σ s σ V' Q) {v : Value} {tk : Nat} (r : RV W P ad σ.length v V') : Q v { s with toks := tk } := k v s.heap tk P ad (.refl C.sto) r

theorem EfE.call (C : Cx W L P ad σ h) {P' h'} (f : EfC W P h P' h') : EfE W L P ad σ h P' ad σ h' := by
  have S' := f.sto
  have kp : ∀ b o, b ∉ W.ts → h.get? b = some o → h'.get? b = some o := fun b o hb e => f.keep b o (fun q => q) hb (fun j hj => absurd rfl hj) e
  have lv : ∀ j, sget σ j ≠ .x → ∀ o, h.get? (ad j) = some o → h'.get? (ad j) = some o := fun j hj o e => kp _ _ (C.sto.out j hj).2 e
  have nw : ∀ b, P' b ≠ none → P b ≠ none ∨ h.get? b = none := fun b e => by
    rcases f.newP b e with q | q | ⟨j, hj, _⟩
    · exact .inl q
    · exact .inr q
    · exact absurd rfl hj
  exact {
    eff := {
      le := f.le
      keep := fun b o _ hb _ e => kp b o hb e
      stay := f.stay
      adk := fun _ _ => rfl
      len := Nat.le_refl _
      lv := fun _ _ e => e
      newP := fun b e => (nw b e).imp id .inl
      newA := fun j hj e => absurd (sget_lt e) (Nat.not_lt.mpr hj)
      sto := {
        base := S'.base
        sub := S'.sub
        tab := S'.tab
        ls := fun j xs e => let ⟨vs, n, h1, h4⟩ := C.sto.ls j xs e; ⟨vs, n, lv j (by rw [e]; exact nofun) _ h1, h4.le f.le⟩
        is := fun j fs e => let ⟨od, h1, h2⟩ := C.sto.is j fs e; ⟨od, lv j (by rw [e]; exact nofun) _ h1, h2.le f.le⟩
        out := fun j e => by
          refine ⟨?_, (C.sto.out j e).2⟩
          cases q : P' (ad j) with
          | none => rfl
          | some o =>
            rcases nw (ad j) (by rw [q]; exact nofun) with x | x
            · exact absurd (C.sto.out j e).1 x
            · obtain ⟨o', e'⟩ := C.sto.live e; rw [e'] at x; cases x
        inj := C.sto.inj } }
    ns := fun m ⟨o, es, ep, e, r⟩ => ⟨o, es, ep, kp _ _ C.lo.t e, r⟩ }

theorem EfE.inner (C : Cx W L P ad σ h) {P' ad' σ' h'} (f : Eff W (fun _ => False) P ad σ h P' ad' σ' h') : EfE W L P ad σ h P' ad' σ' h' where
  eff := { f with keep := fun b o _ h1 h2 e => f.keep b o (fun q => q) h1 h2 e }
  ns := fun m ⟨o, es, ep, e, r⟩ => ⟨o, es, ep, f.keep _ _ (fun q => q) C.lo.t C.lo.o e, r⟩

noncomputable def shut : V → Bool | .d _ => true | .ws _ => true | _ => false
theorem RV.shut {v : Value} {x : V} (r : RV W P ad n v x) (e : shut x = true) (ad' : Nat → Addr) (n' : Nat) : RV W P ad' n' v x := by
  cases r with
  | d r => exact .d r
  | ws a b c => exact .ws a b c
  | own => cases e
  | ins => cases e
theorem RVs.shut {v : List Value} {x : List V} (r : RVs W P ad n v x) : x.all Mine.shut = true → ∀ (ad' : Nat → Addr) (n' : Nat), RVs W P ad' n' v x := by
  induction r with
  | nil => exact fun _ _ _ => .nil
  | cons a _ ih => exact fun e ad' n' => .cons (a.shut (Bool.and_eq_true_iff.mp e).1 ad' n') (ih (Bool.and_eq_true_iff.mp e).2 ad' n')
theorem RV.zero {v : Value} {x : V} (r : RV W P ad 0 v x) (ad' : Nat → Addr) (n' : Nat) : RV W P ad' n' v x := by
  cases r with
  | d r => exact .d r
  | ws a b c => exact .ws a b c
  | own h => exact absurd h (Nat.not_lt_zero _)
  | ins h => exact absurd h (Nat.not_lt_zero _)

theorem frz_ok (C : Cx W L P ad σ h) {v : Value} {x x' : V} {σ' : Sg} (r : RV W P ad σ.length v x) (e : frz σ x = some (x', σ')) :
    ∃ P', EfE W L P ad σ h P' ad σ' h ∧ RV W P' ad σ'.length v x' ∧ shut x' = true := by
  cases r with
  | d r => cases e; exact ⟨P, .refl C.sto, .d r, rfl⟩
  | ws a b c => cases e; exact ⟨P, .refl C.sto, .ws a b c, rfl⟩
  | @own j hj =>
    have e : (match sget σ j with | .l xs => some (V.d (.list xs), sput σ j .x) | _ => none) = some (x', σ') := e
    cases hx : sget σ j with
    | l xs =>
      rw [hx] at e
      cases e
      obtain ⟨P', f, r⟩ := EfE.frz C hx
      exact ⟨P', f, .d r, rfl⟩
    | _ => rw [hx] at e; cases e
  | ins => cases e
theorem frzL_ok {vs : List Value} {xs xs' : List V} {P : PM} {σ σ' : Sg} (C : Cx W L P ad σ h) (r : RVs W P ad σ.length vs xs) (e : frzL σ xs = some (xs', σ')) :
    ∃ P', EfE W L P ad σ h P' ad σ' h ∧ RVs W P' ad σ'.length vs xs' ∧ xs'.all shut = true := by
  induction xs generalizing vs xs' P σ with
  | nil => cases r; cases e; exact ⟨P, .refl C.sto, .nil, rfl⟩
  | cons x xs ih =>
    cases r with
    | cons a b =>
    refine b0e e fun q e1 e => b0e e fun q' e2 e => ?_
    cases e
    obtain ⟨P₁, f₁, r₁, s₁⟩ := frz_ok C a e1
    obtain ⟨P₂, f₂, r₂, s₂⟩ := ih (C.efe f₁) (b.mono f₁.eff.le f₁.eff.adk f₁.eff.len) e2
    exact ⟨P₂, f₁.trans f₂, .cons (r₁.mono f₂.eff.le f₂.eff.adk f₂.eff.len) r₂, by rw [List.all_cons, s₁, s₂]; rfl⟩
theorem datL_ok {vs : List Value} {xs : List V} (r : RVs W P ad n vs xs) : ∀ {ds : List PyData}, datL xs = some ds → RdL P vs ds := by
  induction r with
  | nil => intro ds e; cases e; exact .nil
  | cons a _ ih =>
    intro ds e
    cases a with
    | d r =>
      obtain ⟨l, e1, rfl⟩ := Option.map_eq_some_iff.mp e
      exact .cons r (ih e1)
    | _ => cases e
theorem mapM_dat (S : Sto W P ad σ h) {vs : List Value} {xs : List V} (r : RVs W P ad σ.length vs xs) : ∀ {ds : List PyData}, xs.mapM (dat σ) = some ds → Lies W P h vs ds := by
  induction r with
  | nil => intro ds e; cases e; exact .nil
  | cons a _ ih =>
    intro ds e
    rw [List.mapM_cons] at e
    refine b0e e fun d e1 e => b0e e fun l e2 e => ?_
    cases e
    exact .cons (a.lie S e1) (ih e2)
end
end Mine
end
section
open PySem PySem.W PyProof.Rows PySem.Calls
namespace Mine
variable {W : Wo} {X : Fx W} {n : Nat} {S : Sem} {P : PM} {ad : Nat → Addr} {σ : Sg} {h : Heap} {v : Value} {V' : V} {x : PyData}
theorem RV.ofD (r : RV W P ad n v V') (e : vd V' = some x) : Rd P v x := by
  cases r <;> first | (cases e; assumption) | exact nomatch e
@[elab_as_elim] theorem Rd.ofI (r : Rd P v x) {i : Int} {C : Value → Prop} (e : dInt x = some i) (k : ∀ t, C (.int i t)) : C v := by
  cases r <;> first | (cases e; exact k _) | exact nomatch e
@[elab_as_elim] theorem Rd.ofS (r : Rd P v x) {i : Str} {C : Value → Prop} (e : dStr x = some i) (k : ∀ t, C (.str i t)) : C v := by
  cases r <;> first | (cases e; exact k _) | exact nomatch e
theorem Rd.ofL (r : Rd P v x) {xs : List PyData} (e : dLst x = some xs) : Rd P v (.list xs) := dLst_i e ▸ r
@[elab_as_elim] theorem Lie.rdl {xs : List PyData} (r : Rd P v (.list xs)) {C : Value → Prop} (k : ∀ a o vs m, P a = some o → o.cls = .type "list" → o.data = .seq vs m → RdL P vs.toList xs → C (.ref a)) : C v := by
  cases r with | list h1 h2 h3 h4 => exact k _ _ _ _ h1 h2 h3 h4

section
variable {L : Addr} {s : Shared} {σ₁ σ' : Sg} {V₁ : V} {Q : Value → Shared → Prop}
theorem KontE.to (k : KontE W L P ad σ s σ' V' Q) (e : some (V₁, σ₁) = some (V', σ')) : KontE W L P ad σ s σ₁ V₁ Q := by cases e; exact k
end
section
variable {e : Expr} {io : Option Inn} {ns : List Str} {act : List Nat} {sc : Scope} {A : Around} {env : Env} {en : En} {s : Shared} {E : Value → Shared → Prop} {β : Type} {r : β}
theorem SE.use {p : PE} (ha : SE X n S p) {Q : Value → Shared → Prop} {f : V → Sg → Option β} (hi : HPsi X n S io) (at_ : At W n io ns act sc A env P ad σ en s.heap) (ho : okE sc ns p e = true) (he : b2 (evE S en p σ) f = some r)
    (k : ∀ V σ', f V σ' = some r → ∀ v h' tk P' ad', EfE W env.locals P ad σ s.heap P' ad' σ' h' → At W n io ns act sc A env P' ad' σ' en h' → RV W P' ad' σ'.length v V → Q v { s with heap := h', toks := tk }) :
    wpAny (model X.prog W.w) A (eval e env) Q E s :=
  b2e he fun V σ' e1 e2 => ha e io ns act sc A env P ad σ en s V σ' E Q hi ho at_ e1 fun v h' tk P' ad' f' r' => k V σ' e2 v h' tk P' ad' f' (at_.efe f') r'
theorem ST.use {p : PE} (ha : ST X n S p) {Q : Bool → Shared → Prop} {f : Sg → Bool → Option β} (hi : HPsi X n S io) (at_ : At W n io ns act sc A env P ad σ en s.heap) (ho : okE sc ns p e = true) (he : b2 (evE S en p σ) (fun v σ => b1 (truV σ v) (f σ)) = some r)
    (k : ∀ σ' b, f σ' b = some r → ∀ h' tk P' ad', EfE W env.locals P ad σ s.heap P' ad' σ' h' → At W n io ns act sc A env P' ad' σ' en h' → Q b { s with heap := h', toks := tk }) :
    wpAny (model X.prog W.w) A (isTrue e env (eval e env)) Q E s :=
  b2e he fun V σ' e1 e2 => b1e e2 fun b e3 e4 => ha e io ns act sc A env P ad σ en s V σ' b E Q hi ho at_ e1 e3 fun h' tk P' ad' f' => k σ' b e4 h' tk P' ad' f' (at_.efe f')
theorem SL.use {p : PL} (ha : SL X n S p) {es : List Expr} {pos : Pos} {Q : List Value → Shared → Prop} {f : List V → Sg → Option β} (hi : HPsi X n S io) (at_ : At W n io ns act sc A env P ad σ en s.heap) (ho : okL sc ns p es = true) (he : b2 (evL S en p σ) f = some r)
    (k : ∀ V σ', f V σ' = some r → ∀ v h' tk P' ad', EfE W env.locals P ad σ s.heap P' ad' σ' h' → At W n io ns act sc A env P' ad' σ' en h' → RVs W P' ad' σ'.length v V → Q v { s with heap := h', toks := tk }) :
    wpAny (model X.prog W.w) A (spliced (backTo pos (starEach es env))) Q E s :=
  b2e he fun V σ' e1 e2 => ha es pos io ns act sc A env P ad σ en s V σ' E Q hi ho at_ e1 fun v h' tk P' ad' f' r' => k V σ' e2 v h' tk P' ad' f' (at_.efe f') r'
theorem two_use {a b : PE} (ha : SE X n S a) (hb : SE X n S b) {e' : Expr} {K : Value → Value → Shared → Prop} {f : PyData × PyData → Sg → Option β} (hi : HPsi X n S io) (at_ : At W n io ns act sc A env P ad σ en s.heap) (ho : okE sc ns a e = true) (ho' : okE sc ns b e' = true)
    (he : b2 (two (evE S en a σ) fun σ => evE S en b σ) f = some r)
    (k : ∀ x y σ', f (x, y) σ' = some r → ∀ v u h' tk P' ad', EfE W env.locals P ad σ s.heap P' ad' σ' h' → At W n io ns act sc A env P' ad' σ' en h' → Lie W P' h' v x → Lie W P' h' u y → K v u { s with heap := h', toks := tk }) :
    wpAny (model X.prog W.w) A (eval e env) (fun v s₁ => wpAny (model X.prog W.w) A (eval e' env) (fun u s₂ => K v u s₂) E s₁) E s :=
  b2e he fun p σ' e1 e2 => ha.use hi at_ ho e1 fun V₁ σ₁ e1 v₁ h₁ tk₁ P₁ ad₁ f₁ at1 r₁ => hb.use hi at1 ho' e1 fun V₂ σ₂ e1 v₂ h₂ tk₂ P₂ ad₂ f₂ at2 r₂ =>
    b1e e1 fun x e3 e1 => b1e e1 fun y e4 e1 => by
      cases e1
      exact k x y _ e2 v₁ v₂ h₂ tk₂ P₂ ad₂ (f₁.trans f₂) at2 ((r₁.mono f₂.eff.le f₂.eff.adk f₂.eff.len).lie at2.sto e3) (r₂.lie at2.sto e4)
theorem lsD_use {p : PL} (ha : SL X n S p) {es : List Expr} {pos : Pos} {Q : List Value → Shared → Prop} {f : List PyData → Sg → Option β} (hi : HPsi X n S io) (at_ : At W n io ns act sc A env P ad σ en s.heap) (ho : okL sc ns p es = true) (he : b2 (lsD (evL S en p σ)) f = some r)
    (k : ∀ xs σ', f xs σ' = some r → ∀ v h' tk P' ad', EfE W env.locals P ad σ s.heap P' ad' σ' h' → At W n io ns act sc A env P' ad' σ' en h' → RdL P' v xs → v.length ≤ sizeLine → Q v { s with heap := h', toks := tk }) :
    wpAny (model X.prog W.w) A (spliced (backTo pos (starEach es env))) Q E s :=
  b2e he fun xs σ' e1 e2 => ha.use hi at_ ho e1 fun V₁ σ₁ e1 v₁ h₁ tk₁ P₁ ad₁ f₁ at1 r₁ => b2e e1 fun vs σ₂ e3 e1 => b1e e1 fun ys e4 e1 => by
    obtain ⟨hl, e1⟩ := gde e1
    cases e1
    obtain ⟨P₂, f₂, r₂, _⟩ := frzL_ok at1.cx r₁ e3
    have rd := datL_ok r₂ e4
    exact k _ _ e2 v₁ h₁ tk₁ P₂ ad₁ (f₁.trans f₂) (at1.efe f₂) rd (by rw [rd.length]; exact Nat.le_trans hl (by decide))
end

variable (X) (n) (S)
theorem se_int (i : Int) : SE X n S (.int i) := fun e io ns act sc A env P ad σ en s V σ' E Q hi ho at_ he k =>
  xCon_e ho fun c p q ho => cInt_e ho fun j ho => by
    have k := k.to he
    rw [← deq ho] at k
    exact wpAny_Constant_int (k.here at_.cx (.d (.int _ _)))
theorem se_str (x : Str) : SE X n S (.str x) := fun e io ns act sc A env P ad σ en s V σ' E Q hi ho at_ he k =>
  xCon_e ho fun c p q ho => cStr_e ho fun j ho => by
    have k := k.to he
    rw [← deq ho] at k
    exact wpAny_Constant_str (k.here at_.cx (.d (.str _ _)))
theorem se_tt (b : Bool) : SE X n S (.tt b) := fun e io ns act sc A env P ad σ en s V σ' E Q hi ho at_ he k =>
  xCon_e ho fun c p q ho => cBol_e ho fun j ho => by
    have k := k.to he
    rw [← deq ho] at k
    exact wpAny_Constant_bool (k.here at_.cx (.d (.bool _)))
theorem se_no : SE X n S .no := fun e io ns act sc A env P ad σ en s V σ' E Q hi ho at_ he k =>
  xCon_e ho fun c p q ho => cNon_e ho (wpAny_Constant_none ((k.to he).here at_.cx (.d .none)))

theorem loc_load {io : Option Inn} {ns : List Str} {act : List Nat} {env : Env} {P : PM} {ad : Nat → Addr} {σ : Sg} {en : En} {s : Shared} {A : Around} {E : Value → Shared → Prop} {Q : Value → Shared → Prop} {k : Nat} {x : Str} {V : V}
    (F : Fra W io ns act env P ad σ en s.heap) (hx : ns[k]? = some x) (hl : locOk env.scope x = true) (he : eget en k = some V) (q : ∀ v, RV W P ad σ.length v V → Q v s) : wpAny (model X.prog W.w) A (loadName env x) Q E s := by
  obtain ⟨m, hm, hs⟩ := F.slot
  obtain ⟨y, v, h1, h2, h3⟩ := hs k V he
  rw [hx] at h1; cases h1
  rcases h3 with ⟨h3, h4⟩ | ⟨h3, c, h4, h5⟩
  · exact wpAny_loadName_local F.hk h3 hm h4 (q v h2)
  · unfold isCell at h3
    split at h3
    · rename_i hk; exact wpAny_loadName_cell F.hk hk h4 h5 (q v h2)
    · rename_i hk
      exact wpAny_loadName_free F.hk hk h4 h5 (q v h2) (by simpa using (and2 (and2 hl).1).2)
    · cases h3
theorem loc_debug {sc : Scope} {x : Str} (hl : locOk sc x = true) : (x == ("__debug__" : Str)) = false := by
  simpa using (and2 (and2 hl).1).1
theorem se_var (j : Nat) : SE X n S (.var j) := fun e io ns act sc A env P ad σ en s V σ' E Q hi ho at_ he k =>
  xNam_e ho fun x p ho => and2e ho fun h1 h2 => b1e ((e_var ..).symm.trans he) fun v hv he =>
    wpAny_Name (loc_load X at_.fra (deq h1) (at_.sc ▸ h2) hv fun u r => (k.to he).here (tk := s.toks) at_.cx r) (loc_debug h2)

theorem glb_load {io : Option Inn} {ns : List Str} {act : List Nat} {env : Env} {P : PM} {ad : Nat → Addr} {σ : Sg} {en : En} {s : Shared} {A : Around} {E : Value → Shared → Prop} {Q : Value → Shared → Prop} {x : Str} {pos : Pos} {v : Value}
    (F : Fra W io ns act env P ad σ en s.heap) (T : Sto W P ad σ s.heap) (hl : glbOk env.scope x = true) (hv : X.mg x = some v) (q : Q v s) : wpAny (model X.prog W.w) A (eval (.Name x pos) env) Q E s :=
  Name_function_global F.hk (deq (and2 hl).2) (loadGlobal_global (F.gl ▸ X.g.keeps fun b o e => T.sub _ _ (T.base _ _ e)) hv q) (by simpa using (and2 hl).1)
theorem glb_loadB {io : Option Inn} {ns : List Str} {act : List Nat} {env : Env} {P : PM} {ad : Nat → Addr} {σ : Sg} {en : En} {s : Shared} {A : Around} {E : Value → Shared → Prop} {Q : Value → Shared → Prop} {x : Str} {pos : Pos} {v : Value}
    (F : Fra W io ns act env P ad σ en s.heap) (T : Sto W P ad σ s.heap) (hl : glbOk env.scope x = true) (h0 : X.mg x = none) (hv : X.mb x = some v) (q : Q v s) : wpAny (model X.prog W.w) A (eval (.Name x pos) env) Q E s :=
  Name_function_global F.hk (deq (and2 hl).2) (loadGlobal_builtin (F.gl ▸ X.g.keeps fun b o e => T.sub _ _ (T.base _ _ e)) h0 (F.bl ▸ X.b.keeps fun b o e => T.sub _ _ (T.base _ _ e)) hv q) (by simpa using (and2 hl).1)
theorem kIn {P : PM} {ad : Nat → Addr} {σ : Sg} {h : Heap} (T : Sto W P ad σ h) : X.K.In h := X.X.keeps fun b o e => T.sub _ _ (T.base _ _ e)

theorem se_gint (x : Str) (i : Int) : SE X n S (.gint x i) := fun e io ns act sc A env P ad σ en s V σ' E Q hi ho at_ he k =>
  xNam_e ho fun x p ho => and3e ho fun h1 h2 h3 => by
    have k := k.to he
    rw [deq h2] at k
    obtain ⟨t, ht⟩ := X.nL
    exact glb_load X at_.fra at_.sto (at_.sc ▸ h3) ((congrArg X.mg (deq h1)).trans ht) (k.here (tk := s.toks) at_.cx (.d (.int _ _)))
theorem se_cls (a v : Str) : SE X n S (.cls a v) := fun e io ns act sc A env P ad σ en s V σ' E Q hi ho at_ he k =>
  xAtt_e ho fun x b q ho => xNam_e ho fun c p ho => and4e ho fun h1 h2 h3 h4 => by
    rw [deq h1]
    refine Attribute_name (glb_load X at_.fra at_.sto (at_.sc ▸ h3) ((congrArg X.mg (deq h2)).trans X.nC.1) ?_)
    obtain ⟨t, ht⟩ := X.cv _ _ (deq h4)
    exact cls_value (kIn X at_.sto) X.cr ht rfl ((k.to he).here at_.cx (.d (.str _ _)))

theorem se_bin (o : Bop) (a b : PE) (ha : SE X n S a) (hb : SE X n S b) : SE X n S (.bin o a b) := fun e io ns act sc A env P ad σ en s V σ' E Q hi ho at_ he k =>
  xBin_e ho fun l op r p ho => and3e ho fun h1 h2 h3 => wpAny_BinOp (two_use ha hb hi at_ h2 h3 ((e_bin ..).symm.trans he) fun x y σ₁ he v u h₁ tk₁ P₁ ad₁ f₁ at1 lx ly => b1e he fun z hz he =>
    op_bin (s := { s with heap := h₁, toks := tk₁ }) at1.cx (deq h1) lx ly hz (((k.to he).next f₁).then))
end Mine
end
section
open PySem PySem.W PyProof.Rows PySem.Calls
namespace Mine
variable {W : Wo} (X : Fx W) (n : Nat) (S : Sem)

theorem KontE.toO {L : Addr} {P : PM} {ad : Nat → Addr} {σ σ₁ σ' : Sg} {s : Shared} {V' : V} {Q : Value → Shared → Prop} {z : PyData} {zs : List PyData} (k : KontE W L P ad σ s σ' V' Q) (h : dLst z = some zs) (e : some (V.own σ₁.length, σ₁ ++ [O.l zs]) = some (V', σ')) :
    z = .list zs ∧ KontE W L P ad σ s (σ₁ ++ [O.l zs]) (.own σ₁.length) Q := ⟨dLst_i h, k.to e⟩
theorem se_binO (o : Bop) (a b : PE) (ha : SE X n S a) (hb : SE X n S b) : SE X n S (.binO o a b) := fun e io ns act sc A env P ad σ en s V σ' E Q hi ho at_ he k =>
  xBin_e ho fun l op r p ho => and3e ho fun h1 h2 h3 => wpAny_BinOp (two_use ha hb hi at_ h2 h3 ((e_binO ..).symm.trans he) fun x y σ₁ he v u h₁ tk₁ P₁ ad₁ f₁ at1 lx ly => b1e he fun z hz he => b1e he fun zs hzs he =>
    op_binO (s := { s with heap := h₁, toks := tk₁ }) at1.cx (deq h1) lx ly (hz.trans (congrArg some (dLst_i hzs))) (((k.to he).next f₁).thenO))

theorem se_cmp (o : Cop) (a b : PE) (ha : SE X n S a) (hb : SE X n S b) : SE X n S (.cmp o a b) := fun e io ns act sc A env P ad σ en s V σ' E Q hi ho at_ he k =>
  xC1_e ho fun l op r p ho => and4e ho fun h1 h2 h3 h4 => wpAny_Compare1 (two_use ha hb hi at_ h3 h4 ((e_cmp ..).symm.trans he) fun x y σ₁ he v u h₁ tk₁ P₁ ad₁ f₁ at1 lx ly => b1e he fun z hz he =>
    op_cmp (s := { s with heap := h₁, toks := tk₁ }) at1.cx at1.aok (deq h1) lx ly hz fun tk => k.to he _ h₁ tk P₁ ad₁ f₁ (.d (.bool _))) (by simpa using h2)
theorem KontB.to {L : Addr} {P : PM} {ad : Nat → Addr} {σ σ₁ σ' : Sg} {s : Shared} {V' : V} {Q : Bool → Shared → Prop} {b z : Bool} (k : KontB W L P ad σ s σ' b Q) (e : some (V.d (.bool z), σ₁) = some (V', σ')) (ht : truV σ' V' = some b) :
    KontB W L P ad σ s σ₁ z Q := by cases e; cases ht; exact k
theorem st_cmp (o : Cop) (a b : PE) (ha : SE X n S a) (hb : SE X n S b) : ST X n S (.cmp o a b) := fun e io ns act sc A env P ad σ en s V σ' t E Q hi ho at_ he ht k =>
  xC1_e ho fun l op r p ho => and4e ho fun h1 h2 h3 h4 => wpAny_isTrue_Compare1 (two_use ha hb hi at_ h3 h4 ((e_cmp ..).symm.trans he) fun x y σ₁ he v u h₁ tk₁ P₁ ad₁ f₁ at1 lx ly => b1e he fun z hz he =>
    op_cmp (s := { s with heap := h₁, toks := tk₁ }) at1.cx at1.aok (deq h1) lx ly hz fun tk => wpAny_truthy_bool (k.to he ht h₁ tk P₁ ad₁ f₁)) (by simpa using h2)

theorem At.truthy {io : Option Inn} {ns : List Str} {act : List Nat} {sc : Scope} {A : Around} {env : Env} {P : PM} {ad : Nat → Addr} {σ : Sg} {en : En} {s : Shared} (at_ : At W n io ns act sc A env P ad σ en s.heap) {v : Value} {V : V} {b : Bool} {E : Value → Shared → Prop} {Q : Bool → Shared → Prop}
    (r : RV W P ad σ.length v V) (ht : truV σ V = some b) (k : ∀ tk, Q b { s with toks := tk }) : wpAny (model X.prog W.w) A (truthy v) Q E s :=
  b0e ht fun d hd ht => op_truthy at_.cx (r.lie at_.sto hd) ht k
theorem st_any (pe : PE) (hp : SE X n S pe) (hv : ∀ sc ns e env whole, okE sc ns pe e = true → isTrue e env whole = (do let v ← whole; standAt e.pos; holding [v] (truthy v))) : ST X n S pe :=
  fun e io ns act sc A env P ad σ en s V σ' t E Q hi ho at_ he ht k =>
  wpAny_isTrue_value (hp e io ns act sc A env P ad σ en s V σ' E _ hi ho at_ he fun v h' tk P' ad' f r =>
    At.truthy X n (s := { s with heap := h', toks := tk }) (at_.efe f) r ht fun tk' => k h' tk' P' ad' f) (hv _ _ _ _ _ ho)

theorem se_nt (a : PE) (ha : SE X n S a) : SE X n S (.nt a) := fun e io ns act sc A env P ad σ en s V σ' E Q hi ho at_ he k =>
  xUn_e ho fun o x p ho => uNot_e ho fun ho => wpAny_UnaryOp (ha.use hi at_ ho ((e_nt ..).symm.trans he) fun V₁ σ₁ he v₁ h₁ tk₁ P₁ ad₁ f₁ at1 r₁ => PyProof.Rows.not_of (b1e he fun b hb he =>
    At.truthy X n (s := { s with heap := h₁, toks := tk₁ }) at1 r₁ hb fun tk' => k.to he _ h₁ tk' P₁ ad₁ f₁ (.d (.bool _))))
theorem st_nt (a : PE) (ha : ST X n S a) : ST X n S (.nt a) := fun e io ns act sc A env P ad σ en s V σ' t E Q hi ho at_ he ht k =>
  xUn_e ho fun o x p ho => uNot_e ho fun ho => wpAny_isTrue_Not (ha.use hi at_ ho ((e_nt ..).symm.trans he) fun σ₁ b he h₁ tk₁ P₁ ad₁ f₁ at1 => k.to he ht h₁ tk₁ P₁ ad₁ f₁)
theorem se_neg (a : PE) (ha : SE X n S a) : SE X n S (.neg a) := fun e io ns act sc A env P ad σ en s V σ' E Q hi ho at_ he k =>
  xUn_e ho fun o x p ho => uSub_e ho fun ho => wpAny_UnaryOp (ha.use hi at_ ho ((e_neg ..).symm.trans he) fun V₁ σ₁ he v₁ h₁ tk₁ P₁ ad₁ f₁ at1 r₁ => b1e he fun x hx he => b1e he fun i hi he =>
    (r₁.ofD hx).ofI hi fun t => PyProof.Rows.neg_int (k.to he _ h₁ _ P₁ ad₁ f₁ (.d (.int _ _))))

theorem se_ite (c a b : PE) (hc : ST X n S c) (ha : SE X n S a) (hb : SE X n S b) : SE X n S (.ite c a b) := fun e io ns act sc A env P ad σ en s V σ' E Q hi ho at_ he k =>
  xIf_e ho fun t x y p ho => and3e ho fun h1 h2 h3 => wpAny_IfExp (hc.use hi at_ h1 ((e_ite ..).symm.trans he) fun σ₁ t he h₁ tk₁ P₁ ad₁ f₁ at1 => by
    cases t with
    | true => exact ha _ io ns act sc A env P₁ ad₁ σ₁ en _ V σ' E Q hi h2 at1 he (k.next f₁)
    | false => exact hb _ io ns act sc A env P₁ ad₁ σ₁ en _ V σ' E Q hi h3 at1 he (k.next f₁))
theorem st_ite (c a b : PE) (hc : ST X n S c) (ha : ST X n S a) (hb : ST X n S b) : ST X n S (.ite c a b) := fun e io ns act sc A env P ad σ en s V σ' t E Q hi ho at_ he hT k =>
  xIf_e ho fun t x y p ho => and3e ho fun h1 h2 h3 => PyProof.Rows.isTrue_IfExp (hc.use hi at_ h1 ((e_ite ..).symm.trans he) fun σ₁ t he h₁ tk₁ P₁ ad₁ f₁ at1 => by
    cases t with
    | true => exact ha _ io ns act sc A env P₁ ad₁ σ₁ en _ V σ' _ E Q hi h2 at1 he hT (k.next f₁)
    | false => exact hb _ io ns act sc A env P₁ ad₁ σ₁ en _ V σ' _ E Q hi h3 at1 he hT (k.next f₁))

theorem starEach_cons {e : Expr} (h : notStar e = true) (rest : List Expr) (env : Env) : starEach (e :: rest) env = (false, eval e env) :: starEach rest env := by
  cases e <;> first | rfl | cases h
theorem KontL.to {L : Addr} {P : PM} {ad : Nat → Addr} {σ σ₁ σ' : Sg} {s : Shared} {V₁ V' : List V} {Q : List Value → Shared → Prop} (k : KontL W L P ad σ s σ' V' Q) (e : some (V₁, σ₁) = some (V', σ')) : KontL W L P ad σ s σ₁ V₁ Q := by cases e; exact k
theorem sl_nil : SL X n S .nil := fun es pos io ns act sc A env P ad σ en s Vs σ' E Q hi ho at_ he k =>
  k0_e ho fun _ => args_nil (k.to he [] s.heap s.toks P ad (.refl at_.sto) .nil)
theorem sl_cons (p : PE) (l : PL) (hp : SE X n S p) (hl : SL X n S l) : SL X n S (.cons p l) := fun es pos io ns act sc A env P ad σ en s Vs σ' E Q hi ho at_ he k =>
  kC_e ho fun e es ho => and3e ho fun h1 h2 h3 => args_cons (hp.use hi at_ h2 ((l_cons ..).symm.trans he) fun V₁ σ₁ he v₁ h₁ tk₁ P₁ ad₁ f₁ at1 r₁ => hl.use hi at1 h3 he fun V₂ σ₂ he v₂ h₂ tk₂ P₂ ad₂ f₂ at2 r₂ =>
    k.to he (v₁ :: v₂) h₂ tk₂ P₂ ad₂ (f₁.trans f₂) (.cons (r₁.mono f₂.eff.le f₂.eff.adk f₂.eff.len) r₂)) (starEach_cons h1 _ _)

theorem plain_args {sc : Scope} {ns : List Str} {env : Env} {pos : Pos} : ∀ {l : PL} {es : List Expr}, okL sc ns l es = true → (backTo pos (starEach es env)).any (·.1) = false
  | .nil, _, h => k0_e (C := fun es => (backTo pos (starEach es env)).any (·.1) = false) h fun _ => rfl
  | .cons p l, _, h => kC_e (C := fun es => (backTo pos (starEach es env)).any (·.1) = false) h fun e es h => and3e h fun h1 h2 h3 => by
    rw [starEach_cons h1]
    exact plain_args h3

section
variable {X n S} {io : Option Inn} {ns : List Str} {act : List Nat} {sc : Scope} {A : Around} {env : Env} {P : PM} {ad : Nat → Addr} {σ : Sg} {en : En} {s : Shared} {E Q : Value → Shared → Prop} {β : Type} {r : β} {f : Value} {first : List Value} {pos : Pos}
theorem call_argsP {l : PL} (hl : SL X n S l) (Pd : Heap → Prop) (hf : ∀ h, Pd h → ∃ k, (k = Keeper.frame ∨ k = Keeper.machine ∨ k = Keeper.boundFrame) ∧ Looks (model X.prog W.w) h (keeperOf f) k)
    {es : List Expr} {g : List V → Sg → Option β} (hi : HPsi X n S io) (at_ : At W n io ns act sc A env P ad σ en s.heap) (ho : okL sc ns l es = true) (hPd : ∀ σ' P' ad' h', EfE W env.locals P ad σ s.heap P' ad' σ' h' → Pd h') (he : b2 (evL S en l σ) g = some r)
    (k : ∀ Vs σ', g Vs σ' = some r → ∀ us h' tk P' ad', EfE W env.locals P ad σ s.heap P' ad' σ' h' → At W n io ns act sc A env P' ad' σ' en h' → RVs W P' ad' σ'.length us Vs → wpAny (model X.prog W.w) A (call f (first ++ us) []) Q E { s with heap := h', toks := tk }) :
    wpAny (model X.prog W.w) A (callWith pos f first (backTo pos (starEach es env)) []) Q E s := by
  refine callWith_of (P := Pd) (by rw [plain_args ho]; rfl) hf ?_
  have main : wpAny (model X.prog W.w) A (spliced (backTo pos (starEach es env))) (fun vs s₁ => Pd s₁.heap ∧ wpAny (model X.prog W.w) A (call f (first ++ vs) []) Q E s₁) E s :=
    hl.use hi at_ ho he fun V σ' e v h' tk P' ad' f' at1 r' => ⟨hPd _ _ _ _ f', k V σ' e v h' tk P' ad' f' at1 r'⟩
  cases l with
  | nil =>
    revert main
    refine k0_e ho fun _ _ => ?_
    exact evalArgs_nil3 ⟨hPd _ _ _ _ (.refl at_.sto), k [] σ he [] s.heap s.toks P ad (.refl at_.sto) at_ .nil⟩
  | cons p l =>
    revert main
    refine kC_e ho fun e es ho => and3e ho fun h1 _ _ main => ?_
    rw [starEach_cons h1] at main ⊢
    exact evalArgs_plain main
theorem call_args {l : PL} (hl : SL X n S l) (hf : ∀ h, X.K.In h → ∃ k, (k = Keeper.frame ∨ k = Keeper.machine ∨ k = Keeper.boundFrame) ∧ Looks (model X.prog W.w) h (keeperOf f) k)
    {es : List Expr} {g : List V → Sg → Option β} (hi : HPsi X n S io) (at_ : At W n io ns act sc A env P ad σ en s.heap) (ho : okL sc ns l es = true) (he : b2 (evL S en l σ) g = some r)
    (k : ∀ Vs σ', g Vs σ' = some r → ∀ us h' tk P' ad', EfE W env.locals P ad σ s.heap P' ad' σ' h' → At W n io ns act sc A env P' ad' σ' en h' → RVs W P' ad' σ'.length us Vs → wpAny (model X.prog W.w) A (call f (first ++ us) []) Q E { s with heap := h', toks := tk }) :
    wpAny (model X.prog W.w) A (callWith pos f first (backTo pos (starEach es env)) []) Q E s :=
  call_argsP hl X.K.In hf hi at_ ho (fun _ _ _ _ fe => kIn X fe.eff.sto) he k
theorem call_arg0 (hf : ∀ h, X.K.In h → ∃ k, (k = Keeper.frame ∨ k = Keeper.machine ∨ k = Keeper.boundFrame) ∧ Looks (model X.prog W.w) h (keeperOf f) k)
    (hi : HPsi X n S io) (at_ : At W n io ns act sc A env P ad σ en s.heap) (k : wpAny (model X.prog W.w) A (call f (first ++ []) []) Q E s) :
    wpAny (model X.prog W.w) A (callWith pos f first (backTo pos (starEach [] env)) []) Q E s :=
  callWith_of (P := X.K.In) rfl hf (evalArgs_nil3 ⟨kIn X at_.sto, k⟩)
theorem okL1 {a : PE} {y : Expr} (h1 : notStar y = true) (h2 : okE sc ns a y = true) : okL sc ns (.cons a .nil) [y] = true := Bool.and_eq_true_iff.mpr ⟨Bool.and_eq_true_iff.mpr ⟨h1, h2⟩, rfl⟩
theorem call_arg1 {a : PE} (ha : SE X n S a) (hf : ∀ h, X.K.In h → ∃ k, (k = Keeper.frame ∨ k = Keeper.machine ∨ k = Keeper.boundFrame) ∧ Looks (model X.prog W.w) h (keeperOf f) k)
    {y : Expr} {g : V → Sg → Option β} (hi : HPsi X n S io) (at_ : At W n io ns act sc A env P ad σ en s.heap) (hst : notStar y = true) (ho : okE sc ns a y = true) (he : b2 (evE S en a σ) g = some r)
    (k : ∀ V σ', g V σ' = some r → ∀ u h' tk P' ad', EfE W env.locals P ad σ s.heap P' ad' σ' h' → At W n io ns act sc A env P' ad' σ' en h' → RV W P' ad' σ'.length u V → wpAny (model X.prog W.w) A (call f (first ++ [u]) []) Q E { s with heap := h', toks := tk }) :
    wpAny (model X.prog W.w) A (callWith pos f first (backTo pos (starEach [y] env)) []) Q E s :=
  b2e he fun V σ' e1 e2 => call_args (r := ([V], σ')) (g := fun vs τ => some (vs, τ)) (sl_cons X n S a .nil ha (sl_nil X n S)) hf hi at_ (okL1 hst ho) (by rw [l_cons, e1]; rfl) fun Vs σ'' e us h' tk P' ad' f' at' r' => by
    cases e
    cases r' with | cons r' r'' =>
    cases r''
    exact k V σ' e2 _ h' tk P' ad' f' at' r'
end

theorem keep_K {f : Value} (e : keepIn X.K f = true) : ∀ h, X.K.In h → ∃ k, (k = Keeper.frame ∨ k = Keeper.machine ∨ k = Keeper.boundFrame) ∧ Looks (model X.prog W.w) h (keeperOf f) k := fun h x => by
  obtain ⟨k, h1, h2⟩ := looks_keep (M := model X.prog W.w) e x
  exact ⟨k, h1.elim .inl fun q => .inr (.inl q), h2⟩
theorem keep_builtin (i : String) : ∀ h, X.K.In h → ∃ k, (k = Keeper.frame ∨ k = Keeper.machine ∨ k = Keeper.boundFrame) ∧ Looks (model X.prog W.w) h (keeperOf (.builtin i)) k := fun h _ => ⟨.machine, .inr (.inl rfl), .of_pure rfl⟩
theorem keep_type (i : String) : ∀ h, X.K.In h → ∃ k, (k = Keeper.frame ∨ k = Keeper.machine ∨ k = Keeper.boundFrame) ∧ Looks (model X.prog W.w) h (keeperOf (.type i)) k := fun h _ => ⟨.machine, .inr (.inl rfl), .of_pure rfl⟩

section
variable {X n S} {io : Option Inn} {ns : List Str} {act : List Nat} {sc : Scope} {A : Around} {env : Env} {P : PM} {ad : Nat → Addr} {σ : Sg} {en : En} {s : Shared} {E Q : Value → Shared → Prop}
theorem At.callF (hS : SemOK X n S) (at_ : At W n io ns act sc A env P ad σ en s.heap) {f : Fn} {vs : List V} {us : List Value} {v : V} (hf : (isPlainF f || isMeth f) = true) (hv : S.Φ f vs = some v) (r : RVs W P a0 0 us vs) (k : KontE W env.locals P ad σ s σ v Q) :
    wpAny (model X.prog W.w) A (call (.ref (X.fa f)) us []) Q E s :=
  wpAny_call (hS.fn f vs v hf hv A P s us _ at_.aok (at_.sto.nil a0) r fun r' h' tk P' fc rv => k r' h' tk P' ad (EfE.call at_.cx fc) (rv.zero _ _))
theorem At.callK (hS : SemOK X n S) (at_ : At W n io ns act sc A env P ad σ en s.heap) {vs : List V} {us : List Value} {v : V} (hv : S.Φ .init vs = some v) (r : RVs W P a0 0 us vs) (k : KontE W env.locals P ad σ s σ v Q) :
    wpAny (model X.prog W.w) A (call (.ref W.C) us []) Q E s :=
  wpAny_call (hS.make vs v hv A P s us _ at_.aok (at_.sto.nil a0) r fun r' h' tk P' fc rv => k r' h' tk P' ad (EfE.call at_.cx fc) (rv.zero _ _))
end

theorem se_cF (hS : SemOK X n S) (f : Fn) (l : PL) (hl : SL X n S l) : SE X n S (.cF f l) := fun e io ns act sc A env P ad σ en s V σ' E Q hi ho at_ he k =>
  xCN_e ho fun x q a as p ho => and4e ho fun h1 h2 h3 h4 => Call_ (glb_load X at_.fra at_.sto (at_.sc ▸ h3) ((congrArg X.mg (deq h1)).trans (X.nf f h2).1)
    (call_args hl (keep_K X (X.nf f h2).2) (first := []) hi at_ h4 ((e_cF ..).symm.trans he) fun vs σ₁ he us h₁ tk₁ P₁ ad₁ f₁ at1 r₁ => b2e he fun vs' σ₂ e2 he => b1e he fun v hv he => by
      obtain ⟨P₂, f₂, r₂, hs⟩ := frzL_ok at1.cx r₁ e2
      exact (at1.efe f₂).callF (s := { s with heap := h₁, toks := tk₁ }) hS (by rw [h2]; rfl) hv (r₂.shut hs a0 0) ((k.to he).next (f₁.trans f₂))))

theorem se_cB (b : Blt) (l : PL) (hl : SL X n S l) : SE X n S (.cB b l) := fun e io ns act sc A env P ad σ en s V σ' E Q hi ho at_ he k =>
  xCN_e ho fun x q a as p ho => and3e ho fun h1 h2 h3 => Call_ (glb_loadB X at_.fra at_.sto (at_.sc ▸ h2) ((congrArg X.mg (deq h1)).trans (X.nB b).1) ((congrArg X.mb (deq h1)).trans (X.nB b).2)
    (call_args hl (by cases b <;> first | exact keep_builtin X _ | exact keep_type X _) (first := []) hi at_ h3 ((e_cB ..).symm.trans he) fun vs σ₁ he us h₁ tk₁ P₁ ad₁ f₁ at1 r₁ => b1e he fun ds hd he => b1e he fun z hz he =>
      op_blt (s := { s with heap := h₁, toks := tk₁ }) at1.cx at1.aok (mapM_dat at1.sto r₁ hd) hz (((k.to he).next f₁).then)))

theorem se_mk (hS : SemOK X n S) (a : PE) (ha : SE X n S a) : SE X n S (.mk a) := fun e io ns act sc A env P ad σ en s V σ' E Q hi ho at_ he k =>
  xCN_e ho fun x q y ys p ho => k1_e ho fun y ho => and4e ho fun h1 h2 h3 h4 => Call_ (glb_load X at_.fra at_.sto (at_.sc ▸ h2) ((congrArg X.mg (deq h1)).trans X.nC.1)
    (call_arg1 ha (keep_K X X.nC.2) (first := []) hi at_ h3 h4 ((e_mk ..).symm.trans he) fun V₁ σ₁ he u h₁ tk₁ P₁ ad₁ f₁ at1 r₁ => b1e he fun d hd he => b1e he fun v hv he =>
      at1.callK (s := { s with heap := h₁, toks := tk₁ }) hS hv (.cons (.d (r₁.ofD hd)) .nil) ((k.to he).next f₁)))

theorem attr_base {x : Expr} {m : Str} {env : Env} {t : PySem.Sem Value} (h : noSuper x = true) : attributeBase x m env t = t := by
  cases x <;> first | rfl | skip
  rename_i f a k p
  cases f <;> first | rfl | skip
  cases a with
  | cons => rfl
  | nil => cases k with
    | cons => rfl
    | nil => exact ftE h
theorem meth_call {M : Model} {A : Around} {E : Value → Shared → Prop} {s : Shared} {env : Env} {o : Expr} {name : Str} {apos pos : Pos} {args : List Expr} {Q : Value → Shared → Prop} (h1 : noSuper o = true) (h2 : apos.endLine = pos.line) (h3 : args.length < 30)
    (h4 : (backTo pos (starEach args env)).any (·.1) = false)
    (h : wpAny M A (eval o env) (fun ov s₁ => ∀ pl, wpAny M A (getMethod ov name pl) (fun fx s₂ => wpAny M A (callWith pos fx.1 fx.2 (backTo pos (starEach args env)) []) Q E s₂) E s₁) E s) :
    wpAny M A (eval (.Call (.Attribute o name apos) args [] pos) env) Q E s := by
  rw [arm_eval_Call, attr_base h1]
  have hf : methodCallForm (args.length + ([] : List Keyword).length) (backTo pos (starEach args env)) (backToKw pos (keywordEach [] env)) = true := by
    unfold methodCallForm
    have q : (backTo pos (starEach args env)).all (!·.1) = true := by
      rw [List.all_eq_true]
      intro x hx
      have := List.any_eq_false.mp h4 x hx
      simpa using this
    rw [q]
    simp [show backToKw pos (keywordEach [] env) = [] from rfl, h3]
  refine wpAny_bind (wpAny_mono h (fun ov s₁ h₁ => wpAny_bind (wpAny_standAt ?_)) fun _ _ x => x)
  unfold methodCall
  rw [hf]
  refine wpAny_bind (wpAny_holding (wpAny_mono (h₁ _) (fun fx s₂ h₂ => ?_) fun _ _ x => x))
  have hp : methodCallPos true o env apos pos = pure pos := by
    unfold methodCallPos
    rw [if_pos (by simp [h2])]
  show wpAny M A (do let callPos ← methodCallPos true o env apos pos; callWith callPos fx.1 fx.2 (backTo pos (starEach args env)) (backToKw pos (keywordEach [] env))) Q E s₂
  rw [hp]
  exact wpAny_bind (wpAny_pure h₂)

theorem ws_inst {P : PM} {ad : Nat → Addr} {σ : Sg} {h : Heap} (T : Sto W P ad σ h) {a dx : Addr} {od : Obj} {fs : List PyData} (h1 : P a = some (instObj W.C dx)) (h2 : h.get? dx = some od) : InstAt h a (instObj W.C dx) W.C (some od) :=
  ⟨T.sub _ _ h1, rfl, rfl, h2⟩

theorem isStr_ne {x y : Str} {t : Tok} (h : x ≠ y) : (Value.str x t).isStr y = false := by simp [Value.isStr, h]
theorem isStr_eq {x : Str} {t : Tok} : (Value.str x t).isStr x = true := by simp [Value.isStr]

theorem distinct_ne {x : Str} {r : List Str} (h : distinct (x :: r) = true) : (∀ m, m ∈ r → x ≠ m) ∧ distinct r = true :=
  ⟨fun m hm q => by have := (and2 h).1; rw [q, List.contains_iff_mem.mpr hm] at this; exact ftE this, (and2 h).2⟩
theorem ents_get {hs : Str → Int} {P : PM} {m : Str} {x : PyData} {names : List Str} {es : List DictEntry} {fs : List PyData} (E : Ents hs P names es fs) : ∀ (k : Nat) (_ : distinct names = true) (_ : names[k]? = some m) (_ : fs[k]? = some x),
    ∃ v, es.find? (·.key.isStr m) = some v ∧ Rd P v.val x := by
  induction E with
  | nil => intro k _ _ h; cases h
  | cons a b ih =>
    intro k hd h1 h2
    cases k with
    | zero =>
      cases h1; cases h2
      exact ⟨_, by rw [List.find?_cons, isStr_eq], a⟩
    | succ k =>
      obtain ⟨v, q1, q2⟩ := ih k (distinct_ne hd).2 h1 h2
      exact ⟨v, by rw [List.find?_cons, isStr_ne ((distinct_ne hd).1 _ (List.mem_of_getElem? h1))]; exact q1, q2⟩
theorem ents_none {hs : Str → Int} {P : PM} {m : Str} {names : List Str} {es : List DictEntry} {fs : List PyData} (E : Ents hs P names es fs) : names.contains m = false → es.find? (·.key.isStr m) = none ∧ es.any (·.refKey) = false := by
  induction E with
  | nil => exact fun _ => ⟨rfl, rfl⟩
  | @cons y _ _ _ _ _ _ a b ih =>
    intro h
    rw [List.contains_cons, Bool.or_eq_false_iff] at h
    obtain ⟨q1, q2⟩ := ih h.2
    have hne : y ≠ m := fun q => by rw [q] at h; simp at h
    exact ⟨by rw [List.find?_cons, isStr_ne hne]; exact q1, by rw [List.any_cons, q2]; rfl⟩

theorem fld_get {A : Around} {E : Value → Shared → Prop} {P : PM} {ad : Nat → Addr} {σ : Sg} {s : Shared} {a dx : Addr} {od : Obj} {fs : List PyData} {m : Str} {k : Nat} {x : PyData} {Q : Value → Shared → Prop} (T : Sto W P ad σ s.heap)
    (h1 : P a = some (instObj W.C dx)) (h2 : s.heap.get? dx = some od) (hw : WsO W P od fs) (hm : fldN[k]? = some m) (hx : fs[k]? = some x) (q : ∀ v tk, Rd P v x → Q v { s with toks := tk }) :
    wpAny (model X.prog W.w) A (getAttr (.ref a) m true) Q E s := by
  obtain ⟨es, ep, rfl, he⟩ := hw
  obtain ⟨v, g1, g2⟩ := ents_get he k (by decide +kernel) hm hx
  have hI := ws_inst (fs := fs) T h1 h2
  have hl : getL m es = some (some v.val) := by unfold getL; rw [g1]
  refine get_value (kIn X T) hI X.pg.1 (findObj_own (attr := none) X.fl.1 (X.fl.2 m (List.mem_of_getElem? hm)) rfl hl) ?_ (q _ _ g2)
  have : ∀ u, Rd P u x → handedIn u = true := fun u r => by cases r <;> rfl
  exact this _ g2

theorem meth_notfld (f : Fn) (h : isMeth f = true) : fldN.contains (fnm f) = false := by
  cases f <;> first | exact absurd h (by decide) | decide +kernel

theorem RV.flds {P : PM} {ad : Nat → Addr} {σ : Sg} {h : Heap} (T : Sto W P ad σ h) {v : Value} {V : V} {fs : List PyData} (r : RV W P ad σ.length v V) (e : flds σ V = some fs) : ∃ a dx od, v = .ref a ∧ P a = some (instObj W.C dx) ∧ h.get? dx = some od ∧ WsO W P od fs := by
  cases r with
  | ws q1 q2 q3 => cases e; exact ⟨_, _, _, rfl, q1, T.sub _ _ q2, q3⟩
  | ins q1 q2 =>
    obtain ⟨od, g1, g2⟩ := T.is _ _ (oi_i e)
    exact ⟨_, _, _, rfl, q2, g1, g2⟩
  | _ => cases e
theorem se_fld (a : PE) (j : Nat) (ha : SE X n S a) : SE X n S (.fld a j) := fun e io ns act sc A env P ad σ en s V σ' E Q hi ho at_ he k =>
  xAtt_e ho fun x m p ho => and3e ho fun h1 h2 h3 => Attribute_any_ (ha.use hi at_ h3 ((e_fld ..).symm.trans he) fun V₁ σ₁ he v₁ h₁ tk₁ P₁ ad₁ f₁ at1 r₁ => b1e he fun fs hf he => b1e he fun d hd he => by
      obtain ⟨a, dx, od, rfl, g1, g2, g3⟩ := r₁.flds at1.sto hf
      exact fld_get X at1.sto g1 g2 g3 (deq h1) hd fun v tk r => k.to he v h₁ tk P₁ ad₁ f₁ (.d r))
    (by rw [arm_eval_Attribute, attr_base h2])

theorem se_cM (hS : SemOK X n S) (f : Fn) (o : PE) (l : PL) (hO : SE X n S o) (hl : SL X n S l) : SE X n S (.cM f o l) := fun e io ns act sc A env P ad σ en s V σ' E Q hi ho at_ he k =>
  xCM_e ho fun x m ap as p hs hp ho => and5e ho fun h1 h2 h3 h4 h5 => meth_call hs hp (of_decide_eq_true h3) (plain_args h5) (hO.use hi at_ h4 ((e_cM ..).symm.trans he) fun V₁ σ₁ he v₁ h₁ tk₁ P₁ ad₁ f₁ at1 r₁ pl => b1e he fun fs hf he => by
    rw [vw_i hf] at r₁
    obtain ⟨g1, g2, g3⟩ := X.mf f h2
    rw [deq h1]
    cases r₁ with
    | @ws a dx od _ q1 q2 q3 =>
      obtain ⟨es, ep, rfl, hE⟩ := q3
      obtain ⟨z1, z2⟩ := ents_none hE (meth_notfld f h2)
      have hnone : getL (fnm f) es = some none := by unfold getL; rw [z1]; simp [z2]
      refine method_fn (kIn X at1.sto) (ws_inst (fs := fs) at1.sto q1 (at1.sto.sub _ _ q2)) X.pg.1 X.pg.2 g1 g2 (by show (lookIn (fnm f) (dictOf es ep)).map _ = _; rw [lookIn_dict, hnone]; rfl) ?_
      refine call_args hl (keep_K X g3) (s := { s with heap := h₁, toks := tk₁ }) (first := [.ref a]) hi at1 h5 he fun vs σ₂ he us h₂ tk₂ P₂ ad₂ f₂ at2 r₂ => b2e he fun vs' σ₃ e3 he => b1e he fun v hv he => ?_
      obtain ⟨P₃, f₃, r₃, hs⟩ := frzL_ok at2.cx r₂ e3
      have f₂₃ := f₂.trans f₃
      exact (at2.efe f₃).callF (s := { s with heap := h₂, toks := tk₂ }) hS (by rw [h2, Bool.or_true]) hv (.cons (.ws (f₂₃.eff.le _ _ q1) (f₂₃.eff.le _ _ q2) (WsO.le f₂₃.eff.le ⟨es, ep, rfl, hE⟩)) (r₃.shut hs a0 0)) ((k.to he).next (f₁.trans f₂₃)))
end Mine
end
section
open PySem PySem.W PyProof.Rows PySem.Calls
namespace Mine
variable {W : Wo} (X : Fx W) (n : Nat) (S : Sem)

theorem se_sub (o i : PE) (hO : SE X n S o) (hI : SE X n S i) : SE X n S (.sub o i) := fun e io ns act sc A env P ad σ en s V σ' E Q hi ho at_ he k =>
  xSub_e ho fun x y p ho => and3e ho fun h1 h2 h3 => Subscript_ (two_use hO hI hi at_ h2 h3 ((e_sub ..).symm.trans he) fun dx dy σ₁ he v u h₁ tk₁ P₁ ad₁ f₁ at1 lx ly => b1e he fun z hz he =>
    op_sub (s := { s with heap := h₁, toks := tk₁ }) at1.cx h1 lx ly hz (((k.to he).next f₁).then))

section
variable {X n S} {io : Option Inn} {ns : List Str} {act : List Nat} {sc : Scope} {A : Around} {env : Env} {P : PM} {ad : Nat → Addr} {σ : Sg} {en : En} {s : Shared} {E Q : Value → Shared → Prop} {β : Type} {r : β}
theorem part_use {p : PE} (hp : SE X n S p) (e : Option Expr) {f : V → Sg → Option β} (hi : HPsi X n S io) (at_ : At W n io ns act sc A env P ad σ en s.heap) (ho : okO sc ns p e = true) (he : b2 (evE S en p σ) f = some r)
    (k : ∀ V σ', f V σ' = some r → ∀ v h' tk P' ad', EfE W env.locals P ad σ s.heap P' ad' σ' h' → At W n io ns act sc A env P' ad' σ' en h' → RV W P' ad' σ'.length v V → Q v { s with heap := h', toks := tk }) :
    wpAny (model X.prog W.w) A (evalPart e env) Q E s := by
  cases e with
  | some e => exact wpAny_evalPart_some (hp.use hi at_ ho he k)
  | none =>
    cases p <;> first | exact ftE ho | skip
    exact wpAny_evalPart_none (k _ _ he .none s.heap s.toks P ad (.refl at_.sto) at_ (.d .none))
theorem Rd.part {v : Value} {V : V} {a : Option Int} (r : RV W P ad n v V) (e : partV V = some a) : ∃ x, Rd P v x ∧ partOf x = some a := by
  cases r with
  | d r => exact ⟨_, r, e⟩
  | _ => cases e
end

theorem se_sl (o l u t : PE) (hO : SE X n S o) (hL : SE X n S l) (hU : SE X n S u) (hT : SE X n S t) : SE X n S (.sl o l u t) := fun e io ns act sc A env P ad σ en s V σ' E Q hi ho at_ he k =>
  xSub_e ho fun x y p ho => xSli_e ho fun a b c q ho => and4e ho fun h1 h2 h3 h4 => Subscript_ (hO.use hi at_ h1 ((e_sl ..).symm.trans he) fun V₁ σ₁ he v₁ h₁ tk₁ P₁ ad₁ f₁ at1 r₁ => wpAny_Slice
    (part_use hL a (s := { s with heap := h₁, toks := tk₁ }) hi at1 h2 he fun V₂ σ₂ he v₂ h₂ tk₂ P₂ ad₂ f₂ at2 r₂ => part_use hU b (s := { s with heap := h₂, toks := tk₂ }) hi at2 h3 he fun V₃ σ₃ he v₃ h₃ tk₃ P₃ ad₃ f₃ at3 r₃ =>
      part_use hT c (s := { s with heap := h₃, toks := tk₃ }) hi at3 h4 he fun V₄ σ₄ he v₄ h₄ tk₄ P₄ ad₄ f₄ at4 r₄ => b1e he fun dx hx he => b1e he fun pa ha he => b1e he fun pb hb he => b1e he fun pc hc he => b1e he fun z hz he => by
        have g₁ := (f₂.trans f₃).trans f₄
        obtain ⟨x2, r₂, e2⟩ := Rd.part r₂ ha
        obtain ⟨x3, r₃, e3⟩ := Rd.part r₃ hb
        obtain ⟨x4, r₄, e4⟩ := Rd.part r₄ hc
        exact op_sl (s := { s with heap := h₄, toks := tk₄ }) at4.cx rfl ((r₁.mono g₁.eff.le g₁.eff.adk g₁.eff.len).lie at4.sto hx) (r₂.le (f₃.eff.le.trans f₄.eff.le)) (r₃.le f₄.eff.le) r₄ e2 e3 e4 hz (((k.to he).next (f₁.trans g₁)).then)))

theorem se_ls (l : PL) (hl : SL X n S l) : SE X n S (.ls l) := fun e io ns act sc A env P ad σ en s V σ' E Q hi ho at_ he k =>
  xLst_e ho fun es p ho => List_ (lsD_use hl hi at_ ho ((e_ls ..).symm.trans he) fun xs σ₁ he us h₁ tk₁ P₁ ad₁ f₁ at1 rd hl => wpAny_newList
    ((((k.to he).next (tk₁ := tk₁) f₁).then).frz at1.cx _ _ tk₁ _ 0 (none_size _) (Heap.get?_push_size _ rfl) (.push _) rd) hl)
theorem se_lsO (l : PL) (hl : SL X n S l) : SE X n S (.lsO l) := fun e io ns act sc A env P ad σ en s V σ' E Q hi ho at_ he k =>
  xLst_e ho fun es p ho => List_ (lsD_use hl hi at_ ho ((e_lsO ..).symm.trans he) fun xs σ₁ he us h₁ tk₁ P₁ ad₁ f₁ at1 rd hl => wpAny_newList
    ((((k.to he).next (tk₁ := tk₁) f₁).thenO).own at1.cx _ _ tk₁ _ 0 (none_size _) (Heap.get?_push_size _ rfl) (.push _) rd) hl)
theorem se_tp (l : PL) (hl : SL X n S l) : SE X n S (.tp l) := fun e io ns act sc A env P ad σ en s V σ' E Q hi ho at_ he k =>
  xTup_e ho fun es c p ho => Tuple_ (lsD_use hl hi at_ ho ((e_tp ..).symm.trans he) fun xs σ₁ he us h₁ tk₁ P₁ ad₁ f₁ at1 rd hl => wpAny_newTuple
    ((((k.to he).next (tk₁ := tk₁) f₁).then).tup (tk := tk₁) at1.cx (none_size _) (Heap.get?_push_size _ rfl) (.push _) rfl rfl rd) hl)

theorem se_bl (a : PE) (ha : SE X n S a) : SE X n S (.bl a) := fun e io ns act sc A env P ad σ en s V σ' E Q hi ho at_ he k =>
  xCM_e ho fun x m ap as p hs hp ho => k0_e ho fun ho => and2e ho fun h1 h2 => meth_call hs hp (by decide) rfl (ha.use hi at_ h2 ((e_bl ..).symm.trans he) fun V₁ σ₁ he v₁ h₁ tk₁ P₁ ad₁ f₁ at1 r₁ pl => b1e he fun d hd he => b1e he fun i hii he => by
    rw [deq h1]
    refine (r₁.ofD hd).ofI hii fun t => ?_
    refine getMethod_int_bit_length (call_arg0 (keep_builtin X _) (first := [.int i t]) (s := { s with heap := h₁, toks := tk₁ }) hi at1 ?_)
    exact call_int_bit_length (k.to he _ h₁ _ P₁ ad₁ f₁ (.d (.int _ _))))

theorem strs_vals {P : PM} {vs : List Value} {ds : List PyData} (h : RdL P vs ds) : ∀ ts : List Str, strsOf ds = some ts → ∃ l : List (Str × Tok), vs = strValues l ∧ l.map (·.1) = ts :=
  h.ind (fun _ e => by cases e; exact ⟨[], rfl, rfl⟩) fun a _ ih ts e => by
    cases a with
    | str x t =>
      obtain ⟨r, h1, rfl⟩ := Option.map_eq_some_iff.mp e
      obtain ⟨l, q1, q2⟩ := ih _ h1
      exact ⟨(x, t) :: l, by rw [q1]; rfl, by rw [List.map_cons, q2]⟩
    | _ => cases e

theorem se_join (a b : PE) (ha : SE X n S a) (hb : SE X n S b) : SE X n S (.join a b) := fun e io ns act sc A env P ad σ en s V σ' E Q hi ho at_ he k =>
  xCM_e ho fun x m ap as p hs hp ho => k1_e ho fun y ho => and4e ho fun h1 h2 h3 h4 => meth_call hs hp (by show 1 < 30; decide) (by rw [starEach_cons h2]; rfl) (ha.use hi at_ h3 ((e_join ..).symm.trans he) fun V₁ σ₁ he v₁ h₁ tk₁ P₁ ad₁ f₁ at1 r₁ pl => b1e he fun d hd he => b1e he fun sep hsep he => by
    rw [deq h1]
    refine (r₁.ofD hd).ofS hsep fun t => ?_
    refine getMethod_builtin (typeIs_str _ _ _) F.plainAttrs_str F.slot_str_join F.type_str_join (fun a e => by cases e) ?_
    refine call_arg1 hb (keep_builtin X _) (first := [.str sep t]) (s := { s with heap := h₁, toks := tk₁ }) hi at1 h2 h4 he fun V₂ σ₂ he u h₂ tk₂ P₂ ad₂ f₂ at2 r₂ => b1e he fun d2 hd2 he => b1e he fun ys hys he => b1e he fun ts hts he => ?_
    obtain ⟨hj, he⟩ := gde he
    refine Lie.rdl ((r₂.ofD hd2).ofL hys) fun a o vs m q1 q2 q3 q4 => ?_
    obtain ⟨l, w1, w2⟩ := strs_vals q4 _ hts
    exact SC.join (s := { s with heap := h₂, toks := tk₂ }) (⟨o, at2.sto.sub _ _ q1, q2, m, by rw [q3, ← w1]⟩ : h₂.IsList a (strValues l).toArray) w2 hj fun t' k' => k.to (congrArg some he) _ h₂ k' P₂ ad₂ (f₁.trans f₂) (.d (.str _ _)))

theorem tok_map' {P : PM} {ad : Nat → Addr} {σ : Sg} {h : Heap} (T : Sto W P ad σ h) : h.MapOf (strKind X.prog W.w) X.TT (fun k => findBy Value.isStrOf X.es k) := mapOf_K (kIn X T) X.tt.1 X.tt.2.1
section
variable {X n S} {io : Option Inn} {ns : List Str} {act : List Nat} {sc : Scope} {A : Around} {env : Env} {P : PM} {ad : Nat → Addr} {σ : Sg} {en : En} {s : Shared} {E : Value → Shared → Prop} {β : Type} {r : β}
theorem din_use {a : PE} (ha : SE X n S a) {l : Expr} {x : Str} {p : Pos} {K : Value → Shared → Prop} {f : Bool → Sg → Option β} (hi : HPsi X n S io) (at_ : At W n io ns act sc A env P ad σ en s.heap) (h1 : x = sTok) (h2 : glbOk sc x = true) (h3 : okE sc ns a l = true)
    (he : b2 (evE S en a σ) (fun v σ => b1 (vd v) fun x => b1 (dStr x) fun x => f (tokOf x).isSome σ) = some r)
    (k : ∀ c σ', f c σ' = some r → ∀ h' tk P' ad', EfE W env.locals P ad σ s.heap P' ad' σ' h' → K (.bool c) { s with heap := h', toks := tk }) :
    wpAny (model X.prog W.w) A (eval l env) (fun x' s₁ => wpAny (model X.prog W.w) A (eval (.Name x p) env) (fun y s₂ => wpAny (model X.prog W.w) A (compareOp .In x' y) K E s₂) E s₁) E s :=
  ha.use hi at_ h3 he fun V₁ σ₁ he v₁ h₁ tk₁ P₁ ad₁ f₁ at1 r₁ => b1e he fun d hd he => b1e he fun t ht he => glb_load X at1.fra at1.sto (at1.sc ▸ h2) ((congrArg X.mg h1).trans X.nT) (by
    refine (r₁.ofD hd).ofS ht fun tk => ?_
    obtain ⟨r, hr, hv⟩ := X.tv t
    refine wpAny_in_of (s := { s with heap := h₁, toks := tk₁ }) (strKind_is X.prog W.w t tk) X.tt.2.2 (tok_map' X at1.sto) ?_
    rw [find_K X.tt.1 hr]
    have : r.isSome = (tokOf t).isSome := by
      cases q : tokOf t with
      | none => rw [q] at hv; rw [hv]; rfl
      | some i => rw [q] at hv; obtain ⟨t, rfl⟩ := hv; rfl
    rw [this]
    exact k _ _ he h₁ _ P₁ ad₁ f₁)
end
theorem se_din (a : PE) (ha : SE X n S a) : SE X n S (.din a) := fun e io ns act sc A env P ad σ en s V σ' E Q hi ho at_ he k =>
  xC1_e ho fun l op t p ho => and2e ho fun h0 ho => by
    rw [deq h0]
    refine xNam_e ho fun x q ho => and3e ho fun h1 h2 h3 => wpAny_Compare1 (din_use ha (f := fun b σ => some (Mine.V.d (.bool b), σ)) hi at_ (deq h1) h2 h3 ((e_din ..).symm.trans he) fun c σ₁ he h' tk P' ad' f => k.to he _ h' tk P' ad' f (.d (.bool _))) rfl
theorem st_din (a : PE) (ha : SE X n S a) : ST X n S (.din a) := fun e io ns act sc A env P ad σ en s V σ' t E Q hi ho at_ he ht k =>
  xC1_e ho fun l op t p ho => and2e ho fun h0 ho => by
    rw [deq h0]
    refine xNam_e ho fun x q ho => and3e ho fun h1 h2 h3 => wpAny_isTrue_Compare1 (din_use ha (f := fun b σ => some (Mine.V.d (.bool b), σ)) hi at_ (deq h1) h2 h3 ((e_din ..).symm.trans he) fun c σ₁ he h' tk P' ad' f => wpAny_truthy_bool (k.to he ht h' tk P' ad' f)) rfl

theorem se_dget (a : PE) (ha : SE X n S a) : SE X n S (.dget a) := fun e io ns act sc A env P ad σ en s V σ' E Q hi ho at_ he k =>
  xSub_e ho fun t y p ho => xNam_e ho fun x q ho => and4e ho fun h1 h2 h3 h4 => Subscript_ (glb_load X at_.fra at_.sto (at_.sc ▸ h2) ((congrArg X.mg (deq h1)).trans X.nT) (ha.use hi at_ h4 ((e_dget ..).symm.trans he) fun V₁ σ₁ he v₁ h₁ tk₁ P₁ ad₁ f₁ at1 r₁ => b1e he fun d hd he => b1e he fun z hz he => b1e he fun i hii he => by
    refine (r₁.ofD hd).ofS hz fun t => ?_
    obtain ⟨r, hr, hv⟩ := X.tv z
    rw [hii] at hv
    obtain ⟨t', rfl⟩ := hv
    have hm := tok_map' X at1.sto
    exact tail_any (s := { s with heap := h₁, toks := tk₁ }) hm.typeIs slot_dict_getitem.lookup (wpAny_getItem_of (s := { s with heap := h₁, toks := tk₁ }) (strKind_is X.prog W.w z t) hm (find_K X.tt.1 hr) (k.to he _ h₁ _ P₁ ad₁ f₁ (.d (.int _ _)))) (subscripted_not h3 _ _)))

theorem PsiOK.use {X : Fx W} {n : Nat} {Ψ : List V → Sg → Option (V × Sg)} {I : Inn} (K : PsiOK X n Ψ I) {A : Around} {P : PM} {ad : Nat → Addr} {σ : Sg} {s : Shared} {vals : List Value} {vs : List V} {v : V} {σ' : Sg} {R : Result → Shared → Prop}
    (h1 : AOK n A) (h2 : Sto W P ad σ s.heap) (h3 : InnOK W I P ad σ s.heap) (h4 : RVs W P ad σ.length vals vs) (h5 : Ψ vs σ = some (v, σ'))
    (h6 : ∀ r h' tk P' ad', Eff W (fun _ => False) P ad σ s.heap P' ad' σ' h' → RV W P' ad' σ'.length r v → R (.ok (.ret r)) { s with heap := h', toks := tk }) :
    codeAny (model X.prog W.w) A (.call (.ref I.a) ⟨vals, []⟩) R s := K A P ad σ s vals vs v σ' R h1 h2 h3 h4 h5 h6

theorem se_cI (j : Nat) (l : PL) (hl : SL X n S l) : SE X n S (.cI j l) := fun e io ns act sc A env P ad σ en s V σ' E Q hi ho at_ he k =>
  xCN_e ho fun x q a as p ho => and4e ho fun h1 h3 h4 h2 => by
    cases io with
    | none => exact b2e ((e_cI ..).symm.trans he) fun vs σ₁ e1 he => nomatch (hi vs σ₁).symm.trans he
    | some I =>
      have hd := loc_debug h3
      obtain ⟨K, g1, g2, g3⟩ := at_.fra.inn I rfl
      have h1 := deq h1
      subst h1
      have hc : isCell (env.kindOf sInner) = true := by
        have hn : sc.names.lookup sInner ≠ some .local := of_decide_eq_true h4
        have h3 := (and2 h3).2
        show isCell (env.scope.names.lookup sInner) = true
        rw [at_.sc]
        revert hn h3
        cases sc.names.lookup sInner with
        | none => exact fun _ h3 => ftE h3
        | some k => cases k <;> first | exact fun q => absurd rfl q | exact fun _ _ => rfl | exact fun _ h3 => ftE h3
      obtain ⟨c, hcl⟩ := at_.fra.cl _ hc
      have hca := g3 c hcl
      subst hca
      have ld : ∀ (Q : Value → Shared → Prop), Q (.ref I.a) s → wpAny (model X.prog W.w) A (loadName env sInner) Q E s := fun Q q => by
        unfold isCell at hc
        split at hc
        · rename_i hk; exact wpAny_loadName_cell at_.fra.hk hk hcl K.me.1 q
        · rename_i hk; exact wpAny_loadName_free at_.fra.hk hk hcl K.me.1 q (by decide +kernel)
        · cases hc
      refine Call_ (wpAny_Name (ld _ ?_) hd)
      refine call_argsP hl (FnAt I.a) (keeps_F) (first := []) (r := (V, σ')) hi at_ h2 (fun σ₂ P₂ ad₂ h₂ f₂ => ?_) ((e_cI ..).symm.trans he) fun vs σ₁ he us h₁ tk₁ P₁ ad₁ f₁ at1 r₁ => ?_
      · obtain ⟨oc, od, f, sl, _, _, _, _, hf, _⟩ := K.fd
        exact ⟨oc, od, f, sl, by rw [← hf]; exact f₂.eff.sto.sub _ _ (f₂.eff.le _ _ K.fn)⟩
      · exact wpAny_call (PsiOK.use (hi : PsiOK X n S.Ψ I) at1.aok at1.sto (at1.fra.inn I rfl).1 r₁ he fun r h' tk P' ad' fc rv => k r h' tk P' ad' (f₁.trans (EfE.inner at1.cx fc)) rv)
end Mine
end
section
open PySem PySem.W PyProof.Rows PySem.Calls
namespace Mine
variable {W : Wo} (X : Fx W) (n : Nat) (S : Sem)

theorem sbv_nil : SBv X n S .nil := fun k es pos io ns act sc A env P ad σ en s V σ' E hi ho at_ he => nomatch he

theorem bool_two {M : Model} {A : Around} {E : Value → Shared → Prop} {s : Shared} {pos : Pos} {op : BoolOp} {x y : PySem.Sem Value} {r : List (PySem.Sem Value)} {Q : Value → Shared → Prop}
    (h : wpAny M A x (fun v s₁ => wpAny M A (truthy v) (fun t s₂ => (match op, t with | .And, false => Q v s₂ | .Or, true => Q v s₂ | _, _ => wpAny M A (boolOp pos op (y :: r)) Q E s₂)) E s₁) E s) :
    wpAny M A (boolOp pos op (x :: y :: r)) Q E s := by
  show wpAny M A (do let v ← x; standAt pos; let t ← holding [v] (truthy v); match op, t with | .And, false | .Or, true => pure v | _, _ => boolOp pos op (y :: r)) Q E s
  refine wpAny_bind (wpAny_mono h (fun v s₁ h₁ => wpAny_bind (wpAny_standAt (wpAny_bind (wpAny_holding (wpAny_mono h₁ (fun t s₂ h₂ => ?_) fun _ _ x => x))))) fun _ _ x => x)
  cases op <;> cases t <;> first | exact wpAny_pure h₂ | exact h₂
noncomputable def opB (k : Bool) : BoolOp := if k then .And else .Or
theorem bool_two' {M : Model} {A : Around} {E : Value → Shared → Prop} {s : Shared} {pos : Pos} {k : Bool} {x y : PySem.Sem Value} {r : List (PySem.Sem Value)} {Q : Value → Shared → Prop}
    (h : wpAny M A x (fun v s₁ => wpAny M A (truthy v) (fun t s₂ => (t = k → wpAny M A (boolOp pos (if k then .And else .Or) (y :: r)) Q E s₂) ∧ (t = (!k) → Q v s₂)) E s₁) E s) :
    wpAny M A (boolOp pos (if k then .And else .Or) (x :: y :: r)) Q E s :=
  bool_two (wpAny_mono h (fun v s₁ h₁ => wpAny_mono h₁ (fun t s₂ h₂ => by cases k <;> cases t <;> first | exact h₂.1 rfl | exact h₂.2 rfl) fun _ _ x => x) fun _ _ x => x)
theorem all_two {M : Model} {A : Around} {E : Value → Shared → Prop} {s : Shared} {env : Env} {k : Bool} {e : Expr} {r : List Expr} {Q : Bool → Shared → Prop}
    (h : wpAny M A (isTrue e env (eval e env)) (fun t s₂ => (t = k → wpAny M A (allTrue (if k then .And else .Or) r env) Q E s₂) ∧ (t = (!k) → Q t s₂)) E s) :
    wpAny M A (allTrue (if k then .And else .Or) (e :: r) env) Q E s := by
  cases k with
  | true =>
    refine wpAny_allTrue_And_cons (wpAny_mono h (fun t s₂ h₂ => ?_) fun _ _ x => x)
    cases t with
    | true => exact h₂.1 rfl
    | false => exact h₂.2 rfl
  | false =>
    refine wpAny_allTrue_Or_cons (wpAny_mono h (fun t s₂ h₂ => ?_) fun _ _ x => x)
    cases t with
    | true => exact h₂.2 rfl
    | false => exact h₂.1 rfl
theorem allTrue_nil {M : Model} {A : Around} {E : Value → Shared → Prop} {s : Shared} {env : Env} {k : Bool} {Q : Bool → Shared → Prop} (h : Q k s) : wpAny M A (allTrue (if k then .And else .Or) [] env) Q E s := by
  cases k <;> exact wpAny_pure h
theorem bool_split {b k : Bool} : (b = k ∧ (b == k) = true) ∨ (b = (!k) ∧ (b == k) = false) := by cases b <;> cases k <;> first | exact .inl ⟨rfl, rfl⟩ | exact .inr ⟨rfl, rfl⟩
theorem bool_no {k : Bool} (h : k = (!k)) : False := by cases k <;> cases h

theorem okL_cons {sc : Scope} {ns : List Str} {p : PE} {l : PL} {es : List Expr} (h : okL sc ns (.cons p l) es = true) : ∃ e r, es = e :: r := kC_e (C := fun es => ∃ e r, es = e :: r) h fun e r _ => ⟨e, r, rfl⟩
theorem sbv_cons (p : PE) (l : PL) (hp : SE X n S p) (ht : ST X n S p) (hl : SBv X n S l) : SBv X n S (.cons p l) := fun k es pos io ns act sc A env P ad σ en s V σ' E hi ho at_ he =>
  kC_e ho fun e es ho => and3e ho fun h1 h2 h3 => b2e ((b_cons ..).symm.trans he) fun v σ₁ e1 he => by
    cases l with
    | nil =>
      have he : some (v, σ₁) = some (V, σ') := he
      cases he
      refine k0_e h3 fun _ => ⟨fun Q kq => hp _ io ns act sc A env P ad σ en s _ _ E Q hi h2 at_ e1 kq, fun b Q hb kq => ?_⟩
      refine all_two (ht _ io ns act sc A env P ad σ en s _ _ b E _ hi h2 at_ e1 hb fun h' tk P' ad' f => ⟨fun q => allTrue_nil ?_, fun _ => kq h' tk P' ad' f⟩)
      rw [← q]; exact kq h' tk P' ad' f
    | cons p2 l2 =>
      obtain ⟨e2, es2, rfl⟩ := okL_cons h3
      refine b1e he fun b hb he => ?_
      rcases bool_split (b := b) (k := k) with ⟨rfl, hk⟩ | ⟨hk', hk⟩
      · have he : evB S en b (.cons p2 l2) σ₁ = some (V, σ') := (if_pos hk).symm.trans he
        exact ⟨fun Q kq => bool_two' (hp _ io ns act sc A env P ad σ en s v σ₁ E _ hi h2 at_ e1 fun v₁ h₁ tk₁ P₁ ad₁ f₁ r₁ => At.truthy X n (s := { s with heap := h₁, toks := tk₁ }) (at_.efe f₁) r₁ hb fun tk =>
            ⟨fun _ => (hl b _ pos io ns act sc A env P₁ ad₁ σ₁ en { s with heap := h₁, toks := tk } V σ' E hi h3 (at_.efe f₁) he).1 Q (kq.next f₁), fun q => (bool_no q).elim⟩),
          fun c Q hc kq => all_two (ht _ io ns act sc A env P ad σ en s v σ₁ b E _ hi h2 at_ e1 hb fun h₁ tk₁ P₁ ad₁ f₁ =>
            ⟨fun _ => (hl b _ pos io ns act sc A env P₁ ad₁ σ₁ en { s with heap := h₁, toks := tk₁ } V σ' E hi h3 (at_.efe f₁) he).2 c Q hc (kq.next f₁), fun q => (bool_no q).elim⟩)⟩
      · have he : some (v, σ₁) = some (V, σ') := (if_neg (by rw [hk]; exact Bool.false_ne_true)).symm.trans he
        cases he
        refine ⟨fun Q kq => bool_two' (hp _ io ns act sc A env P ad σ en s _ _ E _ hi h2 at_ e1 fun v₁ h₁ tk₁ P₁ ad₁ f₁ r₁ => At.truthy X n (s := { s with heap := h₁, toks := tk₁ }) (at_.efe f₁) r₁ hb fun tk =>
            ⟨fun q => (bool_no (q.symm.trans hk')).elim, fun _ => kq v₁ h₁ tk P₁ ad₁ f₁ r₁⟩),
          fun c Q hc kq => ?_⟩
        rw [hb] at hc; cases hc
        exact all_two (ht _ io ns act sc A env P ad σ en s _ _ b E _ hi h2 at_ e1 hb fun h₁ tk₁ P₁ ad₁ f₁ => ⟨fun q => (bool_no (q.symm.trans hk')).elim, fun _ => kq h₁ tk₁ P₁ ad₁ f₁⟩)

theorem se_bop (k : Bool) (l : PL) (hl : SBv X n S l) : SE X n S (.bop k l) := fun e io ns act sc A env P ad σ en s V σ' E Q hi ho at_ he kq =>
  xBop_e ho fun o l p ho => and2e ho fun h1 h2 => deq h1 ▸ (hl k _ _ io ns act sc A env P ad σ en s V σ' E hi h2 at_ he).1 Q kq
theorem st_bop (k : Bool) (l : PL) (hl : SBv X n S l) : ST X n S (.bop k l) := fun e io ns act sc A env P ad σ en s V σ' b E Q hi ho at_ he hb kq =>
  xBop_e ho fun o l p ho => and2e ho fun h1 h2 => deq h1 ▸ wpAny_isTrue_BoolOp ((hl k _ default io ns act sc A env P ad σ en s V σ' E hi h2 at_ he).2 b Q hb kq)

theorem si_it (a : PE) (ha : SE X n S a) : SI X n S (.it a) := fun e io ns act sc A env P ad σ en s its σ' E Q hi ho at_ he k =>
  SE.use ha hi at_ ho ((i_it ..).symm.trans he) fun V₁ σ₁ he v₁ h₁ tk₁ P₁ ad₁ f₁ at1 r₁ => b1e he fun d hd he => b1e he fun its' hx he => by
    cases he
    exact itemsD_iter (s := { s with heap := h₁, toks := tk₁ }) (prog := X.prog) at1.cx at1.aok.h (r₁.ofD hd) hx fun I h' tk q1 q2 q3 => k I h₁ tk P₁ ad₁ h' f₁ q1 q2 q3
theorem si_rng1 (a : PE) (ha : SE X n S a) : SI X n S (.rng1 a) := fun e io ns act sc A env P ad σ en s its σ' E Q hi ho at_ he k =>
  xCN_e ((okI.eq_1 ..).symm.trans ho) fun x q y ys p ho => k1_e ho fun y ho => and4e ho fun h1 h2 h3 h4 => Call_ (glb_loadB X at_.fra at_.sto (at_.sc ▸ h2) ((congrArg X.mg (deq h1)).trans X.nR.1) ((congrArg X.mb (deq h1)).trans X.nR.2.1)
    (call_arg1 ha (keep_type X _) (first := []) hi at_ h3 h4 ((i_rng1 ..).symm.trans he) fun V₁ σ₁ he u h₁ tk₁ P₁ ad₁ f₁ at1 r₁ => b1e he fun d hd he => b1e he fun b hb he => by
      obtain ⟨g, he⟩ := gde he
      cases he
      exact (r₁.ofD hd).ofI hb fun t => op_rng1 (W := W) (L := env.locals) (P := P₁) (prog := X.prog) (s := { s with heap := h₁, toks := tk₁ }) at_.aok.h g.1 g.2 fun I h' tk q1 q2 q3 => k I h₁ tk P₁ ad₁ h' f₁ q1 q2 q3))
theorem okL2 {sc : Scope} {ns : List Str} {a b : PE} {y z : Expr} (h1 : notStar y = true) (h2 : okE sc ns a y = true) (h3 : notStar z = true) (h4 : okE sc ns b z = true) : okL sc ns (.cons a (.cons b .nil)) [y, z] = true :=
  Bool.and_eq_true_iff.mpr ⟨Bool.and_eq_true_iff.mpr ⟨h1, h2⟩, okL1 h3 h4⟩
theorem si_rng2 (a b : PE) (ha : SE X n S a) (hb : SE X n S b) : SI X n S (.rng2 a b) := fun e io ns act sc A env P ad σ en s its σ' E Q hi ho at_ he k =>
  xCN_e ((okI.eq_2 ..).symm.trans ho) fun x q y ys p ho => kC_e (l := y :: ys) ho fun y ys ho => k1_e ho fun z ho => and2e ho fun ho h6 => and5e ho fun h1 h2 h3 h4 h5 => b2e ((i_rng2 ..).symm.trans he) fun V₁ σ₁ e1 he => b1e he fun d hd he => b1e he fun i hii he => b2e he fun V₂ σ₂ e2 he => b1e he fun d' hd' he => b1e he fun j hj he => by
    obtain ⟨g, he⟩ := gde he
    cases he
    refine Call_ (glb_loadB X at_.fra at_.sto (at_.sc ▸ h2) ((congrArg X.mg (deq h1)).trans X.nR.1) ((congrArg X.mb (deq h1)).trans X.nR.2.1) ?_)
    refine call_args (r := ([V₁, V₂], σ')) (g := fun vs τ => some (vs, τ)) (sl_cons X n S a (.cons b .nil) ha (sl_cons X n S b .nil hb (sl_nil X n S))) (keep_type X _) (first := []) hi at_ (okL2 h3 h5 h4 h6)
      (by rw [l_cons, e1]; simp only [b2_some]; rw [l_cons, e2]; rfl) fun Vs σ'' e us h₁ tk₁ P₁ ad₁ f₁ at1 r₁ => ?_
    cases e
    cases r₁ with | cons r₁ r₂ =>
    cases r₂ with | cons r₂ r₃ =>
    cases r₃
    refine (r₁.ofD hd).ofI hii fun t => (r₂.ofD hd').ofI hj fun t' => ?_
    exact op_rng2 (W := W) (L := env.locals) (P := P₁) (prog := X.prog) (s := { s with heap := h₁, toks := tk₁ }) at_.aok.h g.1 g.2.1 g.2.2.1 g.2.2.2 fun I h' tk q1 q2 q3 => k I h₁ tk P₁ ad₁ h' f₁ q1 q2 q3
theorem si_rev (a : PE) (ha : SE X n S a) : SI X n S (.rev a) := fun e io ns act sc A env P ad σ en s its σ' E Q hi ho at_ he k =>
  xCN_e ((okI.eq_3 ..).symm.trans ho) fun x q y ys p ho => k1_e ho fun y ho => and4e ho fun h1 h2 h3 h4 => Call_ (glb_loadB X at_.fra at_.sto (at_.sc ▸ h2) ((congrArg X.mg (deq h1)).trans X.nR.2.2.1) ((congrArg X.mb (deq h1)).trans X.nR.2.2.2)
    (call_arg1 ha (keep_type X _) (first := []) hi at_ h3 h4 ((i_rev ..).symm.trans he) fun V₁ σ₁ he u h₁ tk₁ P₁ ad₁ f₁ at1 r₁ => b1e he fun d hd he => b1e he fun xs hxs he => by
      obtain ⟨g, he⟩ := gde he
      cases he
      exact op_rev (W := W) (prog := X.prog) (s := { s with heap := h₁, toks := tk₁ }) at1.cx at_.aok.h ((r₁.ofD hd).ofL hxs) fun I h' tk q1 q2 q3 => k I h₁ tk P₁ ad₁ h' f₁ q1 q2 q3))
end Mine
end
section
open PySem PySem.W PyProof.Rows PySem.Calls
namespace Mine

noncomputable def clo (env : Env) : List (Str × NameKind) → List (Str × Addr) → List (Str × Addr)
  | [], acc => acc
  | (x, k) :: r, acc => if (k == .free) = true then (match env.cells.lookup x with | some c => clo env r ((x, c) :: acc) | none => clo env r acc) else clo env r acc
theorem clo_cons (env : Env) (x : Str) (k : NameKind) (r : List (Str × NameKind)) (acc : List (Str × Addr)) : clo env ((x, k) :: r) acc = if (k == .free) = true then (match env.cells.lookup x with | some c => clo env r ((x, c) :: acc) | none => clo env r acc) else clo env r acc := rfl
theorem closure_eq (scope : Scope) (env : Env) (h : ∀ q ∈ scope.names, q.2 = .free → ∃ c, env.cells.lookup q.1 = some c) : closureFor scope env = pure (clo env scope.names []) := by
  unfold closureFor
  generalize scope.names = names at h
  have hh : ∀ (names : List (Str × NameKind)) (acc : List (Str × Addr)), (∀ q ∈ names, q.2 = .free → ∃ c, env.cells.lookup q.1 = some c) →
      (forIn names acc fun x r => (match x with | (name, kind) => if (kind == NameKind.free) = true then do let c ← cellOf env name; pure (ForInStep.yield ((name, c) :: r)) else pure (ForInStep.yield r) : PySem.Sem (ForInStep (List (Str × Addr))))) = (pure (clo env names acc) : PySem.Sem _) := by
    intro names
    induction names with
    | nil => intro acc _; rfl
    | cons q r ih =>
      intro acc h
      obtain ⟨x, k⟩ := q
      rw [List.forIn_cons]
      by_cases hk : (k == NameKind.free) = true
      · obtain ⟨c, hc⟩ := h (x, k) List.mem_cons_self (eq_of_beq hk)
        have hc : env.cells.lookup x = some c := hc
        simp only [hk, if_true]
        have : cellOf env x = pure c := by unfold cellOf; rw [hc]
        rw [this]
        simp only [pure_bind]
        rw [ih _ fun q hq => h q (List.mem_cons_of_mem _ hq)]
        rw [clo_cons, if_pos hk, hc]
      · simp only [hk, Bool.false_eq_true, if_false, pure_bind]
        rw [ih _ fun q hq => h q (List.mem_cons_of_mem _ hq)]
        rw [clo_cons, if_neg hk]
  have := hh names [] h
  dsimp only at this ⊢
  rw [this]
  rfl

theorem clo_mem {env : Env} : ∀ {names : List (Str × NameKind)} {acc : List (Str × Addr)} {q : Str × Addr}, q ∈ clo env names acc → q ∈ acc ∨ (env.cells.lookup q.1 = some q.2 ∧ (q.1, NameKind.free) ∈ names)
  | [], _, _, h => .inl h
  | (x, k) :: r, acc, q, h => by
    unfold clo at h
    split at h
    · rename_i hk
      have hk := eq_of_beq hk
      subst hk
      split at h
      · rename_i c hc
        rcases clo_mem h with h | ⟨h1, h2⟩
        · rcases List.mem_cons.mp h with rfl | h
          · exact .inr ⟨hc, .head _⟩
          · exact .inl h
        · exact .inr ⟨h1, .tail _ h2⟩
      · rcases clo_mem h with h | ⟨h1, h2⟩
        · exact .inl h
        · exact .inr ⟨h1, .tail _ h2⟩
    · rcases clo_mem h with h | ⟨h1, h2⟩
      · exact .inl h
      · exact .inr ⟨h1, .tail _ h2⟩
theorem clo_has {env : Env} : ∀ {names : List (Str × NameKind)} {acc : List (Str × Addr)} {x : Str} {c : Addr}, ((x, c) ∈ acc ∨ ((x, NameKind.free) ∈ names ∧ env.cells.lookup x = some c)) → (x, c) ∈ clo env names acc
  | [], _, _, _, h => by
    rcases h with h | ⟨h, _⟩
    · exact h
    · cases h
  | (y, k) :: r, acc, x, c, h => by
    unfold clo
    rcases h with h | ⟨h, hc⟩
    · split
      · split
        · exact clo_has (.inl (.tail _ h))
        · exact clo_has (.inl h)
      · exact clo_has (.inl h)
    · rcases List.mem_cons.mp h with e | h
      · cases e
        rw [if_pos (by rfl), hc]
        exact clo_has (.inl (.head _))
      · split
        · split
          · exact clo_has (.inr ⟨h, hc⟩)
          · exact clo_has (.inr ⟨h, hc⟩)
        · exact clo_has (.inr ⟨h, hc⟩)
theorem lookup_mem' {α : Type} : ∀ {l : List (Str × α)} {x : Str} {c : α}, l.lookup x = some c → (x, c) ∈ l
  | [], _, _, h => by cases h
  | (y, d) :: r, x, c, h => by
    rw [List.lookup_cons] at h
    split at h
    · rename_i e; cases h; rw [eq_of_beq e]; exact .head _
    · exact .tail _ (lookup_mem' h)
theorem mem_lookup' {α : Type} : ∀ {l : List (Str × α)} {x : Str} {c : α}, (x, c) ∈ l → ∃ d, l.lookup x = some d
  | (y, d) :: r, x, c, h => by
    rw [List.lookup_cons]
    split
    · exact ⟨d, rfl⟩
    · rename_i e
      rcases List.mem_cons.mp h with q | q
      · cases q; simp at e
      · exact mem_lookup' q
theorem clo_lookup {env : Env} {names : List (Str × NameKind)} {x : Str} {c : Addr} (h : (clo env names []).lookup x = some c) : env.cells.lookup x = some c ∧ (x, NameKind.free) ∈ names := by
  rcases clo_mem (lookup_mem' h) with h | h
  · cases h
  · exact h
theorem lookup_clo {env : Env} {names : List (Str × NameKind)} {x : Str} {c : Addr} (hm : (x, NameKind.free) ∈ names) (hc : env.cells.lookup x = some c) : (clo env names []).lookup x = some c := by
  obtain ⟨d, hd⟩ := mem_lookup' (clo_has (acc := []) (.inr ⟨hm, hc⟩))
  obtain ⟨h1, _⟩ := clo_lookup hd
  rw [hc] at h1; cases h1; exact hd

theorem eget_put_eq : ∀ {en : En} {k : Nat} {v : Option V} {w : V}, eget (eput en k v) k = some w → v = some w
  | [], _, _, _, h => by cases h
  | _ :: _, 0, v, w, h => by exact h
  | _ :: r, k + 1, v, w, h => eget_put_eq (en := r) h
theorem eget_put_ne : ∀ {en : En} {k j : Nat} {v : Option V}, j ≠ k → eget (eput en k v) j = eget en j
  | [], _, _, _, _ => rfl
  | _ :: _, 0, 0, _, h => absurd rfl h
  | _ :: _, 0, _ + 1, _, _ => rfl
  | _ :: _, _ + 1, 0, _, _ => rfl
  | _ :: r, k + 1, j + 1, v, h => eget_put_ne (en := r) fun e => h (by rw [e])
theorem eget_mask : ∀ {cap : List Nat} {m : Nat} {en : En} {k : Nat} {w : V}, eget (mask cap m en) k = some w → cap.contains (m + k) = true ∧ eget en k = some w ∧ shut w = true
  | _, _, [], _, _, h => by cases h
  | cap, m, a :: r, 0, w, h => by
    simp only [mask, eget] at h
    split at h
    · rename_i hc
      refine ⟨hc, ?_⟩
      show a = some w ∧ shut w = true
      cases a with
      | none => cases h
      | some v => cases v <;> first | (cases h; exact ⟨rfl, rfl⟩) | cases h
    · cases h
  | cap, m, a :: r, k + 1, w, h => by
    have := eget_mask (cap := cap) (m := m + 1) (en := r) h
    rw [show m + 1 + k = m + (k + 1) from by lia] at this
    exact this

theorem relabel_eq (scope : Scope) (env : Env) : relabel scope env = relabelS scope env.scope := rfl

theorem relabel_lookup {scope sc : Scope} {x : Str} : (relabelS scope sc).names.lookup x = (scope.names.lookup x).map fun k => if (k == .free && sc.kind == .function && sc.names.lookup x == some .cell) then .cell else k := by
  unfold relabelS
  dsimp only
  generalize scope.names = l
  induction l with
  | nil => rfl
  | cons q r ih =>
    obtain ⟨y, k⟩ := q
    rw [List.map_cons]
    have e : (if ((y, k).2 == NameKind.free && sc.kind == ScopeKind.function && sc.names.lookup (y, k).1 == some NameKind.cell) = true then ((y, k).1, NameKind.cell) else ((y, k).1, (y, k).2)) =
        (y, if (k == NameKind.free && sc.kind == ScopeKind.function && sc.names.lookup y == some NameKind.cell) = true then NameKind.cell else k) := by
      dsimp only; split <;> rfl
    rw [e, List.lookup_cons, List.lookup_cons]
    cases h : x == y with
    | true => rw [eq_of_beq h]; rfl
    | false => exact ih

variable {W : Wo} (X : Fx W) (n : Nat) (S : Sem)

theorem capNames_get {ns : List Str} : ∀ {l : List Nat} {names : List Str}, capNames ns l = some names → ∀ k ∈ l, ∃ x, ns[k]? = some x ∧ x ∈ names
  | [], _, _, _, h => by cases h
  | k :: r, names, h, j, hj => by
    unfold capNames at h
    split at h
    · rename_i x l e1 e2
      cases h
      rcases List.mem_cons.mp hj with rfl | hj
      · exact ⟨x, e1, .head _⟩
      · obtain ⟨y, h1, h2⟩ := capNames_get e2 j hj
        exact ⟨y, h1, .tail _ h2⟩
    · cases h

theorem comp_fra {io : Option Inn} {ns : List Str} {act : List Nat} {sc scope : Scope} {env : Env} {P : PM} {ad : Nat → Addr} {σ : Sg} {en : En} {h : Heap} {x : Nat} {y : Str} {cap : List Nat} {C : Addr} {m : Str → Option Value} {v : Value} {d : PyData}
    (F : Fra W io ns act env P ad σ en h) (hsc : env.scope = sc) (hC : h.Ns C m) (hv : m y = some v) (rd : Rd P v d) (aC : Aside W P a0 [] h C) (big : ∀ b o, W.B.get? b = some o → b < C)
    (hx : ns[x]? = some y) (hc : compOk scope sc y = true) (hcap : capOk ns scope x cap = true) (hCc : ∀ z c, env.cells.lookup z = some c → c ≠ C) (ad' : Nat → Addr) :
    Fra W none ns (x :: cap) (compEnvC scope (clo env scope.names []) C env) P ad' [] (eput (mask cap 0 en) x (some (.d d))) h := by
  unfold compOk at hc
  simp only [Bool.and_eq_true, decide_eq_true_eq] at hc
  obtain ⟨⟨⟨⟨hk, hk2⟩, hy⟩, hdb⟩, hall⟩ := hc
  have hall' := fun q hq => List.all_eq_true.mp hall q hq
  have capd : ∃ l, capNames ns cap = some l ∧ (l.contains y = false) ∧ ∀ z ∈ l, scope.names.lookup z = some .free := by
    unfold capOk at hcap
    split at hcap
    · rename_i y' l e
      unfold capNames at e
      split at e
      · rename_i x' l' e1 e2
        cases e
        rw [hx] at e1; cases e1
        obtain ⟨h1, h2⟩ := and2 hcap
        unfold distinct at h1
        exact ⟨l, e2, by simpa using (and2 h1).1, fun z hz => by simpa using List.all_eq_true.mp h2 z hz⟩
      · cases e
    · cases hcap
  obtain ⟨l, hl1, hl2, hl3⟩ := capd
  have cellOf : ∀ z, (z, NameKind.free) ∈ scope.names → env.kindOf z = some .cell := fun z hz => by
    have := hall' _ hz
    simp only [Bool.and_eq_true, Bool.or_eq_true, decide_eq_true_eq] at this
    rcases this.2 with q | q
    · exact absurd rfl q
    · show env.scope.names.lookup z = _; rw [hsc]; exact q.1
  have kd : ∀ z k, (compEnvC scope (clo env scope.names []) C env).kindOf z = some k → k = .local ∧ scope.names.lookup z = some .local ∨ scope.names.lookup z = some .free ∧ k = .cell ∨ (isCell (some k) = false) := fun z k e => by
    have e : (relabelS scope env.scope).names.lookup z = some k := e
    rw [relabel_lookup] at e
    cases q : scope.names.lookup z with
    | none => rw [q] at e; cases e
    | some k' =>
      rw [q] at e
      have hm := lookup_mem' q
      cases k' with
      | «local» => simp at e; subst e; exact .inl ⟨rfl, rfl⟩
      | free =>
        have hcell : env.scope.names.lookup z = some .cell := cellOf z hm
        rw [Option.map_some, hcell, hsc, hk2] at e
        simp at e
        exact .inr (.inl ⟨rfl, e.symm⟩)
      | cell => have := hall' _ hm; simp at this
      | globalExplicit => simp at e; subst e; exact .inr (.inr rfl)
      | globalImplicit => simp at e; subst e; exact .inr (.inr rfl)
  refine {
    hk := hk
    big := big
    gl := F.gl
    bl := F.bl
    ac := fun k V e => ?_
    slot := ?_
    lo := { aC with o := fun j hj => absurd rfl hj }
    ce := fun z c e => ?_
    cd := fun z z' c e e' => F.cd z z' c (clo_lookup e).1 (clo_lookup e').1
    cl := fun z hz => ?_
    inn := fun I e => by cases e }
  · by_cases q : k = x
    · subst q; exact .head _
    · rw [eget_put_ne q] at e
      have := (eget_mask e).1
      rw [Nat.zero_add] at this
      exact List.mem_cons_of_mem _ (by simpa using this)
  · refine ⟨m, hC, fun k V e => ?_⟩
    by_cases q : k = x
    · subst q
      have := eget_put_eq e
      cases this
      refine ⟨y, v, hx, .d rd, .inl ⟨?_, hv⟩⟩
      show (relabelS scope env.scope).names.lookup y = _
      rw [relabel_lookup, hy]; rfl
    · rw [eget_put_ne q] at e
      obtain ⟨e1, e2, e3⟩ := eget_mask e
      rw [Nat.zero_add] at e1
      obtain ⟨z, hz1, hz2⟩ := capNames_get hl1 k (by simpa using e1)
      have hfree := hl3 z hz2
      have hmem := lookup_mem' hfree
      obtain ⟨m', hm', hs⟩ := F.slot
      obtain ⟨z', u, g1, g2, g3⟩ := hs k V e2
      rw [hz1] at g1; cases g1
      have hcell := cellOf z hmem
      rcases g3 with ⟨g3, _⟩ | ⟨_, c, g4, g5⟩
      · rw [hcell] at g3; cases g3
      · refine ⟨z, u, hz1, g2.shut e3 _ _, .inr ⟨?_, c, lookup_clo hmem g4, g5⟩⟩
        show isCell ((relabelS scope env.scope).names.lookup z) = true
        have hcell : env.scope.names.lookup z = some .cell := hcell
        rw [relabel_lookup, hfree, Option.map_some, hcell, hsc, hk2]; rfl
  · obtain ⟨e1, e2⟩ := clo_lookup e
    obtain ⟨A, _, u, hu⟩ := F.ce z c e1
    exact ⟨{ A with o := fun j hj => absurd rfl hj }, hCc z c e1, u, hu⟩
  · cases hk' : (compEnvC scope (clo env scope.names []) C env).kindOf z with
    | none => rw [hk'] at hz; cases hz
    | some k =>
      rw [hk'] at hz
      rcases kd z k hk' with ⟨rfl, _⟩ | ⟨h1, rfl⟩ | h1
      · cases hz
      · have hmem := lookup_mem' h1
        obtain ⟨c, hc⟩ := F.cl z (by rw [cellOf z hmem]; rfl)
        exact ⟨c, lookup_clo hmem hc⟩
      · rw [h1] at hz; cases hz
end Mine
end
section
open PySem PySem.W PyProof.Rows PySem.Calls
namespace Mine
variable {W : Wo} (X : Fx W) (n : Nat) (S : Sem)

structure LcP (W : Wo) (L : Addr) where
  P : PM
  ad : Nat → Addr
  σ : Sg
  h : Heap
  D : Addr
  C : Addr
  I : Addr
  its : List PyData
  f : PyData → Option (Option PyData)
  ys : List PyData
  St : Nat → Heap → Prop
  cx : Cx W L P ad σ h
  no : ∀ b, b = I ∨ b = C ∨ b = D → h.get? b = none
  DC : D ≠ C
  ID : I ≠ D
  IC : I ≠ C
  stk : ∀ i h h', St i h → Le P h.get? → Le P h'.get? → (∀ o, h.get? I = some o → h'.get? I = some o) → St i h'
  sI : ∀ i h, St i h → ∃ o, h.get? I = some o

section
variable {W : Wo} {L : Addr} {p : LcP W L} {Q Q' : PM} {h h' : Heap}
noncomputable def LcP.Xs (p : LcP W L) (b : Addr) : Prop := b = p.I ∨ b = p.C ∨ b = p.D
theorem LcP.ts (p : LcP W L) {b : Addr} (hb : p.Xs b) : b ∉ W.ts := fun q => by
  obtain ⟨o, e⟩ := p.cx.sto.tabs b q; rw [p.no b hb] at e; cases e
structure LcS (p : LcP W L) (Q : PM) (h : Heap) : Prop where
  ef : EfE W L p.P p.ad p.σ p.h Q p.ad p.σ h
  q : ∀ b, p.Xs b → Q b = none
theorem LcS.turn (s : LcS p Q h) (k : ∀ b o, ¬ p.Xs b → h.get? b = some o → h'.get? b = some o) : LcS p Q h' where
  ef := EfE.step p.cx s.ef p.Xs p.no (fun b o hb _ e => k b o hb e) (.refl _) (fun _ e => .inl e) (fun b o e => k b o (fun hb => by rw [s.q b hb] at e; cases e) (s.ef.eff.sto.sub b o e))
    (s.ef.eff.sto.tab.step (fun q hq o e => k _ _ (fun hb => p.ts hb (List.mem_map_of_mem hq)) e) (.refl _) s.ef.eff.sto.tab.none)
  q := s.q
theorem LcS.sub (s : LcS p Q h) : Le p.P h.get? := fun b o e => s.ef.eff.sto.sub b o (s.ef.eff.le b o e)
theorem LcS.aside (s : LcS p Q h) {b : Addr} (hb : p.Xs b) (e : ∃ o, h.get? b = some o) : Aside W Q a0 [] h b := ⟨s.q b hb, p.ts hb, fun j hj => absurd rfl hj, e⟩
theorem LcS.eff (s : LcS p Q h) {ad' : Nat → Addr} (f : EfE W p.C Q a0 [] h Q' ad' [] h') (hX : ∀ b, p.Xs b → ∃ o, h.get? b = some o) : LcS p Q' h' where
  ef := EfE.step p.cx s.ef p.Xs p.no (fun b o hb ht e => f.eff.keep b o (fun q => hb (.inr (.inl q))) ht (fun j hj => absurd rfl hj) e) f.eff.le
    (fun b e => (f.eff.newP b e).imp id fun z => z.elim .inl fun ⟨j, hj, _⟩ => absurd rfl hj) f.eff.sto.sub f.eff.sto.tab
  q := fun b hb => ((s.aside hb (hX b hb)).eff f.eff).p
theorem LcP.kept (p : LcP W L) {ad' : Nat → Addr} (f : EfE W p.C Q a0 [] h Q' ad' [] h') {b : Addr} (hb : p.Xs b) (hc : b ≠ p.C) {o : Obj} (e : h.get? b = some o) : h'.get? b = some o := f.eff.keep b o hc (p.ts hb) (fun j hj => absurd rfl hj) e

structure LcInv (p : LcP W L) (i : Nat) (Q : PM) (h : Heap) (vs : Array Value) (m : Nat) (done : List PyData) (mC : Str → Option Value) : Prop where
  s : LcS p Q h
  st : p.St i h
  hD : h.get? p.D = some (lstO vs m)
  rd : RdL Q vs.toList done
  hC : h.Ns p.C mC
  rest : ∃ r, loopC p.f (p.its.drop i) = some r ∧ p.ys = done ++ r
  le : i ≤ p.its.length
  len : done.length ≤ i
noncomputable def LcAll (p : LcP W L) (s : Shared) (k : Nat) (s' : Shared) : Prop := ∃ i Q h tk vs m done mC, k = p.its.length - i ∧ s' = { s with heap := h, toks := tk } ∧ LcInv p i Q h vs m done mC
@[elab_as_elim] theorem LcAll.elim {s : Shared} {k : Nat} {s' : Shared} {C : Nat → Shared → Prop} (a : LcAll p s k s') (c : ∀ i Q h tk vs m done mC, LcInv p i Q h vs m done mC → C (p.its.length - i) { s with heap := h, toks := tk }) : C k s' := by
  obtain ⟨i, Q, h, tk, vs, m, done, mC, rfl, rfl, inv⟩ := a
  exact c i Q h tk vs m done mC inv
theorem LcInv.next {i : Nat} {vs m done mC} (inv : LcInv p (i + 1) Q h vs m done mC) {s : Shared} {tk : Nat} : ∃ k, k < p.its.length - i ∧ LcAll p s k { s with heap := h, toks := tk } :=
  ⟨p.its.length - (i + 1), Nat.sub_lt_sub_left inv.le (Nat.lt_succ_self i), i + 1, Q, h, tk, vs, m, done, mC, rfl, rfl, inv⟩
theorem LcInv.fin {vs m done mC} (inv : LcInv p p.its.length Q h vs m done mC) (k : ∀ b o, b ≠ p.I → h.get? b = some o → h'.get? b = some o) :
    ∃ P', h'.Ns p.C mC ∧ EfE W L p.P p.ad p.σ p.h P' p.ad p.σ h' ∧ P' p.C = none ∧ Rd P' (.ref p.D) (.list p.ys) := by
  have hD2 : h'.get? p.D = some (lstO vs m) := k p.D _ (Ne.symm p.ID) inv.hD
  obtain ⟨r, hr, hyr⟩ := inv.rest
  rw [List.drop_length] at hr
  cases hr
  rw [List.append_nil] at hyr
  have s2 : LcS p Q h' := inv.s.turn fun b o hb e => k b o (fun q => hb (.inl q)) e
  have le := le_add (o := lstO vs m) (inv.s.q p.D (.inr (.inr rfl)))
  refine ⟨Q.add p.D (lstO vs m), let ⟨o, es, ep, e, r⟩ := inv.hC; ⟨o, es, ep, k _ _ (Ne.symm p.IC) e, r⟩, EfE.step p.cx s2.ef p.Xs p.no (fun _ _ _ _ e => e) le (fun b e => ?_) (fun b o e => ?_)
    (s2.ef.eff.sto.tab.step (fun _ _ _ e => e) le fun q hq => ?_), by rw [add_ne (Ne.symm p.DC)]; exact inv.s.q _ (.inr (.inl rfl)), .list add_self rfl rfl (hyr ▸ inv.rd.le le)⟩
  · by_cases q : b = p.D
    · exact .inr (.inr (.inr (.inr q)))
    · rw [add_ne q] at e; exact .inl e
  · by_cases q : b = p.D
    · subst q; rw [add_self] at e; rw [hD2, e]
    · rw [add_ne q] at e; exact s2.ef.eff.sto.sub b o e
  · rw [add_ne fun z => p.ts (.inr (.inr z)) (List.mem_map_of_mem hq)]; exact s2.ef.eff.sto.tab.none q hq
theorem LcInv.app {prog : Program} {A : Around} {E : Value → Shared → Prop} {s : Shared} {tk i : Nat} {vs m done mC} {v : Value} {y : PyData} {r : List PyData} (S : LcS p Q h) (st : p.St (i + 1) h) (hD : h.get? p.D = some (lstO vs m)) (rd : RdL Q vs.toList done) (hC : h.Ns p.C mC)
    (hr : (loopC p.f (p.its.drop (i + 1))).map (y :: ·) = some r) (hy : p.ys = done ++ r) (hlt : i < p.its.length) (len : done.length ≤ i) (hlim : p.its.length ≤ lim) (rv : Rd Q v y) :
    wpAny (model prog W.w) A (call (.builtin "list.append") [.ref p.D, v]) (fun _ s₅ => ∃ k, k < p.its.length - i ∧ LcAll p s k s₅) E { s with heap := h, toks := tk } := by
  have hvs : vs.size = done.length := by rw [← Array.length_toList]; exact rd.length
  obtain ⟨r', hr', rfl⟩ := Option.map_eq_some_iff.mp hr
  refine wpAny_list_append_plain (s := { s with heap := h, toks := tk }) ⟨m, hD⟩ (fun h₇ hp7 hs7 => ?_) (by rw [hvs]; exact Nat.le_trans (Nat.le_trans len (Nat.le_of_lt hlt)) (Nat.le_trans hlim (by decide)))
  obtain ⟨m7, hm7⟩ := hp7
  have k7 : ∀ b o, b ≠ p.D → h.get? b = some o → h₇.get? b = some o := fun b o hb e => hs7.extBut b o hb e
  have s7 : LcS p Q h₇ := S.turn fun b o hb e => k7 b o (fun q => hb (.inr (.inr q))) e
  exact LcInv.next (vs := vs.push v) (m := m7) (done := done ++ [y]) (mC := mC) { s := s7, st := p.stk _ _ _ st S.sub s7.sub (fun o e => k7 _ _ p.ID e), hD := hm7, rd := (by rw [Array.toList_push]; exact rd.app (.cons rv .nil)), hC := (let ⟨o, es, ep, e, q⟩ := hC; ⟨o, es, ep, k7 _ _ (Ne.symm p.DC) e, q⟩), rest := ⟨r', hr', by rw [hy, List.append_assoc]; rfl⟩, le := hlt, len := (by rw [List.length_append]; exact Nat.succ_le_succ len) }
end

theorem semCut {X : Fx W} {n : Nat} {S : Sem} (h : SemOK X n S) : SemOK X n S.cut := ⟨h.fn, h.make⟩

theorem isTT_eq {c : PE} (h : isTT c = true) : c = .tt true := by
  cases c <;> first | exact ftE h | skip
  exact congrArg PE.tt h

theorem foldSet {e : Expr} (h : notSet e = true) (env : Env) (x : Value) : foldedSetIterable e env x = pure x := by
  cases e <;> first | rfl | exact ftE h

theorem gen1_e {g : List Comprehension} {f : Str → Expr → List Expr → Bool} (h : gen1 g f = true) : ∃ y p iter ifs, g = [⟨.Name y p, iter, ifs, 0⟩] ∧ f y iter ifs = true := by
  match g, h with
  | [⟨t, iter, ifs, a⟩], h =>
    obtain ⟨h1, h2⟩ := and2 h
    cases eq_of_beq h1
    exact xNam_e (C := fun t => ∃ y p iter' ifs', [(⟨t, iter, ifs, 0⟩ : Comprehension)] = [⟨.Name y p, iter', ifs', 0⟩] ∧ f y iter' ifs' = true) h2 fun y p h => ⟨y, p, iter, ifs, rfl, h⟩
@[elab_as_elim] theorem xgen_e {e : Expr} {f : Expr → Scope → Str → Expr → List Expr → Bool} {C : Expr → Prop} (h : (xLC e fun e1 g scope => gen1 g (f e1 scope)) = true) (k : ∀ e1 y px iter ifs scope pos, f e1 scope y iter ifs = true → C (.ListComp e1 [⟨.Name y px, iter, ifs, 0⟩] scope pos)) : C e :=
  xLC_e h fun e1 g scope pos h => by
    obtain ⟨y, p, iter, ifs, rfl, h⟩ := gen1_e h
    exact k e1 y p iter ifs scope pos h

theorem drop_some {α : Type} {l : List α} {i : Nat} {d : α} (h : l[i]? = some d) : l.drop i = d :: l.drop (i + 1) := by
  obtain ⟨hlt, rfl⟩ := List.getElem?_eq_some_iff.mp h
  exact List.drop_eq_getElem_cons hlt
section
variable {X n S}
theorem lc_loop {elt : PE} {x : Nat} {c : PE} {cap : List Nat} (helt : SE X n S.cut elt) (hct : ST X n S.cut c) {io : Option Inn} {ns : List Str} {act : List Nat} {sc : Scope} {A : Around} {env : Env} {en : En} {s : Shared} {p : LcP W env.locals}
    (at1 : At W n io ns act sc A env p.P p.ad p.σ en p.h) (hf : p.f = stepC S.cut (mask cap 0 en) x c elt) {fp : List Addr} {Pd : Nat → Value → Prop} (w : Walks X.prog W.w A p.I fp [p.I] p.its.length Pd p.St)
    (hitem : ∀ i v, i < p.its.length → Pd i v → ∃ d, p.its[i]? = some d ∧ Rd p.P v d) {e1 : Expr} {y : Str} {px : Pos} {iter : Expr} {ifs : List Expr} {scope : Scope} {pos : Pos} (hoelt : okE (relabelS scope sc) ns elt e1 = true)
    (hotest : (match ifs with | [] => isTT c | [t] => okE (relabelS scope sc) ns c t | _ => false) = true) (hoy : ns[x]? = some y) (hoc : compOk scope sc y = true) (hocap : capOk ns scope x cap = true) (hlim : p.its.length ≤ lim) (big : ∀ b o, W.B.get? b = some o → b < p.C)
    {R : Result → Shared → Prop}
    (fin : ∀ h' tk' P' mC, h'.Ns p.C mC → EfE W env.locals p.P p.ad p.σ p.h P' p.ad p.σ h' → P' p.C = none → Rd P' (.ref p.D) (.list p.ys) → R (.ok .next) { s with heap := h', toks := tk' })
    {h₄ : Heap} {mC : Str → Option Value} (inv0 : LcInv p 0 p.P h₄ #[] 0 [] mC) (tk : Nat) :
    codeAny (model X.prog W.w) A (.compLoop (.ListComp e1 [⟨.Name y px, iter, ifs, 0⟩] scope pos) 0 (.ref p.I) (.ref p.D) (compEnvC scope (clo env scope.names []) p.C env)) R { s with heap := h₄, toks := tk } := by
  have hoc' := hoc
  unfold compOk at hoc'
  simp only [Bool.and_eq_true, decide_eq_true_eq] at hoc'
  have hCc : ∀ z c, env.cells.lookup z = some c → c ≠ p.C := fun z c e q => by
    obtain ⟨o, e⟩ := (at1.fra.ce z c e).1.e
    rw [q, p.no _ (.inr (.inl rfl))] at e; cases e
  have hp : ((relabel scope env).kind == .class || ((relabel scope env).kind == .module && p.C != env.globals)) = false := by
    show (scope.kind == .class || (scope.kind == .module && p.C != env.globals)) = false
    rw [hoc'.1.1.1.1]; rfl
  refine codeAny_compLoop_tests (I := LcAll p s) ?_ (p.its.length - 0) ⟨0, p.P, h₄, tk, #[], 0, [], mC, rfl, rfl, inv0⟩
  refine fun k s' a => LcAll.elim a fun i Pi h tk vs m done mC inv => (Nat.lt_or_ge i p.its.length).elim (fun hlt => ?_) fun hge => ?_
  · refine w.item i _ _ _ hlt inv.st fun v h' tk' pd st' keep => ?_
    refine Exists.elim (hitem i v hlt pd) fun d hdr => ?_
    have hd := hdr.1
    have rdv := hdr.2
    have kI : ∀ b o, b ≠ p.I → h.get? b = some o → h'.get? b = some o := fun b o hb e => keep b o (fun q => hb (List.mem_singleton.mp q)) e
    refine wpAny_assign_Name (wpAny_storeName_local (lookup_relabel_local hoc'.1.1.2) (let ⟨o, es, ep, e, r⟩ := inv.hC; (⟨o, es, ep, kI _ _ (Ne.symm p.IC) e, r⟩ : h'.Ns p.C mC)) (fun h'' hn hs => ?_) hp)
    have s2 : LcS p Pi h'' := inv.s.turn fun b o hb e => hs.extBut b o (fun q => hb (.inr (.inl q))) (kI b o (fun q => hb (.inl q)) e)
    have D2 : h''.get? p.D = some (lstO vs m) := hs.extBut _ _ p.DC (kI p.D _ (Ne.symm p.ID) inv.hD)
    refine Exists.elim (p.sI _ _ st') fun oI hoI => ?_
    have I2 : h''.get? p.I = some oI := hs.extBut _ _ p.IC hoI
    have eC : ∃ o, h''.get? p.C = some o := let ⟨o, _, _, e, _⟩ := hn; ⟨o, e⟩
    have hX : ∀ b, p.Xs b → ∃ o, h''.get? b = some o := fun b q => by
      rcases q with rfl | rfl | rfl
      · exact ⟨_, I2⟩
      · exact eC
      · exact ⟨_, D2⟩
    have at2 : At W n none ns (x :: cap) (relabelS scope sc) A (compEnvC scope (clo env scope.names []) p.C env) Pi a0 [] (eput (mask cap 0 en) x (some (.d d))) h'' :=
      ⟨s2.ef.eff.sto.nil a0, comp_fra (at1.fra.efe s2.ef) at1.sc hn (if_pos rfl) (rdv.le s2.ef.eff.le) (s2.aside (.inr (.inl rfl)) eC) big hoy hoc hocap hCc a0, by rw [← at1.sc]; rfl, at1.aok⟩
    have sub' : Le p.P h'.get? := fun b o e => kI b o (fun q => by rw [q, p.cx.sto.p_none (p.no _ (.inl rfl))] at e; cases e) (inv.s.sub b o e)
    refine Exists.elim inv.rest fun r hr2 => b1e ((loopC_cons ..).symm.trans ((congrArg (loopC p.f) (drop_some hd)).symm.trans hr2.1)) fun fd hfd' hr => b1e ((stepC_b ..).symm.trans ((congrFun hf d).symm.trans hfd')) fun wv ew hfd' => b1e hfd' fun tv htv hfd' => ?_
    have hyr := hr2.2
    have ew := pur_i ew
    have after : ∀ (E₁ E₂ : Value → Shared → Prop) (h₅ : Heap) (tk₅ : Nat) (P₅ : PM) (ad₅ : Nat → Addr), EfE W p.C Pi a0 [] h'' P₅ ad₅ [] h₅ →
        (if tv = true then wpAny (model X.prog W.w) A (eval e1 (compEnvC scope (clo env scope.names []) p.C env)) (fun x s₄ =>
          wpAny (model X.prog W.w) A (call (.builtin "list.append") [.ref p.D, x]) (fun _ s₅ => ∃ m, m < p.its.length - i ∧ LcAll p s m s₅) E₁ s₄) E₂ { s with heap := h₅, toks := tk₅ }
        else ∃ m, m < p.its.length - i ∧ LcAll p s m { s with heap := h₅, toks := tk₅ }) := by
      intro E₁ E₂ h₅ tk₅ P₅ ad₅ f₅
      have stN : ∀ {P₆ : PM} {ad₆ : Nat → Addr} {h₆ : Heap}, EfE W p.C Pi a0 [] h'' P₆ ad₆ [] h₆ → p.St (i + 1) h₆ := fun f₆ =>
        p.stk _ _ _ st' sub' (s2.eff f₆ hX).sub fun o e => p.kept f₆ (.inl rfl) p.IC (by rw [hoI] at e; cases e; exact I2)
      cases tv with
      | false =>
        have hr : loopC p.f (p.its.drop (i + 1)) = some r := by cases (show some none = some fd from hfd'); exact hr
        exact LcInv.next { s := s2.eff f₅ hX, st := stN f₅, hD := p.kept f₅ (.inr (.inr rfl)) p.DC D2, rd := inv.rd.le f₅.eff.le, hC := f₅.ns _ hn, rest := ⟨r, hr, hyr⟩, le := hlt, len := Nat.le_succ_of_le inv.len }
      | true =>
        refine b1e (show b1 (pur _) _ = _ from hfd') fun uv eu hfd' => b1e hfd' fun yv ey hfd' => ?_
        have hr : (loopC p.f (p.its.drop (i + 1))).map (yv :: ·) = some r := by cases hfd'; exact hr
        have eu : _ = some (V.d yv, []) := vd_i ey ▸ pur_i eu
        refine helt e1 none ns (x :: cap) (relabelS scope sc) A _ P₅ ad₅ [] _ { s with heap := h₅, toks := tk₅ } _ [] _ _ (fun vs σ => rfl) hoelt (at2.efe f₅) eu fun v₆ h₆ tk₆ P₆ ad₆ f₆ r₆ => ?_
        have f56 := f₅.trans f₆
        exact LcInv.app (s2.eff f56 hX) (stN f56) (p.kept f56 (.inr (.inr rfl)) p.DC D2) (inv.rd.le f56.eff.le) (f56.ns _ hn) hr hyr hlt inv.len hlim (r₆.ofD rfl)
    cases ifs with
    | nil =>
      have e1 : tv = true := by cases isTT_eq hotest; cases ew; cases htv; rfl
      exact wpAny_tests_nil (Eq.mp (if_pos e1) (after _ _ h'' _ Pi a0 (.refl at2.sto)))
    | cons t ifs =>
      cases ifs with
      | nil => exact wpAny_tests_one (hct t none ns (x :: cap) (relabelS scope sc) A _ Pi a0 [] _ _ wv [] tv _ _ (fun vs σ => rfl) hotest at2 ew htv fun h₅ tk₅ P₅ ad₅ f₅ => after _ _ h₅ tk₅ P₅ ad₅ f₅)
      | cons => cases hotest
  · have hi := Nat.le_antisymm inv.le hge
    refine w.done _ _ _ (hi ▸ inv.st) fun h' tk' keep => Exists.elim ((hi ▸ inv).fin (h' := h') fun b o hb e => keep b o (fun q => hb (List.mem_singleton.mp q)) e) fun P' g => fin h' tk' P' mC g.1 g.2.1 g.2.2.1 g.2.2.2
end

theorem lc_core (elt : PE) (x : Nat) (src : PI) (c : PE) (cap : List Nat) (hsrc : SI X n S src) (helt : SE X n S.cut elt) (hct : ST X n S.cut c) (e : Expr) (io : Option Inn) (ns : List Str) (act : List Nat) (sc : Scope) (A : Around) (env : Env) (P : PM) (ad : Nat → Addr) (σ : Sg) (en : En)
    (s : Shared) (V : V) (σ' : Sg) (E : Value → Shared → Prop) (hi : HPsi X n S io) (ho : okE sc ns (.lc elt x src c cap) e = true) (at_ : At W n io ns act sc A env P ad σ en s.heap) (he : evE S en (.lc elt x src c cap) σ = some (V, σ')) :
    ∃ e1 y px iter ifs scope pos ys, e = .ListComp e1 [⟨.Name y px, iter, ifs, 0⟩] scope pos ∧ V = .d (.list ys) ∧
      ∀ (pos' : Pos) (use : Option (Value → PySem.Sem Unit)) (Q : Value → Shared → Prop),
        (∀ D C P₁ ad₁ h₁ h' tk' P' mC, EfE W env.locals P ad σ s.heap P₁ ad₁ σ' h₁ → h₁.get? C = none → h'.Ns C mC → EfE W env.locals P₁ ad₁ σ' h₁ P' ad₁ σ' h' → P' C = none → Rd P' (.ref D) (.list ys) →
          compPost (model X.prog W.w) A E use Q (.ref D) C (.ok .next) { s with heap := h', toks := tk' }) →
        wpAny (model X.prog W.w) A (comprehension (.ListComp e1 [⟨.Name y px, iter, ifs, 0⟩] scope pos) scope env pos' (newList []) false (eval iter env) use) Q E s := by
  refine xgen_e (e := e) ho fun e1 y px iter ifs scope pos ho => and2e ho fun ho hoelt => and2e ho fun ho hotest => and5e ho fun hoy hoset hoc hocap hosrc => b2e ((e_lc ..).symm.trans he) fun its σ₁ e1' he => b1e he fun ys hys he => ?_
  have hlim := (gde he).1
  have eq := Prod.mk.inj (gde he).2
  have hoc' := hoc
  unfold compOk at hoc'
  simp only [Bool.and_eq_true, decide_eq_true_eq] at hoc'
  have hk := hoc'.1.1.1.1
  have hall' := fun q hq => List.all_eq_true.mp hoc'.2 q hq
  simp only [Bool.and_eq_true, Bool.or_eq_true, decide_eq_true_eq] at hall'
  refine ⟨e1, y, px, iter, ifs, scope, pos, ys, rfl, eq.1.symm, fun pos' use Q fin => ?_⟩
  rw [← eq.2] at fin
  refine wpAny_comprehension_free (g := ⟨.Name y px, iter, ifs, 0⟩) (gs := []) rfl (foldSet hoset env) (closure_eq scope env fun q hq hf => at_.fra.cl q.1 (by show isCell (env.scope.names.lookup q.1) = true; rw [at_.sc, ((hall' q hq).2.resolve_left fun z => z hf).1]; rfl)) hk (fun q hq hl => (hall' q hq).1.2.resolve_left fun z => z hl) ?_
  refine hsrc iter io ns act sc A env P ad σ en s its σ₁ E _ hi hosrc at_ e1' fun I h₁ tk₁ P₁ ad₁ h₂ f₁ qI qk itr => itr.elim fun fp St Pd w st0 hfp hasI hitem => ?_
  have at1 := at_.efe f₁
  refine wpAny_newList ?_ (by decide)
  refine wpAny_newFunctionEnv (fun q hq => (hall' q hq).1.1) (fun q hq => by cases hq) (fun h₄ hns hsb => ?_) hk
  dsimp only at hns hsb ⊢
  generalize hDe : h₂.objs.size = D at hns hsb ⊢
  have hC0 : (h₂.push { cls := .type "list", dict := none, data := .seq ([] : List Value).toArray }).objs.size = D + 1 := by rw [Heap.size_push, hDe]
  rw [hC0] at hns hsb ⊢
  have hDC : D ≠ D + 1 := Nat.ne_of_lt (Nat.lt_succ_self D)
  have dead2 : ∀ b o, h₂.get? b = some o → b < D := fun b o e => hDe ▸ Heap.lt_size e
  have none1 : ∀ b, D ≤ b → h₁.get? b = none := fun b hb => by
    cases q : h₁.get? b with
    | none => rfl
    | some o => exact absurd (dead2 b o (qk b o q)) (Nat.not_lt.mpr hb)
  refine Exists.elim (hasI _ _ st0) fun oI hoI => ?_
  have k4 : ∀ b o, b ≠ D + 1 → (h₂.push { cls := .type "list", dict := none, data := .seq ([] : List Value).toArray }).get? b = some o → h₄.get? b = some o := fun b o hb e => hsb.extBut b o hb (Heap.get?_push_of_some _ e)
  have old4 : ∀ b o, h₂.get? b = some o → h₄.get? b = some o := fun b o e => k4 b o (Nat.ne_of_lt (Nat.lt_succ_of_lt (dead2 b o e))) (Heap.get?_push_of_some _ e)
  have hno : ∀ b, b = I ∨ b = D + 1 ∨ b = D → h₁.get? b = none := fun b q => by
    rcases q with rfl | rfl | rfl
    · exact qI
    · exact none1 _ (Nat.le_succ _)
    · exact none1 _ (Nat.le_refl _)
  let p : LcP W env.locals := { P := P₁, ad := ad₁, σ := σ₁, h := h₁, D := D, C := D + 1, I := I, its := its, f := stepC S.cut (mask cap 0 en) x c elt, ys := ys, St := St, cx := at1.cx, no := hno, DC := hDC, ID := Nat.ne_of_lt (dead2 _ _ hoI), IC := Nat.ne_of_lt (Nat.lt_succ_of_lt (dead2 _ _ hoI)), stk := fun i h h' st s1 s2 k => Itr.St_keep (its := its) w hfp st s1 s2 k, sI := hasI }
  have s0 : LcS p P₁ h₁ := ⟨.refl at1.sto, fun b hb => at1.sto.p_none (p.no b hb)⟩
  have s4 : LcS p P₁ h₄ := s0.turn fun b o _ e => old4 b o (qk b o e)
  have inv0 : LcInv p 0 P₁ h₄ #[] 0 [] (fun x => (([] : List (Str × Value)).reverse.lookup x)) := { s := s4, st := p.stk _ _ _ st0 (fun b o e => qk b o (at1.sto.sub b o e)) s4.sub (fun o e => old4 _ _ e), hD := k4 D _ hDC (by rw [← hDe]; exact Heap.get?_push_size _ rfl), rd := .nil, hC := hns, rest := ⟨ys, hys, rfl⟩, le := Nat.zero_le _, len := Nat.zero_le _ }
  have big : ∀ b o, W.B.get? b = some o → b < p.C := fun b o eB => by
    obtain ⟨o, e⟩ := at1.fra.lo.e
    exact Nat.lt_trans (at1.fra.big b _ eB) (Nat.lt_succ_of_lt (dead2 _ _ (qk _ _ e)))
  have loop : ∀ tk, codeAny (model X.prog W.w) A (.compLoop (.ListComp e1 [⟨.Name y px, iter, ifs, 0⟩] scope pos) 0 (.ref I) (.ref D) (compEnvC scope (clo env scope.names []) (D + 1) env)) (compPost (model X.prog W.w) A E use Q (.ref D) (D + 1)) { s with heap := h₄, toks := tk } := fun tk =>
    lc_loop (p := p) helt hct at1 rfl w hitem hoelt hotest (deq hoy) hoc hocap hlim big (fun h' tk' P' mC g1 g2 g3 g4 => fin D (D + 1) P₁ ad₁ h₁ h' tk' P' mC f₁ (p.no _ (.inr (.inl rfl))) g1 g2 g3 g4) inv0 tk
  exact codeAny_compStart_list (loop _) (w.self 0 _ _ _ inv0.st (loop _))

theorem se_lc (elt : PE) (x : Nat) (src : PI) (c : PE) (cap : List Nat) (hsrc : SI X n S src) (helt : SE X n S.cut elt) (hct : ST X n S.cut c) (hS : SemOK X n S) : SE X n S (.lc elt x src c cap) :=
  fun e io ns act sc A env P ad σ en s V σ' E Q hi ho at_ he kq => by
  obtain ⟨e1, y, px, iter, ifs, scope, pos, ys, rfl, rfl, core⟩ := lc_core X n S elt x src c cap hsrc helt hct e io ns act sc A env P ad σ en s V σ' E hi ho at_ he
  show wpAny _ _ (comprehension _ scope env (firstIterPos _ pos) (newList []) false (eval iter env)) Q E s
  refine core _ none Q fun D C P₁ ad₁ h₁ h' tk' P' mC f₁ fC nC f₂ pC rd => ?_
  have at1 := at_.efe f₁
  refine ⟨mC, nC, fun h'' hs => ?_⟩
  have tC : C ∉ W.ts := fun q => by obtain ⟨o, e⟩ := at1.sto.tabs C q; rw [fC] at e; cases e
  have k2 : ∀ b o, b ≠ C → h'.get? b = some o → h''.get? b = some o := fun b o h1 e => hs.extBut b o h1 e
  have f₃ : EfE W env.locals P₁ ad₁ σ' h₁ P' ad₁ σ' h'' := EfE.step at1.cx f₂ (fun b => b = C) (fun b q => q ▸ fC) (fun b o h1 _ e => k2 b o h1 e) (.refl _) (fun b e => .inl e)
    (fun b o e => k2 b o (fun q => by rw [q, pC] at e; cases e) (f₂.eff.sto.sub b o e))
    (f₂.eff.sto.tab.step (fun q hq o e => k2 _ _ (fun z => tC (z ▸ List.mem_map_of_mem hq)) e) (.refl _) f₂.eff.sto.tab.none)
  exact kq (.ref D) h'' tk' P' ad₁ (f₁.trans f₃) (.d rd)
end Mine
end
section
open PySem PySem.W PyProof.Rows PySem.Calls
namespace Mine
variable {W : Wo} (X : Fx W) (n : Nat)

theorem val_test {e : Expr} (h : (match e with | .UnaryOp .Not _ _ => false | .BoolOp .. => false | .IfExp .. => false | .Compare .. => false | _ => true) = true) (env : Env) (whole : PySem.Sem Value) :
    isTrue e env whole = (do let v ← whole; standAt e.pos; holding [v] (truthy v)) := by
  cases e <;> first | rfl | cases h | skip
  rename_i op x p
  cases op <;> first | rfl | cases h

noncomputable def plainT : PE → Bool
  | .cmp .. | .bop .. | .nt _ | .ite .. | .din _ => false
  | _ => true
theorem plain_test {pe : PE} (hp : plainT pe = true) {sc : Scope} {ns : List Str} {e : Expr} (ho : okE sc ns pe e = true) (env : Env) (whole : PySem.Sem Value) :
    isTrue e env whole = (do let v ← whole; standAt e.pos; holding [v] (truthy v)) := by
  refine val_test ?_ env whole
  cases e with
  | BoolOp => cases pe <;> first | exact nomatch (show false = true from hp) | exact nomatch (show false = true from ho)
  | UnaryOp op => cases op <;> first | rfl | (cases pe <;> first | exact nomatch (show false = true from hp) | exact nomatch (show false = true from ho))
  | Compare => cases pe <;> first | exact nomatch (show false = true from hp) | exact nomatch (show false = true from ho)
  | IfExp => cases pe <;> first | exact nomatch (show false = true from hp) | exact nomatch (show false = true from ho)
  | _ => first | rfl | (cases pe <;> first | exact nomatch (show false = true from hp) | exact nomatch (show false = true from ho))

mutual
theorem sound_E : ∀ (pe : PE) (S : Sem), SemOK X n S → SE X n S pe
  | .int i, S, h => se_int X n S i
  | .str x, S, h => se_str X n S x
  | .tt b, S, h => se_tt X n S b
  | .no, S, h => se_no X n S
  | .var k, S, h => se_var X n S k
  | .gint x i, S, h => se_gint X n S x i
  | .cls a v, S, h => se_cls X n S a v
  | .bin o a b, S, h => se_bin X n S o a b (sound_E a S h) (sound_E b S h)
  | .binO o a b, S, h => se_binO X n S o a b (sound_E a S h) (sound_E b S h)
  | .cmp o a b, S, h => se_cmp X n S o a b (sound_E a S h) (sound_E b S h)
  | .bop k l, S, h => se_bop X n S k l (sound_B l S h)
  | .nt e, S, h => se_nt X n S e (sound_E e S h)
  | .neg e, S, h => se_neg X n S e (sound_E e S h)
  | .ite c a b, S, h => se_ite X n S c a b (sound_T c S h) (sound_E a S h) (sound_E b S h)
  | .cF f l, S, h => se_cF X n S h f l (sound_L l S h)
  | .cB b l, S, h => se_cB X n S b l (sound_L l S h)
  | .cM f o l, S, h => se_cM X n S h f o l (sound_E o S h) (sound_L l S h)
  | .mk e, S, h => se_mk X n S h e (sound_E e S h)
  | .cI k l, S, h => se_cI X n S k l (sound_L l S h)
  | .fld e k, S, h => se_fld X n S e k (sound_E e S h)
  | .sub o i, S, h => se_sub X n S o i (sound_E o S h) (sound_E i S h)
  | .sl o l u t, S, h => se_sl X n S o l u t (sound_E o S h) (sound_E l S h) (sound_E u S h) (sound_E t S h)
  | .ls l, S, h => se_ls X n S l (sound_L l S h)
  | .lsO l, S, h => se_lsO X n S l (sound_L l S h)
  | .tp l, S, h => se_tp X n S l (sound_L l S h)
  | .lc elt x src c cap, S, h => se_lc X n S elt x src c cap (sound_I src S h) (sound_E elt S.cut (semCut h)) (sound_T c S.cut (semCut h)) h
  | .bl e, S, h => se_bl X n S e (sound_E e S h)
  | .join x o, S, h => se_join X n S x o (sound_E x S h) (sound_E o S h)
  | .din e, S, h => se_din X n S e (sound_E e S h)
  | .dget e, S, h => se_dget X n S e (sound_E e S h)
theorem sound_T : ∀ (pe : PE) (S : Sem), SemOK X n S → ST X n S pe
  | .cmp o a b, S, h => st_cmp X n S o a b (sound_E a S h) (sound_E b S h)
  | .bop k l, S, h => st_bop X n S k l (sound_B l S h)
  | .nt e, S, h => st_nt X n S e (sound_T e S h)
  | .ite c a b, S, h => st_ite X n S c a b (sound_T c S h) (sound_T a S h) (sound_T b S h)
  | .din e, S, h => st_din X n S e (sound_E e S h)
  | .int i, S, h => st_any X n S _ (se_int X n S i) fun _ _ _ _ _ ho => plain_test rfl ho _ _
  | .str x, S, h => st_any X n S _ (se_str X n S x) fun _ _ _ _ _ ho => plain_test rfl ho _ _
  | .tt b, S, h => st_any X n S _ (se_tt X n S b) fun _ _ _ _ _ ho => plain_test rfl ho _ _
  | .no, S, h => st_any X n S _ (se_no X n S) fun _ _ _ _ _ ho => plain_test rfl ho _ _
  | .var k, S, h => st_any X n S _ (se_var X n S k) fun _ _ _ _ _ ho => plain_test rfl ho _ _
  | .gint x i, S, h => st_any X n S _ (se_gint X n S x i) fun _ _ _ _ _ ho => plain_test rfl ho _ _
  | .cls a v, S, h => st_any X n S _ (se_cls X n S a v) fun _ _ _ _ _ ho => plain_test rfl ho _ _
  | .bin o a b, S, h => st_any X n S _ (se_bin X n S o a b (sound_E a S h) (sound_E b S h)) fun _ _ _ _ _ ho => plain_test rfl ho _ _
  | .binO o a b, S, h => st_any X n S _ (se_binO X n S o a b (sound_E a S h) (sound_E b S h)) fun _ _ _ _ _ ho => plain_test rfl ho _ _
  | .neg e, S, h => st_any X n S _ (se_neg X n S e (sound_E e S h)) fun _ _ _ _ _ ho => plain_test rfl ho _ _
  | .cF f l, S, h => st_any X n S _ (se_cF X n S h f l (sound_L l S h)) fun _ _ _ _ _ ho => plain_test rfl ho _ _
  | .cB b l, S, h => st_any X n S _ (se_cB X n S b l (sound_L l S h)) fun _ _ _ _ _ ho => plain_test rfl ho _ _
  | .cM f o l, S, h => st_any X n S _ (se_cM X n S h f o l (sound_E o S h) (sound_L l S h)) fun _ _ _ _ _ ho => plain_test rfl ho _ _
  | .mk e, S, h => st_any X n S _ (se_mk X n S h e (sound_E e S h)) fun _ _ _ _ _ ho => plain_test rfl ho _ _
  | .cI k l, S, h => st_any X n S _ (se_cI X n S k l (sound_L l S h)) fun _ _ _ _ _ ho => plain_test rfl ho _ _
  | .fld e k, S, h => st_any X n S _ (se_fld X n S e k (sound_E e S h)) fun _ _ _ _ _ ho => plain_test rfl ho _ _
  | .sub o i, S, h => st_any X n S _ (se_sub X n S o i (sound_E o S h) (sound_E i S h)) fun _ _ _ _ _ ho => plain_test rfl ho _ _
  | .sl o l u t, S, h => st_any X n S _ (se_sl X n S o l u t (sound_E o S h) (sound_E l S h) (sound_E u S h) (sound_E t S h)) fun _ _ _ _ _ ho => plain_test rfl ho _ _
  | .ls l, S, h => st_any X n S _ (se_ls X n S l (sound_L l S h)) fun _ _ _ _ _ ho => plain_test rfl ho _ _
  | .lsO l, S, h => st_any X n S _ (se_lsO X n S l (sound_L l S h)) fun _ _ _ _ _ ho => plain_test rfl ho _ _
  | .tp l, S, h => st_any X n S _ (se_tp X n S l (sound_L l S h)) fun _ _ _ _ _ ho => plain_test rfl ho _ _
  | .lc elt x src c cap, S, h => st_any X n S _ (se_lc X n S elt x src c cap (sound_I src S h) (sound_E elt S.cut (semCut h)) (sound_T c S.cut (semCut h)) h) fun _ _ _ _ _ ho => plain_test rfl ho _ _
  | .bl e, S, h => st_any X n S _ (se_bl X n S e (sound_E e S h)) fun _ _ _ _ _ ho => plain_test rfl ho _ _
  | .join x o, S, h => st_any X n S _ (se_join X n S x o (sound_E x S h) (sound_E o S h)) fun _ _ _ _ _ ho => plain_test rfl ho _ _
  | .dget e, S, h => st_any X n S _ (se_dget X n S e (sound_E e S h)) fun _ _ _ _ _ ho => plain_test rfl ho _ _
theorem sound_L : ∀ (pl : PL) (S : Sem), SemOK X n S → SL X n S pl
  | .nil, S, h => sl_nil X n S
  | .cons p l, S, h => sl_cons X n S p l (sound_E p S h) (sound_L l S h)
theorem sound_B : ∀ (pl : PL) (S : Sem), SemOK X n S → SBv X n S pl
  | .nil, S, h => sbv_nil X n S
  | .cons p l, S, h => sbv_cons X n S p l (sound_E p S h) (sound_T p S h) (sound_B l S h)
theorem sound_I : ∀ (pe : PI) (S : Sem), SemOK X n S → SI X n S pe
  | .rng1 e, S, h => si_rng1 X n S e (sound_E e S h)
  | .rng2 a b, S, h => si_rng2 X n S a b (sound_E a S h) (sound_E b S h)
  | .rev e, S, h => si_rev X n S e (sound_E e S h)
  | .it e, S, h => si_it X n S e (sound_E e S h)
end
end Mine
end
section
open PySem PySem.W PyProof.Rows PySem.Calls
namespace Mine

noncomputable def Xf (env : Env) (b : Addr) : Prop := b = env.locals ∨ ∃ x, env.kindOf x = some .cell ∧ env.cells.lookup x = some b

section
variable {W : Wo} {io : Option Inn} {ns : List Str} {act : List Nat} {env : Env} {P : PM} {ad : Nat → Addr} {σ : Sg} {en : En} {h h' : Heap}

theorem Eff.weak {X X' : Addr → Prop} {P' ad' σ' h'} (f : Eff W X P ad σ h P' ad' σ' h') (hx : ∀ b, X b → X' b) : Eff W X' P ad σ h P' ad' σ' h' :=
  { f with keep := fun b o n1 n2 n3 e => f.keep b o (fun q => n1 (hx b q)) n2 n3 e }
theorem EfE.xf {P' ad' σ' h'} (f : EfE W env.locals P ad σ h P' ad' σ' h') : Eff W (Xf env) P ad σ h P' ad' σ' h' := f.eff.weak fun b q => .inl q
theorem Eff.tr {X : Addr → Prop} {P' ad' σ' h' P'' ad'' σ'' h''} (a : Eff W X P ad σ h P' ad' σ' h') (b : Eff W X P' ad' σ' h' P'' ad'' σ'' h'') : Eff W X P ad σ h P'' ad'' σ'' h'' :=
  a.trans b (fun _ _ _ q => q) (fun _ _ _ q => q)

theorem Sto.turn (S : Sto W P ad σ h) {c : Addr} (A : Aside W P ad σ h c) (k : ∀ b o, b ≠ c → h.get? b = some o → h'.get? b = some o) : Sto W P ad σ h' where
  base := S.base
  sub := fun b o e => k b o (fun q => by rw [q, A.p] at e; cases e) (S.sub b o e)
  tab := S.tab.step (fun q hq o e => k _ _ (fun z => A.t (z ▸ List.mem_map_of_mem hq)) e) (.refl _) S.tab.none
  ls := fun j xs e => let ⟨vs, n, h1, h2⟩ := S.ls j xs e; ⟨vs, n, k _ _ (fun z => A.o j (by rw [e]; exact nofun) z.symm) h1, h2⟩
  is := fun j fs e => let ⟨od, h1, h2⟩ := S.is j fs e; ⟨od, k _ _ (fun z => A.o j (by rw [e]; exact nofun) z.symm) h1, h2⟩
  out := S.out
  inj := S.inj
theorem Eff.turn (S : Sto W P ad σ h) {X : Addr → Prop} {c : Addr} (A : Aside W P ad σ h c) (hc : X c) (k : ∀ b o, b ≠ c → h.get? b = some o → h'.get? b = some o) (e' : ∃ o, h'.get? c = some o) : Eff W X P ad σ h P ad σ h' where
  le := .refl _
  keep := fun b o h1 _ _ e => k b o (fun q => h1 (q ▸ hc)) e
  stay := fun b o e => by
    by_cases q : b = c
    · exact q ▸ e'
    · exact ⟨o, k b o q e⟩
  adk := fun _ _ => rfl
  len := Nat.le_refl _
  lv := fun _ _ e => e
  newP := fun b e => .inl e
  newA := fun j hj e => absurd (sget_lt e) (Nat.not_lt.mpr hj)
  sto := S.turn A k

theorem Aside.turn (A : Aside W P ad σ h b) {c : Addr} (k : ∀ b o, b ≠ c → h.get? b = some o → h'.get? b = some o) (e' : ∃ o, h'.get? c = some o) : Aside W P ad σ h' b :=
  ⟨A.p, A.t, A.o, by
    by_cases q : b = c
    · exact q ▸ e'
    · obtain ⟨o, e⟩ := A.e; exact ⟨o, k b o q e⟩⟩

theorem Fra.storeL (F : Fra W io ns act env P ad σ en h) (S : Sto W P ad σ h) {k : Nat} {x : Str} {v : Value} {U : V} {m : Str → Option Value} (hx : ns[k]? = some x) (hk : k ∈ act) (hd : ∀ j ∈ act, ns[j]? = some x → j = k) (hl : env.kindOf x = some .local)
    (rv : RV W P ad σ.length v U) (hm : h.Ns env.locals m) (hn : h'.Ns env.locals (fun y => if y = x then some v else m y)) (hs : Heap.SameBut env.locals h h') : Fra W io ns act env P ad σ (eput en k (some U)) h' := by
  have kp : ∀ b o, b ≠ env.locals → h.get? b = some o → h'.get? b = some o := fun b o q e => hs.extBut b o q e
  have ex : ∃ o, h'.get? env.locals = some o := by obtain ⟨o, _, _, e, _⟩ := hn; exact ⟨o, e⟩
  refine {
    hk := F.hk
    big := F.big
    gl := F.gl
    bl := F.bl
    ac := fun j V e => by
      by_cases q : j = k
      · exact q ▸ hk
      · rw [eget_put_ne q] at e; exact F.ac j V e
    slot := ⟨_, hn, fun j V e => ?_⟩
    lo := F.lo.turn kp ex
    ce := fun z c e => by
      obtain ⟨A, h1, u, o, h2, h3⟩ := F.ce z c e
      exact ⟨A.turn kp ex, h1, u, o, kp _ _ h1 h2, h3⟩
    cd := F.cd
    cl := F.cl
    inn := fun I e => by
      obtain ⟨K, h1, h2, h3⟩ := F.inn I e
      refine ⟨⟨K.fn, K.fd, ⟨let ⟨o, a, b⟩ := K.me.1; ⟨o, kp _ _ h1 a, b⟩, K.me.2.turn kp ex⟩, fun q hq => ?_⟩, h1, h2, h3⟩
      obtain ⟨⟨u, r, o, a, b⟩, A⟩ := K.cs q hq
      exact ⟨⟨u, r, o, kp _ _ (h2 q hq) a, b⟩, A.turn kp ex⟩ }
  by_cases q : j = k
  · subst q
    have := eget_put_eq e
    cases this
    exact ⟨x, v, hx, rv, .inl ⟨hl, if_pos rfl⟩⟩
  · rw [eget_put_ne q] at e
    obtain ⟨m', hm', hsl⟩ := F.slot
    cases ns_uniq hm hm'
    obtain ⟨y, u, g1, g2, g3⟩ := hsl j V e
    refine ⟨y, u, g1, g2, ?_⟩
    rcases g3 with ⟨g3, g4⟩ | ⟨g3, c, g4, o, g5, g6⟩
    · refine .inl ⟨g3, ?_⟩
      have : y ≠ x := fun z => q (hd j (F.ac j V e) (z ▸ g1))
      rw [if_neg this]; exact g4
    · exact .inr ⟨g3, c, g4, o, kp _ _ (F.ce y c g4).2.1 g5, g6⟩

theorem Fra.storeC (F : Fra W none ns act env P ad σ en h) (S : Sto W P ad σ h) {k : Nat} {x : Str} {v : Value} {U : V} {c : Addr} (hx : ns[k]? = some x) (hk : k ∈ act) (hd : ∀ j ∈ act, ns[j]? = some x → j = k) (hl : env.kindOf x = some .cell)
    (hc : env.cells.lookup x = some c) (rv : RV W P ad σ.length v U) (hn : h'.IsCell c (some v)) (hs : Heap.SameBut c h h') : Fra W none ns act env P ad σ (eput en k (some U)) h' := by
  have kp : ∀ b o, b ≠ c → h.get? b = some o → h'.get? b = some o := fun b o q e => hs.extBut b o q e
  have ex : ∃ o, h'.get? c = some o := by obtain ⟨o, e, _⟩ := hn; exact ⟨o, e⟩
  obtain ⟨m, hm, hsl⟩ := F.slot
  have hcl : c ≠ env.locals := (F.ce x c hc).2.1
  refine {
    hk := F.hk
    big := F.big
    gl := F.gl
    bl := F.bl
    ac := fun j V e => by
      by_cases q : j = k
      · exact q ▸ hk
      · rw [eget_put_ne q] at e; exact F.ac j V e
    slot := ⟨m, let ⟨o, es, ep, e, r⟩ := hm; ⟨o, es, ep, kp _ _ (Ne.symm hcl) e, r⟩, fun j V e => ?_⟩
    lo := F.lo.turn kp ex
    ce := fun z c' e => by
      obtain ⟨A, h1, u, o, h2, h3⟩ := F.ce z c' e
      refine ⟨A.turn kp ex, h1, ?_⟩
      by_cases q : c' = c
      · exact q ▸ ⟨_, hn⟩
      · exact ⟨u, o, kp _ _ q h2, h3⟩
    cd := F.cd
    cl := F.cl
    inn := fun I e => by cases e }
  by_cases q : j = k
  · subst q
    have := eget_put_eq e
    cases this
    exact ⟨x, v, hx, rv, .inr ⟨by rw [hl]; rfl, c, hc, hn⟩⟩
  · rw [eget_put_ne q] at e
    obtain ⟨y, u, g1, g2, g3⟩ := hsl j V e
    refine ⟨y, u, g1, g2, ?_⟩
    rcases g3 with ⟨g3, g4⟩ | ⟨g3, c', g4, o, g5, g6⟩
    · exact .inl ⟨g3, g4⟩
    · have hne : c' ≠ c := fun z => by
        subst z
        have := F.cd y x c' g4 hc
        subst this
        exact q (hd j (F.ac j V e) g1)
      exact .inr ⟨g3, c', g4, o, kp _ _ hne g5, g6⟩

theorem Fra.drop (F : Fra W io ns act env P ad σ en h) (k : Nat) : Fra W io ns act env P ad σ (eput en k none) h := { F with
  ac := fun j V e => by
    by_cases q : j = k
    · subst q; cases eget_put_eq e
    · rw [eget_put_ne q] at e; exact F.ac j V e
  slot := by
    obtain ⟨m, hm, hs⟩ := F.slot
    refine ⟨m, hm, fun j V e => ?_⟩
    by_cases q : j = k
    · subst q; cases eget_put_eq e
    · rw [eget_put_ne q] at e; exact hs j V e }

theorem Eff.off {X : Addr → Prop} {P₀ : PM} {ad₀ : Nat → Addr} {σ₀ : Sg} {h₀ : Heap} (f : Eff W X P₀ ad₀ σ₀ h₀ P ad σ h) {C : Addr} (fC : h₀.get? C = none) (pC : P C = none) (tC : C ∉ W.ts) (oC : ∀ j, sget σ j ≠ .x → C ≠ ad j)
    (k : ∀ b o, b ≠ C → h.get? b = some o → h'.get? b = some o) : Eff W X P₀ ad₀ σ₀ h₀ P ad σ h' := { f with
  keep := fun b o h1 h2 h3 e => k b o (fun q => by rw [q, fC] at e; cases e) (f.keep b o h1 h2 h3 e)
  stay := fun b o e => by obtain ⟨o', e'⟩ := f.stay b o e; exact ⟨o', k b o' (fun q => by rw [q, fC] at e; cases e) e'⟩
  sto := by
    have S := f.sto
    exact {
      base := S.base
      sub := fun b o e => k b o (fun q => by rw [q, pC] at e; cases e) (S.sub b o e)
      tab := S.tab.step (fun q hq o e => k _ _ (fun z => tC (z ▸ List.mem_map_of_mem hq)) e) (.refl _) S.tab.none
      ls := fun j xs e => let ⟨vs, n, h1, h2⟩ := S.ls j xs e; ⟨vs, n, k _ _ (fun z => oC j (by rw [e]; exact nofun) z.symm) h1, h2⟩
      is := fun j fs e => let ⟨od, h1, h2⟩ := S.is j fs e; ⟨od, k _ _ (fun z => oC j (by rw [e]; exact nofun) z.symm) h1, h2⟩
      out := S.out
      inj := S.inj } }
theorem Fra.off {P₁ : PM} {ad₁ : Nat → Addr} {σ₁ : Sg} {en₁ : En} {h₁ : Heap} (F₁ : Fra W io ns act env P₁ ad₁ σ₁ en₁ h₁) {C : Addr} (fC : h₁.get? C = none) (F : Fra W io ns act env P ad σ en h)
    (k : ∀ b o, b ≠ C → h.get? b = some o → h'.get? b = some o) : Fra W io ns act env P ad σ en h' := by
  have ne : ∀ {b : Addr}, Aside W P₁ ad₁ σ₁ h₁ b → b ≠ C := fun A q => by obtain ⟨o, e⟩ := A.e; rw [q, fC] at e; cases e
  have asd : ∀ {b : Addr}, b ≠ C → Aside W P ad σ h b → Aside W P ad σ h' b := fun q A => ⟨A.p, A.t, A.o, by obtain ⟨o, e⟩ := A.e; exact ⟨o, k _ o q e⟩⟩
  exact {
    hk := F.hk
    big := F.big
    gl := F.gl
    bl := F.bl
    ac := F.ac
    slot := by
      obtain ⟨m, ⟨o, es, ep, e, r⟩, hs⟩ := F.slot
      refine ⟨m, ⟨o, es, ep, k _ _ (ne F₁.lo) e, r⟩, fun j V e => ?_⟩
      obtain ⟨x, v, g1, g2, g3⟩ := hs j V e
      refine ⟨x, v, g1, g2, ?_⟩
      rcases g3 with g3 | ⟨g3, c, g4, o, g5, g6⟩
      · exact .inl g3
      · exact .inr ⟨g3, c, g4, o, k _ _ (ne (F₁.ce x c g4).1) g5, g6⟩
    lo := asd (ne F₁.lo) F.lo
    ce := fun x c e => by
      obtain ⟨A, h1, v, o, h2, h3⟩ := F.ce x c e
      have hn := ne (F₁.ce x c e).1
      exact ⟨asd hn A, h1, v, o, k _ _ hn h2, h3⟩
    cd := F.cd
    cl := F.cl
    inn := fun I e => by
      obtain ⟨K, h1, h2, h3⟩ := F.inn I e
      obtain ⟨K₁, _⟩ := F₁.inn I e
      refine ⟨⟨K.fn, K.fd, ⟨let ⟨o, a, b⟩ := K.me.1; ⟨o, k _ _ (ne K₁.me.2) a, b⟩, asd (ne K₁.me.2) K.me.2⟩, fun q hq => ?_⟩, h1, h2, h3⟩
      obtain ⟨⟨u, r, o, a, b⟩, A⟩ := K.cs q hq
      have hn := ne (K₁.cs q hq).2
      exact ⟨⟨u, r, o, k _ _ hn a, b⟩, asd hn A⟩ }

noncomputable def stOk (sc : Scope) (ns : List Str) (act : List Nat) (inn : Bool) (k : Nat) (x : Str) : Bool :=
  decide (ns[k]? = some x) && act.contains k && (act.all fun j => decide (ns[j]? ≠ some x) || decide (j = k)) &&
  (decide (sc.names.lookup x = some .local) || (!inn && decide (sc.names.lookup x = some .cell)))

theorem name_store {M : Model} {A : Around} {E : Value → Shared → Prop} {s : Shared} {Q : Unit → Shared → Prop} {k : Nat} {x : Str} {v : Value} {U : V} (F : Fra W io ns act env P ad σ en s.heap) (S : Sto W P ad σ s.heap) (ho : stOk env.scope ns act io.isSome k x = true)
    (rv : RV W P ad σ.length v U)
    (q : ∀ h' tk, Eff W (Xf env) P ad σ s.heap P ad σ h' → Fra W io ns act env P ad σ (eput en k (some U)) h' → Q () { s with heap := h', toks := tk }) : wpAny M A (storeName env x v) Q E s := by
  unfold stOk at ho
  simp only [Bool.and_eq_true, decide_eq_true_eq, Bool.or_eq_true, Bool.not_eq_true'] at ho
  obtain ⟨⟨⟨hx, hk⟩, hd⟩, hl⟩ := ho
  have hk : k ∈ act := by simpa using hk
  have hd : ∀ j ∈ act, ns[j]? = some x → j = k := fun j hj e => by
    have := List.all_eq_true.mp hd j hj
    simp only [Bool.or_eq_true, decide_eq_true_eq] at this
    rcases this with z | z
    · exact absurd e z
    · exact z
  rcases hl with hl | ⟨hi, hl⟩
  · obtain ⟨m, hm, _⟩ := F.slot
    refine wpAny_storeName_local hl hm (fun h' hn hs => ?_) (by rw [F.hk]; rfl)
    exact q h' _ (Eff.turn S F.lo (.inl rfl) (fun b o z e => hs.extBut b o z e) (by obtain ⟨o, _, _, e, _⟩ := hn; exact ⟨o, e⟩)) (F.storeL S hx hk hd hl rv hm hn hs)
  · cases io with
    | some I => cases hi
    | none =>
      obtain ⟨c, hc⟩ := F.cl x (by show isCell (env.scope.names.lookup x) = true; rw [hl]; rfl)
      obtain ⟨A', h1, u, hu⟩ := F.ce x c hc
      refine wpAny_storeName_cell F.hk hl hc hu fun h' hn hs => ?_
      exact q h' s.toks (Eff.turn S A' (.inr ⟨x, hl, hc⟩) (fun b o z e => hs.extBut b o z e) (by obtain ⟨o, e, _⟩ := hn; exact ⟨o, e⟩)) (F.storeC S hx hk hd hl hc rv hn hs)

theorem Sto.put (S : Sto W P ad σ h) {j : Nat} {xs ys : List PyData} {vs : Array Value} {n : Nat} (e : sget σ j = .l xs) (k : ∀ b o, b ≠ ad j → h.get? b = some o → h'.get? b = some o) (e' : h'.get? (ad j) = some (lstO vs n)) (r : RdL P vs.toList ys) :
    Sto W P ad (sput σ j (.l ys)) h' := by
  have hl : sget σ j ≠ .x := by rw [e]; exact nofun
  have hj := sget_lt hl
  have lv : ∀ i, sget (sput σ j (.l ys)) i ≠ .x → sget σ i ≠ .x := fun i q => by
    by_cases z : i = j
    · subst z; exact hl
    · rwa [sget_put_ne z] at q
  exact {
    base := S.base
    sub := fun b o q => k b o (fun z => by rw [z, (S.out j hl).1] at q; cases q) (S.sub b o q)
    tab := S.tab.step (fun q hq o z => k _ _ (fun w => (S.out j hl).2 (w ▸ List.mem_map_of_mem hq)) z) (.refl _) S.tab.none
    ls := fun i zs q => by
      by_cases z : i = j
      · subst z; rw [sget_put_eq hj] at q; cases q; exact ⟨vs, n, e', r⟩
      · rw [sget_put_ne z] at q
        obtain ⟨ws, n', h1, h2⟩ := S.ls i zs q
        exact ⟨ws, n', k _ _ (fun w => z (S.inj i j (by rw [q]; exact nofun) hl w)) h1, h2⟩
    is := fun i fs q => by
      by_cases z : i = j
      · subst z; rw [sget_put_eq hj] at q; cases q
      · rw [sget_put_ne z] at q
        obtain ⟨od, h1, h2⟩ := S.is i fs q
        exact ⟨od, k _ _ (fun w => z (S.inj i j (by rw [q]; exact nofun) hl w)) h1, h2⟩
    out := fun i q => S.out i (lv i q)
    inj := fun i i' q q' w => S.inj i i' (lv i q) (lv i' q') w }
theorem Eff.put (S : Sto W P ad σ h) {X : Addr → Prop} {j : Nat} {xs ys : List PyData} {vs : Array Value} {n : Nat} (e : sget σ j = .l xs) (k : ∀ b o, b ≠ ad j → h.get? b = some o → h'.get? b = some o) (e' : h'.get? (ad j) = some (lstO vs n)) (r : RdL P vs.toList ys) :
    Eff W X P ad σ h P ad (sput σ j (.l ys)) h' where
  le := .refl _
  keep := fun b o _ _ h3 q => k b o (h3 j (by rw [e]; exact nofun)) q
  stay := fun b o q => by
    by_cases z : b = ad j
    · exact z ▸ ⟨_, e'⟩
    · exact ⟨o, k b o z q⟩
  adk := fun _ _ => rfl
  len := by rw [sput_len]; exact Nat.le_refl _
  lv := fun i _ q => by
    by_cases z : i = j
    · subst z; rw [e]; exact nofun
    · rwa [sget_put_ne z] at q
  newP := fun b q => .inl q
  newA := fun i hi q => absurd (sget_lt q) (by rw [sput_len]; exact Nat.not_lt.mpr hi)
  sto := S.put e k e' r
theorem EfE.put (C : Cx W env.locals P ad σ h) {j : Nat} {xs ys : List PyData} {vs : Array Value} {n : Nat} (e : sget σ j = .l xs) (k : ∀ b o, b ≠ ad j → h.get? b = some o → h'.get? b = some o) (e' : h'.get? (ad j) = some (lstO vs n)) (r : RdL P vs.toList ys) :
    EfE W env.locals P ad σ h P ad (sput σ j (.l ys)) h' :=
  ⟨.put C.sto e k e' r, fun m ⟨o, es, ep, q, z⟩ => ⟨o, es, ep, k _ _ (C.lo.o j (by rw [e]; exact nofun)) q, z⟩⟩
end

theorem upd_lst {h : Heap} {a : Addr} {vs : Array Value} {n : Nat} (f : Array Value → Array Value) (e : h.get? a = some (lstO vs n)) : ∃ n', (h.update a (Obj.mapSeq f)).get? a = some (lstO (f vs) n') :=
  ⟨_, Heap.get?_update_self _ e rfl⟩
theorem upd_ne {h : Heap} {a b : Addr} {f : Obj → Obj} {o : Obj} (hb : b ≠ a) (e : h.get? b = some o) : (h.update a f).get? b = some o := by rw [Heap.get?_update_other _ _ (Ne.symm hb)]; exact e
end Mine
end
section
open PySem PySem.W PyProof.Rows PySem.Calls
namespace Mine

noncomputable def notComp (e : Expr) : Bool := by
  cases e with
  | ListComp => exact false
  | SetComp => exact false
  | DictComp => exact false
  | _ => exact true
noncomputable def notTup (e : Expr) : Bool := by
  cases e with
  | Tuple => exact false
  | _ => exact true
noncomputable def okTs (sc : Scope) (ns : List Str) (act : List Nat) (inn : Bool) : List Nat → List Expr → Bool
  | [], [] => true
  | k :: ks, t :: ts => xNam t (fun x => stOk sc ns act inn k x) && okTs sc ns act inn ks ts
  | _, _ => false
noncomputable def sApp : Str := Str.ofString "append"
noncomputable def sPop : Str := Str.ofString "pop"
noncomputable def sRvs : Str := Str.ofString "reverse"

noncomputable def yAsg (e : Stmt) (f : List Expr → Expr → Bool) : Bool := by
  cases e with
  | Assign l v _ => exact f l v
  | _ => exact false
@[elab_as_elim] theorem yAsg_e {e : Stmt} {f : List Expr → Expr → Bool} {C : Stmt → Prop} (h : yAsg e f = true) (k : ∀ l v p, f l v = true → C (.Assign l v p)) : C e := by
  cases e <;> first | exact k _ _ _ h | exact ftE h
noncomputable def yExp (e : Stmt) (f : Expr → Bool) : Bool := by
  cases e with
  | Expr v _ => exact f v
  | _ => exact false
@[elab_as_elim] theorem yExp_e {e : Stmt} {f : Expr → Bool} {C : Stmt → Prop} (h : yExp e f = true) (k : ∀ v p, f v = true → C (.Expr v p)) : C e := by
  cases e <;> first | exact k _ _ h | exact ftE h
noncomputable def yIf (e : Stmt) (f : Expr → List Stmt → List Stmt → Bool) : Bool := by
  cases e with
  | If x a b _ => exact f x a b
  | _ => exact false
@[elab_as_elim] theorem yIf_e {e : Stmt} {f : Expr → List Stmt → List Stmt → Bool} {C : Stmt → Prop} (h : yIf e f = true) (k : ∀ x a b p, f x a b = true → C (.If x a b p)) : C e := by
  cases e <;> first | exact k _ _ _ _ h | exact ftE h
noncomputable def yFor (e : Stmt) (f : Expr → Expr → List Stmt → List Stmt → Bool) : Bool := by
  cases e with
  | For x a b c _ => exact f x a b c
  | _ => exact false
@[elab_as_elim] theorem yFor_e {e : Stmt} {f : Expr → Expr → List Stmt → List Stmt → Bool} {C : Stmt → Prop} (h : yFor e f = true) (k : ∀ x a b c p, f x a b c = true → C (.For x a b c p)) : C e := by
  cases e <;> first | exact k _ _ _ _ _ h | exact ftE h
noncomputable def yWhl (e : Stmt) (f : Expr → List Stmt → List Stmt → Bool) : Bool := by
  cases e with
  | While x a b _ => exact f x a b
  | _ => exact false
@[elab_as_elim] theorem yWhl_e {e : Stmt} {f : Expr → List Stmt → List Stmt → Bool} {C : Stmt → Prop} (h : yWhl e f = true) (k : ∀ x a b p, f x a b = true → C (.While x a b p)) : C e := by
  cases e <;> first | exact k _ _ _ _ h | exact ftE h
noncomputable def yRet (e : Stmt) (f : Option Expr → Bool) : Bool := by
  cases e with
  | Return x _ => exact f x
  | _ => exact false
@[elab_as_elim] theorem yRet_e {e : Stmt} {f : Option Expr → Bool} {C : Stmt → Prop} (h : yRet e f = true) (k : ∀ x p, f x = true → C (.Return x p)) : C e := by
  cases e <;> first | exact k _ _ h | exact ftE h
noncomputable def yBrk (e : Stmt) : Bool := by
  cases e with
  | Break => exact true
  | _ => exact false
@[elab_as_elim] theorem yBrk_e {e : Stmt} {C : Stmt → Prop} (h : yBrk e = true) (k : ∀ p, C (.Break p)) : C e := by
  cases e <;> first | exact k _ | exact ftE h
noncomputable def oS (x : Option Expr) (f : Expr → Bool) : Bool := match x with | some v => f v | none => false
@[elab_as_elim] theorem oS_e {x : Option Expr} {f : Expr → Bool} {C : Option Expr → Prop} (h : oS x f = true) (k : ∀ v, f v = true → C (some v)) : C x := by
  cases x with
  | some v => exact k v h
  | none => exact ftE h
noncomputable def oN (x : Option Expr) : Bool := match x with | some _ => false | none => true
@[elab_as_elim] theorem oN_e {x : Option Expr} {C : Option Expr → Prop} (h : oN x = true) (k : C none) : C x := by
  cases x with
  | some v => exact ftE h
  | none => exact k
noncomputable def yAs1 (e : Stmt) (f : Expr → Expr → Bool) : Bool := yAsg e fun l v => k1 l fun t => f t v
@[elab_as_elim] theorem yAs1_e {e : Stmt} {f : Expr → Expr → Bool} {C : Stmt → Prop} (h : yAs1 e f = true) (k : ∀ t v p, f t v = true → C (.Assign [t] v p)) : C e :=
  yAsg_e h fun l v p h => k1_e (l := l) (C := fun l => C (.Assign l v p)) h fun t h => k t v p h
noncomputable def isDead (p : PS) : Bool := by
  cases p with
  | dead => exact true
  | _ => exact false
mutual
noncomputable def okS (sc : Scope) (ns : List Str) (act : List Nat) (inn : Bool) : PS → Stmt → Bool
  | .asg k e, st => yAs1 st fun t v => xNam t fun x => stOk sc ns act inn k x && okE sc ns e v
  | .unp ks e, st => yAs1 st fun t v => xTup t fun ts => notTup v && notComp v && okTs sc ns act inn ks ts && okE sc ns e v
  | .unpT ks l, st => yAs1 st fun t v => xTup t fun ts => xTup v fun vs => !(vs.all (constantsAlone 8)) && decide (ts.length ≠ 3) && decide (ks.Nodup ∧ ks.length < 30) && okTs sc ns act inn ks ts && okL sc ns l vs
  | .asgN ks e, st => yAsg st fun l v => kC l fun t1 r => kC r fun t2 ts => notTup v && okTs sc ns act inn ks (t1 :: t2 :: ts) && okE sc ns e v
  | .setF o k e, st => yAs1 st fun t v => xAtt t fun x m _ => decide (fldN[k]? = some m) && notComp v && okE sc ns o x && okE sc ns e v
  | .setI o i e, st => yAs1 st fun t v => xSub t fun x y => notComp v && notSl y && okE sc ns o x && okE sc ns i y && okE sc ns e v
  | .app o e, st => yExp st fun v => xCM v fun x m as => k1 as fun y => decide (m = sApp) && notStar y && okE sc ns o x && okE sc ns e y
  | .pop o, st => yExp st fun v => xCM v fun x m as => k0 as (decide (m = sPop) && okE sc ns o x)
  | .rvs o, st => yExp st fun v => xCM v fun x m as => k0 as (decide (m = sRvs) && okE sc ns o x)
  | .ex e, st => yExp st fun v => notComp v && okE sc ns e v
  | .ifs c t e, st => yIf st fun x b o => okE sc ns c x && okBl sc ns act inn t b && okBl sc ns act inn e o
  | .for_ k src b, st => yFor st fun t it body z => k0 z (xNam t fun y => stOk sc ns act inn k y && notSet it && okI sc ns src it && okBl sc ns act inn b body)
  | .whl c b, st => yWhl st fun t body z => k0 z (okE sc ns c t && okBl sc ns act inn b body)
  | .ret e, st => yRet st fun x => oS x fun v => okE sc ns e v
  | .ret0, st => yRet st oN
  | .brk, st => yBrk st
  | .dead, _ => true
  | .defI _, _ => false
noncomputable def okBl (sc : Scope) (ns : List Str) (act : List Nat) (inn : Bool) : PB → List Stmt → Bool
  | .nil, l => k0 l true
  | .cons s b, l => isDead s || kC l fun st r => okS sc ns act inn s st && okBl sc ns act inn b r
end

inductive FlR (W : Wo) (P : PM) : Fl → Flow → Prop
  | next : FlR W P .next .next
  | brk : FlR W P .brk .brk
  | ret {V v} : RV W P a0 0 v V → FlR W P (.ret V) (.ret v)

noncomputable def KontS (W : Wo) (io : Option Inn) (ns : List Str) (act : List Nat) (env : Env) (P : PM) (ad : Nat → Addr) (σ : Sg) (s : Shared) (fl : Fl) (en' : En) (σ' : Sg) (Q : Flow → Shared → Prop) : Prop :=
  ∀ fv h' tk P' ad', Eff W (Xf env) P ad σ s.heap P' ad' σ' h' → Fra W io ns act env P' ad' σ' en' h' → FlR W P' fl fv → Q fv { s with heap := h', toks := tk }

noncomputable def SS {W : Wo} (X : Fx W) (n : Nat) (S : Sem) (ps : PS) : Prop :=
  ∀ (st : Stmt) (io : Option Inn) (ns : List Str) (act : List Nat) (sc : Scope) (A : Around) (env : Env) (P : PM) (ad : Nat → Addr) (σ : Sg) (en : En) (s : Shared) (fl : Fl) (en' : En) (σ' : Sg) (E : Value → Shared → Prop) (Q : Flow → Shared → Prop),
    HPsi X n S io → okS sc ns act io.isSome ps st = true → At W n io ns act sc A env P ad σ en s.heap → evS S ps en σ = some (fl, en', σ') → KontS W io ns act env P ad σ s fl en' σ' Q →
    wpAny (model X.prog W.w) A (exec st env) Q E s
noncomputable def SB {W : Wo} (X : Fx W) (n : Nat) (S : Sem) (pb : PB) : Prop :=
  ∀ (sts : List Stmt) (io : Option Inn) (ns : List Str) (act : List Nat) (sc : Scope) (A : Around) (env : Env) (P : PM) (ad : Nat → Addr) (σ : Sg) (en : En) (s : Shared) (fl : Fl) (en' : En) (σ' : Sg) (E : Value → Shared → Prop) (Q : Flow → Shared → Prop),
    HPsi X n S io → okBl sc ns act io.isSome pb sts = true → At W n io ns act sc A env P ad σ en s.heap → evBl S pb en σ = some (fl, en', σ') → KontS W io ns act env P ad σ s fl en' σ' Q →
    wpAny (model X.prog W.w) A (execs sts env) Q E s

section
variable {W : Wo} {io : Option Inn} {ns : List Str} {act : List Nat} {env : Env} {P : PM} {ad : Nat → Addr} {σ : Sg} {en : En} {s : Shared}
theorem KontS.next {fl : Fl} {en' : En} {σ' : Sg} {Q : Flow → Shared → Prop} (k : KontS W io ns act env P ad σ s fl en' σ' Q) {P₁ ad₁ σ₁ h₁ tk₁} (f : Eff W (Xf env) P ad σ s.heap P₁ ad₁ σ₁ h₁) :
    KontS W io ns act env P₁ ad₁ σ₁ { s with heap := h₁, toks := tk₁ } fl en' σ' Q := fun fv h' tk P' ad' f' F' r => k fv h' tk P' ad' (f.tr f') F' r
theorem KontS.to {fl fl₁ : Fl} {en₁ en' : En} {σ₁ σ' : Sg} {Q : Flow → Shared → Prop} (k : KontS W io ns act env P ad σ s fl en' σ' Q) (e : some (fl₁, en₁, σ₁) = some (fl, en', σ')) : KontS W io ns act env P ad σ s fl₁ en₁ σ₁ Q := by cases e; exact k
theorem At.of {n : Nat} {sc : Scope} {A : Around} (a : At W n io ns act sc A env P ad σ en s.heap) {P' ad' σ' en' h'} (S : Sto W P' ad' σ' h') (F : Fra W io ns act env P' ad' σ' en' h') : At W n io ns act sc A env P' ad' σ' en' h' := ⟨S, F, a.sc, a.aok⟩

theorem swaps_no {v : Expr} (h : notComp v = true) (t : Option Expr) (line : Nat) (env : Env) : swapsWith v t line env = pure false := by
  cases v <;> first | rfl | cases h
theorem swaps_two (v : Expr) {t1 t2 : Expr} {ts : List Expr} (line : Nat) (env : Env) : swapsWithSole (t1 :: t2 :: ts) v line env = pure false := rfl
theorem swaps_pure (v : Expr) (x : Str) (p : Pos) (line : Nat) (hk : env.scope.kind = .function) : (swapsWith v (some (.Name x p)) line env = pure false) ∨ (swapsWith v (some (.Name x p)) line env = pure true ∧ env.kindOf x = some .local) := by
  unfold swapsWith
  have key : ∀ (c : Scope), (do (some c).elim (pure false) (fun sc => pure (env.blockKind == .function && env.kindOf x == some .local && p.line == v.pos.line && !(sc.names.any fun (n, k) => n == x && (k == .local || k == .cell)))) : PySem.Sem Bool) = pure false ∨
      ((do (some c).elim (pure false) (fun sc => pure (env.blockKind == .function && env.kindOf x == some .local && p.line == v.pos.line && !(sc.names.any fun (n, k) => n == x && (k == .local || k == .cell)))) : PySem.Sem Bool) = pure true ∧ env.kindOf x = some .local) := fun c => by
    cases hb : (env.blockKind == .function && env.kindOf x == some .local && p.line == v.pos.line && !(c.names.any fun (n, k) => n == x && (k == .local || k == .cell))) with
    | false => exact .inl (by show pure _ = _; rw [hb])
    | true =>
      refine .inr ⟨by show pure _ = _; rw [hb], ?_⟩
      simp only [Bool.and_eq_true, beq_iff_eq] at hb
      exact hb.1.1.2
  cases v <;> first | exact .inl rfl | exact key _
end
end Mine
end
section
open PySem PySem.W PyProof.Rows PySem.Calls
namespace Mine
variable {W : Wo} (X : Fx W) (n : Nat) (S : Sem)
noncomputable def isLc (p : PE) : Bool := by
  cases p with
  | lc => exact true
  | _ => exact false
theorem okE_nc {sc : Scope} {ns : List Str} {e : PE} {v : Expr} (h : okE sc ns e v = true) (he : isLc e = false) : notComp v = true := by
  cases v with
  | ListComp => cases e <;> first | exact nomatch (show true = false from he) | exact nomatch (show false = true from h)
  | SetComp => cases e <;> exact nomatch (show false = true from h)
  | DictComp => cases e <;> exact nomatch (show false = true from h)
  | _ => rfl

theorem ss_asg (hS : SemOK X n S) (k : Nat) (e : PE) : SS X n S (.asg k e) := fun st io ns act sc A env P ad σ en s fl en' σ' E Q hi ho at_ he kq =>
  yAs1_e ho fun t v pos ho => xNam_e ho fun x px ho => and2e ho fun h1 h2 => b2e ((s_asg ..).symm.trans he) fun u σ₁ e1 he => by
    have kq := kq.to he
    have plain : swapsWith v (some (.Name x px)) pos.line env = pure false → wpAny (model X.prog W.w) A (exec (.Assign [.Name x px] v pos) env) Q E s := fun hs =>
      wpAny_Assign_Name (sound_E X n e S hS _ io ns act sc A env P ad σ en s u σ₁ E _ hi h2 at_ e1 fun v₁ h₁ tk₁ P₁ ad₁ f₁ r₁ =>
        name_store (s := { s with heap := h₁, toks := tk₁ }) (at_.fra.efe f₁) f₁.eff.sto (at_.sc.symm ▸ h1) r₁ fun h' tk f F' => kq _ h' tk P₁ ad₁ (f₁.xf.tr f) F' .next) hs
    rcases swaps_pure (env := env) v x px pos.line at_.fra.hk with hs | ⟨hs, hloc⟩
    · exact plain hs
    · -- a comprehension's store
      cases hl : isLc e with
      | false => exact plain (swaps_no (okE_nc h2 hl) _ _ _)
      | true =>
      cases e with
      | lc elt j src c cap =>
        obtain ⟨e1', y, py, iter, ifs, scope, lpos, ys, rfl, rfl, core⟩ := lc_core X n S elt j src c cap (sound_I X n src S hS) (sound_E X n elt S.cut (semCut hS)) (sound_T X n c S.cut (semCut hS)) v io ns act sc A env P ad σ en s u σ₁ E hi h2 at_ e1
        rw [exec_Assign_Name_used _ _ _ _ hs]
        refine wpAny_bind (wpAny_standAt (wpAny_bind ?_))
        show wpAny _ A (do let _ ← comprehension (.ListComp e1' [⟨.Name y py, iter, ifs, 0⟩] scope lpos) scope env _ (newList []) false (eval iter env) (some (assign (.Name x px) env))) _ _ s
        refine wpAny_bind (wpAny_mono (core _ (some (assign (.Name x px) env)) (fun _ s' => Q .next s') fun D C P₁ ad₁ h₁ h' tk' P' mC f₁ fC nC f₂ pC rd => ?_) (fun _ s' hq => wpAny_pure (wpAny_pure hq)) fun _ _ q => q)
        have at1 := at_.efe f₁
        have at2 := at1.efe f₂
        have tC : C ∉ W.ts := fun q => by obtain ⟨o, e⟩ := at1.sto.tabs C q; rw [fC] at e; cases e
        have aC : Aside W P' ad₁ σ₁ h' C := ⟨pC, tC, (fun j hj q => by obtain ⟨o, e⟩ := at1.sto.live hj; rw [← q, fC] at e; cases e), (by obtain ⟨o, _, _, e, _⟩ := nC; exact ⟨o, e⟩)⟩
        show wpAny _ A (assign (.Name x px) env (.ref D)) _ _ _
        refine wpAny_assign_Name (name_store (s := { s with heap := h', toks := tk' }) at2.fra at2.sto (at_.sc.symm ▸ h1) (.d rd) fun h₃ tk₃ f₃ F₃ => ?_)
        have hCL : C ≠ env.locals := fun q => by
          obtain ⟨o, e⟩ := at1.fra.lo.e; rw [← q, fC] at e; cases e
        have hCX : ¬ Xf env C := fun q => by
          rcases q with q | ⟨z, _, q⟩
          · exact hCL q
          · obtain ⟨A', _⟩ := at1.fra.ce z C q
            obtain ⟨o, e⟩ := A'.e; rw [fC] at e; cases e
        refine ⟨mC, by obtain ⟨o, es, ep, e, r⟩ := nC; exact ⟨o, es, ep, f₃.keep _ _ hCX tC aC.o e, r⟩, fun h₄ hs₄ => ?_⟩
        have aC3 := aC.eff f₃
        have k4 : ∀ b o, b ≠ C → h₃.get? b = some o → h₄.get? b = some o := fun b o q e => hs₄.extBut b o q e
        have fC0 : s.heap.get? C = none := none_of f₁.eff.stay fC
        exact kq .next h₄ tk₃ P' ad₁ (((f₁.xf.tr f₂.xf).tr f₃).off fC0 aC3.p aC3.t aC3.o k4) (Fra.off at1.fra fC F₃ k4) .next
      | _ => exact ftE hl
end Mine
end
section
open PySem PySem.W PyProof.Rows PySem.Calls
namespace Mine

theorem okTs_cons {sc : Scope} {ns : List Str} {act : List Nat} {inn : Bool} {k : Nat} {ks : List Nat} {t : Expr} {ts : List Expr} (h : okTs sc ns act inn (k :: ks) (t :: ts) = true) : ∃ x p, t = .Name x p ∧ stOk sc ns act inn k x = true ∧ okTs sc ns act inn ks ts = true :=
  have h : (xNam t (fun x => stOk sc ns act inn k x) && okTs sc ns act inn ks ts) = true := h
  and2e h fun h1 h2 => xNam_e (C := fun t => ∃ x p, t = .Name x p ∧ stOk sc ns act inn k x = true ∧ okTs sc ns act inn ks ts = true) h1 fun x p h1 => ⟨x, p, rfl, h1, h2⟩
theorem okTs_each {sc : Scope} {ns : List Str} {act : List Nat} {inn : Bool} (env : Env) : ∀ {ks : List Nat} {ts : List Expr}, okTs sc ns act inn ks ts = true → (∀ p ∈ assignEach ts env, p.1 = false) ∧ (assignEach ts env).length = ts.length ∧ ks.length = ts.length
  | [], [], _ => ⟨(fun _ h => by cases h), rfl, rfl⟩
  | [], _ :: _, h => ftE h
  | _ :: _, [], h => ftE h
  | k :: ks, t :: ts, h => by
    obtain ⟨x, p, rfl, h1, h2⟩ := okTs_cons h
    obtain ⟨a, b, c⟩ := okTs_each env h2
    refine ⟨fun q hq => ?_, ?_, ?_⟩
    · rcases List.mem_cons.mp hq with rfl | hq
      · rfl
      · exact a q hq
    · show (assignEach ts env).length + 1 = _; rw [b]; rfl
    · show ks.length + 1 = _; rw [c]; rfl
theorem putAll_len : ∀ {ks : List Nat} {Vs : List V} {en en' : En}, putAll ks Vs en = some en' → ks.length = Vs.length
  | [], [], _, _, _ => rfl
  | [], _ :: _, _, _, h => by cases h
  | _ :: _, [], _, _, h => by cases h
  | _ :: ks, _ :: Vs, _, _, h => by
    show ks.length + 1 = Vs.length + 1
    rw [putAll_len (ks := ks) h]

section
variable {W : Wo} {io : Option Inn} {ns : List Str} {act : List Nat} {env : Env} {P : PM} {ad : Nat → Addr} {σ : Sg} {M : Model} {A : Around} {E : Value → Shared → Prop}
theorem okTs_nil {sc : Scope} {inn : Bool} {ts : List Expr} (h : okTs sc ns act inn [] ts = true) : ts = [] := by
  cases ts with
  | nil => rfl
  | cons => exact ftE h
theorem okTs_c {sc : Scope} {inn : Bool} {k : Nat} {ks : List Nat} {ts : List Expr} (h : okTs sc ns act inn (k :: ks) ts = true) : ∃ x p r, ts = .Name x p :: r ∧ stOk sc ns act inn k x = true ∧ okTs sc ns act inn ks r = true := by
  cases ts with
  | nil => exact ftE h
  | cons t r =>
    obtain ⟨x, p, rfl, h1, h2⟩ := okTs_cons h
    exact ⟨x, p, r, rfl, h1, h2⟩
theorem stores_ok {Q : Unit → Shared → Prop} (ks : List Nat) : ∀ (ts : List Expr) (vals : List Value) (Vs : List V) (en en' : En) (s : Shared), okTs env.scope ns act io.isSome ks ts = true → putAll ks Vs en = some en' → RVs W P ad σ.length vals Vs →
    Fra W io ns act env P ad σ en s.heap → Sto W P ad σ s.heap → (∀ h' tk, Eff W (Xf env) P ad σ s.heap P ad σ h' → Fra W io ns act env P ad σ en' h' → Q () { s with heap := h', toks := tk }) →
    wpAny M A (assignInOrder ((assignEach ts env).map (·.2)) vals) Q E s := by
  induction ks with
  | nil =>
    intro ts vals Vs en en' s h hp r F S k
    cases okTs_nil h
    cases r with
    | nil => cases hp; exact assignInOrder_nil (k s.heap s.toks (.refl S) F)
    | cons => cases hp
  | cons j ks ih =>
    intro ts vals Vs en en' s h hp r F S k
    obtain ⟨x, p, ts, rfl, h1, h2⟩ := okTs_c h
    cases r with
    | nil => cases hp
    | cons r rs => exact assignInOrder_cons (wpAny_assign_Name (name_store F S h1 r fun h' tk f F' => ih ts _ _ _ en' { s with heap := h', toks := tk } h2 hp rs F' f.sto fun h'' tk' f' F'' => k h'' tk' (f.tr f') F''))
theorem storesAll_ok {Q : Unit → Shared → Prop} {v : Value} {V : V} (r : RV W P ad σ.length v V) (ks : List Nat) : ∀ (ts : List Expr) (en : En) (s : Shared), okTs env.scope ns act io.isSome ks ts = true →
    Fra W io ns act env P ad σ en s.heap → Sto W P ad σ s.heap → (∀ h' tk, Eff W (Xf env) P ad σ s.heap P ad σ h' → Fra W io ns act env P ad σ (putEach V ks en) h' → Q () { s with heap := h', toks := tk }) →
    wpAny M A (assignAll v ((assignEach ts env).map (·.2))) Q E s := by
  induction ks with
  | nil =>
    intro ts en s h F S k
    cases okTs_nil h
    exact wpAny_pure (k s.heap s.toks (.refl S) F)
  | cons j ks ih =>
    intro ts en s h F S k
    obtain ⟨x, p, ts, rfl, h1, h2⟩ := okTs_c h
    cases ks with
    | nil =>
      cases okTs_nil h2
      exact wpAny_assign_Name (name_store F S h1 r fun h' tk f F' => k h' tk f F')
    | cons j' ks =>
      obtain ⟨x', p', ts, rfl, _, _⟩ := okTs_c h2
      exact wpAny_bind (wpAny_holding (wpAny_assign_Name (name_store F S h1 r fun h' tk f F' => ih (.Name x' p' :: ts) _ { s with heap := h', toks := tk } h2 F' f.sto fun h'' tk' f' F'' => k h'' tk' (f.tr f') F'')))

theorem ext_ok {en : En} {h h' : Heap} {C : Addr} (F : Fra W io ns act env P ad σ en h) (S : Sto W P ad σ h) (fC : h.get? C = none) (k : ∀ b o, b ≠ C → h.get? b = some o → h'.get? b = some o) :
    Eff W (Xf env) P ad σ h P ad σ h' ∧ Fra W io ns act env P ad σ en h' := by
  have tC : C ∉ W.ts := fun q => by obtain ⟨o, e⟩ := S.tabs C q; rw [fC] at e; cases e
  exact ⟨Eff.off (.refl S) fC (S.p_none fC) tC (fun j hj q => by obtain ⟨o, e⟩ := S.live hj; rw [← q, fC] at e; cases e) k, Fra.off F fC F k⟩

theorem swapped_none {ts : List Expr} {kx : Nat} {px : Pos} {v : Expr} (h : notTup v = true) (env : Env) : swappedStores [.Tuple ts kx px] v env = pure none := by
  cases v <;> first | exact ftE h | rfl
end

section
variable {W : Wo} (X : Fx W) (n : Nat) (S : Sem)
theorem rv_tup {P : PM} {ad : Nat → Addr} {m : Nat} {vs : List Value} {xs : List PyData} (h : RdL P vs xs) : RVs W P ad m vs (xs.map .d) := h.ind .nil fun a _ ih => .cons (.d a) ih

theorem ss_unp (hS : SemOK X n S) (ks : List Nat) (e : PE) : SS X n S (.unp ks e) := fun st io ns act sc A env P ad σ en s fl en' σ' E Q hi ho at_ he kq =>
  yAs1_e ho fun t v pos ho => xTup_e ho fun ts kx px ho => and4e ho fun h1 h2 h3 h4 => Assign_Tuple ((sound_E X n e S hS).use hi at_ h4 ((s_unp ..).symm.trans he) fun V₁ σ₁ he v₁ h₁ tk₁ P₁ ad₁ f₁ at1 r₁ => b1e he fun d hd he => b1e he fun xs hxs he => b1e he fun en₁ e2 he => by
      have kq := kq.to he
      have r₁ := r₁.ofD hd
      rw [dTup_i hxs] at r₁
      cases r₁ with | @tuple a o vs m xs g1 g2 g3 g4 =>
      obtain ⟨l1, l2, l3⟩ := okTs_each env h3
      refine wpAny_assign_Tuple at_.aok.h (s := { s with heap := h₁, toks := tk₁ }) (items := vs) ⟨o, at1.sto.sub _ _ g1, g2, m, g3⟩ (by rw [l2, ← l3, putAll_len e2, List.length_map, ← g4.length, Array.length_toList]) (List.findIdx?_eq_none_iff.mpr l1) fun h' ex => ?_
      obtain ⟨f₂, F₂⟩ := ext_ok at1.fra at1.sto (none_size _) (fun b o q e => ex b o q e)
      exact stores_ok (s := { s with heap := h', toks := tk₁ }) ks ts _ _ en _ (at_.sc.symm ▸ h3) e2 (rv_tup g4) F₂ f₂.sto fun h'' tk f F' => kq _ h'' tk P₁ ad₁ ((f₁.xf.tr f₂).tr f) F' .next)
    (swaps_no h2 (some (.Tuple ts kx px)) pos.line env : swapsWith v (some (.Tuple ts kx px)) pos.line env = pure false) (swapped_none h1 env)

theorem ss_asgN (hS : SemOK X n S) (ks : List Nat) (e : PE) : SS X n S (.asgN ks e) := fun st io ns act sc A env P ad σ en s fl en' σ' E Q hi ho at_ he kq =>
  yAsg_e ho fun l v pos ho => kC_e ho fun t1 r ho => kC_e ho fun t2 ts ho => and3e ho fun h1 h2 h3 => wpAny_Assign_stores ((sound_E X n e S hS).use hi at_ h3 ((s_asgN ..).symm.trans he) fun V₁ σ₁ he v₁ h₁ tk₁ P₁ ad₁ f₁ at1 r₁ => b1e he fun d hd he =>
      storesAll_ok (s := { s with heap := h₁, toks := tk₁ }) (vd_i hd ▸ r₁) ks _ en (at_.sc.symm ▸ h2) at1.fra at1.sto fun h'' tk f F' => kq.to he _ h'' tk P₁ ad₁ (f₁.xf.tr f) F' .next)
    (swaps_two v pos.line env) (by cases t1 <;> rfl)

theorem ss_ex (hS : SemOK X n S) (e : PE) : SS X n S (.ex e) := fun st io ns act sc A env P ad σ en s fl en' σ' E Q hi ho at_ he kq =>
  yExp_e ho fun v pos ho => and2e ho fun h1 h2 => wpAny_Expr_any ((sound_E X n e S hS).use hi at_ h2 ((s_ex ..).symm.trans he) fun V₁ σ₁ he v₁ h₁ tk₁ P₁ ad₁ f₁ at1 r₁ => kq.to he _ h₁ tk₁ P₁ ad₁ f₁.xf at1.fra .next)
    (by unfold interactive; rw [at_.fra.hk]; rfl) (swaps_no h1 _ _ _)

theorem ss_ret (hS : SemOK X n S) (e : PE) : SS X n S (.ret e) := fun st io ns act sc A env P ad σ en s fl en' σ' E Q hi ho at_ he kq =>
  yRet_e ho fun x pos ho => oS_e ho fun v ho => wpAny_Return_some ((sound_E X n e S hS).use hi at_ ho ((s_ret ..).symm.trans he) fun V₁ σ₁ he v₁ h₁ tk₁ P₁ ad₁ f₁ at1 r₁ => b2e he fun u' σ₂ e2 he => by
    obtain ⟨P₂, f₂, r₂, sh⟩ := frz_ok at1.cx r₁ e2
    exact kq.to he _ h₁ tk₁ P₂ ad₁ (f₁.trans f₂).xf (at1.efe f₂).fra (.ret (r₂.shut sh a0 0)))
theorem ss_ret0 : SS X n S .ret0 := fun st io ns act sc A env P ad σ en s fl en' σ' E Q hi ho at_ he kq =>
  yRet_e ho fun x pos ho => oN_e ho (wpAny_Return_none (kq.to he _ s.heap s.toks P ad (.refl at_.sto) at_.fra (.ret (.d .none))))
theorem ss_brk : SS X n S .brk := fun st io ns act sc A env P ad σ en s fl en' σ' E Q hi ho at_ he kq =>
  yBrk_e ho fun p => wpAny_Break (kq.to he _ s.heap s.toks P ad (.refl at_.sto) at_.fra .brk)

theorem ss_ifs (hS : SemOK X n S) (c : PE) (t e : PB) (ht : SB X n S t) (hE : SB X n S e) : SS X n S (.ifs c t e) := fun st io ns act sc A env P ad σ en s fl en' σ' E Q hi ho at_ he kq =>
  yIf_e ho fun x a b pos ho => and3e ho fun h1 h2 h3 => wpAny_If ((sound_T X n c S hS).use hi at_ h1 ((s_ifs ..).symm.trans he) fun σ₁ b he h₁ tk₁ P₁ ad₁ f₁ at1 => by
    cases b with
    | true => exact ht _ io ns act sc A env P₁ ad₁ σ₁ en { s with heap := h₁, toks := tk₁ } _ _ _ _ _ hi h2 at1 he (kq.next f₁.xf)
    | false => exact hE _ io ns act sc A env P₁ ad₁ σ₁ en { s with heap := h₁, toks := tk₁ } _ _ _ _ _ hi h3 at1 he (kq.next f₁.xf))

theorem sb_nil : SB X n S .nil := fun sts io ns act sc A env P ad σ en s fl en' σ' E Q hi ho at_ he kq =>
  k0_e ho fun _ => wpAny_execs_nil (kq.to he _ s.heap s.toks P ad (.refl at_.sto) at_.fra .next)
theorem sb_cons (p : PS) (b : PB) (hp : SS X n S p) (hb : SB X n S b) : SB X n S (.cons p b) := fun sts io ns act sc A env P ad σ en s fl en' σ' E Q hi ho at_ he kq =>
  b3e ((bl_cons ..).symm.trans he) fun fl₁ en₁ σ₁ e1 he => (Bool.or_eq_true_iff.mp ho).elim (fun hd => by cases p <;> first | exact ftE hd | cases e1) fun ho =>
    kC_e ho fun st r ho => and2e ho fun h1 h2 => wpAny_execs_cons (hp st io ns act sc A env P ad σ en s _ _ _ E _ hi h1 at_ e1 fun fv h₁ tk₁ P₁ ad₁ f₁ F₁ r₁ => by
      cases r₁ with
      | next => exact hb r io ns act sc A env P₁ ad₁ σ₁ en₁ { s with heap := h₁, toks := tk₁ } _ _ _ _ _ hi h2 (at_.of f₁.sto F₁) he (kq.next f₁)
      | brk => exact kq.to he _ h₁ tk₁ P₁ ad₁ f₁ F₁ .brk
      | ret r => exact kq.to he _ h₁ tk₁ P₁ ad₁ f₁ F₁ (.ret r))

theorem ST.cond {X : Fx W} {n : Nat} {S : Sem} {c : PE} (hc : ST X n S c) {e : Expr} {io : Option Inn} {ns : List Str} {act : List Nat} {sc : Scope} {A : Around} {env : Env} {P : PM} {ad : Nat → Addr} {σ : Sg} {en : En} {s : Shared} {E : Value → Shared → Prop} {Q : Bool → Shared → Prop} {b : Bool} {σ' : Sg}
    (hi : HPsi X n S io) (at_ : At W n io ns act sc A env P ad σ en s.heap) (ho : okE sc ns c e = true) (he : condW S c en σ = some (b, σ'))
    (k : ∀ h' tk P' ad', EfE W env.locals P ad σ s.heap P' ad' σ' h' → At W n io ns act sc A env P' ad' σ' en h' → Q b { s with heap := h', toks := tk }) : wpAny (model X.prog W.w) A (isTrue e env (eval e env)) Q E s :=
  b2e ((condW_b ..).symm.trans he) fun V τ e1 e2 => b1e e2 fun b' e3 e4 => by
    cases e4
    exact hc e io ns act sc A env P ad σ en s V _ _ E Q hi ho at_ e1 e3 fun h' tk P' ad' f => k h' tk P' ad' f (at_.efe f)
@[elab_as_elim] theorem FlR.loop {P : PM} {fl fl' : Fl} {fv : Flow} {K : Option (Fl × En × Sg)} {en en' : En} {σ σ' : Sg} {C : Flow → Prop} (r : FlR W P fl fv) (hl : nextF fl K en σ = some (fl', en', σ'))
    (a : K = some (fl', en', σ') → C .next) (b : some (Fl.next, en, σ) = some (fl', en', σ') → C .brk) (c : ∀ V v, RV W P a0 0 v V → some (Fl.ret V, en, σ) = some (fl', en', σ') → C (.ret v)) : C fv := by
  cases r with
  | next => exact a hl
  | brk => exact b hl
  | ret r => exact c _ _ r hl
noncomputable def WhI (W : Wo) (S : Sem) (io : Option Inn) (ns : List Str) (act : List Nat) (env : Env) (P : PM) (ad : Nat → Addr) (σ : Sg) (s : Shared) (c : PE) (b : PB) (r : Fl × En × Sg) (k : Nat) (s' : Shared) : Prop :=
  ∃ Pi adi σi eni h tk, s' = { s with heap := h, toks := tk } ∧ loopW (condW S c) (stepW S b) k eni σi = some r ∧ Eff W (Xf env) P ad σ s.heap Pi adi σi h ∧ Fra W io ns act env Pi adi σi eni h
@[elab_as_elim] theorem WhI.elim {S : Sem} {io : Option Inn} {ns : List Str} {act : List Nat} {env : Env} {P : PM} {ad : Nat → Addr} {σ : Sg} {s : Shared} {c : PE} {b : PB} {r : Fl × En × Sg} {k : Nat} {s' : Shared} {C : Nat → Shared → Prop} (h : WhI W S io ns act env P ad σ s c b r k s')
    (q : ∀ k Pi adi σi eni h tk, loopW (condW S c) (stepW S b) (k + 1) eni σi = some r → Eff W (Xf env) P ad σ s.heap Pi adi σi h → Fra W io ns act env Pi adi σi eni h → C (k + 1) { s with heap := h, toks := tk }) : C k s' := by
  obtain ⟨Pi, adi, σi, eni, h, tk, rfl, a, f, g⟩ := h
  cases k with
  | zero => cases a
  | succ k => exact q k Pi adi σi eni h tk a f g
theorem ss_whl (hS : SemOK X n S) (c : PE) (b : PB) (hb : SB X n S b) : SS X n S (.whl c b) := fun st io ns act sc A env P ad σ en s fl en' σ' E Q hi ho at_ he kq =>
  yWhl_e ho fun t body z pos ho => k0_e ho fun ho => and2e ho fun h1 h2 => wpAny_While (codeAny_whileLoop (I := WhI W S io ns act env P ad σ s c b (fl, en', σ')) (fun k s' a => WhI.elim (k := k) (s' := s') a fun k Pi adi σi eni h tk hl f F => by
    have ati := at_.of f.sto F
    refine b2e ((loopW_succ ..).symm.trans hl) fun bb σ₁ e1 hl => (sound_T X n c S hS).cond (s := { s with heap := h, toks := tk }) hi ati h1 e1 fun h₁ tk₁ P₁ ad₁ f₁ at1 => ?_
    cases bb with
    | false => exact wpAny_execs_nil (kq.to hl _ h₁ tk₁ P₁ ad₁ (f.tr f₁.xf) at1.fra .next)
    | true =>
      refine b3e (show b3 (stepW S b eni σ₁) (fun fl en σ => nextF fl (loopW (condW S c) (stepW S b) k en σ) en σ) = _ from hl) fun fl₁ en₁ σ₂ e2 hl => ?_
      exact hb _ io ns act sc A env P₁ ad₁ σ₁ eni { s with heap := h₁, toks := tk₁ } _ _ _ _ _ hi h2 at1 e2 fun fv h₂ tk₂ P₂ ad₂ f₂ F₂ r₂ => FlR.loop (fv := fv) r₂ hl
        (fun hl => ⟨k, Nat.lt_succ_self k, P₂, ad₂, σ₂, en₁, h₂, tk₂, rfl, hl, (f.tr f₁.xf).tr f₂, F₂⟩)
        (fun hl => kq.to hl _ h₂ tk₂ P₂ ad₂ ((f.tr f₁.xf).tr f₂) F₂ .next)
        (fun _ _ r hl => kq.to hl _ h₂ tk₂ P₂ ad₂ ((f.tr f₁.xf).tr f₂) F₂ (.ret r))) S.fuel ⟨P, ad, σ, en, s.heap, s.toks, rfl, (s_whl ..).symm.trans he, .refl at_.sto, at_.fra⟩)
end
end Mine
end
section
open PySem PySem.W PyProof.Rows PySem.Calls
namespace Mine
section
variable {W : Wo} (X : Fx W) (n : Nat) (S : Sem)

noncomputable def FoI (W : Wo) (S : Sem) (io : Option Inn) (ns : List Str) (act : List Nat) (env : Env) (P : PM) (ad : Nat → Addr) (σ : Sg) (s : Shared) (k : Nat) (b : PB) (its : List PyData) (r : Fl × En × Sg) (I : Addr) (St : Nat → Heap → Prop) (P₁ : PM) (m : Nat) (s' : Shared) : Prop :=
  ∃ i Pi adi σi eni h tk, m = its.length - i ∧ s' = { s with heap := h, toks := tk } ∧ i ≤ its.length ∧ loopF (stepF S k b) (its.drop i) eni σi = some r ∧ Eff W (Xf env) P ad σ s.heap Pi adi σi h ∧ Fra W io ns act env Pi adi σi eni h ∧ St i h ∧ Aside W Pi adi σi h I ∧ Le P₁ Pi
@[elab_as_elim] theorem FoI.elim {io : Option Inn} {ns : List Str} {act : List Nat} {env : Env} {P : PM} {ad : Nat → Addr} {σ : Sg} {s : Shared} {k : Nat} {b : PB} {its : List PyData} {r : Fl × En × Sg} {I : Addr} {St : Nat → Heap → Prop} {P₁ : PM} {m : Nat} {s' : Shared} {C : Nat → Shared → Prop}
    (h : FoI W S io ns act env P ad σ s k b its r I St P₁ m s')
    (c : ∀ i Pi adi σi eni h tk, i ≤ its.length → loopF (stepF S k b) (its.drop i) eni σi = some r → Eff W (Xf env) P ad σ s.heap Pi adi σi h → Fra W io ns act env Pi adi σi eni h → St i h → Aside W Pi adi σi h I → Le P₁ Pi → C (its.length - i) { s with heap := h, toks := tk }) : C m s' := by
  obtain ⟨i, Pi, adi, σi, eni, h, tk, rfl, rfl, a, b, c1, d, e, f, g⟩ := h
  exact c i Pi adi σi eni h tk a b c1 d e f g
theorem ss_for (hS : SemOK X n S) (k : Nat) (src : PI) (b : PB) (hb : SB X n S b) : SS X n S (.for_ k src b) := fun st io ns act sc A env P ad σ en s fl en' σ' E Q hi ho at_ he kq =>
  yFor_e ho fun t it body z pos ho => k0_e ho fun ho => xNam_e ho fun y py ho => and4e ho fun h1 h2 h3 h4 => b2e ((s_for ..).symm.trans he) fun its σ₁ e1 he => by
    refine wpAny_For (sound_I X n src S hS _ io ns act sc A env P ad σ en s its σ₁ E _ hi h3 at_ e1 fun I h₁ tk₁ P₁ ad₁ h₂ f₁ fI g₁ itr => itr.elim fun fp St Pd w st0 hfp hasI hitem => ?_) (foldSet h2 env)
    have at1 := at_.efe f₁
    have tI : I ∉ W.ts := fun q => by obtain ⟨o, e⟩ := at1.sto.tabs I q; rw [fI] at e; cases e
    have fI0 : s.heap.get? I = none := none_of f₁.eff.stay fI
    have hIX : ¬ Xf env I := fun q => by
      rcases q with q | ⟨z, _, q⟩
      · obtain ⟨o, e⟩ := at1.fra.lo.e; rw [← q, fI] at e; cases e
      · obtain ⟨A', _⟩ := at1.fra.ce z I q
        obtain ⟨o, e⟩ := A'.e; rw [fI] at e; cases e
    obtain ⟨f₂, F₂⟩ := ext_ok at1.fra at1.sto fI (fun b o _ e => g₁ b o e)
    have aI : Aside W P₁ ad₁ σ₁ h₂ I := ⟨at1.sto.p_none fI, tI, (fun j hj q => by obtain ⟨o, e⟩ := at1.sto.live hj; rw [← q, fI] at e; cases e), hasI _ _ st0⟩
    have F₁ := at1.fra
    refine codeAny_forLoop (I := FoI W S io ns act env P ad σ s k b its (fl, en', σ') I St P₁) ?_ (its.length - 0)
      ⟨0, P₁, ad₁, σ₁, eput en k none, h₂, tk₁, rfl, rfl, Nat.zero_le _, he, f₁.xf.tr f₂, F₂.drop k, st0, aI, .refl _⟩ (by intro _; rfl)
    refine fun m s' a => FoI.elim (m := m) (s' := s') S a fun i Pi adi σi eni h tk hle hl f F st aI le => ?_
    have kI' : ∀ {h' : Heap}, (∀ b o, b ∉ [I] → h.get? b = some o → h'.get? b = some o) → ∀ b o, b ≠ I → h.get? b = some o → h'.get? b = some o := fun keep b o hb e => keep b o (fun q => hb (List.mem_singleton.mp q)) e
    refine (Nat.lt_or_ge i its.length).elim (fun hlt => ?_) fun hge => ?_
    · refine w.item i _ _ _ hlt st fun v h' tk' pd st' keep => Exists.elim (hitem i v hlt pd) fun d hdr => ?_
      have kI := kI' keep
      have f' := f.off fI0 aI.p aI.t aI.o kI
      have F' : Fra W io ns act env Pi adi σi eni h' := Fra.off F₁ fI F kI
      have aI' : Aside W Pi adi σi h' I := ⟨aI.p, aI.t, aI.o, hasI _ _ st'⟩
      refine b3e ((loopF_cons ..).symm.trans ((congrArg (fun l => loopF (stepF S k b) l eni σi) (drop_some hdr.1)).symm.trans hl)) fun fl₁ en₂ σ₂ e2 hl => b3e ((stepF_b ..).symm.trans e2) fun fl₂ en₁ σ₃ e2 e3 => ?_
      have hl : nextF fl₂ (loopF (stepF S k b) (its.drop (i + 1)) (eput en₁ k none) σ₃) (eput en₁ k none) σ₃ = some (fl, en', σ') := by cases e3; exact hl
      refine wpAny_assign_Name (name_store (s := { s with heap := h', toks := tk' }) F' f'.sto (at_.sc.symm ▸ h1) (.d (hdr.2.le le)) fun h₃ tk₃ f₃ F₃ => ?_)
      refine hb _ io ns act sc A env Pi adi σi _ { s with heap := h₃, toks := tk₃ } _ _ _ _ _ hi h4 (at_.of f₃.sto F₃) e2 fun fv h₄ tk₄ P₄ ad₄ f₄ F₄ r₄ => ?_
      have ff := (f'.tr f₃).tr f₄
      have f34 := f₃.tr f₄
      refine FlR.loop (fv := fv) r₄ hl (fun hl => ?_) (fun hl => kq.to hl _ h₄ tk₄ P₄ ad₄ ff (F₄.drop k) .next) (fun _ _ r hl => kq.to hl _ h₄ tk₄ P₄ ad₄ ff (F₄.drop k) (.ret r))
      refine ⟨its.length - (i + 1), Nat.sub_lt_sub_left hlt (Nat.lt_succ_self i), i + 1, P₄, ad₄, _, _, h₄, tk₄, rfl, rfl, hlt, hl, ff, F₄.drop k, ?_, aI'.eff f34, le.trans f34.le⟩
      exact Itr.St_keep (its := its) w hfp st' (fun b o e => f'.sto.sub b o (le b o e)) (fun b o e => f34.sto.sub b o (f34.le b o (le b o e))) fun o e => f34.keep I o hIX aI'.t aI'.o e
    · have hlen : i = its.length := Nat.le_antisymm hle hge
      refine w.done _ _ _ (hlen ▸ st) fun h' tk' keep => ?_
      have kI := kI' keep
      rw [hlen, List.drop_length] at hl
      exact wpAny_execs_nil (kq.to hl _ h' tk' Pi adi (f.off fI0 aI.p aI.t aI.o kI) (Fra.off F₁ fI F kI) .next)

theorem swapped_two {ts vs : List Expr} {kx kv : _} {px pv : Pos} {sc : Scope} {ns : List Str} {act : List Nat} {inn : Bool} {ks : List Nat} (env : Env) (h1 : vs.all (constantsAlone 8) = false) (h3 : ts.length ≠ 3) (ho : okTs sc ns act inn ks ts = true) :
    swappedStores [.Tuple ts kx px] (.Tuple vs kv pv) env = pure none ∨ ∃ x p y q, ts = [.Name x p, .Name y q] ∧ swappedStores [.Tuple ts kx px] (.Tuple vs kv pv) env = pure (some [x, y]) := by
  by_cases h2 : ts.length = 2
  · match ts, ks, h2, ho with
    | [a, b], [j, k], _, ho =>
      obtain ⟨x, p, rfl, g1, g2⟩ := okTs_cons ho
      obtain ⟨y, q, rfl, g3, _⟩ := okTs_cons g2
      have key : ∃ o, swappedStores [.Tuple [.Name x p, .Name y q] kx px] (.Tuple vs kv pv) env = pure o ∧ (o = none ∨ o = some [x, y]) := by
        unfold swappedStores
        simp only [List.length_cons, List.length_nil, List.filterMap_cons, List.filterMap_nil, h1]
        split
        · exact ⟨_, rfl, .inl rfl⟩
        · split
          · exact ⟨_, rfl, .inl rfl⟩
          · generalize (env.kindOf x == some NameKind.local && p.line == (Option.map (fun x : Expr => x.pos.line) [Expr.Name x p, Expr.Name y q].head?).getD 0) = cx
            generalize (env.kindOf y == some NameKind.local && q.line == (Option.map (fun x : Expr => x.pos.line) [Expr.Name x p, Expr.Name y q].head?).getD 0) = cy
            cases cx <;> cases cy
            · exact ⟨_, rfl, .inl rfl⟩
            · exact ⟨_, rfl, .inl rfl⟩
            · exact ⟨_, rfl, .inl rfl⟩
            · simp only [if_true]
              split
              · exact ⟨_, rfl, .inl rfl⟩
              · split
                · exact ⟨_, rfl, .inl rfl⟩
                · exact ⟨_, rfl, .inr rfl⟩
      obtain ⟨o, e, rfl | rfl⟩ := key
      · exact .inl e
      · exact .inr ⟨x, p, y, q, rfl, e⟩
    | [a, b], [], _, ho => exact ftE ho
    | [a, b], [_], _, ho => obtain ⟨x, p, rfl, g1, g2⟩ := okTs_cons ho; exact ftE g2
    | [a, b], _ :: _ :: _ :: _, _, ho => obtain ⟨x, p, rfl, g1, g2⟩ := okTs_cons ho; obtain ⟨x, p, rfl, g1, g2⟩ := okTs_cons g2; exact ftE g2
  · left
    unfold swappedStores
    have : (!(ts.length == 2 || ts.length == 3) || vs.length != ts.length || env.blockKind != .function) = true := by simp [h2, h3]
    simp only [this, if_true]

theorem RVs.length {P : PM} {ad : Nat → Addr} {m : Nat} {vs : List Value} {xs : List V} (r : RVs W P ad m vs xs) : vs.length = xs.length := by
  induction r with
  | nil => rfl
  | cons _ _ ih => exact congrArg (· + 1) ih
theorem RVs.two {P : PM} {ad : Nat → Addr} {m : Nat} {vs : List Value} {a b : V} (r : RVs W P ad m vs [a, b]) : ∃ v w, vs = [v, w] ∧ RV W P ad m v a ∧ RV W P ad m w b := by
  cases r with | cons r1 r =>
  cases r with | cons r2 r =>
  cases r
  exact ⟨_, _, rfl, r1, r2⟩
theorem two_of {α : Type} {l : List α} (h : l.length = 2) : ∃ a b, l = [a, b] := by
  match l, h with
  | [a, b], _ => exact ⟨a, b, rfl⟩
theorem eput_comm : ∀ {en : En} {i j : Nat} {a b : Option V}, i ≠ j → eput (eput en i a) j b = eput (eput en j b) i a
  | [], _, _, _, _, _ => rfl
  | _ :: _, 0, 0, _, _, h => absurd rfl h
  | _ :: _, _ + 1, 0, _, _, _ => rfl
  | _ :: _, 0, _ + 1, _, _, _ => rfl
  | _ :: r, i + 1, j + 1, a, b, h => by
    simp only [eput]
    rw [eput_comm (en := r) (fun e => h (by rw [e]))]

theorem ss_unpT (hS : SemOK X n S) (ks : List Nat) (l : PL) : SS X n S (.unpT ks l) := fun st io ns act sc A env P ad σ en s fl en' σ' E Q hi ho at_ he kq =>
  yAs1_e ho fun t v pos ho => xTup_e ho fun ts kx px ho => xTup_e ho fun vs kv pv ho => and5e ho fun h1 h2 h3 h4 h5 => b2e ((s_unpT ..).symm.trans he) fun Vs σ₁ e1 he => b1e he fun en₁ e2 he => by
    have kq := kq.to he
    have h1 : vs.all (constantsAlone 8) = false := by simpa using h1
    have h2 : ts.length ≠ 3 := of_decide_eq_true h2
    have h3 := of_decide_eq_true h3
    obtain ⟨l1, l2, l3⟩ := okTs_each env h4
    have lp := putAll_len e2
    have ev : ∀ (Q' : Value → Shared → Prop), (∀ t vals h' tk P₁ ad₁, EfE W env.locals P ad σ s.heap P₁ ad₁ σ₁ h' → RVs W P₁ ad₁ σ₁.length vals Vs → h'.IsTuple t vals.toArray → Q' (.ref t) { s with heap := h', toks := tk }) →
        wpAny (model X.prog W.w) A (eval (.Tuple vs kv pv) env) Q' E s := fun Q' k =>
      Tuple_ (sound_L X n l S hS _ _ io ns act sc A env P ad σ en s Vs σ₁ E _ hi h5 at_ e1 fun us h₁ tk₁ P₁ ad₁ f₁ r₁ =>
        wpAny_newTuple (k _ us _ tk₁ P₁ ad₁ (f₁.trans (.gro (at_.efe f₁).cx (.push _))) r₁ ⟨_, Heap.get?_push_size _ rfl, rfl, _, rfl⟩) (by rw [r₁.length, ← lp]; exact Nat.le_trans (Nat.le_of_lt h3.2) (by decide)))
    rcases swapped_two (kx := kx) (kv := kv) (px := px) (pv := pv) env h1 h2 h4 with hw | ⟨x, p, y, q, rfl, hw⟩
    · refine Assign_Tuple (ev _ fun t vals h₁ tk₁ P₁ ad₁ f₁ r₁ ht => ?_) rfl hw
      have at1 := at_.efe f₁
      refine wpAny_assign_Tuple at_.aok.h (s := { s with heap := h₁, toks := tk₁ }) ht (by rw [l2, ← l3, lp, ← r₁.length]; simp) (List.findIdx?_eq_none_iff.mpr l1) fun h' ex => ?_
      obtain ⟨f₂, F₂⟩ := ext_ok at1.fra at1.sto (none_size _) (fun b o q e => ex b o q e)
      exact stores_ok (s := { s with heap := h', toks := tk₁ }) ks ts _ _ en _ (at_.sc.symm ▸ h4) e2 r₁ F₂ f₂.sto fun h'' tk f F' => kq _ h'' tk P₁ ad₁ ((f₁.xf.tr f₂).tr f) F' .next
    · refine Assign_Tuple_swapped (ev _ fun t vals h₁ tk₁ P₁ ad₁ f₁ r₁ ht => ?_) rfl hw
      have at1 := at_.efe f₁
      obtain ⟨j, j', rfl⟩ := two_of (show ks.length = 2 from l3)
      obtain ⟨V1, V2, rfl⟩ := two_of (show Vs.length = 2 from lp.symm)
      obtain ⟨v1, v2, rfl, r1, r2⟩ := r₁.two
      obtain ⟨x', p', q1, g1, g2⟩ := okTs_cons h4
      obtain ⟨y', q', q2, g3, _⟩ := okTs_cons g2
      cases q1; cases q2
      have hne : j ≠ j' := fun q => by have := h3.1; rw [q] at this; exact (List.nodup_cons.mp this).1 (.head _)
      cases e2
      rw [show ([x, y] : List Str).length = ([v1, v2] : List Value).toArray.size from rfl]
      refine wpAny_unpackItems_tuple at_.aok.h (s := { s with heap := h₁, toks := tk₁ }) (items := [v1, v2].toArray) ht fun h' ex => ?_
      obtain ⟨f₂, F₂⟩ := ext_ok at1.fra at1.sto (none_size _) (fun b o q e => ex b o q e)
      show wpAny _ A (assignInOrder [bindName env y, bindName env x] [v2, v1]) _ E _
      refine assignInOrder_cons (bindName_ (name_store (s := { s with heap := h', toks := tk₁ }) F₂ f₂.sto (at_.sc.symm ▸ g3) r2 fun h₃ tk₃ f₃ F₃ => ?_))
      refine assignInOrder_cons (bindName_ (name_store (s := { s with heap := h₃, toks := tk₃ }) F₃ f₃.sto (at_.sc.symm ▸ g1) r1 fun h₄ tk₄ f₄ F₄ => ?_))
      exact assignInOrder_nil (kq _ h₄ tk₄ P₁ ad₁ (((f₁.xf.tr f₂).tr f₃).tr f₄) (eput_comm hne ▸ F₄) .next)
end
end Mine
end
section
open PySem PySem.W PyProof.Rows PySem.Calls
namespace Mine

section
variable {W : Wo} {L : Addr} {P : PM} {ad : Nat → Addr} {σ : Sg} {h h' : Heap}
theorem cutD (C : Cx W L P ad σ h) {d : Addr} {od : Obj} (hd : h.get? d = some od) (hdL : d ≠ L) (hP : P d = none) :
    ∃ h₀ m news, Fr h₀ L h m ∧ News h₀ L h ((d, od) :: news) ∧ (∀ p ∈ news, p.1 ≠ d) ∧ Le W.B.get? h₀.get? ∧
      ∀ h' od', Fr h₀ L h' m → News h₀ L h' ((d, od') :: news) → (∀ b o, b ≠ d → b ≠ L → h.get? b = some o → h'.get? b = some o) ∧ h'.get? d = some od' ∧ ∀ m', h.Ns L m' → h'.Ns L m' := by
  obtain ⟨m, hm⟩ := C.ns
  obtain ⟨h₀, news, F, N, k0, k, kn⟩ := cut hm
  have hdec : ∀ p : Addr × Obj, decide (p.1 ≠ d) = true ↔ p.1 ≠ d := fun p => by simp
  refine ⟨h₀.hide d, m, news.filter fun p => decide (p.1 ≠ d), ⟨hm, fun b o e => F.keep b o (Heap.of_hide e), by rw [Heap.hide_size]; exact F.above⟩, fun p hp => ?_, fun p hp => ?_, fun b o e => ?_, fun h' od' F' N' => ⟨fun b o hb hbL e => ?_, (N' _ (.head _)).1, fun m' hm' => ns_uniq hm hm' ▸ F'.ns⟩⟩
  · rcases List.mem_cons.mp hp with rfl | hp
    · exact ⟨hd, hdL, Heap.hide_self _ _⟩
    · obtain ⟨q1, q2⟩ := List.mem_filter.mp hp
      obtain ⟨a, b, c⟩ := N p q1
      exact ⟨a, b, by rw [Heap.hide_ne _ ((hdec p).mp q2)]; exact c⟩
  · exact (hdec p).mp (List.mem_filter.mp hp).2
  · have hbd : b ≠ d := fun q => by rw [q] at e; have := C.sto.base _ _ e; rw [hP] at this; cases this
    rw [Heap.hide_ne _ hbd]
    exact k0 b o (C.big b o e) (C.sto.sub b o (C.sto.base b o e))
  · rcases Nat.lt_or_gt_of_ne hbL with hlt | hgt
    · exact F'.keep b o (by rw [Heap.hide_ne _ hb]; exact k0 b o hlt e)
    · exact (N' (b, o) (.tail _ (List.mem_filter.mpr ⟨kn b o hgt e, (hdec (b, o)).mpr hb⟩))).1

theorem EfE.putI (C : Cx W L P ad σ h) {j : Nat} {fs ys : List PyData} {od' : Obj} (e : sget σ j = .i fs) (k : ∀ b o, b ≠ ad j → b ≠ L → h.get? b = some o → h'.get? b = some o) (e' : h'.get? (ad j) = some od') (r : WsO W P od' ys)
    (ns : ∀ m, h.Ns L m → h'.Ns L m) : EfE W L P ad σ h P ad (sput σ j (.i ys)) h' := by
  have S := C.sto
  have hl : sget σ j ≠ .x := by rw [e]; exact nofun
  have hj := sget_lt hl
  have hLj : L ≠ ad j := C.lo.o j hl
  have lv : ∀ i, sget (sput σ j (.i ys)) i ≠ .x → sget σ i ≠ .x := fun i q => by
    by_cases z : i = j
    · subst z; exact hl
    · rwa [sget_put_ne z] at q
  have stay : ∀ b o, h.get? b = some o → ∃ o', h'.get? b = some o' := fun b o q => by
    by_cases z : b = ad j
    · exact z ▸ ⟨_, e'⟩
    · by_cases z' : b = L
      · obtain ⟨m, hm⟩ := C.ns
        obtain ⟨o', _, _, e'', _⟩ := ns m hm; exact ⟨o', z' ▸ e''⟩
      · exact ⟨o, k b o z z' q⟩
  exact {
    ns := ns
    eff := {
      le := .refl _
      keep := fun b o h1 _ h3 q => k b o (h3 j hl) h1 q
      stay := stay
      adk := fun _ _ => rfl
      len := by rw [sput_len]; exact Nat.le_refl _
      lv := fun i _ q => lv i q
      newP := fun b q => .inl q
      newA := fun i hi q => absurd (sget_lt q) (by rw [sput_len]; exact Nat.not_lt.mpr hi)
      sto := {
        base := S.base
        sub := fun b o q => k b o (fun z => by rw [z, (S.out j hl).1] at q; cases q) (fun z => by rw [z, C.lo.p] at q; cases q) (S.sub b o q)
        tab := S.tab.step (fun q hq o z => k _ _ (fun w => (S.out j hl).2 (w ▸ List.mem_map_of_mem hq)) (fun w => C.lo.t (w ▸ List.mem_map_of_mem hq)) z) (.refl _) S.tab.none
        ls := fun i zs q => by
          by_cases z : i = j
          · subst z; rw [sget_put_eq hj] at q; cases q
          · rw [sget_put_ne z] at q
            have hi : sget σ i ≠ .x := by rw [q]; exact nofun
            obtain ⟨ws, n', h1, h2⟩ := S.ls i zs q
            exact ⟨ws, n', k _ _ (fun w => z (S.inj i j hi hl w)) (Ne.symm (C.lo.o i hi)) h1, h2⟩
        is := fun i fs q => by
          by_cases z : i = j
          · subst z; rw [sget_put_eq hj] at q; cases q; exact ⟨od', e', r⟩
          · rw [sget_put_ne z] at q
            have hi : sget σ i ≠ .x := by rw [q]; exact nofun
            obtain ⟨od, h1, h2⟩ := S.is i fs q
            exact ⟨od, k _ _ (fun w => z (S.inj i j hi hl w)) (Ne.symm (C.lo.o i hi)) h1, h2⟩
        out := fun i q => S.out i (lv i q)
        inj := fun i i' q q' w => S.inj i i' (lv i q) (lv i' q') w } } }
end

theorem ents_put {hs : Str → Int} {P : PM} {m : Str} {x : PyData} {v : Value} {t : Tok} (r : Rd P v x) {names : List Str} {es : List DictEntry} {fs : List PyData} (E : Ents hs P names es fs) : distinct names = true → names[fs.length]? = some m →
    Ents hs P names (putL m (hs m) (.str m t) v es) (fs ++ [x]) ∧ es.find? (·.key.isStr m) = none ∧ es.any (·.refKey) = false ∧ (putL m (hs m) (.str m t) v es).length = es.length + 1 ∧ es.length = fs.length := by
  induction E with
  | @nil ns =>
    intro _ h1
    cases ns with
    | nil => cases h1
    | cons => cases h1; exact ⟨.cons r .nil, rfl, rfl, rfl, rfl⟩
  | @cons y _ _ _ _ _ _ a b ih =>
    intro hd h1
    obtain ⟨g1, g2, g3, g4, g5⟩ := ih (distinct_ne hd).2 h1
    have hne := (distinct_ne hd).1 _ (List.mem_of_getElem? h1)
    refine ⟨?_, ?_, ?_, ?_, congrArg (· + 1) g5⟩
    · rw [putL, isStr_ne hne]; exact .cons a g1
    · rw [List.find?_cons, isStr_ne hne]; exact g2
    · rw [List.any_cons, g3]; rfl
    · rw [putL, isStr_ne hne]; exact congrArg (· + 1) g4

section
variable {W : Wo} (X : Fx W) (n : Nat) (S : Sem)
theorem ss_setF (hS : SemOK X n S) (o : PE) (k : Nat) (e : PE) : SS X n S (.setF o k e) := fun st io ns act sc A env P ad σ en s fl en' σ' E Q hi ho at_ he kq =>
  yAs1_e ho fun t v pos ho => xAtt_e ho fun x m px ho => and4e ho fun h1 h2 h3 h4 => plainObj_wpAny_Assign_Attribute ((sound_E X n e S hS).use hi at_ h4 ((s_setF ..).symm.trans he) fun V₁ σ₁ he v₁ h₁ tk₁ P₁ ad₁ f₁ at1 r₁ => b1e he fun d hd he =>
      (sound_E X n o S hS).use (s := { s with heap := h₁, toks := tk₁ }) hi at1 h3 he fun V₂ σ₂ he v₂ h₂ tk₂ P₂ ad₂ f₂ at2 r₂ => b1e he fun j hj he => b1e he fun fs e3 he => by
    obtain ⟨hk, he⟩ := gde he
    have kq := kq.to (congrArg some he)
    have h1 := deq h1
    have rd := (r₁.ofD hd).le f₂.eff.le
    have e3 := oi_i e3
    rw [vi_i hj] at r₂
    cases r₂ with
    | @ins a j q1 q2 =>
    obtain ⟨od, g1, es, ep, rfl, g2⟩ := at2.sto.is _ _ e3
    have hl : sget σ₂ j ≠ .x := by rw [e3]; exact nofun
    obtain ⟨h₀, m', news, F, N, hn, hb, back⟩ := cutD at2.cx g1 (Ne.symm (at2.fra.lo.o j hl)) (at2.sto.out j hl).1
    obtain ⟨p1, p2, p3, p4, p5⟩ := ents_put (t := tk₂ + 1) rd g2 (by decide +kernel) (hk.symm ▸ h1)
    have hmem : m ∈ fldN := List.mem_of_getElem? h1
    have hlen : k < 5 := (List.getElem?_eq_some_iff.mp h1).1
    refine set_dict (s := { s with heap := h₂, toks := tk₂ }) F (X.X.keeps hb) N (ws_inst (W := W) (fs := fs) at2.sto q2 g1) rfl X.sa.1 X.sa.2.1 (X.sa.2.2 m hmem) X.fl.1 ?_ rfl (.head hn) (by rw [p4, p5, hk]; lia) fun h₃ F₃ N₃ => ?_
    · unfold getL; rw [p2, p3]; rfl
    · obtain ⟨b1, b2, b3⟩ := back _ _ F₃ N₃
      have f₃ := EfE.putI at2.cx e3 b1 b2 (⟨_, _, rfl, p1⟩ : WsO W P₂ _ _) b3
      exact kq _ h₃ _ P₂ ad₂ ((f₁.trans f₂).trans f₃).xf (at2.efe f₃).fra .next) (swaps_no h2 _ _ _)

theorem ss_setI (hS : SemOK X n S) (o i e : PE) : SS X n S (.setI o i e) := fun st io ns act sc A env P ad σ en s fl en' σ' E Q hi ho at_ he kq =>
  yAs1_e ho fun t v pos ho => xSub_e ho fun x y px ho => and5e ho fun h1 h2 h3 h4 h5 => wpAny_Assign_Subscript ((sound_E X n e S hS).use hi at_ h5 ((s_setI ..).symm.trans he) fun V₁ σ₁ he v₁ h₁ tk₁ P₁ ad₁ f₁ at1 r₁ => b1e he fun d hd he =>
      (sound_E X n o S hS).use (s := { s with heap := h₁, toks := tk₁ }) hi at1 h3 he fun V₂ σ₂ he v₂ h₂ tk₂ P₂ ad₂ f₂ at2 r₂ => b1e he fun j hj he =>
      (sound_E X n i S hS).use (s := { s with heap := h₂, toks := tk₂ }) hi at2 h4 he fun V₃ σ₃ he v₃ h₃ tk₃ P₃ ad₃ f₃ at3 r₃ => b1e he fun d' hd' he => b1e he fun k hk he => b1e he fun xs e4 he => by
    obtain ⟨hg, he⟩ := gde he
    have kq := kq.to (congrArg some he)
    have f₂₃ := f₂.trans f₃
    have rd := (r₁.ofD hd).le f₂₃.eff.le
    have r₂' := r₂.mono f₃.eff.le f₃.eff.adk f₃.eff.len
    rw [vo_i hj] at r₂'
    cases r₂' with | own hj =>
    refine (r₃.ofD hd').ofI hk fun t => ?_
    have e4 := ol_i e4
    obtain ⟨vs, n', g1, g2⟩ := at3.sto.ls _ _ e4
    have hsz : vs.size = xs.length := by rw [← Array.length_toList]; exact g2.length
    obtain ⟨n'', g3⟩ := upd_lst (fun a => a.setIfInBounds k.toNat v₁) g1
    refine ki_setAt (s := { s with heap := h₃, toks := tk₃ }) g1 hg.1 (by have := hg.2.1; have := hg.2.2; unfold lim at this; lia) (by rw [hsz]; exact hg.2.1) ?_
    have f₄ := EfE.put at3.cx e4 (fun b o q e => upd_ne q e) g3 (by rw [Array.toList_setIfInBounds]; exact g2.set rd k.toNat)
    exact kq _ _ tk₃ P₃ ad₃ ((f₁.trans f₂₃).trans f₄).xf (at3.efe f₄).fra .next) (swaps_no h1 _ _ _)
end
end Mine
end
section
open PySem PySem.W PyProof.Rows PySem.Calls
namespace Mine

section
variable {W : Wo} (X : Fx W) (n : Nat) (S : Sem)

theorem not_inter {W : Wo} {io : Option Inn} {ns : List Str} {act : List Nat} {env : Env} {P : PM} {ad : Nat → Addr} {σ : Sg} {en : En} {h : Heap} (F : Fra W io ns act env P ad σ en h) : interactive env = false := by unfold interactive; rw [F.hk]; rfl

theorem own_at {P : PM} {ad : Nat → Addr} {σ : Sg} {h : Heap} {j : Nat} {xs : List PyData} (T : Sto W P ad σ h) (e : ol (sget σ j) = some xs) : ∃ vs m, h.get? (ad j) = some (lstO vs m) ∧ RdL P vs.toList xs ∧ vs.size = xs.length := by
  obtain ⟨vs, m, g1, g2⟩ := T.ls _ _ (ol_i e)
  exact ⟨vs, m, g1, g2, by rw [← Array.length_toList]; exact g2.length⟩
theorem ss_app (hS : SemOK X n S) (o e : PE) : SS X n S (.app o e) := fun st io ns act sc A env P ad σ en s fl en' σ' E Q hi ho at_ he kq =>
  yExp_e ho fun v pos ho => xCM_e ho fun x m ap as p hs hp ho => k1_e ho fun y ho => and4e ho fun h1 h2 h3 h4 => wpAny_Expr_any (meth_call hs hp (by show 1 < 30; decide) (by rw [starEach_cons h2]; rfl) ((sound_E X n o S hS).use hi at_ h3 ((s_app ..).symm.trans he) fun V₁ σ₁ he v₁ h₁ tk₁ P₁ ad₁ f₁ at1 r₁ pl => b1e he fun j hj he => b1e he fun zs hx he => by
    rw [deq h1]
    rw [vo_i hj] at r₁
    cases r₁ with | own hj =>
    obtain ⟨vs₀, n₀, g0, _⟩ := own_at at1.sto hx
    refine getMethod_builtin (T := "list") ⟨_, g0, rfl⟩ F.plainAttrs_list F.slot_list_append F.type_list_append (fun a e => by cases e; exact ⟨_, g0, rfl⟩) ?_
    refine call_arg1 (sound_E X n e S hS) (keep_builtin X _) (first := [.ref (ad₁ j)]) (s := { s with heap := h₁, toks := tk₁ }) hi at1 h2 h4 he fun V₂ σ₂ he u h₂ tk₂ P₂ ad₂ f₂ at2 r₂ => b1e he fun d hd he => b1e he fun xs e3 he => ?_
    obtain ⟨hlen, he⟩ := gde he
    obtain ⟨vs, n', g1, g2, hsz⟩ := own_at at2.sto e3
    rw [← f₂.eff.adk j hj]
    refine wpAny_list_append_plain (s := { s with heap := h₂, toks := tk₂ }) ⟨n', g1⟩ (fun h₃ hp hs => ?_) (by rw [hsz]; exact Nat.le_trans hlen (by decide))
    obtain ⟨n'', g3⟩ := hp
    have f₃ := EfE.put at2.cx (ol_i e3) (fun b o q e => hs.extBut b o q e) g3 (by rw [Array.toList_push]; exact g2.app (.cons (r₂.ofD hd) .nil))
    exact kq.to (congrArg some he) _ h₃ tk₂ P₂ ad₂ ((f₁.trans f₂).trans f₃).xf (at2.efe f₃).fra .next)) (not_inter at_.fra) rfl

theorem ss_pop (hS : SemOK X n S) (o : PE) : SS X n S (.pop o) := fun st io ns act sc A env P ad σ en s fl en' σ' E Q hi ho at_ he kq =>
  yExp_e ho fun v pos ho => xCM_e ho fun x m ap as p hs hp ho => k0_e ho fun ho => and2e ho fun h1 h2 => wpAny_Expr_any (meth_call hs hp (by decide) rfl ((sound_E X n o S hS).use hi at_ h2 ((s_pop ..).symm.trans he) fun V₁ σ₁ he v₁ h₁ tk₁ P₁ ad₁ f₁ at1 r₁ pl => b1e he fun j hj he => b1e he fun xs e3 he => by
    obtain ⟨hlen, he⟩ := gde he
    rw [deq h1]
    rw [vo_i hj] at r₁
    cases r₁ with | own hj =>
    obtain ⟨vs, n', g1, g2, hsz⟩ := own_at at1.sto e3
    refine getMethod_builtin (T := "list") ⟨_, g1, rfl⟩ F.plainAttrs_list F.slot_list_pop F.type_list_pop (fun a e => by cases e; exact ⟨_, g1, rfl⟩) ?_
    refine call_arg0 (keep_builtin X _) (first := [.ref (ad₁ j)]) (s := { s with heap := h₁, toks := tk₁ }) hi at1 ?_
    have hpos : vs.size - 1 < vs.size := Nat.sub_lt (by rw [hsz]; exact hlen.1) Nat.one_pos
    refine PyProof.Rows.Copied.pop_at (s := { s with heap := h₁, toks := tk₁ }) g1 (Array.getElem?_eq_getElem hpos) (fun h₃ hs g3 => ?_) (by rw [hsz]; exact Nat.le_trans hlen.2 (by decide))
    have f₃ := EfE.put at1.cx (ol_i e3) (fun b o q e => hs.extBut b o q e) g3 (by rw [Array.toList_pop]; exact g2.dropLast)
    exact kq.to (congrArg some he) _ h₃ tk₁ P₁ ad₁ (f₁.trans f₃).xf (at1.efe f₃).fra .next)) (not_inter at_.fra) rfl

theorem ss_rvs (hS : SemOK X n S) (o : PE) : SS X n S (.rvs o) := fun st io ns act sc A env P ad σ en s fl en' σ' E Q hi ho at_ he kq =>
  yExp_e ho fun v pos ho => xCM_e ho fun x m ap as p hs hp ho => k0_e ho fun ho => and2e ho fun h1 h2 => wpAny_Expr_any (meth_call hs hp (by decide) rfl ((sound_E X n o S hS).use hi at_ h2 ((s_rvs ..).symm.trans he) fun V₁ σ₁ he v₁ h₁ tk₁ P₁ ad₁ f₁ at1 r₁ pl => b1e he fun j hj he => b1e he fun xs e3 he => by
    obtain ⟨hlen, he⟩ := gde he
    rw [deq h1]
    rw [vo_i hj] at r₁
    cases r₁ with | own hj =>
    obtain ⟨vs, n', g1, g2, hsz⟩ := own_at at1.sto e3
    refine getMethod_builtin (T := "list") ⟨_, g1, rfl⟩ F.plainAttrs_list F.slot_list_reverse F.type_list_reverse (fun a e => by cases e; exact ⟨_, g1, rfl⟩) ?_
    refine call_arg0 (keep_builtin X _) (first := [.ref (ad₁ j)]) (s := { s with heap := h₁, toks := tk₁ }) hi at1 ?_
    obtain ⟨n'', g3⟩ := upd_lst (fun a => a.reverse) g1
    refine call_meets PySem.F.slot_list_reverse ⟨_, g1, rfl⟩ PySem.F.entry_list_reverse (PySem.F.args_list_reverse_1 _) (PySem.AutoSeq1.list_reverse_list_0 _ vs n' (by rw [hsz]; exact Nat.le_trans hlen (by decide))) ⟨g1, ?_⟩
    have f₃ := EfE.put at1.cx (ol_i e3) (fun b o q e => upd_ne q e) g3 (by rw [Array.toList_reverse]; exact g2.reverse)
    exact kq.to (congrArg some he) _ _ tk₁ P₁ ad₁ (f₁.trans f₃).xf (at1.efe f₃).fra .next)) (not_inter at_.fra) rfl

mutual
theorem sound_S (hS : SemOK X n S) : ∀ (ps : PS), SS X n S ps
  | .asg k e => ss_asg X n S hS k e
  | .unp ks e => ss_unp X n S hS ks e
  | .unpT ks l => ss_unpT X n S hS ks l
  | .asgN ks e => ss_asgN X n S hS ks e
  | .setF o k e => ss_setF X n S hS o k e
  | .setI o i e => ss_setI X n S hS o i e
  | .app o e => ss_app X n S hS o e
  | .pop o => ss_pop X n S hS o
  | .rvs o => ss_rvs X n S hS o
  | .ex e => ss_ex X n S hS e
  | .ifs c t e => ss_ifs X n S hS c t e (sound_Bl hS t) (sound_Bl hS e)
  | .for_ k src b => ss_for X n S hS k src b (sound_Bl hS b)
  | .whl c b => ss_whl X n S hS c b (sound_Bl hS b)
  | .ret e => ss_ret X n S hS e
  | .ret0 => ss_ret0 X n S
  | .brk => ss_brk X n S
  | .dead => fun _ _ _ _ _ _ _ _ _ _ _ _ _ _ _ _ _ _ _ _ he _ => nomatch he
  | .defI k => fun _ _ _ _ _ _ _ _ _ _ _ _ _ _ _ _ _ _ ho _ _ _ => nomatch ho
theorem sound_Bl (hS : SemOK X n S) : ∀ (pb : PB), SB X n S pb
  | .nil => sb_nil X n S
  | .cons p b => sb_cons X n S p b (sound_S hS p) (sound_Bl hS b)
end
end
end Mine
end
section
open PySem PySem.W PyProof.Rows PySem.Calls
namespace Mine

section
variable {W : Wo} {P : PM} {ad : Nat → Addr} {σ : Sg} {h h' : Heap}
theorem Eff.grow (S : Sto W P ad σ h) {X : Addr → Prop} (k : ∀ b o, h.get? b = some o → h'.get? b = some o) : Eff W X P ad σ h P ad σ h' where
  le := .refl _
  keep := fun b o _ _ _ e => k b o e
  stay := fun b o e => ⟨o, k b o e⟩
  adk := fun _ _ => rfl
  len := Nat.le_refl _
  lv := fun _ _ e => e
  newP := fun b e => .inl e
  newA := fun j hj e => absurd (sget_lt e) (Nat.not_lt.mpr hj)
  sto := {
    base := S.base
    sub := fun b o e => k b o (S.sub b o e)
    tab := S.tab.step (fun q hq o e => k _ _ e) (.refl _) S.tab.none
    ls := fun j xs e => let ⟨vs, n, h1, h2⟩ := S.ls j xs e; ⟨vs, n, k _ _ h1, h2⟩
    is := fun j fs e => let ⟨od, h1, h2⟩ := S.is j fs e; ⟨od, k _ _ h1, h2⟩
    out := S.out
    inj := S.inj }
theorem Eff.close {X : Addr → Prop} {P' : PM} {ad' : Nat → Addr} {σ' : Sg} (f : Eff W X P a0 [] h P' ad' σ' h') : Eff W X P a0 [] h P' a0 [] h' where
  le := f.le
  keep := f.keep
  stay := f.stay
  adk := fun _ _ => rfl
  len := Nat.le_refl _
  lv := fun _ _ e => e
  newP := f.newP
  newA := fun j _ e => absurd rfl e
  sto := f.sto.nil a0
end

theorem bindL_keep (kd : Str → Option NameKind) (x : Str) (bs : List (Str × Value)) : ∀ m : Str → Option Value, (∀ p ∈ bs, p.1 ≠ x) → bindL kd bs m x = m x := by
  induction bs with
  | nil => exact fun _ _ => rfl
  | cons b r ih =>
    intro m h
    unfold bindL
    rw [ih _ fun p hp => h p (.tail _ hp)]
    split
    · exact if_neg (Ne.symm (h b (.head _)))
    · rfl
theorem bindC_keep (kd : Str → Option NameKind) (x : Str) (bs : List (Str × Value)) : ∀ m : Str → Option Value, (∀ p ∈ bs, p.1 ≠ x) → bindC kd bs m x = m x := by
  induction bs with
  | nil => exact fun _ _ => rfl
  | cons b r ih =>
    intro m h
    unfold bindC
    rw [ih _ fun p hp => h p (.tail _ hp)]
    split
    · rfl
    · exact if_neg (Ne.symm (h b (.head _)))
theorem bind_get (kd : Str → Option NameKind) (x : Str) (v : Value) (bs : List (Str × Value)) : ∀ m : Str → Option Value, (bs.map (·.1)).Nodup → (x, v) ∈ bs → (kd x = some .local → bindL kd bs m x = some v) ∧ (kd x ≠ some .local → bindC kd bs m x = some v) := by
  induction bs with
  | nil => exact fun _ _ h => nomatch h
  | cons b r ih =>
    intro m nd hm
    rw [List.map_cons, List.nodup_cons] at nd
    unfold bindL bindC
    rcases List.mem_cons.mp hm with e | hm
    · subst e
      have hn : ∀ p ∈ r, p.1 ≠ x := fun p hp q => nd.1 (List.mem_map.mpr ⟨p, hp, q⟩)
      exact ⟨fun hk => by rw [bindL_keep kd x r _ hn, if_pos hk]; exact if_pos rfl, fun hk => by rw [bindC_keep kd x r _ hn, if_neg hk]; exact if_pos rfl⟩
    · exact ⟨fun hk => (ih _ nd.2 hm).1 hk, fun hk => (ih _ nd.2 hm).2 hk⟩

theorem eget_eq : ∀ (l : En) (k : Nat), eget l k = (l[k]?).getD none
  | [], _ => by simp [eget]
  | a :: r, 0 => by simp [eget]
  | a :: r, k + 1 => by simp [eget, eget_eq r k]
theorem eget_pad {N : Nat} {args : List V} {k : Nat} {U : V} (h : eget (pad N (args.map some)) k = some U) : args[k]? = some U := by
  rw [eget_eq] at h
  unfold pad at h
  by_cases hk : k < args.length
  · rw [List.getElem?_append_left (by simpa using hk)] at h
    simpa [List.getElem?_eq_getElem hk] using h
  · rw [List.getElem?_append_right (by simpa using hk)] at h
    cases q : (List.replicate (N - (args.map some).length) (none : Option V))[k - (args.map some).length]? with
    | none => rw [q] at h; cases h
    | some y =>
      rw [q] at h
      have := List.mem_of_getElem? q
      rw [List.mem_replicate] at this
      rw [this.2] at h; cases h
theorem RVs.get {W : Wo} {P : PM} {ad : Nat → Addr} {m : Nat} {vs : List Value} {xs : List V} (r : RVs W P ad m vs xs) : ∀ (i : Nat) {x : V}, xs[i]? = some x → ∃ v, vs[i]? = some v ∧ RV W P ad m v x := by
  induction r with
  | nil => intro i x e; cases e
  | cons a _ ih =>
    intro i x e
    cases i with
    | zero => cases e; exact ⟨_, rfl, a⟩
    | succ i => exact ih i e

theorem distinct_nodup : ∀ {l : List Str}, distinct l = true → l.Nodup
  | [], _ => .nil
  | x :: r, h => by
    unfold distinct at h
    obtain ⟨h1, h2⟩ := and2 h
    exact List.nodup_cons.mpr ⟨fun q => by simp [q] at h1, distinct_nodup h2⟩

noncomputable def callOk (sc : Scope) (ns : List Str) (act : List Nat) (np : Nat) : Bool :=
  decide (np ≤ ns.length) && (List.range np).all (fun k => act.contains k) && distinct (ns.take np) &&
  (ns.take np).all (fun x => decide (sc.names.lookup x = some .local) || decide (sc.names.lookup x = some .cell)) &&
  sc.names.all (fun q => decide (q.2 ≠ .free) && (decide (q.2 ≠ .cell) || (cellsFrom 0 sc.names []).any (·.1 == q.1)))

theorem lookup_some_of_any : ∀ {α : Type} {l : List (Str × α)} {x : Str}, l.any (·.1 == x) = true → ∃ c, l.lookup x = some c
  | _, [], _, h => by cases h
  | _, (k, v) :: r, x, h => by
    rw [List.lookup_cons]
    cases q : x == k with
    | true => exact ⟨v, rfl⟩
    | false =>
      rw [List.any_cons] at h
      have : (k == x) = false := by
        cases z : k == x with
        | false => rfl
        | true => rw [beq_iff_eq.mp z] at q; simp at q
      rw [this, Bool.false_or] at h
      exact lookup_some_of_any h
theorem any_names {l l' : List (Str × Addr)} (e : l.map (·.1) = l'.map (·.1)) (x : Str) : l.any (·.1 == x) = l'.any (·.1 == x) := by
  have : ∀ l : List (Str × Addr), l.any (·.1 == x) = (l.map (·.1)).any (· == x) := fun l => by rw [List.any_map]; rfl
  rw [this, this, e]

section
variable {W : Wo} {P : PM} {ad : Nat → Addr} {σ : Sg} {act : List Nat} {ns : List Str} {np : Nat}

structure Top (fd : FuncData) : Prop where
  co : fd.scope.isCoroutine = false
  gen : fd.scope.isGenerator = false
  kind : fd.scope.kind = .function
  gl : fd.globals = mainGlobals
  bl : fd.builtins = builtinsNs
  clo : fd.closure = []

theorem enter {fd : FuncData} (T : Top fd) {a : Addr} {s s₁ : Shared} {vals : List Value} {Vs : List V} (S : Sto W P ad σ s.heap) (ho : callOk fd.scope ns act np = true) (hn : Vs.length = np) (rv : RVs W P ad σ.length vals Vs)
    (X : InCallC s (callEnvC fd s.heap.objs.size a).locals (bindL (callEnvC fd s.heap.objs.size a).kindOf ((ns.take np).zip vals) fun _ => none) (callEnvC fd s.heap.objs.size a).cells
        (bindC (callEnvC fd s.heap.objs.size a).kindOf ((ns.take np).zip vals) fun _ => none) s₁) :
    Fra W none ns act (callEnvC fd s.heap.objs.size a) P ad σ (pad ns.length (Vs.map some)) s₁.heap ∧ (∀ b o, s.heap.get? b = some o → ¬ Xf (callEnvC fd s.heap.objs.size a) b) := by
  unfold callOk at ho
  obtain ⟨ho, h5⟩ := and2 ho
  obtain ⟨ho, h4⟩ := and2 ho
  obtain ⟨ho, h3⟩ := and2 ho
  obtain ⟨h1, h2⟩ := and2 ho
  have h1 : np ≤ ns.length := of_decide_eq_true h1
  have h3 := distinct_nodup h3
  have hlen : vals.length = np := by rw [rv.length, hn]
  have nd : (((ns.take np).zip vals).map (·.1)).Nodup := by
    rw [List.map_fst_zip (by rw [List.length_take, hlen]; omega)]; exact h3
  have S₁ := (Eff.grow (X := fun _ => False) S X.toInCall.keep).sto
  have fresh : ∀ {b : Addr}, s.heap.objs.size ≤ b → s.heap.get? b = none := fun hb => Heap.get?_none_of_le hb
  have asd : ∀ {b : Addr}, s.heap.objs.size ≤ b → (∃ o, s₁.heap.get? b = some o) → Aside W P ad σ s₁.heap b := fun {b} hb e => by
    have hf := fresh hb
    exact ⟨S.p_none hf, (fun q => by obtain ⟨o, e⟩ := S.tabs b q; rw [hf] at e; cases e), (fun j hj q => by obtain ⟨o, e⟩ := S.live hj; rw [← q, hf] at e; cases e), e⟩
  have lc : ∀ x c, (callEnvC fd s.heap.objs.size a).cells.lookup x = some c → s.heap.objs.size < c := fun x c e => X.above x c (mem_of_lookup e)
  have cell? : ∀ x, fd.scope.names.lookup x = some .cell → ∃ c, (callEnvC fd s.heap.objs.size a).cells.lookup x = some c := fun x e => by
    have hm := mem_of_lookup e
    have := List.all_eq_true.mp h5 (x, .cell) hm
    simp only [ne_eq, reduceCtorEq, not_false_eq_true, decide_true, Bool.true_and, not_true_eq_false, decide_false, Bool.false_or] at this
    refine lookup_some_of_any ?_
    rw [← this]
    exact any_names (cellsFrom_names fd.scope.names _ 0 [] [] rfl) x
  refine ⟨{
    hk := T.kind
    big := fun b o e => Heap.lt_size (S.sub b o (S.base b o e))
    gl := T.gl
    bl := T.bl
    ac := fun k V e => by
      have hk : k < Vs.length := (List.getElem?_eq_some_iff.mp (eget_pad e)).1
      have := List.all_eq_true.mp h2 k (List.mem_range.mpr (hn ▸ hk))
      simpa using this
    slot := ⟨_, X.toInCall.ns, fun k V e => ?_⟩
    lo := asd (Nat.le_refl _) (let ⟨o, _, _, e, _⟩ := X.toInCall.ns; ⟨o, e⟩)
    ce := fun x c e => ⟨asd (Nat.le_of_lt (lc x c e)) (let ⟨o, e, _⟩ := X.cell x c e; ⟨o, e⟩), Nat.ne_of_gt (lc x c e), _, X.cell x c e⟩
    cd := fun x y c e1 e2 => name_of_addr X.apart (mem_of_lookup e1) (mem_of_lookup e2)
    cl := fun x e => ?_
    inn := fun I e => by cases e }, fun b o e q => ?_⟩
  · have e := eget_pad e
    obtain ⟨v, g1, g2⟩ := rv.get k e
    have hk : k < np := hn ▸ (List.getElem?_eq_some_iff.mp e).1
    obtain ⟨x, hx⟩ : ∃ x, ns[k]? = some x := ⟨_, List.getElem?_eq_getElem (Nat.lt_of_lt_of_le hk h1)⟩
    have ht : (ns.take np)[k]? = some x := by rw [List.getElem?_take_of_lt hk]; exact hx
    have hm : (x, v) ∈ (ns.take np).zip vals := List.mem_of_getElem? (i := k) (by rw [List.getElem?_zip_eq_some]; exact ⟨ht, g1⟩)
    have hkind := List.all_eq_true.mp h4 x (List.mem_of_getElem? ht)
    simp only [Bool.or_eq_true, decide_eq_true_eq] at hkind
    refine ⟨x, v, hx, g2, ?_⟩
    rcases hkind with q | q
    · exact .inl ⟨q, (bind_get _ _ _ _ _ nd hm).1 q⟩
    · obtain ⟨c, hc⟩ := cell? x q
      refine .inr ⟨by show isCell (fd.scope.names.lookup x) = true; rw [q]; rfl, c, hc, ?_⟩
      have := X.cell x c hc
      rwa [(bind_get _ _ _ _ _ nd hm).2 (by show ¬ fd.scope.names.lookup x = some .local; rw [q]; exact nofun)] at this
  · have e : isCell (fd.scope.names.lookup x) = true := e
    cases q : fd.scope.names.lookup x with
    | none => rw [q] at e; cases e
    | some kd =>
      have hm := mem_of_lookup q
      have := List.all_eq_true.mp h5 (x, kd) hm
      cases kd <;> first | exact cell? x q | (rw [q] at e; cases e; done) | (simp at this)
  · have hb := Heap.lt_size e
    rcases q with q | ⟨z, _, q⟩
    · exact absurd (q ▸ hb) (Nat.lt_irrefl _)
    · exact absurd hb (Nat.lt_asymm (lc z b q))
end

theorem limK {W : Wo} (X : Fx W) {P : PM} {ad : Nat → Addr} {σ : Sg} {h : Heap} (T : Sto W P ad σ h) : h.NoLimit := by
  obtain ⟨mc, ⟨o, es, ep, e, r⟩, b⟩ := X.lim
  exact ⟨mc, ⟨o, es, ep, T.sub _ _ (T.base _ _ e), r⟩, b⟩

section
variable {W : Wo} (X : Fx W) (n : Nat) (S : Sem)
theorem frame_ok (hS : SemOK X n S) (hΨ : ∀ vs σ, S.Ψ vs σ = none) {fd : FuncData} (T : Top fd) {a : Addr} {o : Obj} {body : List Stmt} {ns : List Str} {act : List Nat} {np : Nat} {pb : PB}
    (ha : W.B.get? a = some o) (hd : o.data = .func fd) (hcr : W.B.CodeRec fd.code fd.qualname) (hb : fd.body = .stmts body) (hbind : ∀ vals : List Value, vals.length = np → bindArgs fd ⟨vals, []⟩ = pure ((ns.take np).zip vals))
    (ho : callOk fd.scope ns act np = true) (hok : okBl fd.scope ns act false pb body = true)
    {A : Around} (hA : ∀ e, AOK n (A.deeper e)) {P : PM} {ad : Nat → Addr} {σ : Sg} {s : Shared} {vals : List Value} {Vs : List V} {R : Result → Shared → Prop} {fl : Fl} {en' : En} {σ' : Sg}
    (Sx : Sto W P ad σ s.heap) (hn : Vs.length = np) (rv : RVs W P ad σ.length vals Vs) (he : evBl S pb (pad ns.length (Vs.map some)) σ = some (fl, en', σ'))
    (k : ∀ fv h' tk P' ad', Eff W (fun _ => False) P ad σ s.heap P' ad' σ' h' → FlR W P' fl fv → R (.ok (.ret (match fv with | .ret v => v | _ => .none))) { s with heap := h', toks := tk }) :
    codeAny (model X.prog W.w) A (.call (.ref a) ⟨vals, []⟩) R s := by
  have keep : ∀ b o, W.B.get? b = some o → s.heap.get? b = some o := fun b o e => Sx.sub b o (Sx.base b o e)
  have ho' := ho
  unfold callOk at ho'
  obtain ⟨ho', h5⟩ := and2 ho'
  obtain ⟨ho', h4⟩ := and2 ho'
  have hlen : vals.length = np := by rw [rv.length, hn]
  refine codeAny_call_cells (fd := fd) (by have := (hA default).d; have e : (A.deeper default).depth = A.depth + 1 := rfl; rw [e] at this; unfold recursionLimit; lia) (keep _ _ ha) hd (limK X Sx) (hcr.keeps keep) hb (hbind vals hlen) T.clo ?_ (fun s₁ X₁ => ?_) T.co T.gen T.kind
  · intro x hx
    have hm : x.1 ∈ ns.take np := (List.of_mem_zip (a := x.1) (b := x.2) hx).1
    have := List.all_eq_true.mp h4 x.1 hm
    simp only [Bool.or_eq_true, decide_eq_true_eq] at this
    rcases this with q | q
    · exact .inl q
    · refine .inr ⟨q, ?_⟩
      have hm := mem_of_lookup q
      have := List.all_eq_true.mp h5 (x.1, .cell) hm
      simp only [ne_eq, reduceCtorEq, not_false_eq_true, decide_true, Bool.true_and, not_true_eq_false, decide_false, Bool.false_or] at this
      obtain ⟨c, hc⟩ := lookup_some_of_any (l := cellsFrom (s.heap.objs.size + 1) fd.scope.names []) (x := x.1) (by
        rw [← this]; exact any_names (cellsFrom_names fd.scope.names _ 0 [] [] rfl) x.1)
      rw [hc]; rfl
  · obtain ⟨F, hx⟩ := enter T (a := a) Sx ho hn rv X₁
    obtain ⟨h₁, tk₁, rfl⟩ := X₁.toInCall.same
    have f₁ : Eff W (fun _ => False) P ad σ s.heap P ad σ h₁ := Eff.grow Sx X₁.toInCall.keep
    refine wpAny_mono (sound_Bl X n S hS pb body none ns act fd.scope (A.deeper (callEnvC fd s.heap.objs.size a)) _ P ad σ _ { s with heap := h₁, toks := tk₁ } fl en' σ' (fun _ _ => False) _ hΨ hok ⟨f₁.sto, F, rfl, hA _⟩ he fun fv h' tk P' ad' f F' r => ?_) (fun _ _ z => z) fun _ _ z => z.elim
    exact k fv h' tk P' ad' (f₁.trans f (fun _ _ _ q => q) (fun b o e q => hx b o e q)) r
end
end Mine
end
section
open PySem PySem.W PyProof.Rows PySem.Calls
namespace Mine

structure FnFacts {W : Wo} (X : Fx W) (f : Fn) (a : Addr) (qn : Str) (ir : FnIR) (act : List Nat) : Prop where
  ex : ∃ o fd body, W.B.get? a = some o ∧ o.data = .func fd ∧ W.B.CodeRec fd.code fd.qualname ∧ Top fd ∧ fd.body = .stmts body ∧ (∀ vals : List Value, vals.length = ir.np → bindArgs fd ⟨vals, []⟩ = pure ((ir.names.take ir.np).zip vals)) ∧
    callOk fd.scope ir.names act ir.np = true ∧ okBl fd.scope ir.names act false ir.body body = true

theorem AOK.deep {n : Nat} {A : Around} (h : AOK (n + 1) A) (e : Env) : AOK n (A.deeper e) := by
  have h1 := h.d; have h2 := h.u
  exact ⟨h.h, by show A.depth + 1 + 3 * n ≤ 900; lia, by show A.units + 3 + 20 * n ≤ 9500; lia⟩

section
variable {W : Wo} (X : Fx W) (n : Nat) (S : Sem)
theorem ite_some {α : Type} {p : Prop} [Decidable p] {a : Option α} {z : α} (e : (if p then a else none) = some z) : p ∧ a = some z :=
  (Decidable.em p).elim (fun q => ⟨q, (if_pos q).symm.trans e⟩) (fun q => nomatch (if_neg q).symm.trans e)
theorem run_ok (hS : SemOK X n S) (hΨ : ∀ vs σ, S.Ψ vs σ = none) {f : Fn} {qn : Str} {act : List Nat} {ir : FnIR} (K : FnFacts X f (X.fa f) qn ir act) {vs : List V} {v : V} (he : runF S ir vs = some v) : GoodF X (n + 1) f vs v := fun A P s vals R hA Sx rv k => by
  obtain ⟨o, fd, body, h1, h2, h3, T, h4, h5, h6, h7⟩ := K.ex
  rw [runF_b] at he
  obtain ⟨hn, he⟩ := ite_some he
  refine b3e he fun fl en' σ' e he => ?_
  exact frame_ok X n S hS hΨ T h1 h2 h3 h4 h5 h6 h7 (fun e => hA.deep e) Sx hn rv e fun fv h' tk P' ad' f r => by
    cases r with
    | next => cases he; exact k _ h' tk P' f.close (.d .none)
    | brk => cases he
    | ret r => cases he; exact k _ h' tk P' f.close r

theorem init_ok (hS : SemOK X n S) (hΨ : ∀ vs σ, S.Ψ vs σ = none) {fI : Addr} {qn : Str} {act : List Nat} {ir : FnIR} (K : FnFacts X .init fI qn ir act) (hnp : ir.np = 2) (hm : makesIn X.K W.C = true) (hi : findIn X.K (.ref W.C) "__init__" = some (some (.ref fI)))
    (hf : typeIn X.K (.ref fI) = some (.type "function")) {x : PyData} {v : V} (he : runInit S ir x = some v) : GoodK X (n + 1) [.d x] v := fun A P s vals R hA Sx rv k => by
  obtain ⟨o, fd, body, h1, h2, h3, T, h4, h5, h6, h7⟩ := K.ex
  refine b3e ((runInit_b ..).symm.trans he) fun fl en' σ' e he => ?_
  cases rv with | cons r1 rv =>
  cases rv
  rename_i u
  have XK := kIn X Sx
  obtain ⟨hh, g, d, t, os⟩ := s
  refine make_core (makes_of XK hm) (looks_findIn XK hi) (fun self => bind_fn XK self hf) (.inl rfl) ?_
  have f0 : hh.get? hh.objs.size = none := none_size _
  have f1 : hh.get? (hh.objs.size + 1) = none := Heap.get?_none_of_le (Nat.le_succ _)
  have kk : ∀ b o, hh.get? b = some o → ((hh.push emptyDict).push (instObj W.C hh.objs.size)).get? b = some o := fun b o e => Heap.get?_push_of_some _ (Heap.get?_push_of_some _ e)
  have g0 : ((hh.push emptyDict).push (instObj W.C hh.objs.size)).get? hh.objs.size = some emptyDict := Heap.get?_push_of_some _ (Heap.get?_push_size _ rfl)
  have g1 : ((hh.push emptyDict).push (instObj W.C hh.objs.size)).get? (hh.objs.size + 1) = some (instObj W.C hh.objs.size) := by
    have : hh.objs.size + 1 = (hh.push emptyDict).objs.size := (Heap.size_push ..).symm
    rw [this]; exact Heap.get?_push_size _ rfl
  have le1 := le_add (o := instObj W.C hh.objs.size) (Sx.p_none f1)
  have S1 : Sto W (P.add (hh.objs.size + 1) (instObj W.C hh.objs.size)) (fun _ => hh.objs.size) [.i []] ((hh.push emptyDict).push (instObj W.C hh.objs.size)) := {
    base := Sx.base.trans le1
    sub := fun b o e => by
      by_cases q : b = hh.objs.size + 1
      · subst q; rw [add_self] at e; cases e; exact g1
      · rw [add_ne q] at e; exact kk b o (Sx.sub b o e)
    tab := Sx.tab.step (fun q hq o e => kk _ _ e) le1 fun q hq => by
      obtain ⟨_, ps, e, _⟩ := Sx.tab q hq
      rw [add_ne fun z => by rw [z] at e; have e : hh.get? (hh.objs.size + 1) = _ := e; rw [f1] at e; cases e]; exact Sx.tab.none q hq
    ls := fun j xs e => by
      cases j with
      | zero => cases e
      | succ j => cases e
    is := fun j fs e => by
      cases j with
      | zero => cases e; exact ⟨_, g0, [], _, rfl, .nil⟩
      | succ j => cases e
    out := fun j e => by
      refine ⟨by rw [add_ne (Nat.ne_of_lt (Nat.lt_succ_self _))]; exact Sx.p_none f0, fun q => ?_⟩
      obtain ⟨o, e⟩ := Sx.tabs _ q
      have e : hh.get? hh.objs.size = _ := e
      rw [f0] at e; cases e
    inj := fun i j hi hj _ => by
      have h1 : i < 1 := sget_lt hi
      have h2 : j < 1 := sget_lt hj
      lia }
  have a1 : RVs W (P.add (hh.objs.size + 1) (instObj W.C hh.objs.size)) (fun _ => hh.objs.size) 1 [.ref (hh.objs.size + 1), u] [.ins 0, .d x] :=
    .cons (.ins (j := 0) Nat.one_pos add_self) (.cons (by cases r1 with | d r => exact .d (r.le le1)) .nil)
  refine frame_ok X n S hS hΨ T h1 h2 h3 h4 h5 h6 h7 (fun e => ?_) (s := ⟨(hh.push emptyDict).push (instObj W.C hh.objs.size), g, d, t, os⟩) S1 (by rw [hnp]; rfl) a1 e fun fv h' tk P' ad' f r => ?_
  · have q1 := hA.d; have q2 := hA.u
    refine ⟨hA.h, ?_, ?_⟩
    · show A.depth + Code.weight (.builtin "type.__call__" ⟨[.ref W.C, u], []⟩) + 1 + 3 * n ≤ 900
      have : Code.weight (.builtin "type.__call__" ⟨[.ref W.C, u], []⟩) = 1 := rfl
      lia
    · show A.units + Code.cUnits (.builtin "type.__call__" ⟨[.ref W.C, u], []⟩) + 3 + 20 * n ≤ 9500
      have : Code.cUnits (.builtin "type.__call__" ⟨[.ref W.C, u], []⟩) = 1 := rfl
      lia
  · cases r with
    | brk => cases he
    | ret r => cases he
    | next =>
      refine b1e he fun fs hfs he => ?_
      · cases he
        have hfs := oi_i hfs
        refine ⟨rfl, ?_⟩
        obtain ⟨od, e1, e2⟩ := f.sto.is 0 fs hfs
        have ha : ad' 0 = hh.objs.size := f.adk 0 Nat.one_pos
        rw [ha] at e1
        have hl : sget σ' 0 ≠ .x := by rw [hfs]; exact nofun
        have pn : P' hh.objs.size = none := ha ▸ (f.sto.out 0 hl).1
        have tn : hh.objs.size ∉ W.ts := ha ▸ (f.sto.out 0 hl).2
        have le2 := le_add (o := od) pn
        have fk : ∀ b o, hh.get? b = some o → h'.get? b = some o ∨ b ∈ W.ts := fun b o e => by
          by_cases q : b ∈ W.ts
          · exact .inr q
          · exact .inl (f.keep b o (fun q => q) q (fun j hj z => by rw [z] at e; have e : hh.get? hh.objs.size = _ := e; rw [f0] at e; cases e) (kk b o e))
        refine k (.ref (hh.objs.size + 1)) h' tk (P'.add hh.objs.size od) {
          le := le1.trans (f.le.trans le2)
          keep := fun b o _ h2 _ e => (fk b o e).resolve_right h2
          stay := fun b o e => f.stay b o (kk b o e)
          adk := fun _ _ => rfl
          len := Nat.le_refl _
          lv := fun _ _ e => e
          newA := fun j _ e => absurd rfl e
          newP := fun b e => ?_
          sto := {
            base := f.sto.base.trans le2
            sub := fun b o e => by
              by_cases q : b = hh.objs.size
              · subst q; rw [add_self] at e; cases e; exact e1
              · rw [add_ne q] at e; exact f.sto.sub b o e
            tab := f.sto.tab.step (fun _ _ _ e => e) le2 fun q hq => by
              rw [add_ne (show q.t ≠ hh.objs.size from fun z => tn (by have := List.mem_map_of_mem (f := Tb.t) hq; rwa [z] at this))]; exact f.sto.tab.none q hq
            ls := fun j xs e => by cases e
            is := fun j fs e => by cases e
            out := fun j e => absurd rfl e
            inj := fun i j e => absurd rfl e } } (.ws (le2 _ _ (f.le _ _ add_self)) add_self (e2.le le2))
        by_cases q : b = hh.objs.size
        · exact .inr (.inl (q ▸ f0))
        · rw [add_ne q] at e
          rcases f.newP b e with z | z | ⟨j, hj, z⟩
          · by_cases q' : b = hh.objs.size + 1
            · exact .inr (.inl (q' ▸ f1))
            · rw [add_ne q'] at z; exact .inl z
          · refine .inr (.inl ?_)
            cases w : hh.get? b with
            | none => rfl
            | some o => have := kk b o w; have z : ((hh.push emptyDict).push (instObj W.C hh.objs.size)).get? b = none := z; rw [z] at this; cases this
          · exact absurd z q
end
end Mine
end
section
open PySem PySem.W PyProof.Rows PySem.Calls
namespace Mine

noncomputable def capEn : List (Nat × V) → En → En
  | [], en => en
  | (k, v) :: r, en => eput (capEn r en) k (some v)
theorem capEn_get : ∀ {caps : List (Nat × V)} {en : En} {k : Nat} {w : V}, eget (capEn caps en) k = some w → (k, w) ∈ caps ∨ eget en k = some w
  | [], _, _, _, h => .inr h
  | (j, v) :: r, en, k, w, h => by
    unfold capEn at h
    by_cases q : k = j
    · subst q
      have := eget_put_eq h
      cases this
      exact .inl (.head _)
    · rw [eget_put_ne q] at h
      exact (capEn_get h).imp (.tail _) id

noncomputable def innΨ (fu : Nat) (ir : FnIR) (caps : List (Nat × V)) : Nat → List V → Sg → Option (V × Sg)
  | 0, _, _ => none
  | k + 1, args, σ => if args.length = ir.np then b3 (evBl ⟨fun _ _ => none, innΨ fu ir caps k, fu⟩ ir.body (capEn caps (pad ir.names.length (args.map some))) σ) fun fl _ σ => b1 (flV fl) fun v => some (v, σ) else none

structure InnFacts (I : Inn) (fd : FuncData) (body : List Stmt) (ir : FnIR) (act : List Nat) (caps : List (Nat × V)) : Prop where
  o : ∃ oc od sl, I.o = ⟨oc, od, .func fd, sl⟩
  co : fd.scope.isCoroutine = false
  gen : fd.scope.isGenerator = false
  kind : fd.scope.kind = .function
  gl : fd.globals = mainGlobals
  bl : fd.builtins = builtinsNs
  bd : fd.body = .stmts body
  bind : ∀ vals : List Value, vals.length = ir.np → bindArgs fd ⟨vals, []⟩ = pure ((ir.names.take ir.np).zip vals)
  ok : okBl fd.scope ir.names act true ir.body body = true
  cell : ∀ x ∈ fd.scope.names, x.2 ≠ .cell
  np : ir.np ≤ ir.names.length
  ac : ∀ k, k < ir.np → k ∈ act
  nd : distinct (ir.names.take ir.np) = true
  loc : ∀ x ∈ ir.names.take ir.np, fd.scope.names.lookup x = some .local
  cl : ∀ x c, fd.closure.lookup x = some c → c = I.ca ∨ ∃ u, (c, u) ∈ I.cs
  cd : ∀ x y c, fd.closure.lookup x = some c → fd.closure.lookup y = some c → x = y
  fr : ∀ x, fd.scope.names.lookup x = some .free → ∃ c, fd.closure.lookup x = some c
  me : ∀ c, fd.closure.lookup (Str.ofString "inner") = some c → c = I.ca
  cp : ∀ q ∈ caps, q.1 ∈ act ∧ ∃ x c, ir.names[q.1]? = some x ∧ fd.scope.names.lookup x = some .free ∧ fd.closure.lookup x = some c ∧ (c, q.2) ∈ I.cs

theorem rev_lookup : ∀ {bs : List (Str × Value)} {x : Str} {v : Value}, (bs.map (·.1)).Nodup → (x, v) ∈ bs → bs.lookup x = some v
  | (n, u) :: r, x, v, nd, hm => by
    rw [List.map_cons, List.nodup_cons] at nd
    rw [List.lookup_cons]
    rcases List.mem_cons.mp hm with e | hm
    · cases e; simp
    · have : x ≠ n := fun q => nd.1 (q ▸ List.mem_map.mpr ⟨(x, v), hm, rfl⟩)
      rw [beq_eq_false_iff_ne.mpr this]
      exact rev_lookup nd.2 hm

section
variable {W : Wo} (X : Fx W)
theorem sem0 (n : Nat) (Ψ : List V → Sg → Option (V × Sg)) (fu : Nat) : SemOK X n ⟨fun _ _ => none, Ψ, fu⟩ := ⟨(fun _ _ _ _ h => by cases h), (fun _ _ h => by cases h)⟩

theorem inn_ok {I : Inn} {fd : FuncData} {body : List Stmt} {ir : FnIR} {act : List Nat} {caps : List (Nat × V)} (K : InnFacts I fd body ir act caps) (fu : Nat) : ∀ k n, k ≤ n → PsiOK X n (innΨ fu ir caps k) I
  | 0, n, _ => fun A P ad σ s vals vs v σ' R hA Sx hI rv he k => by cases he
  | k + 1, 0, h => absurd h (Nat.not_succ_le_zero _)
  | k + 1, n + 1, hkn => fun A P ad σ s vals vs v σ' R hA Sx hI rv he kq => by
    have ih := inn_ok K fu k n (Nat.le_of_succ_le_succ hkn)
    unfold innΨ at he
    obtain ⟨hn, he⟩ := ite_some he
    refine b3e he fun fl en' σ₁ e he => ?_
    · have he := he
      have hlen : vals.length = ir.np := by rw [rv.length, hn]
      have h3 := distinct_nodup K.nd
      have nd : (((ir.names.take ir.np).zip vals).map (·.1)).Nodup := by
        rw [List.map_fst_zip (by rw [List.length_take, hlen]; have := K.np; lia)]; exact h3
      obtain ⟨oc, od, sl, ho⟩ := K.o
      obtain ⟨_, _, f', _, c', ox, vs', t', q1, q2, q3, q4, q5⟩ := hI.fd
      rw [ho] at q1; cases q1
      refine codeAny_call_def (fd := fd) (body := body) (binds := (ir.names.take ir.np).zip vals) (by have := hA.d; unfold recursionLimit; lia) (Sx.sub _ _ hI.fn) (by rw [ho]) (limK X Sx)
        ⟨c', ox, vs', t', q2, Sx.sub _ _ q3, q4, q5⟩ K.bd (.of_eq (K.bind vals hlen)) K.cell (fun x hx => K.loc x.1 (List.of_mem_zip (a := x.1) (b := x.2) hx).1) (fun h₁ hns keep => ?_) K.co K.gen K.kind
      have f₁ : Eff W (fun _ => False) P ad σ s.heap P ad σ h₁ := Eff.grow Sx keep
      have I₁ : InnOK W I P ad σ h₁ := hI.eff f₁ (fun q => q) fun _ _ q => q
      have fL : s.heap.get? s.heap.objs.size = none := none_size _
      have neL : ∀ {b : Addr}, Aside W P ad σ s.heap b → b ≠ s.heap.objs.size := fun A q => by obtain ⟨o, e⟩ := A.e; rw [q, fL] at e; cases e
      have cA : ∀ x c, fd.closure.lookup x = some c → Aside W P ad σ h₁ c ∧ c ≠ s.heap.objs.size ∧ ∃ v, h₁.IsCell c v := fun x c e => by
        rcases K.cl x c e with rfl | ⟨u, hu⟩
        · exact ⟨I₁.me.2, neL hI.me.2, _, I₁.me.1⟩
        · obtain ⟨⟨w, _, hc⟩, ha⟩ := I₁.cs _ hu
          exact ⟨ha, neL (hI.cs _ hu).2, _, hc⟩
      have F : Fra W (some I) ir.names act (callEnv fd s.heap.objs.size I.a) P ad σ (capEn caps (pad ir.names.length (vs.map some))) h₁ := {
        hk := K.kind
        big := fun b o e => Heap.lt_size (Sx.sub b o (Sx.base b o e))
        gl := K.gl
        bl := K.bl
        ac := fun j V e => by
          rcases capEn_get e with q | q
          · exact (K.cp _ q).1
          · exact K.ac j (hn ▸ (List.getElem?_eq_some_iff.mp (eget_pad q)).1)
        slot := ⟨_, hns, fun j V e => by
          rcases capEn_get e with q | q
          · obtain ⟨_, x, c, g1, g2, g3, g4⟩ := K.cp _ q
            obtain ⟨⟨w, r, hc⟩, _⟩ := I₁.cs _ g4
            exact ⟨x, w, g1, r, .inr ⟨by show isCell (fd.scope.names.lookup x) = true; rw [g2]; rfl, c, g3, hc⟩⟩
          · have e := eget_pad q
            obtain ⟨w, g1, g2⟩ := rv.get j e
            have hj : j < ir.np := hn ▸ (List.getElem?_eq_some_iff.mp e).1
            obtain ⟨x, hx⟩ : ∃ x, ir.names[j]? = some x := ⟨_, List.getElem?_eq_getElem (Nat.lt_of_lt_of_le hj K.np)⟩
            have ht : (ir.names.take ir.np)[j]? = some x := by rw [List.getElem?_take_of_lt hj]; exact hx
            have hm : (x, w) ∈ (ir.names.take ir.np).zip vals := List.mem_of_getElem? (i := j) (by rw [List.getElem?_zip_eq_some]; exact ⟨ht, g1⟩)
            refine ⟨x, w, hx, g2, .inl ⟨K.loc x (List.mem_of_getElem? ht), ?_⟩⟩
            exact rev_lookup (by rw [List.map_reverse]; exact (List.reverse_perm _).nodup_iff.mpr nd) (List.mem_reverse.mpr hm)⟩
        lo := ⟨Sx.p_none fL, (fun q => by obtain ⟨o, e⟩ := Sx.tabs s.heap.objs.size q; rw [fL] at e; cases e), (fun j hj q => by obtain ⟨o, e⟩ := Sx.live hj; have q : s.heap.objs.size = ad j := q; rw [← q, fL] at e; cases e), (by obtain ⟨o, _, _, e, _⟩ := hns; exact ⟨o, e⟩)⟩
        ce := cA
        cd := K.cd
        cl := fun x e => by
          have e : isCell (fd.scope.names.lookup x) = true := e
          cases q : fd.scope.names.lookup x with
          | none => rw [q] at e; cases e
          | some kd =>
            cases kd <;> first | exact K.fr x q | exact absurd rfl (K.cell _ (mem_of_lookup q)) | (rw [q] at e; cases e; done)
        inn := fun J e => by
          cases e
          exact ⟨I₁, neL hI.me.2, fun q hq => neL (hI.cs q hq).2, K.me⟩ }
      have hx : ∀ b o, s.heap.get? b = some o → ¬ Xf (callEnv fd s.heap.objs.size I.a) b := fun b o e q => by
        rcases q with q | ⟨z, g, _⟩
        · have q : b = s.heap.objs.size := q
          rw [q, fL] at e; cases e
        · exact K.cell _ (mem_of_lookup (show fd.scope.names.lookup z = some .cell from g)) rfl
      refine wpAny_mono (sound_Bl X n ⟨fun _ _ => none, innΨ fu ir caps k, fu⟩ (sem0 X n _ fu) ir.body body (some I) ir.names act fd.scope (A.deeper (callEnv fd s.heap.objs.size I.a)) _ P ad σ _ { s with heap := h₁, toks := s.toks + ((ir.names.take ir.np).zip vals).length } fl en' σ₁ (fun _ _ => False) _ ih K.ok ⟨f₁.sto, F, rfl, hA.deep _⟩ e fun fv h' tk P' ad' f F' r => ?_) (fun _ _ z => z) fun _ _ z => z.elim
      have ff := f₁.trans f (X'' := fun _ => False) (fun _ _ _ q => q) (fun b o e q => hx b o e q)
      cases r with
      | next => cases he; exact kq _ h' tk P' ad' ff (.d .none)
      | brk => cases he
      | ret r => cases he; exact kq _ h' tk P' ad' ff (r.zero ad' _)
end
end Mine
end
section
open PySem PySem.W PyProof.Rows PySem.Calls
namespace Mine

section
variable {W : Wo} {io : Option Inn} {ns : List Str} {act : List Nat} {env : Env} {P : PM} {ad : Nat → Addr} {σ : Sg} {en : En} {h h' : Heap}
theorem Fra.turnC (F : Fra W none ns act env P ad σ en h) {x : Str} {v : Value} {c : Addr} (hd : ∀ j V, eget en j = some V → ns[j]? ≠ some x)
    (hc : env.cells.lookup x = some c) (hn : h'.IsCell c (some v)) (hs : Heap.SameBut c h h') : Fra W none ns act env P ad σ en h' := by
  have kp : ∀ b o, b ≠ c → h.get? b = some o → h'.get? b = some o := fun b o q e => hs.extBut b o q e
  have ex : ∃ o, h'.get? c = some o := by obtain ⟨o, e, _⟩ := hn; exact ⟨o, e⟩
  obtain ⟨m, hm, hsl⟩ := F.slot
  have hcl : c ≠ env.locals := (F.ce x c hc).2.1
  refine { F with
    slot := ⟨m, let ⟨o, es, ep, e, r⟩ := hm; ⟨o, es, ep, kp _ _ (Ne.symm hcl) e, r⟩, fun j V e => ?_⟩
    lo := F.lo.turn kp ex
    ce := fun z c' e => by
      obtain ⟨A, h1, u, o, h2, h3⟩ := F.ce z c' e
      refine ⟨A.turn kp ex, h1, ?_⟩
      by_cases q : c' = c
      · exact q ▸ ⟨_, hn⟩
      · exact ⟨u, o, kp _ _ q h2, h3⟩
    inn := fun I e => by cases e }
  obtain ⟨y, u, g1, g2, g3⟩ := hsl j V e
  refine ⟨y, u, g1, g2, ?_⟩
  rcases g3 with ⟨g3, g4⟩ | ⟨g3, c', g4, o, g5, g6⟩
  · exact .inl ⟨g3, g4⟩
  · have hne : c' ≠ c := fun z => by
      subst z
      have := F.cd y x c' g4 hc
      subst this
      exact hd j V e g1
    exact .inr ⟨g3, c', g4, o, kp _ _ hne g5, g6⟩
end

structure TabFacts {W : Wo} (X : Fx W) (q : Tb) : Prop where
  mem : q ∈ W.tabs
  uq : ∀ q' ∈ W.tabs, q'.t = q.t → q' = q
  hd : CodeHd W.B q.c q.t
  bi : W.B.BuiltinsAt X.mg q.t
  ne : mainGlobals ≠ q.t

section
variable {W : Wo} (X : Fx W)

theorem ss_def {q : Tb} (T : TabFacts X q) {n : Nat} {ns : List Str} {act : List Nat} {sc : Scope} {A : Around} {env : Env} {P : PM} {ad : Nat → Addr} {σ : Sg} {en : En} {s : Shared} {E : Value → Shared → Prop} {Q : Flow → Shared → Prop}
    (at_ : At W n none ns act sc A env P ad σ en s.heap) {params : Arguments} {body : List Stmt} {iscope : Scope} {pos : Pos} {L : List (Addr × V)} {ca : Addr}
    (hd0 : params.defaults = []) (hk0 : params.kw_defaults = []) (ha : annTrees params none env = []) (hcode : env.code = .ref q.c) (hpos : pos = q.pos) (hqual : qualnameIn env (Str.ofString "inner") (Str.ofString "inner") = q.qual)
    (hfree : ∀ p ∈ iscope.names, p.2 = .free → ∃ c, env.cells.lookup p.1 = some c) (hk : env.kindOf (Str.ofString "inner") = some .cell) (hca : env.cells.lookup (Str.ofString "inner") = some ca)
    (hen : ∀ j V, eget en j = some V → ns[j]? ≠ some (Str.ofString "inner"))
    (hL : ∀ p ∈ L, ∃ x j, ns[j]? = some x ∧ env.kindOf x = some .cell ∧ env.cells.lookup x = some p.1 ∧ eget en j = some p.2)
    (k : ∀ a c' doc pm ctv h' tk P', Eff W (Xf env) P ad σ s.heap P' ad σ h' →
      Fra W (some ⟨a, ⟨.type "function", none, .func (fnX (Str.ofString "inner") q.qual params body iscope (clo env iscope.names []) .none .none doc pm none (.ref c') ctv), #[]⟩, ca, L⟩) ns act env P' ad σ en h' → Q .next { s with heap := h', toks := tk }) :
    wpAny (model X.prog W.w) A (exec (.FunctionDef (Str.ofString "inner") params body [] none [] iscope none (Str.ofString "inner") pos) env) Q E s := by
  have S := at_.sto
  have keepB : ∀ b o, W.B.get? b = some o → s.heap.get? b = some o := fun b o e => S.sub b o (S.base b o e)
  have hg : s.heap.Ns mainGlobals X.mg := X.g.keeps keepB
  have hC : CodeHd s.heap q.c q.t := T.hd.keeps keepB
  have hb : s.heap.BuiltinsAt X.mg q.t := by
    obtain ⟨bm, o, b1, b2, b3, b4, b5, b6, b7, b8⟩ := T.bi
    exact ⟨bm, o, b1, b2, b3, b4, keepB _ _ b5, b6, b7, b8⟩
  obtain ⟨pn, ps, hP, hps⟩ := S.tab q T.mem
  have fin : ∀ (f c' : Addr) (oc : Obj) (vs : Array Value) (t : Tok) (doc pm ctv : Value) (h' : Heap) (tk : Nat), s.heap.get? f = none → f ≠ c' → (s.heap.get? c' = none ∨ P c' = some oc) → h'.get? c' = some oc → oc.data = .fields vs → vs[1]? = some (.str q.qual t) →
      h'.get? f = some ⟨.type "function", none, .func (fnX (Str.ofString "inner") q.qual params body iscope (clo env iscope.names []) .none .none doc pm none (.ref c') ctv), #[]⟩ →
      (∀ b o, b ≠ q.t → s.heap.get? b = some o → h'.get? b = some o) → h'.get? q.t = some (tabObj #[rawInt q.pos.line, rawInt q.pos.col, .ref c']) →
      wpAny (model X.prog W.w) A (storeName env (Str.ofString "inner") (.ref f)) (fun _ s'' => Q .next s'') E { s with heap := h', toks := tk } := by
    intro f c' oc vs t doc pm ctv h' tk hf hfc hc' hoc hvs hv1 hfo keep hT
    have tsf : ∀ {b : Addr}, s.heap.get? b = none → ∀ q' ∈ W.tabs, q'.t ≠ b := fun {b} e q' hq' z => by
      obtain ⟨_, ps', e', _⟩ := S.tab q' hq'; rw [z, e] at e'; cases e'
    obtain ⟨P1, le1, P1c, P1f, P1n, P1s, P1t⟩ : ∃ P1 : PM, Le P P1 ∧ P1 c' = some oc ∧ P1 f = none ∧ (∀ b, P1 b ≠ none → P b ≠ none ∨ (b = c' ∧ s.heap.get? c' = none)) ∧ Le P1 h'.get? ∧ ∀ q' ∈ W.tabs, P1 q'.t = none := by
      have sub : Le P h'.get? := fun b o e => keep b o (fun z => by rw [z, pn] at e; cases e) (S.sub b o e)
      rcases hc' with hc' | hc'
      · refine ⟨P.add c' oc, le_add (S.p_none hc'), add_self, by rw [add_ne hfc]; exact S.p_none hf, fun b e => ?_, fun b o e => ?_, fun q' hq' => by rw [add_ne (tsf hc' q' hq')]; exact S.tab.none q' hq'⟩
        · by_cases z : b = c'
          · exact .inr ⟨z, hc'⟩
          · rw [add_ne z] at e; exact .inl e
        · by_cases z : b = c'
          · subst z; rw [add_self] at e; cases e; exact hoc
          · rw [add_ne z] at e; exact sub b o e
      · exact ⟨P, .refl _, hc', S.p_none hf, fun b e => .inl e, sub, S.tab.none⟩
    generalize hfo' : (⟨.type "function", none, .func (fnX (Str.ofString "inner") q.qual params body iscope (clo env iscope.names []) .none .none doc pm none (.ref c') ctv), #[]⟩ : Obj) = fo at hfo
    have le2 := le_add (o := fo) P1f
    have sub2 : Le (P1.add f fo) h'.get? := fun b o e => by
      by_cases z : b = f
      · subst z; rw [add_self] at e; cases e; exact hfo
      · rw [add_ne z] at e; exact P1s b o e
    have tab2 : TabOk W (P1.add f fo) h' := fun q' hq' => by
      refine ⟨by rw [add_ne (tsf hf q' hq')]; exact P1t q' hq', ?_⟩
      by_cases z : q'.t = q.t
      · have := T.uq q' hq' z
        subst this
        exact ⟨_, hT, .inr ⟨c', oc, vs, t, rfl, le2 _ _ P1c, hvs, hv1⟩⟩
      · obtain ⟨_, ps', e', r⟩ := S.tab q' hq'
        refine ⟨ps', keep _ _ z e', ?_⟩
        rcases r with r | ⟨c2, oc2, vs2, t2, r1, r2, r3⟩
        · exact .inl r
        · exact .inr ⟨c2, oc2, vs2, t2, r1, le2 _ _ (le1 _ _ r2), r3⟩
    have ef : EfE W env.locals P ad σ s.heap (P1.add f fo) ad σ h' := EfE.step at_.cx (.refl S) (fun b => b = f ∨ (b = c' ∧ s.heap.get? c' = none)) (fun b z => by rcases z with rfl | ⟨rfl, z⟩; exact hf; exact z)
      (fun b o _ ht e => keep b o (fun z => ht (z ▸ List.mem_map_of_mem T.mem)) e) (le1.trans le2) (fun b e => by
        by_cases z : b = f
        · exact .inr (.inr (.inl z))
        · rw [add_ne z] at e
          exact (P1n b e).imp id fun z => .inr (.inr z)) sub2 tab2
    have at2 := at_.efe ef
    obtain ⟨A', h1, u, hu⟩ := at2.fra.ce _ ca hca
    refine wpAny_storeName_cell (s := { s with heap := h', toks := tk }) at2.fra.hk hk hca hu fun h₃ hn hs => ?_
    have ft : Eff W (Xf env) (P1.add f fo) ad σ h' (P1.add f fo) ad σ h₃ := Eff.turn at2.sto A' (.inr ⟨_, hk, hca⟩) (fun b o z e => hs.extBut b o z e) (by obtain ⟨o, e, _⟩ := hn; exact ⟨o, e⟩)
    have F₃ : Fra W none ns act env (P1.add f fo) ad σ en h₃ := at2.fra.turnC hen hca hn hs
    refine k f c' doc pm ctv h₃ tk (P1.add f fo) (ef.xf.tr ft) { F₃ with inn := fun I e => ?_ }
    cases e
    refine ⟨⟨hfo' ▸ add_self, ⟨_, _, _, _, c', oc, vs, t, rfl, rfl, le2 _ _ P1c, hvs, hv1⟩, ⟨hn, (F₃.ce _ ca hca).1⟩, fun p hp => ?_⟩, h1, fun p hp => ?_, fun c e => ?_⟩
    · obtain ⟨x, j, g1, g2, g3, g4⟩ := hL p hp
      obtain ⟨m, _, hsl⟩ := F₃.slot
      obtain ⟨y, v, z1, z2, z3⟩ := hsl j p.2 g4
      rw [g1] at z1; cases z1
      refine ⟨⟨v, z2, ?_⟩, (F₃.ce _ _ g3).1⟩
      rcases z3 with ⟨z3, _⟩ | ⟨_, c, z4, z5⟩
      · rw [g2] at z3; cases z3
      · rw [g3] at z4; cases z4; exact z5
    · obtain ⟨x, j, g1, g2, g3, g4⟩ := hL p hp
      exact (F₃.ce _ _ g3).2.1
    · rw [hca] at e; cases e; rfl
  have hcl := closure_eq iscope env hfree
  have sz : ∀ {b : Addr}, s.heap.objs.size ≤ b → s.heap.get? b = none := fun hb => Heap.get?_none_of_le hb
  refine nestDef_K hd0 hk0 ha ?_
  rw [hqual, hpos]
  rcases hps with rfl | ⟨c', oc, vs, t, rfl, hPc, hvs, hv1⟩
  · refine makeFunction_K (params := params) (body := body) hcl at_.fra.gl hg hcode hC hP trivial rfl T.ne hb fun c' ctv doc h' tk hx hge hlt hrec hP' => ?_
    obtain ⟨c2, oc, vs, t, e0, e1, e2, e3⟩ := hrec
    cases e0
    have hfs : s.heap.objs.size ≤ h'.objs.size := Nat.le_trans hge (Nat.le_of_lt hlt)
    refine fin h'.objs.size c' oc vs t doc _ ctv _ tk (sz hfs) (Nat.ne_of_gt hlt) (.inl (sz hge)) (Heap.get?_push_of_some _ e1) e2 e3 (Heap.get?_push_size _ rfl) (fun b o hb e => Heap.get?_push_of_some _ (hx b o hb e)) ?_
    exact Heap.get?_push_of_some _ (by rw [hP']; rfl)
  · refine makeFunction_hit (params := params) (body := body) (cv := .ref c') hcl at_.fra.gl hg hcode hC hP ?_ ?_ hb fun ctv doc h' tk hx hfs => ?_
    · exact trivial
    · show codeAmong q.pos [rawInt q.pos.line, rawInt q.pos.col, .ref c'] = _
      show (if (((q.pos.line : Int) == (q.pos.line : Int)) && ((q.pos.col : Int) == (q.pos.col : Int))) = true then _ else _) = _
      simp
    · have hne : h'.objs.size ≠ c' := fun z => by
        have := Heap.lt_size (S.sub _ _ hPc)
        rw [← z] at this
        exact absurd (Nat.lt_of_lt_of_le this hfs) (Nat.lt_irrefl _)
      refine fin h'.objs.size c' oc vs t doc _ ctv _ tk (sz hfs) hne (.inr hPc) (Heap.get?_push_of_some _ (hx _ _ (S.sub _ _ hPc))) hvs hv1 (Heap.get?_push_size _ rfl) (fun b o hb e => Heap.get?_push_of_some _ (hx b o e)) ?_
      exact Heap.get?_push_of_some _ (hx _ _ hP)
end
end Mine
end
section
open PySem PySem.W PyProof.Rows PySem.Calls
namespace Mine

noncomputable def inChk (sc : Scope) (ir : FnIR) (act : List Nat) (body : List Stmt) : Bool :=
  !sc.isCoroutine && !sc.isGenerator && decide (sc.kind = .function) && okBl sc ir.names act true ir.body body && sc.names.all (fun q => decide (q.2 ≠ .cell)) && decide (ir.np ≤ ir.names.length) &&
  (List.range ir.np).all (fun k => act.contains k) && distinct (ir.names.take ir.np) && (ir.names.take ir.np).all (fun x => decide (sc.names.lookup x = some .local))

structure Cap where
  x : Str
  k : Nat
  v : V
  c : Addr

theorem nest_facts {env : Env} {iscope : Scope} {params : Arguments} {ibody : List Stmt} {irIn : FnIR} {actIn : List Nat} {qual : Str} {doc pm cdv ctv : Value} {a ca : Addr} {C : List Cap}
    (hcd : ∀ x y c, env.cells.lookup x = some c → env.cells.lookup y = some c → x = y)
    (hchk : inChk iscope irIn actIn ibody = true)
    (hbind : ∀ vals : List Value, vals.length = irIn.np → bindArgs (fnX (Str.ofString "inner") qual params ibody iscope (clo env iscope.names []) .none .none doc pm none cdv ctv) ⟨vals, []⟩ = pure ((irIn.names.take irIn.np).zip vals))
    (hca : env.cells.lookup (Str.ofString "inner") = some ca) (hC : ∀ q ∈ C, env.cells.lookup q.x = some q.c)
    (hfree : ∀ x, (x, NameKind.free) ∈ iscope.names → x = Str.ofString "inner" ∨ ∃ q ∈ C, q.x = x)
    (hidx : ∀ q ∈ C, q.k ∈ actIn ∧ irIn.names[q.k]? = some q.x ∧ iscope.names.lookup q.x = some .free) :
    InnFacts ⟨a, ⟨.type "function", none, .func (fnX (Str.ofString "inner") qual params ibody iscope (clo env iscope.names []) .none .none doc pm none cdv ctv), #[]⟩, ca, C.map fun q => (q.c, q.v)⟩
      (fnX (Str.ofString "inner") qual params ibody iscope (clo env iscope.names []) .none .none doc pm none cdv ctv) ibody irIn actIn (C.map fun q => (q.k, q.v)) := by
  unfold inChk at hchk
  obtain ⟨hchk, h9⟩ := and2 hchk
  obtain ⟨hchk, h8⟩ := and2 hchk
  obtain ⟨hchk, h7⟩ := and2 hchk
  obtain ⟨hchk, h6⟩ := and2 hchk
  obtain ⟨hchk, h5⟩ := and2 hchk
  obtain ⟨hchk, h4⟩ := and2 hchk
  obtain ⟨hchk, h3⟩ := and2 hchk
  obtain ⟨h1, h2⟩ := and2 hchk
  exact {
    o := ⟨_, _, _, rfl⟩
    co := by simpa using h1
    gen := by simpa using h2
    kind := of_decide_eq_true h3
    gl := rfl
    bl := rfl
    bd := rfl
    bind := hbind
    ok := h4
    cell := fun x hx => of_decide_eq_true (List.all_eq_true.mp h5 x hx)
    np := of_decide_eq_true h6
    ac := fun k hk => by have := List.all_eq_true.mp h7 k (List.mem_range.mpr hk); simpa using this
    nd := h8
    loc := fun x hx => of_decide_eq_true (List.all_eq_true.mp h9 x hx)
    cl := fun x c e => by
      obtain ⟨e1, e2⟩ := clo_lookup e
      rcases hfree x e2 with rfl | ⟨q, hq, rfl⟩
      · rw [hca] at e1; cases e1; exact .inl rfl
      · rw [hC q hq] at e1; cases e1; exact .inr ⟨q.v, List.mem_map.mpr ⟨q, hq, rfl⟩⟩
    cd := fun x y c e1 e2 => hcd x y c (clo_lookup e1).1 (clo_lookup e2).1
    fr := fun x e => by
      have hm := mem_of_lookup e
      rcases hfree x hm with rfl | ⟨q, hq, rfl⟩
      · exact ⟨ca, lookup_clo hm hca⟩
      · exact ⟨q.c, lookup_clo hm (hC q hq)⟩
    me := fun c e => by have := (clo_lookup e).1; rw [hca] at this; cases this; rfl
    cp := fun q hq => by
      obtain ⟨r, hr, rfl⟩ := List.mem_map.mp hq
      obtain ⟨g1, g2, g3⟩ := hidx r hr
      exact ⟨g1, r.x, r.c, g2, g3, lookup_clo (mem_of_lookup g3) (hC r hr), List.mem_map.mpr ⟨r, hr, rfl⟩⟩ }

section
variable {W : Wo} (X : Fx W)
theorem nest_tail {q : Tb} (T : TabFacts X q) {n fu kf : Nat} {Φ : Fn → List V → Option V} {ns : List Str} {act : List Nat} {sc : Scope} {A : Around} {env : Env} {P : PM} {ad : Nat → Addr} {σ : Sg} {en : En} {s : Shared} {E : Value → Shared → Prop} {Q : Flow → Shared → Prop}
    {irIn : FnIR} {actIn : List Nat} {C : List Cap} (hS : SemOK X n ⟨Φ, innΨ fu irIn (C.map fun q => (q.k, q.v)) kf, fu⟩) (hkf : kf ≤ n)
    (at_ : At W n none ns act sc A env P ad σ en s.heap) {params : Arguments} {ibody : List Stmt} {iscope : Scope} {pos : Pos} {ca : Addr} {post : List Stmt} {pb : PB} {fl : Fl} {en' : En} {σ' : Sg}
    (hd0 : params.defaults = []) (hk0 : params.kw_defaults = []) (ha : annTrees params none env = []) (hcode : env.code = .ref q.c) (hpos : pos = q.pos) (hqual : qualnameIn env (Str.ofString "inner") (Str.ofString "inner") = q.qual)
    (hchk : inChk iscope irIn actIn ibody = true)
    (hbind : ∀ (vals : List Value) doc pm cdv ctv, vals.length = irIn.np → bindArgs (fnX (Str.ofString "inner") q.qual params ibody iscope (clo env iscope.names []) .none .none doc pm none cdv ctv) ⟨vals, []⟩ = pure ((irIn.names.take irIn.np).zip vals))
    (hk : env.kindOf (Str.ofString "inner") = some .cell) (hca : env.cells.lookup (Str.ofString "inner") = some ca) (hC : ∀ q ∈ C, env.cells.lookup q.x = some q.c)
    (hfree : ∀ x, (x, NameKind.free) ∈ iscope.names → x = Str.ofString "inner" ∨ ∃ q ∈ C, q.x = x)
    (hidx : ∀ q ∈ C, q.k ∈ actIn ∧ irIn.names[q.k]? = some q.x ∧ iscope.names.lookup q.x = some .free)
    (hen : ∀ j V, eget en j = some V → ns[j]? ≠ some (Str.ofString "inner"))
    (hL : ∀ q ∈ C, ∃ j, ns[j]? = some q.x ∧ env.kindOf q.x = some .cell ∧ eget en j = some q.v)
    (hpost : okBl sc ns act true pb post = true) (he : evBl ⟨Φ, innΨ fu irIn (C.map fun q => (q.k, q.v)) kf, fu⟩ pb en σ = some (fl, en', σ'))
    (kq : ∀ fv h' tk P' ad', Eff W (Xf env) P ad σ s.heap P' ad' σ' h' → FlR W P' fl fv → Q fv { s with heap := h', toks := tk }) :
    wpAny (model X.prog W.w) A (execs (.FunctionDef (Str.ofString "inner") params ibody [] none [] iscope none (Str.ofString "inner") pos :: post) env) Q E s := by
  refine wpAny_execs_cons (ss_def X T at_ (L := C.map fun q => (q.c, q.v)) hd0 hk0 ha hcode hpos hqual (fun p hp e => ?_) hk hca hen (fun p hp => ?_) fun a c' doc pm ctv h₁ tk₁ P₁ f₁ F₁ => ?_)
  · rcases hfree p.1 (by rw [← e]; exact hp) with z | ⟨r, hr, z⟩
    · exact ⟨ca, z ▸ hca⟩
    · exact ⟨r.c, z ▸ hC r hr⟩
  · obtain ⟨r, hr, rfl⟩ := List.mem_map.mp hp
    obtain ⟨j, g1, g2, g3⟩ := hL r hr
    exact ⟨r.x, j, g1, g2, hC r hr, g3⟩
  · have IF := nest_facts (a := a) (qual := q.qual) (params := params) (doc := doc) (pm := pm) (cdv := .ref c') (ctv := ctv) at_.fra.cd hchk (fun vals => hbind vals doc pm (.ref c') ctv) hca hC hfree hidx
    have psi := inn_ok X IF fu kf n hkf
    exact sound_Bl X n _ hS pb post (some _) ns act sc A env P₁ ad σ en { s with heap := h₁, toks := tk₁ } fl en' σ' E Q psi hpost ⟨f₁.sto, F₁, at_.sc, at_.aok⟩ he fun fv h' tk P' ad' f F r => kq fv h' tk P' ad' (f₁.tr f) r
end
end Mine
end
section
open PySem PySem.W PyProof.Rows PySem.Calls
namespace Mine

noncomputable def i2dE : PE := match ir_i2d.body with | .cons (.asg _ e) _ => e | _ => .no
noncomputable def i2dRest : PB := match ir_i2d.body with | .cons _ (.cons _ b) => b | _ => .nil
noncomputable def d2iRest : PB := match ir_d2i.body with | .cons _ b => b | _ => .nil

noncomputable def isRet : Fl → Option V | .ret v => some v | _ => none
noncomputable def isOwn0 : V → Option Unit | .own 0 => some () | _ => none
theorem isOwn0_i {v : V} {u : Unit} (h : isOwn0 v = some u) : v = .own 0 := by
  cases v with
  | own j => cases j with
    | zero => rfl
    | succ j => cases h
  | _ => cases h
noncomputable def i2dRun (S : Sem) (k : Nat) (a m : V) : Option V :=
  b2 (evE S.cut (pad 4 [some a, some m]) i2dE []) fun v σ => b1 (isOwn0 v) fun _ =>
    b3 (evBl ⟨S.Φ, innΨ S.fuel ir_i2dIn [(3, .own 0), (5, m)] k, S.fuel⟩ i2dRest (eput (pad 4 [some a, some m]) 2 (some (.own 0))) σ) fun fl _ _ => isRet fl
noncomputable def d2iRun (S : Sem) (k : Nat) (a m : V) : Option V :=
  b3 (evBl ⟨S.Φ, innΨ S.fuel ir_d2iIn [(2, a), (4, m)] k, S.fuel⟩ d2iRest (pad 3 [some a, some m]) []) fun fl _ _ => isRet fl

structure Cp where
  x : Str
  j : Nat
  k : Nat
noncomputable def capChk (sc iscope : Scope) (ns : List Str) (irIn : FnIR) (actIn : List Nat) (c1 c2 : Cp) : Bool :=
  iscope.names.all (fun q => decide (q.2 ≠ .free) || decide (q.1 = Str.ofString "inner") || decide (q.1 = c1.x) || decide (q.1 = c2.x)) && decide (sc.names.lookup (Str.ofString "inner") = some .cell) &&
  [c1, c2].all (fun q => actIn.contains q.k && decide (irIn.names[q.k]? = some q.x) && decide (iscope.names.lookup q.x = some .free) && decide (sc.names.lookup q.x = some .cell) && decide (ns[q.j]? = some q.x))

structure NestF {W : Wo} (X : Fx W) (a : Addr) (q : Tb) (ns : List Str) (act : List Nat) (irIn : FnIR) (actIn : List Nat) (np : Nat) (pre : List Stmt) (pb : PB) (c1 c2 : Cp) (fd : FuncData) : Prop where
  ex : ∃ o params ibody iscope pos post, W.B.get? a = some o ∧ o.data = .func fd ∧ W.B.CodeRec fd.code fd.qualname ∧ Top fd ∧
    fd.body = .stmts (pre ++ .FunctionDef (Str.ofString "inner") params ibody [] none [] iscope none (Str.ofString "inner") pos :: post) ∧
    (∀ vals : List Value, vals.length = np → bindArgs fd ⟨vals, []⟩ = pure ((ns.take np).zip vals)) ∧ callOk fd.scope ns act np = true ∧
    params.defaults = [] ∧ params.kw_defaults = [] ∧ (∀ env, annTrees params none env = []) ∧ fd.code = .ref q.c ∧ pos = q.pos ∧ (∀ L a, qualnameIn (callEnvC fd L a) (Str.ofString "inner") (Str.ofString "inner") = q.qual) ∧
    inChk iscope irIn actIn ibody = true ∧
    (∀ (vals : List Value) cl doc pm cdv ctv, vals.length = irIn.np → bindArgs (fnX (Str.ofString "inner") q.qual params ibody iscope cl .none .none doc pm none cdv ctv) ⟨vals, []⟩ = pure ((irIn.names.take irIn.np).zip vals)) ∧
    capChk fd.scope iscope ns irIn actIn c1 c2 = true ∧ okBl fd.scope ns act true pb post = true

section
variable {W : Wo} (X : Fx W)
theorem frame_gen {n : Nat} {fd : FuncData} (T : Top fd) {a : Addr} {o : Obj} {body : List Stmt} {ns : List Str} {act : List Nat} {np : Nat}
    (ha : W.B.get? a = some o) (hd : o.data = .func fd) (hcr : W.B.CodeRec fd.code fd.qualname) (hb : fd.body = .stmts body) (hbind : ∀ vals : List Value, vals.length = np → bindArgs fd ⟨vals, []⟩ = pure ((ns.take np).zip vals))
    (ho : callOk fd.scope ns act np = true)
    {A : Around} (hA : ∀ e, AOK n (A.deeper e)) {P : PM} {ad : Nat → Addr} {σ : Sg} {s : Shared} {vals : List Value} {Vs : List V} {R : Result → Shared → Prop}
    (Sx : Sto W P ad σ s.heap) (hn : Vs.length = np) (rv : RVs W P ad σ.length vals Vs)
    (k : ∀ h₁ tk₁, At W n none ns act fd.scope (A.deeper (callEnvC fd s.heap.objs.size a)) (callEnvC fd s.heap.objs.size a) P ad σ (pad ns.length (Vs.map some)) h₁ → Eff W (fun _ => False) P ad σ s.heap P ad σ h₁ →
      (∀ b o, s.heap.get? b = some o → ¬ Xf (callEnvC fd s.heap.objs.size a) b) →
      wpAny (model X.prog W.w) (A.deeper (callEnvC fd s.heap.objs.size a)) (execs body (callEnvC fd s.heap.objs.size a)) (fun f s' => R (.ok (.ret (match f with | .ret v => v | _ => .none))) s') (fun _ _ => False) { s with heap := h₁, toks := tk₁ }) :
    codeAny (model X.prog W.w) A (.call (.ref a) ⟨vals, []⟩) R s := by
  have keep : ∀ b o, W.B.get? b = some o → s.heap.get? b = some o := fun b o e => Sx.sub b o (Sx.base b o e)
  have ho' := ho
  unfold callOk at ho'
  obtain ⟨ho', h5⟩ := and2 ho'
  obtain ⟨ho', h4⟩ := and2 ho'
  have hlen : vals.length = np := by rw [rv.length, hn]
  refine codeAny_call_cells (fd := fd) (by have := (hA default).d; have e : (A.deeper default).depth = A.depth + 1 := rfl; rw [e] at this; unfold recursionLimit; lia) (keep _ _ ha) hd (limK X Sx) (hcr.keeps keep) hb (hbind vals hlen) T.clo ?_ (fun s₁ X₁ => ?_) T.co T.gen T.kind
  · intro x hx
    have hm : x.1 ∈ ns.take np := (List.of_mem_zip (a := x.1) (b := x.2) hx).1
    have := List.all_eq_true.mp h4 x.1 hm
    simp only [Bool.or_eq_true, decide_eq_true_eq] at this
    rcases this with q | q
    · exact .inl q
    · refine .inr ⟨q, ?_⟩
      have hm := mem_of_lookup q
      have := List.all_eq_true.mp h5 (x.1, .cell) hm
      simp only [ne_eq, reduceCtorEq, not_false_eq_true, decide_true, Bool.true_and, not_true_eq_false, decide_false, Bool.false_or] at this
      obtain ⟨c, hc⟩ := lookup_some_of_any (l := cellsFrom (s.heap.objs.size + 1) fd.scope.names []) (x := x.1) (by
        rw [← this]; exact any_names (cellsFrom_names fd.scope.names _ 0 [] [] rfl) x.1)
      rw [hc]; rfl
  · obtain ⟨F, hx⟩ := enter T (a := a) Sx ho hn rv X₁
    obtain ⟨h₁, tk₁, rfl⟩ := X₁.toInCall.same
    have f₁ : Eff W (fun _ => False) P ad σ s.heap P ad σ h₁ := Eff.grow Sx X₁.toInCall.keep
    exact wpAny_mono (k h₁ tk₁ ⟨f₁.sto, F, rfl, hA _⟩ f₁ hx) (fun _ _ z => z) fun _ _ z => z.elim

theorem nest_in {q : Tb} (T : TabFacts X q) {n k : Nat} {S : Sem} {ns : List Str} {act : List Nat} {irIn : FnIR} {actIn : List Nat} {pb : PB} {c1 c2 : Cp} {fd : FuncData} {a : Addr} (hS : SemOK X n S) (hk : k ≤ n)
    (hni : (List.range ns.length).all (fun j => decide (ns[j]? ≠ some (Str.ofString "inner")) || decide (j = ns.length - 1)) = true)
    {A : Around} {L : Addr} {P : PM} {ad : Nat → Addr} {σ : Sg} {en : En} {s : Shared} {E : Value → Shared → Prop} {Q : Flow → Shared → Prop} {fl : Fl} {en' : En} {σ' : Sg} {v1 v2 : V}
    (at_ : At W n none ns act fd.scope A (callEnvC fd L a) P ad σ en s.heap)
    {params : Arguments} {ibody : List Stmt} {iscope : Scope} {pos : Pos} {post : List Stmt}
    (d1 : params.defaults = []) (d2 : params.kw_defaults = []) (d3 : ∀ env, annTrees params none env = []) (d4 : fd.code = .ref q.c) (d5 : pos = q.pos) (d6 : ∀ L a, qualnameIn (callEnvC fd L a) (Str.ofString "inner") (Str.ofString "inner") = q.qual)
    (d7 : inChk iscope irIn actIn ibody = true)
    (d8 : ∀ (vals : List Value) cl doc pm cdv ctv, vals.length = irIn.np → bindArgs (fnX (Str.ofString "inner") q.qual params ibody iscope cl .none .none doc pm none cdv ctv) ⟨vals, []⟩ = pure ((irIn.names.take irIn.np).zip vals))
    (d9 : capChk fd.scope iscope ns irIn actIn c1 c2 = true) (d10 : okBl fd.scope ns act true pb post = true)
    (g1 : eget en c1.j = some v1) (g2 : eget en c2.j = some v2) (g3 : eget en (ns.length - 1) = none)
    (he : evBl ⟨S.Φ, innΨ S.fuel irIn [(c1.k, v1), (c2.k, v2)] k, S.fuel⟩ pb en σ = some (fl, en', σ'))
    (kq : ∀ fv h' tk P' ad', Eff W (Xf (callEnvC fd L a)) P ad σ s.heap P' ad' σ' h' → FlR W P' fl fv → Q fv { s with heap := h', toks := tk }) :
    wpAny (model X.prog W.w) A (execs (.FunctionDef (Str.ofString "inner") params ibody [] none [] iscope none (Str.ofString "inner") pos :: post) (callEnvC fd L a)) Q E s := by
  unfold capChk at d9
  obtain ⟨d9, e3⟩ := and2 d9
  obtain ⟨e1, e2⟩ := and2 d9
  have e2 : (callEnvC fd L a).kindOf (Str.ofString "inner") = some .cell := of_decide_eq_true e2
  simp only [List.all_cons, List.all_nil, Bool.and_true, Bool.and_eq_true, decide_eq_true_eq] at e3
  obtain ⟨⟨⟨⟨⟨p1, p2⟩, p3⟩, p4⟩, p5⟩, ⟨⟨⟨r1, r2⟩, r3⟩, r4⟩, r5⟩ := e3
  obtain ⟨ca, hca⟩ := at_.fra.cl (Str.ofString "inner") (by rw [e2]; rfl)
  obtain ⟨x1, hx1⟩ := at_.fra.cl c1.x (by show isCell (fd.scope.names.lookup c1.x) = true; rw [p4]; rfl)
  obtain ⟨x2, hx2⟩ := at_.fra.cl c2.x (by show isCell (fd.scope.names.lookup c2.x) = true; rw [r4]; rfl)
  have mem2 : ∀ {r : Cap}, r ∈ ([⟨c1.x, c1.k, v1, x1⟩, ⟨c2.x, c2.k, v2, x2⟩] : List Cap) → r = ⟨c1.x, c1.k, v1, x1⟩ ∨ r = ⟨c2.x, c2.k, v2, x2⟩ := fun h => by
    simpa using h
  refine nest_tail X T (C := [⟨c1.x, c1.k, v1, x1⟩, ⟨c2.x, c2.k, v2, x2⟩]) (Φ := S.Φ) (fu := S.fuel) (kf := k) ⟨hS.fn, hS.make⟩ hk at_ d1 d2 (d3 _) d4 d5 (d6 _ _) d7 (fun vals doc pm cdv ctv => d8 vals _ doc pm cdv ctv) e2 hca (fun r hr => ?_) (fun x hx => ?_) (fun r hr => ?_) (fun j V e z => ?_) (fun r hr => ?_) d10 he kq
  · rcases mem2 hr with rfl | rfl
    · exact hx1
    · exact hx2
  · have := List.all_eq_true.mp e1 (x, .free) hx
    simp only [ne_eq, not_true_eq_false, decide_false, Bool.false_or, Bool.or_eq_true, decide_eq_true_eq] at this
    rcases this with (z | z) | z
    · exact .inl z
    · exact .inr ⟨_, .head _, z.symm⟩
    · exact .inr ⟨_, .tail _ (.head _), z.symm⟩
  · rcases mem2 hr with rfl | rfl
    · exact ⟨by simpa using p1, p2, p3⟩
    · exact ⟨by simpa using r1, r2, r3⟩
  · have hj : j < ns.length := (List.getElem?_eq_some_iff.mp z).1
    have := List.all_eq_true.mp hni j (List.mem_range.mpr hj)
    simp only [ne_eq, z, not_true_eq_false, decide_false, Bool.false_or, decide_eq_true_eq] at this
    rw [this, g3] at e; cases e
  · rcases mem2 hr with rfl | rfl
    · exact ⟨c1.j, p5, p4, g1⟩
    · exact ⟨c2.j, r5, r4, g2⟩

theorem d2i_ok {q : Tb} (T : TabFacts X q) {n k : Nat} {S : Sem} {act : List Nat} {actIn : List Nat} {fd : FuncData} (hS : SemOK X n S) (hk : k ≤ n)
    (K : NestF X (X.fa .d2i) q ir_d2i.names act ir_d2iIn actIn 2 [] d2iRest ⟨Str.ofString "digits", 0, 2⟩ ⟨Str.ofString "n", 1, 4⟩ fd)
    {a m v : V} (he : d2iRun S k a m = some v) : GoodF X (n + 1) .d2i [a, m] v := fun A P s vals R hA Sx rv kq => by
  obtain ⟨o, params, ibody, iscope, pos, post, h1, h2, h3, Tp, h4, h5, h6, d1, d2, d3, d4, d5, d6, d7, d8, d9, d10⟩ := K.ex
  refine b3e he fun fl en' σ' e he => ?_
  refine frame_gen X Tp h1 h2 h3 h4 h5 h6 (fun e => hA.deep e) Sx rfl rv fun h₁ tk₁ at1 f₁ hx => ?_
  refine nest_in X T hS hk (by decide +kernel) (s := { s with heap := h₁, toks := tk₁ }) at1 d1 d2 d3 d4 d5 d6 d7 d8 d9 d10 (v1 := a) (v2 := m) rfl rfl rfl e fun fv h' tk P' ad' f r => ?_
  have ff := (f₁.trans f (X'' := fun _ => False) (fun _ _ _ q => q) (fun b o e q => hx b o e q)).close
  cases r with
  | next => cases he
  | brk => cases he
  | ret r => cases he; exact kq _ h' tk P' ff r

theorem i2d_ok {q : Tb} (T : TabFacts X q) {n k : Nat} {S : Sem} {act : List Nat} {actIn : List Nat} {fd : FuncData} {st : Stmt} (hS : SemOK X n S) (hk : k ≤ n)
    (K : NestF X (X.fa .i2d) q ir_i2d.names act ir_i2dIn actIn 2 [st] i2dRest ⟨Str.ofString "a_digits", 2, 3⟩ ⟨Str.ofString "n", 1, 5⟩ fd) (hst : okS fd.scope ir_i2d.names act false (.asg 2 i2dE) st = true)
    {a m v : V} (he : i2dRun S k a m = some v) : GoodF X (n + 1) .i2d [a, m] v := fun A P s vals R hA Sx rv kq => by
  obtain ⟨o, params, ibody, iscope, pos, post, h1, h2, h3, Tp, h4, h5, h6, d1, d2, d3, d4, d5, d6, d7, d8, d9, d10⟩ := K.ex
  refine b2e he fun v0 σ₁ e1 he => b1e he fun _ e0 he => b3e he fun fl en' σ' e he => ?_
  · rw [isOwn0_i e0] at e1
    refine frame_gen X Tp h1 h2 h3 h4 h5 h6 (fun e => hA.deep e) Sx rfl rv fun h₁ tk₁ at1 f₁ hx => ?_
    refine wpAny_execs_cons (ss_asg X n S.cut (semCut hS) 2 i2dE st none ir_i2d.names act fd.scope _ _ P a0 [] _ { s with heap := h₁, toks := tk₁ } .next (eput (pad 4 [some a, some m]) 2 (some (.own 0))) σ₁ _ _ (fun _ _ => rfl) hst at1 (by
      have e1 : evE S.cut (pad ir_i2d.names.length (List.map some [a, m])) i2dE [] = some (.own 0, σ₁) := e1
      rw [s_asg, e1]; rfl) fun fv h₂ tk₂ P₂ ad₂ f₂ F₂ r₂ => ?_)
    cases r₂
    refine nest_in X T hS hk (by decide +kernel) (s := { s with heap := h₂, toks := tk₂ }) (At.of (s := { s with heap := h₁, toks := tk₁ }) at1 f₂.sto F₂) d1 d2 d3 d4 d5 d6 d7 d8 d9 d10 (v1 := .own 0) (v2 := m) rfl rfl rfl e fun fv h' tk P' ad' f r => ?_
    have ff := (f₁.trans (f₂.tr f) (X'' := fun _ => False) (fun _ _ _ q => q) (fun b o e q => hx b o e q)).close
    cases r with
    | next => cases he
    | brk => cases he
    | ret r => cases he; exact kq _ h' tk P' ff r
end
end Mine
end
section
open PySem PySem.W PyProof.Rows PySem.Calls
namespace Mine

mutual
noncomputable def storesS : PS → List Nat
  | .asg k _ => [k]
  | .unp ks _ => ks
  | .unpT ks _ => ks
  | .asgN ks _ => ks
  | .ifs _ t e => storesB t ++ storesB e
  | .for_ k _ b => k :: storesB b
  | .whl _ b => storesB b
  | _ => []
noncomputable def storesB : PB → List Nat
  | .nil => []
  | .cons s b => storesS s ++ storesB b
end
noncomputable def actOf (f : FnIR) : List Nat := List.range f.np ++ storesB f.body

noncomputable def semL (fu : Nat) : Nat → Sem
  | 0 => ⟨fun _ _ => none, fun _ _ => none, fu⟩
  | n + 1 => ⟨fun f vs => match f with
      | .init => (match vs with | [.d x] => runInit (semL fu n) ir_init x | _ => none)
      | .i2d => (match vs with | [a, m] => i2dRun (semL fu n) n a m | _ => none)
      | .d2i => (match vs with | [a, m] => d2iRun (semL fu n) n a m | _ => none)
      | f => runF (semL fu n) (irOf f) vs, fun _ _ => none, fu⟩
theorem semL_psi (fu : Nat) : ∀ n vs σ, (semL fu n).Ψ vs σ = none
  | 0, _, _ => rfl
  | _ + 1, _, _ => rfl

noncomputable def odd : Fn → Bool | .init => true | .i2d => true | .d2i => true | _ => false
structure AllF {W : Wo} (X : Fx W) : Prop where
  ff : ∀ f, odd f = false → FnFacts X f (X.fa f) (Str.ofString "") (irOf f) (actOf (irOf f))
  ini : ∃ fI, FnFacts X .init fI (Str.ofString "") ir_init (actOf ir_init) ∧ makesIn X.K W.C = true ∧ findIn X.K (.ref W.C) "__init__" = some (some (.ref fI)) ∧ typeIn X.K (.ref fI) = some (.type "function")
  i2d : ∃ q act actIn fd st, TabFacts X q ∧ NestF X (X.fa .i2d) q ir_i2d.names act ir_i2dIn actIn 2 [st] i2dRest ⟨Str.ofString "a_digits", 2, 3⟩ ⟨Str.ofString "n", 1, 5⟩ fd ∧ okS fd.scope ir_i2d.names act false (.asg 2 i2dE) st = true
  d2i : ∃ q act actIn fd, TabFacts X q ∧ NestF X (X.fa .d2i) q ir_d2i.names act ir_d2iIn actIn 2 [] d2iRest ⟨Str.ofString "digits", 0, 2⟩ ⟨Str.ofString "n", 1, 4⟩ fd

theorem semL_ok {W : Wo} {X : Fx W} (F : AllF X) (fu : Nat) : ∀ n, SemOK X n (semL fu n)
  | 0 => ⟨(fun _ _ _ _ h => by cases h), (fun _ _ h => by cases h)⟩
  | n + 1 => by
    have ih := semL_ok F fu n
    have hΨ := semL_psi fu n
    refine ⟨fun f vs v hf h => ?_, fun vs v h => ?_⟩
    · by_cases ho : odd f = true
      · cases f <;> first | exact absurd ho (by decide) | skip
        · exact absurd hf (by decide)
        · obtain ⟨q, act, actIn, fd, st, T, K, hst⟩ := F.i2d
          match vs, h with
          | [a, m], h => exact i2d_ok X T ih (Nat.le_refl n) K hst h
        · obtain ⟨q, act, actIn, fd, T, K⟩ := F.d2i
          match vs, h with
          | [a, m], h => exact d2i_ok X T ih (Nat.le_refl n) K h
      · have ho : odd f = false := by simpa using ho
        have h' : runF (semL fu n) (irOf f) vs = some v := by
          cases f <;> first | exact h | exact absurd ho (by decide)
        exact run_ok X n _ ih hΨ (F.ff f ho) h'
    · obtain ⟨fI, K, k1, k2, k3⟩ := F.ini
      match vs, h with
      | [.d x], h => exact init_ok X n _ ih hΨ K rfl k1 k2 k3 h
end Mine
end
section
open PySem PySem.W PyProof.Rows PySem.Calls
set_option maxHeartbeats 8000000
namespace Mine
noncomputable abbrev sQ (x : String) : Str := Str.ofString x
noncomputable abbrev lwR : OpenLaw := PySem.Challenge.rw_sc0102_01
noncomputable def mnB : List Stmt := lwR.row.toRowW.prog.main.body
noncomputable def clB : List Stmt := match mnB with | _ :: .ClassDef _ _ _ b _ _ _ _ _ _ _ :: _ => b | _ => []
noncomputable def fA : List Stmt → Nat → Arguments
  | .FunctionDef _ a _ _ _ _ _ _ _ _ :: _, 0 => a
  | _ :: r, n + 1 => fA r n
  | _, _ => ⟨[], [], none, [], [], none, []⟩
noncomputable def fB : List Stmt → Nat → List Stmt
  | .FunctionDef _ _ b _ _ _ _ _ _ _ :: _, 0 => b
  | _ :: r, n + 1 => fB r n
  | _, _ => []
noncomputable def fS : List Stmt → Nat → Scope
  | .FunctionDef _ _ _ _ _ _ c _ _ _ :: _, 0 => c
  | _ :: r, n + 1 => fS r n
  | _, _ => default
noncomputable def fP : List Stmt → Nat → Pos
  | .FunctionDef _ _ _ _ _ _ _ _ _ p :: _, 0 => p
  | _ :: r, n + 1 => fP r n
  | _, _ => ⟨0, 0, 0, 0⟩
noncomputable def o2 (P : Params) : Obj := (Obj.mk Value.none none (Data.dict (List.toArray []) 0) (List.toArray []))
noncomputable def o3 (P : Params) : Obj := (Obj.mk (Value.type "dict") none (Data.dict (List.toArray [(DictEntry.mk (PyData.keyHash P (sQ "__name__")) (Value.str (sQ "__name__") 165) (Value.str (sQ "law_sc0102_01") 570)), (DictEntry.mk (PyData.keyHash P (sQ "__doc__")) (Value.str (sQ "__doc__") 166) Value.none), (DictEntry.mk (PyData.keyHash P (sQ "__package__")) (Value.str (sQ "__package__") 167) Value.none), (DictEntry.mk (PyData.keyHash P (sQ "__loader__")) (Value.str (sQ "__loader__") 168) (Value.builtin "__main__.__loader__#opaque")), (DictEntry.mk (PyData.keyHash P (sQ "__spec__")) (Value.str (sQ "__spec__") 169) Value.none), (DictEntry.mk (PyData.keyHash P (sQ "__annotations__")) (Value.str (sQ "__annotations__") 170) (Value.ref 6)), (DictEntry.mk (PyData.keyHash P (sQ "__builtins__")) (Value.str (sQ "__builtins__") 171) (Value.ref 4)), (DictEntry.mk (PyData.keyHash P (sQ "__file__")) (Value.str (sQ "__file__") 173) (Value.str (sQ "/claim/cut.py") 172)), (DictEntry.mk (PyData.keyHash P (sQ "__cached__")) (Value.str (sQ "__cached__") 174) Value.none), (DictEntry.mk (PyData.keyHash P (sQ "Whitespace")) (Value.str (sQ "Whitespace") 294) (Value.ref 76)), (DictEntry.mk (PyData.keyHash P (sQ "_DIV_LIMIT")) (Value.str (sQ "_DIV_LIMIT") 298) (Value.int (4000 : Int) 297)), (DictEntry.mk (PyData.keyHash P (sQ "_div2n1n")) (Value.str (sQ "_div2n1n") 315) (Value.ref 87)), (DictEntry.mk (PyData.keyHash P (sQ "_div3n2n")) (Value.str (sQ "_div3n2n") 329) (Value.ref 94)), (DictEntry.mk (PyData.keyHash P (sQ "_int2digits")) (Value.str (sQ "_int2digits") 340) (Value.ref 101)), (DictEntry.mk (PyData.keyHash P (sQ "_digits2int")) (Value.str (sQ "_digits2int") 351) (Value.ref 108)), (DictEntry.mk (PyData.keyHash P (sQ "_divmod_pos")) (Value.str (sQ "_divmod_pos") 366) (Value.ref 115)), (DictEntry.mk (PyData.keyHash P (sQ "int_divmod")) (Value.str (sQ "int_divmod") 376) (Value.ref 122)), (DictEntry.mk (PyData.keyHash P (sQ "LPAR")) (Value.str (sQ "LPAR") 378) (Value.int (7 : Int) 377)), (DictEntry.mk (PyData.keyHash P (sQ "RPAR")) (Value.str (sQ "RPAR") 380) (Value.int (8 : Int) 379)), (DictEntry.mk (PyData.keyHash P (sQ "LSQB")) (Value.str (sQ "LSQB") 382) (Value.int (9 : Int) 381)), (DictEntry.mk (PyData.keyHash P (sQ "RSQB")) (Value.str (sQ "RSQB") 384) (Value.int (10 : Int) 383)), (DictEntry.mk (PyData.keyHash P (sQ "COLON")) (Value.str (sQ "COLON") 386) (Value.int (11 : Int) 385)), (DictEntry.mk (PyData.keyHash P (sQ "COMMA")) (Value.str (sQ "COMMA") 388) (Value.int (12 : Int) 387)), (DictEntry.mk (PyData.keyHash P (sQ "SEMI")) (Value.str (sQ "SEMI") 390) (Value.int (13 : Int) 389)), (DictEntry.mk (PyData.keyHash P (sQ "PLUS")) (Value.str (sQ "PLUS") 392) (Value.int (14 : Int) 391)), (DictEntry.mk (PyData.keyHash P (sQ "MINUS")) (Value.str (sQ "MINUS") 394) (Value.int (15 : Int) 393)), (DictEntry.mk (PyData.keyHash P (sQ "STAR")) (Value.str (sQ "STAR") 396) (Value.int (16 : Int) 395)), (DictEntry.mk (PyData.keyHash P (sQ "SLASH")) (Value.str (sQ "SLASH") 398) (Value.int (17 : Int) 397)), (DictEntry.mk (PyData.keyHash P (sQ "VBAR")) (Value.str (sQ "VBAR") 400) (Value.int (18 : Int) 399)), (DictEntry.mk (PyData.keyHash P (sQ "AMPER")) (Value.str (sQ "AMPER") 402) (Value.int (19 : Int) 401)), (DictEntry.mk (PyData.keyHash P (sQ "LESS")) (Value.str (sQ "LESS") 404) (Value.int (20 : Int) 403)), (DictEntry.mk (PyData.keyHash P (sQ "GREATER")) (Value.str (sQ "GREATER") 406) (Value.int (21 : Int) 405)), (DictEntry.mk (PyData.keyHash P (sQ "EQUAL")) (Value.str (sQ "EQUAL") 408) (Value.int (22 : Int) 407)), (DictEntry.mk (PyData.keyHash P (sQ "DOT")) (Value.str (sQ "DOT") 410) (Value.int (23 : Int) 409)), (DictEntry.mk (PyData.keyHash P (sQ "PERCENT")) (Value.str (sQ "PERCENT") 412) (Value.int (24 : Int) 411)), (DictEntry.mk (PyData.keyHash P (sQ "LBRACE")) (Value.str (sQ "LBRACE") 414) (Value.int (25 : Int) 413)), (DictEntry.mk (PyData.keyHash P (sQ "RBRACE")) (Value.str (sQ "RBRACE") 416) (Value.int (26 : Int) 415)), (DictEntry.mk (PyData.keyHash P (sQ "EQEQUAL")) (Value.str (sQ "EQEQUAL") 418) (Value.int (27 : Int) 417)), (DictEntry.mk (PyData.keyHash P (sQ "NOTEQUAL")) (Value.str (sQ "NOTEQUAL") 420) (Value.int (28 : Int) 419)), (DictEntry.mk (PyData.keyHash P (sQ "LESSEQUAL")) (Value.str (sQ "LESSEQUAL") 422) (Value.int (29 : Int) 421)), (DictEntry.mk (PyData.keyHash P (sQ "GREATEREQUAL")) (Value.str (sQ "GREATEREQUAL") 424) (Value.int (30 : Int) 423)), (DictEntry.mk (PyData.keyHash P (sQ "TILDE")) (Value.str (sQ "TILDE") 426) (Value.int (31 : Int) 425)), (DictEntry.mk (PyData.keyHash P (sQ "CIRCUMFLEX")) (Value.str (sQ "CIRCUMFLEX") 428) (Value.int (32 : Int) 427)), (DictEntry.mk (PyData.keyHash P (sQ "LEFTSHIFT")) (Value.str (sQ "LEFTSHIFT") 430) (Value.int (33 : Int) 429)), (DictEntry.mk (PyData.keyHash P (sQ "RIGHTSHIFT")) (Value.str (sQ "RIGHTSHIFT") 432) (Value.int (34 : Int) 431)), (DictEntry.mk (PyData.keyHash P (sQ "DOUBLESTAR")) (Value.str (sQ "DOUBLESTAR") 434) (Value.int (35 : Int) 433)), (DictEntry.mk (PyData.keyHash P (sQ "PLUSEQUAL")) (Value.str (sQ "PLUSEQUAL") 436) (Value.int (36 : Int) 435)), (DictEntry.mk (PyData.keyHash P (sQ "MINEQUAL")) (Value.str (sQ "MINEQUAL") 438) (Value.int (37 : Int) 437)), (DictEntry.mk (PyData.keyHash P (sQ "STAREQUAL")) (Value.str (sQ "STAREQUAL") 440) (Value.int (38 : Int) 439)), (DictEntry.mk (PyData.keyHash P (sQ "SLASHEQUAL")) (Value.str (sQ "SLASHEQUAL") 442) (Value.int (39 : Int) 441)), (DictEntry.mk (PyData.keyHash P (sQ "PERCENTEQUAL")) (Value.str (sQ "PERCENTEQUAL") 444) (Value.int (40 : Int) 443)), (DictEntry.mk (PyData.keyHash P (sQ "AMPEREQUAL")) (Value.str (sQ "AMPEREQUAL") 446) (Value.int (41 : Int) 445)), (DictEntry.mk (PyData.keyHash P (sQ "VBAREQUAL")) (Value.str (sQ "VBAREQUAL") 448) (Value.int (42 : Int) 447)), (DictEntry.mk (PyData.keyHash P (sQ "CIRCUMFLEXEQUAL")) (Value.str (sQ "CIRCUMFLEXEQUAL") 450) (Value.int (43 : Int) 449)), (DictEntry.mk (PyData.keyHash P (sQ "LEFTSHIFTEQUAL")) (Value.str (sQ "LEFTSHIFTEQUAL") 452) (Value.int (44 : Int) 451)), (DictEntry.mk (PyData.keyHash P (sQ "RIGHTSHIFTEQUAL")) (Value.str (sQ "RIGHTSHIFTEQUAL") 454) (Value.int (45 : Int) 453)), (DictEntry.mk (PyData.keyHash P (sQ "DOUBLESTAREQUAL")) (Value.str (sQ "DOUBLESTAREQUAL") 456) (Value.int (46 : Int) 455)), (DictEntry.mk (PyData.keyHash P (sQ "DOUBLESLASH")) (Value.str (sQ "DOUBLESLASH") 458) (Value.int (47 : Int) 457)), (DictEntry.mk (PyData.keyHash P (sQ "DOUBLESLASHEQUAL")) (Value.str (sQ "DOUBLESLASHEQUAL") 460) (Value.int (48 : Int) 459)), (DictEntry.mk (PyData.keyHash P (sQ "AT")) (Value.str (sQ "AT") 462) (Value.int (49 : Int) 461)), (DictEntry.mk (PyData.keyHash P (sQ "ATEQUAL")) (Value.str (sQ "ATEQUAL") 464) (Value.int (50 : Int) 463)), (DictEntry.mk (PyData.keyHash P (sQ "RARROW")) (Value.str (sQ "RARROW") 466) (Value.int (51 : Int) 465)), (DictEntry.mk (PyData.keyHash P (sQ "ELLIPSIS")) (Value.str (sQ "ELLIPSIS") 468) (Value.int (52 : Int) 467)), (DictEntry.mk (PyData.keyHash P (sQ "COLONEQUAL")) (Value.str (sQ "COLONEQUAL") 470) (Value.int (53 : Int) 469)), (DictEntry.mk (PyData.keyHash P (sQ "EXCLAMATION")) (Value.str (sQ "EXCLAMATION") 472) (Value.int (54 : Int) 471)), (DictEntry.mk (PyData.keyHash P (sQ "EXACT_TOKEN_TYPES")) (Value.str (sQ "EXACT_TOKEN_TYPES") 569) (Value.ref 123)), (DictEntry.mk (PyData.keyHash P (sQ "_law_drawn")) (Value.str (sQ "_law_drawn") 577) (Value.ref 130)), (DictEntry.mk (PyData.keyHash P (sQ "_law_lead")) (Value.str (sQ "_law_lead") 588) (Value.ref 137)), (DictEntry.mk (PyData.keyHash P (sQ "_law_read")) (Value.str (sQ "_law_read") 594) (Value.ref 142)), (DictEntry.mk (PyData.keyHash P (sQ "_law_figures")) (Value.str (sQ "_law_figures") 607) (Value.ref 149)), (DictEntry.mk (PyData.keyHash P (sQ "_law_columns")) (Value.str (sQ "_law_columns") 613) (Value.ref 154)), (DictEntry.mk (PyData.keyHash P (sQ "_law_plain")) (Value.str (sQ "_law_plain") 624) (Value.ref 161)), (DictEntry.mk (PyData.keyHash P (sQ "_law_ways")) (Value.str (sQ "_law_ways") 635) (Value.ref 168)), (DictEntry.mk (PyData.keyHash P (sQ "_law_product")) (Value.str (sQ "_law_product") 645) (Value.ref 175)), (DictEntry.mk (PyData.keyHash P (sQ "law")) (Value.str (sQ "law") 651) (Value.ref 180))]) 75) (List.toArray []))
noncomputable def o25 (P : Params) : Obj := (Obj.mk (Value.type "tuple") none (Data.seq (List.toArray []) 0) (List.toArray []))
noncomputable def o27 (P : Params) : Obj := (Obj.mk (Value.type "tuple") none (Data.seq (List.toArray [(Value.str (sQ "self") 209), (Value.str (sQ "ws") 210), (Value.str (sQ "S") 211), (Value.str (sQ "T") 212), (Value.str (sQ "count") 213), (Value.str (sQ "b") 214), (Value.str (sQ "n") 215), (Value.str (sQ "nt") 216), (Value.str (sQ "ch") 217)]) 0) (List.toArray []))
noncomputable def o28 (P : Params) : Obj := (Obj.mk (Value.type "tuple") none (Data.seq (List.toArray []) 0) (List.toArray []))
noncomputable def o30 (P : Params) : Obj := (Obj.mk (Value.type "code") none (Data.fields (List.toArray [(Value.str (sQ "__init__") 206), (Value.str (sQ "Whitespace.__init__") 207), (Value.str (sQ "/claim/cut.py") 208), (Value.int (5 : Int) 0), (Value.int (2 : Int) 0), (Value.int (0 : Int) 0), (Value.int (0 : Int) 0), (Value.int (3 : Int) 0), (Value.ref 25), (Value.bool true), (Value.int (181 : Int) 0), (Value.ref 26), Value.none, (Value.ref 27), (Value.ref 28), (Value.ref 29), (Value.int (218 : Int) 0), (Value.int (5 : Int) 0), (Value.str (sQ "/claim/cut.py") 219)])) (List.toArray []))
noncomputable def o31 (P : Params) : Obj := (Obj.mk (Value.type "function") none (Data.func (FuncData.mk (sQ "__init__") (sQ "Whitespace.__init__") (fA clB 1) (FuncBody.stmts (fB clB 1)) (fS clB 1) 3 [] Value.none Value.none Value.none (Value.str (sQ "cpy313.tabnanny") 187) none (Value.ref 30) Value.none 0)) (List.toArray []))
noncomputable def o32 (P : Params) : Obj := (Obj.mk (Value.type "tuple") none (Data.seq (List.toArray []) 0) (List.toArray []))
noncomputable def o34 (P : Params) : Obj := (Obj.mk (Value.type "tuple") none (Data.seq (List.toArray [(Value.str (sQ "self") 224), (Value.str (sQ "count") 225), (Value.str (sQ "trailing") 226)]) 0) (List.toArray []))
noncomputable def o35 (P : Params) : Obj := (Obj.mk (Value.type "tuple") none (Data.seq (List.toArray []) 0) (List.toArray []))
noncomputable def o37 (P : Params) : Obj := (Obj.mk (Value.type "code") none (Data.fields (List.toArray [(Value.str (sQ "longest_run_of_spaces") 221), (Value.str (sQ "Whitespace.longest_run_of_spaces") 222), (Value.str (sQ "/claim/cut.py") 223), (Value.int (28 : Int) 0), (Value.int (1 : Int) 0), (Value.int (0 : Int) 0), (Value.int (0 : Int) 0), (Value.int (3 : Int) 0), (Value.ref 32), (Value.bool true), (Value.int (181 : Int) 0), (Value.ref 33), Value.none, (Value.ref 34), (Value.ref 35), (Value.ref 36), (Value.int (227 : Int) 0), (Value.int (28 : Int) 0), (Value.str (sQ "/claim/cut.py") 228)])) (List.toArray []))
noncomputable def o38 (P : Params) : Obj := (Obj.mk (Value.type "function") none (Data.func (FuncData.mk (sQ "longest_run_of_spaces") (sQ "Whitespace.longest_run_of_spaces") (fA clB 2) (FuncBody.stmts (fB clB 2)) (fS clB 2) 3 [] Value.none Value.none Value.none (Value.str (sQ "cpy313.tabnanny") 187) none (Value.ref 37) Value.none 0)) (List.toArray []))
noncomputable def o39 (P : Params) : Obj := (Obj.mk (Value.type "tuple") none (Data.seq (List.toArray []) 0) (List.toArray []))
noncomputable def o41 (P : Params) : Obj := (Obj.mk (Value.type "tuple") none (Data.seq (List.toArray [(Value.str (sQ "self") 233), (Value.str (sQ "tabsize") 234), (Value.str (sQ "count") 235), (Value.str (sQ "trailing") 236), (Value.str (sQ "il") 237), (Value.str (sQ "i") 238)]) 0) (List.toArray []))
noncomputable def o42 (P : Params) : Obj := (Obj.mk (Value.type "tuple") none (Data.seq (List.toArray []) 0) (List.toArray []))
noncomputable def o44 (P : Params) : Obj := (Obj.mk (Value.type "code") none (Data.fields (List.toArray [(Value.str (sQ "indent_level") 230), (Value.str (sQ "Whitespace.indent_level") 231), (Value.str (sQ "/claim/cut.py") 232), (Value.int (32 : Int) 0), (Value.int (2 : Int) 0), (Value.int (0 : Int) 0), (Value.int (0 : Int) 0), (Value.int (3 : Int) 0), (Value.ref 39), (Value.bool true), (Value.int (181 : Int) 0), (Value.ref 40), Value.none, (Value.ref 41), (Value.ref 42), (Value.ref 43), (Value.int (239 : Int) 0), (Value.int (32 : Int) 0), (Value.str (sQ "/claim/cut.py") 240)])) (List.toArray []))
noncomputable def o45 (P : Params) : Obj := (Obj.mk (Value.type "function") none (Data.func (FuncData.mk (sQ "indent_level") (sQ "Whitespace.indent_level") (fA clB 3) (FuncBody.stmts (fB clB 3)) (fS clB 3) 3 [] Value.none Value.none Value.none (Value.str (sQ "cpy313.tabnanny") 187) none (Value.ref 44) Value.none 0)) (List.toArray []))
noncomputable def o46 (P : Params) : Obj := (Obj.mk (Value.type "tuple") none (Data.seq (List.toArray []) 0) (List.toArray []))
noncomputable def o48 (P : Params) : Obj := (Obj.mk (Value.type "tuple") none (Data.seq (List.toArray [(Value.str (sQ "self") 245), (Value.str (sQ "other") 246)]) 0) (List.toArray []))
noncomputable def o49 (P : Params) : Obj := (Obj.mk (Value.type "tuple") none (Data.seq (List.toArray []) 0) (List.toArray []))
noncomputable def o51 (P : Params) : Obj := (Obj.mk (Value.type "code") none (Data.fields (List.toArray [(Value.str (sQ "equal") 242), (Value.str (sQ "Whitespace.equal") 243), (Value.str (sQ "/claim/cut.py") 244), (Value.int (39 : Int) 0), (Value.int (2 : Int) 0), (Value.int (0 : Int) 0), (Value.int (0 : Int) 0), (Value.int (3 : Int) 0), (Value.ref 46), (Value.bool true), (Value.int (181 : Int) 0), (Value.ref 47), Value.none, (Value.ref 48), (Value.ref 49), (Value.ref 50), (Value.int (247 : Int) 0), (Value.int (39 : Int) 0), (Value.str (sQ "/claim/cut.py") 248)])) (List.toArray []))
noncomputable def o52 (P : Params) : Obj := (Obj.mk (Value.type "function") none (Data.func (FuncData.mk (sQ "equal") (sQ "Whitespace.equal") (fA clB 4) (FuncBody.stmts (fB clB 4)) (fS clB 4) 3 [] Value.none Value.none Value.none (Value.str (sQ "cpy313.tabnanny") 187) none (Value.ref 51) Value.none 0)) (List.toArray []))
noncomputable def o53 (P : Params) : Obj := (Obj.mk (Value.type "tuple") none (Data.seq (List.toArray []) 0) (List.toArray []))
noncomputable def o55 (P : Params) : Obj := (Obj.mk (Value.type "tuple") none (Data.seq (List.toArray [(Value.str (sQ "self") 253), (Value.str (sQ "other") 254), (Value.str (sQ "n") 255), (Value.str (sQ "a") 256), (Value.str (sQ "ts") 257)]) 0) (List.toArray []))
noncomputable def o56 (P : Params) : Obj := (Obj.mk (Value.type "tuple") none (Data.seq (List.toArray []) 0) (List.toArray []))
noncomputable def o58 (P : Params) : Obj := (Obj.mk (Value.type "code") none (Data.fields (List.toArray [(Value.str (sQ "not_equal_witness") 250), (Value.str (sQ "Whitespace.not_equal_witness") 251), (Value.str (sQ "/claim/cut.py") 252), (Value.int (42 : Int) 0), (Value.int (2 : Int) 0), (Value.int (0 : Int) 0), (Value.int (0 : Int) 0), (Value.int (3 : Int) 0), (Value.ref 53), (Value.bool true), (Value.int (181 : Int) 0), (Value.ref 54), Value.none, (Value.ref 55), (Value.ref 56), (Value.ref 57), (Value.int (258 : Int) 0), (Value.int (42 : Int) 0), (Value.str (sQ "/claim/cut.py") 259)])) (List.toArray []))
noncomputable def o59 (P : Params) : Obj := (Obj.mk (Value.type "function") none (Data.func (FuncData.mk (sQ "not_equal_witness") (sQ "Whitespace.not_equal_witness") (fA clB 5) (FuncBody.stmts (fB clB 5)) (fS clB 7) 3 [] Value.none Value.none Value.none (Value.str (sQ "cpy313.tabnanny") 187) none (Value.ref 58) Value.none 0)) (List.toArray []))
noncomputable def o60 (P : Params) : Obj := (Obj.mk (Value.type "tuple") none (Data.seq (List.toArray []) 0) (List.toArray []))
noncomputable def o62 (P : Params) : Obj := (Obj.mk (Value.type "tuple") none (Data.seq (List.toArray [(Value.str (sQ "self") 264), (Value.str (sQ "other") 265), (Value.str (sQ "n") 266), (Value.str (sQ "ts") 267)]) 0) (List.toArray []))
noncomputable def o63 (P : Params) : Obj := (Obj.mk (Value.type "tuple") none (Data.seq (List.toArray []) 0) (List.toArray []))
noncomputable def o65 (P : Params) : Obj := (Obj.mk (Value.type "code") none (Data.fields (List.toArray [(Value.str (sQ "less") 261), (Value.str (sQ "Whitespace.less") 262), (Value.str (sQ "/claim/cut.py") 263), (Value.int (50 : Int) 0), (Value.int (2 : Int) 0), (Value.int (0 : Int) 0), (Value.int (0 : Int) 0), (Value.int (3 : Int) 0), (Value.ref 60), (Value.bool true), (Value.int (181 : Int) 0), (Value.ref 61), Value.none, (Value.ref 62), (Value.ref 63), (Value.ref 64), (Value.int (268 : Int) 0), (Value.int (50 : Int) 0), (Value.str (sQ "/claim/cut.py") 269)])) (List.toArray []))
noncomputable def o66 (P : Params) : Obj := (Obj.mk (Value.type "function") none (Data.func (FuncData.mk (sQ "less") (sQ "Whitespace.less") (fA clB 6) (FuncBody.stmts (fB clB 6)) (fS clB 6) 3 [] Value.none Value.none Value.none (Value.str (sQ "cpy313.tabnanny") 187) none (Value.ref 65) Value.none 0)) (List.toArray []))
noncomputable def o67 (P : Params) : Obj := (Obj.mk (Value.type "tuple") none (Data.seq (List.toArray []) 0) (List.toArray []))
noncomputable def o69 (P : Params) : Obj := (Obj.mk (Value.type "tuple") none (Data.seq (List.toArray [(Value.str (sQ "self") 274), (Value.str (sQ "other") 275), (Value.str (sQ "n") 276), (Value.str (sQ "a") 277), (Value.str (sQ "ts") 278)]) 0) (List.toArray []))
noncomputable def o70 (P : Params) : Obj := (Obj.mk (Value.type "tuple") none (Data.seq (List.toArray []) 0) (List.toArray []))
noncomputable def o72 (P : Params) : Obj := (Obj.mk (Value.type "code") none (Data.fields (List.toArray [(Value.str (sQ "not_less_witness") 271), (Value.str (sQ "Whitespace.not_less_witness") 272), (Value.str (sQ "/claim/cut.py") 273), (Value.int (61 : Int) 0), (Value.int (2 : Int) 0), (Value.int (0 : Int) 0), (Value.int (0 : Int) 0), (Value.int (3 : Int) 0), (Value.ref 67), (Value.bool true), (Value.int (181 : Int) 0), (Value.ref 68), Value.none, (Value.ref 69), (Value.ref 70), (Value.ref 71), (Value.int (279 : Int) 0), (Value.int (61 : Int) 0), (Value.str (sQ "/claim/cut.py") 280)])) (List.toArray []))
noncomputable def o73 (P : Params) : Obj := (Obj.mk (Value.type "function") none (Data.func (FuncData.mk (sQ "not_less_witness") (sQ "Whitespace.not_less_witness") (fA clB 7) (FuncBody.stmts (fB clB 7)) (fS clB 7) 3 [] Value.none Value.none Value.none (Value.str (sQ "cpy313.tabnanny") 187) none (Value.ref 72) Value.none 0)) (List.toArray []))
noncomputable def o74 (P : Params) : Obj := (Obj.mk (Value.type "tuple") none (Data.seq (List.toArray [(Value.str (sQ "is_simple") 282), (Value.str (sQ "n") 283), (Value.str (sQ "norm") 284), (Value.str (sQ "nt") 285), (Value.str (sQ "raw") 286)]) 0) (List.toArray []))
noncomputable def o75 (P : Params) : Obj := (Obj.mk (Value.type "dict") none (Data.dict (List.toArray [(DictEntry.mk (PyData.keyHash P (sQ "__module__")) (Value.str (sQ "__module__") 196) (Value.str (sQ "cpy313.tabnanny") 187)), (DictEntry.mk (PyData.keyHash P (sQ "__firstlineno__")) (Value.str (sQ "__firstlineno__") 200) (Value.int (2 : Int) 199)), (DictEntry.mk (PyData.keyHash P (sQ "S")) (Value.str (sQ "S") 204) (Value.str (sQ " ") 202)), (DictEntry.mk (PyData.keyHash P (sQ "T")) (Value.str (sQ "T") 205) (Value.str (sQ "\t") 203)), (DictEntry.mk (PyData.keyHash P (sQ "__init__")) (Value.str (sQ "__init__") 220) (Value.ref 31)), (DictEntry.mk (PyData.keyHash P (sQ "longest_run_of_spaces")) (Value.str (sQ "longest_run_of_spaces") 229) (Value.ref 38)), (DictEntry.mk (PyData.keyHash P (sQ "indent_level")) (Value.str (sQ "indent_level") 241) (Value.ref 45)), (DictEntry.mk (PyData.keyHash P (sQ "equal")) (Value.str (sQ "equal") 249) (Value.ref 52)), (DictEntry.mk (PyData.keyHash P (sQ "not_equal_witness")) (Value.str (sQ "not_equal_witness") 260) (Value.ref 59)), (DictEntry.mk (PyData.keyHash P (sQ "less")) (Value.str (sQ "less") 270) (Value.ref 66)), (DictEntry.mk (PyData.keyHash P (sQ "not_less_witness")) (Value.str (sQ "not_less_witness") 281) (Value.ref 73)), (DictEntry.mk (PyData.keyHash P (sQ "__static_attributes__")) (Value.str (sQ "__static_attributes__") 287) (Value.ref 74)), (DictEntry.mk (PyData.keyHash P (sQ "__dict__")) (Value.str (sQ "__dict__") 289) (Value.ref 77)), (DictEntry.mk (PyData.keyHash P (sQ "__weakref__")) (Value.str (sQ "__weakref__") 291) (Value.ref 78)), (DictEntry.mk (PyData.keyHash P (sQ "__doc__")) (Value.str (sQ "__doc__") 292) Value.none)]) 4) (List.toArray []))
noncomputable def o76 (P : Params) : Obj := (Obj.mk (Value.type "type") none (Data.cls (ClassData.mk (sQ "Whitespace") [(Value.type "object")] [(Value.ref 76), (Value.type "object")] 75 (sQ "Whitespace") true [] [] false none false)) (List.toArray [none, none, (some (Value.str (sQ "Whitespace") 189)), (some (Value.str (sQ "Whitespace") 197)), (some (Value.builtin "object.__new__")), (some (Value.bool true))]))
noncomputable def o77 (P : Params) : Obj := (Obj.mk (Value.type "getset_descriptor") none (Data.fields (List.toArray [(Value.str (sQ "__dict__") 288), (Value.ref 76), (Value.builtin "function.__dict__"), (Value.builtin "function.__dict__#set")])) (List.toArray []))
noncomputable def o78 (P : Params) : Obj := (Obj.mk (Value.type "getset_descriptor") none (Data.fields (List.toArray [(Value.str (sQ "__weakref__") 290), (Value.ref 76), (Value.builtin "ExceptionGroup.__weakref__"), Value.none])) (List.toArray []))
noncomputable def o81 (P : Params) : Obj := (Obj.mk (Value.type "tuple") none (Data.seq (List.toArray []) 0) (List.toArray []))
noncomputable def o83 (P : Params) : Obj := (Obj.mk (Value.type "tuple") none (Data.seq (List.toArray [(Value.str (sQ "a") 302), (Value.str (sQ "b") 303), (Value.str (sQ "n") 304), (Value.str (sQ "pad") 305), (Value.str (sQ "half_n") 306), (Value.str (sQ "mask") 307), (Value.str (sQ "b1") 308), (Value.str (sQ "b2") 309), (Value.str (sQ "q1") 310), (Value.str (sQ "r") 311), (Value.str (sQ "q2") 312)]) 0) (List.toArray []))
noncomputable def o84 (P : Params) : Obj := (Obj.mk (Value.type "tuple") none (Data.seq (List.toArray []) 0) (List.toArray []))
noncomputable def o86 (P : Params) : Obj := (Obj.mk (Value.type "code") none (Data.fields (List.toArray [(Value.str (sQ "_div2n1n") 299), (Value.str (sQ "_div2n1n") 300), (Value.str (sQ "/claim/cut.py") 301), (Value.int (70 : Int) 0), (Value.int (3 : Int) 0), (Value.int (0 : Int) 0), (Value.int (0 : Int) 0), (Value.int (3 : Int) 0), (Value.ref 81), (Value.bool true), (Value.int (181 : Int) 0), (Value.ref 82), Value.none, (Value.ref 83), (Value.ref 84), (Value.ref 85), (Value.int (313 : Int) 0), (Value.int (70 : Int) 0), (Value.str (sQ "/claim/cut.py") 314)])) (List.toArray []))
noncomputable def o87 (P : Params) : Obj := (Obj.mk (Value.type "function") none (Data.func (FuncData.mk (sQ "_div2n1n") (sQ "_div2n1n") (fA mnB 4) (FuncBody.stmts (fB mnB 4)) (fS mnB 4) 3 [] Value.none Value.none Value.none (Value.str (sQ "cpy313._pylong") 295) none (Value.ref 86) Value.none 0)) (List.toArray []))
noncomputable def o88 (P : Params) : Obj := (Obj.mk (Value.type "tuple") none (Data.seq (List.toArray []) 0) (List.toArray []))
noncomputable def o90 (P : Params) : Obj := (Obj.mk (Value.type "tuple") none (Data.seq (List.toArray [(Value.str (sQ "a12") 319), (Value.str (sQ "a3") 320), (Value.str (sQ "b") 321), (Value.str (sQ "b1") 322), (Value.str (sQ "b2") 323), (Value.str (sQ "n") 324), (Value.str (sQ "q") 325), (Value.str (sQ "r") 326)]) 0) (List.toArray []))
noncomputable def o91 (P : Params) : Obj := (Obj.mk (Value.type "tuple") none (Data.seq (List.toArray []) 0) (List.toArray []))
noncomputable def o93 (P : Params) : Obj := (Obj.mk (Value.type "code") none (Data.fields (List.toArray [(Value.str (sQ "_div3n2n") 316), (Value.str (sQ "_div3n2n") 317), (Value.str (sQ "/claim/cut.py") 318), (Value.int (86 : Int) 0), (Value.int (6 : Int) 0), (Value.int (0 : Int) 0), (Value.int (0 : Int) 0), (Value.int (3 : Int) 0), (Value.ref 88), (Value.bool true), (Value.int (181 : Int) 0), (Value.ref 89), Value.none, (Value.ref 90), (Value.ref 91), (Value.ref 92), (Value.int (327 : Int) 0), (Value.int (86 : Int) 0), (Value.str (sQ "/claim/cut.py") 328)])) (List.toArray []))
noncomputable def o94 (P : Params) : Obj := (Obj.mk (Value.type "function") none (Data.func (FuncData.mk (sQ "_div3n2n") (sQ "_div3n2n") (fA mnB 5) (FuncBody.stmts (fB mnB 5)) (fS mnB 5) 3 [] Value.none Value.none Value.none (Value.str (sQ "cpy313._pylong") 295) none (Value.ref 93) Value.none 0)) (List.toArray []))
noncomputable def o95 (P : Params) : Obj := (Obj.mk (Value.type "tuple") none (Data.seq (List.toArray []) 0) (List.toArray []))
noncomputable def o97 (P : Params) : Obj := (Obj.mk (Value.type "tuple") none (Data.seq (List.toArray [(Value.str (sQ "a") 333), (Value.str (sQ "n") 334)]) 0) (List.toArray []))
noncomputable def o98 (P : Params) : Obj := (Obj.mk (Value.type "tuple") none (Data.seq (List.toArray [(Value.str (sQ "n") 335), (Value.str (sQ "a_digits") 336), (Value.str (sQ "inner") 337)]) 0) (List.toArray []))
noncomputable def o100 (P : Params) : Obj := (Obj.mk (Value.type "code") none (Data.fields (List.toArray [(Value.str (sQ "_int2digits") 330), (Value.str (sQ "_int2digits") 331), (Value.str (sQ "/claim/cut.py") 332), (Value.int (96 : Int) 0), (Value.int (2 : Int) 0), (Value.int (0 : Int) 0), (Value.int (0 : Int) 0), (Value.int (3 : Int) 0), (Value.ref 95), (Value.bool true), (Value.int (181 : Int) 0), (Value.ref 96), Value.none, (Value.ref 97), (Value.ref 98), (Value.ref 99), (Value.int (338 : Int) 0), (Value.int (96 : Int) 0), (Value.str (sQ "/claim/cut.py") 339)])) (List.toArray []))
noncomputable def o101 (P : Params) : Obj := (Obj.mk (Value.type "function") none (Data.func (FuncData.mk (sQ "_int2digits") (sQ "_int2digits") (fA mnB 6) (FuncBody.stmts (fB mnB 6)) (fS mnB 6) 3 [] Value.none Value.none Value.none (Value.str (sQ "cpy313._pylong") 295) none (Value.ref 100) Value.none 0)) (List.toArray []))
noncomputable def o102 (P : Params) : Obj := (Obj.mk (Value.type "tuple") none (Data.seq (List.toArray []) 0) (List.toArray []))
noncomputable def o104 (P : Params) : Obj := (Obj.mk (Value.type "tuple") none (Data.seq (List.toArray [(Value.str (sQ "digits") 344), (Value.str (sQ "n") 345)]) 0) (List.toArray []))
noncomputable def o105 (P : Params) : Obj := (Obj.mk (Value.type "tuple") none (Data.seq (List.toArray [(Value.str (sQ "digits") 346), (Value.str (sQ "n") 347), (Value.str (sQ "inner") 348)]) 0) (List.toArray []))
noncomputable def o107 (P : Params) : Obj := (Obj.mk (Value.type "code") none (Data.fields (List.toArray [(Value.str (sQ "_digits2int") 341), (Value.str (sQ "_digits2int") 342), (Value.str (sQ "/claim/cut.py") 343), (Value.int (112 : Int) 0), (Value.int (2 : Int) 0), (Value.int (0 : Int) 0), (Value.int (0 : Int) 0), (Value.int (3 : Int) 0), (Value.ref 102), (Value.bool true), (Value.int (181 : Int) 0), (Value.ref 103), Value.none, (Value.ref 104), (Value.ref 105), (Value.ref 106), (Value.int (349 : Int) 0), (Value.int (112 : Int) 0), (Value.str (sQ "/claim/cut.py") 350)])) (List.toArray []))
noncomputable def o108 (P : Params) : Obj := (Obj.mk (Value.type "function") none (Data.func (FuncData.mk (sQ "_digits2int") (sQ "_digits2int") (fA mnB 7) (FuncBody.stmts (fB mnB 7)) (fS mnB 7) 3 [] Value.none Value.none Value.none (Value.str (sQ "cpy313._pylong") 295) none (Value.ref 107) Value.none 0)) (List.toArray []))
noncomputable def o109 (P : Params) : Obj := (Obj.mk (Value.type "tuple") none (Data.seq (List.toArray []) 0) (List.toArray []))
noncomputable def o111 (P : Params) : Obj := (Obj.mk (Value.type "tuple") none (Data.seq (List.toArray [(Value.str (sQ "a") 355), (Value.str (sQ "b") 356), (Value.str (sQ "n") 357), (Value.str (sQ "a_digits") 358), (Value.str (sQ "r") 359), (Value.str (sQ "q_digits") 360), (Value.str (sQ "a_digit") 361), (Value.str (sQ "q_digit") 362), (Value.str (sQ "q") 363)]) 0) (List.toArray []))
noncomputable def o112 (P : Params) : Obj := (Obj.mk (Value.type "tuple") none (Data.seq (List.toArray []) 0) (List.toArray []))
noncomputable def o114 (P : Params) : Obj := (Obj.mk (Value.type "code") none (Data.fields (List.toArray [(Value.str (sQ "_divmod_pos") 352), (Value.str (sQ "_divmod_pos") 353), (Value.str (sQ "/claim/cut.py") 354), (Value.int (121 : Int) 0), (Value.int (2 : Int) 0), (Value.int (0 : Int) 0), (Value.int (0 : Int) 0), (Value.int (3 : Int) 0), (Value.ref 109), (Value.bool true), (Value.int (181 : Int) 0), (Value.ref 110), Value.none, (Value.ref 111), (Value.ref 112), (Value.ref 113), (Value.int (364 : Int) 0), (Value.int (121 : Int) 0), (Value.str (sQ "/claim/cut.py") 365)])) (List.toArray []))
noncomputable def o115 (P : Params) : Obj := (Obj.mk (Value.type "function") none (Data.func (FuncData.mk (sQ "_divmod_pos") (sQ "_divmod_pos") (fA mnB 8) (FuncBody.stmts (fB mnB 8)) (fS mnB 8) 3 [] Value.none Value.none Value.none (Value.str (sQ "cpy313._pylong") 295) none (Value.ref 114) Value.none 0)) (List.toArray []))
noncomputable def o116 (P : Params) : Obj := (Obj.mk (Value.type "tuple") none (Data.seq (List.toArray []) 0) (List.toArray []))
noncomputable def o118 (P : Params) : Obj := (Obj.mk (Value.type "tuple") none (Data.seq (List.toArray [(Value.str (sQ "a") 370), (Value.str (sQ "b") 371), (Value.str (sQ "q") 372), (Value.str (sQ "r") 373)]) 0) (List.toArray []))
noncomputable def o119 (P : Params) : Obj := (Obj.mk (Value.type "tuple") none (Data.seq (List.toArray []) 0) (List.toArray []))
noncomputable def o121 (P : Params) : Obj := (Obj.mk (Value.type "code") none (Data.fields (List.toArray [(Value.str (sQ "int_divmod") 367), (Value.str (sQ "int_divmod") 368), (Value.str (sQ "/claim/cut.py") 369), (Value.int (132 : Int) 0), (Value.int (2 : Int) 0), (Value.int (0 : Int) 0), (Value.int (0 : Int) 0), (Value.int (3 : Int) 0), (Value.ref 116), (Value.bool true), (Value.int (181 : Int) 0), (Value.ref 117), Value.none, (Value.ref 118), (Value.ref 119), (Value.ref 120), (Value.int (374 : Int) 0), (Value.int (132 : Int) 0), (Value.str (sQ "/claim/cut.py") 375)])) (List.toArray []))
noncomputable def o122 (P : Params) : Obj := (Obj.mk (Value.type "function") none (Data.func (FuncData.mk (sQ "int_divmod") (sQ "int_divmod") (fA mnB 9) (FuncBody.stmts (fB mnB 9)) (fS mnB 9) 3 [] Value.none Value.none Value.none (Value.str (sQ "cpy313._pylong") 295) none (Value.ref 121) Value.none 0)) (List.toArray []))
noncomputable def o123 (P : Params) : Obj := (Obj.mk (Value.type "dict") none (Data.dict (List.toArray [(DictEntry.mk (PyData.keyHash P (sQ "!")) (Value.str (sQ "!") 473) (Value.int (54 : Int) 471)), (DictEntry.mk (PyData.keyHash P (sQ "!=")) (Value.str (sQ "!=") 475) (Value.int (28 : Int) 419)), (DictEntry.mk (PyData.keyHash P (sQ "%")) (Value.str (sQ "%") 477) (Value.int (24 : Int) 411)), (DictEntry.mk (PyData.keyHash P (sQ "%=")) (Value.str (sQ "%=") 479) (Value.int (40 : Int) 443)), (DictEntry.mk (PyData.keyHash P (sQ "&")) (Value.str (sQ "&") 481) (Value.int (19 : Int) 401)), (DictEntry.mk (PyData.keyHash P (sQ "&=")) (Value.str (sQ "&=") 483) (Value.int (41 : Int) 445)), (DictEntry.mk (PyData.keyHash P (sQ "(")) (Value.str (sQ "(") 485) (Value.int (7 : Int) 377)), (DictEntry.mk (PyData.keyHash P (sQ ")")) (Value.str (sQ ")") 487) (Value.int (8 : Int) 379)), (DictEntry.mk (PyData.keyHash P (sQ "*")) (Value.str (sQ "*") 489) (Value.int (16 : Int) 395)), (DictEntry.mk (PyData.keyHash P (sQ "**")) (Value.str (sQ "**") 491) (Value.int (35 : Int) 433)), (DictEntry.mk (PyData.keyHash P (sQ "**=")) (Value.str (sQ "**=") 493) (Value.int (46 : Int) 455)), (DictEntry.mk (PyData.keyHash P (sQ "*=")) (Value.str (sQ "*=") 495) (Value.int (38 : Int) 439)), (DictEntry.mk (PyData.keyHash P (sQ "+")) (Value.str (sQ "+") 497) (Value.int (14 : Int) 391)), (DictEntry.mk (PyData.keyHash P (sQ "+=")) (Value.str (sQ "+=") 499) (Value.int (36 : Int) 435)), (DictEntry.mk (PyData.keyHash P (sQ ",")) (Value.str (sQ ",") 501) (Value.int (12 : Int) 387)), (DictEntry.mk (PyData.keyHash P (sQ "-")) (Value.str (sQ "-") 503) (Value.int (15 : Int) 393)), (DictEntry.mk (PyData.keyHash P (sQ "-=")) (Value.str (sQ "-=") 505) (Value.int (37 : Int) 437)), (DictEntry.mk (PyData.keyHash P (sQ "->")) (Value.str (sQ "->") 507) (Value.int (51 : Int) 465)), (DictEntry.mk (PyData.keyHash P (sQ ".")) (Value.str (sQ ".") 509) (Value.int (23 : Int) 409)), (DictEntry.mk (PyData.keyHash P (sQ "...")) (Value.str (sQ "...") 511) (Value.int (52 : Int) 467)), (DictEntry.mk (PyData.keyHash P (sQ "/")) (Value.str (sQ "/") 513) (Value.int (17 : Int) 397)), (DictEntry.mk (PyData.keyHash P (sQ "//")) (Value.str (sQ "//") 515) (Value.int (47 : Int) 457)), (DictEntry.mk (PyData.keyHash P (sQ "//=")) (Value.str (sQ "//=") 517) (Value.int (48 : Int) 459)), (DictEntry.mk (PyData.keyHash P (sQ "/=")) (Value.str (sQ "/=") 519) (Value.int (39 : Int) 441)), (DictEntry.mk (PyData.keyHash P (sQ ":")) (Value.str (sQ ":") 521) (Value.int (11 : Int) 385)), (DictEntry.mk (PyData.keyHash P (sQ ":=")) (Value.str (sQ ":=") 523) (Value.int (53 : Int) 469)), (DictEntry.mk (PyData.keyHash P (sQ ";")) (Value.str (sQ ";") 525) (Value.int (13 : Int) 389)), (DictEntry.mk (PyData.keyHash P (sQ "<")) (Value.str (sQ "<") 527) (Value.int (20 : Int) 403)), (DictEntry.mk (PyData.keyHash P (sQ "<<")) (Value.str (sQ "<<") 529) (Value.int (33 : Int) 429)), (DictEntry.mk (PyData.keyHash P (sQ "<<=")) (Value.str (sQ "<<=") 531) (Value.int (44 : Int) 451)), (DictEntry.mk (PyData.keyHash P (sQ "<=")) (Value.str (sQ "<=") 533) (Value.int (29 : Int) 421)), (DictEntry.mk (PyData.keyHash P (sQ "=")) (Value.str (sQ "=") 535) (Value.int (22 : Int) 407)), (DictEntry.mk (PyData.keyHash P (sQ "==")) (Value.str (sQ "==") 537) (Value.int (27 : Int) 417)), (DictEntry.mk (PyData.keyHash P (sQ ">")) (Value.str (sQ ">") 539) (Value.int (21 : Int) 405)), (DictEntry.mk (PyData.keyHash P (sQ ">=")) (Value.str (sQ ">=") 541) (Value.int (30 : Int) 423)), (DictEntry.mk (PyData.keyHash P (sQ ">>")) (Value.str (sQ ">>") 542) (Value.int (34 : Int) 431)), (DictEntry.mk (PyData.keyHash P (sQ ">>=")) (Value.str (sQ ">>=") 543) (Value.int (45 : Int) 453)), (DictEntry.mk (PyData.keyHash P (sQ "@")) (Value.str (sQ "@") 544) (Value.int (49 : Int) 461)), (DictEntry.mk (PyData.keyHash P (sQ "@=")) (Value.str (sQ "@=") 545) (Value.int (50 : Int) 463)), (DictEntry.mk (PyData.keyHash P (sQ "[")) (Value.str (sQ "[") 546) (Value.int (9 : Int) 381)), (DictEntry.mk (PyData.keyHash P (sQ "]")) (Value.str (sQ "]") 547) (Value.int (10 : Int) 383)), (DictEntry.mk (PyData.keyHash P (sQ "^")) (Value.str (sQ "^") 548) (Value.int (32 : Int) 427)), (DictEntry.mk (PyData.keyHash P (sQ "^=")) (Value.str (sQ "^=") 549) (Value.int (43 : Int) 449)), (DictEntry.mk (PyData.keyHash P (sQ "{")) (Value.str (sQ "{") 550) (Value.int (25 : Int) 413)), (DictEntry.mk (PyData.keyHash P (sQ "|")) (Value.str (sQ "|") 551) (Value.int (18 : Int) 399)), (DictEntry.mk (PyData.keyHash P (sQ "|=")) (Value.str (sQ "|=") 552) (Value.int (42 : Int) 447)), (DictEntry.mk (PyData.keyHash P (sQ "}")) (Value.str (sQ "}") 553) (Value.int (26 : Int) 415)), (DictEntry.mk (PyData.keyHash P (sQ "~")) (Value.str (sQ "~") 554) (Value.int (31 : Int) 425))]) 48) (List.toArray []))
noncomputable def o126 (P : Params) : Obj := (Obj.mk (Value.type "tuple") none (Data.seq (List.toArray []) 0) (List.toArray []))
noncomputable def o129 (P : Params) : Obj := (Obj.mk (Value.type "code") none (Data.fields (List.toArray [(Value.str (sQ "_law_drawn") 572), (Value.str (sQ "_law_drawn") 573), (Value.str (sQ "/claim/cut.py") 574), (Value.int (193 : Int) 0), (Value.int (2 : Int) 0), (Value.int (0 : Int) 0), (Value.int (0 : Int) 0), (Value.int (3 : Int) 0), (Value.ref 126), (Value.bool true), (Value.int (181 : Int) 0), (Value.ref 127), Value.none, Value.none, Value.none, (Value.ref 128), (Value.int (575 : Int) 0), (Value.int (193 : Int) 0), (Value.str (sQ "/claim/cut.py") 576)])) (List.toArray []))
noncomputable def o130 (P : Params) : Obj := (Obj.mk (Value.type "function") none (Data.func (FuncData.mk (sQ "_law_drawn") (sQ "_law_drawn") (fA mnB 60) (FuncBody.stmts (fB mnB 60)) (fS mnB 60) 3 [] Value.none Value.none Value.none (Value.str (sQ "law_sc0102_01") 570) none (Value.ref 129) Value.none 0)) (List.toArray []))
noncomputable def o131 (P : Params) : Obj := (Obj.mk (Value.type "tuple") none (Data.seq (List.toArray []) 0) (List.toArray []))
noncomputable def o133 (P : Params) : Obj := (Obj.mk (Value.type "tuple") none (Data.seq (List.toArray [(Value.str (sQ "counts") 581), (Value.str (sQ "blanks") 582), (Value.str (sQ "first") 583), (Value.str (sQ "rows") 584), (Value.str (sQ "k") 585)]) 0) (List.toArray []))
noncomputable def o134 (P : Params) : Obj := (Obj.mk (Value.type "tuple") none (Data.seq (List.toArray []) 0) (List.toArray []))
noncomputable def o136 (P : Params) : Obj := (Obj.mk (Value.type "code") none (Data.fields (List.toArray [(Value.str (sQ "_law_lead") 578), (Value.str (sQ "_law_lead") 579), (Value.str (sQ "/claim/cut.py") 580), (Value.int (199 : Int) 0), (Value.int (3 : Int) 0), (Value.int (0 : Int) 0), (Value.int (0 : Int) 0), (Value.int (3 : Int) 0), (Value.ref 131), (Value.bool true), (Value.int (181 : Int) 0), (Value.ref 132), Value.none, (Value.ref 133), (Value.ref 134), (Value.ref 135), (Value.int (586 : Int) 0), (Value.int (199 : Int) 0), (Value.str (sQ "/claim/cut.py") 587)])) (List.toArray []))
noncomputable def o137 (P : Params) : Obj := (Obj.mk (Value.type "function") none (Data.func (FuncData.mk (sQ "_law_lead") (sQ "_law_lead") (fA mnB 61) (FuncBody.stmts (fB mnB 61)) (fS mnB 61) 3 [] Value.none Value.none Value.none (Value.str (sQ "law_sc0102_01") 570) none (Value.ref 136) Value.none 0)) (List.toArray []))
noncomputable def o138 (P : Params) : Obj := (Obj.mk (Value.type "tuple") none (Data.seq (List.toArray []) 0) (List.toArray []))
noncomputable def o141 (P : Params) : Obj := (Obj.mk (Value.type "code") none (Data.fields (List.toArray [(Value.str (sQ "_law_read") 589), (Value.str (sQ "_law_read") 590), (Value.str (sQ "/claim/cut.py") 591), (Value.int (204 : Int) 0), (Value.int (4 : Int) 0), (Value.int (0 : Int) 0), (Value.int (0 : Int) 0), (Value.int (3 : Int) 0), (Value.ref 138), (Value.bool true), (Value.int (181 : Int) 0), (Value.ref 139), Value.none, Value.none, Value.none, (Value.ref 140), (Value.int (592 : Int) 0), (Value.int (204 : Int) 0), (Value.str (sQ "/claim/cut.py") 593)])) (List.toArray []))
noncomputable def o142 (P : Params) : Obj := (Obj.mk (Value.type "function") none (Data.func (FuncData.mk (sQ "_law_read") (sQ "_law_read") (fA mnB 62) (FuncBody.stmts (fB mnB 62)) (fS mnB 62) 3 [] Value.none Value.none Value.none (Value.str (sQ "law_sc0102_01") 570) none (Value.ref 141) Value.none 0)) (List.toArray []))
noncomputable def o143 (P : Params) : Obj := (Obj.mk (Value.type "tuple") none (Data.seq (List.toArray []) 0) (List.toArray []))
noncomputable def o145 (P : Params) : Obj := (Obj.mk (Value.type "tuple") none (Data.seq (List.toArray [(Value.str (sQ "counts") 598), (Value.str (sQ "fold") 599), (Value.str (sQ "found") 600), (Value.str (sQ "k") 601), (Value.str (sQ "count") 602), (Value.str (sQ "length") 603), (Value.str (sQ "figure") 604)]) 0) (List.toArray []))
noncomputable def o146 (P : Params) : Obj := (Obj.mk (Value.type "tuple") none (Data.seq (List.toArray []) 0) (List.toArray []))
noncomputable def o148 (P : Params) : Obj := (Obj.mk (Value.type "code") none (Data.fields (List.toArray [(Value.str (sQ "_law_figures") 595), (Value.str (sQ "_law_figures") 596), (Value.str (sQ "/claim/cut.py") 597), (Value.int (219 : Int) 0), (Value.int (2 : Int) 0), (Value.int (0 : Int) 0), (Value.int (0 : Int) 0), (Value.int (3 : Int) 0), (Value.ref 143), (Value.bool true), (Value.int (181 : Int) 0), (Value.ref 144), Value.none, (Value.ref 145), (Value.ref 146), (Value.ref 147), (Value.int (605 : Int) 0), (Value.int (219 : Int) 0), (Value.str (sQ "/claim/cut.py") 606)])) (List.toArray []))
noncomputable def o149 (P : Params) : Obj := (Obj.mk (Value.type "function") none (Data.func (FuncData.mk (sQ "_law_figures") (sQ "_law_figures") (fA mnB 63) (FuncBody.stmts (fB mnB 63)) (fS mnB 63) 3 [] Value.none Value.none Value.none (Value.str (sQ "law_sc0102_01") 570) none (Value.ref 148) Value.none 0)) (List.toArray []))
noncomputable def o150 (P : Params) : Obj := (Obj.mk (Value.type "tuple") none (Data.seq (List.toArray []) 0) (List.toArray []))
noncomputable def o153 (P : Params) : Obj := (Obj.mk (Value.type "code") none (Data.fields (List.toArray [(Value.str (sQ "_law_columns") 608), (Value.str (sQ "_law_columns") 609), (Value.str (sQ "/claim/cut.py") 610), (Value.int (230 : Int) 0), (Value.int (5 : Int) 0), (Value.int (0 : Int) 0), (Value.int (0 : Int) 0), (Value.int (3 : Int) 0), (Value.ref 150), (Value.bool true), (Value.int (181 : Int) 0), (Value.ref 151), Value.none, Value.none, Value.none, (Value.ref 152), (Value.int (611 : Int) 0), (Value.int (230 : Int) 0), (Value.str (sQ "/claim/cut.py") 612)])) (List.toArray []))
noncomputable def o154 (P : Params) : Obj := (Obj.mk (Value.type "function") none (Data.func (FuncData.mk (sQ "_law_columns") (sQ "_law_columns") (fA mnB 64) (FuncBody.stmts (fB mnB 64)) (fS mnB 64) 3 [] Value.none Value.none Value.none (Value.str (sQ "law_sc0102_01") 570) none (Value.ref 153) Value.none 0)) (List.toArray []))
noncomputable def o155 (P : Params) : Obj := (Obj.mk (Value.type "tuple") none (Data.seq (List.toArray []) 0) (List.toArray []))
noncomputable def o157 (P : Params) : Obj := (Obj.mk (Value.type "tuple") none (Data.seq (List.toArray [(Value.str (sQ "room") 617), (Value.str (sQ "blanks") 618), (Value.str (sQ "bare") 619), (Value.str (sQ "k") 620), (Value.str (sQ "tabs") 621)]) 0) (List.toArray []))
noncomputable def o158 (P : Params) : Obj := (Obj.mk (Value.type "tuple") none (Data.seq (List.toArray []) 0) (List.toArray []))
noncomputable def o160 (P : Params) : Obj := (Obj.mk (Value.type "code") none (Data.fields (List.toArray [(Value.str (sQ "_law_plain") 614), (Value.str (sQ "_law_plain") 615), (Value.str (sQ "/claim/cut.py") 616), (Value.int (237 : Int) 0), (Value.int (1 : Int) 0), (Value.int (0 : Int) 0), (Value.int (0 : Int) 0), (Value.int (3 : Int) 0), (Value.ref 155), (Value.bool true), (Value.int (181 : Int) 0), (Value.ref 156), Value.none, (Value.ref 157), (Value.ref 158), (Value.ref 159), (Value.int (622 : Int) 0), (Value.int (237 : Int) 0), (Value.str (sQ "/claim/cut.py") 623)])) (List.toArray []))
noncomputable def o161 (P : Params) : Obj := (Obj.mk (Value.type "function") none (Data.func (FuncData.mk (sQ "_law_plain") (sQ "_law_plain") (fA mnB 65) (FuncBody.stmts (fB mnB 65)) (fS mnB 65) 3 [] Value.none Value.none Value.none (Value.str (sQ "law_sc0102_01") 570) none (Value.ref 160) Value.none 0)) (List.toArray []))
noncomputable def o162 (P : Params) : Obj := (Obj.mk (Value.type "tuple") none (Data.seq (List.toArray []) 0) (List.toArray []))
noncomputable def o164 (P : Params) : Obj := (Obj.mk (Value.type "tuple") none (Data.seq (List.toArray [(Value.str (sQ "size") 628), (Value.str (sQ "fold") 629), (Value.str (sQ "ways") 630), (Value.str (sQ "part") 631), (Value.str (sQ "k") 632)]) 0) (List.toArray []))
noncomputable def o165 (P : Params) : Obj := (Obj.mk (Value.type "tuple") none (Data.seq (List.toArray []) 0) (List.toArray []))
noncomputable def o167 (P : Params) : Obj := (Obj.mk (Value.type "code") none (Data.fields (List.toArray [(Value.str (sQ "_law_ways") 625), (Value.str (sQ "_law_ways") 626), (Value.str (sQ "/claim/cut.py") 627), (Value.int (246 : Int) 0), (Value.int (2 : Int) 0), (Value.int (0 : Int) 0), (Value.int (0 : Int) 0), (Value.int (3 : Int) 0), (Value.ref 162), (Value.bool true), (Value.int (181 : Int) 0), (Value.ref 163), Value.none, (Value.ref 164), (Value.ref 165), (Value.ref 166), (Value.int (633 : Int) 0), (Value.int (246 : Int) 0), (Value.str (sQ "/claim/cut.py") 634)])) (List.toArray []))
noncomputable def o168 (P : Params) : Obj := (Obj.mk (Value.type "function") none (Data.func (FuncData.mk (sQ "_law_ways") (sQ "_law_ways") (fA mnB 66) (FuncBody.stmts (fB mnB 66)) (fS mnB 66) 3 [] Value.none Value.none Value.none (Value.str (sQ "law_sc0102_01") 570) none (Value.ref 167) Value.none 0)) (List.toArray []))
noncomputable def o169 (P : Params) : Obj := (Obj.mk (Value.type "tuple") none (Data.seq (List.toArray []) 0) (List.toArray []))
noncomputable def o171 (P : Params) : Obj := (Obj.mk (Value.type "tuple") none (Data.seq (List.toArray [(Value.str (sQ "width") 639), (Value.str (sQ "fold") 640), (Value.str (sQ "product") 641), (Value.str (sQ "k") 642)]) 0) (List.toArray []))
noncomputable def o172 (P : Params) : Obj := (Obj.mk (Value.type "tuple") none (Data.seq (List.toArray []) 0) (List.toArray []))
noncomputable def o174 (P : Params) : Obj := (Obj.mk (Value.type "code") none (Data.fields (List.toArray [(Value.str (sQ "_law_product") 636), (Value.str (sQ "_law_product") 637), (Value.str (sQ "/claim/cut.py") 638), (Value.int (252 : Int) 0), (Value.int (2 : Int) 0), (Value.int (0 : Int) 0), (Value.int (0 : Int) 0), (Value.int (3 : Int) 0), (Value.ref 169), (Value.bool true), (Value.int (181 : Int) 0), (Value.ref 170), Value.none, (Value.ref 171), (Value.ref 172), (Value.ref 173), (Value.int (643 : Int) 0), (Value.int (252 : Int) 0), (Value.str (sQ "/claim/cut.py") 644)])) (List.toArray []))
noncomputable def o175 (P : Params) : Obj := (Obj.mk (Value.type "function") none (Data.func (FuncData.mk (sQ "_law_product") (sQ "_law_product") (fA mnB 67) (FuncBody.stmts (fB mnB 67)) (fS mnB 67) 3 [] Value.none Value.none Value.none (Value.str (sQ "law_sc0102_01") 570) none (Value.ref 174) Value.none 0)) (List.toArray []))
noncomputable def o176 (P : Params) : Obj := (Obj.mk (Value.type "tuple") none (Data.seq (List.toArray []) 0) (List.toArray []))
noncomputable def o179 (P : Params) : Obj := (Obj.mk (Value.type "code") none (Data.fields (List.toArray [(Value.str (sQ "law") 646), (Value.str (sQ "law") 647), (Value.str (sQ "/claim/cut.py") 648), (Value.int (257 : Int) 0), (Value.int (1 : Int) 0), (Value.int (0 : Int) 0), (Value.int (0 : Int) 0), (Value.int (3 : Int) 0), (Value.ref 176), (Value.bool true), (Value.int (181 : Int) 0), (Value.ref 177), Value.none, Value.none, Value.none, (Value.ref 178), (Value.int (649 : Int) 0), (Value.int (257 : Int) 0), (Value.str (sQ "/claim/cut.py") 650)])) (List.toArray []))
noncomputable def o180 (P : Params) : Obj := (Obj.mk (Value.type "function") none (Data.func (FuncData.mk (sQ "law") (sQ "law") (fA mnB 68) (FuncBody.stmts (fB mnB 68)) (fS mnB 68) 3 [] Value.none Value.none Value.none (Value.str (sQ "law_sc0102_01") 570) none (Value.ref 179) Value.none 0)) (List.toArray []))
noncomputable def KM (P : Params) : Frag := [(2, o2 P), (3, o3 P), (25, o25 P), (27, o27 P), (28, o28 P), (30, o30 P), (31, o31 P), (32, o32 P), (34, o34 P), (35, o35 P), (37, o37 P), (38, o38 P), (39, o39 P), (41, o41 P), (42, o42 P), (44, o44 P), (45, o45 P), (46, o46 P), (48, o48 P), (49, o49 P), (51, o51 P), (52, o52 P), (53, o53 P), (55, o55 P), (56, o56 P), (58, o58 P), (59, o59 P), (60, o60 P), (62, o62 P), (63, o63 P), (65, o65 P), (66, o66 P), (67, o67 P), (69, o69 P), (70, o70 P), (72, o72 P), (73, o73 P), (74, o74 P), (75, o75 P), (76, o76 P), (77, o77 P), (78, o78 P), (81, o81 P), (83, o83 P), (84, o84 P), (86, o86 P), (87, o87 P), (88, o88 P), (90, o90 P), (91, o91 P), (93, o93 P), (94, o94 P), (95, o95 P), (97, o97 P), (98, o98 P), (100, o100 P), (101, o101 P), (102, o102 P), (104, o104 P), (105, o105 P), (107, o107 P), (108, o108 P), (109, o109 P), (111, o111 P), (112, o112 P), (114, o114 P), (115, o115 P), (116, o116 P), (118, o118 P), (119, o119 P), (121, o121 P), (122, o122 P), (123, o123 P), (126, o126 P), (129, o129 P), (130, o130 P), (131, o131 P), (133, o133 P), (134, o134 P), (136, o136 P), (137, o137 P), (138, o138 P), (141, o141 P), (142, o142 P), (143, o143 P), (145, o145 P), (146, o146 P), (148, o148 P), (149, o149 P), (150, o150 P), (153, o153 P), (154, o154 P), (155, o155 P), (157, o157 P), (158, o158 P), (160, o160 P), (161, o161 P), (162, o162 P), (164, o164 P), (165, o165 P), (167, o167 P), (168, o168 P), (169, o169 P), (171, o171 P), (172, o172 P), (174, o174 P), (175, o175 P), (176, o176 P), (179, o179 P), (180, o180 P)]
noncomputable def KA : List Addr := [2, 3, 25, 27, 28, 30, 31, 32, 34, 35, 37, 38, 39, 41, 42, 44, 45, 46, 48, 49, 51, 52, 53, 55, 56, 58, 59, 60, 62, 63, 65, 66, 67, 69, 70, 72, 73, 74, 75, 76, 77, 78, 81, 83, 84, 86, 87, 88, 90, 91, 93, 94, 95, 97, 98, 100, 101, 102, 104, 105, 107, 108, 109, 111, 112, 114, 115, 116, 118, 119, 121, 122, 123, 126, 129, 130, 131, 133, 134, 136, 137, 138, 141, 142, 143, 145, 146, 148, 149, 150, 153, 154, 155, 157, 158, 160, 161, 162, 164, 165, 167, 168, 169, 171, 172, 174, 175, 176, 179, 180]

theorem wsd : OpenLaw.wellSaid lwR = true := by kernel_rfl
noncomputable def kpL : List Nat := [1] ++ (List.range 56).map (· + 3) ++ (List.range 9).map (· + 60)
noncomputable def qV : Program := view lwR.row.toRowW.prog kpL
noncomputable def lsL : List Str := [sQ "Whitespace", sQ "EXACT_TOKEN_TYPES"]
noncomputable def hkH : Hook := kmHook KM KA (fun _ => by kernel_rfl) [103, 96]
noncomputable def xtF (s : Shared) : Bool := xlAt qV [] s && recOk (RowW.records lwR.row.toRowW) s
noncomputable def lfP (w : World) : Prop := (openEnds treeTable lwR.row.toRowW.prog w 4974).map (fun s => (openSeen qV lsL (importedModules lwR.row.toRowW.prog.main.body) xtF true s, hkH.obs s)) = some (openGood qV lsL, hkH.val w)
end Mine
end
section
open PySem PySem.W PyProof.Rows PySem.Calls
set_option maxHeartbeats 8000000
namespace Mine
theorem lf_tw {w : World} (h : ((Fast.tw10274390034422433532 Fast.tw14364793385576792824 (opening lwR.row.toRowW.prog) w 4974 (Fast.tw1435165496053646825 (opening lwR.row.toRowW.prog)).1 (Fast.tw1435165496053646825 (opening lwR.row.toRowW.prog)).2).bind fun s => (Fast.tw14289696077712309145 lwR.row.toRowW.prog s).bind fun s₀ => match s₀.heap.isNs mainGlobals && s₀.gens.size == 0 with
  | true => (Fast.tw14082659384304107361 Fast.tw14364793385576792824 lwR.row.toRowW.prog w s₀.heap.objs.size (s₀.heap.nsMap mainGlobals "__annotations__") 4974 s₀ (topStub lwR.row.toRowW.prog)).bind fun s₁ => match staticsOk (importedModules lwR.row.toRowW.prog.main.body) s₀.heap s₁.heap && namesBound lwR.row.toRowW.prog s₁.heap && gensDone s₁ && laidKept s₀.heap s₁.heap with
      | true => some (Fast.tw4187177175401517315 qV lsL (importedModules lwR.row.toRowW.prog.main.body) xtF true s₁, hkH.obs s₁)
      | false => none
  | false => none) = some (openGood qV lsL, hkH.val w)) : lfP w := by
  rw [← Fast.te10274390034422433532, ← Fast.te14364793385576792824, ← Fast.te1435165496053646825, ← Fast.te14289696077712309145, ← Fast.te14082659384304107361, ← Fast.te4187177175401517315] at h
  unfold lfP
  rw [← h]
  unfold openEnds fencedOpening
  cases importEnds treeTable (opening lwR.row.toRowW.prog) w 4974 (start (opening lwR.row.toRowW.prog)).1 (start (opening lwR.row.toRowW.prog)).2 with
  | none => rfl
  | some s =>
    simp only [Option.bind_some]
    cases fenceModules? lwR.row.toRowW.prog s with
    | none => rfl
    | some s₀ =>
      simp only [Option.bind_some]
      unfold topFrom
      cases s₀.heap.isNs mainGlobals && s₀.gens.size == 0 with
      | false => rfl
      | true =>
        simp only
        cases topRun treeTable lwR.row.toRowW.prog w s₀.heap.objs.size (s₀.heap.nsMap mainGlobals "__annotations__") 4974 s₀ (topStub lwR.row.toRowW.prog) with
        | none => rfl
        | some s₁ =>
          simp only [Option.bind_some]
          cases staticsOk (importedModules lwR.row.toRowW.prog.main.body) s₀.heap s₁.heap && namesBound lwR.row.toRowW.prog s₁.heap && gensDone s₁ && laidKept s₀.heap s₁.heap with
          | true => rfl
          | false => rfl
theorem left_f (w : World) : lfP (w.withFollow "special-get-raises" false) := lf_tw (by kernel_rfl)
end Mine
end
section
open PySem PySem.W PyProof.Rows PySem.Calls
set_option maxHeartbeats 8000000
namespace Mine
theorem left_t (w : World) : lfP (w.withFollow "special-get-raises" true) := lf_tw (by kernel_rfl)
theorem left_w : LeftO lwR.row.toRowW.prog qV lsL xtF hkH.obs hkH.val 4974 := byRow2 "special-get-raises" (P := lfP) left_f left_t
noncomputable def dL : DefRec := ⟨sQ "law", fA mnB 68, fB mnB 68, fS mnB 68, fP mnB 68⟩
theorem h_def : defOf qV lwR.row.name = some (dL, []) := by kernel_rfl
theorem h_the : lwR.row.toRowW.prog.theDef lwR.row.name = some (dL.params, dL.body, dL.scope) := by kernel_rfl
theorem h_kw : kwWritten? dL.params.kwonlyargs dL.params.kw_defaults = some [] := by kernel_rfl
theorem h_wr : (!lwR.row.writes || lwR.row.toRowW.records.isEmpty) = true := by kernel_rfl
theorem hd (walk : WalkO qV lsL (XL qV []) hkH.says lwR.row.toRowW dL [] (fun f vs => PySem.call f vs)) : PySem.Challenge.rw_sc0102_01.Holds :=
  holds_law wsd fun said => holds_open (q := qV) (loose := lsL) (Xt := xtF) (XP := XL qV []) (Yf := hkH.obs) (Ya := hkH.val) (YP := hkH.says) (N := 4974) left_w (Hook.of hkH) (Hook.keeps hkH) (fun s e => xl_of s (Bool.and_eq_true_iff.mp e).1) XL.keeps h_def h_the h_kw (fun s e => recFacts_of (Bool.and_eq_true_iff.mp e).2) h_wr said (by decide +kernel) ⟨rfl, rfl, rfl, rfl, rfl, by decide +kernel⟩ ⟨[.list []], by decide +kernel, by decide +kernel⟩ walk
end Mine
end
section
open PySem PySem.W PyProof.Rows PySem.Calls
namespace Mine
noncomputable abbrev KK (p : PySem.Params) : Frag := KM p

noncomputable def faOf : Fn → Addr
  | .init => 31 | .longest => 38 | .indent => 45 | .equal => 52 | .neW => 59 | .less => 66 | .nlW => 73
  | .div2 => 87 | .i2d => 101 | .d2i => 108 | .dmpos => 115 | .idm => 122 | .drawn => 130 | .lead => 137 | .read => 142
  | .figs => 149 | .cols => 154 | .plain => 161 | .ways => 168 | .prod => 175 | .law => 180

variable (p : PySem.Params)
theorem k_nf (f : Fn) (h : isPlainF f = true) : nsIn (KK p) mainGlobals (fnm f) = some (some (.ref (faOf f))) ∧ keepIn (KK p) (.ref (faOf f)) = true := by
  cases f <;> first | exact absurd h (by decide) | exact ⟨by kernel_rfl, by kernel_rfl⟩
theorem k_mf (f : Fn) (h : isMeth f = true) : findIn (KK p) (.ref 76) (fnm f) = some (some (.ref (faOf f))) ∧ typeIn (KK p) (.ref (faOf f)) = some (.type "function") ∧ keepIn (KK p) (.ref (faOf f)) = true := by
  cases f <;> first | exact absurd h (by decide) | exact ⟨by kernel_rfl, by kernel_rfl, by kernel_rfl⟩
theorem k_nC : nsIn (KK p) mainGlobals sWs = some (some (.ref 76)) ∧ keepIn (KK p) (.ref 76) = true := ⟨by kernel_rfl, by kernel_rfl⟩
theorem k_pg : findIn (KK p) (.ref 76) "__getattribute__" = some (some (.builtin "object.__getattribute__")) ∧ findIn (KK p) (.ref 76) "__getattr__" = some none := ⟨by kernel_rfl, by kernel_rfl⟩
theorem k_fl : hasDictIn (KK p) 76 = true ∧ ∀ x ∈ fldN, findIn (KK p) (.ref 76) x = some none := ⟨by kernel_rfl, fun x hx => by
  unfold fldN at hx
  simp only [List.mem_cons, List.not_mem_nil, or_false] at hx
  rcases hx with rfl | rfl | rfl | rfl | rfl <;> kernel_rfl⟩
theorem k_sa : findIn (KK p) (.ref 76) "__setattr__" = some (some (.builtin "object.__setattr__")) ∧ plainOver (KK p) 76 = true ∧ ∀ x ∈ fldN, takerIn (KK p) 76 x = some none := ⟨by kernel_rfl, by kernel_rfl, fun x hx => by
  unfold fldN at hx
  simp only [List.mem_cons, List.not_mem_nil, or_false] at hx
  rcases hx with rfl | rfl | rfl | rfl | rfl <;> kernel_rfl⟩
theorem k_cr : readsIn (KK p) 76 (.type "type") = true := by kernel_rfl
theorem k_make : makesIn (KK p) 76 = true ∧ findIn (KK p) (.ref 76) "__init__" = some (some (.ref 31)) ∧ typeIn (KK p) (.ref 31) = some (.type "function") := ⟨by kernel_rfl, by kernel_rfl, by kernel_rfl⟩

noncomputable def cfTok : Option CFound → Tok | some (.val (.str _ t)) => t | _ => default
theorem k_cv (a v : Str) (h : clsTab.lookup a = some v) : ∃ t, findCls (KK p) (.ref 76) (.type "type") a = some (.val (.str v t)) := by
  have hm := mem_of_lookup h
  unfold clsTab at hm
  simp only [List.mem_cons, List.not_mem_nil, or_false, Prod.mk.injEq] at hm
  rcases hm with ⟨rfl, rfl⟩ | ⟨rfl, rfl⟩
  · exact ⟨cfTok (findCls (KK p) (.ref 76) (.type "type") (Str.ofString "S")), by kernel_rfl⟩
  · exact ⟨cfTok (findCls (KK p) (.ref 76) (.type "type") (Str.ofString "T")), by kernel_rfl⟩

noncomputable def dEs : Option Obj → Array DictEntry | some ⟨_, _, .dict es _, _⟩ => es | _ => #[]
noncomputable def dEp : Option Obj → Nat | some ⟨_, _, .dict _ n, _⟩ => n | _ => 0
noncomputable abbrev tokEs : Array DictEntry := dEs ((KK p).lookup 123)
noncomputable abbrev tokEp : Nat := dEp ((KK p).lookup 123)
theorem k_tl : (KK p).lookup 123 = some ⟨.type "dict", none, .dict (tokEs p) (tokEp p), #[]⟩ := by kernel_rfl
noncomputable def entS : DictEntry → Option (Str × Int)
  | ⟨_, .str x _, .int i _⟩ => some (x, i)
  | _ => none
theorem k_ents : (tokEs p).toList.mapM entS = some tokTab := by kernel_rfl
theorem k_hash : (tokEs p).toList.map (·.hash) = tokTab.map (fun q => PyData.keyHash p q.1) := by kernel_rfl

theorem ents_walk : ∀ {l : List DictEntry} {r : List (Str × Int)}, l.mapM entS = some r → l.map (·.hash) = r.map (fun q => PyData.keyHash p q.1) → KeysLit p l ∧ l.any (·.refKey) = false ∧
    ∀ x, (match r.lookup x with | some i => ∃ t e, l.find? (·.key.isStr x) = some e ∧ e.val = .int i t | none => l.find? (·.key.isStr x) = none)
  | [], r, h, _ => by
    simp at h; subst h
    exact ⟨trivial, rfl, fun x => rfl⟩
  | e :: l, r, h, hh => by
    rw [List.mapM_cons] at h
    simp only [Option.pure_def, Option.bind_eq_bind, Option.bind_eq_some_iff, Option.some.injEq] at h
    obtain ⟨⟨x, i⟩, e1, r', e2, rfl⟩ := h
    unfold entS at e1
    split at e1
    · rename_i hs y t j u
      simp only [Option.some.injEq, Prod.mk.injEq] at e1
      obtain ⟨rfl, rfl⟩ := e1
      simp only [List.map_cons, List.cons.injEq] at hh
      obtain ⟨w1, w2, w3⟩ := ents_walk e2 hh.2
      refine ⟨⟨⟨y, t, rfl, hh.1⟩, w1⟩, by rw [List.any_cons, w2]; rfl, fun z => ?_⟩
      rw [List.lookup_cons]
      by_cases q : z = y
      · subst q
        simp only [beq_self_eq_true]
        exact ⟨u, _, by rw [List.find?_cons, isStr_eq], rfl⟩
      · rw [beq_eq_false_iff_ne.mpr q]
        have := w3 z
        have ne : (Value.str y t).isStr z = false := isStr_ne (Ne.symm q)
        split at this
        · rename_i i hi
          simp only [hi]
          obtain ⟨t', e', g1, g2⟩ := this
          exact ⟨t', e', by rw [List.find?_cons]; simp only [ne]; exact g1, g2⟩
        · rename_i hi
          simp only [hi]
          rw [List.find?_cons]; simp only [ne]; exact this
    · cases e1
theorem k_tt : KeysLit p (tokEs p).toList ∧ ((123 : Addr) == sysModules) = false := ⟨(ents_walk p (k_ents p) (k_hash p)).1, by decide⟩
theorem k_tv (x : Str) : ∃ r, nsIn (KK p) 123 x = some r ∧ (match tokOf x with | some i => ∃ t, r = some (.int i t) | none => r = none) := by
  obtain ⟨_, w2, w3⟩ := ents_walk p (k_ents p) (k_hash p)
  have := w3 x
  unfold nsIn tokOf
  rw [k_tl]
  dsimp only
  split at this
  · rename_i i hi
    obtain ⟨t, e, g1, g2⟩ := this
    rw [g1]
    exact ⟨some e.val, rfl, ⟨t, by rw [g2]⟩⟩
  · rename_i hi
    rw [this, w2]
    exact ⟨none, rfl, rfl⟩
theorem k_nT : nsIn (KK p) mainGlobals sTok = some (some (.ref 123)) := by kernel_rfl
noncomputable def intTok : Option (Option Value) → Tok | some (some (.int _ t)) => t | _ => default
theorem k_nL : ∃ t, nsIn (KK p) mainGlobals sLim = some (some (.int 4000 t)) := ⟨intTok (nsIn (KK p) mainGlobals sLim), by kernel_rfl⟩
theorem k_nB (b : Blt) : nsIn (KK p) mainGlobals (bnm b) = some none ∧ bootBuiltins (bnm b) = some (bltV b) ∧ bnm b ≠ "__name__" := by
  cases b <;> exact ⟨by kernel_rfl, by kernel_rfl, by decide +kernel⟩
theorem k_nR : nsIn (KK p) mainGlobals sRange = some none ∧ bootBuiltins sRange = some (.type "range") ∧ nsIn (KK p) mainGlobals sRev = some none ∧ bootBuiltins sRev = some (.type "reversed") ∧ sRange ≠ "__name__" ∧ sRev ≠ "__name__" :=
  ⟨by kernel_rfl, by kernel_rfl, by kernel_rfl, by kernel_rfl, by decide +kernel, by decide +kernel⟩
end Mine
end
section
open PySem PySem.W PyProof.Rows PySem.Calls
namespace Mine
noncomputable def KFn (K : Frag) (a : Addr) (ir : FnIR) (act : List Nat) : Prop :=
  ∃ o fd body, K.lookup a = some o ∧ o.data = .func fd ∧ codeIn K fd.code fd.qualname = true ∧ Top fd ∧ fd.body = .stmts body ∧ (∀ vals : List Value, vals.length = ir.np → bindArgs fd ⟨vals, []⟩ = pure ((ir.names.take ir.np).zip vals)) ∧
    callOk fd.scope ir.names act ir.np = true ∧ okBl fd.scope ir.names act false ir.body body = true

@[elab_as_elim] theorem len0 {α : Type} {C : List α → Prop} {l : List α} (h : l.length = 0) (k : C []) : C l := by
  cases l with
  | nil => exact k
  | cons => cases h
@[elab_as_elim] theorem lenS {α : Type} {n : Nat} {C : List α → Prop} {l : List α} (h : l.length = n + 1) (k : ∀ a r, r.length = n → C (a :: r)) : C l := by
  cases l with
  | nil => cases h
  | cons a r => exact k a r (Nat.succ.inj h)
@[elab_as_elim] theorem len1 {α : Type} {C : List α → Prop} {l : List α} (h : l.length = 1) (k : ∀ a, C [a]) : C l := lenS h fun a r h => len0 (l := r) (C := fun r => C (a :: r)) h (k a)
@[elab_as_elim] theorem len2 {α : Type} {C : List α → Prop} {l : List α} (h : l.length = 2) (k : ∀ a b, C [a, b]) : C l := lenS h fun a r h => len1 (l := r) (C := fun r => C (a :: r)) h (k a)
@[elab_as_elim] theorem len3 {α : Type} {C : List α → Prop} {l : List α} (h : l.length = 3) (k : ∀ a b c, C [a, b, c]) : C l := lenS h fun a r h => len2 (l := r) (C := fun r => C (a :: r)) h (k a)
@[elab_as_elim] theorem len4 {α : Type} {C : List α → Prop} {l : List α} (h : l.length = 4) (k : ∀ a b c d, C [a, b, c, d]) : C l := lenS h fun a r h => len3 (l := r) (C := fun r => C (a :: r)) h (k a)
@[elab_as_elim] theorem len5 {α : Type} {C : List α → Prop} {l : List α} (h : l.length = 5) (k : ∀ a b c d e, C [a, b, c, d, e]) : C l := lenS h fun a r h => len4 (l := r) (C := fun r => C (a :: r)) h (k a)
noncomputable def obOf : Option Obj → Obj | some o => o | none => { cls := .none, data := .plain }
noncomputable def fdOf (o : Obj) : FuncData := match o.data with | .func fd => fd | _ => default
noncomputable def bdOf (f : FuncData) : List Stmt := match f.body with | .stmts b => b | _ => []

theorem KFn.of {K : Frag} {a : Addr} {ir : FnIR} {act : List Nat} (h1 : K.lookup a = some (obOf (K.lookup a))) (h2 : (obOf (K.lookup a)).data = .func (fdOf (obOf (K.lookup a)))) (h3 : codeIn K (fdOf (obOf (K.lookup a))).code (fdOf (obOf (K.lookup a))).qualname = true)
    (h4 : Top (fdOf (obOf (K.lookup a)))) (h5 : (fdOf (obOf (K.lookup a))).body = .stmts (bdOf (fdOf (obOf (K.lookup a))))) (h6 : ∀ vals : List Value, vals.length = ir.np → bindArgs (fdOf (obOf (K.lookup a))) ⟨vals, []⟩ = pure ((ir.names.take ir.np).zip vals))
    (h7 : callOk (fdOf (obOf (K.lookup a))).scope ir.names act ir.np = true) (h8 : okBl (fdOf (obOf (K.lookup a))).scope ir.names act false ir.body (bdOf (fdOf (obOf (K.lookup a)))) = true) : KFn K a ir act :=
  ⟨_, _, _, h1, h2, h3, h4, h5, h6, h7, h8⟩

variable (p : PySem.Params)
theorem k_f_init : KFn (KK p) 31 ir_init (actOf ir_init) := KFn.of (by kernel_rfl) (by kernel_rfl) (by kernel_rfl) ⟨by kernel_rfl, by kernel_rfl, by kernel_rfl, by kernel_rfl, by kernel_rfl, by kernel_rfl⟩ (by kernel_rfl)
  (fun vals h => len2 h fun a0 a1 => by kernel_rfl) (by kernel_rfl) (by kernel_rfl)
theorem k_f_longest : KFn (KK p) 38 ir_longest (actOf ir_longest) := KFn.of (by kernel_rfl) (by kernel_rfl) (by kernel_rfl) ⟨by kernel_rfl, by kernel_rfl, by kernel_rfl, by kernel_rfl, by kernel_rfl, by kernel_rfl⟩ (by kernel_rfl)
  (fun vals h => len1 h fun a0 => by kernel_rfl) (by kernel_rfl) (by kernel_rfl)
theorem k_f_indent : KFn (KK p) 45 ir_indent (actOf ir_indent) := KFn.of (by kernel_rfl) (by kernel_rfl) (by kernel_rfl) ⟨by kernel_rfl, by kernel_rfl, by kernel_rfl, by kernel_rfl, by kernel_rfl, by kernel_rfl⟩ (by kernel_rfl)
  (fun vals h => len2 h fun a0 a1 => by kernel_rfl) (by kernel_rfl) (by kernel_rfl)
theorem k_f_equal : KFn (KK p) 52 ir_equal (actOf ir_equal) := KFn.of (by kernel_rfl) (by kernel_rfl) (by kernel_rfl) ⟨by kernel_rfl, by kernel_rfl, by kernel_rfl, by kernel_rfl, by kernel_rfl, by kernel_rfl⟩ (by kernel_rfl)
  (fun vals h => len2 h fun a0 a1 => by kernel_rfl) (by kernel_rfl) (by kernel_rfl)
theorem k_f_neW : KFn (KK p) 59 ir_neW (actOf ir_neW) := KFn.of (by kernel_rfl) (by kernel_rfl) (by kernel_rfl) ⟨by kernel_rfl, by kernel_rfl, by kernel_rfl, by kernel_rfl, by kernel_rfl, by kernel_rfl⟩ (by kernel_rfl)
  (fun vals h => len2 h fun a0 a1 => by kernel_rfl) (by kernel_rfl) (by kernel_rfl)
theorem k_f_less : KFn (KK p) 66 ir_less (actOf ir_less) := KFn.of (by kernel_rfl) (by kernel_rfl) (by kernel_rfl) ⟨by kernel_rfl, by kernel_rfl, by kernel_rfl, by kernel_rfl, by kernel_rfl, by kernel_rfl⟩ (by kernel_rfl)
  (fun vals h => len2 h fun a0 a1 => by kernel_rfl) (by kernel_rfl) (by kernel_rfl)
theorem k_f_nlW : KFn (KK p) 73 ir_nlW (actOf ir_nlW) := KFn.of (by kernel_rfl) (by kernel_rfl) (by kernel_rfl) ⟨by kernel_rfl, by kernel_rfl, by kernel_rfl, by kernel_rfl, by kernel_rfl, by kernel_rfl⟩ (by kernel_rfl)
  (fun vals h => len2 h fun a0 a1 => by kernel_rfl) (by kernel_rfl) (by kernel_rfl)
theorem k_f_div2 : KFn (KK p) 87 ir_div2 (actOf ir_div2) := KFn.of (by kernel_rfl) (by kernel_rfl) (by kernel_rfl) ⟨by kernel_rfl, by kernel_rfl, by kernel_rfl, by kernel_rfl, by kernel_rfl, by kernel_rfl⟩ (by kernel_rfl)
  (fun vals h => len3 h fun a0 a1 a2 => by kernel_rfl) (by kernel_rfl) (by kernel_rfl)
theorem k_f_dmpos : KFn (KK p) 115 ir_dmpos (actOf ir_dmpos) := KFn.of (by kernel_rfl) (by kernel_rfl) (by kernel_rfl) ⟨by kernel_rfl, by kernel_rfl, by kernel_rfl, by kernel_rfl, by kernel_rfl, by kernel_rfl⟩ (by kernel_rfl)
  (fun vals h => len2 h fun a0 a1 => by kernel_rfl) (by kernel_rfl) (by kernel_rfl)
theorem k_f_idm : KFn (KK p) 122 ir_idm (actOf ir_idm) := KFn.of (by kernel_rfl) (by kernel_rfl) (by kernel_rfl) ⟨by kernel_rfl, by kernel_rfl, by kernel_rfl, by kernel_rfl, by kernel_rfl, by kernel_rfl⟩ (by kernel_rfl)
  (fun vals h => len2 h fun a0 a1 => by kernel_rfl) (by kernel_rfl) (by kernel_rfl)
theorem k_f_drawn : KFn (KK p) 130 ir_drawn (actOf ir_drawn) := KFn.of (by kernel_rfl) (by kernel_rfl) (by kernel_rfl) ⟨by kernel_rfl, by kernel_rfl, by kernel_rfl, by kernel_rfl, by kernel_rfl, by kernel_rfl⟩ (by kernel_rfl)
  (fun vals h => len2 h fun a0 a1 => by kernel_rfl) (by kernel_rfl) (by kernel_rfl)
theorem k_f_lead : KFn (KK p) 137 ir_lead (actOf ir_lead) := KFn.of (by kernel_rfl) (by kernel_rfl) (by kernel_rfl) ⟨by kernel_rfl, by kernel_rfl, by kernel_rfl, by kernel_rfl, by kernel_rfl, by kernel_rfl⟩ (by kernel_rfl)
  (fun vals h => len3 h fun a0 a1 a2 => by kernel_rfl) (by kernel_rfl) (by kernel_rfl)
theorem k_f_read : KFn (KK p) 142 ir_read (actOf ir_read) := KFn.of (by kernel_rfl) (by kernel_rfl) (by kernel_rfl) ⟨by kernel_rfl, by kernel_rfl, by kernel_rfl, by kernel_rfl, by kernel_rfl, by kernel_rfl⟩ (by kernel_rfl)
  (fun vals h => len4 h fun a0 a1 a2 a3 => by kernel_rfl) (by kernel_rfl) (by kernel_rfl)
theorem k_f_figs : KFn (KK p) 149 ir_figs (actOf ir_figs) := KFn.of (by kernel_rfl) (by kernel_rfl) (by kernel_rfl) ⟨by kernel_rfl, by kernel_rfl, by kernel_rfl, by kernel_rfl, by kernel_rfl, by kernel_rfl⟩ (by kernel_rfl)
  (fun vals h => len2 h fun a0 a1 => by kernel_rfl) (by kernel_rfl) (by kernel_rfl)
theorem k_f_cols : KFn (KK p) 154 ir_cols (actOf ir_cols) := KFn.of (by kernel_rfl) (by kernel_rfl) (by kernel_rfl) ⟨by kernel_rfl, by kernel_rfl, by kernel_rfl, by kernel_rfl, by kernel_rfl, by kernel_rfl⟩ (by kernel_rfl)
  (fun vals h => len5 h fun a0 a1 a2 a3 a4 => by kernel_rfl) (by kernel_rfl) (by kernel_rfl)
theorem k_f_plain : KFn (KK p) 161 ir_plain (actOf ir_plain) := KFn.of (by kernel_rfl) (by kernel_rfl) (by kernel_rfl) ⟨by kernel_rfl, by kernel_rfl, by kernel_rfl, by kernel_rfl, by kernel_rfl, by kernel_rfl⟩ (by kernel_rfl)
  (fun vals h => len1 h fun a0 => by kernel_rfl) (by kernel_rfl) (by kernel_rfl)
theorem k_f_ways : KFn (KK p) 168 ir_ways (actOf ir_ways) := KFn.of (by kernel_rfl) (by kernel_rfl) (by kernel_rfl) ⟨by kernel_rfl, by kernel_rfl, by kernel_rfl, by kernel_rfl, by kernel_rfl, by kernel_rfl⟩ (by kernel_rfl)
  (fun vals h => len2 h fun a0 a1 => by kernel_rfl) (by kernel_rfl) (by kernel_rfl)
theorem k_f_prod : KFn (KK p) 175 ir_prod (actOf ir_prod) := KFn.of (by kernel_rfl) (by kernel_rfl) (by kernel_rfl) ⟨by kernel_rfl, by kernel_rfl, by kernel_rfl, by kernel_rfl, by kernel_rfl, by kernel_rfl⟩ (by kernel_rfl)
  (fun vals h => len2 h fun a0 a1 => by kernel_rfl) (by kernel_rfl) (by kernel_rfl)
theorem k_f_law : KFn (KK p) 180 ir_law (actOf ir_law) := KFn.of (by kernel_rfl) (by kernel_rfl) (by kernel_rfl) ⟨by kernel_rfl, by kernel_rfl, by kernel_rfl, by kernel_rfl, by kernel_rfl, by kernel_rfl⟩ (by kernel_rfl)
  (fun vals h => len1 h fun a0 => by kernel_rfl) (by kernel_rfl) (by kernel_rfl)
end Mine
end
section
open PySem PySem.W PyProof.Rows PySem.Calls
namespace Mine
noncomputable def defAt : List Stmt → Nat → Stmt
  | l, n => l.getD n (.Pass ⟨0, 0, 0, 0⟩)
noncomputable def dParams : Stmt → Arguments | .FunctionDef _ p .. => p | _ => ⟨[], [], none, [], [], none, []⟩
noncomputable def dBody : Stmt → List Stmt | .FunctionDef _ _ b .. => b | _ => []
noncomputable def dScope : Stmt → Scope → Scope | .FunctionDef _ _ _ _ _ _ s .., _ => s | _, s => s
noncomputable def dPos : Stmt → Pos | .FunctionDef _ _ _ _ _ _ _ _ _ p => p | _ => ⟨0, 0, 0, 0⟩

variable (p : PySem.Params)
noncomputable abbrev fdI : FuncData := fdOf (obOf ((KK p).lookup 101))
noncomputable abbrev fdD : FuncData := fdOf (obOf ((KK p).lookup 108))
noncomputable abbrev stI : Stmt := defAt (bdOf (fdI p)) 1
noncomputable abbrev stD : Stmt := defAt (bdOf (fdD p)) 0
noncomputable def tbI : Tb := ⟨100, 96, dPos (stI p), Str.ofString "_int2digits.<locals>.inner"⟩
noncomputable def tbD : Tb := ⟨107, 103, dPos (stD p), Str.ofString "_digits2int.<locals>.inner"⟩
theorem nI_1 : (KK p).lookup 101 = some (obOf ((KK p).lookup 101)) ∧ (obOf ((KK p).lookup 101)).data = .func (fdI p) ∧ codeIn (KK p) (fdI p).code (fdI p).qualname = true ∧ Top (fdI p) :=
  ⟨by kernel_rfl, by kernel_rfl, by kernel_rfl, ⟨by kernel_rfl, by kernel_rfl, by kernel_rfl, by kernel_rfl, by kernel_rfl, by kernel_rfl⟩⟩
theorem nI_2 : (fdI p).body = .stmts ([defAt (bdOf (fdI p)) 0] ++ .FunctionDef (Str.ofString "inner") (dParams (stI p)) (dBody (stI p)) [] none [] (dScope (stI p) (fdI p).scope) none (Str.ofString "inner") (dPos (stI p)) :: (bdOf (fdI p)).drop 2) := by kernel_rfl
theorem nI_3 (vals : List Value) (h : vals.length = 2) : bindArgs (fdI p) ⟨vals, []⟩ = pure ((ir_i2d.names.take 2).zip vals) := len2 h fun a b => by kernel_rfl
theorem nI_4 : callOk (fdI p).scope ir_i2d.names (actOf ir_i2d) 2 = true := by kernel_rfl
theorem nI_5 : (dParams (stI p)).defaults = [] ∧ (dParams (stI p)).kw_defaults = [] ∧ (∀ env, annTrees (dParams (stI p)) none env = []) ∧ (fdI p).code = .ref 100 := ⟨by kernel_rfl, by kernel_rfl, fun env => by kernel_rfl, by kernel_rfl⟩
theorem nI_6 (L a : Nat) : qualnameIn (callEnvC (fdI p) L a) (Str.ofString "inner") (Str.ofString "inner") = (tbI p).qual := by kernel_rfl
theorem nI_7 : inChk (dScope (stI p) (fdI p).scope) ir_i2dIn (actOf ir_i2dIn ++ [3, 5]) (dBody (stI p)) = true := by kernel_rfl
theorem nI_8 (vals : List Value) (cl : List (Str × Addr)) (doc pm cdv ctv : Value) (h : vals.length = 3) : bindArgs (fnX (Str.ofString "inner") (tbI p).qual (dParams (stI p)) (dBody (stI p)) (dScope (stI p) (fdI p).scope) cl .none .none doc pm none cdv ctv) ⟨vals, []⟩ = pure ((ir_i2dIn.names.take 3).zip vals) := len3 h fun a b c => by kernel_rfl
theorem nI_9 : capChk (fdI p).scope (dScope (stI p) (fdI p).scope) ir_i2d.names ir_i2dIn (actOf ir_i2dIn ++ [3, 5]) ⟨Str.ofString "a_digits", 2, 3⟩ ⟨Str.ofString "n", 1, 5⟩ = true := by kernel_rfl
theorem nI_10 : okBl (fdI p).scope ir_i2d.names (actOf ir_i2d) true i2dRest ((bdOf (fdI p)).drop 2) = true := by kernel_rfl
theorem nI_11 : okS (fdI p).scope ir_i2d.names (actOf ir_i2d) false (.asg 2 i2dE) (defAt (bdOf (fdI p)) 0) = true := by kernel_rfl

theorem nD_1 : (KK p).lookup 108 = some (obOf ((KK p).lookup 108)) ∧ (obOf ((KK p).lookup 108)).data = .func (fdD p) ∧ codeIn (KK p) (fdD p).code (fdD p).qualname = true ∧ Top (fdD p) :=
  ⟨by kernel_rfl, by kernel_rfl, by kernel_rfl, ⟨by kernel_rfl, by kernel_rfl, by kernel_rfl, by kernel_rfl, by kernel_rfl, by kernel_rfl⟩⟩
theorem nD_2 : (fdD p).body = .stmts ([] ++ .FunctionDef (Str.ofString "inner") (dParams (stD p)) (dBody (stD p)) [] none [] (dScope (stD p) (fdD p).scope) none (Str.ofString "inner") (dPos (stD p)) :: (bdOf (fdD p)).drop 1) := by kernel_rfl
theorem nD_3 (vals : List Value) (h : vals.length = 2) : bindArgs (fdD p) ⟨vals, []⟩ = pure ((ir_d2i.names.take 2).zip vals) := len2 h fun a b => by kernel_rfl
theorem nD_4 : callOk (fdD p).scope ir_d2i.names (actOf ir_d2i) 2 = true := by kernel_rfl
theorem nD_5 : (dParams (stD p)).defaults = [] ∧ (dParams (stD p)).kw_defaults = [] ∧ (∀ env, annTrees (dParams (stD p)) none env = []) ∧ (fdD p).code = .ref 107 := ⟨by kernel_rfl, by kernel_rfl, fun env => by kernel_rfl, by kernel_rfl⟩
theorem nD_6 (L a : Nat) : qualnameIn (callEnvC (fdD p) L a) (Str.ofString "inner") (Str.ofString "inner") = (tbD p).qual := by kernel_rfl
theorem nD_7 : inChk (dScope (stD p) (fdD p).scope) ir_d2iIn (actOf ir_d2iIn ++ [2, 4]) (dBody (stD p)) = true := by kernel_rfl
theorem nD_8 (vals : List Value) (cl : List (Str × Addr)) (doc pm cdv ctv : Value) (h : vals.length = 2) : bindArgs (fnX (Str.ofString "inner") (tbD p).qual (dParams (stD p)) (dBody (stD p)) (dScope (stD p) (fdD p).scope) cl .none .none doc pm none cdv ctv) ⟨vals, []⟩ = pure ((ir_d2iIn.names.take 2).zip vals) := len2 h fun a b => by kernel_rfl
theorem nD_9 : capChk (fdD p).scope (dScope (stD p) (fdD p).scope) ir_d2i.names ir_d2iIn (actOf ir_d2iIn ++ [2, 4]) ⟨Str.ofString "digits", 0, 2⟩ ⟨Str.ofString "n", 1, 4⟩ = true := by kernel_rfl
theorem nD_10 : okBl (fdD p).scope ir_d2i.names (actOf ir_d2i) true d2iRest ((bdOf (fdD p)).drop 1) = true := by kernel_rfl
end Mine
end
section
open PySem PySem.W PyProof.Rows PySem.Calls
namespace Mine

noncomputable abbrev tbs : List (Addr × Addr) := [(107, 103), (100, 96)]
noncomputable def mkW (w : World) (h : Heap) : Wo := ⟨w, ghostOf h tbs, 76, [tbI w.params, tbD w.params]⟩

structure Src (w : World) (h : Heap) (mg mb : Str → Option Value) : Prop where
  X : (KK w.params).In (ghostOf h tbs)
  T : TopRead topProg [] mg mb (ghostOf h tbs) ∨ ∃ p loose, TopRead p loose mg mb (ghostOf h tbs)
  bm : ∃ bm ob, mg "__builtins__" = some (.ref bm) ∧ bm ≠ builtinsNs ∧ (ghostOf h tbs).get? bm = some ob ∧ ob.cls = .type "module" ∧ ob.dict = some builtinsNs ∧ ob.data = .plain
  cd : CodeHd (ghostOf h tbs) 107 103 ∧ CodeHd (ghostOf h tbs) 100 96
  t1 : h.get? 103 = some (tabObj #[])
  t2 : h.get? 96 = some (tabObj #[])

theorem Src.top {w : World} {h : Heap} {mg mb : Str → Option Value} (S : Src w h mg mb) : ∃ p loose, TopRead p loose mg mb (ghostOf h tbs) := by
  rcases S.T with T | ⟨p, l, T⟩
  · exact ⟨_, _, T⟩
  · exact ⟨p, l, T⟩
theorem Src.g {w : World} {h : Heap} {mg mb : Str → Option Value} (S : Src w h mg mb) : (ghostOf h tbs).Ns mainGlobals mg := let ⟨_, _, T⟩ := S.top; T.g
theorem Src.b {w : World} {h : Heap} {mg mb : Str → Option Value} (S : Src w h mg mb) : (ghostOf h tbs).Ns builtinsNs mb := let ⟨_, _, T⟩ := S.top; T.b
theorem Src.lim {w : World} {h : Heap} {mg mb : Str → Option Value} (S : Src w h mg mb) : (ghostOf h tbs).NoLimit := let ⟨_, _, T⟩ := S.top; T.nolimit
theorem Src.bi {w : World} {h : Heap} {mg mb : Str → Option Value} (S : Src w h mg mb) : ∀ x : Str, x ≠ "__name__" → mb x = bootBuiltins x := let ⟨_, _, T⟩ := S.top; T.builtins

noncomputable def mkX {w : World} {h : Heap} {mg mb : Str → Option Value} (S : Src w h mg mb) (prog : Program) : Fx (mkW w h) where
  prog := prog
  K := KK w.params
  X := S.X
  mg := mg
  mb := mb
  g := S.g
  b := S.b
  lim := S.lim
  fa := faOf
  nf := fun f hf => ⟨mg_of S.X S.g (k_nf w.params f hf).1, (k_nf w.params f hf).2⟩
  mf := k_mf w.params
  nC := ⟨mg_of S.X S.g (k_nC w.params).1, (k_nC w.params).2⟩
  pg := k_pg w.params
  fl := k_fl w.params
  sa := k_sa w.params
  mc := .type "type"
  cr := k_cr w.params
  cv := k_cv w.params
  TT := 123
  es := tokEs w.params
  ep := tokEp w.params
  nT := mg_of S.X S.g (k_nT w.params)
  tt := ⟨k_tl w.params, k_tt w.params⟩
  tv := k_tv w.params
  nL := let ⟨t, e⟩ := k_nL w.params; ⟨t, mg_of S.X S.g e⟩
  nB := fun b => ⟨mg_none_of S.X S.g (k_nB w.params b).1, (S.bi _ (k_nB w.params b).2.2).trans (k_nB w.params b).2.1⟩
  nR := ⟨mg_none_of S.X S.g (k_nR w.params).1, (S.bi _ (k_nR w.params).2.2.2.2.1).trans (k_nR w.params).2.1, mg_none_of S.X S.g (k_nR w.params).2.2.1, (S.bi _ (k_nR w.params).2.2.2.2.2).trans (k_nR w.params).2.2.2.1⟩

section
variable {w : World} {h : Heap} {mg mb : Str → Option Value} (S : Src w h mg mb) (prog : Program)
theorem fnf {f : Fn} {a : Addr} {ir : FnIR} (k : KFn (KK w.params) a ir (actOf ir)) : FnFacts (mkX S prog) f a (Str.ofString "") ir (actOf ir) := by
  obtain ⟨o, fd, body, h1, h2, h3, h4⟩ := k
  exact ⟨o, fd, body, S.X _ _ h1, h2, codeRec_of S.X h3, h4⟩
theorem ghost_no {t : Addr} (ht : t ∈ tbs.map (·.2)) : (ghostOf h tbs).get? t = none := hideAll_none _ ht

theorem tabF {q : Tb} (hq : q ∈ (mkW w h).tabs) (ht : q.t ∈ tbs.map (·.2)) (hc : CodeHd (ghostOf h tbs) q.c q.t) (uq : ∀ q' ∈ (mkW w h).tabs, q'.t = q.t → q' = q) : TabFacts (mkX S prog) q where
  mem := hq
  uq := uq
  hd := hc
  bi := by
    obtain ⟨bm, ob, b1, b2, b3, b4, b5, b6⟩ := S.bm
    refine ⟨bm, ob, b1, b2, fun z => ?_, fun z => ?_, b3, b4, b5, b6⟩
    · obtain ⟨o, es, ep, e, hd, _⟩ := S.g
      rw [z, e] at b3; cases b3; rw [b6] at hd; cases hd
    · rw [z, ghost_no ht] at b3; cases b3
  ne := fun z => by
    obtain ⟨o, es, ep, e, _⟩ := S.g
    rw [z, ghost_no ht] at e; cases e

theorem allF : AllF (mkX S prog) where
  ff := fun f hf => by
    cases f <;> first | exact absurd hf (by decide) | skip
    · exact fnf S prog (k_f_longest _)
    · exact fnf S prog (k_f_indent _)
    · exact fnf S prog (k_f_equal _)
    · exact fnf S prog (k_f_neW _)
    · exact fnf S prog (k_f_less _)
    · exact fnf S prog (k_f_nlW _)
    · exact fnf S prog (k_f_div2 _)
    · exact fnf S prog (k_f_dmpos _)
    · exact fnf S prog (k_f_idm _)
    · exact fnf S prog (k_f_drawn _)
    · exact fnf S prog (k_f_lead _)
    · exact fnf S prog (k_f_read _)
    · exact fnf S prog (k_f_figs _)
    · exact fnf S prog (k_f_cols _)
    · exact fnf S prog (k_f_plain _)
    · exact fnf S prog (k_f_ways _)
    · exact fnf S prog (k_f_prod _)
    · exact fnf S prog (k_f_law _)
  ini := ⟨31, fnf S prog (k_f_init _), k_make _⟩
  i2d := by
    refine ⟨tbI w.params, actOf ir_i2d, actOf ir_i2dIn ++ [3, 5], fdI w.params, _, tabF S prog (.head _) (by show (96 : Addr) ∈ _; decide) S.cd.2 (fun q' hq' e => ?_), ⟨_, dParams (stI w.params), dBody (stI w.params), dScope (stI w.params) (fdI w.params).scope, dPos (stI w.params), (bdOf (fdI w.params)).drop 2, S.X _ _ (nI_1 _).1, (nI_1 _).2.1, codeRec_of S.X (nI_1 _).2.2.1, (nI_1 _).2.2.2, nI_2 _, nI_3 _, nI_4 _, (nI_5 _).1, (nI_5 _).2.1, (nI_5 _).2.2.1, (nI_5 _).2.2.2, rfl, nI_6 _, nI_7 _, nI_8 _, nI_9 _, nI_10 _⟩, nI_11 _⟩
    rcases List.mem_cons.mp hq' with z | z
    · exact z
    · rcases List.mem_cons.mp z with z | z
      · subst z; exact absurd (show (103 : Nat) = 96 from e) (by decide)
      · cases z
  d2i := by
    refine ⟨tbD w.params, actOf ir_d2i, actOf ir_d2iIn ++ [2, 4], fdD w.params, tabF S prog (.tail _ (.head _)) (by show (103 : Addr) ∈ _; decide) S.cd.1 (fun q' hq' e => ?_), ⟨_, dParams (stD w.params), dBody (stD w.params), dScope (stD w.params) (fdD w.params).scope, dPos (stD w.params), (bdOf (fdD w.params)).drop 1, S.X _ _ (nD_1 _).1, (nD_1 _).2.1, codeRec_of S.X (nD_1 _).2.2.1, (nD_1 _).2.2.2, nD_2 _, nD_3 _, nD_4 _, (nD_5 _).1, (nD_5 _).2.1, (nD_5 _).2.2.1, (nD_5 _).2.2.2, rfl, nD_6 _, nD_7 _, nD_8 _, nD_9 _, nD_10 _⟩⟩
    rcases List.mem_cons.mp hq' with z | z
    · subst z; exact absurd (show (96 : Nat) = 103 from e) (by decide)
    · rcases List.mem_cons.mp z with z | z
      · exact z
      · cases z

include S in
theorem sto0 : Sto (mkW w h) (ghostOf h tbs).get? a0 [] h where
  base := .refl _
  sub := fun b o e => of_hideAll _ e
  tab := fun q hq => by
    rcases List.mem_cons.mp hq with z | z
    · subst z; exact ⟨ghost_no (by show (96 : Addr) ∈ _; decide), _, S.t2, .inl rfl⟩
    · rcases List.mem_cons.mp z with z | z
      · subst z; exact ⟨ghost_no (by show (103 : Addr) ∈ _; decide), _, S.t1, .inl rfl⟩
      · cases z
  ls := fun j xs e => by cases e
  is := fun j fs e => by cases e
  out := fun j e => absurd rfl e
  inj := fun i j e => absurd rfl e

theorem rdInts {P : PM} {vs : List Value} {ns : List Int} (h : IntsAre vs ns) : RdL P vs (ns.map .int) := by
  induction h with
  | nil => exact .nil
  | cons i t _ ih => exact .cons (.int _ _) ih
end
end Mine
end
section
open PySem PySem.W PyProof.Rows
set_option maxHeartbeats 8000000
theorem Mine.foo (hl : ∀ xs : List Int, xs.length ≤ 63 → ∃ n, 12 ≤ n ∧ n ≤ 60 ∧ (Mine.semL 400 n).Φ .law [.d (.list (xs.map .int))] = some (.d (.bool true))) : PySem.Challenge.rw_sc0102_01.Holds := Mine.hd (by
  intro w s₀ s₁ mg mb G Y fa o pm cd doc dV kV ho hd hcd hD hmg hg args vals as hpre hlay hrd hwl hlo
  have KX := km_in_of Y
  km_tabs Y
  have X := (Ground.X G).1
  have V := (Ground.X G).2
  refine Ground.open G ?_
  intro T B D TE TW
  try (refine guard_noD D (by decide +kernel) ?_; clear D)
  have hT9 : TabsAt ([(107, 103), (100, 96)] : List (Addr × Addr)) _ := List.forall_mem_cons.mpr ⟨⟨codeHd_of_K (c := 107) (P := 103) KX (by kernel_rfl), hT8 103 (by k_mem)⟩, List.forall_mem_cons.mpr ⟨⟨codeHd_of_K (c := 100) (P := 96) KX (by kernel_rfl), hT8 96 (by k_mem)⟩, fun _ h => nomatch h⟩⟩
  wrow_args hpre hlay hrd hwl hlo
  all_goals (
    first | refine callC_kw (enter_call ?_) | refine enter_call ?_
    w_top on
    kn_posts
    rename_i xs _ _ _ _ _ _ _ a vs _ hL _ _ _ hI _ hlen _
    have hlen : xs.length ≤ 63 := by omega
    have TT := ghost_top hT9 T
    have SS : Mine.Src w s₁.heap mg mb := ⟨ghost_K hT9 KX (by kernel_rfl), .inr ⟨_, _, topRead_of TT⟩, TT.bmain, ⟨(ghost_code hT9).1, (ghost_code hT9).2.1⟩, (hT9 (107, 103) (.head _)).2, (hT9 (100, 96) (.tail _ (.head _))).2⟩
    have hfa : fa = 180 := by
      have e1 := mg_of KX T.g (Mine.k_nf w.params .law rfl).1
      have e2 : mg (Mine.fnm .law) = some (.ref fa) := hmg
      rw [e1] at e2; cases e2; rfl
    subst hfa
    obtain ⟨n, hn1, hn2, hv⟩ := hl xs hlen
    have OK := (Mine.semL_ok (Mine.allF SS PySem.Challenge.rw_sc0102_01.row.prog) 400 n).fn .law _ _ rfl hv
    obtain ⟨o', g1, g2, n', g3⟩ := ghost_list hT9 hL
    refine OK callerA _ s₁ _ _ ?_ (Mine.sto0 SS) (.cons (.d (.list g1 g2 g3 (Mine.rdInts hI))) .nil) fun r h' tk P' f rv => ?_
    · refine ⟨rfl, ?_, ?_⟩
      · have : callerA.depth ≤ 700 := by decide +kernel
        omega
      · have : callerA.units ≤ 1000 := by decide +kernel
        omega
    · cases rv with | d rv =>
      cases rv
      refine ⟨⟨.inl ⟨_, .bool true, [], rfl, fun _ => by first | rfl | kernel_rfl, .bool true, by first | rfl | kernel_rfl, fun _ => ⟨.nil, fun a ha => by cases ha⟩⟩, fun b o e => f.sto.sub b o (f.le b o e), rfl, hg⟩, ?_⟩
      have gt : ∀ q ∈ (Mine.mkW w s₁.heap).tabs, GrownAt q.t h' := fun q hq => by
        obtain ⟨_, ps, e, _⟩ := f.sto.tab q hq
        exact ⟨ps, e⟩
      exact ⟨gt _ (.tail _ (.head _)), gt _ (.head _), trivial⟩))
end
section
open PySem PySem.W PyProof.Rows PySem.Calls
namespace Mine
section
variable (S : Sem) (en : En)
theorem Za (i : Int) (σ : Sg) : evE S en (.int i) σ = some (.d (.int i), σ) := rfl
theorem Zb (x : Str) (σ : Sg) : evE S en (.str x) σ = some (.d (.str x), σ) := rfl
theorem Zc (b : Bool) (σ : Sg) : evE S en (.tt b) σ = some (.d (.bool b), σ) := rfl
theorem Zd  (σ : Sg) : evE S en (.no) σ = some (.d .none, σ) := rfl
theorem Ze (k : Nat) (σ : Sg) : evE S en (.var k) σ = match eget en k with
    | none => none
    | some v => some (v, σ) := rfl
theorem Zf (x0 : Str) (i : Int) (σ : Sg) : evE S en (.gint x0 i) σ = some (.d (.int i), σ) := rfl
theorem Zg (x0 v : Str) (σ : Sg) : evE S en (.cls x0 v) σ = some (.d (.str v), σ) := rfl
theorem Zh (o : Bop) (a b : PE) (σ : Sg) : evE S en (.bin o a b) σ = match evE S en a σ with
    | none => none
    | some (x, σ) => match evE S en b σ with
      | none => none
      | some (y, σ) => match dat σ x with
        | none => none
        | some x => match dat σ y with
          | none => none
          | some y => match bopD o x y with
            | none => none
            | some z => some (.d z, σ) := rfl
theorem Zi (o : Bop) (a b : PE) (σ : Sg) : evE S en (.binO o a b) σ = match evE S en a σ with
    | none => none
    | some (x, σ) => match evE S en b σ with
      | none => none
      | some (y, σ) => match dat σ x with
        | none => none
        | some x => match dat σ y with
          | none => none
          | some y => match bopD o x y with
            | none => none
            | some z => match dLst z with
              | none => none
              | some z => some (.own σ.length, σ ++ [.l z]) := rfl
theorem Zj (o : Cop) (a b : PE) (σ : Sg) : evE S en (.cmp o a b) σ = match evE S en a σ with
    | none => none
    | some (x, σ) => match evE S en b σ with
      | none => none
      | some (y, σ) => match dat σ x with
        | none => none
        | some x => match dat σ y with
          | none => none
          | some y => match cmpD o x y with
            | none => none
            | some z => some (.d (.bool z), σ) := rfl
theorem Zk (k : Bool) (l : PL) (σ : Sg) : evE S en (.bop k l) σ = evB S en k l σ := rfl
theorem Zl (e : PE) (σ : Sg) : evE S en (.nt e) σ = match evE S en e σ with
    | none => none
    | some (v, σ) => match truV σ v with
      | none => none
      | some b => some (.d (.bool !b), σ) := rfl
theorem Zm (e : PE) (σ : Sg) : evE S en (.neg e) σ = match evE S en e σ with
    | none => none
    | some (v, σ) => match vd v with
      | none => none
      | some x => match dInt x with
        | none => none
        | some i => some (.d (.int (-i)), σ) := rfl
theorem Zn (c a b : PE) (σ : Sg) : evE S en (.ite c a b) σ = match evE S en c σ with
    | none => none
    | some (v, σ) => match truV σ v with
      | none => none
      | some t => match t with
        | true => evE S en a σ
        | false => evE S en b σ := rfl
theorem Zo (f : Fn) (l : PL) (σ : Sg) : evE S en (.cF f l) σ = match evL S en l σ with
    | none => none
    | some (vs, σ) => match frzL σ vs with
      | none => none
      | some (vs, σ) => match S.Φ f vs with
        | none => none
        | some v => some (v, σ) := rfl
theorem Zp (b : Blt) (l : PL) (σ : Sg) : evE S en (.cB b l) σ = match evL S en l σ with
    | none => none
    | some (vs, σ) => match vs.mapM (dat σ) with
      | none => none
      | some ds => match bltD b ds with
        | none => none
        | some z => some (.d z, σ) := rfl
theorem Zq (f : Fn) (o : PE) (l : PL) (σ : Sg) : evE S en (.cM f o l) σ = match evE S en o σ with
    | none => none
    | some (u, σ) => match vw u with
      | none => none
      | some fs => match evL S en l σ with
        | none => none
        | some (vs, σ) => match frzL σ vs with
          | none => none
          | some (vs, σ) => match S.Φ f (.ws fs :: vs) with
            | none => none
            | some v => some (v, σ) := rfl
theorem Zr (e : PE) (σ : Sg) : evE S en (.mk e) σ = match evE S en e σ with
    | none => none
    | some (v, σ) => match vd v with
      | none => none
      | some x => match S.Φ .init [.d x] with
        | none => none
        | some v => some (v, σ) := rfl
theorem Zs (x0 : Nat) (l : PL) (σ : Sg) : evE S en (.cI x0 l) σ = match evL S en l σ with
    | none => none
    | some (vs, σ) => S.Ψ vs σ := rfl
theorem Zt (e : PE) (k : Nat) (σ : Sg) : evE S en (.fld e k) σ = match evE S en e σ with
    | none => none
    | some (v, σ) => match flds σ v with
      | none => none
      | some fs => match fs[k]? with
        | none => none
        | some x => some (.d x, σ) := rfl
theorem Zu (o i : PE) (σ : Sg) : evE S en (.sub o i) σ = match evE S en o σ with
    | none => none
    | some (x, σ) => match evE S en i σ with
      | none => none
      | some (y, σ) => match dat σ x with
        | none => none
        | some x => match dat σ y with
          | none => none
          | some y => match subD x y with
            | none => none
            | some z => some (.d z, σ) := rfl
theorem Zv (o l u st : PE) (σ : Sg) : evE S en (.sl o l u st) σ = match evE S en o σ with
    | none => none
    | some (x, σ) => match evE S en l σ with
      | none => none
      | some (a, σ) => match evE S en u σ with
        | none => none
        | some (b, σ) => match evE S en st σ with
          | none => none
          | some (c, σ) => match dat σ x with
            | none => none
            | some x => match partV a with
              | none => none
              | some a => match partV b with
                | none => none
                | some b => match partV c with
                  | none => none
                  | some c => match slD x a b c with
                    | none => none
                    | some z => some (.d z, σ) := rfl
theorem Zw (l : PL) (σ : Sg) : evE S en (.ls l) σ = match evL S en l σ with
    | none => none
    | some (vs, σ) => match frzL σ vs with
      | none => none
      | some (vs, σ) => match datL vs with
        | none => none
        | some xs => if xs.length ≤ lim then some (.d (.list xs), σ) else none := rfl
theorem Zx (l : PL) (σ : Sg) : evE S en (.lsO l) σ = match evL S en l σ with
    | none => none
    | some (vs, σ) => match frzL σ vs with
      | none => none
      | some (vs, σ) => match datL vs with
        | none => none
        | some xs => if xs.length ≤ lim then some (.own σ.length, σ ++ [.l xs]) else none := rfl
theorem Zy (l : PL) (σ : Sg) : evE S en (.tp l) σ = match evL S en l σ with
    | none => none
    | some (vs, σ) => match frzL σ vs with
      | none => none
      | some (vs, σ) => match datL vs with
        | none => none
        | some xs => if xs.length ≤ lim then some (.d (.tuple xs), σ) else none := rfl
theorem Zz (e : PE) (σ : Sg) : evE S en (.bl e) σ = match evE S en e σ with
    | none => none
    | some (v, σ) => match vd v with
      | none => none
      | some x => match dInt x with
        | none => none
        | some i => some (.d (.int (Builtin.Int.intBits i)), σ) := rfl
theorem ZA (x o : PE) (σ : Sg) : evE S en (.join x o) σ = match evE S en x σ with
    | none => none
    | some (v, σ) => match vd v with
      | none => none
      | some x => match dStr x with
        | none => none
        | some sep => match evE S en o σ with
          | none => none
          | some (v, σ) => match vd v with
            | none => none
            | some y => match dLst y with
              | none => none
              | some ys => match strsOf ys with
                | none => none
                | some ts => if JoinOk sep ts then some (.d (.str (Txt.join sep ts)), σ) else none := rfl
theorem ZB (e : PE) (σ : Sg) : evE S en (.din e) σ = match evE S en e σ with
    | none => none
    | some (v, σ) => match vd v with
      | none => none
      | some x => match dStr x with
        | none => none
        | some x => some (.d (.bool (tokOf x).isSome), σ) := rfl
theorem ZC (e : PE) (σ : Sg) : evE S en (.dget e) σ = match evE S en e σ with
    | none => none
    | some (v, σ) => match vd v with
      | none => none
      | some x => match dStr x with
        | none => none
        | some x => match tokOf x with
          | none => none
          | some i => some (.d (.int i), σ) := rfl
theorem ZD  (σ : Sg) : evL S en (.nil) σ = some ([], σ) := rfl
theorem ZE (e : PE) (l : PL) (σ : Sg) : evL S en (.cons e l) σ = match evE S en e σ with
    | none => none
    | some (v, σ) => match evL S en l σ with
      | none => none
      | some (vs, σ) => some (v :: vs, σ) := rfl
theorem ZF (k : Bool) (σ : Sg) : evB S en k (.nil) σ = none := rfl
theorem ZG (k : Bool) (e : PE) (l : PL) (σ : Sg) : evB S en k (.cons e l) σ = match evE S en e σ with
    | none => none
    | some (v, σ) => match plE l with
      | true => some (v, σ)
      | false => match truV σ v with
        | none => none
        | some b => if b == k then evB S en k l σ else some (v, σ) := rfl
theorem ZH (e : PE) (σ : Sg) : evI S en (.rng1 e) σ = match evE S en e σ with
    | none => none
    | some (v, σ) => match vd v with
      | none => none
      | some x => match dInt x with
        | none => none
        | some b => if b < 100000 ∧ -(2 ^ 62) < b then some ((rangeI 0 b).map .int, σ) else none := rfl
theorem ZI (a b : PE) (σ : Sg) : evI S en (.rng2 a b) σ = match evE S en a σ with
    | none => none
    | some (v, σ) => match vd v with
      | none => none
      | some x => match dInt x with
        | none => none
        | some a => match evE S en b σ with
          | none => none
          | some (v, σ) => match vd v with
            | none => none
            | some x => match dInt x with
              | none => none
              | some b => if -100000 < a ∧ b < 100000 ∧ a < 2 ^ 62 ∧ -(2 ^ 62) < b then some ((rangeI a b).map .int, σ) else none := rfl
theorem ZJ (e : PE) (σ : Sg) : evI S en (.rev e) σ = match evE S en e σ with
    | none => none
    | some (v, σ) => match vd v with
      | none => none
      | some x => match dLst x with
        | none => none
        | some xs => if xs.length ≤ lim then some (xs.reverse, σ) else none := rfl
theorem ZK (e : PE) (σ : Sg) : evI S en (.it e) σ = match evE S en e σ with
    | none => none
    | some (v, σ) => match vd v with
      | none => none
      | some x => match itemsD x with
        | none => none
        | some its => some (its, σ) := rfl
end
section
variable (S : Sem)
theorem ZL (k : Nat) (e : PE) (en : En) (σ : Sg) : evS S (.asg k e) en σ = match evE S en e σ with
    | none => none
    | some (v, σ) => some (.next, eput en k (some v), σ) := rfl
theorem ZM (ks : List Nat) (e : PE) (en : En) (σ : Sg) : evS S (.unp ks e) en σ = match evE S en e σ with
    | none => none
    | some (v, σ) => match vd v with
      | none => none
      | some x => match dTup x with
        | none => none
        | some xs => match putAll ks (xs.map .d) en with
          | none => none
          | some en => some (.next, en, σ) := rfl
theorem ZN (ks : List Nat) (l : PL) (en : En) (σ : Sg) : evS S (.unpT ks l) en σ = match evL S en l σ with
    | none => none
    | some (vs, σ) => match putAll ks vs en with
      | none => none
      | some en => some (.next, en, σ) := rfl
theorem ZO (ks : List Nat) (e : PE) (en : En) (σ : Sg) : evS S (.asgN ks e) en σ = match evE S en e σ with
    | none => none
    | some (v, σ) => match vd v with
      | none => none
      | some x => some (.next, putEach (.d x) ks en, σ) := rfl
theorem ZP (o : PE) (k : Nat) (e : PE) (en : En) (σ : Sg) : evS S (.setF o k e) en σ = match evE S en e σ with
    | none => none
    | some (v, σ) => match vd v with
      | none => none
      | some x => match evE S en o σ with
        | none => none
        | some (u, σ) => match vi u with
          | none => none
          | some j => match oi (sget σ j) with
            | none => none
            | some fs => if fs.length = k then some (.next, en, sput σ j (.i (fs ++ [x]))) else none := rfl
theorem ZQ (o i e : PE) (en : En) (σ : Sg) : evS S (.setI o i e) en σ = match evE S en e σ with
    | none => none
    | some (v, σ) => match vd v with
      | none => none
      | some x => match evE S en o σ with
        | none => none
        | some (u, σ) => match vo u with
          | none => none
          | some j => match evE S en i σ with
            | none => none
            | some (w, σ) => match vd w with
              | none => none
              | some y => match dInt y with
                | none => none
                | some k => match ol (sget σ j) with
                  | none => none
                  | some xs => if 0 ≤ k ∧ k < xs.length ∧ xs.length ≤ lim then some (.next, en, sput σ j (.l (xs.set k.toNat x))) else none := rfl
theorem ZR (o e : PE) (en : En) (σ : Sg) : evS S (.app o e) en σ = match evE S en o σ with
    | none => none
    | some (u, σ) => match vo u with
      | none => none
      | some j => match ol (sget σ j) with
        | none => none
        | some _ => match evE S en e σ with
          | none => none
          | some (v, σ) => match vd v with
            | none => none
            | some x => match ol (sget σ j) with
              | none => none
              | some xs => if xs.length ≤ lim then some (.next, en, sput σ j (.l (xs ++ [x]))) else none := rfl
theorem ZS (o : PE) (en : En) (σ : Sg) : evS S (.pop o) en σ = match evE S en o σ with
    | none => none
    | some (u, σ) => match vo u with
      | none => none
      | some j => match ol (sget σ j) with
        | none => none
        | some xs => if 0 < xs.length ∧ xs.length ≤ lim then some (.next, en, sput σ j (.l xs.dropLast)) else none := rfl
theorem ZT (o : PE) (en : En) (σ : Sg) : evS S (.rvs o) en σ = match evE S en o σ with
    | none => none
    | some (u, σ) => match vo u with
      | none => none
      | some j => match ol (sget σ j) with
        | none => none
        | some xs => if xs.length ≤ lim then some (.next, en, sput σ j (.l xs.reverse)) else none := rfl
theorem ZU (e : PE) (en : En) (σ : Sg) : evS S (.ex e) en σ = match evE S en e σ with
    | none => none
    | some (_, σ) => some (.next, en, σ) := rfl
theorem ZV (c : PE) (t e : PB) (en : En) (σ : Sg) : evS S (.ifs c t e) en σ = match evE S en c σ with
    | none => none
    | some (v, σ) => match truV σ v with
      | none => none
      | some b => match b with
        | true => evBl S t en σ
        | false => evBl S e en σ := rfl
theorem ZW (e : PE) (en : En) (σ : Sg) : evS S (.ret e) en σ = match evE S en e σ with
    | none => none
    | some (v, σ) => match frz σ v with
      | none => none
      | some (v, σ) => some (.ret v, en, σ) := rfl
theorem ZX  (en : En) (σ : Sg) : evS S (.ret0) en σ = some (.ret (.d .none), en, σ) := rfl
theorem ZY  (en : En) (σ : Sg) : evS S (.brk) en σ = some (.brk, en, σ) := rfl
theorem ZZ  (en : En) (σ : Sg) : evS S (.dead) en σ = none := rfl
theorem Ya (x0 : Nat) (en : En) (σ : Sg) : evS S (.defI x0) en σ = some (.next, en, σ) := rfl
theorem Yb  (en : En) (σ : Sg) : evBl S (.nil) en σ = some (.next, en, σ) := rfl
theorem Yc (s : PS) (b : PB) (en : En) (σ : Sg) : evBl S (.cons s b) en σ = match evS S s en σ with
    | none => none
    | some (fl, en, σ) => match fl with
      | .next => evBl S b en σ
      | .brk => some (.brk, en, σ)
      | .ret v => some (.ret v, en, σ) := rfl
end

section
variable (n : Nat) (a v : Option V) (r : En) (o w : O) (σ : Sg) (x : PyData) (f xs ys : List PyData) (j : Nat) (en : En) (i k : Int) (s s' : Str) (b b' : Bool) (vs : List V) (ks : List Nat) (u : V)
theorem Yd : eget (a :: r) 0 = a := rfl
theorem Ye : eget (a :: r) (n + 1) = eget r n := rfl
theorem Yf : eput (a :: r) 0 v = v :: r := rfl
theorem Yg : eput (a :: r) (n + 1) v = a :: eput r n v := rfl
theorem Yh : sget (o :: σ) 0 = o := rfl
theorem Yi : sget (o :: σ) (n + 1) = sget σ n := rfl
theorem Yj : sput (o :: σ) 0 w = w :: σ := rfl
theorem Yk : sput (o :: σ) (n + 1) w = o :: sput σ n w := rfl
theorem Yl : dat σ (.d x) = some x := rfl
theorem Ym : dat σ (.ws f) = none := rfl
theorem Yn : dat σ (.own j) = match sget σ j with | .l xs => some (.list xs) | _ => none := rfl
theorem Yo : frz σ (.d x) = some (.d x, σ) := rfl
theorem Yp : frz σ (.ws f) = some (.ws f, σ) := rfl
theorem Yq : frz σ (.own j) = match sget σ j with | .l xs => some (.d (.list xs), sput σ j .x) | _ => none := rfl
theorem Yr : frzL σ [] = some ([], σ) := rfl
theorem Ys : frzL σ (u :: vs) = (frz σ u).bind fun (v', σ') => (frzL σ' vs).bind fun (r', σ'') => some (v' :: r', σ'') := rfl
theorem Yt : datL [] = some [] := rfl
theorem Yu : datL (.d x :: vs) = (datL vs).map (x :: ·) := rfl
theorem Yv : truV σ u = (dat σ u).bind truD := rfl
theorem Yw : truD (.bool b) = some b := rfl
theorem Yx : truD (.int i) = some (i != 0) := rfl
theorem Yy : truD (.list xs) = if xs.length ≤ lim then some (!xs.isEmpty) else none := rfl
theorem Yz : putAll [] [] en = some en := rfl
theorem YA : putAll (n :: ks) (u :: vs) en = putAll ks vs (eput en n (some u)) := rfl
theorem YB : putEach u [] en = en := rfl
theorem YC : putEach u (n :: ks) en = putEach u ks (eput en n (some u)) := rfl
theorem YD : vd (.d x) = some x := rfl
theorem YE : vw (.ws f) = some f := rfl
theorem YF : vo (.own j) = some j := rfl
theorem YG : vi (.ins j) = some j := rfl
theorem YH : dInt (.int i) = some i := rfl
theorem YI : dStr (.str s) = some s := rfl
theorem YJ : dLst (.list xs) = some xs := rfl
theorem YK : dTup (.tuple xs) = some xs := rfl
theorem YL : ol (.l xs) = some xs := rfl
theorem YM : oi (.i xs) = some xs := rfl
theorem YN : flds σ (.ws f) = some f := rfl
theorem YO : flds σ (.ins j) = oi (sget σ j) := rfl
theorem YP : pur (some (u, [])) = some u := rfl
theorem YQ : partV (.d x) = partOf x := rfl
theorem YR : plE .nil = true := rfl
theorem YS (e : PE) (l : PL) : plE (.cons e l) = false := rfl
theorem YT : flV (.ret u) = some u := rfl
theorem YU : flV .next = some (.d .none) := rfl
end
section
variable (i k : Int) (s s' : Str) (xs ys : List PyData) (x y : PyData) (b b' : Bool)
theorem YV : bopD .add (.int i) (.int k) = some (.int (i + k)) := rfl
theorem YW : bopD .add (.str s) (.str s') = if s.length + s'.length ≤ lim then some (.str (s ++ s')) else none := rfl
theorem YX : bopD .add (.list xs) (.list ys) = if xs.length + ys.length ≤ lim then some (.list (xs ++ ys)) else none := rfl
theorem YY : bopD .sub (.int i) (.int k) = some (.int (i - k)) := rfl
theorem YZ : bopD .mul (.int i) (.int k) = if Builtin.Int.intBits i + Builtin.Int.intBits k ≤ 100000 then some (.int (i * k)) else none := rfl
theorem Ja : bopD .mul (.str s) (.int k) = if 0 ≤ k ∧ k ≤ 1000000 ∧ s.length ≤ 16 then some (.str ⟨(List.replicate k.toNat s.cps.toList).flatten.toArray⟩) else none := rfl
theorem Jb : bopD .mul (.list xs) (.int k) = if 0 ≤ k ∧ k < 2 ^ 62 ∧ xs.length * k.toNat ≤ lim then some (.list (List.replicate k.toNat xs).flatten) else none := rfl
theorem Jc : bopD .fdiv (.int i) (.int k) = if 0 < k ∧ k < 1073741824 then some (.int (i / k)) else none := rfl
theorem Jd : bopD .mod (.int i) (.int k) = if 0 < k then some (.int (i % k)) else none := rfl
theorem Je : cmpD .eq x y = if SeqAt.shaped x && SeqAt.shaped y then some (PyData.eqv x y) else none := rfl
theorem Jf : cmpD .ne x y = if SeqAt.shaped x && SeqAt.shaped y then some (!PyData.eqv x y) else none := rfl
theorem Jg : cmpD .lt (.int i) (.int k) = some (decide (i < k)) := rfl
theorem Jh : cmpD .le (.int i) (.int k) = some (decide (i ≤ k)) := rfl
theorem Ji : cmpD .gt (.int i) (.int k) = some (decide (k < i)) := rfl
theorem Jj : cmpD .ge (.int i) (.int k) = some (decide (k ≤ i)) := rfl
theorem Jk : cmpD .is (.bool b) (.bool b') = some (b == b') := rfl
theorem Jl : cmpD .isn (.bool b) (.bool b') = some (b != b') := rfl
theorem Jm : bltD .len [.list xs] = if xs.length ≤ lim then some (.int xs.length) else none := rfl
theorem Jn : bltD .len [.tuple xs] = if xs.length ≤ lim then some (.int xs.length) else none := rfl
theorem Jo : bltD .len [.str s] = if s.length ≤ lim then some (.int s.length) else none := rfl
theorem Jp : bltD .max [.int i, .int k] = some (.int (maxI i k)) := rfl
theorem Jq : bltD .max [.list xs] = match intsOf xs with
    | some (i :: r) => some (.int (r.foldl maxI i))
    | _ => none := rfl
theorem Jr : bltD .sum [.list xs] = match intsOf xs with
    | some r => some (.int r.sum)
    | none => none := rfl
theorem Js : bltD .divmod [.int i, .int k] = if 0 < k ∧ k.natAbs.log2 < 9000 then some (.tuple [.int (i / k), .int (i % k)]) else none := rfl
theorem Jt : bltD .tuple [.list xs] = if xs.length ≤ lim then some (.tuple xs) else none := rfl
theorem Ju : subD (.list xs) (.int i) = if 0 ≤ i ∧ i < 2 ^ 60 then xs[i.toNat]? else none := rfl
theorem Jv : subD (.tuple xs) (.int i) = if 0 ≤ i ∧ i < 2 ^ 60 then xs[i.toNat]? else none := rfl
theorem Jw : subD (.str s) (.int i) = if 0 ≤ i ∧ i < 2 ^ 60 then (s.cps[i.toNat]?).map fun c => .str ⟨#[c]⟩ else none := rfl
end
section
variable (f : PyData → En → Sg → Option (Fl × En × Sg)) (g : PyData → Option (Option PyData)) (v : PyData) (l : List PyData) (en : En) (σ : Sg)
theorem Jx : loopF f [] en σ = some (.next, en, σ) := rfl
theorem Jy : loopF f (v :: l) en σ = match f v en σ with
    | none => none
    | some (fl, en, σ) => match fl with
      | .next => loopF f l en σ
      | .brk => some (.next, en, σ)
      | .ret v => some (.ret v, en, σ) := rfl
theorem Jz : loopC g [] = some [] := rfl
theorem JA : loopC g (v :: l) = match g v with
    | none => none
    | some o => match o with
      | none => loopC g l
      | some y => (loopC g l).map (y :: ·) := rfl
end
end Mine
end
section
open PySem PySem.W PyProof.Rows PySem.Calls
namespace Mine
theorem evS_for (S : Sem) (en : En) (σ : Sg) (x : Nat) (src : PI) (b : PB) : evS S (.for_ x src b) en σ =
    match evI S en src σ with
    | none => none
    | some (its, σ) => loopF (stepF S x b) its (eput en x none) σ := rfl
theorem evS_whl (S : Sem) (en : En) (σ : Sg) (c : PE) (b : PB) : evS S (.whl c b) en σ = loopW (condW S c) (stepW S b) S.fuel en σ := rfl
theorem evE_lc (S : Sem) (en : En) (σ : Sg) (elt : PE) (x : Nat) (src : PI) (c : PE) (cap : List Nat) : evE S en (.lc elt x src c cap) σ =
    match evI S en src σ with
    | none => none
    | some (its, σ) => match loopC (stepC S.cut (mask cap 0 en) x c elt) its with
      | none => none
      | some ys => if its.length ≤ lim then some (.d (.list ys), σ) else none := rfl

theorem loopC_map {α : Type} {f : PyData → Option (Option PyData)} {g : α → PyData} {h : α → Option PyData} : ∀ (l : List α), (∀ a ∈ l, f (g a) = some (h a)) → loopC f (l.map g) = some (l.filterMap h)
  | [], _ => rfl
  | a :: r, k => by
    have e := k a (.head _)
    have ih := loopC_map r (fun b hb => k b (.tail _ hb))
    simp only [List.map_cons, JA, e, List.filterMap_cons]
    cases h a with
    | none => simpa using ih
    | some y => simp [ih]

noncomputable def nD (n : Nat) : PyData := .int (n : Int)
noncomputable def nI (l : List Nat) : List PyData := l.map nD
theorem nI_len (l : List Nat) : (nI l).length = l.length := List.length_map _
theorem nI_get (l : List Nat) (i : Nat) : (nI l)[i]? = (l[i]?).map nD := by simp [nI]
theorem nI_set (l : List Nat) (i v : Nat) : (nI l).set i (nD v) = nI (l.set i v) := by simp [nI, List.map_set]
theorem nI_app (a b : List Nat) : nI (a ++ b) = nI a ++ nI b := by simp [nI]
theorem intsOf_nI : ∀ l : List Nat, intsOf (nI l) = some (l.map Int.ofNat)
  | [] => rfl
  | a :: r => by
    have := intsOf_nI r
    simp only [nI, List.map_cons] at this ⊢
    simp [nD, intsOf, this]
theorem sum_ofNat : ∀ l : List Nat, (l.map Int.ofNat).sum = (l.sum : Int)
  | [] => rfl
  | a :: r => by
    have := sum_ofNat r
    simp only [List.map_cons, List.sum_cons, this]
    simp
theorem rangeI_nat (a b : Nat) : (rangeI a b).map PyData.int = (List.range (b - a)).map fun k => nD (a + k) := by
  unfold rangeI
  rw [List.map_map]
  have : ((b : Int) - a).toNat = b - a := by lia
  rw [this]
  refine List.map_congr_left fun k _ => ?_
  simp [nD]
theorem shaped_int (i : Int) : SeqAt.shaped (.int i) = true := by rfl
theorem shaped_bool (i : Bool) : SeqAt.shaped (.bool i) = true := by rfl

theorem eqvAll_nI : ∀ a b : List Nat, PyData.eqvAll (nI a) (nI b) = decide (a = b)
  | [], [] => rfl
  | [], _ :: _ => rfl
  | _ :: _, [] => rfl
  | x :: xs, y :: ys => by
    have := eqvAll_nI xs ys
    simp only [nI, List.map_cons] at this ⊢
    simp only [PyData.eqvAll, this, nD, PyData.eqv]
    by_cases h : x = y <;> by_cases h2 : xs = ys <;> simp [h, h2] <;> lia

end Mine
end
section
open PySem PySem.W PyProof.Rows PySem.Calls
namespace Mine
theorem depth_nI : ∀ l : List Nat, PyData.depthAll (nI l) ≤ 1
  | [] => by simp [nI, PyData.depthAll]
  | a :: r => by
    have := depth_nI r
    simp only [nI, List.map_cons] at this ⊢
    simp [PyData.depthAll, nD, PyData.depth]
    lia
theorem lay_nI : ∀ l : List Nat, PyData.canLayAll0 (nI l) = true
  | [] => rfl
  | a :: r => by
    have := lay_nI r
    simp only [nI, List.map_cons] at this ⊢
    simp [PyData.canLayAll0, nD, PyData.canLay0, this]
noncomputable def wsF (x : Str) (n nt : Nat) (c : List Nat) (e : Nat) : List PyData := [.str x, nD n, nD nt, .tuple [.tuple (nI c), nD e], .bool (decide (c.length ≤ 1))]
theorem wsF_0 (x n nt c e) : (wsF x n nt c e)[0]? = some (.str x) := rfl
theorem wsF_1 (x n nt c e) : (wsF x n nt c e)[1]? = some (.int (n : Nat)) := rfl
theorem wsF_2 (x n nt c e) : (wsF x n nt c e)[2]? = some (.int (nt : Nat)) := rfl
theorem wsF_3 (x n nt c e) : (wsF x n nt c e)[3]? = some (.tuple [.tuple (nI c), .int (e : Nat)]) := rfl
theorem wsF_4 (x n nt c e) : (wsF x n nt c e)[4]? = some (.bool (decide (c.length ≤ 1))) := rfl
theorem eqv_norm (c c' : List Nat) (e e' : Nat) : PyData.eqv (.tuple [.tuple (nI c), .int e]) (.tuple [.tuple (nI c'), .int e']) = (decide (c = c') && decide (e = e')) := by
  simp only [PyData.eqv, PyData.eqvAll, eqvAll_nI, Bool.and_true]
  congr 1
  by_cases h : e = e' <;> simp [h] <;> lia
theorem shaped_norm (c : List Nat) (e : Int) : SeqAt.shaped (.tuple [.tuple (nI c), .int e]) = true := by
  have h1 := depth_nI c
  have h2 := lay_nI c
  simp [SeqAt.shaped, PyData.canLay0, PyData.canLayAll0, PyData.depth, PyData.depthAll, h2]
  lia

theorem log2_le (n : Nat) : n.log2 ≤ n := by
  by_cases h : n = 0
  · subst h; simp
  · exact Nat.le_trans (Nat.le_of_lt (Nat.lt_of_lt_of_le Nat.lt_two_pow_self (Nat.log2_self_le h))) (Nat.le_refl _)
theorem intBits_le (n : Nat) : Builtin.Int.intBits (n : Int) ≤ n + 1 := by
  unfold Builtin.Int.intBits
  split
  · lia
  · have := log2_le (n : Int).natAbs
    have e : (n : Int).natAbs = n := rfl
    rw [e] at this ⊢
    lia
theorem mul_nat (a b : Nat) (h : a ≤ 40000) (h' : b ≤ 40000) : bopD .mul (.int a) (.int b) = some (.int ((a * b : Nat) : Int)) := by
  have h1 := intBits_le a
  have h2 := intBits_le b
  simp only [YZ]
  rw [if_pos (by lia)]
  simp
theorem fdiv_nat (a b : Nat) (h : 0 < b) (h' : b ≤ 40000) : bopD .fdiv (.int a) (.int b) = some (.int ((a / b : Nat) : Int)) := by
  simp only [Jc]
  rw [if_pos (by lia)]
  simp
theorem add_nat (a b : Nat) : bopD .add (.int a) (.int b) = some (.int ((a + b : Nat) : Int)) := by
  simp [YV]
theorem add_nat1 (a : Nat) : bopD .add (.int a) (.int 1) = some (.int ((a + 1 : Nat) : Int)) := by
  simp [YV]
theorem sub_list_nat (c : List Nat) (i : Nat) (h : i < c.length) (h' : i ≤ 40000) : subD (.list (nI c)) (.int (i : Int)) = some (.int (c.getD i 0 : Nat)) := by
  simp only [Ju]
  rw [if_pos (by lia)]
  simp [nI, h, nD]
theorem sub_tup_nat (c : List Nat) (i : Nat) (h : i < c.length) (h' : i ≤ 40000) : subD (.tuple (nI c)) (.int (i : Int)) = some (.int (c.getD i 0 : Nat)) := by
  simp only [Jv]
  rw [if_pos (by lia)]
  simp [nI, h, nD]
theorem len_tup (c : List Nat) (h : c.length ≤ lim) : bltD .len [.tuple (nI c)] = some (.int (c.length : Nat)) := by
  simp only [Jn]
  rw [nI_len, if_pos h]
theorem len_list (c : List Nat) (h : c.length ≤ lim) : bltD .len [.list (nI c)] = some (.int (c.length : Nat)) := by
  simp only [Jm]
  rw [nI_len, if_pos h]
theorem max_nat (a b : Nat) : bltD .max [.int (a : Int), .int (b : Int)] = some (.int ((max a b : Nat) : Int)) := by
  simp only [Jp,maxI]
  by_cases h : (b : Int) > a
  · rw [if_pos h, Nat.max_eq_right (by lia)]
  · rw [if_neg h, Nat.max_eq_left (by lia)]

theorem loopF_fold {α β : Type} {f : PyData → En → Sg → Option (Fl × En × Sg)} {g : α → PyData} (st : β → En × Sg) (step : β → α → β) :
    ∀ (l : List α) (b : β), (∀ b a, a ∈ l → f (g a) (st b).1 (st b).2 = some (.next, (st (step b a)).1, (st (step b a)).2)) →
      loopF f (l.map g) (st b).1 (st b).2 = some (.next, (st (l.foldl step b)).1, (st (l.foldl step b)).2)
  | [], b, _ => rfl
  | a :: r, b, h => by
    have e := h b a (.head _)
    simp only [List.map_cons, Jy, e, List.foldl_cons]
    exact loopF_fold st step r _ (fun b a ha => h b a (.tail _ ha))

noncomputable def sumR (f : Nat → Nat) : Nat → Nat
  | 0 => 0
  | n + 1 => sumR f n + f n
theorem foldl_range (f : Nat → Nat) (a : Nat) : ∀ n, (List.range n).foldl (fun s k => s + f k) a = a + sumR f n
  | 0 => rfl
  | n + 1 => by
    rw [List.range_succ, List.foldl_append, foldl_range f a n]
    simp [sumR, Nat.add_assoc]
theorem sumR_shift (f : Nat → Nat) (m : Nat) (h : ∀ k, k < m → f k = 0) : ∀ n, sumR (fun k => f (m + k)) (n - m) = sumR f n
  | 0 => by simp [sumR]
  | n + 1 => by
    have ih := sumR_shift f m h n
    by_cases q : n < m
    · rw [show n + 1 - m = 0 by omega]
      rw [show n - m = 0 by lia] at ih
      simp only [sumR] at ih ⊢
      rw [h n q, ← ih]
    · rw [show n + 1 - m = (n - m) + 1 by lia]
      simp only [sumR]
      rw [ih, show m + (n - m) = n by omega]
theorem sumR_front (f : Nat → Nat) : ∀ n, sumR f (n + 1) = f 0 + sumR (fun k => f (k + 1)) n
  | 0 => by simp [sumR]
  | n + 1 => by
    rw [sumR, sumR_front f n]
    simp [sumR, Nat.add_assoc]
theorem sumR_congr {f g : Nat → Nat} : ∀ n, (∀ k, k < n → f k = g k) → sumR f n = sumR g n
  | 0, _ => rfl
  | n + 1, h => by
    simp only [sumR]
    rw [sumR_congr n (fun k hk => h k (by lia)), h n (by lia)]
theorem sumR_add (f g : Nat → Nat) : ∀ n, sumR (fun k => f k + g k) n = sumR f n + sumR g n
  | 0 => rfl
  | n + 1 => by
    simp only [sumR]
    rw [sumR_add f g n]; lia
noncomputable def dot (w : Nat → Nat) : List Nat → Nat → Nat
  | [], _ => 0
  | a :: r, k => a * w k + dot w r (k + 1)
theorem dot_sumR (w : Nat → Nat) : ∀ (c : List Nat) (k : Nat), dot w c k = sumR (fun i => c.getD i 0 * w (k + i)) c.length
  | [], _ => rfl
  | a :: r, k => by
    rw [dot, dot_sumR w r (k + 1), List.length_cons, sumR_front]
    simp only [List.getD_cons_zero, List.getD_cons_succ, Nat.add_zero]
    congr 1
    exact sumR_congr _ fun i _ => by rw [show k + 1 + i = k + (i + 1) by lia]
theorem dot_one : ∀ (c : List Nat) (k : Nat), dot (fun _ => 1) c k = c.sum
  | [], _ => rfl
  | a :: r, k => by rw [dot, dot_one r, List.sum_cons, Nat.mul_one]
theorem dot_add (w v : Nat → Nat) : ∀ (c : List Nat) (k : Nat), dot (fun i => w i + v i) c k = dot w c k + dot v c k
  | [], _ => rfl
  | a :: r, k => by
    simp only [dot]
    rw [dot_add w v r, Nat.mul_add]; lia
theorem getD_le_sum : ∀ (c : List Nat) (i : Nat), c.getD i 0 ≤ c.sum
  | [], _ => by simp
  | a :: r, 0 => by simp
  | a :: r, i + 1 => by
    have := getD_le_sum r i
    simp only [List.getD_cons_succ, List.sum_cons]; lia
noncomputable def Ind (ts : Nat) (c : List Nat) (e : Nat) : Nat := e + ts * dot (fun i => i / ts + 1) c 0
theorem il_eq (ts : Nat) (c : List Nat) (h : 0 < ts) : (List.range (c.length - ts)).foldl (fun s k => s + (ts + k) / ts * c.getD (ts + k) 0) 0 + c.sum = dot (fun i => i / ts + 1) c 0 := by
  rw [foldl_range (fun k => (ts + k) / ts * c.getD (ts + k) 0)]
  have := sumR_shift (fun i => i / ts * c.getD i 0) ts (fun k hk => by simp [Nat.div_eq_of_lt hk]) c.length
  rw [this, dot_add (fun i => i / ts) (fun _ => 1), dot_one, dot_sumR, Nat.zero_add]
  congr 1
  exact sumR_congr _ fun i _ => by rw [Nat.zero_add, Nat.mul_comm]

theorem dot_le {w : Nat → Nat} {B : Nat} : ∀ (c : List Nat) (k : Nat), (∀ i, i < k + c.length → w i ≤ B) → dot w c k ≤ c.sum * B
  | [], _, _ => by simp [dot]
  | a :: r, k, h => by
    have ih := dot_le r (k + 1) (fun i hi => h i (by rw [List.length_cons]; lia))
    have h0 := Nat.mul_le_mul_left a (h k (by rw [List.length_cons]; lia))
    rw [dot, List.sum_cons, Nat.add_mul]
    exact Nat.add_le_add h0 ih

structure Small (c : List Nat) (e : Nat) : Prop where
  l : c.length ≤ 90
  s : c.sum ≤ 100
  e : e ≤ 90

theorem q_longest (S : Sem) {x : Str} {n nt : Nat} {c : List Nat} {e : Nat} (h : Small c e) :
    runF S ir_longest [.ws (wsF x n nt c e)] = some (.d (.int ((max (c.length - 1) e : Nat) : Int))) := by
  have hl : c.length ≤ lim := Nat.le_trans h.l (by decide)
  have e1 : maxI ((c.length : Int) - 1) e = ((max (c.length - 1) e : Nat) : Int) := by unfold maxI; split <;> lia
  simp only [runF, ir_longest, Za,Ze,Zh,Zp,Zt,ZD,ZE,ZM,ZW,Yb,Yc,Yd,Ye,Yf,Yg,Yl,Yz,YA,YD,YK,YN,Option.bind_some,if_true,pad,List.map_cons,List.map_nil,List.length_cons,List.length_nil,List.replicate,List.cons_append,List.nil_append,List.mapM_cons,List.mapM_nil,Option.pure_def,Option.bind_eq_bind, pad, List.map_cons, List.map_nil, List.length_cons, List.length_nil, List.replicate, List.cons_append, List.nil_append, wsF_3, List.mapM_cons, List.mapM_nil, len_tup c hl, Option.pure_def, Option.bind_eq_bind, if_true]
  simp [Yl,Yo,YT,YY,Jp,e1, Yo, Yl]

theorem q_equal (S : Sem) {x x' : Str} {n nt n' nt' : Nat} {c c' : List Nat} {e e' : Nat} :
    runF S ir_equal [.ws (wsF x n nt c e), .ws (wsF x' n' nt' c' e')] = some (.d (.bool (decide (c = c') && decide (e = e')))) := by
  simp only [runF, ir_equal, Ze,Zj,Zt,ZW,Yb,Yc,Yd,Ye,Yl,YN,if_true,pad,List.map_cons,List.map_nil,List.length_cons,List.length_nil,List.cons_append,List.nil_append,pad, List.map_cons, List.map_nil, List.length_cons, List.length_nil, List.cons_append, List.nil_append, wsF_3]
  simp [Yo,YT,Je,shaped_norm, eqv_norm, Yo]

noncomputable def ilSt (fs : List PyData) (ts : Nat) (c : List Nat) (e : Nat) (il : Nat) : En × Sg := ([some (.ws fs), some (.d (.int ts)), some (.d (.tuple (nI c))), some (.d (.int e)), some (.d (.int il)), none], [])
noncomputable def indB : PB := (.cons (.asg 4 (.bin .add (.var 4) (.bin .mul (.bin .fdiv (.var 5) (.var 1)) (.sub (.var 2) (.var 5))))) .nil)
theorem ind_body (S : Sem) {fs : V} {ts i q cc il m r : Int} {c e : PyData} (a1 : bopD .fdiv (.int i) (.int ts) = some (.int q)) (a2 : subD c (.int i) = some (.int cc)) (a3 : bopD .mul (.int q) (.int cc) = some (.int m)) (a4 : bopD .add (.int il) (.int m) = some (.int r)) :
    stepF S 5 indB (.int i) [some fs, some (.d (.int ts)), some (.d c), some (.d e), some (.d (.int il)), none] [] = some (.next, [some fs, some (.d (.int ts)), some (.d c), some (.d e), some (.d (.int r)), none], []) := by
  simp only [indB, stepF, Ze,Zh,Zu,ZL,Yb,Yc,Yd,Ye,Yf,Yg,Yl,a1, a2, a3, a4]
theorem q_indent (S : Sem) {x : Str} {n : Nat} {c : List Nat} {e ts : Nat} (h : Small c e) (h0 : 0 < ts) (h1 : ts ≤ 100) :
    runF S ir_indent [.ws (wsF x n c.sum c e), .d (.int (ts : Int))] = some (.d (.int (Ind ts c e : Nat))) := by
  have hl : c.length ≤ lim := Nat.le_trans h.l (by decide)
  have hl' : c.length ≤ 90 := h.l
  simp only [runF, ir_indent, Za,Ze,Zh,Zp,Zt,ZD,ZE,ZI,ZL,ZM,ZW,Yb,Yc,Yd,Ye,Yf,Yg,Yl,Yz,YA,YD,YH,YK,YN,evS_for,Option.bind_some,if_true,pad,List.map_cons,List.map_nil,List.length_cons,List.length_nil,List.replicate,List.cons_append,List.nil_append,List.mapM_cons,List.mapM_nil,Option.pure_def,Option.bind_eq_bind, pad, List.map_cons, List.map_nil, List.length_cons, List.length_nil, List.replicate, List.cons_append, List.nil_append, wsF_3, List.mapM_cons, List.mapM_nil, len_tup c hl, Option.pure_def, Option.bind_eq_bind, if_true]
  rw [if_pos (by lia)]
  simp only [rangeI_nat]
  have L := fun b hb => loopF_fold (f := stepF S 5 b) (g := fun k => nD (ts + k)) (ilSt (wsF x n c.sum c e) ts c e) (fun il k => il + (ts + k) / ts * c.getD (ts + k) 0) (List.range (c.length - ts)) 0 hb
  have e0 : ((0 : Nat) : Int) = 0 := rfl
  simp only [ilSt, e0] at L
  rw [L]
  · have e2 := il_eq ts c h0
    generalize (List.range (c.length - ts)).foldl (fun s k => s + (ts + k) / ts * c.getD (ts + k) 0) 0 = il at *
    have hb : il + c.sum ≤ 40000 := by
      rw [e2]
      refine Nat.le_trans (dot_le (B := 101) c 0 fun i hi => ?_) (Nat.le_trans (Nat.mul_le_mul_right 101 h.s) (by decide))
      have := Nat.div_le_self i ts
      lia
    simp only [Yd,Ye,Yl,Yo,YN,YT,wsF_2, add_nat, mul_nat ts _ (by lia : ts ≤ 40000) hb]
    simp [e2, Ind]
  · intro il k hk
    have hk : k < c.length - ts := by simpa using hk
    have h3 := getD_le_sum c (ts + k)
    have h4 := h.s
    have h5 : (ts + k) / ts ≤ 40000 := Nat.le_trans (Nat.div_le_self _ _) (by omega)
    exact ind_body S (fdiv_nat (ts + k) ts h0 (by lia : ts ≤ 40000)) (sub_tup_nat c (ts + k) (by omega) (by omega)) (mul_nat ((ts + k) / ts) (c.getD (ts + k) 0) h5 (by lia : c.getD (ts + k) 0 ≤ 40000)) (add_nat _ _)

theorem loopF_find {α : Type} {f : PyData → En → Sg → Option (Fl × En × Sg)} {g : α → PyData} {en : En} {σ : Sg} {v : V} {p : α → Bool} :
    ∀ l : List α, (∀ a ∈ l, f (g a) en σ = if p a then some (.next, en, σ) else some (.ret v, en, σ)) →
      loopF f (l.map g) en σ = if l.all p then some (.next, en, σ) else some (.ret v, en, σ)
  | [], _ => rfl
  | a :: r, h => by
    have e := h a (.head _)
    have ih := loopF_find r (fun b hb => h b (.tail _ hb))
    simp only [List.map_cons, Jy, e, List.all_cons]
    by_cases hp : p a = true
    · simp [hp, ih]
    · simp [hp]
theorem loopF_app {α : Type} {f : PyData → En → Sg → Option (Fl × En × Sg)} {g : α → PyData} (st : List PyData → En × Sg) (p : α → Option PyData) :
    ∀ (l : List α) (xs : List PyData), xs.length + l.length ≤ lim →
      (∀ xs a, a ∈ l → xs.length ≤ lim → f (g a) (st xs).1 (st xs).2 = some (.next, (st (xs ++ (p a).toList)).1, (st (xs ++ (p a).toList)).2)) →
      loopF f (l.map g) (st xs).1 (st xs).2 = some (.next, (st (xs ++ l.filterMap p)).1, (st (xs ++ l.filterMap p)).2)
  | [], xs, _, _ => by simp [Jx]
  | a :: r, xs, hn, h => by
    rw [List.length_cons] at hn
    have e := h xs a (.head _) (by lia)
    have hl : (p a).toList.length ≤ 1 := by cases p a <;> simp
    have ih := loopF_app st p r (xs ++ (p a).toList) (by rw [List.length_append]; lia) (fun xs b hb => h xs b (.tail _ hb))
    simp only [List.map_cons, Jy, e, ih, List.filterMap_cons]
    cases p a <;> simp

structure SW (S : Sem) : Prop where
  hi : ∀ (x : Str) (n : Nat) (c : List Nat) (e ts : Nat), Small c e → 0 < ts → ts ≤ 100 → S.Φ .indent [.ws (wsF x n c.sum c e), .d (.int (ts : Int))] = some (.d (.int (Ind ts c e : Nat)))
  hl : ∀ (x : Str) (n nt : Nat) (c : List Nat) (e : Nat), Small c e → S.Φ .longest [.ws (wsF x n nt c e)] = some (.d (.int ((max (c.length - 1) e : Nat) : Int)))
noncomputable def lng (c : List Nat) (e : Nat) (c' : List Nat) (e' : Nat) : Nat := max (max (c.length - 1) e) (max (c'.length - 1) e') + 1
theorem lng_le {c c' : List Nat} {e e' : Nat} (h : Small c e) (h' : Small c' e') : lng c e c' e' ≤ 91 := by
  have := h.l; have := h.e; have := h'.l; have := h'.e
  unfold lng; lia
noncomputable def row3 (a b c : Nat) : PyData := .tuple [nD a, nD b, nD c]
noncomputable def nlwB : PB := (.cons (.ifs (.cmp .ge (.cM .indent (.var 0) (.cons (.var 4) .nil)) (.cM .indent (.var 1) (.cons (.var 4) .nil))) (.cons (.app (.var 3) (.tp (.cons (.var 4) (.cons (.cM .indent (.var 0) (.cons (.var 4) .nil)) (.cons (.cM .indent (.var 1) (.cons (.var 4) .nil)) .nil)))))
      .nil) .nil)
      .nil)
noncomputable def newB : PB := (.cons (.ifs (.cmp .ne (.cM .indent (.var 0) (.cons (.var 4) .nil)) (.cM .indent (.var 1) (.cons (.var 4) .nil))) (.cons (.app (.var 3) (.tp (.cons (.var 4) (.cons (.cM .indent (.var 0) (.cons (.var 4) .nil)) (.cons (.cM .indent (.var 1) (.cons (.var 4) .nil)) .nil)))))
      .nil) .nil)
      .nil)
noncomputable def lessB : PB := (.cons (.ifs (.cmp .ge (.cM .indent (.var 0) (.cons (.var 3) .nil)) (.cM .indent (.var 1) (.cons (.var 3) .nil))) (.cons (.ret (.tt false))
      .nil) .nil)
      .nil)
theorem cmp_ge (a b : Nat) : cmpD .ge (.int (a : Int)) (.int (b : Int)) = some (decide (b ≤ a)) := by simp [Jj]
theorem cmp_ne (a b : Nat) : cmpD .ne (.int (a : Int)) (.int (b : Int)) = some (decide (a ≠ b)) := by
  simp only [Jf,shaped_int, Bool.and_self, if_true, PyData.eqv]
  by_cases h : a = b <;> simp [h] <;> lia
theorem nlw_body (S : Sem) {f f' : List PyData} {ts a b : Nat} {n : V} (xs : List PyData) (hx : xs.length ≤ lim) (h : S.Φ .indent [.ws f, .d (.int ts)] = some (.d (.int (a : Int)))) (h' : S.Φ .indent [.ws f', .d (.int ts)] = some (.d (.int (b : Int)))) :
    stepF S 4 nlwB (.int ts) [some (.ws f), some (.ws f'), some n, some (.own 0), none] [.l xs] = some (.next, [some (.ws f), some (.ws f'), some n, some (.own 0), none], [.l (xs ++ (if b ≤ a then some (row3 ts a b) else none).toList)]) := by
  simp only [nlwB, stepF, Ze,Zj,Zq,Zy,ZD,ZE,ZR,ZV,Yb,Yc,Yd,Ye,Yf,Yg,Yh,Yl,Yo,Yr,Ys,Yt,Yu,Yv,Yw,YE,YF,YL,Option.bind_some,h, h', cmp_ge]
  by_cases q : b ≤ a
  · have hx' : xs.length ≤ 100000 := hx
    simp [Yf,Yg,Yh,Yj,YD,YL,q, hx', row3, nD, lim, Yh, Yj, Yf, Yg]
  · simp [Yf,Yg,q, Yf, Yg]
theorem new_body (S : Sem) {f f' : List PyData} {ts a b : Nat} {n : V} (xs : List PyData) (hx : xs.length ≤ lim) (h : S.Φ .indent [.ws f, .d (.int ts)] = some (.d (.int (a : Int)))) (h' : S.Φ .indent [.ws f', .d (.int ts)] = some (.d (.int (b : Int)))) :
    stepF S 4 newB (.int ts) [some (.ws f), some (.ws f'), some n, some (.own 0), none] [.l xs] = some (.next, [some (.ws f), some (.ws f'), some n, some (.own 0), none], [.l (xs ++ (if a ≠ b then some (row3 ts a b) else none).toList)]) := by
  simp only [newB, stepF, Ze,Zj,Zq,Zy,ZD,ZE,ZR,ZV,Yb,Yc,Yd,Ye,Yf,Yg,Yh,Yl,Yo,Yr,Ys,Yt,Yu,Yv,Yw,YE,YF,YL,Option.bind_some,h, h', cmp_ne]
  by_cases q : a = b
  · simp [Yf,Yg,q, Yf, Yg]
  · have hx' : xs.length ≤ 100000 := hx
    simp [Yf,Yg,Yh,Yj,YD,YL,q, hx', row3, nD, lim, Yh, Yj, Yf, Yg]
theorem less_body (S : Sem) {f f' : List PyData} {ts a b : Nat} {n : V} {σ : Sg} (h : S.Φ .indent [.ws f, .d (.int ts)] = some (.d (.int (a : Int)))) (h' : S.Φ .indent [.ws f', .d (.int ts)] = some (.d (.int (b : Int)))) :
    stepF S 3 lessB (.int ts) [some (.ws f), some (.ws f'), some n, none] σ = if decide (a < b) then some (.next, [some (.ws f), some (.ws f'), some n, none], σ) else some (.ret (.d (.bool false)), [some (.ws f), some (.ws f'), some n, none], σ) := by
  simp only [lessB, stepF, Zc,Ze,Zj,Zq,ZD,ZE,ZV,ZW,Yb,Yc,Yd,Ye,Yf,Yg,Yl,Yo,Yr,Ys,Yv,Yw,YE,Option.bind_some,h, h', cmp_ge]
  by_cases q : b ≤ a
  · simp [Yf,Yg,q, Yf, Yg, Nat.not_lt.mpr q]
  · simp [Yf,Yg,q, Yf, Yg, Nat.lt_of_not_le q]
end Mine
end
section
open PySem PySem.W PyProof.Rows PySem.Calls
namespace Mine
noncomputable def nlwL (c : List Nat) (e : Nat) (c' : List Nat) (e' : Nat) : List PyData :=
  (List.range (lng c e c' e')).filterMap fun k => if Ind (1 + k) c' e' ≤ Ind (1 + k) c e then some (row3 (1 + k) (Ind (1 + k) c e) (Ind (1 + k) c' e')) else none
noncomputable def newL (c : List Nat) (e : Nat) (c' : List Nat) (e' : Nat) : List PyData :=
  (List.range (lng c e c' e')).filterMap fun k => if Ind (1 + k) c e ≠ Ind (1 + k) c' e' then some (row3 (1 + k) (Ind (1 + k) c e) (Ind (1 + k) c' e')) else none
noncomputable def lessV (n : Nat) (c : List Nat) (e : Nat) (n' : Nat) (c' : List Nat) (e' : Nat) : Bool :=
  if n' ≤ n then false else if c.length ≤ 1 ∧ c'.length ≤ 1 then decide (c.sum ≤ c'.sum) else
    (List.range (lng c e c' e' + 1 - 2)).all fun k => decide (Ind (2 + k) c e < Ind (2 + k) c' e')
theorem guard_rng (a b : Nat) (h : a ≤ 1000) (h' : b ≤ 1000) : -100000 < (a : Int) ∧ (b : Int) < 100000 ∧ (a : Int) < 2 ^ 62 ∧ -(2 ^ 62) < (b : Int) := by lia
noncomputable def lessR : PB := (.cons (.asg 2 (.bin .add (.cB .max (.cons (.cM .longest (.var 0) .nil) (.cons (.cM .longest (.var 1) .nil) .nil))) (.int 1)))
      (.cons (.for_ 3 (.rng2 (.int 2) (.bin .add (.var 2) (.int 1))) lessB)
      (.cons (.ret (.tt true))
      .nil)))
noncomputable def lessH : PB := (.cons (.ifs (.cmp .ge (.fld (.var 0) 1) (.fld (.var 1) 1)) (.cons (.ret (.tt false))
      .nil) .nil)
      (.cons (.ifs (.bop true (.cons (.fld (.var 0) 4) (.cons (.fld (.var 1) 4) .nil))) (.cons (.ret (.cmp .le (.fld (.var 0) 2) (.fld (.var 1) 2)))
      .nil) .nil)
      lessR))
section
variable (S : Sem) (H : SW S) {x x' : Str} {n n' : Nat} {c c' : List Nat} {e e' : Nat} (h : Small c e) (h' : Small c' e')
include H h h'
theorem q_nlW : runF S ir_nlW [.ws (wsF x n c.sum c e), .ws (wsF x' n' c'.sum c' e')] = some (.d (.list (nlwL c e c' e'))) := by
  have hl := lng_le h h'
  have e0 : ((max (max (c.length - 1) e) (max (c'.length - 1) e') : Nat) + 1 : Nat) = lng c e c' e' := rfl
  simp only [runF, ir_nlW, Za,Ze,Zh,Zp,Zq,Zx,ZD,ZE,ZI,ZL,ZW,Yb,Yc,Yd,Ye,Yf,Yg,Yl,Yr,Yt,YD,YE,YH,evS_for,Option.bind_some,Nat.zero_le,if_true,pad,List.map_cons,List.map_nil,List.length_cons,List.length_nil,List.replicate,List.cons_append,List.nil_append,List.mapM_cons,List.mapM_nil,Option.pure_def,Option.bind_eq_bind, pad, List.map_cons, List.map_nil, List.length_cons, List.length_nil, List.replicate, List.cons_append, List.nil_append, H.hl _ _ _ _ _ h, H.hl _ _ _ _ _ h', List.mapM_cons, List.mapM_nil, Option.pure_def, Option.bind_eq_bind, max_nat, add_nat1, e0, if_true]
  have g := guard_rng 1 (lng c e c' e' + 1) (by lia) (by lia)
  have i1 : ((1 : Nat) : Int) = 1 := rfl
  rw [i1] at g
  rw [if_pos g]
  have r1 := rangeI_nat 1 (lng c e c' e' + 1)
  rw [i1, show lng c e c' e' + 1 - 1 = lng c e c' e' from rfl] at r1
  simp only [r1]
  have L := loopF_app (f := stepF S 4 nlwB) (g := fun k => nD (1 + k)) (fun xs => ([some (.ws (wsF x n c.sum c e)), some (.ws (wsF x' n' c'.sum c' e')), some (.d (.int (lng c e c' e' : Nat))), some (.own 0), none], [.l xs]))
    (fun k => if Ind (1 + k) c' e' ≤ Ind (1 + k) c e then some (row3 (1 + k) (Ind (1 + k) c e) (Ind (1 + k) c' e')) else none) (List.range (lng c e c' e')) []
    (by rw [List.length_range]; exact Nat.le_trans (Nat.add_le_add_left hl 0) (by decide))
    (fun xs k hk hx => nlw_body S xs hx (H.hi _ _ _ _ _ h (by lia) (by have := List.mem_range.mp hk; lia)) (H.hi _ _ _ _ _ h' (by lia) (by have := List.mem_range.mp hk; lia)))
  simp only [List.nil_append] at L
  unfold nlwB at L
  simp only [L, Yd,Ye,Yh,Yj,Yq,YT]
  simp [nlwL]

theorem q_neW : runF S ir_neW [.ws (wsF x n c.sum c e), .ws (wsF x' n' c'.sum c' e')] = some (.d (.list (newL c e c' e'))) := by
  have hl := lng_le h h'
  have e0 : ((max (max (c.length - 1) e) (max (c'.length - 1) e') : Nat) + 1 : Nat) = lng c e c' e' := rfl
  simp only [runF, ir_neW, Za,Ze,Zh,Zp,Zq,Zx,ZD,ZE,ZI,ZL,ZW,Yb,Yc,Yd,Ye,Yf,Yg,Yl,Yr,Yt,YD,YE,YH,evS_for,Option.bind_some,Nat.zero_le,if_true,pad,List.map_cons,List.map_nil,List.length_cons,List.length_nil,List.replicate,List.cons_append,List.nil_append,List.mapM_cons,List.mapM_nil,Option.pure_def,Option.bind_eq_bind, H.hl _ _ _ _ _ h, H.hl _ _ _ _ _ h', max_nat, add_nat1, e0]
  have g := guard_rng 1 (lng c e c' e' + 1) (by lia) (by lia)
  have i1 : ((1 : Nat) : Int) = 1 := rfl
  rw [i1] at g
  rw [if_pos g]
  have r1 := rangeI_nat 1 (lng c e c' e' + 1)
  rw [i1, show lng c e c' e' + 1 - 1 = lng c e c' e' from rfl] at r1
  simp only [r1]
  have L := loopF_app (f := stepF S 4 newB) (g := fun k => nD (1 + k)) (fun xs => ([some (.ws (wsF x n c.sum c e)), some (.ws (wsF x' n' c'.sum c' e')), some (.d (.int (lng c e c' e' : Nat))), some (.own 0), none], [.l xs]))
    (fun k => if Ind (1 + k) c e ≠ Ind (1 + k) c' e' then some (row3 (1 + k) (Ind (1 + k) c e) (Ind (1 + k) c' e')) else none) (List.range (lng c e c' e')) []
    (by rw [List.length_range]; exact Nat.le_trans (Nat.add_le_add_left hl 0) (by decide))
    (fun xs k hk hx => new_body S xs hx (H.hi _ _ _ _ _ h (by lia) (by have := List.mem_range.mp hk; lia)) (H.hi _ _ _ _ _ h' (by lia) (by have := List.mem_range.mp hk; lia)))
  simp only [List.nil_append] at L
  unfold newB at L
  simp only [L, Yd,Ye,Yh,Yj,Yq,YT]
  simp [newL]

theorem q_lessR : evBl S lessR [some (.ws (wsF x n c.sum c e)), some (.ws (wsF x' n' c'.sum c' e')), none, none] [] =
    some (.ret (.d (.bool ((List.range (lng c e c' e' + 1 - 2)).all fun k => decide (Ind (2 + k) c e < Ind (2 + k) c' e')))), [some (.ws (wsF x n c.sum c e)), some (.ws (wsF x' n' c'.sum c' e')), some (.d (.int (lng c e c' e' : Nat))), none], []) := by
  have hl := lng_le h h'
  have e0 : ((max (max (c.length - 1) e) (max (c'.length - 1) e') : Nat) + 1 : Nat) = lng c e c' e' := rfl
  simp only [lessR, Za,Zc,Ze,Zh,Zp,Zq,ZD,ZE,ZI,ZL,ZW,Yc,Yd,Ye,Yf,Yg,Yl,Yo,Yr,YD,YE,YH,evS_for,Option.bind_some,List.mapM_cons,List.mapM_nil,Option.pure_def,Option.bind_eq_bind, H.hl _ _ _ _ _ h, H.hl _ _ _ _ _ h', max_nat, add_nat1, e0]
  have g := guard_rng 2 (lng c e c' e' + 1) (by lia) (by lia)
  have i1 : ((2 : Nat) : Int) = 2 := rfl
  rw [i1] at g
  rw [if_pos g]
  have r1 := rangeI_nat 2 (lng c e c' e' + 1)
  rw [i1] at r1
  simp only [r1]
  have L := loopF_find (f := stepF S 3 lessB) (g := fun k => nD (2 + k)) (en := [some (.ws (wsF x n c.sum c e)), some (.ws (wsF x' n' c'.sum c' e')), some (.d (.int (lng c e c' e' : Nat))), none]) (σ := []) (v := .d (.bool false))
    (p := fun k => decide (Ind (2 + k) c e < Ind (2 + k) c' e')) (List.range (lng c e c' e' + 1 - 2))
    (fun k hk => less_body S (H.hi _ _ _ _ _ h (by lia) (by have := List.mem_range.mp hk; lia)) (H.hi _ _ _ _ _ h' (by lia) (by have := List.mem_range.mp hk; lia)))
  simp only [L]
  generalize (List.range (lng c e c' e' + 1 - 2)).all (fun k => decide (Ind (2 + k) c e < Ind (2 + k) c' e')) = bb
  cases bb
  · simp
  · simp
theorem q_less : runF S ir_less [.ws (wsF x n c.sum c e), .ws (wsF x' n' c'.sum c' e')] = some (.d (.bool (lessV n c e n' c' e'))) := by
  have c1 : cmpD .le (.int (c.sum : Nat)) (.int (c'.sum : Nat)) = some (decide (c.sum ≤ c'.sum)) := by simp [Jh]
  have b1 : (true == true) = true := rfl
  have b2 : (false == true) = false := rfl
  have i1 : ir_less.body = lessH := rfl
  have i2 : ir_less.np = 2 := rfl
  have i3 : ir_less.names.length = 4 := rfl
  have R := q_lessR S H (x := x) (x' := x') (n := n) (n' := n') h h'
  unfold lessV
  by_cases q : n' ≤ n
  · simp only [runF, i1, i2, i3, lessH, Zc,Ze,Zj,Zk,Zt,ZG,ZV,ZW,Yb,Yc,Yd,Ye,Yl,Yo,Yv,Yw,YN,YR,YS,Option.bind_some,if_true,pad,List.map_cons,List.map_nil,List.length_cons,List.length_nil,List.replicate,List.cons_append,List.nil_append,wsF_1, cmp_ge]
    simp [YT,q, YT]
  · by_cases q1 : c.length ≤ 1
    · by_cases q2 : c'.length ≤ 1
      · simp only [runF, YT, i1, i2, i3, lessH, Ze,Zj,Zk,Zt,ZG,ZV,ZW,Yb,Yc,Yd,Ye,Yl,Yo,Yv,Yw,YN,YR,YS,YT,Option.bind_some,if_true,pad,List.map_cons,List.map_nil,List.length_cons,List.length_nil,List.replicate,List.cons_append,List.nil_append,wsF_1, wsF_4, wsF_2, cmp_ge, q, q1, q2, decide_true, decide_false, b1, c1, and_self, if_false]
      · simp only [runF, YT, i1, i2, i3, lessH, Ze,Zj,Zk,Zt,ZG,ZV,Yb,Yc,Yd,Ye,Yl,Yv,Yw,YN,YR,YS,YT,Option.bind_some,if_true,pad,List.map_cons,List.map_nil,List.length_cons,List.length_nil,List.replicate,List.cons_append,List.nil_append,wsF_1, wsF_4, cmp_ge, q, q1, q2, decide_true, decide_false, b1, and_false, if_false, R]
    · simp only [runF, YT, i1, i2, i3, lessH, Ze,Zj,Zk,Zt,ZG,ZV,Yb,Yc,Yd,Ye,Yl,Yv,Yw,YN,YR,YS,YT,Option.bind_some,if_true,pad,List.map_cons,List.map_nil,List.length_cons,List.length_nil,List.replicate,List.cons_append,List.nil_append,wsF_1, wsF_4, cmp_ge, q, q1, decide_false, b2, false_and, if_false, Bool.false_eq_true, R]
end
end Mine
end
section
open PySem PySem.W PyProof.Rows PySem.Calls
namespace Mine
noncomputable def chD (c : Nat) : PyData := .str ⟨#[c]⟩
noncomputable def initB : PB := (.cons (.ifs (.cmp .eq (.var 8) (.var 2)) (.cons (.asg 6 (.bin .add (.var 6) (.int 1)))
      (.cons (.asg 5 (.bin .add (.var 5) (.int 1)))
      .nil)) (.cons (.ifs (.cmp .eq (.var 8) (.var 3)) (.cons (.asg 6 (.bin .add (.var 6) (.int 1)))
      (.cons (.asg 7 (.bin .add (.var 7) (.int 1)))
      (.cons (.ifs (.cmp .ge (.var 5) (.cB .len (.cons (.var 4) .nil))) (.cons (.asg 4 (.binO .add (.var 4) (.bin .mul (.ls (.cons (.int 0) .nil)) (.bin .add (.bin .sub (.var 5) (.cB .len (.cons (.var 4) .nil))) (.int 1)))))
      .nil) .nil)
      (.cons (.setI (.var 4) (.var 5) (.bin .add (.sub (.var 4) (.var 5)) (.int 1)))
      (.cons (.asg 5 (.int 0))
      .nil))))) (.cons .brk
      .nil))
      .nil))
      .nil)
noncomputable def spD : Str := Str.ofString " "
noncomputable def tbZ : Str := Str.ofString "\t"
theorem cmp_ch (a b : Nat) (x : Str) (hx : x = ⟨#[b]⟩) (ha : a < 128) (hb : b < 128) : cmpD .eq (chD a) (.str x) = some (decide (a = b)) := by
  subst hx
  have h1 : ∀ a : Nat, a < 128 → SeqAt.shaped (chD a) = true := by
    intro a ha
    have : ∀ a : Fin 128, SeqAt.shaped (chD a.1) = true := by decide +kernel
    exact this ⟨a, ha⟩
  have h2 := h1 a ha
  have h3 := h1 b hb
  unfold chD at h2 h3 ⊢
  simp only [Je,h2, h3, Bool.and_self, if_true, PyData.eqv]
  by_cases q : a = b <;> simp [q]
theorem spD_eq : spD = ⟨#[32]⟩ := by decide +kernel
theorem tbZ_eq : tbZ = ⟨#[9]⟩ := by decide +kernel
noncomputable def bump (c : List Nat) (b : Nat) : List Nat := (c ++ List.replicate (b + 1 - c.length) 0).set b ((c ++ List.replicate (b + 1 - c.length) 0).getD b 0 + 1)
noncomputable def inE (x : PyData) (j : Nat) (b n nt : Nat) : En := [some (.ins 0), some (.d x), some (.d (.str spD)), some (.d (.str tbZ)), some (.own j), some (.d (.int b)), some (.d (.int n)), some (.d (.int nt)), none]
section
variable (S : Sem) {x : PyData} {j b n nt : Nat} {σ : Sg}
theorem i_sp : stepF S 8 initB (chD 32) (inE x j b n nt) σ = some (.next, inE x j (b + 1) (n + 1) nt, σ) := by
  simp only [stepF, initB, inE, Za,Ze,Zh,Zj,ZL,ZV,Yb,Yc,Yd,Ye,Yf,Yg,Yl,Yv,Yw,Option.bind_some,cmp_ch 32 32 spD spD_eq (by decide) (by decide), decide_true, add_nat1]
theorem i_no {a : Nat} (h : a < 128) (h1 : a ≠ 32) (h2 : a ≠ 9) : stepF S 8 initB (chD a) (inE x j b n nt) σ = some (.brk, inE x j b n nt, σ) := by
  simp only [stepF, initB, inE, Ze,Zj,ZV,ZY,Yc,Yd,Ye,Yf,Yg,Yl,Yv,Yw,Option.bind_some,cmp_ch a 32 spD spD_eq h (by decide), cmp_ch a 9 tbZ tbZ_eq h (by decide), h1, h2, decide_false]
theorem replD (k : Nat) : (List.replicate k [PyData.int 0]).flatten = nI (List.replicate k 0) := by
  induction k with
  | zero => rfl
  | succ k ih => rw [List.replicate_succ, List.flatten_cons, ih, List.replicate_succ]; rfl
theorem mul_zero_list (k : Nat) (h : k ≤ 10000) : bopD .mul (.list [PyData.int 0]) (.int (k : Int)) = some (.list (nI (List.replicate k 0))) := by
  simp only [Jb]
  rw [if_pos ⟨by lia, by lia, by simp; exact Nat.le_trans h (by decide)⟩]
  rw [Int.toNat_natCast, replD]
theorem i_tabA {σ : Sg} {j : Nat} {x : PyData} {b n nt n1 nt1 l cb cb1 : Int} {xs : List PyData} (hs : sget σ j = .l xs) (l1 : bltD .len [.list xs] = some (.int l)) (h1 : cmpD .ge (.int b) (.int l) = some false)
    (v1 : bopD .add (.int n) (.int 1) = some (.int n1)) (v2 : bopD .add (.int nt) (.int 1) = some (.int nt1)) (u1 : subD (.list xs) (.int b) = some (.int cb)) (u2 : bopD .add (.int cb) (.int 1) = some (.int cb1))
    (g : 0 ≤ b ∧ b < (xs.length : Nat) ∧ xs.length ≤ lim) :
    stepF S 8 initB (chD 9) [some (.ins 0), some (.d x), some (.d (.str spD)), some (.d (.str tbZ)), some (.own j), some (.d (.int b)), some (.d (.int n)), some (.d (.int nt)), none] σ =
      some (.next, [some (.ins 0), some (.d x), some (.d (.str spD)), some (.d (.str tbZ)), some (.own j), some (.d (.int 0)), some (.d (.int n1)), some (.d (.int nt1)), none], sput σ j (.l (xs.set b.toNat (.int cb1)))) := by
  have e9 : cmpD .eq (chD 9) (.str spD) = some false := cmp_ch 9 32 spD spD_eq (by decide) (by decide)
  have e9' : cmpD .eq (chD 9) (.str tbZ) = some true := cmp_ch 9 9 tbZ tbZ_eq (by decide) (by decide)
  simp only [stepF, initB, Za,Ze,Zh,Zj,Zp,Zu,ZD,ZE,ZL,ZQ,ZV,Yb,Yc,Yd,Ye,Yf,Yg,Yl,Yn,Yv,Yw,YD,YF,YH,YL,Option.bind_some,if_true,List.mapM_cons,List.mapM_nil,Option.pure_def,Option.bind_eq_bind, e9, e9', hs, l1, h1, v1, v2, u1, u2, g, and_self]
theorem i_tabB {σ : Sg} {j : Nat} {x : PyData} {b n nt n1 nt1 l bl k cb cb1 : Int} {xs zs ys : List PyData} (hs : sget σ j = .l xs) (l1 : bltD .len [.list xs] = some (.int l)) (h1 : cmpD .ge (.int b) (.int l) = some true)
    (v1 : bopD .add (.int n) (.int 1) = some (.int n1)) (v2 : bopD .add (.int nt) (.int 1) = some (.int nt1)) (w1 : bopD .sub (.int b) (.int l) = some (.int bl)) (w2 : bopD .add (.int bl) (.int 1) = some (.int k)) (w3 : bopD .mul (.list [.int 0]) (.int k) = some (.list zs))
    (w4 : bopD .add (.list xs) (.list zs) = some (.list ys)) (u1 : subD (.list ys) (.int b) = some (.int cb)) (u2 : bopD .add (.int cb) (.int 1) = some (.int cb1))
    (g : 0 ≤ b ∧ b < (ys.length : Nat) ∧ ys.length ≤ lim) :
    stepF S 8 initB (chD 9) [some (.ins 0), some (.d x), some (.d (.str spD)), some (.d (.str tbZ)), some (.own j), some (.d (.int b)), some (.d (.int n)), some (.d (.int nt)), none] σ =
      some (.next, [some (.ins 0), some (.d x), some (.d (.str spD)), some (.d (.str tbZ)), some (.own σ.length), some (.d (.int 0)), some (.d (.int n1)), some (.d (.int nt1)), none], sput (σ ++ [.l ys]) σ.length (.l (ys.set b.toNat (.int cb1)))) := by
  have e9 : cmpD .eq (chD 9) (.str spD) = some false := cmp_ch 9 32 spD spD_eq (by decide) (by decide)
  have e9' : cmpD .eq (chD 9) (.str tbZ) = some true := cmp_ch 9 9 tbZ tbZ_eq (by decide) (by decide)
  have d1 : (0 + 1 : Nat) ≤ lim := by decide
  simp only [stepF, initB, Za,Ze,Zh,Zi,Zj,Zp,Zu,Zw,ZD,ZE,ZL,ZQ,ZV,Yb,Yc,Yd,Ye,Yf,Yg,Yl,Yn,Yo,Yr,Ys,Yt,Yu,Yv,Yw,YD,YF,YH,YJ,YL,Option.bind_some,if_true,List.length_cons,List.length_nil,List.mapM_cons,List.mapM_nil,Option.pure_def,Option.bind_eq_bind, e9, e9', hs, l1, h1, v1, v2, w1, w2, w3, w4, Yt, Yu, Option.map_some, d1, sget_app_eq, u1, u2, g, and_self]
theorem i_tab {c : List Nat} (hs : sget σ j = .l (nI c)) (hj : j ≠ 0) (hc : c.length ≤ 1000) (hb : b ≤ 1000) :
    ∃ σ' j', stepF S 8 initB (chD 9) (inE x j b n nt) σ = some (.next, inE x j' 0 (n + 1) (nt + 1), σ') ∧ sget σ' j' = .l (nI (bump c b)) ∧ j' ≠ 0 ∧ sget σ' 0 = sget σ 0 := by
  have hl : c.length ≤ lim := Nat.le_trans hc (by decide)
  have l1 := len_list c hl
  have hjl : j < σ.length := sget_lt (by rw [hs]; exact fun z => by cases z)
  by_cases q : c.length ≤ b
  · have s1 : bopD .sub (.int (b : Int)) (.int (c.length : Nat)) = some (.int ((b - c.length : Nat) : Int)) := by
      simp only [YY]; congr 2; omega
    have m1 := mul_zero_list (b - c.length + 1) (by lia)
    have a1 : bopD .add (.list (nI c)) (.list (nI (List.replicate (b - c.length + 1) 0))) = some (.list (nI (c ++ List.replicate (b - c.length + 1) 0))) := by
      simp only [YX]
      rw [if_pos (by rw [nI_len, nI_len, List.length_replicate]; exact Nat.le_trans (by lia : c.length + (b - c.length + 1) ≤ 10000) (by decide)), nI_app]
    have e1 : b - c.length + 1 = b + 1 - c.length := by lia
    have u1 := sub_list_nat (c ++ List.replicate (b - c.length + 1) 0) b (by simp; omega) (by lia)
    have g2 : (0 : Int) ≤ (b : Int) ∧ (b : Int) < ((nI (c ++ List.replicate (b - c.length + 1) 0)).length : Nat) ∧ (nI (c ++ List.replicate (b - c.length + 1) 0)).length ≤ lim := by
      rw [nI_len, List.length_append, List.length_replicate]
      exact ⟨by lia, by omega, Nat.le_trans (by omega : c.length + (b - c.length + 1) ≤ 10000) (by decide)⟩
    have e3 : (nI (c ++ List.replicate (b - c.length + 1) 0)).set ((b : Int).toNat) (.int (((c ++ List.replicate (b - c.length + 1) 0).getD b 0 + 1 : Nat) : Int)) = nI (bump c b) := by
      have z := nI_set (c ++ List.replicate (b - c.length + 1) 0) b ((c ++ List.replicate (b - c.length + 1) 0).getD b 0 + 1)
      rw [Int.toNat_natCast]
      unfold bump
      rw [← e1]
      exact z
    have T := i_tabB S (x := x) hs l1 ((cmp_ge _ _).trans (by rw [decide_eq_true q])) (add_nat1 n) (add_nat1 nt) s1 (add_nat1 _) m1 a1 u1 (add_nat1 _) g2
    rw [e3] at T
    exact ⟨_, _, T, sget_put_eq (by simp), by lia, by rw [sget_put_ne (by lia), sget_app_lt (by lia)]⟩
  · have u1 := sub_list_nat c b (by lia) (by lia)
    have e0 : b + 1 - c.length = 0 := by omega
    have g2 : (0 : Int) ≤ (b : Int) ∧ (b : Int) < ((nI c).length : Nat) ∧ (nI c).length ≤ lim := by
      rw [nI_len]
      exact ⟨by lia, by lia, hl⟩
    have e3 : (nI c).set ((b : Int).toNat) (.int ((c.getD b 0 + 1 : Nat) : Int)) = nI (bump c b) := by
      have z := nI_set c b (c.getD b 0 + 1)
      rw [Int.toNat_natCast]
      unfold bump
      rw [e0, List.replicate_zero, List.append_nil]
      exact z
    have T := i_tabA S (x := x) hs l1 ((cmp_ge _ _).trans (by rw [decide_eq_false q])) (add_nat1 n) (add_nat1 nt) u1 (add_nat1 _) g2
    rw [e3] at T
    exact ⟨_, _, T, sget_put_eq hjl, hj, sget_put_ne (by lia)⟩
theorem loopF_next {f : PyData → En → Sg → Option (Fl × En × Sg)} {v : PyData} {r : List PyData} {en en' : En} {σ σ' : Sg} (h : f v en σ = some (.next, en', σ')) : loopF f (v :: r) en σ = loopF f r en' σ' := by
  simp only [Jy, h]
theorem loopF_brk {f : PyData → En → Sg → Option (Fl × En × Sg)} {v : PyData} {r : List PyData} {en en' : En} {σ σ' : Sg} (h : f v en σ = some (.brk, en', σ')) : loopF f (v :: r) en σ = some (.next, en', σ') := by
  simp only [Jy, h]
theorem i_sps (l : List PyData) : ∀ (k b n : Nat), loopF (stepF S 8 initB) (List.replicate k (chD 32) ++ l) (inE x j b n nt) σ = loopF (stepF S 8 initB) l (inE x j (b + k) (n + k) nt) σ
  | 0, b, n => rfl
  | k + 1, b, n => by
    rw [List.replicate_succ, List.cons_append, loopF_next (i_sp S), i_sps l k, show b + 1 + k = b + (k + 1) by lia, show n + 1 + k = n + (k + 1) by lia]
noncomputable def rowC (k : Nat) : List Nat := List.replicate k 32 ++ [9]
theorem i_rows (l : List PyData) : ∀ (ks : List Nat) (c : List Nat) (j n nt : Nat) (σ : Sg), sget σ j = .l (nI c) → j ≠ 0 → c.length ≤ 500 → (∀ k ∈ ks, k < 500) →
    ∃ σ' j', loopF (stepF S 8 initB) ((ks.flatMap rowC).map chD ++ l) (inE x j 0 n nt) σ = loopF (stepF S 8 initB) l (inE x j' 0 (n + (ks.map (· + 1)).sum) (nt + ks.length)) σ' ∧
      sget σ' j' = .l (nI (ks.foldl bump c)) ∧ j' ≠ 0 ∧ sget σ' 0 = sget σ 0
  | [], c, j, n, nt, σ, h1, h2, h3, h4 => ⟨σ, j, rfl, h1, h2, rfl⟩
  | k :: ks, c, j, n, nt, σ, h1, h2, h3, h4 => by
    have hk := h4 k (.head _)
    obtain ⟨σ₁, j₁, e1, e2, e3, e4⟩ := i_tab S (x := x) (b := 0 + k) (n := n + k) (nt := nt) h1 h2 (by lia) (by lia)
    rw [Nat.zero_add] at e2
    obtain ⟨σ₂, j₂, f1, f2, f3, f4⟩ := i_rows l ks (bump c k) j₁ (n + k + 1) (nt + 1) σ₁ e2 e3 (by
      simp only [bump, List.length_set, List.length_append, List.length_replicate]; omega) (fun k hk => h4 k (.tail _ hk))
    refine ⟨σ₂, j₂, ?_, f2, f3, by rw [f4, e4]⟩
    rw [List.flatMap_cons, List.map_append, List.append_assoc]
    have : (rowC k).map chD = List.replicate k (chD 32) ++ [chD 9] := by simp [rowC]
    rw [this, List.append_assoc, i_sps, List.singleton_append, loopF_next e1, f1]
    congr 2
    · simp; lia
    · simp; lia
end
end Mine
end
section
open PySem PySem.W PyProof.Rows PySem.Calls
namespace Mine
noncomputable def initR : PB := (.cons (.setF (.var 0) 1 (.var 6))
      (.cons (.setF (.var 0) 2 (.var 7))
      (.cons (.setF (.var 0) 3 (.tp (.cons (.cB .tuple (.cons (.var 4) .nil)) (.cons (.var 5) .nil))))
      (.cons (.setF (.var 0) 4 (.cmp .le (.cB .len (.cons (.var 4) .nil)) (.int 1)))
      .nil))))
noncomputable def initH : PB := (.cons (.setF (.var 0) 0 (.var 1))
      (.cons (.unpT [2, 3] (.cons (.cls (Str.ofString "S") spD) (.cons (.cls (Str.ofString "T") tbZ) .nil)))
      (.cons (.asg 4 (.lsO .nil))
      (.cons (.asgN [5, 6, 7] (.int 0))
      (.cons (.for_ 8 (.it (.fld (.var 0) 0)) initB) initR)))))
section
variable (S : Sem)
theorem i_rest {x s t : PyData} {j : Nat} {b n nt l : Int} {σ : Sg} {xs : List PyData} {sm : Bool} (h0 : sget σ 0 = .i [x]) (hs : sget σ j = .l xs) (hj : j ≠ 0) (hl : xs.length ≤ lim)
    (l1 : bltD .len [.list xs] = some (.int l)) (c1 : cmpD .le (.int l) (.int 1) = some sm) :
    ∃ en σ', evBl S initR [some (.ins 0), some (.d x), some (.d s), some (.d t), some (.own j), some (.d (.int b)), some (.d (.int n)), some (.d (.int nt)), none] σ = some (.next, en, σ') ∧
      sget σ' 0 = .i [x, .int n, .int nt, .tuple [.tuple xs, .int b], .bool sm] := by
  have hlen : 0 < σ.length := sget_lt (by rw [h0]; exact fun z => by cases z)
  have p : ∀ o, sget (sput σ 0 o) 0 = o := fun o => sget_put_eq hlen
  have p' : ∀ o o', sget (sput (sput σ 0 o) 0 o') 0 = o' := fun o o' => sget_put_eq (by rw [sput_len]; exact hlen)
  have p'' : ∀ o o' o'', sget (sput (sput (sput σ 0 o) 0 o') 0 o'') 0 = o'' := fun o o' o'' => sget_put_eq (by rw [sput_len, sput_len]; exact hlen)
  have p3 : ∀ o o' o'' o3, sget (sput (sput (sput (sput σ 0 o) 0 o') 0 o'') 0 o3) 0 = o3 := fun o o' o'' o3 => sget_put_eq (by rw [sput_len, sput_len, sput_len]; exact hlen)
  have q : ∀ o, sget (sput σ 0 o) j = .l xs := fun o => (sget_put_ne hj).trans hs
  have q' : ∀ o o', sget (sput (sput σ 0 o) 0 o') j = .l xs := fun o o' => (sget_put_ne hj).trans (q o)
  have q'' : ∀ o o' o'', sget (sput (sput (sput σ 0 o) 0 o') 0 o'') j = .l xs := fun o o' o'' => (sget_put_ne hj).trans (q' o o')
  have t1 : bltD .tuple [.list xs] = some (.tuple xs) := by simp only [Jt]; rw [if_pos hl]
  have d2 : (0 + 1 + 1 : Nat) ≤ lim := by decide
  have e1 : ∀ y : PyData, ([y] : List PyData).length = 1 := fun _ => rfl
  refine ⟨[some (.ins 0), some (.d x), some (.d s), some (.d t), some (.own j), some (.d (.int b)), some (.d (.int n)), some (.d (.int nt)), none],
    sput (sput (sput (sput σ 0 (.i [x, .int n])) 0 (.i [x, .int n, .int nt])) 0 (.i [x, .int n, .int nt, .tuple [.tuple xs, .int b]])) 0 (.i [x, .int n, .int nt, .tuple [.tuple xs, .int b], .bool sm]), ?_, ?_⟩
  · simp only [initR, Za,Ze,Zj,Zp,Zy,ZD,ZE,ZP,Yb,Yc,Yd,Ye,Yl,Yn,Yo,Yr,Ys,Yt,Yu,YD,YG,YM,Option.bind_some,if_true,List.length_cons,List.length_nil,List.cons_append,List.nil_append,List.mapM_cons,List.mapM_nil,Option.pure_def,Option.bind_eq_bind, h0, p, p', p'', q', q'', l1, c1, t1, Yt, Yu, Option.map_some, d2]
  · exact p3 _ _ _ _
theorem q_init {x : Str} {ks : List Nat} {e : Nat} {tl : List Nat} (hx : x.cps.toList = ks.flatMap rowC ++ List.replicate e 32 ++ tl) (ht : tl = [] ∨ ∃ a r, tl = a :: r ∧ a ≠ 32 ∧ a ≠ 9)
    (ha : ∀ a ∈ x.cps.toList, a < 128) (hn : x.length ≤ lim) (hk : ∀ k ∈ ks, k < 500) (hl : (ks.foldl bump []).length ≤ 1000) :
    runInit S ir_init (.str x) = some (.ws (wsF x ((ks.map (· + 1)).sum + e) ks.length (ks.foldl bump []) e)) := by
  have i1 : ir_init.body = initH := rfl
  have i3 : ir_init.names.length = 9 := rfl
  have it : itemsD (.str x) = some (((ks.flatMap rowC).map chD ++ (List.replicate e (chD 32) ++ tl.map chD))) := by
    simp only [itemsD]
    rw [if_pos ⟨by rw [← Array.all_toList]; exact List.all_eq_true.mpr (fun a h => decide_eq_true (ha a h)), hn⟩]
    show some (x.cps.toList.map chD) = _
    rw [hx]; simp
  obtain ⟨σ', j', e1, e2, e3, e4⟩ := i_rows S (x := .str x) (List.replicate e (chD 32) ++ tl.map chD) ks [] 1 0 0 [.i [.str x], .l []] rfl (by decide) (by decide) hk
  rw [i_sps] at e1
  have e5 : loopF (stepF S 8 initB) (tl.map chD) (inE (.str x) j' (0 + e) (0 + (ks.map (· + 1)).sum + e) (0 + ks.length)) σ' = some (.next, inE (.str x) j' (0 + e) (0 + (ks.map (· + 1)).sum + e) (0 + ks.length), σ') := by
    rcases ht with rfl | ⟨a, r, rfl, h1, h2⟩
    · rfl
    · have ha' : a < 128 := ha a (by rw [hx]; simp)
      rw [List.map_cons, loopF_brk (i_no S ha' h1 h2)]
  rw [e5] at e1
  simp only [Nat.zero_add] at e1
  have c1 : cmpD .le (.int ((ks.foldl bump []).length : Nat)) (.int 1) = some (decide ((ks.foldl bump []).length ≤ 1)) := by
    simp only [Jh]
    congr 1
    by_cases h : (ks.foldl bump []).length ≤ 1 <;> simp [h] <;> lia
  have hl' : (ks.foldl bump []).length ≤ lim := Nat.le_trans hl (by decide)
  obtain ⟨en, σ₂, f1, f2⟩ := i_rest S (x := .str x) (s := .str spD) (t := .str tbZ) (b := e) (n := ((ks.map (· + 1)).sum + e : Nat)) (nt := ks.length) e4 e2 e3 (by rw [nI_len]; exact hl') (len_list _ hl') c1
  have z0 : ((0 : Nat) : Int) = 0 := rfl
  simp only [inE, z0] at e1
  simp only [runInit, i1, i3, initH, Za,Ze,Zg,Zt,Zx,ZD,ZE,ZK,ZL,ZN,ZO,ZP,Yc,Yd,Ye,Yf,Yg,Yh,Yj,Yr,Yt,Yz,YA,YB,YC,YD,YG,YM,YO,evS_for,Nat.zero_le,if_true,pad,List.length_cons,List.length_nil,List.replicate,List.cons_append,List.nil_append,Yt, it, e1, f1, f2, List.getElem?_cons_zero]
  rfl
end
end Mine
end
section
open PySem PySem.W PyProof.Rows PySem.Calls
namespace Mine
noncomputable def trim : List Nat → List Nat
  | [] => []
  | a :: r => match trim r with
    | [] => if a = 0 then [] else [a]
    | b :: t => a :: b :: t
noncomputable def Trimmed (c : List Nat) : Prop := ∀ n, c.length = n + 1 → c.getD n 0 ≠ 0
theorem trim_getD : ∀ (c : List Nat) (i : Nat), (trim c).getD i 0 = c.getD i 0
  | [], i => rfl
  | a :: r, i => by
    have ih := trim_getD r
    unfold trim
    cases h : trim r with
    | nil =>
      rw [h] at ih
      by_cases q : a = 0
      · subst q
        cases i with
        | zero => simp
        | succ i => simpa using ih i
      · cases i with
        | zero => simp [q]
        | succ i => simpa [q] using ih i
    | cons b t =>
      rw [h] at ih
      cases i with
      | zero => simp
      | succ i => simpa using ih i
theorem trim_trimmed : ∀ c : List Nat, Trimmed (trim c)
  | [], n, h => by simp [trim] at h
  | a :: r, n, h => by
    have ih := trim_trimmed r
    unfold trim at h ⊢
    cases hr : trim r with
    | nil =>
      rw [hr] at h
      by_cases q : a = 0
      · simp [q] at h
      · simp [q] at h
        subst h
        simpa [q] using q
    | cons b t =>
      rw [hr] at h ih
      simp only [List.length_cons] at h
      have := ih t.length (by simp)
      have e : n = t.length + 1 := by lia
      subst e
      simpa using this
theorem trimmed_ext {a b : List Nat} (ha : Trimmed a) (hb : Trimmed b) (h : ∀ i, a.getD i 0 = b.getD i 0) : a = b := by
  have hl : a.length = b.length := by
    rcases Nat.lt_trichotomy a.length b.length with q | q | q
    · have := hb (b.length - 1) (by lia)
      rw [← h] at this
      exact absurd (by simp [List.getD, show a.length ≤ b.length - 1 by omega]) this
    · exact q
    · have := ha (a.length - 1) (by lia)
      rw [h] at this
      exact absurd (by simp [List.getD, show b.length ≤ a.length - 1 by omega]) this
  refine List.ext_getElem hl fun i h1 h2 => ?_
  have := h i
  simpa [List.getD, h1, h2] using this
theorem trim_of_trimmed {c : List Nat} (h : Trimmed c) : trim c = c := trimmed_ext (trim_trimmed c) h (trim_getD c)
theorem trim_length : ∀ c : List Nat, (trim c).length ≤ c.length
  | [] => by simp [trim]
  | a :: r => by
    have ih := trim_length r
    unfold trim
    cases h : trim r with
    | nil => by_cases q : a = 0 <;> simp [q]
    | cons b t => rw [h] at ih; simpa using ih
theorem trim_dot (w : Nat → Nat) : ∀ (c : List Nat) (k : Nat), dot w (trim c) k = dot w c k
  | [], _ => rfl
  | a :: r, k => by
    have ih := trim_dot w r (k + 1)
    unfold trim
    cases h : trim r with
    | nil =>
      rw [h] at ih
      by_cases q : a = 0
      · subst q; simp [dot, ← ih]
      · simp [dot, q, ← ih]
    | cons b t => rw [h] at ih; exact congrArg (a * w k + ·) ih
theorem trim_sum (c : List Nat) : (trim c).sum = c.sum := by
  rw [← dot_one, ← dot_one (c := c) (k := 0), trim_dot]
theorem bump_length (c : List Nat) (b : Nat) : (bump c b).length = max c.length (b + 1) := by
  simp only [bump, List.length_set, List.length_append, List.length_replicate]; omega
theorem bump_getD (c : List Nat) (b i : Nat) : (bump c b).getD i 0 = c.getD i 0 + if i = b then 1 else 0 := by
  have e : ∀ i, (c ++ List.replicate (b + 1 - c.length) 0).getD i 0 = c.getD i 0 := fun i => by
    by_cases h : i < c.length
    · simp [List.getD, h, List.getElem?_append_left h]
    · by_cases h2 : i - c.length < b + 1 - c.length
      · simp [List.getD, List.getElem?_append_right (Nat.le_of_not_lt h), Nat.le_of_not_lt h, h2]
      · simp [List.getD, List.getElem?_append_right (Nat.le_of_not_lt h), Nat.le_of_not_lt h, h2]
  have hl : b < (c ++ List.replicate (b + 1 - c.length) 0).length := by simp; omega
  unfold bump
  by_cases q : i = b
  · subst q
    rw [if_pos rfl, ← e i]
    simp only [List.getD, List.getElem?_set_self hl, Option.getD_some]
  · rw [if_neg q, Nat.add_zero, ← e i]
    simp only [List.getD, List.getElem?_set_ne (Ne.symm q), Nat.add_zero]
theorem bump_trimmed {c : List Nat} (h : Trimmed c) (b : Nat) : Trimmed (bump c b) := by
  intro n hn
  rw [bump_length] at hn
  rw [bump_getD]
  by_cases q : n = b
  · simp [q]
  · have := h n (by lia)
    simpa [q] using this
theorem bumps_getD : ∀ (ks : List Nat) (c : List Nat) (i : Nat), (ks.foldl bump c).getD i 0 = c.getD i 0 + ks.count i
  | [], c, i => by simp
  | k :: ks, c, i => by
    rw [List.foldl_cons, bumps_getD ks, bump_getD, List.count_cons]
    by_cases q : i = k
    · subst q; simp; lia
    · simp [q, Ne.symm q]
theorem bumps_trimmed : ∀ (ks : List Nat) {c : List Nat}, Trimmed c → Trimmed (ks.foldl bump c)
  | [], _, h => h
  | k :: ks, _, h => bumps_trimmed ks (bump_trimmed h k)
noncomputable def rowsOf : List Nat → Nat → List Nat
  | [], _ => []
  | a :: r, k => List.replicate a k ++ rowsOf r (k + 1)
theorem rowsOf_count : ∀ (c : List Nat) (k i : Nat), (rowsOf c k).count i = if k ≤ i then c.getD (i - k) 0 else 0
  | [], k, i => by simp [rowsOf]
  | a :: r, k, i => by
    rw [rowsOf, List.count_append, rowsOf_count r, List.count_replicate]
    by_cases q : k = i
    · subst q; simp [Nat.not_succ_le_self]
    · by_cases h : k ≤ i
      · rw [if_pos h, if_neg (by simpa using q), if_pos (by lia)]
        have : i - k = (i - (k + 1)) + 1 := by lia
        rw [this]; simp
      · rw [if_neg h, if_neg (by simpa using q), if_neg (by lia)]
theorem rowsOf_len : ∀ (c : List Nat) (k : Nat), (rowsOf c k).length = c.sum
  | [], _ => rfl
  | a :: r, k => by rw [rowsOf, List.length_append, List.length_replicate, rowsOf_len r, List.sum_cons]
theorem rowsOf_sum : ∀ (c : List Nat) (k : Nat), ((rowsOf c k).map (· + 1)).sum = dot (· + 1) c k
  | [], _ => rfl
  | a :: r, k => by
    rw [rowsOf, List.map_append, List.sum_append, rowsOf_sum r, dot, List.map_replicate]
    congr 1
    induction a with
    | zero => simp
    | succ a ih => rw [List.replicate_succ, List.sum_cons, ih, Nat.add_mul]; lia
theorem rowsOf_lt : ∀ (c : List Nat) (k i : Nat), i ∈ rowsOf c k → i < k + c.length
  | [], _, _, h => by simp [rowsOf] at h
  | a :: r, k, i, h => by
    rw [rowsOf, List.mem_append] at h
    rw [List.length_cons]
    rcases h with h | h
    · have := List.eq_of_mem_replicate h; lia
    · have := rowsOf_lt r (k + 1) i h; lia
theorem parse_perm {ks c : List Nat} (h : ks.Perm (rowsOf c 0)) : ks.foldl bump [] = trim c := by
  refine trimmed_ext (bumps_trimmed ks (fun n hn => by simp at hn)) (trim_trimmed c) fun i => ?_
  rw [bumps_getD, trim_getD, h.count_eq, rowsOf_count]
  simp
end Mine
end
section
open PySem PySem.W PyProof.Rows PySem.Calls
namespace Mine
theorem loopF_from {f : PyData → En → Sg → Option (Fl × En × Sg)} (g : Nat → PyData) (st : Nat → En × Sg) : ∀ (n s : Nat), (∀ k, s ≤ k → k < s + n → f (g k) (st k).1 (st k).2 = some (.next, (st (k + 1)).1, (st (k + 1)).2)) →
    loopF f ((List.range' s n).map g) (st s).1 (st s).2 = some (.next, (st (s + n)).1, (st (s + n)).2)
  | 0, s, _ => rfl
  | n + 1, s, h => by
    have e := h s (Nat.le_refl _) (by lia)
    have ih := loopF_from g st n (s + 1) (fun k h1 h2 => h k (by lia) (by lia))
    rw [show s + (n + 1) = s + 1 + n by lia]
    simp only [List.range'_succ, List.map_cons, Jy, e]
    exact ih
theorem loopF_idx {f : PyData → En → Sg → Option (Fl × En × Sg)} (g : Nat → PyData) (st : Nat → En × Sg) (n : Nat) (h : ∀ k, k < n → f (g k) (st k).1 (st k).2 = some (.next, (st (k + 1)).1, (st (k + 1)).2)) :
    loopF f ((List.range n).map g) (st 0).1 (st 0).2 = some (.next, (st n).1, (st n).2) := by
  have := loopF_from g st n 0 (fun k _ h2 => h k (by lia))
  rw [Nat.zero_add] at this
  rw [List.range_eq_range']
  exact this
theorem rowsOf_app : ∀ (a b : List Nat) (k : Nat), rowsOf (a ++ b) k = rowsOf a k ++ rowsOf b (k + a.length)
  | [], b, k => by simp [rowsOf]
  | x :: r, b, k => by
    rw [List.cons_append, rowsOf, rowsOf_app r b (k + 1), rowsOf, List.append_assoc, List.length_cons, show k + 1 + r.length = k + (r.length + 1) by lia]
theorem rowsOf_take (c : List Nat) (k : Nat) (h : k < c.length) : rowsOf (c.take (k + 1)) 0 = rowsOf (c.take k) 0 ++ List.replicate (c.getD k 0) k := by
  have e : c.take (k + 1) = c.take k ++ [c.getD k 0] := by
    rw [List.take_add_one]
    simp [List.getElem?_eq_getElem h, List.getD]
  rw [e, rowsOf_app]
  simp [rowsOf, Nat.min_eq_left (Nat.le_of_lt h)]
noncomputable def spS (k : Nat) : Str := ⟨(List.replicate k spD.cps.toList).flatten.toArray⟩
theorem spD_len : spD.length = 1 := by rw [spD_eq]; rfl
theorem tbZ_len : tbZ.length = 1 := by rw [tbZ_eq]; rfl
theorem spS_list (k : Nat) : (spS k).cps.toList = List.replicate k 32 := by
  unfold spS
  rw [spD_eq]
  show (List.replicate k [32]).flatten.toArray.toList = _
  rw [List.toList_toArray]
  induction k with
  | zero => rfl
  | succ k ih => rw [List.replicate_succ, List.flatten_cons, ih]; rfl
theorem str_len (x : Str) : x.length = x.cps.toList.length := by simp [Str.length]
theorem app_list (x y : Str) : (x ++ y).cps.toList = x.cps.toList ++ y.cps.toList := by
  show (x.cps ++ y.cps).toList = _
  simp
theorem mul_sp (k : Nat) (h : k ≤ 1000) : bopD .mul (.str spD) (.int (k : Int)) = some (.str (spS k)) := by
  simp only [Ja]
  rw [if_pos ⟨by lia, by lia, by rw [spD_len]; decide⟩]
  rfl
theorem add_str (x y : Str) (h : x.length + y.length ≤ lim) : bopD .add (.str x) (.str y) = some (.str (x ++ y)) := by
  simp only [YW]
  rw [if_pos h]
noncomputable def rowS (k : Nat) : Str := spS k ++ tbZ
theorem rowS_list (k : Nat) : (rowS k).cps.toList = rowC k := by
  unfold rowS rowC
  rw [app_list, spS_list, tbZ_eq]
theorem rowS_len (k : Nat) : (rowS k).length = k + 1 := by rw [str_len, rowS_list]; simp [rowC]
noncomputable def rowD (k : Nat) : PyData := .str (rowS k)
theorem repl_one {α : Type} (x : α) : ∀ n : Nat, (List.replicate n [x]).flatten = List.replicate n x
  | 0 => rfl
  | n + 1 => by rw [List.replicate_succ, List.flatten_cons, repl_one x n, List.replicate_succ]; rfl

noncomputable def leadB : PB := (.cons (.asg 3 (.bin .add (.var 3) (.bin .mul (.ls (.cons (.bin .add (.bin .mul (.str spD) (.var 4)) (.str tbZ)) .nil)) (.sub (.var 0) (.var 4)))))
      .nil)
noncomputable def leadR : PB := (.cons (.ret (.bin .add (.join (.str (Str.ofString "")) (.bin .add (.sl (.var 3) (.var 2) .no (.int 2)) (.sl (.var 3) (.bin .sub (.int 1) (.var 2)) .no (.int 2)))) (.bin .mul (.str spD) (.var 1))))
      .nil)
noncomputable def leadH : PB := (.cons (.asg 3 (.ls .nil))
      (.cons (.for_ 4 (.rng1 (.cB .len (.cons (.var 0) .nil))) leadB) leadR))
section
variable (S : Sem)
theorem lead_body {cs xs ys zs : List PyData} {e f k m : Int} {x y : Str} (h1 : bopD .mul (.str spD) (.int k) = some (.str x)) (h2 : bopD .add (.str x) (.str tbZ) = some (.str y)) (h3 : subD (.list cs) (.int k) = some (.int m))
    (h4 : bopD .mul (.list [.str y]) (.int m) = some (.list ys)) (h5 : bopD .add (.list xs) (.list ys) = some (.list zs)) :
    stepF S 4 leadB (.int k) [some (.d (.list cs)), some (.d (.int e)), some (.d (.int f)), some (.d (.list xs)), none] [] = some (.next, [some (.d (.list cs)), some (.d (.int e)), some (.d (.int f)), some (.d (.list zs)), none], []) := by
  have d1 : (0 + 1 : Nat) ≤ lim := by decide
  simp only [stepF, leadB, Zb,Ze,Zh,Zu,Zw,ZD,ZE,ZL,Yb,Yc,Yd,Ye,Yf,Yg,Yl,Yo,Yr,Ys,Yt,Yu,Option.bind_some,if_true,List.length_cons,List.length_nil,h1, h2, h3, h4, h5, Yt, Yu, Option.map_some, d1]
theorem lead_rest {cs xs ys zs ws : List PyData} {e f g : Int} {y z : Str} {ts : List Str} (h1 : bopD .sub (.int 1) (.int f) = some (.int g)) (h2 : slD (.list xs) (some f) none (some 2) = some (.list ys)) (h3 : slD (.list xs) (some g) none (some 2) = some (.list zs))
    (h4 : bopD .add (.list ys) (.list zs) = some (.list ws)) (h5 : strsOf ws = some ts) (h6 : JoinOk (Str.ofString "") ts = true) (h7 : bopD .mul (.str spD) (.int e) = some (.str y)) (h8 : bopD .add (.str (Txt.join (Str.ofString "") ts)) (.str y) = some (.str z)) :
    evBl S leadR [some (.d (.list cs)), some (.d (.int e)), some (.d (.int f)), some (.d (.list xs)), none] [] = some (.ret (.d (.str z)), [some (.d (.list cs)), some (.d (.int e)), some (.d (.int f)), some (.d (.list xs)), none], []) := by
  simp only [leadR, Za,Zb,Zd,Ze,Zh,Zv,ZA,ZW,Yc,Yd,Ye,Yl,Yo,YD,YI,YJ,YQ,if_true,partOf, h1, h2, h3, h4, h5, h6, h7, h8]
end
theorem sl_map' {α : Type} (D : α → PyData) (xs : List α) (l : List Nat) : l.filterMap ((xs.map D)[·]?) = (l.filterMap (xs[·]?)).map D := by
  induction l with
  | nil => rfl
  | cons i l ih =>
    simp only [List.getElem?_map] at ih
    simp only [List.filterMap_cons, List.getElem?_map]
    cases xs[i]? <;> simp [ih]
theorem strsOf_map : ∀ ks : List Nat, strsOf (ks.map rowD) = some (ks.map rowS)
  | [] => rfl
  | k :: ks => by simp [strsOf, rowD, ← strsOf_map ks]
theorem sl_perm : ∀ n, n ≤ 24 → ((slP n (some 0) none (some 2) ++ slP n (some 1) none (some 2)).isPerm (List.range n)) = true := by
  have : ∀ n : Fin 25, ((slP n.1 (some 0) none (some 2) ++ slP n.1 (some 1) none (some 2)).isPerm (List.range n.1)) = true := by decide +kernel
  intro n h
  exact this ⟨n, by lia⟩
theorem picks_all {α : Type} (xs : List α) : (List.range xs.length).filterMap (xs[·]?) = xs := by
  have := StrLaws.picks xs xs.length 0 (by lia)
  simpa using this
theorem filterMap_perm {α β : Type} (f : α → Option β) {a b : List α} (h : a.Perm b) : (a.filterMap f).Perm (b.filterMap f) := h.filterMap f
theorem join_flat : ∀ ts : List Str, (Txt.join (Str.ofString "") ts).cps.toList = ts.flatMap (·.cps.toList) := by
  intro ts
  show (Builtin.Str.glued (Str.ofString "") ts).cps.toList = _
  rw [StrLaws.glued_eq_join]
  have e0 : Str.ofString "" = ⟨#[]⟩ := by decide +kernel
  rw [e0]
  induction ts with
  | nil => rfl
  | cons x r ih =>
    cases r with
    | nil => simp [Str.join]
    | cons y r =>
      show ((x ++ (⟨#[]⟩ : Str)) ++ Str.join ⟨#[]⟩ (y :: r)).cps.toList = _
      rw [app_list, app_list, ih]
      simp
end Mine
end
section
open PySem PySem.W PyProof.Rows PySem.Calls
namespace Mine
theorem sum_take_le : ∀ (c : List Nat) (k : Nat), (c.take k).sum ≤ c.sum
  | [], k => by simp
  | a :: r, 0 => by simp
  | a :: r, k + 1 => by
    have := sum_take_le r k
    simp only [List.take_succ_cons, List.sum_cons]; lia
theorem add_list (xs ys : List PyData) (h : xs.length + ys.length ≤ 1000) : bopD .add (.list xs) (.list ys) = some (.list (xs ++ ys)) := by
  simp only [YX]
  rw [if_pos (Nat.le_trans h (by decide))]
theorem mul_list1 (x : PyData) (n : Nat) (h : n ≤ 1000) : bopD .mul (.list [x]) (.int (n : Int)) = some (.list (List.replicate n x)) := by
  simp only [Jb]
  rw [if_pos ⟨by lia, by lia, by simp; exact Nat.le_trans h (by decide)⟩, Int.toNat_natCast, repl_one]
theorem slD_list (xs : List PyData) (a b : Option Int) (h : xs.length ≤ 1000) : slD (.list xs) a b (some 2) = some (.list ((slP xs.length a b (some 2)).filterMap (xs[·]?))) := by
  have hl : xs.length ≤ lim := Nat.le_trans h (by decide)
  cases a <;> cases b <;> (simp only [slD]; rw [if_pos ⟨hl, by decide⟩])
section
variable (S : Sem)
theorem q_lead {c : List Nat} {e f g : Nat} (hl : c.length ≤ 90) (hs : c.sum ≤ 24) (he : e ≤ 90) (hf : f + g = 1) :
    ∃ (z : Str) (ks : List Nat), runF S ir_lead [.d (.list (nI c)), .d (.int (e : Int)), .d (.int (f : Int))] = some (.d (.str z)) ∧ ks.Perm (rowsOf c 0) ∧ z.cps.toList = ks.flatMap rowC ++ List.replicate e 32 := by
  have i1 : ir_lead.body = leadH := rfl
  have i2 : ir_lead.np = 3 := rfl
  have i3 : ir_lead.names.length = 5 := rfl
  have hlim : c.length ≤ lim := Nat.le_trans hl (by decide)
  have L := loopF_idx (f := stepF S 4 leadB) (fun k => nD (0 + k)) (fun k => ([some (.d (.list (nI c))), some (.d (.int (e : Int))), some (.d (.int (f : Int))), some (.d (.list ((rowsOf (c.take k) 0).map rowD))), none], [])) c.length (by
    intro k hk
    rw [Nat.zero_add, rowsOf_take c k hk, List.map_append]
    have hm := getD_le_sum c k
    have ht := sum_take_le c k
    have e1 : (List.replicate (c.getD k 0) k).map rowD = List.replicate (c.getD k 0) (rowD k) := by simp
    rw [e1]
    exact lead_body S (mul_sp k (by lia)) (add_str _ _ (by rw [str_len, spS_list, tbZ_len, List.length_replicate]; exact Nat.le_trans (by lia : k + 1 ≤ 1000) (by decide))) (sub_list_nat c k hk (by lia)) (mul_list1 _ _ (by lia)) (add_list _ _ (by
      rw [List.length_map, rowsOf_len, List.length_replicate]; lia)))
  rw [List.take_length] at L
  have hr : ((rowsOf c 0).map rowD).length ≤ 24 := by rw [List.length_map, rowsOf_len]; exact hs
  let xs := (rowsOf c 0).map rowD
  let ks := (slP (rowsOf c 0).length (some f) none (some 2) ++ slP (rowsOf c 0).length (some g) none (some 2)).filterMap ((rowsOf c 0)[·]?)
  have hp : ks.Perm (rowsOf c 0) := by
    have h1 := sl_perm (rowsOf c 0).length (by rw [rowsOf_len]; exact hs)
    rw [List.isPerm_iff] at h1
    have h2 := h1.filterMap ((rowsOf c 0)[·]?)
    rw [picks_all] at h2
    refine List.Perm.trans ?_ h2
    rcases (by lia : f = 0 ∧ g = 1 ∨ f = 1 ∧ g = 0) with ⟨rfl, rfl⟩ | ⟨rfl, rfl⟩
    · exact .refl _
    · exact List.perm_append_comm.filterMap _
  have hk24 : ks.length ≤ 24 := by rw [hp.length_eq, rowsOf_len]; exact hs
  have hks : ∀ k ∈ ks, k < 90 := fun k hk => by
    have := rowsOf_lt c 0 k (hp.mem_iff.mp hk); lia
  have hsum : ((ks.map rowS).map (·.length)).sum ≤ 24 * 91 := by
    refine Nat.le_trans (StrLaws.sumLen_le (B := 91) (ks.map rowS) fun y hy => ?_) ?_
    · obtain ⟨k, hk, rfl⟩ := List.mem_map.mp hy
      rw [rowS_len]; have := hks k hk; lia
    · rw [List.length_map]; exact Nat.mul_le_mul_right 91 hk24
  have e0 : (Str.ofString "").length = 0 := by decide +kernel
  have hj : JoinOk (Str.ofString "") (ks.map rowS) = true := by
    unfold JoinOk
    rw [StrLaws.joinTotal, e0]
    simp only [Builtin.Str.tooLong, Bool.not_eq_true', decide_eq_false_iff_not]
    have : 24 * 91 ≤ sizeLine := by decide
    lia
  have hjl : (Txt.join (Str.ofString "") (ks.map rowS)).cps.toList = ks.flatMap rowC := by
    rw [join_flat, List.flatMap_map]
    congr 1; funext k; exact rowS_list k
  have hjn : (Txt.join (Str.ofString "") (ks.map rowS)).length ≤ 24 * 91 := by
    have := StrLaws.join_length_le (Str.ofString "") (ks.map rowS)
    rw [e0] at this
    show (Builtin.Str.glued (Str.ofString "") (ks.map rowS)).length ≤ _
    rw [StrLaws.glued_eq_join]
    lia
  refine ⟨Txt.join (Str.ofString "") (ks.map rowS) ++ spS e, ks, ?_, hp, by rw [app_list, hjl, spS_list]⟩
  have hA : ∀ f : Int, slD (.list ((rowsOf c 0).map rowD)) (some f) none (some 2) = some (.list (((slP (rowsOf c 0).length (some f) none (some 2)).filterMap ((rowsOf c 0)[·]?)).map rowD)) := fun f => by
    rw [slD_list _ _ _ (by lia), sl_map', List.length_map]
  have s1 : bopD .sub (.int 1) (.int (f : Int)) = some (.int (g : Int)) := by
    simp only [YY]; congr 2; lia
  have a1 : bopD .add (.list (((slP (rowsOf c 0).length (some f) none (some 2)).filterMap ((rowsOf c 0)[·]?)).map rowD)) (.list (((slP (rowsOf c 0).length (some g) none (some 2)).filterMap ((rowsOf c 0)[·]?)).map rowD)) = some (.list (ks.map rowD)) := by
    have e2 : ((slP (rowsOf c 0).length (some f) none (some 2)).filterMap ((rowsOf c 0)[·]?)) ++ ((slP (rowsOf c 0).length (some g) none (some 2)).filterMap ((rowsOf c 0)[·]?)) = ks := by
      rw [← List.filterMap_append]
    have e3 := congrArg List.length e2
    rw [List.length_append] at e3
    rw [add_list _ _ (by rw [List.length_map, List.length_map]; lia), ← List.map_append, e2]
  have R := lead_rest S (cs := nI c) (e := e) s1 (hA f) (hA g) a1 (strsOf_map ks) hj (mul_sp e (by lia)) (add_str _ _ (by
    rw [str_len (spS e), spS_list, List.length_replicate]; exact Nat.le_trans (by lia : (Txt.join (Str.ofString "") (ks.map rowS)).length + e ≤ 3000) (by decide)))
  have z0 : (rowsOf (c.take 0) 0).map rowD = [] := by simp [rowsOf]
  rw [z0] at L
  have r1 := rangeI_nat 0 c.length
  have z1 : ((0 : Nat) : Int) = 0 := rfl
  rw [z1, Nat.sub_zero] at r1
  have g1 : (c.length : Int) < 100000 ∧ -(2 ^ 62) < (c.length : Int) := by lia
  simp only [runF, YT, i1, i2, i3, leadH, Ze,Zp,Zw,ZD,ZE,ZH,ZL,Yc,Yd,Yf,Yg,Yl,Yr,Yt,YD,YH,YT,evS_for,Option.bind_some,Nat.zero_le,if_true,pad,List.map_cons,List.map_nil,List.length_cons,List.length_nil,List.replicate,List.cons_append,List.nil_append,List.mapM_cons,List.mapM_nil,Option.pure_def,Option.bind_eq_bind, Yt, len_list c hlim, g1, r1, L, R, and_self]
end
end Mine
end
section
open PySem PySem.W PyProof.Rows PySem.Calls
namespace Mine
noncomputable def wsC (x : Str) (c : List Nat) (e : Nat) : List PyData := wsF x (dot (· + 1) c 0 + e) c.sum c e
theorem flat_len : ∀ ks : List Nat, (ks.flatMap rowC).length = (ks.map (· + 1)).sum
  | [] => rfl
  | k :: ks => by rw [List.flatMap_cons, List.length_append, flat_len ks]; simp [rowC]
theorem flat_lt (ks : List Nat) (a : Nat) (h : a ∈ ks.flatMap rowC) : a < 128 := by
  obtain ⟨k, _, h⟩ := List.mem_flatMap.mp h
  rcases List.mem_append.mp h with h | h
  · rw [List.eq_of_mem_replicate h]; decide
  · rw [List.mem_singleton.mp h]; decide
theorem q_mk (S : Sem) {x : Str} {ks c : List Nat} {e : Nat} {tl : List Nat} (hp : ks.Perm (rowsOf c 0)) (hx : x.cps.toList = ks.flatMap rowC ++ List.replicate e 32 ++ tl) (ht : tl = [] ∨ ∃ r, tl = 120 :: r)
    (hlt : ∀ a ∈ tl, a < 128) (hl : c.length ≤ 90) (hs : c.sum ≤ 100) (he : e ≤ 90) (htl : tl.length ≤ 100) :
    runInit S ir_init (.str x) = some (.ws (wsC x (trim c) e)) := by
  have hks : ∀ k ∈ ks, k < 90 := fun k hk => by
    have := rowsOf_lt c 0 k (hp.mem_iff.mp hk); lia
  have e1 := parse_perm hp
  have e2 : (ks.map (· + 1)).sum = dot (· + 1) (trim c) 0 := by
    rw [trim_dot, ← rowsOf_sum, (hp.map (· + 1)).sum_nat]
  have e3 : ks.length = (trim c).sum := by rw [hp.length_eq, rowsOf_len, trim_sum]
  have hd : dot (· + 1) (trim c) 0 ≤ 100 * 91 := by
    rw [trim_dot]
    exact Nat.le_trans (dot_le (B := 91) c 0 (fun i hi => by lia)) (Nat.mul_le_mul_right 91 hs)
  have q := q_init S (x := x) (ks := ks) (e := e) (tl := tl) hx (ht.imp id (fun ⟨r, h⟩ => ⟨120, r, h, by decide, by decide⟩)) (fun a ha => by
      rw [hx] at ha
      rcases List.mem_append.mp ha with ha | ha
      · rcases List.mem_append.mp ha with ha | ha
        · exact flat_lt ks a ha
        · rw [List.eq_of_mem_replicate ha]; decide
      · exact hlt a ha) (by
      rw [str_len, hx, List.length_append, List.length_append, flat_len, e2, List.length_replicate]
      exact Nat.le_trans (by lia : dot (· + 1) (trim c) 0 + e + tl.length ≤ 10000) (by decide)) (fun k hk => by have := hks k hk; lia) (by
      rw [e1]; have := trim_length c; lia)
  rw [q, e1, e2, e3]
  rfl
theorem xst : (Str.ofString "x \t").cps.toList = [120, 32, 9] := by decide +kernel
end Mine
end
section
open PySem PySem.W PyProof.Rows PySem.Calls
namespace Mine
open PySem.Builtin PySem.Builtin.Str in
theorem idx_min (p j len : Nat) : strSliceIndices (some (p : Int)) (some (j : Int)) 1 len = strSliceIndices (some (p : Int)) (some ((min j len : Nat) : Int)) 1 len := by
  have a1 : ¬ ((p : Int) < 0) := by lia
  have a2 : ¬ ((j : Int) < 0) := by lia
  have a3 : ¬ (((min j len : Nat) : Int) < 0) := by lia
  have e1 : max (0 : Int) (min (j : Int) (len : Int)) = max (0 : Int) (min ((min j len : Nat) : Int) (len : Int)) := by omega
  simp only [strSliceIndices, a1, a2, a3, if_false, show ((1 : Int) > 0) = True by simp, if_true, e1]
noncomputable def tkS (x : Str) (p k : Nat) : Str := ⟨((x.cps.toList.drop p).take k).toArray⟩
theorem slice_at (x : Str) (p k : Nat) (h : p ≤ x.length) : Txt.slice x (some (p : Int)) (some ((p + k : Nat) : Int)) = tkS x p k := by
  show StrLaws.sliceText x (some (p : Int)) (some ((p + k : Nat) : Int)) = _
  have e : StrLaws.sliceText x (some (p : Int)) (some ((p + k : Nat) : Int)) = StrLaws.sliceText x (some (p : Int)) (some ((min (p + k) x.length : Nat) : Int)) := by
    unfold StrLaws.sliceText
    rw [idx_min]
  rw [e, StrLaws.sliceText_nat x (by lia) (Nat.min_le_right _ _)]
  unfold tkS
  congr 2
  by_cases q : p + k ≤ x.length
  · rw [Nat.min_eq_left q]; congr 1; lia
  · rw [Nat.min_eq_right (by lia)]
    have hx := str_len x
    rw [List.take_of_length_le (by rw [List.length_drop]; lia), List.take_of_length_le (by rw [List.length_drop]; lia)]
theorem slD_str (x : Str) (p k : Nat) (h : p ≤ x.length) (hl : x.length ≤ lim) : slD (.str x) (some (p : Int)) (some ((p + k : Nat) : Int)) none = some (.str (tkS x p k)) := by
  simp only [slD]
  rw [if_pos hl, slice_at x p k h]
theorem add_natk (a b : Nat) (i : Int) (hi : i = b) : bopD .add (.int a) (.int i) = some (.int ((a + b : Nat) : Int)) := by
  subst hi; simp [YV]
noncomputable def wid (x : Str) (p : Nat) : Nat := if (tokOf (tkS x p 3)).isSome then 3 else if (tokOf (tkS x p 2)).isSome then 2 else 1
noncomputable def widE : PE := .cB .max (.cons (.lc (.var 10) 10 (.it (.ls (.cons (.int 1) (.cons (.int 2) (.cons (.int 3) .nil))))) (.din (.sl (.var 5) (.var 8) (.bin .add (.var 8) (.var 10)) .no)) [5, 8]) .nil)
noncomputable def readT : PB := (.cons (.ifs (.cmp .eq (.var 12) (.int 12)) (.cons (.asg 9 (.bin .add (.var 9) (.int 1)))
      .nil) (.cons (.ifs (.cmp .eq (.var 12) (.sub (.var 2) (.int 0))) (.cons (.setI (.var 6) (.var 9) (.bin .add (.sub (.var 6) (.var 9)) (.int 1)))
      .nil) (.cons (.ifs (.cmp .eq (.var 12) (.sub (.var 2) (.int 1))) (.cons (.setI (.var 6) (.bin .mul (.var 3) (.var 9)) (.bin .add (.sub (.var 6) (.bin .mul (.var 3) (.var 9))) (.int 1)))
      (.cons (.app (.var 7) (.var 9))
      .nil)) .nil)
      .nil))
      .nil))
      .nil)
noncomputable def readB : PB := (.cons (.asg 11 widE)
      (.cons (.asg 12 (.dget (.sl (.var 5) (.var 8) (.bin .add (.var 8) (.var 11)) .no)))
      (.cons (.asg 8 (.bin .add (.var 8) (.var 11)))
      readT)))
noncomputable def rdE (cs : PyData) (sg : Str) (n0 n1 : Int) (F : Int) (x : Str) (p L : Int) (w m : Option V) : En :=
  [some (.d cs), some (.d (.str sg)), some (.d (.list [.int n0, .int n1])), some (.d (.int F)), none, some (.d (.str x)), some (.own 0), some (.own 1), some (.d (.int p)), some (.d (.int L)), none, w, m]
section
variable (S : Sem) {cs : PyData} {sg x : Str} {n0 n1 F p L : Int} {w m : Option V}
theorem wid_step {σ : Sg} {k q : Int} {y : Str} (h : bopD .add (.int p) (.int k) = some (.int q)) (h2 : slD (.str x) (some p) (some q) none = some (.str y)) :
    stepC S [none, none, none, none, none, some (.d (.str x)), none, none, some (.d (.int p)), none, none, none, none] 10 (.din (.sl (.var 5) (.var 8) (.bin .add (.var 8) (.var 10)) .no)) (.var 10) (.int k) =
      some (if (tokOf y).isSome then some (.int k) else none) := by
  cases e : (tokOf y).isSome <;> simp only [stepC, Zd,Ze,Zh,Zv,ZB,Yd,Ye,Yf,Yg,Yl,Yv,Yw,YD,YI,YP,YQ,Option.bind_some,if_true,partOf, h, h2, e] <;> rfl
theorem wid_ev {σ : Sg} {p : Nat} (hp : p ≤ x.length) (hl : x.length ≤ lim) (h1 : (tokOf (tkS x p 1)).isSome = true) : evE S (rdE cs sg n0 n1 F x p L w m) widE σ = some (.d (.int (wid x p : Nat)), σ) := by
  have em : mask [5, 8] 0 (rdE cs sg n0 n1 F x p L w m) = [none, none, none, none, none, some (.d (.str x)), none, none, some (.d (.int p)), none, none, none, none] := rfl
  have s1 := wid_step S.cut (x := x) (p := p) (σ := []) (add_natk p 1 1 rfl) (slD_str x p 1 hp hl)
  have s2 := wid_step S.cut (x := x) (p := p) (σ := []) (add_natk p 2 2 rfl) (slD_str x p 2 hp hl)
  have s3 := wid_step S.cut (x := x) (p := p) (σ := []) (add_natk p 3 3 rfl) (slD_str x p 3 hp hl)
  have d3 : (0 + 1 + 1 + 1 : Nat) ≤ lim := by decide
  have it : itemsD (.list [.int 1, .int 2, .int 3]) = some [.int 1, .int 2, .int 3] := rfl
  have lc : loopC (stepC S.cut [none, none, none, none, none, some (.d (.str x)), none, none, some (.d (.int p)), none, none, none, none] 10 (.din (.sl (.var 5) (.var 8) (.bin .add (.var 8) (.var 10)) .no)) (.var 10)) [.int 1, .int 2, .int 3] =
      some (.int 1 :: ((if (tokOf (tkS x p 2)).isSome then [.int 2] else []) ++ (if (tokOf (tkS x p 3)).isSome then [.int 3] else []))) := by
    rw [h1] at s1
    simp only [Jz,JA, s1, s2, s3, if_true]
    cases (tokOf (tkS x p 2)).isSome <;> cases (tokOf (tkS x p 3)).isSome <;> rfl
  have mx : bltD .max [.list (.int 1 :: ((if (tokOf (tkS x p 2)).isSome then [.int 2] else []) ++ (if (tokOf (tkS x p 3)).isSome then [.int 3] else [])))] = some (.int (wid x p : Nat)) := by
    unfold wid
    cases (tokOf (tkS x p 2)).isSome <;> cases (tokOf (tkS x p 3)).isSome <;> rfl
  simp only [widE, Za,Zp,Zw,ZD,ZE,ZK,Yl,Yo,Yr,Ys,Yt,Yu,YD,evE_lc,Option.bind_some,if_true,List.length_cons,List.length_nil,List.mapM_cons,List.mapM_nil,Option.pure_def,Option.bind_eq_bind, em, Yt, Yu, Option.map_some, d3, it, lc, mx]
end
end Mine
end
section
open PySem PySem.W PyProof.Rows PySem.Calls
namespace Mine
section
variable (S : Sem) {cs : PyData} {sg x y : Str} {n0 n1 F p q L L1 k t v v1 FL : Int} {w m : Option V} {σ : Sg} {g J : List PyData}
theorem rd_comma (hw : evE S (rdE cs sg n0 n1 F x p L w m) widE σ = some (.d (.int k), σ)) (h1 : bopD .add (.int p) (.int k) = some (.int q)) (h2 : slD (.str x) (some p) (some q) none = some (.str y)) (h3 : tokOf y = some t)
    (c1 : cmpD .eq (.int t) (.int 12) = some true) (a1 : bopD .add (.int L) (.int 1) = some (.int L1)) :
    stepW S readB (rdE cs sg n0 n1 F x p L w m) σ = some (.next, rdE cs sg n0 n1 F x q L1 (some (.d (.int k))) (some (.d (.int t))), σ) := by
  simp only [stepW, readB, Yc, ZL, hw]
  simp only [rdE, readT, Za,Zd,Ze,Zh,Zj,Zv,ZC,ZL,ZV,Yb,Yc,Yd,Ye,Yf,Yg,Yl,Yv,Yw,YD,YI,YQ,Option.bind_some,partOf, h1, h2, h3, c1, a1]
theorem rd_one (hw : evE S (rdE cs sg n0 n1 F x p L w m) widE [.l g, .l J] = some (.d (.int k), [.l g, .l J])) (h1 : bopD .add (.int p) (.int k) = some (.int q)) (h2 : slD (.str x) (some p) (some q) none = some (.str y)) (h3 : tokOf y = some t)
    (c1 : cmpD .eq (.int t) (.int 12) = some false) (s0 : subD (.list [.int n0, .int n1]) (.int 0) = some (.int n0)) (c2 : cmpD .eq (.int t) (.int n0) = some true)
    (u1 : subD (.list g) (.int L) = some (.int v)) (u2 : bopD .add (.int v) (.int 1) = some (.int v1)) (b1 : 0 ≤ L) (b2 : L < (g.length : Nat)) (b3 : g.length ≤ lim) :
    stepW S readB (rdE cs sg n0 n1 F x p L w m) [.l g, .l J] = some (.next, rdE cs sg n0 n1 F x q L (some (.d (.int k))) (some (.d (.int t))), [.l (g.set L.toNat (.int v1)), .l J]) := by
  simp only [stepW, readB, Yc, ZL, hw]
  simp only [rdE, readT, Za,Zd,Ze,Zh,Zj,Zu,Zv,ZC,ZQ,ZV,Yb,Yc,Yd,Ye,Yf,Yg,Yh,Yj,Yl,Yn,Yv,Yw,YD,YF,YH,YI,YL,YQ,Option.bind_some,if_true,partOf, h1, h2, h3, c1, s0, c2, u1, u2, b1, b2, b3, and_self]
theorem rd_many (hw : evE S (rdE cs sg n0 n1 F x p L w m) widE [.l g, .l J] = some (.d (.int k), [.l g, .l J])) (h1 : bopD .add (.int p) (.int k) = some (.int q)) (h2 : slD (.str x) (some p) (some q) none = some (.str y)) (h3 : tokOf y = some t)
    (c1 : cmpD .eq (.int t) (.int 12) = some false) (s0 : subD (.list [.int n0, .int n1]) (.int 0) = some (.int n0)) (c2 : cmpD .eq (.int t) (.int n0) = some false) (s1 : subD (.list [.int n0, .int n1]) (.int 1) = some (.int n1)) (c3 : cmpD .eq (.int t) (.int n1) = some true)
    (m1 : bopD .mul (.int F) (.int L) = some (.int FL)) (u1 : subD (.list g) (.int FL) = some (.int v)) (u2 : bopD .add (.int v) (.int 1) = some (.int v1)) (b1 : 0 ≤ FL) (b2 : FL < (g.length : Nat)) (b3 : g.length ≤ lim) (b4 : J.length ≤ lim) :
    stepW S readB (rdE cs sg n0 n1 F x p L w m) [.l g, .l J] = some (.next, rdE cs sg n0 n1 F x q L (some (.d (.int k))) (some (.d (.int t))), [.l (g.set FL.toNat (.int v1)), .l (J ++ [.int L])]) := by
  simp only [stepW, readB, Yc, ZL, hw]
  simp only [rdE, readT, Za,Zd,Ze,Zh,Zj,Zu,Zv,ZC,ZQ,ZR,ZV,Yb,Yc,Yd,Ye,Yf,Yg,Yh,Yi,Yj,Yk,Yl,Yn,Yv,Yw,YD,YF,YH,YI,YL,YQ,Option.bind_some,if_true,partOf, h1, h2, h3, c1, s0, c2, s1, c3, m1, u1, u2, b1, b2, b3, b4, and_self]
theorem rd_cond (h1 : bltD .len [.str x] = some (.int q)) {b : Bool} (c1 : cmpD .lt (.int p) (.int q) = some b) : condW S (.cmp .lt (.var 8) (.cB .len (.cons (.var 5) .nil))) (rdE cs sg n0 n1 F x p L w m) σ = some (b, σ) := by
  simp only [condW, rdE, Ze,Zj,Zp,ZD,ZE,Yd,Ye,Yl,Yv,Yw,Option.bind_some,List.mapM_cons,List.mapM_nil,Option.pure_def,Option.bind_eq_bind, h1, c1]
end
theorem loopW_next {c : En → Sg → Option (Bool × Sg)} {f : En → Sg → Option (Fl × En × Sg)} {n : Nat} {en en' : En} {σ σ' : Sg} (h : c en σ = some (true, σ)) (h' : f en σ = some (.next, en', σ')) : loopW c f (n + 1) en σ = loopW c f n en' σ' := by
  simp only [loopW, h, h']
theorem loopW_end {c : En → Sg → Option (Bool × Sg)} {f : En → Sg → Option (Fl × En × Sg)} {n : Nat} {en : En} {σ : Sg} (h : c en σ = some (false, σ)) : loopW c f (n + 1) en σ = some (.next, en, σ) := by
  simp only [loopW, h]

structure Sg4 (F : Nat) (sg : Nat) (n0 n1 : Int) : Prop where
  t1 : tokOf ⟨#[sg]⟩ = some n0
  t2 : tokOf ⟨#[sg, sg]⟩ = if F = 2 then some n1 else none
  t3 : tokOf ⟨#[sg, sg, sg]⟩ = if F = 3 then some n1 else none
  a1 : tokOf ⟨#[sg, 44]⟩ = none
  a2 : tokOf ⟨#[sg, 44, 44]⟩ = none
  a3 : tokOf ⟨#[sg, 44, sg]⟩ = none
  a4 : tokOf ⟨#[sg, sg, 44]⟩ = none
  k1 : tokOf ⟨#[44]⟩ = some 12
  k2 : tokOf ⟨#[44, 44]⟩ = none
  k3 : tokOf ⟨#[44, sg]⟩ = none
  k4 : ∀ a ∈ [44, sg], ∀ b ∈ [44, sg], tokOf ⟨#[44, a, b]⟩ = none
  e0 : n0 ≠ 12
  e1 : n1 ≠ 12
  e2 : n1 ≠ n0
  lt : sg < 128
  ne : sg ≠ 44
theorem sg_0 : Sg4 2 61 22 27 := by constructor <;> decide +kernel
theorem sg_1 : Sg4 2 42 16 35 := by constructor <;> decide +kernel
theorem sg_2 : Sg4 2 47 17 47 := by constructor <;> decide +kernel
theorem sg_3 : Sg4 2 60 20 33 := by constructor <;> decide +kernel
theorem sg_4 : Sg4 2 62 21 34 := by constructor <;> decide +kernel
theorem sg_5 : Sg4 3 46 23 52 := by constructor <;> decide +kernel
end Mine
end
section
open PySem PySem.W PyProof.Rows PySem.Calls
namespace Mine
noncomputable def tokT (rest : List Nat) (k : Nat) : Option Int := tokOf ⟨(rest.take k).toArray⟩
noncomputable def widT (rest : List Nat) : Nat := if (tokT rest 3).isSome then 3 else if (tokT rest 2).isSome then 2 else 1
theorem wid_eq (x : Str) (p : Nat) : wid x p = widT (x.cps.toList.drop p) := rfl
structure Cut (rest : List Nat) (t : Int) (r : List Nat) : Prop where
  one : (tokT rest 1).isSome = true
  tok : tokT rest (widT rest) = some t
  drop : rest.drop (widT rest) = r
theorem isSome_ite (b : Prop) [Decidable b] (i : Int) : (if b then some i else none).isSome = decide b := by by_cases h : b <;> simp [h]
section
variable {F sg : Nat} {n0 n1 : Int} (G : Sg4 F sg n0 n1) (hF : F = 2 ∨ F = 3)
include G hF
theorem cut_many {r : List Nat} (h : ∀ a ∈ r, a = 44 ∨ a = sg) : Cut (List.replicate F sg ++ r) n1 r := by
  have t1 := G.t1; have t2 := G.t2; have t3 := G.t3
  rcases hF with rfl | rfl
  · simp only [if_true] at t2
    cases r with
    | nil => constructor <;> simp [tokT, widT, List.replicate, t1, t2]
    | cons a s =>
      have t3' : tokOf ⟨#[sg, sg, a]⟩ = none := by
        rcases h a (.head _) with rfl | rfl
        · exact G.a4
        · simpa using t3
      constructor <;> simp [tokT, widT, List.replicate, t1, t2, t3']
  · simp only [if_true] at t3
    constructor <;> simp [tokT, widT, List.replicate, t1, t3]
theorem cut_one {r : List Nat} (h : r = [] ∨ (∃ s, r = 44 :: s ∧ ∀ a ∈ s, a = 44 ∨ a = sg) ∨ (F = 3 ∧ (r = [sg] ∨ ∃ s, r = sg :: 44 :: s))) : Cut (sg :: r) n0 r := by
  have t1 := G.t1; have t2 := G.t2; have t3 := G.t3; have a1 := G.a1; have a2 := G.a2; have a3 := G.a3; have a4 := G.a4
  rcases h with rfl | ⟨s, rfl, h⟩ | ⟨rfl, rfl | ⟨s, rfl⟩⟩
  · constructor <;> simp [tokT, widT, t1]
  · cases s with
    | nil => constructor <;> simp [tokT, widT, t1, a1]
    | cons b s =>
      have q : tokOf ⟨#[sg, 44, b]⟩ = none := by
        rcases h b (.head _) with rfl | rfl
        · exact a2
        · exact a3
      constructor <;> simp [tokT, widT, t1, a1, q]
  · simp only [show (3 : Nat) = 2 ↔ False by decide, if_false] at t2
    constructor <;> simp [tokT, widT, t1, t2]
  · simp only [show (3 : Nat) = 2 ↔ False by decide, if_false] at t2
    constructor <;> simp [tokT, widT, t1, t2, a4]
theorem cut_comma {r : List Nat} (h : ∀ a ∈ r, a = 44 ∨ a = sg) : Cut (44 :: r) 12 r := by
  have k1 := G.k1; have k2 := G.k2; have k3 := G.k3; have k4 := G.k4
  match r, h with
  | [], h => constructor <;> simp [tokT, widT, k1]
  | [a], h =>
    have q : tokOf ⟨#[44, a]⟩ = none := by
      rcases h a (.head _) with rfl | rfl
      · exact k2
      · exact k3
    constructor <;> simp [tokT, widT, k1, q]
  | a :: b :: s, h =>
    have q : tokOf ⟨#[44, a]⟩ = none := by
      rcases h a (.head _) with rfl | rfl
      · exact k2
      · exact k3
    have q2 : tokOf ⟨#[44, a, b]⟩ = none := k4 a (by simpa using h a (.head _)) b (by simpa using h b (.tail _ (.head _)))
    constructor <;> simp [tokT, widT, k1, q, q2]
end
noncomputable def tlT (sg : Nat) : List Nat → List Nat
  | [] => []
  | m :: r => 44 :: (List.replicate m sg ++ tlT sg r)
theorem tlT_all (sg : Nat) : ∀ cs : List Nat, ∀ a ∈ tlT sg cs, a = 44 ∨ a = sg
  | [], a, h => by simp [tlT] at h
  | m :: r, a, h => by
    rw [tlT] at h
    rcases List.mem_cons.mp h with h | h
    · exact .inl h
    · rcases List.mem_append.mp h with h | h
      · exact .inr (List.eq_of_mem_replicate h)
      · exact tlT_all sg r a h
theorem rep_all (sg n : Nat) (cs : List Nat) : ∀ a ∈ List.replicate n sg ++ tlT sg cs, a = 44 ∨ a = sg := fun a h => by
  rcases List.mem_append.mp h with h | h
  · exact .inr (List.eq_of_mem_replicate h)
  · exact tlT_all sg cs a h
noncomputable def addAt (g : List Nat) (i m : Nat) : List Nat := g.set i (g.getD i 0 + m)
theorem addAt_zero (g : List Nat) (i : Nat) : addAt g i 0 = g := by
  unfold addAt
  refine List.ext_getElem (by simp) fun k h1 h2 => ?_
  by_cases q : i = k
  · subst q; simp [List.getD, h2]
  · simp [q]
theorem addAt_add (g : List Nat) (i m k : Nat) : addAt (addAt g i m) i k = addAt g i (m + k) := by
  unfold addAt
  by_cases h : i < g.length
  · simp [List.getD, h, Nat.add_assoc]
  · simp [List.set_eq_of_length_le (Nat.le_of_not_lt h)]
theorem addAt_len (g : List Nat) (i m : Nat) : (addAt g i m).length = g.length := by simp [addAt]
noncomputable def grow (F : Nat) : List Nat → Nat → List Nat → List Nat → List Nat × List Nat
  | [], _, g, J => (g, J)
  | n :: cs, L, g, J => grow F cs (L + 1) (addAt (addAt g (F * L) (n / F)) L (n % F)) (J ++ List.replicate (n / F) L)
theorem grow_many (F n : Nat) (cs : List Nat) (L : Nat) (g J : List Nat) (hF : 0 < F) (h : F ≤ n) : grow F (n :: cs) L g J = grow F ((n - F) :: cs) L (addAt g (F * L) 1) (J ++ [L]) := by
  have e1 : n / F = (n - F) / F + 1 := by
    rw [Nat.div_eq_sub_div hF h]
  have e2 : n % F = (n - F) % F := by rw [Nat.mod_eq_sub_mod h]
  rw [grow, grow, e1, e2, addAt_add, Nat.add_comm 1, List.append_assoc]
  congr 1
theorem grow_one (F n : Nat) (cs : List Nat) (L : Nat) (g J : List Nat) (h : n + 1 < F) : grow F ((n + 1) :: cs) L g J = grow F (n :: cs) L (addAt g L 1) J := by
  rw [grow, grow, Nat.div_eq_of_lt h, Nat.div_eq_of_lt (by lia : n < F), Nat.mod_eq_of_lt h, Nat.mod_eq_of_lt (by lia : n < F), addAt_zero, addAt_zero, addAt_add, Nat.add_comm 1]
theorem grow_comma (F : Nat) (cs : List Nat) (L : Nat) (g J : List Nat) : grow F (0 :: cs) L g J = grow F cs (L + 1) g J := by
  rw [grow, Nat.zero_div, Nat.zero_mod, addAt_zero, addAt_zero, List.replicate_zero, List.append_nil]
end Mine
end
section
open PySem PySem.W PyProof.Rows PySem.Calls
namespace Mine
theorem cmp_eqi (a b : Int) : cmpD .eq (.int a) (.int b) = some (decide (a = b)) := by
  simp only [Je,shaped_int, Bool.and_self, if_true, PyData.eqv]
  by_cases h : a = b <;> simp [h]
theorem cmp_ltn (a b : Nat) : cmpD .lt (.int (a : Int)) (.int (b : Int)) = some (decide (a < b)) := by simp [Jg]
theorem sub_p0 (a b : Int) : subD (.list [.int a, .int b]) (.int 0) = some (.int a) := by simp [Ju]
theorem sub_p1 (a b : Int) : subD (.list [.int a, .int b]) (.int 1) = some (.int b) := by simp [Ju]
theorem len_str (x : Str) (h : x.length ≤ lim) : bltD .len [.str x] = some (.int (x.length : Nat)) := by
  simp only [Jo]; rw [if_pos h]
noncomputable def rdC : PE := .cmp .lt (.var 8) (.cB .len (.cons (.var 5) .nil))
theorem set_nI (g : List Nat) (i m : Nat) : (nI g).set ((i : Int).toNat) (.int ((m : Nat) : Int)) = nI (g.set i m) := by
  rw [Int.toNat_natCast]; exact nI_set g i m
section
variable (S : Sem) {F sg : Nat} {n0 n1 : Int} (G : Sg4 F sg n0 n1) (hF : F = 2 ∨ F = 3) {cs0 : PyData} {sgv x : Str} (hx : x.length ≤ lim)
include G hF hx
theorem rd_loop : ∀ (fuel n : Nat) (cs : List Nat) (L : Nat) (g J : List Nat) (p : Nat) (w m : Option V), x.cps.toList.drop p = List.replicate n sg ++ tlT sg cs →
    F * (L + 1 + cs.length) ≤ g.length → g.length ≤ 300 → J.length + n + cs.sum ≤ 1000 → n + cs.sum + cs.length + 1 ≤ fuel →
    ∃ p' L' w' m', loopW (condW S rdC) (stepW S readB) fuel (rdE cs0 sgv n0 n1 F x p L w m) [.l (nI g), .l (nI J)] =
      some (.next, rdE cs0 sgv n0 n1 F x p' L' w' m', [.l (nI (grow F (n :: cs) L g J).1), .l (nI (grow F (n :: cs) L g J).2)])
  | 0, n, cs, L, g, J, p, w, m, hd, hg, hg3, hJ, hf => by lia
  | fuel + 1, n, cs, L, g, J, p, w, m, hd, hg, hg3, hJ, hf => by
    have hlen := str_len x
    have hgl : g.length ≤ lim := Nat.le_trans hg3 (by decide)
    have hF0 : 0 < F := by lia
    have hLF : F * L + F ≤ g.length := by
      have : F * (L + 1) ≤ F * (L + 1 + cs.length) := Nat.mul_le_mul_left _ (by lia)
      rw [Nat.mul_add, Nat.mul_one] at this; lia
    have hL : L ≤ F * L := Nat.le_mul_of_pos_left L hF0
    have hC : ∀ b, decide (p < x.length) = b → condW S rdC (rdE cs0 sgv n0 n1 F x p L w m) [.l (nI g), .l (nI J)] = some (b, [.l (nI g), .l (nI J)]) := fun b hb =>
      rd_cond S (len_str x hx) ((cmp_ltn p x.length).trans (by rw [hb]))
    have hin : x.cps.toList.drop p ≠ [] → p < x.length := fun h => by
      rw [hlen]
      exact Nat.lt_of_not_le fun q => h (List.drop_of_length_le q)
    have cut : ∀ {t r}, Cut (x.cps.toList.drop p) t r → x.cps.toList.drop p ≠ [] → condW S rdC (rdE cs0 sgv n0 n1 F x p L w m) [.l (nI g), .l (nI J)] = some (true, [.l (nI g), .l (nI J)]) ∧
        evE S (rdE cs0 sgv n0 n1 F x p L w m) widE [.l (nI g), .l (nI J)] = some (.d (.int (wid x p : Nat)), [.l (nI g), .l (nI J)]) ∧ bopD .add (.int p) (.int (wid x p : Nat)) = some (.int ((p + wid x p : Nat) : Int)) ∧
        slD (.str x) (some (p : Int)) (some ((p + wid x p : Nat) : Int)) none = some (.str (tkS x p (wid x p))) ∧ tokOf (tkS x p (wid x p)) = some t ∧ x.cps.toList.drop (p + wid x p) = r := fun {t r} C hne =>
      have hp := hin hne
      ⟨hC true (by simpa using hp), wid_ev S (by lia) hx C.one, add_nat _ _, slD_str x p _ (by lia) hx, C.tok, by rw [← List.drop_drop]; exact C.drop⟩
    by_cases h0 : n = 0
    · subst h0
      cases cs with
      | nil =>
        have hp : ¬ p < x.length := fun q => by
          have : x.cps.toList.drop p = [] := by rw [hd]; rfl
          rw [hlen] at q
          rw [List.drop_eq_nil_iff] at this
          lia
        refine ⟨p, L, w, m, ?_⟩
        rw [loopW_end (hC false (by simpa using hp)), grow_comma]
        rfl
      | cons k r =>
        have hd' : x.cps.toList.drop p = 44 :: (List.replicate k sg ++ tlT sg r) := by rw [hd]; rfl
        obtain ⟨c1, c2, c3, c4, c5, c6⟩ := cut (hd' ▸ cut_comma G hF (rep_all sg k r)) (by rw [hd']; exact List.cons_ne_nil _ _)
        have st := rd_comma S c2 c3 c4 c5 ((cmp_eqi _ _).trans (by decide)) (add_nat1 L)
        rw [List.length_cons] at hg hf
        rw [List.sum_cons] at hf hJ
        obtain ⟨p', L', w', m', ih⟩ := rd_loop fuel k r (L + 1) g J (p + wid x p) _ _ c6 (by rw [show L + 1 + 1 + r.length = L + 1 + (r.length + 1) by lia]; exact hg) hg3 (by lia) (by lia)
        refine ⟨p', L', w', m', ?_⟩
        rw [loopW_next c1 st, ih, grow_comma]
    · by_cases h1 : F ≤ n
      · have hd' : x.cps.toList.drop p = List.replicate F sg ++ (List.replicate (n - F) sg ++ tlT sg cs) := by
          rw [hd, ← List.append_assoc, List.replicate_append_replicate, show F + (n - F) = n by lia]
        obtain ⟨c1, c2, c3, c4, c5, c6⟩ := cut (hd' ▸ cut_many G hF (rep_all sg (n - F) cs)) (by rw [hd']; rcases hF with rfl | rfl <;> simp)
        have hi : F * L < g.length := by lia
        have st := rd_many S c2 c3 c4 c5 ((cmp_eqi _ _).trans (by rw [decide_eq_false G.e1])) (sub_p0 n0 n1) ((cmp_eqi _ _).trans (by rw [decide_eq_false G.e2])) (sub_p1 n0 n1) ((cmp_eqi _ _).trans (by rw [decide_eq_true rfl]))
          (mul_nat F L (by lia) (by lia)) (sub_list_nat g (F * L) hi (by lia)) (add_nat1 _) (by lia) (by rw [nI_len]; omega) (by rw [nI_len]; exact hgl) (by rw [nI_len]; exact Nat.le_trans (by lia : J.length ≤ 1000) (by decide))
        rw [set_nI] at st
        have eJ : nI J ++ [.int (L : Int)] = nI (J ++ [L]) := by rw [nI_app]; rfl
        rw [eJ] at st
        obtain ⟨p', L', w', m', ih⟩ := rd_loop fuel (n - F) cs L (addAt g (F * L) 1) (J ++ [L]) (p + wid x p) _ _ c6 (by rw [addAt_len]; exact hg) (by rw [addAt_len]; exact hg3) (by rw [List.length_append, List.length_singleton]; lia) (by lia)
        refine ⟨p', L', w', m', ?_⟩
        rw [loopW_next c1 st, grow_many F n cs L g J hF0 h1, ← ih]
        rfl
      · obtain ⟨k, rfl⟩ : ∃ k, n = k + 1 := ⟨n - 1, by lia⟩
        have hd' : x.cps.toList.drop p = sg :: (List.replicate k sg ++ tlT sg cs) := by rw [hd]; rfl
        have hr : (List.replicate k sg ++ tlT sg cs) = [] ∨ (∃ s, (List.replicate k sg ++ tlT sg cs) = 44 :: s ∧ ∀ a ∈ s, a = 44 ∨ a = sg) ∨ (F = 3 ∧ ((List.replicate k sg ++ tlT sg cs) = [sg] ∨ ∃ s, (List.replicate k sg ++ tlT sg cs) = sg :: 44 :: s)) := by
          by_cases hk : k = 0
          · subst hk
            cases cs with
            | nil => exact .inl rfl
            | cons b s => exact .inr (.inl ⟨_, rfl, rep_all sg b s⟩)
          · have hk : k = 1 := by lia
            subst hk
            refine .inr (.inr ⟨by lia, ?_⟩)
            cases cs with
            | nil => exact .inl rfl
            | cons b s => exact .inr ⟨_, rfl⟩
        obtain ⟨c1, c2, c3, c4, c5, c6⟩ := cut (hd' ▸ cut_one G hF hr) (by rw [hd']; exact List.cons_ne_nil _ _)
        have hi : L < g.length := by lia
        have st := rd_one S c2 c3 c4 c5 ((cmp_eqi _ _).trans (by rw [decide_eq_false G.e0])) (sub_p0 n0 n1) ((cmp_eqi _ _).trans (by rw [decide_eq_true rfl]))
          (sub_list_nat g L hi (by lia)) (add_nat1 _) (by lia) (by rw [nI_len]; lia) (by rw [nI_len]; exact hgl)
        rw [set_nI] at st
        obtain ⟨p', L', w', m', ih⟩ := rd_loop fuel k cs L (addAt g L 1) J (p + wid x p) _ _ c6 (by rw [addAt_len]; exact hg) (by rw [addAt_len]; exact hg3) (by lia) (by lia)
        refine ⟨p', L', w', m', ?_⟩
        rw [loopW_next c1 st, grow_one F k cs L g J (by lia), ← ih]
        rfl
end
end Mine
end
section
open PySem PySem.W PyProof.Rows PySem.Calls
namespace Mine
theorem mem_le_sum : ∀ {c : List Nat} {n : Nat}, n ∈ c → n ≤ c.sum
  | a :: r, n, h => by
    rw [List.sum_cons]
    rcases List.mem_cons.mp h with h | h
    · lia
    · have := mem_le_sum h; lia
noncomputable def cmD : Str := Str.ofString ","
theorem cmD_eq : cmD = ⟨#[44]⟩ := by decide +kernel
noncomputable def sgS (sg n : Nat) : Str := ⟨(List.replicate n (⟨#[sg]⟩ : Str).cps.toList).flatten.toArray⟩
theorem sgS_list (sg n : Nat) : (sgS sg n).cps.toList = List.replicate n sg := by
  unfold sgS
  rw [List.toList_toArray]
  exact repl_one sg n
theorem mul_sg (sg n : Nat) (h : n ≤ 1000) : bopD .mul (.str ⟨#[sg]⟩) (.int (n : Int)) = some (.str (sgS sg n)) := by
  simp only [Ja]
  rw [if_pos ⟨by lia, by lia, by show 1 ≤ 16; decide⟩]
  rfl
noncomputable def growAll (F : Nat) (c : List Nat) : List Nat × List Nat := grow F c 0 (List.replicate (F * c.length) 0) []
noncomputable def readLC : PE := .lc (.bin .mul (.var 1) (.var 4)) 4 (.it (.var 0)) (.tt true) [1]
noncomputable def readH : PB := (.cons (.asg 5 (.join (.str cmD) readLC))
      (.cons (.unpT [6, 7, 8, 9] (.cons (.binO .mul (.ls (.cons (.int 0) .nil)) (.bin .mul (.var 3) (.cB .len (.cons (.var 0) .nil)))) (.cons (.lsO .nil) (.cons (.int 0) (.cons (.int 0) .nil)))))
      (.cons (.whl rdC readB)
      (.cons (.ret (.ls (.cons (.var 6) (.cons (.var 7) .nil))))
      .nil))))
theorem join_txt (sg : Nat) : ∀ (n : Nat) (cs : List Nat), (Str.join cmD ((n :: cs).map (sgS sg))).cps.toList = List.replicate n sg ++ tlT sg cs
  | n, [] => by
    show (sgS sg n).cps.toList = _
    rw [sgS_list]; simp [tlT]
  | n, m :: r => by
    have ih := join_txt sg m r
    show (sgS sg n ++ cmD ++ Str.join cmD ((m :: r).map (sgS sg))).cps.toList = _
    rw [app_list, app_list, sgS_list, ih, cmD_eq]
    simp [tlT]
theorem strsOf_sg (sg : Nat) : ∀ c : List Nat, strsOf (c.map fun n => .str (sgS sg n)) = some (c.map (sgS sg))
  | [] => rfl
  | k :: ks => by simp [strsOf, ← strsOf_sg sg ks]
section
variable (S : Sem)
theorem read_step {en : En} {x : Str} {s y : PyData} {k : Int} (h : bopD .mul s (.int k) = some y) :
    stepC S [none, some (.d s), none, none, none, none, none, none, none, none, none, none, none] 4 (.tt true) (.bin .mul (.var 1) (.var 4)) (.int k) = some (some y) := by
  simp only [stepC, Zc,Ze,Zh,Yd,Ye,Yf,Yg,Yl,Yv,Yw,YD,YP,Option.bind_some,h]
theorem read_text {F sg : Nat} {ns : PyData} {c : List Nat} (hl : c.length ≤ 100) (hs : c.sum ≤ 100) :
    evE S [some (.d (.tuple (nI c))), some (.d (.str ⟨#[sg]⟩)), some (.d ns), some (.d (.int (F : Int))), none, none, none, none, none, none, none, none, none] readLC [] = some (.d (.list (c.map fun n => .str (sgS sg n))), []) := by
  have hlim : (nI c).length ≤ lim := by rw [nI_len]; exact Nat.le_trans hl (by decide)
  have it : itemsD (.tuple (nI c)) = some (nI c) := by simp only [itemsD]; rw [if_pos hlim]
  have em : mask [1] 0 [some (.d (.tuple (nI c))), some (.d (.str ⟨#[sg]⟩)), some (.d ns), some (.d (.int (F : Int))), none, none, none, none, none, none, none, none, none] = [none, some (.d (.str ⟨#[sg]⟩)), none, none, none, none, none, none, none, none, none, none, none] := rfl
  have L : loopC (stepC S.cut [none, some (.d (.str ⟨#[sg]⟩)), none, none, none, none, none, none, none, none, none, none, none] 4 (.tt true) (.bin .mul (.var 1) (.var 4))) (nI c) = _ :=
    loopC_map (g := nD) (h := fun n => some (.str (sgS sg n))) c (fun n hn => read_step S.cut (en := []) (x := cmD) (mul_sg sg n (by
      have := mem_le_sum hn; lia)))
  simp only [readLC, Ze,ZK,Yd,YD,evE_lc,if_true,it, em, L, hlim, List.filterMap_eq_map']
theorem read_gen {cs : PyData} {sgs x : Str} {n0 n1 F l k p' L' : Int} {zs gs js : List PyData} {ss : List PyData} {ts : List Str} {w' m' : Option V} (T : evE S [some (.d cs), some (.d (.str sgs)), some (.d (.list [.int n0, .int n1])), some (.d (.int F)), none, none, none, none, none, none, none, none, none] readLC [] = some (.d (.list ss), []))
    (h1 : strsOf ss = some ts) (hj : JoinOk cmD ts = true) (hx : Txt.join cmD ts = x) (hl : bltD .len [cs] = some (.int l)) (m1 : bopD .mul (.int F) (.int l) = some (.int k)) (m2 : bopD .mul (.list [.int 0]) (.int k) = some (.list zs))
    (W : loopW (condW S rdC) (stepW S readB) S.fuel (rdE cs sgs n0 n1 F x 0 0 none none) [.l zs, .l []] = some (.next, rdE cs sgs n0 n1 F x p' L' w' m', [.l gs, .l js])) :
    evBl S readH [some (.d cs), some (.d (.str sgs)), some (.d (.list [.int n0, .int n1])), some (.d (.int F)), none, none, none, none, none, none, none, none, none] [] =
      some (.ret (.d (.list [.list gs, .list js])), rdE cs sgs n0 n1 F x p' L' w' m', [.x, .x]) := by
  have d1 : (0 + 1 : Nat) ≤ lim := by decide
  have d2 : (0 + 1 + 1 : Nat) ≤ lim := by decide
  simp only [rdE] at W
  simp only [readH, Za,Zb,Ze,Zh,Zi,Zp,Zw,Zx,ZA,ZD,ZE,ZL,ZN,ZW,Yc,Yd,Ye,Yf,Yg,Yh,Yi,Yj,Yk,Yl,Yo,Yq,Yr,Ys,Yt,Yu,Yz,YA,YD,YI,YJ,evS_whl,Option.bind_some,Nat.zero_le,if_true,List.length_cons,List.length_nil,List.cons_append,List.nil_append,List.mapM_cons,List.mapM_nil,Option.pure_def,Option.bind_eq_bind, T, h1, hj, hx, hl, m1, m2, Yt, Yu, Option.map_some, W, d1, d2, rdE]
theorem q_read (hf : S.fuel = 400) {F sg : Nat} {n0 n1 : Int} (G : Sg4 F sg n0 n1) (hF : F = 2 ∨ F = 3) {c : List Nat} (hl : c.length ≤ 90) (hs : c.sum ≤ 100) :
    runF S ir_read [.d (.tuple (nI c)), .d (.str ⟨#[sg]⟩), .d (.list [.int n0, .int n1]), .d (.int (F : Int))] = some (.d (.list [.list (nI (growAll F c).1), .list (nI (growAll F c).2)])) := by
  have i1 : ir_read.body = readH := rfl
  have i2 : ir_read.np = 4 := rfl
  have i3 : ir_read.names.length = 13 := rfl
  have hlim : c.length ≤ lim := Nat.le_trans hl (by decide)
  have T := read_text S (F := F) (sg := sg) (ns := .list [.int n0, .int n1]) (c := c) (by lia) hs
  have e1 : cmD.length = 1 := by rw [cmD_eq]; rfl
  have hsum : ((c.map (sgS sg)).map (·.length)).sum ≤ 90 * 100 := by
    refine Nat.le_trans (StrLaws.sumLen_le (B := 100) (c.map (sgS sg)) fun y hy => ?_) ?_
    · obtain ⟨k, hk, rfl⟩ := List.mem_map.mp hy
      rw [str_len, sgS_list, List.length_replicate]; have := mem_le_sum hk; lia
    · rw [List.length_map]; exact Nat.mul_le_mul_right 100 hl
  have hj : JoinOk cmD (c.map (sgS sg)) = true := by
    unfold JoinOk
    rw [StrLaws.joinTotal, e1, List.length_map]
    simp only [Builtin.Str.tooLong, Bool.not_eq_true', decide_eq_false_iff_not]
    have : 90 * 100 + 90 * 1 ≤ sizeLine := by decide
    lia
  have hjn : (Txt.join cmD (c.map (sgS sg))).length ≤ lim := by
    have := StrLaws.join_length_le cmD (c.map (sgS sg))
    rw [e1, List.length_map] at this
    show (Builtin.Str.glued cmD (c.map (sgS sg))).length ≤ _
    rw [StrLaws.glued_eq_join]
    exact Nat.le_trans (by lia : _ ≤ 9500) (by decide)
  have m1 := mul_nat F c.length (by lia) (by lia)
  have m2 := mul_zero_list (F * c.length) (by rcases hF with rfl | rfl <;> lia)
  have W : ∃ p' L' w' m', loopW (condW S rdC) (stepW S readB) 400 (rdE (.tuple (nI c)) ⟨#[sg]⟩ n0 n1 F (Txt.join cmD (c.map (sgS sg))) 0 0 none none) [.l (nI (List.replicate (F * c.length) 0)), .l []] =
      some (.next, rdE (.tuple (nI c)) ⟨#[sg]⟩ n0 n1 F (Txt.join cmD (c.map (sgS sg))) p' L' w' m', [.l (nI (growAll F c).1), .l (nI (growAll F c).2)]) := by
    cases c with
    | nil => exact ⟨_, _, _, _, loopW_end (rd_cond S (len_str _ hjn) (by rfl))⟩
    | cons n cs =>
      have hx : (Txt.join cmD ((n :: cs).map (sgS sg))).cps.toList.drop 0 = List.replicate n sg ++ tlT sg cs := by
        show (Builtin.Str.glued cmD ((n :: cs).map (sgS sg))).cps.toList.drop 0 = _
        rw [StrLaws.glued_eq_join, join_txt]; rfl
      rw [List.length_cons] at hl
      rw [List.sum_cons] at hs
      obtain ⟨p', L', w', m', h⟩ := rd_loop S G hF (cs0 := .tuple (nI (n :: cs))) (sgv := ⟨#[sg]⟩) hjn 400 n cs 0 (List.replicate (F * (n :: cs).length) 0) [] 0 none none hx (by
        rw [List.length_replicate, List.length_cons]; exact Nat.mul_le_mul_left _ (by lia)) (by
        rw [List.length_replicate, List.length_cons]; rcases hF with rfl | rfl <;> lia) (by simp; lia) (by lia)
      exact ⟨_, _, _, _, h⟩
  obtain ⟨p', L', w', m', W⟩ := W
  rw [← hf] at W
  have R := read_gen S T (strsOf_sg sg c) hj rfl (len_tup c hlim) m1 m2 W
  simp only [runF, YT, i1, i2, i3, List.length_cons, List.length_nil, pad, List.map_cons, List.map_nil, List.replicate, List.cons_append, List.nil_append, if_true, R]
end
end Mine
end
section
open PySem PySem.W PyProof.Rows PySem.Calls
namespace Mine
noncomputable def fgW (F : Nat) : Nat → Nat → Nat → List Nat → Option (List Nat)
  | 0, _, _, _ => none
  | f + 1, n, L, g => if n = 0 then some g else if n ≤ 9 ∧ L < g.length then fgW F f (n / F) (L * F) (g.set L (n % F)) else none
noncomputable def fgAll (F : Nat) : List Nat → Nat → List Nat → Option (List Nat)
  | [], _, g => some g
  | n :: cs, k, g => (fgW F 6 n k g).bind (fgAll F cs (k + 1))
theorem fgW_len (F : Nat) : ∀ (f n L : Nat) (g g' : List Nat), fgW F f n L g = some g' → g'.length = g.length
  | 0, _, _, _, _, h => by cases h
  | f + 1, n, L, g, g', h => by
    unfold fgW at h
    split at h
    · cases h; rfl
    · split at h
      · have := fgW_len F f _ _ _ _ h; simpa using this
      · cases h
noncomputable def fgI : PB := (.cons (.unp [4, 6] (.cF .idm (.cons (.var 4) (.cons (.var 1) .nil))))
      (.cons (.setI (.var 2) (.var 5) (.var 6))
      (.cons (.asg 5 (.bin .mul (.var 5) (.var 1)))
      .nil)))
noncomputable def fgC : PE := .cmp .gt (.var 4) (.int 0)
noncomputable def fgB : PB := (.cons (.unpT [4, 5] (.cons (.sub (.var 0) (.var 3)) (.cons (.var 3) .nil)))
      (.cons (.whl fgC fgI)
      .nil))
noncomputable def fgP : PE := .cmp .eq (.sl (.var 2) (.neg (.int 1)) .no .no) (.ls (.cons (.int 0) .nil))
noncomputable def fgQ : PB := (.cons (.pop (.var 2)) .nil)
noncomputable def fgH : PB := (.cons (.asg 2 (.binO .mul (.ls (.cons (.int 0) .nil)) (.int 16)))
      (.cons (.for_ 3 (.rng1 (.cB .len (.cons (.var 0) .nil))) fgB)
      (.cons (.whl fgP fgQ)
      (.cons (.ret (.cB .tuple (.cons (.var 2) .nil)))
      .nil))))
theorem cmp_gt0 (a : Nat) : cmpD .gt (.int (a : Int)) (.int 0) = some (decide (0 < a)) := by simp [Ji]
section
variable (S : Sem) {c0 : PyData} {F : Int} {k : Option V} {z : Option V}
theorem fg_body {n L q r L' : Int} {g : List PyData} (h : S.Φ .idm [.d (.int n), .d (.int F)] = some (.d (.tuple [.int q, .int r]))) (m : bopD .mul (.int L) (.int F) = some (.int L')) (b1 : 0 ≤ L) (b2 : L < (g.length : Nat)) (b3 : g.length ≤ lim) :
    stepW S fgI [some (.d c0), some (.d (.int F)), some (.own 0), k, some (.d (.int n)), some (.d (.int L)), z] [.l g] =
      some (.next, [some (.d c0), some (.d (.int F)), some (.own 0), k, some (.d (.int q)), some (.d (.int L')), some (.d (.int r))], [.l (g.set L.toNat (.int r))]) := by
  simp only [stepW, fgI, Ze,Zh,Zo,ZD,ZE,ZL,ZM,ZQ,Yb,Yc,Yd,Ye,Yf,Yg,Yh,Yj,Yl,Yo,Yr,Ys,Yz,YA,YD,YF,YH,YK,YL,Option.bind_some,if_true,List.map_cons,List.map_nil,h, m, b1, b2, b3, and_self]
theorem fg_cond {n : Int} {l : Option V} {σ : Sg} {b : Bool} (h : cmpD .gt (.int n) (.int 0) = some b) :
    condW S fgC [some (.d c0), some (.d (.int F)), some (.own 0), k, some (.d (.int n)), l, z] σ = some (b, σ) := by
  simp only [condW, fgC, Za,Ze,Zj,Yd,Ye,Yl,Yv,Yw,Option.bind_some,h]
end
section
variable (S : Sem) {c0 : PyData} {F : Nat} (hF : F = 2 ∨ F = 3) (HI : ∀ n : Nat, n ≤ 9 → S.Φ .idm [.d (.int (n : Int)), .d (.int (F : Int))] = some (.d (.tuple [.int ((n / F : Nat) : Int), .int ((n % F : Nat) : Int)])))
include hF HI
theorem fg_while {k : Option V} : ∀ (f m n L : Nat) (g g' : List Nat) (z : Option V), fgW F f n L g = some g' → f ≤ m → g.length ≤ 100 →
    ∃ a b z', loopW (condW S fgC) (stepW S fgI) m [some (.d c0), some (.d (.int (F : Int))), some (.own 0), k, some (.d (.int (n : Int))), some (.d (.int (L : Int))), z] [.l (nI g)] =
      some (.next, [some (.d c0), some (.d (.int (F : Int))), some (.own 0), k, some a, some b, z'], [.l (nI g')])
  | 0, m, n, L, g, g', z, h, hm, hg => by cases h
  | f + 1, m, n, L, g, g', z, h, hm, hg => by
    obtain ⟨m, rfl⟩ : ∃ k, m = k + 1 := ⟨m - 1, by lia⟩
    unfold fgW at h
    by_cases h0 : n = 0
    · subst h0
      rw [if_pos rfl] at h
      cases h
      exact ⟨_, _, _, loopW_end (fg_cond S (cmp_gt0 0))⟩
    · rw [if_neg h0] at h
      split at h
      · rename_i hb
        have st := fg_body S (c0 := c0) (k := k) (z := z) (g := nI g) (HI n hb.1) (mul_nat L F (by lia) (by lia)) (by lia) (by rw [nI_len]; lia) (by rw [nI_len]; exact Nat.le_trans hg (by decide))
        rw [set_nI] at st
        obtain ⟨a, b, z', ih⟩ := fg_while (k := k) f m (n / F) (L * F) (g.set L (n % F)) g' (some (.d (.int (n % F : Nat)))) h (by lia) (by simpa using hg)
        refine ⟨a, b, z', ?_⟩
        rw [loopW_next (fg_cond S ((cmp_gt0 n).trans (by rw [decide_eq_true (by lia)]))) st]
        exact ih
      · cases h
end
section
variable (S : Sem)
theorem fg_step {c0 : PyData} {F k n : Int} {y4 y5 y6 : Option V} {a b : V} {z' : Option V} {σ σ' : Sg} (h : subD c0 (.int k) = some (.int n))
    (W : loopW (condW S fgC) (stepW S fgI) S.fuel [some (.d c0), some (.d (.int F)), some (.own 0), some (.d (.int k)), some (.d (.int n)), some (.d (.int k)), y6] σ =
      some (.next, [some (.d c0), some (.d (.int F)), some (.own 0), some (.d (.int k)), some a, some b, z'], σ')) :
    stepF S 3 fgB (.int k) [some (.d c0), some (.d (.int F)), some (.own 0), none, y4, y5, y6] σ = some (.next, [some (.d c0), some (.d (.int F)), some (.own 0), none, some a, some b, z'], σ') := by
  simp only [stepF, fgB, Ze,Zu,ZD,ZE,ZN,Yb,Yc,Yd,Ye,Yf,Yg,Yl,Yz,YA,evS_whl,h, W]
theorem fg_pop {c0 : PyData} {F : Int} {g y : List PyData} (h : slD (.list g) (some (-1)) none none = some (.list y)) {b : Bool} (hb : cmpD .eq (.list y) (.list [.int 0]) = some b) (y3 y4 y5 y6 : Option V) :
    condW S fgP [some (.d c0), some (.d (.int F)), some (.own 0), y3, y4, y5, y6] [.l g] = some (b, [.l g]) := by
  have d1 : (0 + 1 : Nat) ≤ lim := by decide
  simp only [condW, fgP, Za,Zd,Ze,Zj,Zm,Zv,Zw,ZD,ZE,Yd,Ye,Yh,Yl,Yn,Yo,Yr,Ys,Yt,Yu,Yv,Yw,YD,YH,YQ,Option.bind_some,if_true,List.length_cons,List.length_nil,Yt, Yu, Option.map_some, d1, partOf, h, hb]
theorem fg_popB {c0 : PyData} {F : Int} {g : List PyData} (h : 0 < g.length) (h' : g.length ≤ lim) (y3 y4 y5 y6 : Option V) :
    stepW S fgQ [some (.d c0), some (.d (.int F)), some (.own 0), y3, y4, y5, y6] [.l g] = some (.next, [some (.d c0), some (.d (.int F)), some (.own 0), y3, y4, y5, y6], [.l g.dropLast]) := by
  simp only [stepW, fgQ, Ze,ZS,Yb,Yc,Yd,Ye,Yh,Yj,YF,YL,if_true,h, h', and_self]
end
end Mine
end
section
open PySem PySem.W PyProof.Rows PySem.Calls
namespace Mine
theorem slP_last (n : Nat) : slP n (some (-1)) none none = if n = 0 then [] else [n - 1] := by
  by_cases h : n = 0
  · subst h; decide
  · rw [if_neg h]
    have a1 : ((-1 : Int) < 0) = True := by simp
    have a2 : ((1 : Int) > 0) = True := by simp
    have e1 : max (0 : Int) (min (-1 + (n : Int)) (n : Int)) = ((n - 1 : Nat) : Int) := by lia
    have e2 : (((n - 1 : Nat) : Int) < (n : Int)) = True := by simp; lia
    have e3 : ((n : Int) - ((n - 1 : Nat) : Int) + 1 - 1) / 1 = 1 := by lia
    simp only [slP, sliceBounds, sliceRange, Option.getD_none, a1, a2, if_true, e1, e2, e3]
    simp
theorem sl_last (xs : List PyData) (h : xs.length ≤ 1000) : slD (.list xs) (some (-1)) none none = some (.list (xs.drop (xs.length - 1))) := by
  simp only [slD]
  rw [if_pos ⟨Nat.le_trans h (by decide), by decide⟩, slP_last]
  congr 2
  cases hx : xs with
  | nil => rfl
  | cons a r =>
    rw [if_neg (by simp)]
    rw [List.drop_eq_getElem_cons (by simp : (a :: r).length - 1 < (a :: r).length)]
    simp
theorem cmp_one0 (a : Nat) : cmpD .eq (.list [nD a]) (.list [.int 0]) = some (decide (a = 0)) := by
  have h1 : ∀ i : Int, SeqAt.shaped (.list [.int i]) = true := fun _ => rfl
  unfold nD
  simp only [Je,h1, Bool.and_self, if_true, PyData.eqv, PyData.eqvAll, Bool.and_true]
  by_cases h : a = 0 <;> simp [h]
theorem cmp_nil0 : cmpD .eq (.list []) (.list [.int 0]) = some false := rfl
theorem trim_app0 (g : List Nat) : trim (g ++ [0]) = trim g := by
  refine trimmed_ext (trim_trimmed _) (trim_trimmed _) fun i => ?_
  rw [trim_getD, trim_getD]
  by_cases h : i < g.length
  · simp [List.getD, List.getElem?_append_left h]
  · simp only [List.getD, List.getElem?_append_right (Nat.le_of_not_lt h)]
    rw [List.getElem?_eq_none (Nat.le_of_not_lt h)]
    by_cases q : i - g.length = 0 <;> simp [q]
theorem trim_appS (g : List Nat) (a : Nat) (h : a ≠ 0) : trim (g ++ [a]) = g ++ [a] := trim_of_trimmed fun n hn => by
  rw [List.length_append, List.length_singleton] at hn
  have : n = g.length := by lia
  subst this
  simpa using h
section
variable (S : Sem)
theorem fg_trim {c0 : PyData} {F : Int} (y3 y4 y5 y6 : Option V) : ∀ (f : Nat) (g : List Nat), g.length + 1 ≤ f → g.length ≤ 100 →
    loopW (condW S fgP) (stepW S fgQ) f [some (.d c0), some (.d (.int F)), some (.own 0), y3, y4, y5, y6] [.l (nI g)] = some (.next, [some (.d c0), some (.d (.int F)), some (.own 0), y3, y4, y5, y6], [.l (nI (trim g))])
  | 0, g, h, _ => by lia
  | f + 1, g, h, hg => by
    have s := sl_last (nI g) (by rw [nI_len]; lia)
    rcases List.eq_nil_or_concat g with rfl | ⟨g', a, rfl⟩
    · exact loopW_end (fg_pop S s cmp_nil0 y3 y4 y5 y6)
    · rw [List.concat_eq_append] at *
      have e : (nI (g' ++ [a])).drop ((nI (g' ++ [a])).length - 1) = [nD a] := by
        rw [nI_app, List.length_append]
        show (nI g' ++ [nD a]).drop ((nI g').length + 1 - 1) = _
        simp
      rw [e] at s
      by_cases q : a = 0
      · subst q
        rw [List.length_append, List.length_singleton] at h hg
        have ih := fg_trim y3 y4 y5 y6 f g' (by lia) (by lia) (c0 := c0) (F := F)
        have st := fg_popB S (c0 := c0) (F := F) (g := nI (g' ++ [0])) (by rw [nI_len]; simp) (by rw [nI_len, List.length_append, List.length_singleton]; exact Nat.le_trans (by lia : _ ≤ 1000) (by decide)) y3 y4 y5 y6
        have e2 : (nI (g' ++ [0])).dropLast = nI g' := by rw [nI_app]; show (nI g' ++ [nD 0]).dropLast = _; simp
        rw [e2] at st
        rw [loopW_next (fg_pop S s (cmp_one0 0) y3 y4 y5 y6) st, ih, trim_app0]
      · rw [loopW_end (fg_pop S s ((cmp_one0 a).trans (by rw [decide_eq_false q])) y3 y4 y5 y6), trim_appS g' a q]
theorem fg_gen {c0 : PyData} {F l : Int} {zs gs ts : List PyData} {its : List PyData} {y4 y5 y6 : Option V} (m2 : bopD .mul (.list [.int 0]) (.int 16) = some (.list zs)) (hl : bltD .len [c0] = some (.int l)) (b1 : l < 100000) (b2 : -(2 ^ 62) < l) (hi : (rangeI 0 l).map PyData.int = its)
    (L : loopF (stepF S 3 fgB) its [some (.d c0), some (.d (.int F)), some (.own 0), none, none, none, none] [.l zs] = some (.next, [some (.d c0), some (.d (.int F)), some (.own 0), none, y4, y5, y6], [.l gs]))
    (W : loopW (condW S fgP) (stepW S fgQ) S.fuel [some (.d c0), some (.d (.int F)), some (.own 0), none, y4, y5, y6] [.l gs] = some (.next, [some (.d c0), some (.d (.int F)), some (.own 0), none, y4, y5, y6], [.l ts])) (ht : ts.length ≤ lim) :
    evBl S fgH [some (.d c0), some (.d (.int F)), none, none, none, none, none] [] = some (.ret (.d (.tuple ts)), [some (.d c0), some (.d (.int F)), some (.own 0), none, y4, y5, y6], [.l ts]) := by
  have d1 : (0 + 1 : Nat) ≤ lim := by decide
  have t1 : bltD .tuple [.list ts] = some (.tuple ts) := by simp only [Jt]; rw [if_pos ht]
  simp only [fgH, Za,Ze,Zi,Zp,Zw,ZD,ZE,ZH,ZL,ZW,Yc,Yd,Ye,Yf,Yg,Yh,Yl,Yn,Yo,Yr,Ys,Yt,Yu,YD,YH,YJ,evS_for,evS_whl,Option.bind_some,if_true,List.length_cons,List.length_nil,List.nil_append,List.mapM_cons,List.mapM_nil,Option.pure_def,Option.bind_eq_bind, Yt, Yu, Option.map_some, d1, m2, hl, b1, b2, and_self, hi, L, W, t1]
end
section
variable (S : Sem) {F : Nat} (hF : F = 2 ∨ F = 3) (HI : ∀ n : Nat, n ≤ 9 → S.Φ .idm [.d (.int (n : Int)), .d (.int (F : Int))] = some (.d (.tuple [.int ((n / F : Nat) : Int), .int ((n % F : Nat) : Int)]))) (hf : S.fuel = 400)
include hF HI hf
theorem fg_for {c : List Nat} (hc : c.length ≤ 100) : ∀ (m s : Nat) (g g' : List Nat) (y4 y5 y6 : Option V), s + m = c.length → fgAll F (c.drop s) s g = some g' → g.length = 16 →
    g'.length = 16 ∧ ∃ y4' y5' y6', loopF (stepF S 3 fgB) ((List.range' s m).map nD) [some (.d (.list (nI c))), some (.d (.int (F : Int))), some (.own 0), none, y4, y5, y6] [.l (nI g)] =
      some (.next, [some (.d (.list (nI c))), some (.d (.int (F : Int))), some (.own 0), none, y4', y5', y6'], [.l (nI g')])
  | 0, s, g, g', y4, y5, y6, hs, h, hg => by
    rw [List.drop_of_length_le (by lia)] at h
    cases h
    exact ⟨hg, _, _, _, rfl⟩
  | m + 1, s, g, g', y4, y5, y6, hs, h, hg => by
    have hsl : s < c.length := by lia
    rw [List.drop_eq_getElem_cons hsl] at h
    unfold fgAll at h
    cases e : fgW F 6 c[s] s g with
    | none => rw [e] at h; cases h
    | some g1 =>
      rw [e] at h
      have hg1 : g1.length = 16 := by rw [fgW_len F _ _ _ _ _ e]; exact hg
      obtain ⟨a, b, z', W⟩ := fg_while S hF HI (c0 := .list (nI c)) (k := some (.d (.int (s : Int)))) 6 S.fuel c[s] s g g1 y6 e (by lia) (by lia)
      have hsub : subD (.list (nI c)) (.int (s : Int)) = some (.int (c[s] : Nat)) := by
        rw [sub_list_nat c s hsl (by lia)]; simp [List.getD, hsl]
      have st := fg_step S (y4 := y4) (y5 := y5) hsub W
      obtain ⟨hl, a', b', c', ih⟩ := fg_for hc m (s + 1) g1 g' (some a) (some b) z' (by lia) h hg1
      refine ⟨hl, a', b', c', ?_⟩
      rw [List.range'_succ, List.map_cons]
      show loopF _ (PyData.int (s : Int) :: _) _ _ = _
      rw [loopF_next st]
      exact ih
theorem q_figs {c g : List Nat} (hc : c.length ≤ 100) (h : fgAll F c 0 (List.replicate 16 0) = some g) :
    runF S ir_figs [.d (.list (nI c)), .d (.int (F : Int))] = some (.d (.tuple (nI (trim g)))) := by
  have i1 : ir_figs.body = fgH := rfl
  have i2 : ir_figs.np = 2 := rfl
  have i3 : ir_figs.names.length = 7 := rfl
  obtain ⟨hl, y4, y5, y6, L⟩ := fg_for S hF HI hf hc c.length 0 (List.replicate 16 0) g none none none (by lia) h (by simp)
  have W := fg_trim S (c0 := .list (nI c)) (F := F) none y4 y5 y6 S.fuel g (by lia) (by lia)
  have htl := trim_length g
  have r1 : (rangeI 0 (c.length : Nat)).map PyData.int = (List.range' 0 c.length).map nD := by
    have := rangeI_nat 0 c.length
    rw [show ((0 : Nat) : Int) = 0 from rfl] at this
    rw [this, List.range_eq_range']
    simp
  have R := fg_gen S (mul_zero_list 16 (by decide)) (len_list c (Nat.le_trans hc (by decide))) (by lia) (by lia) r1 L W (by rw [nI_len]; exact Nat.le_trans (by lia : _ ≤ 1000) (by decide))
  simp only [runF, YT, i1, i2, i3, List.length_cons, List.length_nil, pad, List.map_cons, List.map_nil, List.replicate, List.cons_append, List.nil_append, if_true, R]
end
end Mine
end
section
open PySem PySem.W PyProof.Rows PySem.Calls
namespace Mine
theorem sum_range (f : Nat → Nat) : ∀ n, ((List.range n).map f).sum = sumR f n
  | 0 => rfl
  | n + 1 => by
    rw [List.range_succ, List.map_append, List.sum_append, sum_range f n]
    simp [sumR]
noncomputable def mvN (F ts k : Nat) : Nat := F - 1 + F * (k / ts) - F * k / ts
theorem mv_hi (F ts k : Nat) (hF : 0 < F) (ht : 0 < ts) : F * k / ts ≤ F - 1 + F * (k / ts) := by
  have h1 : k < ts * (k / ts + 1) := by
    have := Nat.div_add_mod k ts
    have := Nat.mod_lt k ht
    rw [Nat.mul_add]; lia
  have h2 : F * k < ts * (F * (k / ts + 1)) := by
    rw [Nat.mul_left_comm]
    exact Nat.mul_lt_mul_of_pos_left h1 hF
  have h3 : F * k / ts < F * (k / ts + 1) := Nat.div_lt_of_lt_mul h2
  rw [Nat.mul_add, Nat.mul_one] at h3
  omega
theorem mv_lo (F ts k : Nat) (ht : 0 < ts) : F * (k / ts) ≤ F * k / ts := by
  rw [Nat.le_div_iff_mul_le ht, Nat.mul_assoc]
  exact Nat.mul_le_mul_left F (Nat.div_mul_le_self k ts)
noncomputable def mvS (F ts : Nat) (P : List Nat) : Nat := (P.map (mvN F ts)).sum
noncomputable def colE : PE := .bin .mul (.bin .mul (.sub (.var 0) (.var 7)) (.var 6)) (.bin .add (.bin .fdiv (.var 7) (.var 6)) (.int 1))
noncomputable def movE : PE := .bin .sub (.bin .sub (.var 3) (.int 1)) (.bin .sub (.bin .fdiv (.bin .mul (.var 3) (.var 9)) (.var 6)) (.bin .mul (.var 3) (.bin .fdiv (.var 9) (.var 6))))
noncomputable def colsB : PB := (.cons (.asg 8 (.bin .add (.var 2) (.cB .sum (.cons (.lc colE 7 (.rng1 (.cB .len (.cons (.var 0) .nil))) (.tt true) [0, 6]) .nil))))
      (.cons (.asg 10 (.cB .sum (.cons (.lc movE 9 (.it (.var 1)) (.tt true) [3, 6]) .nil)))
      (.cons (.app (.var 5) (.tp (.cons (.var 6) (.cons (.var 8) (.cons (.bin .sub (.var 8) (.bin .mul (.var 6) (.var 10))) .nil)))))
      .nil)))
noncomputable def colsH : PB := (.cons (.asg 5 (.lsO .nil))
      (.cons (.for_ 6 (.rng2 (.int 1) (.bin .add (.var 4) (.int 1))) colsB)
      (.cons (.ret (.var 5))
      .nil)))
section
variable (S : Sem)
theorem col_item {cs : PyData} {ts k c a q q1 r : Int} (h1 : subD cs (.int k) = some (.int c)) (h2 : bopD .mul (.int c) (.int ts) = some (.int a)) (h3 : bopD .fdiv (.int k) (.int ts) = some (.int q)) (h4 : bopD .add (.int q) (.int 1) = some (.int q1)) (h5 : bopD .mul (.int a) (.int q1) = some (.int r)) :
    stepC S [some (.d cs), none, none, none, none, none, some (.d (.int ts)), none, none, none, none] 7 (.tt true) colE (.int k) = some (some (.int r)) := by
  simp only [stepC, colE, Za,Zc,Ze,Zh,Zu,Yd,Ye,Yf,Yg,Yl,Yv,Yw,YD,YP,Option.bind_some,h1, h2, h3, h4, h5]
theorem mov_item {F ts k f1 a b d e r : Int} (h1 : bopD .sub (.int F) (.int 1) = some (.int f1)) (h2 : bopD .mul (.int F) (.int k) = some (.int a)) (h3 : bopD .fdiv (.int a) (.int ts) = some (.int b)) (h4 : bopD .fdiv (.int k) (.int ts) = some (.int d)) (h5 : bopD .mul (.int F) (.int d) = some (.int e)) (h6 : bopD .sub (.int b) (.int e) = some (.int g)) (h7 : bopD .sub (.int f1) (.int g) = some (.int r)) :
    stepC S [none, none, none, some (.d (.int F)), none, none, some (.d (.int ts)), none, none, none, none] 9 (.tt true) movE (.int k) = some (some (.int r)) := by
  simp only [stepC, movE, Za,Zc,Ze,Zh,Yd,Ye,Yf,Yg,Yl,Yv,Yw,YD,YP,Option.bind_some,h1, h2, h3, h4, h5, h6, h7]
theorem cols_body {cs : PyData} {js ys zs xs its : List PyData} {e F n ts l s col mv tm v : Int} {y8 y10 : Option V} (hl : bltD .len [cs] = some (.int l)) (b1 : l < 100000) (b2 : -(2 ^ 62) < l) (hi : (rangeI 0 l).map PyData.int = its)
    (L1 : loopC (stepC S.cut [some (.d cs), none, none, none, none, none, some (.d (.int ts)), none, none, none, none] 7 (.tt true) colE) its = some ys) (hl1 : its.length ≤ lim) (s1 : bltD .sum [.list ys] = some (.int s)) (a1 : bopD .add (.int e) (.int s) = some (.int col))
    (it : itemsD (.list js) = some js) (hl2 : js.length ≤ lim) (L2 : loopC (stepC S.cut [none, none, none, some (.d (.int F)), none, none, some (.d (.int ts)), none, none, none, none] 9 (.tt true) movE) js = some zs) (s2 : bltD .sum [.list zs] = some (.int mv))
    (m1 : bopD .mul (.int ts) (.int mv) = some (.int tm)) (d1 : bopD .sub (.int col) (.int tm) = some (.int v)) (hx : xs.length ≤ lim) :
    stepF S 6 colsB (.int ts) [some (.d cs), some (.d (.list js)), some (.d (.int e)), some (.d (.int F)), some (.d (.int n)), some (.own 0), none, none, y8, none, y10] [.l xs] =
      some (.next, [some (.d cs), some (.d (.list js)), some (.d (.int e)), some (.d (.int F)), some (.d (.int n)), some (.own 0), none, none, some (.d (.int col)), none, some (.d (.int mv))], [.l (xs ++ [.tuple [.int ts, .int col, .int v]])]) := by
  have em1 : ∀ y8 y10, mask [0, 6] 0 [some (.d cs), some (.d (.list js)), some (.d (.int e)), some (.d (.int F)), some (.d (.int n)), some (.own 0), some (.d (.int ts)), none, y8, none, y10] = [some (.d cs), none, none, none, none, none, some (.d (.int ts)), none, none, none, none] := fun _ _ => rfl
  have em2 : ∀ y8 y10, mask [3, 6] 0 [some (.d cs), some (.d (.list js)), some (.d (.int e)), some (.d (.int F)), some (.d (.int n)), some (.own 0), some (.d (.int ts)), none, y8, none, y10] = [none, none, none, some (.d (.int F)), none, none, some (.d (.int ts)), none, none, none, none] := fun _ _ => rfl
  have d3 : (0 + 1 + 1 + 1 : Nat) ≤ lim := by decide
  simp only [stepF, colsB, Ze,Zh,Zp,Zy,ZD,ZE,ZH,ZK,ZL,ZR,Yb,Yc,Yd,Ye,Yf,Yg,Yh,Yj,Yl,Yo,Yr,Ys,Yt,Yu,YD,YF,YH,YL,evE_lc,Option.bind_some,if_true,List.length_cons,List.length_nil,List.mapM_cons,List.mapM_nil,Option.pure_def,Option.bind_eq_bind, em1, em2, hl, b1, b2, and_self, hi, L1, hl1, s1, a1, it, L2, hl2, s2, m1, d1, hx, Yt, Yu, Option.map_some, d3]
theorem cols_gen {cs : PyData} {js rs its : List PyData} {e F n n1 : Int} {y8 y10 : Option V} (a1 : bopD .add (.int n) (.int 1) = some (.int n1)) (b1 : n1 < 100000) (b2 : -(2 ^ 62) < n1) (hi : (rangeI 1 n1).map PyData.int = its)
    (L : loopF (stepF S 6 colsB) its [some (.d cs), some (.d (.list js)), some (.d (.int e)), some (.d (.int F)), some (.d (.int n)), some (.own 0), none, none, none, none, none] [.l []] = some (.next, [some (.d cs), some (.d (.list js)), some (.d (.int e)), some (.d (.int F)), some (.d (.int n)), some (.own 0), none, none, y8, none, y10], [.l rs])) :
    evBl S colsH [some (.d cs), some (.d (.list js)), some (.d (.int e)), some (.d (.int F)), some (.d (.int n)), none, none, none, none, none, none] [] = some (.ret (.d (.list rs)), [some (.d cs), some (.d (.list js)), some (.d (.int e)), some (.d (.int F)), some (.d (.int n)), some (.own 0), none, none, y8, none, y10], [.x]) := by
  have g1 : -100000 < (1 : Int) := by decide
  have g2 : (1 : Int) < 2 ^ 62 := by decide
  simp only [colsH, Za,Ze,Zh,Zx,ZD,ZI,ZL,ZW,Yc,Yd,Ye,Yf,Yg,Yh,Yj,Yl,Yq,Yr,Yt,YD,YH,evS_for,Nat.zero_le,if_true,List.length_nil,List.nil_append,Yt, a1, g1, g2, b1, b2, and_self, hi, L]
end
end Mine
end
section
open PySem PySem.W PyProof.Rows PySem.Calls
namespace Mine
theorem sumR_mul (t : Nat) (f : Nat → Nat) : ∀ n, sumR (fun i => t * f i) n = t * sumR f n
  | 0 => rfl
  | n + 1 => by simp only [sumR]; rw [sumR_mul t f n, Nat.mul_add]
theorem sum_nI (l : List Nat) : bltD .sum [.list (nI l)] = some (.int (l.sum : Nat)) := by
  simp only [Jr,intsOf_nI, sum_ofNat]
theorem col_sum (c : List Nat) (ts : Nat) : ((List.range c.length).map fun k => c.getD k 0 * ts * (k / ts + 1)).sum = ts * dot (fun i => i / ts + 1) c 0 := by
  rw [sum_range, dot_sumR, ← sumR_mul]
  exact sumR_congr _ fun k _ => by rw [Nat.zero_add, Nat.mul_comm (c.getD k 0) ts, Nat.mul_assoc]
theorem mvS_le (F ts : Nat) (ht : 0 < ts) : ∀ P : List Nat, mvS F ts P ≤ P.length * F
  | [] => by simp [mvS]
  | k :: P => by
    have ih := mvS_le F ts ht P
    have := mv_lo F ts k ht
    unfold mvS at ih ⊢
    rw [List.map_cons, List.sum_cons, List.length_cons, Nat.add_mul]
    unfold mvN
    unfold mvN at ih
    omega
noncomputable def cRow (F : Nat) (c P : List Nat) (e ts : Nat) : PyData := .tuple [nD ts, nD (Ind ts c e), .int (((Ind ts c e : Nat) : Int) - ((ts * mvS F ts P : Nat) : Int))]
noncomputable def slot (f : Nat → Nat) : Nat → Option V
  | 0 => none
  | k + 1 => some (.d (.int (f (1 + k) : Nat)))
section
variable (S : Sem) {F : Nat} (hF : F = 2 ∨ F = 3) {c P : List Nat} {e : Nat} (hl : c.length ≤ 90) (hs : c.sum ≤ 100) (he : e ≤ 90) (hP : ∀ k ∈ P, k ≤ 100) (hPl : P.length ≤ 100)
include hF hl hs he hP hPl
theorem cols_row {n : Nat} {ts : Nat} (h0 : 0 < ts) (h1 : ts ≤ 100) (xs : List PyData) (hx : xs.length ≤ lim) (y8 y10 : Option V) :
    stepF S 6 colsB (.int (ts : Int)) [some (.d (.list (nI c))), some (.d (.list (nI P))), some (.d (.int (e : Int))), some (.d (.int (F : Int))), some (.d (.int (n : Int))), some (.own 0), none, none, y8, none, y10] [.l xs] =
      some (.next, [some (.d (.list (nI c))), some (.d (.list (nI P))), some (.d (.int (e : Int))), some (.d (.int (F : Int))), some (.d (.int (n : Int))), some (.own 0), none, none, some (.d (.int (Ind ts c e : Nat))), none, some (.d (.int (mvS F ts P : Nat)))], [.l (xs ++ [cRow F c P e ts])]) := by
  have hF3 : F ≤ 3 := by lia
  have r1 := rangeI_nat 0 c.length
  rw [show ((0 : Nat) : Int) = 0 from rfl, Nat.sub_zero] at r1
  have L1 : loopC (stepC S.cut [some (.d (.list (nI c))), none, none, none, none, none, some (.d (.int (ts : Int))), none, none, none, none] 7 (.tt true) colE) ((List.range c.length).map fun k => nD (0 + k)) = some (nI ((List.range c.length).map fun k => c.getD k 0 * ts * (k / ts + 1))) := by
    rw [loopC_map (h := fun k => some (nD (c.getD k 0 * ts * (k / ts + 1)))) (List.range c.length) (fun k hk => by
      have hk := List.mem_range.mp hk
      have hm := getD_le_sum c k
      have hd := Nat.div_le_self k ts
      have hmul : c.getD k 0 * ts ≤ 100 * 100 := Nat.mul_le_mul (by lia) h1
      rw [Nat.zero_add]
      exact col_item S.cut (sub_list_nat c k hk (by lia)) (mul_nat (c.getD k 0) ts (by lia) (by lia)) (fdiv_nat k ts h0 (by lia)) (add_nat1 (k / ts)) (mul_nat _ _ (by lia) (by lia)))]
    rw [List.filterMap_eq_map']
    simp [nI]
  have L2 : loopC (stepC S.cut [none, none, none, some (.d (.int (F : Int))), none, none, some (.d (.int (ts : Int))), none, none, none, none] 9 (.tt true) movE) (nI P) = some (nI (P.map (mvN F ts))) := by
    show loopC _ (P.map nD) = _
    rw [loopC_map (g := nD) (h := fun k => some (nD (mvN F ts k))) P (fun k hk => by
      have hk := hP k hk
      have hd := Nat.div_le_self k ts
      have hFk : F * k ≤ 3 * 100 := Nat.mul_le_mul hF3 hk
      have u := mv_hi F ts k (by lia) h0
      have v := mv_lo F ts k h0
      have s1 : bopD .sub (.int (F : Int)) (.int 1) = some (.int ((F - 1 : Nat) : Int)) := by
        simp only [YY]; congr 2; lia
      have s2 : bopD .sub (.int ((F * k / ts : Nat) : Int)) (.int ((F * (k / ts) : Nat) : Int)) = some (.int ((F * k / ts - F * (k / ts) : Nat) : Int)) := by
        simp only [YY]; congr 2; omega
      have s3 : bopD .sub (.int ((F - 1 : Nat) : Int)) (.int ((F * k / ts - F * (k / ts) : Nat) : Int)) = some (.int ((mvN F ts k : Nat) : Int)) := by
        simp only [YY]; congr 2; unfold mvN; omega
      exact mov_item S.cut s1 (mul_nat F k (by lia) (by lia)) (fdiv_nat (F * k) ts h0 (by lia)) (fdiv_nat k ts h0 (by lia)) (mul_nat F (k / ts) (by lia) (by lia)) s2 s3)]
    rw [List.filterMap_eq_map']
    simp [nI]
  have hpl : (nI P).length ≤ lim := by rw [nI_len]; exact Nat.le_trans hPl (by decide)
  have it : itemsD (.list (nI P)) = some (nI P) := by simp only [itemsD]; rw [if_pos hpl]
  have s1 := sum_nI ((List.range c.length).map fun k => c.getD k 0 * ts * (k / ts + 1))
  rw [col_sum] at s1
  have hm : mvS F ts P ≤ 100 * 3 := Nat.le_trans (mvS_le F ts h0 P) (Nat.mul_le_mul hPl hF3)
  exact cols_body S (len_list c (Nat.le_trans hl (by decide))) (by lia) (by lia) r1 L1 (by rw [List.length_map, List.length_range]; exact Nat.le_trans hl (by decide)) s1 (add_nat e _) it hpl L2 (sum_nI _) (mul_nat ts (mvS F ts P) (by lia) (by lia)) (by simp only [YY]) hx
theorem q_cols {n : Nat} (hn : n ≤ 99) :
    runF S ir_cols [.d (.list (nI c)), .d (.list (nI P)), .d (.int (e : Int)), .d (.int (F : Int)), .d (.int (n : Int))] = some (.d (.list ((List.range n).map fun k => cRow F c P e (1 + k)))) := by
  have i1 : ir_cols.body = colsH := rfl
  have i2 : ir_cols.np = 5 := rfl
  have i3 : ir_cols.names.length = 11 := rfl
  have L := loopF_idx (f := stepF S 6 colsB) (fun k => nD (1 + k)) (fun k => ([some (.d (.list (nI c))), some (.d (.list (nI P))), some (.d (.int (e : Int))), some (.d (.int (F : Int))), some (.d (.int (n : Int))), some (.own 0), none, none, slot (fun ts => Ind ts c e) k, none, slot (fun ts => mvS F ts P) k], [.l ((List.range k).map fun k => cRow F c P e (1 + k))])) n (by
    intro k hk
    rw [List.range_succ, List.map_append]
    exact cols_row S hF hl hs he hP hPl (by lia) (by lia) _ (by rw [List.length_map, List.length_range]; exact Nat.le_trans (by lia : k ≤ 100) (by decide)) _ _)
  have r1 := rangeI_nat 1 (n + 1)
  rw [show ((1 : Nat) : Int) = 1 from rfl, show n + 1 - 1 = n from rfl] at r1
  have R := cols_gen S (add_nat1 n) (by lia) (by lia) r1 L
  simp only [runF, YT, i1, i2, i3, List.length_cons, List.length_nil, pad, List.map_cons, List.map_nil, List.replicate, List.cons_append, List.nil_append, if_true, R]
end
end Mine
end
section
open PySem PySem.W PyProof.Rows PySem.Calls
namespace Mine
theorem dot_addAt (w : Nat → Nat) (m : Nat) : ∀ (g : List Nat) (i k : Nat), i < g.length → dot w (addAt g i m) k = dot w g k + m * w (k + i)
  | [], i, k, h => absurd h (Nat.not_lt_zero _)
  | a :: r, 0, k, h => by
    simp only [addAt, List.set_cons_zero, List.getD_cons_zero, dot, Nat.add_mul, Nat.add_zero]; lia
  | a :: r, i + 1, k, h => by
    have ih := dot_addAt w m r i (k + 1) (by simpa using h)
    simp only [addAt] at ih
    simp only [addAt, List.set_cons_succ, List.getD_cons_succ, dot, ih]
    rw [show k + 1 + i = k + (i + 1) by lia]; lia
theorem dot_zeros (w : Nat → Nat) : ∀ n k, dot w (List.replicate n 0) k = 0
  | 0, _ => rfl
  | n + 1, k => by rw [List.replicate_succ, dot, dot_zeros w n]; simp
noncomputable def sJ (F : Nat) (w : Nat → Nat) (P : List Nat) : Nat := (P.map fun k => F * w k).sum
noncomputable def sF (F : Nat) (w : Nat → Nat) (P : List Nat) : Nat := (P.map fun k => w (F * k)).sum
theorem sJ_app (F w) (a b : List Nat) : sJ F w (a ++ b) = sJ F w a + sJ F w b := by simp [sJ]
theorem sF_app (F w) (a b : List Nat) : sF F w (a ++ b) = sF F w a + sF F w b := by simp [sF]
theorem sum_rep (x : Nat) : ∀ n, (List.replicate n x).sum = n * x
  | 0 => by simp
  | n + 1 => by rw [List.replicate_succ, List.sum_cons, sum_rep x n, Nat.add_mul]; lia
theorem sJ_rep (F w n k) : sJ F w (List.replicate n k) = n * (F * w k) := by simp only [sJ, List.map_replicate, sum_rep]
theorem sF_rep (F w n k) : sF F w (List.replicate n k) = n * w (F * k) := by simp only [sF, List.map_replicate, sum_rep]
theorem grow_dot (F : Nat) (hF : 0 < F) (w : Nat → Nat) : ∀ (cs : List Nat) (L : Nat) (g J : List Nat), F * (L + cs.length) ≤ g.length →
    dot w (grow F cs L g J).1 0 + sJ F w (grow F cs L g J).2 + sF F w J = dot w g 0 + dot w cs L + sF F w (grow F cs L g J).2 + sJ F w J
  | [], L, g, J, h => by simp only [grow, dot]; lia
  | n :: cs, L, g, J, h => by
    rw [List.length_cons] at h
    have hlt : F * L + F ≤ g.length := by
      have : F * (L + 1) ≤ F * (L + (cs.length + 1)) := Nat.mul_le_mul_left _ (by lia)
      rw [Nat.mul_add, Nat.mul_one] at this; lia
    have hL : L ≤ F * L := Nat.le_mul_of_pos_left L hF
    have ih := grow_dot F hF w cs (L + 1) (addAt (addAt g (F * L) (n / F)) L (n % F)) (J ++ List.replicate (n / F) L) (by rw [addAt_len, addAt_len, show L + 1 + cs.length = L + (cs.length + 1) by lia]; exact h)
    have e1 := dot_addAt w (n % F) (addAt g (F * L) (n / F)) L 0 (by rw [addAt_len]; lia)
    have e2 := dot_addAt w (n / F) g (F * L) 0 (by lia)
    rw [Nat.zero_add] at e1 e2
    rw [e1, e2, sJ_app, sF_app, sJ_rep, sF_rep] at ih
    have e3 : n * w L = n % F * w L + n / F * (F * w L) := by
      rw [← Nat.mul_assoc, ← Nat.add_mul, Nat.mul_comm (n / F) F, Nat.mod_add_div]
    simp only [grow, dot]
    lia
theorem growAll_dot (F : Nat) (hF : 0 < F) (w : Nat → Nat) (c : List Nat) : dot w (growAll F c).1 0 + sJ F w (growAll F c).2 = dot w c 0 + sF F w (growAll F c).2 := by
  have h := grow_dot F hF w c 0 (List.replicate (F * c.length) 0) [] (by rw [List.length_replicate, Nat.zero_add]; exact Nat.le_refl _)
  rw [dot_zeros] at h
  simp only [sF, sJ, List.map_nil, List.sum_nil] at h
  unfold growAll sF sJ
  lia

noncomputable def rounds (F : Nat) : Nat → List Nat → List Nat → Option (List Nat × List Nat × List Nat)
  | 0, _, _ => none
  | t + 1, c, P => if c.length ≤ 30 ∧ c.sum ≤ 24 ∧ (growAll F c).1.sum ≤ 24 ∧ (growAll F c).1.length ≤ 90 ∧ P.length ≤ 40 then
      (if (growAll F c).2 = [] then (if trim (growAll F c).1 = c then some ((growAll F c).1, c, P) else none)
       else (if trim (growAll F c).1 = c then none else rounds F t (trim (growAll F c).1) (P ++ (growAll F c).2)))
    else none
theorem rounds_dot (F : Nat) (hF : 0 < F) (w : Nat → Nat) : ∀ (t : Nat) (c P g cf P' : List Nat), rounds F t c P = some (g, cf, P') → dot w cf 0 + sJ F w P' + sF F w P = dot w c 0 + sF F w P' + sJ F w P
  | 0, _, _, _, _, _, h => by cases h
  | t + 1, c, P, g, cf, P', h => by
    unfold rounds at h
    split at h
    · split at h
      · split at h
        · cases h; lia
        · cases h
      · split at h
        · cases h
        · have ih := rounds_dot F hF w t _ _ _ _ _ h
          have e := growAll_dot F hF w c
          rw [trim_dot, sJ_app, sF_app] at ih
          lia
    · cases h
theorem sJ_mv (F ts : Nat) (hF : 0 < F) (ht : 0 < ts) : ∀ P : List Nat, sJ F (fun i => i / ts + 1) P = sF F (fun i => i / ts + 1) P + mvS F ts P
  | [] => by simp [sJ, sF, mvS]
  | k :: P => by
    have ih := sJ_mv F ts hF ht P
    have u := mv_hi F ts k hF ht
    simp only [sJ, sF, mvS, List.map_cons, List.sum_cons] at ih ⊢
    rw [ih, Nat.mul_add, Nat.mul_one]
    unfold mvN
    lia
theorem sJ_n (F : Nat) (hF : 0 < F) : ∀ P : List Nat, sJ F (· + 1) P = sF F (· + 1) P + (F - 1) * P.length
  | [] => by simp [sJ, sF]
  | k :: P => by
    have ih := sJ_n F hF P
    simp only [sJ, sF, List.map_cons, List.sum_cons, List.length_cons] at ih ⊢
    rw [ih, Nat.mul_add, Nat.mul_add]
    lia
theorem rounds_ind {F : Nat} (hF : 0 < F) {t : Nat} {c g cf P : List Nat} (h : rounds F t c [] = some (g, cf, P)) {ts : Nat} (ht : 0 < ts) (e : Nat) : Ind ts c e = Ind ts cf e + ts * mvS F ts P := by
  have r := rounds_dot F hF (fun i => i / ts + 1) t c [] g cf P h
  rw [sJ_mv F ts hF ht] at r
  simp only [sJ, sF, List.map_nil, List.sum_nil] at r
  have : dot (fun i => i / ts + 1) c 0 = dot (fun i => i / ts + 1) cf 0 + mvS F ts P := by lia
  unfold Ind
  rw [this, Nat.mul_add]; lia
theorem rounds_n {F : Nat} (hF : 0 < F) {t : Nat} {c g cf P : List Nat} (h : rounds F t c [] = some (g, cf, P)) : dot (· + 1) c 0 = dot (· + 1) cf 0 + (F - 1) * P.length := by
  have r := rounds_dot F hF (· + 1) t c [] g cf P h
  rw [sJ_n F hF] at r
  simp only [sJ, sF, List.map_nil, List.sum_nil] at r
  lia
theorem mvS_one {F : Nat} : ∀ P : List Nat, mvS F 1 P = (F - 1) * P.length
  | [] => by simp [mvS]
  | k :: P => by
    have ih := mvS_one (F := F) P
    simp only [mvS, List.map_cons, List.sum_cons, List.length_cons] at ih ⊢
    rw [ih, Nat.mul_add]
    unfold mvN
    simp only [Nat.div_one]
    lia
noncomputable def drawnL (F a b c d : Nat) : List Nat := if F = 3 then [0, a, b, 0, c, d, 0, 0] else [0, a, 0, b, 0, c, 0, d]
structure Deal (F : Nat) (c0 g cf P u : List Nat) : Prop where
  rd : rounds F 4 (trim c0) [] = some (g, cf, P)
  fg : fgAll F c0 0 (List.replicate 16 0) = some u
  due : trim u = cf
  tg : trim g = cf
  le : (trim c0).length ≤ cf.length
  lf : cf.length ≤ 30
  sf : cf.sum ≤ 24
  sg : g.sum ≤ 24
  lg : g.length ≤ 90
  pl : P.length ≤ 40
  pk : ∀ k ∈ P, k ≤ 100
  two : trim c0 = [] ∨ 2 ≤ (trim c0).length
  nil : trim c0 = [] → P = [] ∧ cf = []
noncomputable def chk (F : Nat) (c0 : List Nat) : Bool :=
  match rounds F 4 (trim c0) [], fgAll F c0 0 (List.replicate 16 0) with
  | some (g, cf, P), some u => decide (trim u = cf) && decide (trim g = cf) && decide ((trim c0).length ≤ cf.length) && decide (cf.length ≤ 30) && decide (cf.sum ≤ 24) && decide (g.sum ≤ 24) && decide (g.length ≤ 90) && decide (P.length ≤ 40) && P.all (fun k => decide (k ≤ 100)) &&
      (decide (trim c0 = []) || decide (2 ≤ (trim c0).length)) && (decide (trim c0 ≠ []) || (decide (P = []) && decide (cf = [])))
  | _, _ => false
theorem deal_of {F : Nat} {c0 : List Nat} (h : chk F c0 = true) : ∃ g cf P u, Deal F c0 g cf P u := by
  unfold chk at h
  split at h
  · rename_i g cf P u h1 h2
    simp only [Bool.and_eq_true, Bool.or_eq_true, decide_eq_true_eq, List.all_eq_true] at h
    obtain ⟨⟨⟨⟨⟨⟨⟨⟨⟨⟨a1, a2⟩, a3⟩, a4⟩, a5⟩, a6⟩, a7⟩, a8⟩, a9⟩, b1⟩, b2⟩ := h
    exact ⟨g, cf, P, u, h1, h2, a1, a2, a3, a4, a5, a6, a7, a8, a9, b1, fun q => b2.resolve_left (fun n => n q)⟩
  · cases h
noncomputable def chkA (F a : Nat) : Bool := (List.range 5).all fun b => (List.range 3).all fun c => (List.range 2).all fun d => chk F (drawnL F a b c d)
theorem chk_2_0 : chkA 2 0 = true := by decide +kernel
theorem chk_2_1 : chkA 2 1 = true := by decide +kernel
theorem chk_2_2 : chkA 2 2 = true := by decide +kernel
theorem chk_2_3 : chkA 2 3 = true := by decide +kernel
theorem chk_2_4 : chkA 2 4 = true := by decide +kernel
theorem chk_2_5 : chkA 2 5 = true := by decide +kernel
theorem chk_2_6 : chkA 2 6 = true := by decide +kernel
theorem chk_2_7 : chkA 2 7 = true := by decide +kernel
theorem chk_2_8 : chkA 2 8 = true := by decide +kernel
theorem chk_2_9 : chkA 2 9 = true := by decide +kernel
theorem chk_3_0 : chkA 3 0 = true := by decide +kernel
theorem chk_3_1 : chkA 3 1 = true := by decide +kernel
theorem chk_3_2 : chkA 3 2 = true := by decide +kernel
theorem chk_3_3 : chkA 3 3 = true := by decide +kernel
theorem chk_3_4 : chkA 3 4 = true := by decide +kernel
theorem chk_3_5 : chkA 3 5 = true := by decide +kernel
theorem chk_3_6 : chkA 3 6 = true := by decide +kernel
theorem chk_3_7 : chkA 3 7 = true := by decide +kernel
theorem chk_3_8 : chkA 3 8 = true := by decide +kernel
theorem chk_3_9 : chkA 3 9 = true := by decide +kernel
theorem deals {F : Nat} (hF : F = 2 ∨ F = 3) {a b c d : Nat} (ha : a < 10) (hb : b < 5) (hc : c < 3) (hd : d < 2) : ∃ g cf P u, Deal F (drawnL F a b c d) g cf P u := by
  have hA : chkA F a = true := by
    rcases hF with rfl | rfl
    · match a, ha with
      | 0, _ => exact chk_2_0
      | 1, _ => exact chk_2_1
      | 2, _ => exact chk_2_2
      | 3, _ => exact chk_2_3
      | 4, _ => exact chk_2_4
      | 5, _ => exact chk_2_5
      | 6, _ => exact chk_2_6
      | 7, _ => exact chk_2_7
      | 8, _ => exact chk_2_8
      | 9, _ => exact chk_2_9
    · match a, ha with
      | 0, _ => exact chk_3_0
      | 1, _ => exact chk_3_1
      | 2, _ => exact chk_3_2
      | 3, _ => exact chk_3_3
      | 4, _ => exact chk_3_4
      | 5, _ => exact chk_3_5
      | 6, _ => exact chk_3_6
      | 7, _ => exact chk_3_7
      | 8, _ => exact chk_3_8
      | 9, _ => exact chk_3_9
  have h1 := List.all_eq_true.mp hA b (List.mem_range.mpr hb)
  have h2 := List.all_eq_true.mp h1 c (List.mem_range.mpr hc)
  exact deal_of (List.all_eq_true.mp h2 d (List.mem_range.mpr hd))
end Mine
end
section
open PySem PySem.W PyProof.Rows PySem.Calls
namespace Mine
theorem dot_w1 (c : List Nat) (k : Nat) : dot (fun i => i / 1 + 1) c k = dot (· + 1) c k := by
  congr 1; funext i; rw [Nat.div_one]
theorem dot_flat {w : Nat → Nat} : ∀ (c : List Nat) (k : Nat), (∀ i, i < k + c.length → w i = 1) → dot w c k = c.sum
  | [], _, _ => rfl
  | a :: r, k, h => by
    rw [dot, dot_flat r (k + 1) (fun i hi => h i (by rw [List.length_cons]; lia)), h k (by rw [List.length_cons]; lia), List.sum_cons, Nat.mul_one]
theorem isEmpty_filterMap {α β : Type} (f : α → Option β) (l : List α) : (l.filterMap f).isEmpty = l.all fun a => (f a).isNone := by
  rw [Bool.eq_iff_iff, List.isEmpty_iff, List.filterMap_eq_nil_iff, List.all_eq_true]
  simp [Option.isNone_iff_eq_none]
theorem filterMap_congr' {α β : Type} {f g : α → Option β} : ∀ {l : List α}, (∀ a ∈ l, f a = g a) → l.filterMap f = l.filterMap g
  | [], _ => rfl
  | a :: r, h => by
    rw [List.filterMap_cons, List.filterMap_cons, h a (.head _), filterMap_congr' (fun b hb => h b (.tail _ hb))]
theorem all_range_succ (p : Nat → Bool) (n : Nat) : (List.range (n + 1)).all p = (p 0 && (List.range n).all fun k => p (k + 1)) := by
  rw [List.range_succ_eq_map, List.all_cons, List.all_map]
  rfl
theorem lng_eq {a b e e' : Nat} (h : a ≤ b) (he : e ≤ e') : max (max (a - 1) e) (max (b - 1) e') + 1 = max b (e' + 1) := by
  have h1 : max (a - 1) e ≤ max (b - 1) e' := Nat.max_le.mpr ⟨Nat.le_trans (Nat.sub_le_sub_right h 1) (Nat.le_max_left _ _), Nat.le_trans he (Nat.le_max_right _ _)⟩
  rw [Nat.max_eq_right h1]
  cases b with
  | zero => rw [Nat.zero_sub, Nat.zero_max, Nat.zero_max]
  | succ b => rw [Nat.add_sub_cancel, Nat.add_max_add_right]
theorem max_succ' (a e : Nat) : ∃ m, max a (e + 1) = m + 1 := ⟨max a (e + 1) - 1, (Nat.sub_add_cancel (Nat.le_trans (Nat.succ_le_succ (Nat.zero_le e)) (Nat.le_max_right _ _))).symm⟩
section
variable {F : Nat} (hF : F = 2 ∨ F = 3) {c0 g cf P u : List Nat} (D : Deal F c0 g cf P u) (e : Nat)
noncomputable def moreN (F : Nat) (P : List Nat) (e : Nat) : Nat := e + 1 + (F - 1) * P.length
include hF D
theorem A_eq {ts : Nat} (h : 0 < ts) : Ind ts (trim c0) e = Ind ts cf e + ts * mvS F ts P := rounds_ind (by lia) D.rd h e
theorem Q_eq (ts : Nat) : Ind ts cf (moreN F P e) = Ind ts cf e + (moreN F P e - e) := by unfold Ind moreN; lia
theorem l_1 : lng (trim c0) e cf e = max cf.length (e + 1) := lng_eq D.le (Nat.le_refl _)
theorem l_2 : lng cf e (trim c0) e = max cf.length (e + 1) := by unfold lng; rw [Nat.max_comm]; exact lng_eq D.le (Nat.le_refl _)
theorem l_3 : lng cf (moreN F P e) (trim c0) e = max cf.length (moreN F P e + 1) := by unfold lng; rw [Nat.max_comm]; exact lng_eq D.le (Nat.le_trans (Nat.le_succ _) (Nat.le_add_right _ _))
theorem l_4 : lng (trim c0) e cf (moreN F P e) = max cf.length (moreN F P e + 1) := lng_eq D.le (Nat.le_trans (Nat.le_succ _) (Nat.le_add_right _ _))
theorem L1 : nlwL (trim c0) e cf e = (List.range (max cf.length (e + 1))).map fun k => row3 (1 + k) (Ind (1 + k) (trim c0) e) (Ind (1 + k) cf e) := by
  unfold nlwL
  rw [l_1 hF D e, ← List.filterMap_eq_map']
  refine filterMap_congr' fun k _ => ?_
  rw [if_pos (by rw [A_eq hF D e (by lia)]; lia)]
theorem L2 : newL (trim c0) e cf e = (List.range (max cf.length (e + 1))).filterMap fun k => if Ind (1 + k) (trim c0) e ≠ Ind (1 + k) cf e then some (row3 (1 + k) (Ind (1 + k) (trim c0) e) (Ind (1 + k) cf e)) else none := by
  unfold newL
  rw [l_1 hF D e]
theorem L3 : nlwL cf e (trim c0) e = (List.range (max cf.length (e + 1))).filterMap fun k => if Ind (1 + k) (trim c0) e = Ind (1 + k) cf e then some (row3 (1 + k) (Ind (1 + k) cf e) (Ind (1 + k) (trim c0) e)) else none := by
  unfold nlwL
  rw [l_2 hF D e]
  refine filterMap_congr' fun k _ => ?_
  have := A_eq hF D e (ts := 1 + k) (by lia)
  by_cases q : Ind (1 + k) (trim c0) e = Ind (1 + k) cf e
  · rw [if_pos q, if_pos (by omega)]
  · rw [if_neg q, if_neg (by omega)]
theorem L4 : newL cf (moreN F P e) (trim c0) e = (List.range (max cf.length (moreN F P e + 1))).filterMap fun k => if Ind (1 + k) (trim c0) e ≠ Ind (1 + k) cf (moreN F P e) then some (row3 (1 + k) (Ind (1 + k) cf (moreN F P e)) (Ind (1 + k) (trim c0) e)) else none := by
  unfold newL
  rw [l_3 hF D e]
  refine filterMap_congr' fun k _ => ?_
  by_cases q : Ind (1 + k) (trim c0) e = Ind (1 + k) cf (moreN F P e)
  · rw [if_neg (by simp [q]), if_neg (by simp [q])]
  · rw [if_pos (fun z => q z.symm), if_pos q]
theorem L6 : nlwL (trim c0) e cf (moreN F P e) = (List.range (max cf.length (moreN F P e + 1))).filterMap fun k => if Ind (1 + k) cf (moreN F P e) ≤ Ind (1 + k) (trim c0) e then some (row3 (1 + k) (Ind (1 + k) (trim c0) e) (Ind (1 + k) cf (moreN F P e))) else none := by
  unfold nlwL
  rw [l_4 hF D e]
theorem nB_eq : dot (· + 1) (trim c0) 0 = dot (· + 1) cf 0 + (F - 1) * P.length := rounds_n (by lia) D.rd
theorem ge_two (h : P ≠ []) : 2 ≤ (trim c0).length := D.two.resolve_left fun q => h (D.nil q).1
theorem L5 : lessV (dot (· + 1) cf 0 + e) cf e (dot (· + 1) (trim c0) 0 + e) (trim c0) e =
    ((List.range (max cf.length (e + 1))).filterMap fun k => if Ind (1 + k) (trim c0) e = Ind (1 + k) cf e then some (row3 (1 + k) (Ind (1 + k) (trim c0) e) (Ind (1 + k) cf e)) else none).isEmpty := by
  have hn := nB_eq hF D
  have hm := mvS_one (F := F) P
  have hA := fun ts h => A_eq hF D e (ts := ts) h
  unfold lessV
  rw [l_2 hF D e, isEmpty_filterMap]
  obtain ⟨m, hm'⟩ := max_succ' cf.length e
  rw [hm', all_range_succ]
  clear hm'
  have h1 := hA 1 (by decide)
  by_cases hP : P = []
  · subst hP
    have h0 : mvS F 1 [] = 0 := rfl
    rw [h0] at h1
    rw [if_pos (by simp only [List.length_nil, Nat.mul_zero] at hn; lia)]
    simp [h1]
  · have h2 := ge_two hF D hP
    have hp : 0 < (F - 1) * P.length := Nat.mul_pos (by lia) (List.length_pos_iff.mpr hP)
    rw [if_neg (by lia), if_neg (by lia)]
    have e0 : (if Ind (1 + 0) (trim c0) e = Ind (1 + 0) cf e then some (row3 (1 + 0) (Ind (1 + 0) (trim c0) e) (Ind (1 + 0) cf e)) else none).isNone = true := by
      rw [if_neg (by show ¬ Ind 1 (trim c0) e = Ind 1 cf e; lia)]; rfl
    rw [e0, Bool.true_and, show m + 1 + 1 - 2 = m by lia]
    congr 1
    funext k
    have h3 := hA (2 + k) (by lia)
    rw [show 1 + (k + 1) = 2 + k by lia]
    by_cases q : Ind (2 + k) (trim c0) e = Ind (2 + k) cf e
    · rw [if_pos q, decide_eq_false (by omega)]; rfl
    · rw [if_neg q, decide_eq_true (by omega)]; rfl
theorem L7 : lessV (dot (· + 1) (trim c0) 0 + e) (trim c0) e (dot (· + 1) cf 0 + moreN F P e) cf (moreN F P e) =
    ((List.range (max cf.length (moreN F P e + 1))).filterMap fun k => if Ind (1 + k) cf (moreN F P e) ≤ Ind (1 + k) (trim c0) e then some (row3 (1 + k) (Ind (1 + k) (trim c0) e) (Ind (1 + k) cf (moreN F P e))) else none).isEmpty := by
  have hn := nB_eq hF D
  have hQ := Q_eq hF D e
  have h1 : Ind 1 (trim c0) e = e + dot (· + 1) (trim c0) 0 := by unfold Ind; rw [dot_w1, Nat.one_mul]
  have h2 : Ind 1 cf (moreN F P e) = moreN F P e + dot (· + 1) cf 0 := by unfold Ind; rw [dot_w1, Nat.one_mul]
  have hmo : moreN F P e = e + 1 + (F - 1) * P.length := rfl
  unfold lessV
  rw [l_4 hF D e, isEmpty_filterMap, if_neg (by lia)]
  obtain ⟨m, hm'⟩ := max_succ' cf.length (moreN F P e)
  rw [hm', all_range_succ]
  clear hm'
  have e0 : (if Ind (1 + 0) cf (moreN F P e) ≤ Ind (1 + 0) (trim c0) e then some (row3 (1 + 0) (Ind (1 + 0) (trim c0) e) (Ind (1 + 0) cf (moreN F P e))) else none).isNone = true := by
    rw [if_neg (by show ¬ Ind 1 cf (moreN F P e) ≤ Ind 1 (trim c0) e; lia)]; rfl
  rw [e0, Bool.true_and, show m + 1 + 1 - 2 = m by lia]
  by_cases hc : (trim c0).length ≤ 1 ∧ cf.length ≤ 1
  · rw [if_pos hc]
    have z := D.two.resolve_right (by lia)
    obtain ⟨z1, z2⟩ := D.nil z
    rw [z, z2, decide_eq_true (Nat.le_refl _)]
    symm
    rw [List.all_eq_true]
    intro k _
    rw [if_neg (by simp only [Ind, dot, moreN]; lia)]
    rfl
  · rw [if_neg hc]
    congr 1
    funext k
    rw [show 1 + (k + 1) = 2 + k by lia]
    by_cases q : Ind (2 + k) cf (moreN F P e) ≤ Ind (2 + k) (trim c0) e
    · rw [if_pos q, decide_eq_false (by lia)]; rfl
    · rw [if_neg q, decide_eq_true (by lia)]; rfl
theorem L8 : lessV (dot (· + 1) (trim [c0.sum]) 0 + e) (trim [c0.sum]) e (dot (· + 1) (trim c0) 0 + e) (trim c0) e = false := by
  have ht : dot (· + 1) (trim [c0.sum]) 0 = c0.sum := by rw [trim_dot]; simp [dot]
  have hl : (trim [c0.sum]).length ≤ 1 := trim_length [c0.sum]
  have hs := trim_sum c0
  unfold lessV
  by_cases q : dot (· + 1) (trim c0) 0 + e ≤ dot (· + 1) (trim [c0.sum]) 0 + e
  · rw [if_pos q]
  · rw [if_neg q]
    have hne : trim c0 ≠ [] := fun z => by rw [z] at q hs; simp [dot] at q
    have h2 := D.two.resolve_left hne
    rw [if_neg (by lia)]
    have hM : lng (trim [c0.sum]) e (trim c0) e = max ((trim c0).length - 1) e + 1 := by
      unfold lng; lia
    rw [hM, Bool.eq_false_iff]
    intro hall
    have h3 := List.all_eq_true.mp hall (max ((trim c0).length - 1) e - 1) (List.mem_range.mpr (by lia))
    rw [decide_eq_true_eq, show 2 + (max ((trim c0).length - 1) e - 1) = max ((trim c0).length - 1) e + 1 by lia] at h3
    have f1 : dot (fun i => i / (max ((trim c0).length - 1) e + 1) + 1) (trim c0) 0 = (trim c0).sum := dot_flat _ _ fun i hi => by rw [Nat.div_eq_of_lt (by omega)]
    have f2 : dot (fun i => i / (max ((trim c0).length - 1) e + 1) + 1) (trim [c0.sum]) 0 = (trim [c0.sum]).sum := dot_flat _ _ fun i hi => by rw [Nat.div_eq_of_lt (by lia)]
    have f3 := trim_sum [c0.sum]
    unfold Ind at h3
    rw [f1, f2, f3, hs] at h3
    simp at h3
end
end Mine
end
section
open PySem PySem.W PyProof.Rows PySem.Calls
namespace Mine
noncomputable def lw_1 : PS := (.asg 1 (.ls (.cons (.int 0) (.cons (.int 2) (.cons (.int 1) (.cons (.int 0) (.cons (.int 0) (.cons (.int 2) (.cons (.int 5) .nil)))))))))
noncomputable def lw_2 : PS := (.asg 3 (.lc (.bin .add (.cB .sum (.cons (.sl (.var 0) (.var 2) .no (.int 7)) .nil)) (.sub (.var 1) (.var 2))) 2 (.rng1 (.int 7)) (.tt true) [0, 1]))
noncomputable def lw_3 : PS := (.asg 4 (.bin .mod (.sub (.var 3) (.int 0)) (.int 6)))
noncomputable def lw_4 : PS := (.asg 5 (.ite (.cmp .eq (.var 4) (.int 5)) (.int 3) (.int 2)))
noncomputable def lw_5 : PS := (.asg 6 (.bin .mod (.sub (.var 3) (.int 5)) (.int 6)))
noncomputable def lw_6 : PS := (.asg 7 (.bin .add (.int 8) (.bin .mod (.sub (.var 3) (.int 6)) (.int 57))))
noncomputable def lw_7 : PS := (.asg 8 (.cF .drawn (.cons (.var 3) (.cons (.var 5) .nil))))
noncomputable def lw_8 : PS := (.asg 9 (.mk (.bin .add (.cF .lead (.cons (.var 8) (.cons (.var 6) (.cons (.int 1) .nil)))) (.str (Str.ofString "x \t")))))
noncomputable def lw_9 : PS := (.asg 10 (.var 9))
noncomputable def lw_10 : PS := (.asg 11 (.ls .nil))
noncomputable def fb_1 : PS := (.asg 13 (.cF .read (.cons (.sub (.fld (.var 10) 3) (.int 0)) (.cons (.sub (.str (Str.ofString "=*/<>.")) (.var 4)) (.cons (.sub (.ls (.cons (.ls (.cons (.int 22) (.cons (.int 27) .nil))) (.cons (.ls (.cons (.int 16) (.cons (.int 35) .nil))) (.cons (.ls (.cons (.int 17) (.cons (.int 47) .nil))) (.cons (.ls (.cons (.int 20) (.cons (.int 33) .nil))) (.cons (.ls (.cons (.int 21) (.cons (.int 34) .nil))) (.cons (.ls (.cons (.int 23) (.cons (.int 52) .nil))) .nil))))))) (.var 4)) (.cons (.var 5) .nil))))))
noncomputable def fb_2 : PS := (.asg 14 (.mk (.bin .add (.cF .lead (.cons (.sub (.var 13) (.int 0)) (.cons (.var 6) (.cons (.bin .mod (.var 12) (.int 2)) .nil)))) (.str (Str.ofString "x \t")))))
noncomputable def fb_3 : PS := (.ifs (.cmp .isn (.cM .equal (.var 14) (.cons (.var 10) .nil)) (.cmp .eq (.sub (.var 13) (.int 1)) (.ls .nil))) (.cons (.ret (.tt false)) .nil) .nil)
noncomputable def fb_4 : PS := (.asg 10 (.var 14))
noncomputable def fb_5 : PS := (.asg 11 (.bin .add (.var 11) (.sub (.var 13) (.int 1))))
noncomputable def fb_6 : PS := (.ifs (.cmp .eq (.sub (.var 13) (.int 1)) (.ls .nil)) (.cons .brk .nil) .nil)
noncomputable def fbR_6 : PB := .cons fb_6 .nil
noncomputable def fbR_5 : PB := .cons fb_5 fbR_6
noncomputable def fbR_4 : PB := .cons fb_4 fbR_5
noncomputable def fbR_3 : PB := .cons fb_3 fbR_4
noncomputable def fbR_2 : PB := .cons fb_2 fbR_3
noncomputable def fbR_1 : PB := .cons fb_1 fbR_2
noncomputable def lw_11 : PS := (.for_ 12 (.rng1 (.int 4)) fbR_1)
noncomputable def lw_12 : PS := (.asg 15 (.cF .figs (.cons (.var 8) (.cons (.var 5) .nil))))
noncomputable def lw_13 : PS := (.asg 16 (.bin .add (.bin .add (.var 6) (.int 1)) (.bin .mul (.bin .sub (.var 5) (.int 1)) (.cB .len (.cons (.var 11) .nil)))))
noncomputable def lw_14 : PS := (.asg 17 (.mk (.cF .lead (.cons (.sub (.var 13) (.int 0)) (.cons (.var 16) (.cons (.int 1) .nil))))))
noncomputable def lw_15 : PS := (.asg 18 (.cF .cols (.cons (.var 8) (.cons (.var 11) (.cons (.var 6) (.cons (.var 5) (.cons (.cB .max (.cons (.cB .len (.cons (.var 15) .nil)) (.cons (.bin .add (.var 16) (.int 1)) .nil))) .nil)))))))
noncomputable def lw_16 : PS := (.asg 19 (.sl (.var 18) .no (.cB .max (.cons (.cB .len (.cons (.var 15) .nil)) (.cons (.bin .add (.var 6) (.int 1)) .nil))) .no))
noncomputable def lw_17 : PS := (.asg 21 (.lc (.tp (.cons (.sub (.var 20) (.int 0)) (.cons (.sub (.var 20) (.int 1)) (.cons (.bin .sub (.bin .add (.sub (.var 20) (.int 2)) (.var 16)) (.var 6)) .nil)))) 20 (.it (.var 18)) (.tt true) [6, 16]))
noncomputable def lw_18 : PS := (.ifs (.bop false (.cons (.cmp .ne (.fld (.var 10) 3) (.tp (.cons (.var 15) (.cons (.var 6) .nil)))) (.cons (.cmp .ne (.fld (.var 17) 3) (.tp (.cons (.var 15) (.cons (.var 16) .nil)))) (.cons (.cmp .isn (.cM .equal (.var 10) (.cons (.var 17) .nil)) (.tt false)) .nil)))) (.cons (.ret (.tt false)) .nil) .nil)
noncomputable def lw_19 : PS := (.ifs (.bop false (.cons (.cmp .ne (.cM .nlW (.var 9) (.cons (.var 10) .nil)) (.var 19)) (.cons (.cmp .ne (.cM .neW (.var 9) (.cons (.var 10) .nil)) (.lc (.var 22) 22 (.it (.var 19)) (.cmp .ne (.sub (.var 22) (.int 1)) (.sub (.var 22) (.int 2))) [])) .nil))) (.cons (.ret (.tt false)) .nil) .nil)
noncomputable def lw_20 : PS := (.ifs (.cmp .ne (.cM .nlW (.var 10) (.cons (.var 9) .nil)) (.lc (.tp (.cons (.sub (.var 23) (.int 0)) (.cons (.sub (.var 23) (.int 2)) (.cons (.sub (.var 23) (.int 1)) .nil)))) 23 (.it (.var 19)) (.cmp .eq (.sub (.var 23) (.int 1)) (.sub (.var 23) (.int 2))) [])) (.cons (.ret (.tt false)) .nil) .nil)
noncomputable def lw_21 : PS := (.ifs (.cmp .ne (.cM .neW (.var 17) (.cons (.var 9) .nil)) (.lc (.tp (.cons (.sub (.var 24) (.int 0)) (.cons (.sub (.var 24) (.int 2)) (.cons (.sub (.var 24) (.int 1)) .nil)))) 24 (.it (.var 21)) (.cmp .ne (.sub (.var 24) (.int 1)) (.sub (.var 24) (.int 2))) [])) (.cons (.ret (.tt false)) .nil) .nil)
noncomputable def lw_22 : PS := (.ifs (.cmp .isn (.cM .less (.var 10) (.cons (.var 9) .nil)) (.cmp .eq (.lc (.var 25) 25 (.it (.var 19)) (.cmp .eq (.sub (.var 25) (.int 1)) (.sub (.var 25) (.int 2))) []) (.ls .nil))) (.cons (.ret (.tt false)) .nil) .nil)
noncomputable def lw_23 : PS := (.asg 27 (.lc (.var 26) 26 (.it (.var 21)) (.cmp .ge (.sub (.var 26) (.int 1)) (.sub (.var 26) (.int 2))) []))
noncomputable def lw_24 : PS := (.ifs (.bop false (.cons (.cmp .ne (.cM .nlW (.var 9) (.cons (.var 17) .nil)) (.var 27)) (.cons (.cmp .isn (.cM .less (.var 9) (.cons (.var 17) .nil)) (.cmp .eq (.var 27) (.ls .nil))) .nil))) (.cons (.ret (.tt false)) .nil) .nil)
noncomputable def lw_25 : PS := (.ifs (.bop false (.cons (.cmp .isn (.cM .less (.mk (.bin .add (.bin .mul (.str (Str.ofString "\t")) (.cB .sum (.cons (.var 8) .nil))) (.bin .mul (.str (Str.ofString " ")) (.var 6)))) (.cons (.var 9) .nil)) (.tt false)) (.cons (.nt (.cF .plain (.cons (.bin .add (.var 6) (.int 1)) .nil))) .nil))) (.cons (.ret (.tt false)) .nil) .nil)
noncomputable def lw_26 : PS := (.unp [28, 29] (.cF .idm (.cons (.cF .prod (.cons (.var 7) (.cons (.var 5) .nil))) (.cons (.cF .prod (.cons (.var 7) (.cons (.int 1) .nil))) .nil))))
noncomputable def lw_27 : PS := (.asg 30 (.cF .i2d (.cons (.var 28) (.cons (.var 7) .nil))))
noncomputable def lw_28 : PS := (.ret (.bop true (.cons (.cmp .eq (.var 29) (.int 0)) (.cons (.cmp .eq (.sl (.var 30) .no (.int 6) .no) (.cF .ways (.cons (.int 5) (.cons (.var 5) .nil)))) (.cons (.cmp .eq (.var 30) (.sl (.var 30) .no .no (.neg (.int 1)))) (.cons (.cmp .eq (.cB .sum (.cons (.var 30) .nil)) (.bin .pow (.var 5) (.int 5))) .nil))))))
noncomputable def lwR_28 : PB := .cons lw_28 .nil
noncomputable def lwR_27 : PB := .cons lw_27 lwR_28
noncomputable def lwR_26 : PB := .cons lw_26 lwR_27
noncomputable def lwR_25 : PB := .cons lw_25 lwR_26
noncomputable def lwR_24 : PB := .cons lw_24 lwR_25
noncomputable def lwR_23 : PB := .cons lw_23 lwR_24
noncomputable def lwR_22 : PB := .cons lw_22 lwR_23
noncomputable def lwR_21 : PB := .cons lw_21 lwR_22
noncomputable def lwR_20 : PB := .cons lw_20 lwR_21
noncomputable def lwR_19 : PB := .cons lw_19 lwR_20
noncomputable def lwR_18 : PB := .cons lw_18 lwR_19
noncomputable def lwR_17 : PB := .cons lw_17 lwR_18
noncomputable def lwR_16 : PB := .cons lw_16 lwR_17
noncomputable def lwR_15 : PB := .cons lw_15 lwR_16
noncomputable def lwR_14 : PB := .cons lw_14 lwR_15
noncomputable def lwR_13 : PB := .cons lw_13 lwR_14
noncomputable def lwR_12 : PB := .cons lw_12 lwR_13
noncomputable def lwR_11 : PB := .cons lw_11 lwR_12
noncomputable def lwR_10 : PB := .cons lw_10 lwR_11
noncomputable def lwR_9 : PB := .cons lw_9 lwR_10
noncomputable def lwR_8 : PB := .cons lw_8 lwR_9
noncomputable def lwR_7 : PB := .cons lw_7 lwR_8
noncomputable def lwR_6 : PB := .cons lw_6 lwR_7
noncomputable def lwR_5 : PB := .cons lw_5 lwR_6
noncomputable def lwR_4 : PB := .cons lw_4 lwR_5
noncomputable def lwR_3 : PB := .cons lw_3 lwR_4
noncomputable def lwR_2 : PB := .cons lw_2 lwR_3
noncomputable def lwR_1 : PB := .cons lw_1 lwR_2
theorem lw_body : ir_law.body = lwR_1 := rfl
theorem lw_np : ir_law.np = 1 := rfl
theorem lw_names : ir_law.names.length = 31 := rfl
end Mine
end
section
open PySem PySem.W PyProof.Rows PySem.Calls
namespace Mine
noncomputable def xsD : Str := Str.ofString "x \t"
structure LawS (S : Sem) : Prop where
  d2 : ∀ a0 a1 a2 a3 a4 a5 a6 : Int, S.Φ .drawn [.d (.list [.int a0, .int a1, .int a2, .int a3, .int a4, .int a5, .int a6]), .d (.int 2)] = some (.d (.list [.int 0, .int (a1 % 10), .int 0, .int (a2 % 5), .int 0, .int (a3 % 3), .int 0, .int (a4 % 2)]))
  d3 : ∀ a0 a1 a2 a3 a4 a5 a6 : Int, S.Φ .drawn [.d (.list [.int a0, .int a1, .int a2, .int a3, .int a4, .int a5, .int a6]), .d (.int 3)] = some (.d (.list [.int 0, .int (a1 % 10), .int (a2 % 5), .int 0, .int (a3 % 3), .int (a4 % 2), .int 0, .int 0]))
  ld : ∀ {c : List Nat} {e f g : Nat}, c.length ≤ 90 → c.sum ≤ 24 → e ≤ 90 → f + g = 1 → ∃ z x, S.Φ .lead [.d (.list (nI c)), .d (.int (e : Int)), .d (.int (f : Int))] = some (.d (.str z)) ∧ bopD .add (.str z) (.str xsD) = some (.str x) ∧ S.Φ .init [.d (.str x)] = some (.ws (wsC x (trim c) e)) ∧ S.Φ .init [.d (.str z)] = some (.ws (wsC z (trim c) e))
  tb : ∀ {s e : Nat}, s ≤ 100 → e ≤ 90 → ∃ x y z, bopD .mul (.str tbZ) (.int (s : Int)) = some (.str x) ∧ bopD .mul (.str spD) (.int (e : Int)) = some (.str y) ∧ bopD .add (.str x) (.str y) = some (.str z) ∧ S.Φ .init [.d (.str z)] = some (.ws (wsC z (trim [s]) e))
  rd : ∀ {F sg : Nat} {n0 n1 : Int}, Sg4 F sg n0 n1 → F = 2 ∨ F = 3 → ∀ {c : List Nat}, c.length ≤ 90 → c.sum ≤ 100 → S.Φ .read [.d (.tuple (nI c)), .d (.str ⟨#[sg]⟩), .d (.list [.int n0, .int n1]), .d (.int (F : Int))] = some (.d (.list [.list (nI (growAll F c).1), .list (nI (growAll F c).2)]))
  fg : ∀ {F : Nat}, F = 2 ∨ F = 3 → ∀ {c g : List Nat}, c.length ≤ 100 → fgAll F c 0 (List.replicate 16 0) = some g → S.Φ .figs [.d (.list (nI c)), .d (.int (F : Int))] = some (.d (.tuple (nI (trim g))))
  cl : ∀ {F : Nat}, F = 2 ∨ F = 3 → ∀ {c P : List Nat} {e : Nat}, c.length ≤ 90 → c.sum ≤ 100 → e ≤ 90 → (∀ k ∈ P, k ≤ 100) → P.length ≤ 100 → ∀ {n : Nat}, n ≤ 99 → S.Φ .cols [.d (.list (nI c)), .d (.list (nI P)), .d (.int (e : Int)), .d (.int (F : Int)), .d (.int (n : Int))] = some (.d (.list ((List.range n).map fun k => cRow F c P e (1 + k))))
  nl : ∀ {x x' : Str} {c c' : List Nat} {e e' : Nat}, Small c e → Small c' e' → S.Φ .nlW [.ws (wsC x c e), .ws (wsC x' c' e')] = some (.d (.list (nlwL c e c' e')))
  ne : ∀ {x x' : Str} {c c' : List Nat} {e e' : Nat}, Small c e → Small c' e' → S.Φ .neW [.ws (wsC x c e), .ws (wsC x' c' e')] = some (.d (.list (newL c e c' e')))
  ls : ∀ {x x' : Str} {c c' : List Nat} {e e' : Nat}, Small c e → Small c' e' → S.Φ .less [.ws (wsC x c e), .ws (wsC x' c' e')] = some (.d (.bool (lessV (dot (· + 1) c 0 + e) c e (dot (· + 1) c' 0 + e') c' e')))
  eq : ∀ {x x' : Str} {c c' : List Nat} {e e' : Nat}, S.Φ .equal [.ws (wsC x c e), .ws (wsC x' c' e')] = some (.d (.bool (decide (c = c') && decide (e = e'))))
theorem p_drawn2 (S : Sem) (a0 a1 a2 a3 a4 a5 a6 : Int) : runF S ir_drawn [.d (.list [.int a0, .int a1, .int a2, .int a3, .int a4, .int a5, .int a6]), .d (.int 2)] = some (.d (.list [.int 0, .int (a1 % 10), .int 0, .int (a2 % 5), .int 0, .int (a3 % 3), .int 0, .int (a4 % 2)])) := by kernel_rfl
theorem p_drawn3 (S : Sem) (a0 a1 a2 a3 a4 a5 a6 : Int) : runF S ir_drawn [.d (.list [.int a0, .int a1, .int a2, .int a3, .int a4, .int a5, .int a6]), .d (.int 3)] = some (.d (.list [.int 0, .int (a1 % 10), .int (a2 % 5), .int 0, .int (a3 % 3), .int (a4 % 2), .int 0, .int 0])) := by kernel_rfl
theorem xsD_list : xsD.cps.toList = [120, 32, 9] := by decide +kernel
theorem xsD_len : xsD.length = 3 := by rw [str_len, xsD_list]; rfl
theorem tbS_list (k : Nat) : (⟨(List.replicate k tbZ.cps.toList).flatten.toArray⟩ : Str).cps.toList = (List.replicate k 0).flatMap rowC := by
  rw [tbZ_eq]
  show (List.replicate k [9]).flatten.toArray.toList = _
  rw [List.toList_toArray]
  induction k with
  | zero => rfl
  | succ k ih => rw [List.replicate_succ, List.flatten_cons, ih, List.replicate_succ, List.flatMap_cons]; rfl
theorem lawS_ld (S : Sem) {c : List Nat} {e f g : Nat} (hl : c.length ≤ 90) (hs : c.sum ≤ 24) (he : e ≤ 90) (hf : f + g = 1) : ∃ z x, runF S ir_lead [.d (.list (nI c)), .d (.int (e : Int)), .d (.int (f : Int))] = some (.d (.str z)) ∧ bopD .add (.str z) (.str xsD) = some (.str x) ∧ runInit S ir_init (.str x) = some (.ws (wsC x (trim c) e)) ∧ runInit S ir_init (.str z) = some (.ws (wsC z (trim c) e)) := by
  obtain ⟨z, ks, h1, h2, h3⟩ := q_lead S hl hs he hf
  have hz : z.length + xsD.length ≤ lim := by
    have hd : dot (· + 1) c 0 ≤ 24 * 91 := Nat.le_trans (dot_le (B := 91) c 0 (fun i hi => by lia)) (Nat.mul_le_mul_right 91 hs)
    rw [xsD_len, str_len, h3, List.length_append, flat_len, List.length_replicate, (h2.map (· + 1)).sum_nat, rowsOf_sum]
    exact Nat.le_trans (by lia : _ ≤ 5000) (by decide)
  refine ⟨z, z ++ xsD, h1, add_str z xsD hz, ?_, ?_⟩
  · exact q_mk S (tl := [120, 32, 9]) h2 (by rw [app_list, h3, xsD_list]) (.inr ⟨_, rfl⟩) (by decide) hl (by lia) he (by decide)
  · exact q_mk S (tl := []) h2 (by rw [h3, List.append_nil]) (.inl rfl) (by simp) hl (by lia) he (by decide)
theorem lawS_tb (S : Sem) {s e : Nat} (hs : s ≤ 100) (he : e ≤ 90) : ∃ x y z, bopD .mul (.str tbZ) (.int (s : Int)) = some (.str x) ∧ bopD .mul (.str spD) (.int (e : Int)) = some (.str y) ∧ bopD .add (.str x) (.str y) = some (.str z) ∧ runInit S ir_init (.str z) = some (.ws (wsC z (trim [s]) e)) := by
  have h1 : bopD .mul (.str tbZ) (.int (s : Int)) = some (.str ⟨(List.replicate s tbZ.cps.toList).flatten.toArray⟩) := by
    simp only [Ja]
    rw [if_pos ⟨by lia, by lia, by rw [tbZ_len]; decide⟩]
    rfl
  have hl : (⟨(List.replicate s tbZ.cps.toList).flatten.toArray⟩ : Str).length = s := by
    rw [str_len, tbS_list, flat_len]
    simp
  refine ⟨_, _, _, h1, mul_sp e (by lia), add_str _ _ (by rw [hl, str_len, spS_list, List.length_replicate]; exact Nat.le_trans (by lia : _ ≤ 1000) (by decide)), ?_⟩
  refine q_mk S (tl := []) (ks := List.replicate s 0) (c := [s]) (by simp [rowsOf]) (by rw [app_list, tbS_list, spS_list, List.append_nil]) (.inl rfl) (by simp) (by simp) (by simpa using hs) he (by simp)
theorem phi_drawn (n : Nat) (vs : List V) : (semL 400 (n + 1)).Φ .drawn vs = runF (semL 400 n) ir_drawn vs := rfl
theorem phi_lead (n : Nat) (vs : List V) : (semL 400 (n + 1)).Φ .lead vs = runF (semL 400 n) ir_lead vs := rfl
theorem phi_read (n : Nat) (vs : List V) : (semL 400 (n + 1)).Φ .read vs = runF (semL 400 n) ir_read vs := rfl
theorem phi_figs (n : Nat) (vs : List V) : (semL 400 (n + 1)).Φ .figs vs = runF (semL 400 n) ir_figs vs := rfl
theorem phi_cols (n : Nat) (vs : List V) : (semL 400 (n + 1)).Φ .cols vs = runF (semL 400 n) ir_cols vs := rfl
theorem phi_nlW (n : Nat) (vs : List V) : (semL 400 (n + 1)).Φ .nlW vs = runF (semL 400 n) ir_nlW vs := rfl
theorem phi_neW (n : Nat) (vs : List V) : (semL 400 (n + 1)).Φ .neW vs = runF (semL 400 n) ir_neW vs := rfl
theorem phi_less (n : Nat) (vs : List V) : (semL 400 (n + 1)).Φ .less vs = runF (semL 400 n) ir_less vs := rfl
theorem phi_equal (n : Nat) (vs : List V) : (semL 400 (n + 1)).Φ .equal vs = runF (semL 400 n) ir_equal vs := rfl
theorem phi_indent (n : Nat) (vs : List V) : (semL 400 (n + 1)).Φ .indent vs = runF (semL 400 n) ir_indent vs := rfl
theorem phi_longest (n : Nat) (vs : List V) : (semL 400 (n + 1)).Φ .longest vs = runF (semL 400 n) ir_longest vs := rfl
theorem phi_init (n : Nat) (x : PyData) : (semL 400 (n + 1)).Φ .init [.d x] = runInit (semL 400 n) ir_init x := rfl
theorem sw_ok (n : Nat) : SW (semL 400 (n + 1)) := by
  constructor
  · intro x n' c e ts h h0 h1; rw [phi_indent]; exact q_indent (semL 400 n) h h0 h1
  · intro x n' nt c e h; rw [phi_longest]; exact q_longest (semL 400 n) h
theorem semL_fuel (n : Nat) : (semL 400 n).fuel = 400 := by cases n <;> rfl
theorem lawS (n : Nat) (HI : ∀ F : Nat, F = 2 ∨ F = 3 → ∀ k : Nat, k ≤ 9 → (semL 400 (n + 1)).Φ .idm [.d (.int (k : Int)), .d (.int (F : Int))] = some (.d (.tuple [.int ((k / F : Nat) : Int), .int ((k % F : Nat) : Int)]))) : LawS (semL 400 (n + 1 + 1)) := by
  have W := sw_ok n
  have fu := semL_fuel (n + 1)
  generalize n + 1 = m at *
  constructor
  · intros; rw [phi_drawn]; exact p_drawn2 _ _ _ _ _ _ _ _
  · intros; rw [phi_drawn]; exact p_drawn3 _ _ _ _ _ _ _ _
  · intro c e f g hl hs he hf
    simp only [phi_lead, phi_init]
    exact lawS_ld (semL 400 m) hl hs he hf
  · intro s e hs he
    simp only [phi_init]
    exact lawS_tb (semL 400 m) hs he
  · intro F sg n0 n1 G hF c hl hs; rw [phi_read]; exact q_read (semL 400 m) fu G hF hl hs
  · intro F hF c g hc h; rw [phi_figs]; exact q_figs (semL 400 m) hF (HI F hF) fu hc h
  · intro F hF c P e hl hs he hP hPl n hn; rw [phi_cols]; exact q_cols (semL 400 m) hF hl hs he hP hPl hn
  · intro x x' c c' e e' h h'; rw [phi_nlW]; exact q_nlW (semL 400 m) W h h'
  · intro x x' c c' e e' h h'; rw [phi_neW]; exact q_neW (semL 400 m) W h h'
  · intro x x' c c' e e' h h'; rw [phi_less]; exact q_less (semL 400 m) W h h'
  · intro x x' c c' e e'; rw [phi_equal]; exact q_equal (semL 400 m)
end Mine
end
section
open PySem PySem.W PyProof.Rows PySem.Calls
namespace Mine
noncomputable def lE (sc bs sm : PyData) (K F e wd : Int) (dr : PyData) (begun ended : List PyData) (pairs : PyData) (y12 y13 y14 : Option V) : En :=
  [some (.d sc), some (.d bs), none, some (.d sm), some (.d (.int K)), some (.d (.int F)), some (.d (.int e)), some (.d (.int wd)), some (.d dr), some (.ws begun), some (.ws ended), some (.d pairs), y12, y13, y14,
   none, none, none, none, none, none, none, none, none, none, none, none, none, none, none, none]
noncomputable def numsL : List PyData := [.list [.int 22, .int 27], .list [.int 16, .int 35], .list [.int 17, .int 47], .list [.int 20, .int 33], .list [.int 21, .int 34], .list [.int 23, .int 52]]
theorem sub_t0 (a : PyData) (r : List PyData) : subD (.tuple (a :: r)) (.int 0) = some a := by simp [Jv]
theorem sub_l0 (a : PyData) (r : List PyData) : subD (.list (a :: r)) (.int 0) = some a := by simp [Ju]
theorem sub_l1 (a b : PyData) (r : List PyData) : subD (.list (a :: b :: r)) (.int 1) = some b := by simp [Ju]
theorem bl_next {S : Sem} {s : PS} {b : PB} {en en' : En} {σ σ' : Sg} (h : evS S s en σ = some (.next, en', σ')) : evBl S (.cons s b) en σ = evBl S b en' σ' := by
  rw [Yc, h]
theorem bl_brk {S : Sem} {s : PS} {b : PB} {en en' : En} {σ σ' : Sg} (h : evS S s en σ = some (.brk, en', σ')) : evBl S (.cons s b) en σ = some (.brk, en', σ') := by
  rw [Yc, h]
section
variable (S : Sem) {sc bs sm dr pairs pairs' ns : PyData} {K F e wd t t2 e' : Int} {fB fE fL cs gs js : List PyData} {sg z x : Str} {y13 y14 : Option V} {b : Bool}
theorem fb_1ok (h3 : fE[3]? = some (.tuple [.tuple cs, .int e'])) (q1 : subD (.str (Str.ofString "=*/<>.")) (.int K) = some (.str sg)) (q2 : subD (.list numsL) (.int K) = some ns)
    (hrd : S.Φ .read [.d (.tuple cs), .d (.str sg), .d ns, .d (.int F)] = some (.d (.list [.list gs, .list js]))) :
    evS S fb_1 (lE sc bs sm K F e wd dr fB fE pairs (some (.d (.int t))) y13 y14) [] = some (.next, lE sc bs sm K F e wd dr fB fE pairs (some (.d (.int t))) (some (.d (.list [.list gs, .list js]))) y14, []) := by
  have d2 : (0 + 1 + 1 : Nat) ≤ lim := by decide
  have d6 : (0 + 1 + 1 + 1 + 1 + 1 + 1 : Nat) ≤ lim := by decide
  unfold numsL at q2
  simp only [fb_1, lE, Za,Zb,Ze,Zo,Zt,Zu,Zw,ZD,ZE,ZL,Yd,Ye,Yf,Yg,Yl,Yo,Yr,Ys,Yt,Yu,YN,Option.bind_some,if_true,List.length_cons,List.length_nil,h3, sub_t0, q1, Yt, Yu, Option.map_some, d2, d6, q2, hrd]
theorem fb_2ok (m1 : bopD .mod (.int t) (.int 2) = some (.int t2)) (h1 : S.Φ .lead [.d (.list gs), .d (.int e), .d (.int t2)] = some (.d (.str z))) (h2 : bopD .add (.str z) (.str (Str.ofString "x \t")) = some (.str x)) (h3 : S.Φ .init [.d (.str x)] = some (.ws fL)) :
    evS S fb_2 (lE sc bs sm K F e wd dr fB fE pairs (some (.d (.int t))) (some (.d (.list [.list gs, .list js]))) y14) [] = some (.next, lE sc bs sm K F e wd dr fB fE pairs (some (.d (.int t))) (some (.d (.list [.list gs, .list js]))) (some (.ws fL)), []) := by
  simp only [fb_2, lE, Za,Zb,Ze,Zh,Zo,Zr,Zu,ZD,ZE,ZL,Yd,Ye,Yf,Yg,Yl,Yo,Yr,Ys,YD,Option.bind_some,sub_l0, m1, h1, h2, h3]
theorem fb_3ok (h1 : S.Φ .equal [.ws fL, .ws fE] = some (.d (.bool b))) (h2 : cmpD .eq (.list js) (.list []) = some b) (h3 : cmpD .isn (.bool b) (.bool b) = some false) :
    evS S fb_3 (lE sc bs sm K F e wd dr fB fE pairs (some (.d (.int t))) (some (.d (.list [.list gs, .list js]))) (some (.ws fL))) [] = some (.next, lE sc bs sm K F e wd dr fB fE pairs (some (.d (.int t))) (some (.d (.list [.list gs, .list js]))) (some (.ws fL)), []) := by
  simp only [fb_3, lE, Za,Ze,Zj,Zq,Zu,Zw,ZD,ZE,ZV,Yb,Yd,Ye,Yl,Yp,Yr,Ys,Yt,Yv,Yw,YE,Option.bind_some,Nat.zero_le,if_true,List.length_nil,sub_l1, Yt, h1, h2, h3]
theorem fb_4ok :
    evS S fb_4 (lE sc bs sm K F e wd dr fB fE pairs (some (.d (.int t))) (some (.d (.list [.list gs, .list js]))) (some (.ws fL))) [] = some (.next, lE sc bs sm K F e wd dr fB fL pairs (some (.d (.int t))) (some (.d (.list [.list gs, .list js]))) (some (.ws fL)), []) := by
  simp only [fb_4, lE, Ze,ZL,Yd,Ye,Yf,Yg]
theorem fb_5ok (h : bopD .add pairs (.list js) = some pairs') :
    evS S fb_5 (lE sc bs sm K F e wd dr fB fL pairs (some (.d (.int t))) (some (.d (.list [.list gs, .list js]))) (some (.ws fL))) [] = some (.next, lE sc bs sm K F e wd dr fB fL pairs' (some (.d (.int t))) (some (.d (.list [.list gs, .list js]))) (some (.ws fL)), []) := by
  simp only [fb_5, lE, Za,Ze,Zh,Zu,ZL,Yd,Ye,Yf,Yg,Yl,sub_l1, h]
theorem fb_6ok (h2 : cmpD .eq (.list js) (.list []) = some b) :
    evS S fb_6 (lE sc bs sm K F e wd dr fB fL pairs (some (.d (.int t))) (some (.d (.list [.list gs, .list js]))) (some (.ws fL))) [] = some (if b then .brk else .next, lE sc bs sm K F e wd dr fB fL pairs (some (.d (.int t))) (some (.d (.list [.list gs, .list js]))) (some (.ws fL)), []) := by
  cases b <;> simp only [fb_6, lE, Za,Ze,Zj,Zu,Zw,ZD,ZV,ZY,Yb,Yc,Yd,Ye,Yl,Yr,Yt,Yv,Yw,Option.bind_some,Nat.zero_le,if_true,List.length_nil,sub_l1, Yt, h2] <;> rfl
theorem fb_ok (h3 : fE[3]? = some (.tuple [.tuple cs, .int e'])) (q1 : subD (.str (Str.ofString "=*/<>.")) (.int K) = some (.str sg)) (q2 : subD (.list numsL) (.int K) = some ns)
    (hrd : S.Φ .read [.d (.tuple cs), .d (.str sg), .d ns, .d (.int F)] = some (.d (.list [.list gs, .list js])))
    (m1 : bopD .mod (.int t) (.int 2) = some (.int t2)) (h1 : S.Φ .lead [.d (.list gs), .d (.int e), .d (.int t2)] = some (.d (.str z))) (h2 : bopD .add (.str z) (.str (Str.ofString "x \t")) = some (.str x)) (h4 : S.Φ .init [.d (.str x)] = some (.ws fL))
    (h5 : S.Φ .equal [.ws fL, .ws fE] = some (.d (.bool b))) (h6 : cmpD .eq (.list js) (.list []) = some b) (h8 : bopD .add pairs (.list js) = some pairs') :
    stepF S 12 fbR_1 (.int t) (lE sc bs sm K F e wd dr fB fE pairs none y13 y14) [] = some (if b then .brk else .next, lE sc bs sm K F e wd dr fB fL pairs' none (some (.d (.list [.list gs, .list js]))) (some (.ws fL)), []) := by
  have e0 : eput (lE sc bs sm K F e wd dr fB fE pairs none y13 y14) 12 (some (.d (.int t))) = lE sc bs sm K F e wd dr fB fE pairs (some (.d (.int t))) y13 y14 := rfl
  have e1 : eput (lE sc bs sm K F e wd dr fB fL pairs' (some (.d (.int t))) (some (.d (.list [.list gs, .list js]))) (some (.ws fL))) 12 none = lE sc bs sm K F e wd dr fB fL pairs' none (some (.d (.list [.list gs, .list js]))) (some (.ws fL)) := rfl
  have h7 : cmpD .isn (.bool b) (.bool b) = some false := by cases b <;> rfl
  have s6 := fb_6ok S (sc := sc) (bs := bs) (sm := sm) (dr := dr) (pairs := pairs') (K := K) (F := F) (e := e) (wd := wd) (t := t) (fB := fB) (fL := fL) (gs := gs) h6
  have r : evBl S fbR_6 (lE sc bs sm K F e wd dr fB fL pairs' (some (.d (.int t))) (some (.d (.list [.list gs, .list js]))) (some (.ws fL))) [] = some (if b then .brk else .next, lE sc bs sm K F e wd dr fB fL pairs' (some (.d (.int t))) (some (.d (.list [.list gs, .list js]))) (some (.ws fL)), []) := by
    unfold fbR_6
    cases b
    · exact bl_next s6
    · exact bl_brk s6
  unfold stepF
  rw [e0]
  unfold fbR_1; rw [bl_next (fb_1ok S h3 q1 q2 hrd)]
  unfold fbR_2; rw [bl_next (fb_2ok S m1 h1 h2 h4)]
  unfold fbR_3; rw [bl_next (fb_3ok S h5 h6 h7)]
  unfold fbR_4; rw [bl_next (fb_4ok S)]
  unfold fbR_5; rw [bl_next (fb_5ok S h8), r]
  exact congrArg some (by rw [e1])
end
end Mine
end
section
open PySem PySem.W PyProof.Rows PySem.Calls
namespace Mine
structure Kd (K : Int) (F sg : Nat) (n0 n1 : Int) : Prop where
  s : Sg4 F sg n0 n1
  f : F = 2 ∨ F = 3
  q1 : subD (.str (Str.ofString "=*/<>.")) (.int K) = some (.str ⟨#[sg]⟩)
  q2 : subD (.list numsL) (.int K) = some (.list [.int n0, .int n1])
theorem kd_0 : Kd 0 2 61 22 27 := ⟨sg_0, .inl rfl, by kernel_rfl, by kernel_rfl⟩
theorem kd_1 : Kd 1 2 42 16 35 := ⟨sg_1, .inl rfl, by kernel_rfl, by kernel_rfl⟩
theorem kd_2 : Kd 2 2 47 17 47 := ⟨sg_2, .inl rfl, by kernel_rfl, by kernel_rfl⟩
theorem kd_3 : Kd 3 2 60 20 33 := ⟨sg_3, .inl rfl, by kernel_rfl, by kernel_rfl⟩
theorem kd_4 : Kd 4 2 62 21 34 := ⟨sg_4, .inl rfl, by kernel_rfl, by kernel_rfl⟩
theorem kd_5 : Kd 5 3 46 23 52 := ⟨sg_5, .inr rfl, by kernel_rfl, by kernel_rfl⟩
theorem shaped_nI (J : List Nat) : SeqAt.shaped (.list (nI J)) = true := by
  have h1 := depth_nI J
  have h2 := lay_nI J
  simp [SeqAt.shaped, PyData.canLay0, PyData.depth, h2]
  lia
theorem cmp_nilJ (J : List Nat) : cmpD .eq (.list (nI J)) (.list []) = some (decide (J = [])) := by
  have h := shaped_nI J
  have h0 : SeqAt.shaped (.list []) = true := rfl
  simp only [Je,h, h0, Bool.and_self, if_true, PyData.eqv]
  rw [show ([] : List PyData) = nI [] from rfl, eqvAll_nI]
theorem wsC_3 (x : Str) (c : List Nat) (e : Nat) : (wsC x c e)[3]? = some (.tuple [.tuple (nI c), .int (e : Nat)]) := rfl
section
variable {S : Sem} (A : LawS S) {K : Int} {F sg : Nat} {n0 n1 : Int} (Q : Kd K F sg n0 n1) {e : Nat} (he : e ≤ 90) {sc bs sm dr : PyData} {wd : Int} {fB : List PyData}
include A Q he
theorem turns : ∀ (t s : Nat) (c P g cf P' : List Nat) (x : Str) (y13 y14 : Option V), rounds F t c P = some (g, cf, P') →
    ∃ x' y14', loopF (stepF S 12 fbR_1) ((List.range' s t).map nD) (lE sc bs sm K F e wd dr fB (wsC x c e) (.list (nI P)) none y13 y14) [] =
      some (.next, lE sc bs sm K F e wd dr fB (wsC x' cf e) (.list (nI P')) none (some (.d (.list [.list (nI g), .list []]))) y14', [])
  | 0, s, c, P, g, cf, P', x, y13, y14, h => by cases h
  | t + 1, s, c, P, g, cf, P', x, y13, y14, h => by
    unfold rounds at h
    split at h
    · rename_i hb
      obtain ⟨b1, b2, b3, b4, b5⟩ := hb
      obtain ⟨z, x1, h1, h2, h4, _⟩ := A.ld (c := (growAll F c).1) (e := e) (f := s % 2) (g := 1 - s % 2) b4 b3 he (by lia)
      have m1 : bopD .mod (.int (s : Int)) (.int 2) = some (.int ((s % 2 : Nat) : Int)) := by
        simp only [Jd]; rw [if_pos (by decide)]; simp
      have hr := A.rd Q.s Q.f (c := c) (by lia) (by lia)
      have h6 := cmp_nilJ (growAll F c).2
      have h5 := A.eq (x := x1) (x' := x) (c := trim (growAll F c).1) (c' := c) (e := e) (e' := e)
      have step := fun b pairs' h5 h6 h8 => fb_ok S (sc := sc) (bs := bs) (sm := sm) (dr := dr) (wd := wd) (fB := fB) (y13 := y13) (y14 := y14) (b := b) (pairs := .list (nI P)) (pairs' := pairs') (wsC_3 x c e) Q.q1 Q.q2 hr m1 h1 h2 h4 h5 h6 h8
      rw [List.range'_succ, List.map_cons]
      show ∃ x' y14', loopF _ (PyData.int (s : Int) :: _) _ _ = _
      split at h
      · rename_i hJ
        split at h
        · rename_i hc
          cases h
          have := step true (.list (nI P)) (by rw [h5]; simp [hc]) (by rw [h6]; simp [hJ]) (by rw [hJ]; show bopD .add _ (.list []) = _; rw [add_list _ _ (by rw [nI_len]; simp; lia), List.append_nil])
          rw [hJ, hc] at this
          exact ⟨_, _, loopF_brk this⟩
        · cases h
      · rename_i hJ
        split at h
        · cases h
        · rename_i hc
          have hlen : (P ++ (growAll F c).2).length ≤ 40 := by
            cases t with
            | zero => cases h
            | succ t =>
              unfold rounds at h
              split at h
              · rename_i hb; exact hb.2.2.2.2
              · cases h
          rw [List.length_append] at hlen
          have := step false (.list (nI (P ++ (growAll F c).2))) (by rw [h5]; simp [hc]) (by rw [h6]; simp [hJ]) (by rw [add_list _ _ (by rw [nI_len, nI_len]; lia), nI_app])
          rw [loopF_next this]
          exact turns t (s + 1) _ _ _ _ _ _ _ _ h
    · cases h
end
end Mine
end
section
open PySem PySem.W PyProof.Rows PySem.Calls
namespace Mine
theorem intsOf_int : ∀ l : List Int, intsOf (l.map .int) = some l
  | [] => rfl
  | a :: r => by simp [intsOf, intsOf_int r]
theorem sl_ints (xs : List Int) (a b c : Option Int) (h : xs.length ≤ lim) (hc : c ≠ some 0) : ∃ ys : List Int, slD (.list (xs.map .int)) a b c = some (.list (ys.map .int)) := by
  refine ⟨(slP xs.length a b c).filterMap (xs[·]?), ?_⟩
  have e := sl_map' PyData.int xs (slP xs.length a b c)
  cases a <;> cases b <;> cases c <;> (simp only [slD, List.length_map]; rw [if_pos ⟨h, by assumption⟩, e])
noncomputable def baseL : List PyData := [.int 0, .int 2, .int 1, .int 0, .int 0, .int 2, .int 5]
noncomputable def sumE : PE := .bin .add (.cB .sum (.cons (.sl (.var 0) (.var 2) .no (.int 7)) .nil)) (.sub (.var 1) (.var 2))
noncomputable def hE (sc : PyData) (y1 y3 y4 y5 y6 y7 y8 : Option V) (y9 y10 : Option V) : En :=
  [some (.d sc), y1, none, y3, y4, y5, y6, y7, y8, y9, y10, none, none, none, none, none, none, none, none, none, none, none, none, none, none, none, none, none, none, none, none]
section
variable (S : Sem)
theorem sum_item {sc bs : PyData} {m s b a : Int} {ys : List PyData} (h1 : slD sc (some m) none (some 7) = some (.list ys)) (h2 : bltD .sum [.list ys] = some (.int s)) (h3 : subD bs (.int m) = some (.int b)) (h4 : bopD .add (.int s) (.int b) = some (.int a)) :
    stepC S (hE sc (some (.d bs)) none none none none none none none none) 2 (.tt true) sumE (.int m) = some (some (.int a)) := by
  simp only [stepC, hE, sumE, Za,Zc,Zd,Ze,Zh,Zp,Zu,Zv,ZD,ZE,Yd,Ye,Yf,Yg,Yl,Yv,Yw,YD,YP,YQ,Option.bind_some,List.mapM_cons,List.mapM_nil,Option.pure_def,Option.bind_eq_bind, partOf, h1, h2, h3, h4]
theorem sum_any {xs : List Int} (hx : xs.length ≤ lim) {m b : Int} (h3 : subD (.list baseL) (.int m) = some (.int b)) :
    ∃ a, stepC S (hE (.list (xs.map .int)) (some (.d (.list baseL))) none none none none none none none none) 2 (.tt true) sumE (.int m) = some (some (.int a)) := by
  obtain ⟨ys, h⟩ := sl_ints xs (some m) none (some 7) hx (by decide)
  have h2 : bltD .sum [.list (ys.map .int)] = some (.int ys.sum) := by simp only [Jr,intsOf_int]
  have h4 : bopD .add (.int ys.sum) (.int b) = some (.int (ys.sum + b)) := rfl
  exact ⟨ys.sum + b, sum_item S h h2 h3 h4⟩
theorem sums_ok {xs : List Int} (hx : xs.length ≤ lim) : ∃ a0 a1 a2 a3 a4 a5 a6 : Int, loopC (stepC S (hE (.list (xs.map .int)) (some (.d (.list baseL))) none none none none none none none none) 2 (.tt true) sumE) [.int 0, .int 1, .int 2, .int 3, .int 4, .int 5, .int 6] = some [.int a0, .int a1, .int a2, .int a3, .int a4, .int a5, .int a6] := by
  obtain ⟨a0, h0⟩ := sum_any S hx (m := 0) (b := 0) (by kernel_rfl)
  obtain ⟨a1, h1⟩ := sum_any S hx (m := 1) (b := 2) (by kernel_rfl)
  obtain ⟨a2, h2⟩ := sum_any S hx (m := 2) (b := 1) (by kernel_rfl)
  obtain ⟨a3, h3⟩ := sum_any S hx (m := 3) (b := 0) (by kernel_rfl)
  obtain ⟨a4, h4⟩ := sum_any S hx (m := 4) (b := 0) (by kernel_rfl)
  obtain ⟨a5, h5⟩ := sum_any S hx (m := 5) (b := 2) (by kernel_rfl)
  obtain ⟨a6, h6⟩ := sum_any S hx (m := 6) (b := 5) (by kernel_rfl)
  exact ⟨a0, a1, a2, a3, a4, a5, a6, by simp only [Jz,JA, h0, h1, h2, h3, h4, h5, h6, Option.map_some]⟩
variable {sc bs sm dr : PyData} {K F e wd a m : Int} {fB : List PyData} {z x : Str}
theorem lw_1ok : evS S lw_1 (hE sc none none none none none none none none none) [] = some (.next, hE sc (some (.d (.list baseL))) none none none none none none none none, []) := by
  have d : (0 + 1 + 1 + 1 + 1 + 1 + 1 + 1 : Nat) ≤ lim := by decide
  simp only [lw_1, hE, Za,Zw,ZD,ZE,ZL,Yf,Yg,Yo,Yr,Ys,Yt,Yu,Option.bind_some,if_true,List.length_cons,List.length_nil,Yt, Yu, Option.map_some, d, baseL]
theorem lw_2ok {ss : List PyData} (L : loopC (stepC S.cut (hE sc (some (.d bs)) none none none none none none none none) 2 (.tt true) sumE) [.int 0, .int 1, .int 2, .int 3, .int 4, .int 5, .int 6] = some ss) :
    evS S lw_2 (hE sc (some (.d bs)) none none none none none none none none) [] = some (.next, hE sc (some (.d bs)) (some (.d (.list ss))) none none none none none none none, []) := by
  have em : mask [0, 1] 0 (hE sc (some (.d bs)) none none none none none none none none) = hE sc (some (.d bs)) none none none none none none none none := rfl
  have r7 : (rangeI 0 7).map PyData.int = [.int 0, .int 1, .int 2, .int 3, .int 4, .int 5, .int 6] := by kernel_rfl
  have g1 : (7 : Int) < 100000 := by decide
  have g2 : -(2 ^ 62) < (7 : Int) := by decide
  have d : (0 + 1 + 1 + 1 + 1 + 1 + 1 + 1 : Nat) ≤ lim := by decide
  have e0 : evI S (hE sc (some (.d bs)) none none none none none none none none) (.rng1 (.int 7)) [] = some ([.int 0, .int 1, .int 2, .int 3, .int 4, .int 5, .int 6], []) := by
    simp only [Za,ZH,YD,YH,if_true,g1, g2, and_self, r7]
  unfold lw_2
  unfold sumE hE at L
  rw [ZL, evE_lc, e0, em]
  simp only [L, d, hE, Yf,Yg,if_true,List.length_cons,List.length_nil]
theorem lw_3ok (h : subD sm (.int 0) = some (.int a)) (h' : bopD .mod (.int a) (.int 6) = some (.int K)) : evS S lw_3 (hE sc (some (.d bs)) (some (.d sm)) none none none none none none none) [] = some (.next, hE sc (some (.d bs)) (some (.d sm)) (some (.d (.int K))) none none none none none none, []) := by
  simp only [lw_3, hE, Za,Ze,Zh,Zu,ZL,Yd,Ye,Yf,Yg,Yl,h, h']
theorem lw_4ok {b : Bool} (h : cmpD .eq (.int K) (.int 5) = some b) (h' : (if b then 3 else 2) = F) : evS S lw_4 (hE sc (some (.d bs)) (some (.d sm)) (some (.d (.int K))) none none none none none none) [] = some (.next, hE sc (some (.d bs)) (some (.d sm)) (some (.d (.int K))) (some (.d (.int F))) none none none none none, []) := by
  subst h'
  cases b <;> simp only [lw_4, hE, Za,Ze,Zj,Zn,ZL,Yd,Ye,Yf,Yg,Yl,Yv,Yw,Option.bind_some,if_true,h] <;> rfl
theorem lw_5ok (h : subD sm (.int 5) = some (.int a)) (h' : bopD .mod (.int a) (.int 6) = some (.int e)) : evS S lw_5 (hE sc (some (.d bs)) (some (.d sm)) (some (.d (.int K))) (some (.d (.int F))) none none none none none) [] = some (.next, hE sc (some (.d bs)) (some (.d sm)) (some (.d (.int K))) (some (.d (.int F))) (some (.d (.int e))) none none none none, []) := by
  simp only [lw_5, hE, Za,Ze,Zh,Zu,ZL,Yd,Ye,Yf,Yg,Yl,h, h']
theorem lw_6ok (h : subD sm (.int 6) = some (.int a)) (h' : bopD .mod (.int a) (.int 57) = some (.int m)) (h'' : bopD .add (.int 8) (.int m) = some (.int wd)) : evS S lw_6 (hE sc (some (.d bs)) (some (.d sm)) (some (.d (.int K))) (some (.d (.int F))) (some (.d (.int e))) none none none none) [] = some (.next, hE sc (some (.d bs)) (some (.d sm)) (some (.d (.int K))) (some (.d (.int F))) (some (.d (.int e))) (some (.d (.int wd))) none none none, []) := by
  simp only [lw_6, hE, Za,Ze,Zh,Zu,ZL,Yd,Ye,Yf,Yg,Yl,h, h', h'']
theorem lw_7ok (h : S.Φ .drawn [.d sm, .d (.int F)] = some (.d dr)) : evS S lw_7 (hE sc (some (.d bs)) (some (.d sm)) (some (.d (.int K))) (some (.d (.int F))) (some (.d (.int e))) (some (.d (.int wd))) none none none) [] = some (.next, hE sc (some (.d bs)) (some (.d sm)) (some (.d (.int K))) (some (.d (.int F))) (some (.d (.int e))) (some (.d (.int wd))) (some (.d dr)) none none, []) := by
  simp only [lw_7, hE, Ze,Zo,ZD,ZE,ZL,Yd,Ye,Yf,Yg,Yo,Yr,Ys,Option.bind_some,h]
theorem lw_8ok (h1 : S.Φ .lead [.d dr, .d (.int e), .d (.int 1)] = some (.d (.str z))) (h2 : bopD .add (.str z) (.str (Str.ofString "x \t")) = some (.str x)) (h3 : S.Φ .init [.d (.str x)] = some (.ws fB)) : evS S lw_8 (hE sc (some (.d bs)) (some (.d sm)) (some (.d (.int K))) (some (.d (.int F))) (some (.d (.int e))) (some (.d (.int wd))) (some (.d dr)) none none) [] = some (.next, hE sc (some (.d bs)) (some (.d sm)) (some (.d (.int K))) (some (.d (.int F))) (some (.d (.int e))) (some (.d (.int wd))) (some (.d dr)) (some (.ws fB)) none, []) := by
  simp only [lw_8, hE, Za,Zb,Ze,Zh,Zo,Zr,ZD,ZE,ZL,Yd,Ye,Yf,Yg,Yl,Yo,Yr,Ys,YD,Option.bind_some,h1, h2, h3]
theorem lw_9ok : evS S lw_9 (hE sc (some (.d bs)) (some (.d sm)) (some (.d (.int K))) (some (.d (.int F))) (some (.d (.int e))) (some (.d (.int wd))) (some (.d dr)) (some (.ws fB)) none) [] = some (.next, hE sc (some (.d bs)) (some (.d sm)) (some (.d (.int K))) (some (.d (.int F))) (some (.d (.int e))) (some (.d (.int wd))) (some (.d dr)) (some (.ws fB)) (some (.ws fB)), []) := by
  simp only [lw_9, hE, Ze,ZL,Yd,Ye,Yf,Yg]
theorem lw_10ok : evS S lw_10 (hE sc (some (.d bs)) (some (.d sm)) (some (.d (.int K))) (some (.d (.int F))) (some (.d (.int e))) (some (.d (.int wd))) (some (.d dr)) (some (.ws fB)) (some (.ws fB))) [] = some (.next, lE sc bs sm K F e wd dr fB fB (.list []) none none none, []) := by
  simp only [lw_10, hE, lE, Zw,ZD,ZL,Yf,Yg,Yr,Yt,Nat.zero_le,if_true,List.length_nil,Yt]
end
end Mine
end
section
open PySem PySem.W PyProof.Rows PySem.Calls
namespace Mine
noncomputable def mE (sc bs sm : PyData) (K F e wd : Int) (dr : PyData) (begun ended : List PyData) (pairs : PyData) (y13 y14 y15 y16 y17 y18 y19 y21 y27 y28 y29 y30 : Option V) : En :=
  [some (.d sc), some (.d bs), none, some (.d sm), some (.d (.int K)), some (.d (.int F)), some (.d (.int e)), some (.d (.int wd)), some (.d dr), some (.ws begun), some (.ws ended), some (.d pairs), none, y13, y14,
   y15, y16, y17, y18, y19, none, y21, none, none, none, none, none, y27, y28, y29, y30]
noncomputable def zE : En := [none, none, none, none, none, none, none, none, none, none, none, none, none, none, none, none, none, none, none, none, none, none, none, none, none, none, none, none, none, none, none]
noncomputable def kE (e mo : Int) : En := [none, none, none, none, none, none, some (.d (.int e)), none, none, none, none, none, none, none, none, none, some (.d (.int mo)), none, none, none, none, none, none, none, none, none, none, none, none, none, none]
theorem sub_t1 (a b : PyData) (r : List PyData) : subD (.tuple (a :: b :: r)) (.int 1) = some b := by simp [Jv]
theorem sub_t2 (a b c : PyData) (r : List PyData) : subD (.tuple (a :: b :: c :: r)) (.int 2) = some c := by simp [Jv]
noncomputable def farE : PE := .tp (.cons (.sub (.var 20) (.int 0)) (.cons (.sub (.var 20) (.int 1)) (.cons (.bin .sub (.bin .add (.sub (.var 20) (.int 2)) (.var 16)) (.var 6)) .nil)))
section
variable (S : Sem) {a b c e mo u v : Int} {t : Bool}
theorem far_item (h1 : bopD .add (.int c) (.int mo) = some (.int u)) (h2 : bopD .sub (.int u) (.int e) = some (.int v)) : stepC S (kE e mo) 20 (.tt true) farE (.tuple [.int a, .int b, .int c]) = some (some (.tuple [.int a, .int b, .int v])) := by
  have d : (0 + 1 + 1 + 1 : Nat) ≤ lim := by decide
  simp only [stepC, kE, farE, Za,Zc,Ze,Zh,Zu,Zy,ZD,ZE,Yd,Ye,Yf,Yg,Yl,Yo,Yr,Ys,Yt,Yu,Yv,Yw,YD,YP,Option.bind_some,if_true,List.length_cons,List.length_nil,sub_t0, sub_t1, sub_t2, Yt, Yu, Option.map_some, d, h1, h2]
theorem it_22 (h : cmpD .ne (.int b) (.int c) = some t) : stepC S zE 22 (.cmp .ne (.sub (.var 22) (.int 1)) (.sub (.var 22) (.int 2))) (.var 22) (.tuple [.int a, .int b, .int c]) = some (if t then some (.tuple [.int a, .int b, .int c]) else none) := by
  cases t <;> simp only [stepC, zE, Za,Ze,Zj,Zu,Yd,Ye,Yf,Yg,Yl,Yv,Yw,YD,YP,Option.bind_some,if_true,sub_t1, sub_t2, h] <;> rfl
theorem it_23 (h : cmpD .eq (.int b) (.int c) = some t) : stepC S zE 23 (.cmp .eq (.sub (.var 23) (.int 1)) (.sub (.var 23) (.int 2))) (.tp (.cons (.sub (.var 23) (.int 0)) (.cons (.sub (.var 23) (.int 2)) (.cons (.sub (.var 23) (.int 1)) .nil)))) (.tuple [.int a, .int b, .int c]) = some (if t then some (.tuple [.int a, .int c, .int b]) else none) := by
  have d : (0 + 1 + 1 + 1 : Nat) ≤ lim := by decide
  cases t <;> simp only [stepC, zE, Za,Ze,Zj,Zu,Zy,ZD,ZE,Yd,Ye,Yf,Yg,Yl,Yo,Yr,Ys,Yt,Yu,Yv,Yw,YD,YP,Option.bind_some,if_true,List.length_cons,List.length_nil,sub_t0, sub_t1, sub_t2, h, Yt, Yu, Option.map_some, d] <;> rfl
theorem it_24 (h : cmpD .ne (.int b) (.int c) = some t) : stepC S zE 24 (.cmp .ne (.sub (.var 24) (.int 1)) (.sub (.var 24) (.int 2))) (.tp (.cons (.sub (.var 24) (.int 0)) (.cons (.sub (.var 24) (.int 2)) (.cons (.sub (.var 24) (.int 1)) .nil)))) (.tuple [.int a, .int b, .int c]) = some (if t then some (.tuple [.int a, .int c, .int b]) else none) := by
  have d : (0 + 1 + 1 + 1 : Nat) ≤ lim := by decide
  cases t <;> simp only [stepC, zE, Za,Ze,Zj,Zu,Zy,ZD,ZE,Yd,Ye,Yf,Yg,Yl,Yo,Yr,Ys,Yt,Yu,Yv,Yw,YD,YP,Option.bind_some,if_true,List.length_cons,List.length_nil,sub_t0, sub_t1, sub_t2, h, Yt, Yu, Option.map_some, d] <;> rfl
theorem it_25 (h : cmpD .eq (.int b) (.int c) = some t) : stepC S zE 25 (.cmp .eq (.sub (.var 25) (.int 1)) (.sub (.var 25) (.int 2))) (.var 25) (.tuple [.int a, .int b, .int c]) = some (if t then some (.tuple [.int a, .int b, .int c]) else none) := by
  cases t <;> simp only [stepC, zE, Za,Ze,Zj,Zu,Yd,Ye,Yf,Yg,Yl,Yv,Yw,YD,YP,Option.bind_some,if_true,sub_t1, sub_t2, h] <;> rfl
theorem it_26 (h : cmpD .ge (.int b) (.int c) = some t) : stepC S zE 26 (.cmp .ge (.sub (.var 26) (.int 1)) (.sub (.var 26) (.int 2))) (.var 26) (.tuple [.int a, .int b, .int c]) = some (if t then some (.tuple [.int a, .int b, .int c]) else none) := by
  cases t <;> simp only [stepC, zE, Za,Ze,Zj,Zu,Yd,Ye,Yf,Yg,Yl,Yv,Yw,YD,YP,Option.bind_some,if_true,sub_t1, sub_t2, h] <;> rfl
end
theorem is_ff : cmpD .isn (.bool false) (.bool false) = some false := rfl
theorem is_bb (b : Bool) : cmpD .isn (.bool b) (.bool b) = some false := by cases b <;> rfl
section
variable (S : Sem) {sc bs sm dr pr due gs js : PyData} {K F e wd mo e1 f1 l ml ld m1 N m : Int} {fB fE fQ fT : List PyData} {tab near far over l2 l3 l4 l5 : List PyData} {z x y w : Str} {y14 : Option V} {n1 n2 nE nQ nT : PyData} {b : Bool}
theorem lw_12ok (h : S.Φ .figs [.d dr, .d (.int F)] = some (.d due)) : evS S lw_12 (mE sc bs sm K F e wd dr fB fE pr (some (.d (.list [gs, js]))) y14 none none none none none none none none none none) [] = some (.next, (mE sc bs sm K F e wd dr fB fE pr (some (.d (.list [gs, js]))) y14 (some (.d due)) none none none none none none none none none), []) := by
  simp only [lw_12, mE, Ze,Zo,ZD,ZE,ZL,Yd,Ye,Yf,Yg,Yo,Yr,Ys,Option.bind_some,h]
theorem lw_13ok (h1 : bopD .add (.int e) (.int 1) = some (.int e1)) (h2 : bopD .sub (.int F) (.int 1) = some (.int f1)) (h3 : bltD .len [pr] = some (.int l)) (h4 : bopD .mul (.int f1) (.int l) = some (.int ml)) (h5 : bopD .add (.int e1) (.int ml) = some (.int mo)) :
    evS S lw_13 (mE sc bs sm K F e wd dr fB fE pr (some (.d (.list [gs, js]))) y14 (some (.d due)) none none none none none none none none none) [] = some (.next, (mE sc bs sm K F e wd dr fB fE pr (some (.d (.list [gs, js]))) y14 (some (.d due)) (some (.d (.int mo))) none none none none none none none none), []) := by
  simp only [lw_13, mE, Za,Ze,Zh,Zp,ZD,ZE,ZL,Yd,Ye,Yf,Yg,Yl,Option.bind_some,List.mapM_cons,List.mapM_nil,Option.pure_def,Option.bind_eq_bind, h1, h2, h3, h4, h5]
theorem lw_14ok (h1 : S.Φ .lead [.d gs, .d (.int mo), .d (.int 1)] = some (.d (.str z))) (h2 : S.Φ .init [.d (.str z)] = some (.ws fQ)) :
    evS S lw_14 (mE sc bs sm K F e wd dr fB fE pr (some (.d (.list [gs, js]))) y14 (some (.d due)) (some (.d (.int mo))) none none none none none none none none) [] = some (.next, (mE sc bs sm K F e wd dr fB fE pr (some (.d (.list [gs, js]))) y14 (some (.d due)) (some (.d (.int mo))) (some (.ws fQ)) none none none none none none none), []) := by
  simp only [lw_14, mE, Za,Ze,Zo,Zr,Zu,ZD,ZE,ZL,Yd,Ye,Yf,Yg,Yl,Yo,Yr,Ys,YD,Option.bind_some,sub_l0, h1, h2]
theorem lw_15ok (h1 : bltD .len [due] = some (.int ld)) (h2 : bopD .add (.int mo) (.int 1) = some (.int m1)) (h3 : bltD .max [.int ld, .int m1] = some (.int N)) (h4 : S.Φ .cols [.d dr, .d pr, .d (.int e), .d (.int F), .d (.int N)] = some (.d (.list tab))) :
    evS S lw_15 (mE sc bs sm K F e wd dr fB fE pr (some (.d (.list [gs, js]))) y14 (some (.d due)) (some (.d (.int mo))) (some (.ws fQ)) none none none none none none none) [] = some (.next, (mE sc bs sm K F e wd dr fB fE pr (some (.d (.list [gs, js]))) y14 (some (.d due)) (some (.d (.int mo))) (some (.ws fQ)) (some (.d (.list tab))) none none none none none none), []) := by
  simp only [lw_15, mE, Za,Ze,Zh,Zo,Zp,ZD,ZE,ZL,Yd,Ye,Yf,Yg,Yl,Yo,Yr,Ys,Option.bind_some,List.mapM_cons,List.mapM_nil,Option.pure_def,Option.bind_eq_bind, h1, h2, h3, h4]
theorem lw_16ok (h1 : bltD .len [due] = some (.int ld)) (h2 : bopD .add (.int e) (.int 1) = some (.int e1)) (h3 : bltD .max [.int ld, .int e1] = some (.int m)) (h4 : slD (.list tab) none (some m) none = some (.list near)) :
    evS S lw_16 (mE sc bs sm K F e wd dr fB fE pr (some (.d (.list [gs, js]))) y14 (some (.d due)) (some (.d (.int mo))) (some (.ws fQ)) (some (.d (.list tab))) none none none none none none) [] = some (.next, (mE sc bs sm K F e wd dr fB fE pr (some (.d (.list [gs, js]))) y14 (some (.d due)) (some (.d (.int mo))) (some (.ws fQ)) (some (.d (.list tab))) (some (.d (.list near))) none none none none none), []) := by
  simp only [lw_16, mE, Za,Zd,Ze,Zh,Zp,Zv,ZD,ZE,ZL,Yd,Ye,Yf,Yg,Yl,YQ,Option.bind_some,List.mapM_cons,List.mapM_nil,Option.pure_def,Option.bind_eq_bind, partOf, h1, h2, h3, h4]
theorem lw_17ok (h1 : itemsD (.list tab) = some tab) (hl : tab.length ≤ lim) (h2 : loopC (stepC S.cut (kE e mo) 20 (.tt true) farE) tab = some far) :
    evS S lw_17 (mE sc bs sm K F e wd dr fB fE pr (some (.d (.list [gs, js]))) y14 (some (.d due)) (some (.d (.int mo))) (some (.ws fQ)) (some (.d (.list tab))) (some (.d (.list near))) none none none none none) [] = some (.next, (mE sc bs sm K F e wd dr fB fE pr (some (.d (.list [gs, js]))) y14 (some (.d due)) (some (.d (.int mo))) (some (.ws fQ)) (some (.d (.list tab))) (some (.d (.list near))) (some (.d (.list far))) none none none none), []) := by
  have em : mask [6, 16] 0 (mE sc bs sm K F e wd dr fB fE pr (some (.d (.list [gs, js]))) y14 (some (.d due)) (some (.d (.int mo))) (some (.ws fQ)) (some (.d (.list tab))) (some (.d (.list near))) none none none none none) = kE e mo := rfl
  unfold farE at h2
  unfold mE at em
  simp only [lw_17, mE, Ze,ZK,ZL,Yd,Ye,Yf,Yg,YD,evE_lc,if_true,h1, hl, em, h2]
theorem lw_18ok (e3 : fE[3]? = some nE) (q3 : fQ[3]? = some nQ) (h1 : cmpD .ne nE (.tuple [due, .int e]) = some false) (h2 : cmpD .ne nQ (.tuple [due, .int mo]) = some false) (h3 : S.Φ .equal [.ws fE, .ws fQ] = some (.d (.bool false))) :
    evS S lw_18 (mE sc bs sm K F e wd dr fB fE pr (some (.d (.list [gs, js]))) y14 (some (.d due)) (some (.d (.int mo))) (some (.ws fQ)) (some (.d (.list tab))) (some (.d (.list near))) (some (.d (.list far))) none none none none) [] = some (.next, (mE sc bs sm K F e wd dr fB fE pr (some (.d (.list [gs, js]))) y14 (some (.d due)) (some (.d (.int mo))) (some (.ws fQ)) (some (.d (.list tab))) (some (.d (.list near))) (some (.d (.list far))) none none none none), []) := by
  have d : (0 + 1 + 1 : Nat) ≤ lim := by decide
  have bb : (false == false) = true := rfl
  simp only [lw_18, mE, Zc,Ze,Zj,Zk,Zq,Zt,Zy,ZD,ZE,ZG,ZV,Yb,Yd,Ye,Yl,Yo,Yp,Yr,Ys,Yt,Yu,Yv,Yw,YE,YN,YR,YS,Option.bind_some,if_true,List.length_cons,List.length_nil,e3, q3, Yt, Yu, Option.map_some, d, h1, h2, h3, is_ff, bb]
theorem lw_19ok (h1 : S.Φ .nlW [.ws fB, .ws fE] = some (.d n1)) (h2 : cmpD .ne n1 (.list near) = some false) (h3 : S.Φ .neW [.ws fB, .ws fE] = some (.d n2)) (h4 : itemsD (.list near) = some near) (hl : near.length ≤ lim)
    (h5 : loopC (stepC S.cut zE 22 (.cmp .ne (.sub (.var 22) (.int 1)) (.sub (.var 22) (.int 2))) (.var 22)) near = some l2) (h6 : cmpD .ne n2 (.list l2) = some false) :
    evS S lw_19 (mE sc bs sm K F e wd dr fB fE pr (some (.d (.list [gs, js]))) y14 (some (.d due)) (some (.d (.int mo))) (some (.ws fQ)) (some (.d (.list tab))) (some (.d (.list near))) (some (.d (.list far))) none none none none) [] = some (.next, (mE sc bs sm K F e wd dr fB fE pr (some (.d (.list [gs, js]))) y14 (some (.d due)) (some (.d (.int mo))) (some (.ws fQ)) (some (.d (.list tab))) (some (.d (.list near))) (some (.d (.list far))) none none none none), []) := by
  have em : mask [] 0 (mE sc bs sm K F e wd dr fB fE pr (some (.d (.list [gs, js]))) y14 (some (.d due)) (some (.d (.int mo))) (some (.ws fQ)) (some (.d (.list tab))) (some (.d (.list near))) (some (.d (.list far))) none none none none) = zE := rfl
  have bb : (false == false) = true := rfl
  unfold mE at em
  simp only [lw_19, mE, Ze,Zj,Zk,Zq,ZD,ZE,ZG,ZK,ZV,Yb,Yd,Ye,Yl,Yp,Yr,Ys,Yv,Yw,YD,YE,YR,YS,evE_lc,Option.bind_some,if_true,h1, h2, h3, h4, hl, em, h5, h6, bb]
theorem lw_20ok (h1 : S.Φ .nlW [.ws fE, .ws fB] = some (.d n1)) (h4 : itemsD (.list near) = some near) (hl : near.length ≤ lim)
    (h5 : loopC (stepC S.cut zE 23 (.cmp .eq (.sub (.var 23) (.int 1)) (.sub (.var 23) (.int 2))) (.tp (.cons (.sub (.var 23) (.int 0)) (.cons (.sub (.var 23) (.int 2)) (.cons (.sub (.var 23) (.int 1)) .nil))))) near = some l3) (h6 : cmpD .ne n1 (.list l3) = some false) :
    evS S lw_20 (mE sc bs sm K F e wd dr fB fE pr (some (.d (.list [gs, js]))) y14 (some (.d due)) (some (.d (.int mo))) (some (.ws fQ)) (some (.d (.list tab))) (some (.d (.list near))) (some (.d (.list far))) none none none none) [] = some (.next, (mE sc bs sm K F e wd dr fB fE pr (some (.d (.list [gs, js]))) y14 (some (.d due)) (some (.d (.int mo))) (some (.ws fQ)) (some (.d (.list tab))) (some (.d (.list near))) (some (.d (.list far))) none none none none), []) := by
  have em : mask [] 0 (mE sc bs sm K F e wd dr fB fE pr (some (.d (.list [gs, js]))) y14 (some (.d due)) (some (.d (.int mo))) (some (.ws fQ)) (some (.d (.list tab))) (some (.d (.list near))) (some (.d (.list far))) none none none none) = zE := rfl
  unfold mE at em
  simp only [lw_20, mE, Ze,Zj,Zq,ZD,ZE,ZK,ZV,Yb,Yd,Ye,Yl,Yp,Yr,Ys,Yv,Yw,YD,YE,evE_lc,Option.bind_some,if_true,h1, h4, hl, em, h5, h6]
theorem lw_21ok (h1 : S.Φ .neW [.ws fQ, .ws fB] = some (.d n1)) (h4 : itemsD (.list far) = some far) (hl : far.length ≤ lim)
    (h5 : loopC (stepC S.cut zE 24 (.cmp .ne (.sub (.var 24) (.int 1)) (.sub (.var 24) (.int 2))) (.tp (.cons (.sub (.var 24) (.int 0)) (.cons (.sub (.var 24) (.int 2)) (.cons (.sub (.var 24) (.int 1)) .nil))))) far = some l3) (h6 : cmpD .ne n1 (.list l3) = some false) :
    evS S lw_21 (mE sc bs sm K F e wd dr fB fE pr (some (.d (.list [gs, js]))) y14 (some (.d due)) (some (.d (.int mo))) (some (.ws fQ)) (some (.d (.list tab))) (some (.d (.list near))) (some (.d (.list far))) none none none none) [] = some (.next, (mE sc bs sm K F e wd dr fB fE pr (some (.d (.list [gs, js]))) y14 (some (.d due)) (some (.d (.int mo))) (some (.ws fQ)) (some (.d (.list tab))) (some (.d (.list near))) (some (.d (.list far))) none none none none), []) := by
  have em : mask [] 0 (mE sc bs sm K F e wd dr fB fE pr (some (.d (.list [gs, js]))) y14 (some (.d due)) (some (.d (.int mo))) (some (.ws fQ)) (some (.d (.list tab))) (some (.d (.list near))) (some (.d (.list far))) none none none none) = zE := rfl
  unfold mE at em
  simp only [lw_21, mE, Ze,Zj,Zq,ZD,ZE,ZK,ZV,Yb,Yd,Ye,Yl,Yp,Yr,Ys,Yv,Yw,YD,YE,evE_lc,Option.bind_some,if_true,h1, h4, hl, em, h5, h6]
theorem lw_22ok (h1 : S.Φ .less [.ws fE, .ws fB] = some (.d (.bool b))) (h4 : itemsD (.list near) = some near) (hl : near.length ≤ lim)
    (h5 : loopC (stepC S.cut zE 25 (.cmp .eq (.sub (.var 25) (.int 1)) (.sub (.var 25) (.int 2))) (.var 25)) near = some l4) (h6 : cmpD .eq (.list l4) (.list []) = some b) :
    evS S lw_22 (mE sc bs sm K F e wd dr fB fE pr (some (.d (.list [gs, js]))) y14 (some (.d due)) (some (.d (.int mo))) (some (.ws fQ)) (some (.d (.list tab))) (some (.d (.list near))) (some (.d (.list far))) none none none none) [] = some (.next, (mE sc bs sm K F e wd dr fB fE pr (some (.d (.list [gs, js]))) y14 (some (.d due)) (some (.d (.int mo))) (some (.ws fQ)) (some (.d (.list tab))) (some (.d (.list near))) (some (.d (.list far))) none none none none), []) := by
  have em : mask [] 0 (mE sc bs sm K F e wd dr fB fE pr (some (.d (.list [gs, js]))) y14 (some (.d due)) (some (.d (.int mo))) (some (.ws fQ)) (some (.d (.list tab))) (some (.d (.list near))) (some (.d (.list far))) none none none none) = zE := rfl
  unfold mE at em
  simp only [lw_22, mE, Ze,Zj,Zq,Zw,ZD,ZE,ZK,ZV,Yb,Yd,Ye,Yl,Yp,Yr,Ys,Yt,Yv,Yw,YD,YE,evE_lc,Option.bind_some,Nat.zero_le,if_true,List.length_nil,h1, h4, hl, em, h5, Yt, h6, is_bb]
theorem lw_23ok (h4 : itemsD (.list far) = some far) (hl : far.length ≤ lim)
    (h5 : loopC (stepC S.cut zE 26 (.cmp .ge (.sub (.var 26) (.int 1)) (.sub (.var 26) (.int 2))) (.var 26)) far = some over) :
    evS S lw_23 (mE sc bs sm K F e wd dr fB fE pr (some (.d (.list [gs, js]))) y14 (some (.d due)) (some (.d (.int mo))) (some (.ws fQ)) (some (.d (.list tab))) (some (.d (.list near))) (some (.d (.list far))) none none none none) [] = some (.next, (mE sc bs sm K F e wd dr fB fE pr (some (.d (.list [gs, js]))) y14 (some (.d due)) (some (.d (.int mo))) (some (.ws fQ)) (some (.d (.list tab))) (some (.d (.list near))) (some (.d (.list far))) (some (.d (.list over))) none none none), []) := by
  have em : mask [] 0 (mE sc bs sm K F e wd dr fB fE pr (some (.d (.list [gs, js]))) y14 (some (.d due)) (some (.d (.int mo))) (some (.ws fQ)) (some (.d (.list tab))) (some (.d (.list near))) (some (.d (.list far))) none none none none) = zE := rfl
  unfold mE at em
  simp only [lw_23, mE, Ze,ZK,ZL,Yd,Ye,Yf,Yg,YD,evE_lc,if_true,h4, hl, em, h5]
theorem lw_24ok (h1 : S.Φ .nlW [.ws fB, .ws fQ] = some (.d n1)) (h2 : cmpD .ne n1 (.list over) = some false) (h3 : S.Φ .less [.ws fB, .ws fQ] = some (.d (.bool b))) (h6 : cmpD .eq (.list over) (.list []) = some b) :
    evS S lw_24 (mE sc bs sm K F e wd dr fB fE pr (some (.d (.list [gs, js]))) y14 (some (.d due)) (some (.d (.int mo))) (some (.ws fQ)) (some (.d (.list tab))) (some (.d (.list near))) (some (.d (.list far))) (some (.d (.list over))) none none none) [] = some (.next, (mE sc bs sm K F e wd dr fB fE pr (some (.d (.list [gs, js]))) y14 (some (.d due)) (some (.d (.int mo))) (some (.ws fQ)) (some (.d (.list tab))) (some (.d (.list near))) (some (.d (.list far))) (some (.d (.list over))) none none none), []) := by
  have bb : (false == false) = true := rfl
  simp only [lw_24, mE, Ze,Zj,Zk,Zq,Zw,ZD,ZE,ZG,ZV,Yb,Yd,Ye,Yl,Yp,Yr,Ys,Yt,Yv,Yw,YE,YR,YS,Option.bind_some,Nat.zero_le,if_true,List.length_nil,h1, h2, h3, Yt, h6, is_bb, bb]
theorem lw_25ok {s : Int} (h1 : bltD .sum [dr] = some (.int s)) (h2 : bopD .mul (.str (Str.ofString "\t")) (.int s) = some (.str x)) (h3 : bopD .mul (.str (Str.ofString " ")) (.int e) = some (.str y)) (h4 : bopD .add (.str x) (.str y) = some (.str w)) (h5 : S.Φ .init [.d (.str w)] = some (.ws fT))
    (h6 : S.Φ .less [.ws fT, .ws fB] = some (.d (.bool false))) (h7 : bopD .add (.int e) (.int 1) = some (.int e1)) (h8 : S.Φ .plain [.d (.int e1)] = some (.d (.bool true))) :
    evS S lw_25 (mE sc bs sm K F e wd dr fB fE pr (some (.d (.list [gs, js]))) y14 (some (.d due)) (some (.d (.int mo))) (some (.ws fQ)) (some (.d (.list tab))) (some (.d (.list near))) (some (.d (.list far))) (some (.d (.list over))) none none none) [] = some (.next, (mE sc bs sm K F e wd dr fB fE pr (some (.d (.list [gs, js]))) y14 (some (.d due)) (some (.d (.int mo))) (some (.ws fQ)) (some (.d (.list tab))) (some (.d (.list near))) (some (.d (.list far))) (some (.d (.list over))) none none none), []) := by
  have bb : (false == false) = true := rfl
  simp only [lw_25, mE, Za,Zb,Zc,Ze,Zh,Zj,Zk,Zl,Zo,Zp,Zq,Zr,ZD,ZE,ZG,ZV,ZW,Yb,Yc,Yd,Ye,Yl,Yo,Yp,Yr,Ys,Yv,Yw,YD,YE,YR,YS,Option.bind_some,if_true,List.mapM_cons,List.mapM_nil,Option.pure_def,Option.bind_eq_bind, h1, h2, h3, h4, h5, h6, is_ff, h7, h8, bb]
  rfl
end
end Mine
end
section
open PySem PySem.W PyProof.Rows PySem.Calls
namespace Mine
noncomputable def coef (F : Nat) : List Nat := if F = 2 then [1, 1, 1, 2, 2, 3, 3, 3, 3, 3, 3, 2, 2, 1, 1, 1] else [1, 1, 2, 2, 4, 5, 6, 7, 9, 10, 12, 12, 14, 14, 15, 15, 15, 14, 14, 12, 12, 10, 9, 7, 6, 5, 4, 2, 2, 1, 1]
structure TailS (S : Sem) : Prop where
  pl : ∀ e : Nat, e ≤ 5 → S.Φ .plain [.d (.int ((e + 1 : Nat) : Int))] = some (.d (.bool true))
  ws : ∀ F : Nat, F = 2 ∨ F = 3 → S.Φ .ways [.d (.int 5), .d (.int (F : Int))] = some (.d (.list (nI ((coef F).take 6))))
  tl : ∀ F w : Nat, F = 2 ∨ F = 3 → 8 ≤ w → w ≤ 64 → ∃ p1 p2 q : Int, S.Φ .prod [.d (.int (w : Int)), .d (.int (F : Int))] = some (.d (.int p1)) ∧ S.Φ .prod [.d (.int (w : Int)), .d (.int 1)] = some (.d (.int p2)) ∧
    S.Φ .idm [.d (.int p1), .d (.int p2)] = some (.d (.tuple [.int q, .int 0])) ∧ S.Φ .i2d [.d (.int q), .d (.int (w : Int))] = some (.d (.list (nI (coef F))))
section
variable (S : Sem) {sc bs sm dr pr due gs js wy : PyData} {K F e wd mo p1 p2 q r s s' : Int} {fB fE fQ : List PyData} {tab near far over fg f6 rv : List PyData} {y14 : Option V}
theorem lw_26ok (h1 : S.Φ .prod [.d (.int wd), .d (.int F)] = some (.d (.int p1))) (h2 : S.Φ .prod [.d (.int wd), .d (.int 1)] = some (.d (.int p2))) (h3 : S.Φ .idm [.d (.int p1), .d (.int p2)] = some (.d (.tuple [.int q, .int r]))) :
    evS S lw_26 (mE sc bs sm K F e wd dr fB fE pr (some (.d (.list [gs, js]))) y14 (some (.d due)) (some (.d (.int mo))) (some (.ws fQ)) (some (.d (.list tab))) (some (.d (.list near))) (some (.d (.list far))) (some (.d (.list over))) none none none) [] = some (.next, (mE sc bs sm K F e wd dr fB fE pr (some (.d (.list [gs, js]))) y14 (some (.d due)) (some (.d (.int mo))) (some (.ws fQ)) (some (.d (.list tab))) (some (.d (.list near))) (some (.d (.list far))) (some (.d (.list over))) (some (.d (.int q))) (some (.d (.int r))) none), []) := by
  simp only [lw_26, mE, Za,Ze,Zo,ZD,ZE,ZM,Yd,Ye,Yf,Yg,Yo,Yr,Ys,Yz,YA,YD,YK,Option.bind_some,List.map_cons,List.map_nil,h1, h2, h3]
theorem lw_27ok (h1 : S.Φ .i2d [.d (.int q), .d (.int wd)] = some (.d (.list fg))) :
    evS S lw_27 (mE sc bs sm K F e wd dr fB fE pr (some (.d (.list [gs, js]))) y14 (some (.d due)) (some (.d (.int mo))) (some (.ws fQ)) (some (.d (.list tab))) (some (.d (.list near))) (some (.d (.list far))) (some (.d (.list over))) (some (.d (.int q))) (some (.d (.int r))) none) [] = some (.next, (mE sc bs sm K F e wd dr fB fE pr (some (.d (.list [gs, js]))) y14 (some (.d due)) (some (.d (.int mo))) (some (.ws fQ)) (some (.d (.list tab))) (some (.d (.list near))) (some (.d (.list far))) (some (.d (.list over))) (some (.d (.int q))) (some (.d (.int r))) (some (.d (.list fg)))), []) := by
  simp only [lw_27, mE, Ze,Zo,ZD,ZE,ZL,Yd,Ye,Yf,Yg,Yo,Yr,Ys,Option.bind_some,h1]
theorem lw_28ok (h1 : cmpD .eq (.int r) (.int 0) = some true) (h2 : slD (.list fg) none (some 6) none = some (.list f6)) (h3 : S.Φ .ways [.d (.int 5), .d (.int F)] = some (.d wy)) (h4 : cmpD .eq (.list f6) wy = some true)
    (h5 : slD (.list fg) none none (some (-1)) = some (.list rv)) (h6 : cmpD .eq (.list fg) (.list rv) = some true) (h7 : bltD .sum [.list fg] = some (.int s)) (h8 : bopD .pow (.int F) (.int 5) = some (.int s')) (h9 : cmpD .eq (.int s) (.int s') = some true) :
    evBl S lwR_28 (mE sc bs sm K F e wd dr fB fE pr (some (.d (.list [gs, js]))) y14 (some (.d due)) (some (.d (.int mo))) (some (.ws fQ)) (some (.d (.list tab))) (some (.d (.list near))) (some (.d (.list far))) (some (.d (.list over))) (some (.d (.int q))) (some (.d (.int r))) (some (.d (.list fg)))) [] = some (.ret (.d (.bool true)), (mE sc bs sm K F e wd dr fB fE pr (some (.d (.list [gs, js]))) y14 (some (.d due)) (some (.d (.int mo))) (some (.ws fQ)) (some (.d (.list tab))) (some (.d (.list near))) (some (.d (.list far))) (some (.d (.list over))) (some (.d (.int q))) (some (.d (.int r))) (some (.d (.list fg)))), []) := by
  have bb : (true == true) = true := rfl
  simp only [lwR_28, lw_28, mE, Za,Zd,Ze,Zh,Zj,Zk,Zm,Zo,Zp,Zv,ZD,ZE,ZG,ZW,Yc,Yd,Ye,Yl,Yo,Yr,Ys,Yv,Yw,YD,YH,YQ,YR,YS,Option.bind_some,if_true,List.mapM_cons,List.mapM_nil,Option.pure_def,Option.bind_eq_bind, partOf, h1, h2, h3, h4, h5, h6, h7, h8, h9, bb]
end
theorem coef_ok {F : Nat} (hF : F = 2 ∨ F = 3) : slD (.list (nI (coef F))) none (some 6) none = some (.list (nI ((coef F).take 6))) ∧ cmpD .eq (.list (nI ((coef F).take 6))) (.list (nI ((coef F).take 6))) = some true ∧
    slD (.list (nI (coef F))) none none (some (-1)) = some (.list (nI (coef F))) ∧ cmpD .eq (.list (nI (coef F))) (.list (nI (coef F))) = some true ∧ bltD .sum [.list (nI (coef F))] = some (.int ((F ^ 5 : Nat) : Int)) ∧ bopD .pow (.int (F : Int)) (.int 5) = some (.int ((F ^ 5 : Nat) : Int)) := by
  rcases hF with rfl | rfl
  · exact ⟨by kernel_rfl, by kernel_rfl, by kernel_rfl, by kernel_rfl, by kernel_rfl, by kernel_rfl⟩
  · exact ⟨by kernel_rfl, by kernel_rfl, by kernel_rfl, by kernel_rfl, by kernel_rfl, by kernel_rfl⟩
noncomputable def R3 (l : List PyData) : Prop := ∀ x ∈ l, ∃ a b c, x = row3 a b c
theorem r3_lay : ∀ {l : List PyData}, R3 l → PyData.canLayAll0 l = true ∧ PyData.depthAll l ≤ 1 ∧ PyData.eqvAll l l = true
  | [], _ => ⟨rfl, by simp [PyData.depthAll], rfl⟩
  | x :: r, h => by
    obtain ⟨a, b, c, rfl⟩ := h x (.head _)
    obtain ⟨h1, h2, h3⟩ := r3_lay (l := r) fun y hy => h y (.tail _ hy)
    refine ⟨?_, ?_, ?_⟩
    · simp [PyData.canLayAll0, row3, PyData.canLay0, nD, h1]
    · simp [PyData.depthAll, row3, PyData.depth, nD]; lia
    · simp [PyData.eqvAll, row3, PyData.eqv, nD, h3]
theorem r3_shaped {l : List PyData} (h : R3 l) : SeqAt.shaped (.list l) = true := by
  obtain ⟨h1, h2, _⟩ := r3_lay h
  simp [SeqAt.shaped, PyData.canLay0, PyData.depth, h1]
  lia
theorem ne_self {l : List PyData} (h : R3 l) : cmpD .ne (.list l) (.list l) = some false := by
  have h1 := r3_shaped h
  simp only [Jf,h1, Bool.and_self, if_true, PyData.eqv, (r3_lay h).2.2]
  rfl
theorem eq_nil {l : List PyData} (h : R3 l) : cmpD .eq (.list l) (.list []) = some l.isEmpty := by
  have h1 := r3_shaped h
  have h2 : SeqAt.shaped (.list []) = true := rfl
  simp only [Je,h1, h2, Bool.and_self, if_true, PyData.eqv]
  cases l <;> rfl
theorem r3_fm {f : Nat → Option PyData} (hf : ∀ k x, f k = some x → ∃ a b c, x = row3 a b c) (n : Nat) : R3 ((List.range n).filterMap f) := fun x hx => by
  obtain ⟨k, _, h⟩ := List.mem_filterMap.mp hx
  exact hf k x h
theorem r3_map (f g h : Nat → Nat) (n : Nat) : R3 ((List.range n).map fun k => row3 (f k) (g k) (h k)) := fun x hx => by
  obtain ⟨k, _, h⟩ := List.mem_map.mp hx
  exact ⟨_, _, _, h.symm⟩
theorem ite_r3 {p : Prop} [Decidable p] {a b c : Nat} (x : PyData) (h : (if p then some (row3 a b c) else none) = some x) : ∃ a b c, x = row3 a b c := by
  split at h
  · cases h; exact ⟨_, _, _, rfl⟩
  · cases h
theorem slP_to (n m : Nat) (h : m ≤ n) : slP n none (some (m : Int)) none = List.range m := by
  have a1 : ((m : Int) < 0) = False := by simp
  have a2 : ((1 : Int) > 0) = True := by simp
  have e1 : max (0 : Int) (min (m : Int) (n : Int)) = (m : Int) := by lia
  simp only [slP, sliceBounds, sliceRange, Option.getD_none, a1, a2, if_true, if_false, e1]
  by_cases q : (0 : Int) < (m : Int)
  · have e3 : (((m : Int) - 0 + 1 - 1) / 1).toNat = m := by lia
    rw [if_pos q, e3]
    refine List.ext_getElem (by simp) fun i h1 h2 => by simp
  · have : m = 0 := by lia
    subst this
    rfl
theorem sl_take (f : Nat → PyData) (n m : Nat) (h : m ≤ n) (hn : n ≤ 1000) : slD (.list ((List.range n).map f)) none (some (m : Int)) none = some (.list ((List.range m).map f)) := by
  simp only [slD]
  rw [if_pos ⟨by rw [List.length_map, List.length_range]; exact Nat.le_trans hn (by decide), by decide⟩, List.length_map, List.length_range, slP_to n m h, sl_map']
  congr 3
  have := StrLaws.picks (List.range n) m 0 (by rw [List.length_range]; lia)
  simp only [Nat.zero_add, List.drop_zero, List.map_id'] at this
  rw [this, List.take_range, Nat.min_eq_left h]
end Mine
end
section
open PySem PySem.W PyProof.Rows PySem.Calls
namespace Mine
theorem drawnL_len (F a b c d : Nat) : (drawnL F a b c d).length = 8 := by unfold drawnL; split <;> rfl
theorem drawnL_sum (F a b c d : Nat) : (drawnL F a b c d).sum = a + b + c + d := by unfold drawnL; split <;> simp <;> lia
theorem nat_of_mod (a : Int) (m : Nat) (h : 0 < m) : ∃ k : Nat, k < m ∧ a % (m : Int) = (k : Int) := by
  have h1 := Int.emod_nonneg a (by lia : (m : Int) ≠ 0)
  have h2 := Int.emod_lt_of_pos a (by lia : (0 : Int) < m)
  exact ⟨(a % (m : Int)).toNat, by lia, by lia⟩
theorem drawn_ok {S : Sem} (A : LawS S) {F : Nat} (hF : F = 2 ∨ F = 3) (a0 a1 a2 a3 a4 a5 a6 : Int) : ∃ a b c d : Nat, a < 10 ∧ b < 5 ∧ c < 3 ∧ d < 2 ∧
    S.Φ .drawn [.d (.list [.int a0, .int a1, .int a2, .int a3, .int a4, .int a5, .int a6]), .d (.int (F : Int))] = some (.d (.list (nI (drawnL F a b c d)))) := by
  obtain ⟨a, ha, e1⟩ := nat_of_mod a1 10 (by decide)
  obtain ⟨b, hb, e2⟩ := nat_of_mod a2 5 (by decide)
  obtain ⟨c, hc, e3⟩ := nat_of_mod a3 3 (by decide)
  obtain ⟨d, hd, e4⟩ := nat_of_mod a4 2 (by decide)
  refine ⟨a, b, c, d, ha, hb, hc, hd, ?_⟩
  rcases hF with rfl | rfl
  · refine (A.d2 a0 a1 a2 a3 a4 a5 a6).trans ?_
    rw [show a1 % 10 = (a : Int) from e1, show a2 % 5 = (b : Int) from e2, show a3 % 3 = (c : Int) from e3, show a4 % 2 = (d : Int) from e4]
    rfl
  · refine (A.d3 a0 a1 a2 a3 a4 a5 a6).trans ?_
    rw [show a1 % 10 = (a : Int) from e1, show a2 % 5 = (b : Int) from e2, show a3 % 3 = (c : Int) from e3, show a4 % 2 = (d : Int) from e4]
    rfl
theorem kind_ok (k : Nat) (hk : k < 6) : ∃ (F sg : Nat) (n0 n1 : Int), Kd (k : Int) F sg n0 n1 ∧ (if decide ((k : Int) = 5) then (3 : Int) else 2) = (F : Int) := by
  match k, hk with
  | 0, _ => exact ⟨_, _, _, _, kd_0, rfl⟩
  | 1, _ => exact ⟨_, _, _, _, kd_1, rfl⟩
  | 2, _ => exact ⟨_, _, _, _, kd_2, rfl⟩
  | 3, _ => exact ⟨_, _, _, _, kd_3, rfl⟩
  | 4, _ => exact ⟨_, _, _, _, kd_4, rfl⟩
  | 5, _ => exact ⟨_, _, _, _, kd_5, rfl⟩
theorem subI_nat (a b : Nat) (h : b ≤ a) : bopD .sub (.int (a : Int)) (.int (b : Int)) = some (.int ((a - b : Nat) : Int)) := by
  simp only [YY]; congr 2; omega
section
variable {S : Sem} (A : LawS S) (T : TailS S) {F : Nat} (hF : F = 2 ∨ F = 3) {c0 g cf P u : List Nat} (D : Deal F c0 g cf P u) (hl : c0.length = 8) (hs : c0.sum ≤ 16) {e w : Nat} (he : e ≤ 5) (hw : 8 ≤ w) (hw' : w ≤ 64)
include A T hF D hl hs he hw hw'
theorem law_tail {sc bs sm : PyData} {K : Int} {xB xE : Str} {y14 : Option V} :
    ∃ en, evBl S lwR_12 (lE sc bs sm K F e w (.list (nI c0)) (wsC xB (trim c0) e) (wsC xE cf e) (.list (nI P)) none (some (.d (.list [.list (nI g), .list []]))) y14) [] = some (.ret (.d (.bool true)), en, []) := by
  have hmo : moreN F P e = e + 1 + (F - 1) * P.length := rfl
  have hpl := D.pl
  have hlf := D.lf
  have htl := trim_length c0
  have hts := trim_sum c0
  have hm90 : moreN F P e ≤ 88 := by rcases hF with rfl | rfl <;> lia
  have sB : Small (trim c0) e := ⟨by lia, by lia, by lia⟩
  have sE : Small cf e := ⟨by lia, by have := D.sf; lia, by lia⟩
  have sQ : Small cf (moreN F P e) := ⟨by lia, by have := D.sf; lia, by omega⟩
  have sT : Small (trim [c0.sum]) e := ⟨by have : (trim [c0.sum]).length ≤ 1 := trim_length _; lia, by rw [trim_sum]; simp; lia, by lia⟩
  have i1 : ((1 : Nat) : Int) = 1 := rfl
  have f12 := A.fg hF (c := c0) (by lia) D.fg
  rw [D.due] at f12
  have f13 : bopD .add (.int ((e + 1 : Nat) : Int)) (.int (((F - 1) * P.length : Nat) : Int)) = some (.int ((moreN F P e : Nat) : Int)) := add_nat _ _
  have s1 : bopD .sub (.int (F : Int)) (.int 1) = some (.int ((F - 1 : Nat) : Int)) := subI_nat F 1 (by lia)
  have m1 := mul_nat (F - 1) P.length (by omega) (by lia)
  obtain ⟨zQ, xQ, q1, _, _, q4⟩ := A.ld (c := g) (e := moreN F P e) (f := 1) (g := 0) D.lg D.sg (by omega) rfl
  rw [D.tg] at q4
  rw [i1] at q1
  have f15 := A.cl hF (c := c0) (P := P) (e := e) (by lia) (by lia) (by lia) D.pk (by lia) (n := max cf.length (moreN F P e + 1)) (by omega)
  have rows : ((List.range (max cf.length (moreN F P e + 1))).map fun k => cRow F c0 P e (1 + k)) = (List.range (max cf.length (moreN F P e + 1))).map fun k => row3 (1 + k) (Ind (1 + k) (trim c0) e) (Ind (1 + k) cf e) := by
    refine List.map_congr_left fun k _ => ?_
    have h1 := A_eq hF D e (ts := 1 + k) (by lia)
    have h2 : Ind (1 + k) c0 e = Ind (1 + k) (trim c0) e := by unfold Ind; rw [trim_dot]
    unfold cRow row3 nD
    rw [h2, h1]
    congr 4
    simp
  rw [rows] at f15
  have hN : max cf.length (e + 1) ≤ max cf.length (moreN F P e + 1) := by omega
  have f16 := sl_take (fun k => row3 (1 + k) (Ind (1 + k) (trim c0) e) (Ind (1 + k) cf e)) _ _ hN (by omega)
  have hlenN : ((List.range (max cf.length (moreN F P e + 1))).map fun k => row3 (1 + k) (Ind (1 + k) (trim c0) e) (Ind (1 + k) cf e)).length ≤ lim := by
    rw [List.length_map, List.length_range]; exact Nat.le_trans (by omega : _ ≤ 1000) (by decide)
  have hlenF : ((List.range (max cf.length (moreN F P e + 1))).map fun k => row3 (1 + k) (Ind (1 + k) (trim c0) e) (Ind (1 + k) cf (moreN F P e))).length ≤ lim := by
    rw [List.length_map, List.length_range]; exact Nat.le_trans (by omega : _ ≤ 1000) (by decide)
  have hlenn : ((List.range (max cf.length (e + 1))).map fun k => row3 (1 + k) (Ind (1 + k) (trim c0) e) (Ind (1 + k) cf e)).length ≤ lim := by
    rw [List.length_map, List.length_range]; exact Nat.le_trans (by omega : _ ≤ 1000) (by decide)
  have itm : ∀ l : List PyData, l.length ≤ lim → itemsD (.list l) = some l := fun l h => by simp only [itemsD]; rw [if_pos h]
  have f17 : loopC (stepC S.cut (kE e (moreN F P e : Nat)) 20 (.tt true) farE) ((List.range (max cf.length (moreN F P e + 1))).map fun k => row3 (1 + k) (Ind (1 + k) (trim c0) e) (Ind (1 + k) cf e)) =
      some ((List.range (max cf.length (moreN F P e + 1))).map fun k => row3 (1 + k) (Ind (1 + k) (trim c0) e) (Ind (1 + k) cf (moreN F P e))) := by
    rw [loopC_map (h := fun k => some (row3 (1 + k) (Ind (1 + k) (trim c0) e) (Ind (1 + k) cf (moreN F P e)))) _ (fun k _ => by
      have hq := Q_eq hF D e (1 + k)
      refine far_item S.cut (add_nat (Ind (1 + k) cf e) (moreN F P e)) ?_
      rw [hq, subI_nat _ _ (by lia)]
      congr 3; lia), List.filterMap_eq_map']
  have n1 : ∀ mo : Nat, cmpD .ne (.tuple [.tuple (nI cf), .int (mo : Int)]) (.tuple [.tuple (nI cf), .int (mo : Int)]) = some false := fun mo => by
    simp only [Jf,shaped_norm, Bool.and_self, if_true, eqv_norm]
    simp
  have f18 := A.eq (x := xE) (x' := zQ) (c := cf) (c' := cf) (e := e) (e' := moreN F P e)
  rw [decide_eq_false (by lia : ¬ e = moreN F P e), Bool.and_false] at f18
  have f19 := A.nl (x := xB) (x' := xE) sB sE
  rw [L1 hF D e] at f19
  have g19 := A.ne (x := xB) (x' := xE) sB sE
  rw [L2 hF D e] at g19
  have c19 : loopC (stepC S.cut zE 22 (.cmp .ne (.sub (.var 22) (.int 1)) (.sub (.var 22) (.int 2))) (.var 22)) ((List.range (max cf.length (e + 1))).map fun k => row3 (1 + k) (Ind (1 + k) (trim c0) e) (Ind (1 + k) cf e)) =
      some ((List.range (max cf.length (e + 1))).filterMap fun k => if Ind (1 + k) (trim c0) e ≠ Ind (1 + k) cf e then some (row3 (1 + k) (Ind (1 + k) (trim c0) e) (Ind (1 + k) cf e)) else none) :=
    loopC_map _ fun k _ => (it_22 S.cut (cmp_ne _ _)).trans (by by_cases q : Ind (1 + k) (trim c0) e = Ind (1 + k) cf e <;> simp [q, row3, nD])
  have f20 := A.nl (x := xE) (x' := xB) sE sB
  rw [L3 hF D e] at f20
  have c20 : loopC (stepC S.cut zE 23 (.cmp .eq (.sub (.var 23) (.int 1)) (.sub (.var 23) (.int 2))) (.tp (.cons (.sub (.var 23) (.int 0)) (.cons (.sub (.var 23) (.int 2)) (.cons (.sub (.var 23) (.int 1)) .nil))))) ((List.range (max cf.length (e + 1))).map fun k => row3 (1 + k) (Ind (1 + k) (trim c0) e) (Ind (1 + k) cf e)) =
      some ((List.range (max cf.length (e + 1))).filterMap fun k => if Ind (1 + k) (trim c0) e = Ind (1 + k) cf e then some (row3 (1 + k) (Ind (1 + k) cf e) (Ind (1 + k) (trim c0) e)) else none) :=
    loopC_map _ fun k _ => (it_23 S.cut (cmp_eqi _ _)).trans (by by_cases q : Ind (1 + k) (trim c0) e = Ind (1 + k) cf e <;> simp [q, row3, nD, Int.ofNat_inj])
  have f21 := A.ne (x := zQ) (x' := xB) sQ sB
  rw [L4 hF D e] at f21
  have c21 : loopC (stepC S.cut zE 24 (.cmp .ne (.sub (.var 24) (.int 1)) (.sub (.var 24) (.int 2))) (.tp (.cons (.sub (.var 24) (.int 0)) (.cons (.sub (.var 24) (.int 2)) (.cons (.sub (.var 24) (.int 1)) .nil))))) ((List.range (max cf.length (moreN F P e + 1))).map fun k => row3 (1 + k) (Ind (1 + k) (trim c0) e) (Ind (1 + k) cf (moreN F P e))) =
      some ((List.range (max cf.length (moreN F P e + 1))).filterMap fun k => if Ind (1 + k) (trim c0) e ≠ Ind (1 + k) cf (moreN F P e) then some (row3 (1 + k) (Ind (1 + k) cf (moreN F P e)) (Ind (1 + k) (trim c0) e)) else none) :=
    loopC_map _ fun k _ => (it_24 S.cut (cmp_ne _ _)).trans (by by_cases q : Ind (1 + k) (trim c0) e = Ind (1 + k) cf (moreN F P e) <;> simp [q, row3, nD])
  have f22 := A.ls (x := xE) (x' := xB) sE sB
  rw [L5 hF D e] at f22
  have c22 : loopC (stepC S.cut zE 25 (.cmp .eq (.sub (.var 25) (.int 1)) (.sub (.var 25) (.int 2))) (.var 25)) ((List.range (max cf.length (e + 1))).map fun k => row3 (1 + k) (Ind (1 + k) (trim c0) e) (Ind (1 + k) cf e)) =
      some ((List.range (max cf.length (e + 1))).filterMap fun k => if Ind (1 + k) (trim c0) e = Ind (1 + k) cf e then some (row3 (1 + k) (Ind (1 + k) (trim c0) e) (Ind (1 + k) cf e)) else none) :=
    loopC_map _ fun k _ => (it_25 S.cut (cmp_eqi _ _)).trans (by by_cases q : Ind (1 + k) (trim c0) e = Ind (1 + k) cf e <;> simp [q, row3, nD, Int.ofNat_inj])
  have c23 : loopC (stepC S.cut zE 26 (.cmp .ge (.sub (.var 26) (.int 1)) (.sub (.var 26) (.int 2))) (.var 26)) ((List.range (max cf.length (moreN F P e + 1))).map fun k => row3 (1 + k) (Ind (1 + k) (trim c0) e) (Ind (1 + k) cf (moreN F P e))) =
      some ((List.range (max cf.length (moreN F P e + 1))).filterMap fun k => if Ind (1 + k) cf (moreN F P e) ≤ Ind (1 + k) (trim c0) e then some (row3 (1 + k) (Ind (1 + k) (trim c0) e) (Ind (1 + k) cf (moreN F P e))) else none) :=
    loopC_map _ fun k _ => (it_26 S.cut (cmp_ge _ _)).trans (by by_cases q : Ind (1 + k) cf (moreN F P e) ≤ Ind (1 + k) (trim c0) e <;> simp [q, row3, nD])
  have f24 := A.nl (x := xB) (x' := zQ) sB sQ
  rw [L6 hF D e] at f24
  have g24 := A.ls (x := xB) (x' := zQ) sB sQ
  rw [L7 hF D e] at g24
  obtain ⟨xt, yt, zt, t1, t2, t3, t4⟩ := A.tb (s := c0.sum) (e := e) (by lia) (by lia)
  have f25 := A.ls (x := zt) (x' := xB) sT sB
  rw [L8 hF D e] at f25
  obtain ⟨p1, p2, q, k1, k2, k3, k4⟩ := T.tl F w hF hw hw'
  obtain ⟨o1, o2, o3, o4, o5, o6⟩ := coef_ok hF
  have r3m := fun (f g h : Nat → Nat) n => ne_self (r3_map f g h n)
  apply Exists.intro
  show evBl S lwR_12 (mE sc bs sm K F e w (.list (nI c0)) (wsC xB (trim c0) e) (wsC xE cf e) (.list (nI P)) (some (.d (.list [.list (nI g), .list []]))) y14 none none none none none none none none none none) [] = _
  unfold lwR_12; rw [bl_next (lw_12ok S f12)]
  unfold lwR_13; rw [bl_next (lw_13ok S (add_nat1 e) s1 (len_list P (Nat.le_trans hpl (by decide))) m1 f13)]
  unfold lwR_14; rw [bl_next (lw_14ok S q1 q4)]
  unfold lwR_15; rw [bl_next (lw_15ok S (len_tup cf (Nat.le_trans hlf (by decide))) (add_nat1 _) (max_nat _ _) f15)]
  unfold lwR_16; rw [bl_next (lw_16ok S (len_tup cf (Nat.le_trans hlf (by decide))) (add_nat1 _) (max_nat _ _) f16)]
  unfold lwR_17; rw [bl_next (lw_17ok S (itm _ hlenN) hlenN f17)]
  unfold lwR_18; rw [bl_next (lw_18ok S (wsC_3 _ _ _) (wsC_3 _ _ _) (n1 _) (n1 _) f18)]
  unfold lwR_19; rw [bl_next (lw_19ok S f19 (r3m _ _ _ _) g19 (itm _ hlenn) hlenn c19 (ne_self (r3_fm (fun k x h => ite_r3 x h) _)))]
  unfold lwR_20; rw [bl_next (lw_20ok S f20 (itm _ hlenn) hlenn c20 (ne_self (r3_fm (fun k x h => ite_r3 x h) _)))]
  unfold lwR_21; rw [bl_next (lw_21ok S f21 (itm _ hlenF) hlenF c21 (ne_self (r3_fm (fun k x h => ite_r3 x h) _)))]
  unfold lwR_22; rw [bl_next (lw_22ok S f22 (itm _ hlenn) hlenn c22 (eq_nil (r3_fm (fun k x h => ite_r3 x h) _)))]
  unfold lwR_23; rw [bl_next (lw_23ok S (itm _ hlenF) hlenF c23)]
  unfold lwR_24; rw [bl_next (lw_24ok S f24 (ne_self (r3_fm (fun k x h => ite_r3 x h) _)) g24 (eq_nil (r3_fm (fun k x h => ite_r3 x h) _)))]
  unfold lwR_25; rw [bl_next (lw_25ok S (sum_nI c0) t1 t2 t3 t4 f25 (add_nat1 e) (T.pl e he))]
  unfold lwR_26; rw [bl_next (lw_26ok S k1 k2 k3)]
  unfold lwR_27; rw [bl_next (lw_27ok S k4)]
  exact lw_28ok S (by rfl) o1 (T.ws F hF) o2 o3 o4 o5 o6 ((cmp_eqi _ _).trans (by rw [decide_eq_true rfl]))
end
end Mine
end
section
open PySem PySem.W PyProof.Rows PySem.Calls
namespace Mine
theorem rng4 : (rangeI 0 4).map PyData.int = (List.range' 0 4).map nD := by kernel_rfl
section
variable (S : Sem) {sc bs sm dr pr : PyData} {K F e wd : Int} {fB fE : List PyData} {en' : En}
theorem lw_11ok (L : loopF (stepF S 12 fbR_1) ((List.range' 0 4).map nD) (lE sc bs sm K F e wd dr fB fE pr none none none) [] = some (.next, en', [])) :
    evS S lw_11 (lE sc bs sm K F e wd dr fB fE pr none none none) [] = some (.next, en', []) := by
  have g1 : (4 : Int) < 100000 := by decide
  have g2 : -(2 ^ 62) < (4 : Int) := by decide
  have e0 : evI S (lE sc bs sm K F e wd dr fB fE pr none none none) (.rng1 (.int 4)) [] = some ((List.range' 0 4).map nD, []) := by
    simp only [Za,ZH,YD,YH,if_true,g1, g2, and_self, rng4]
  have e1 : eput (lE sc bs sm K F e wd dr fB fE pr none none none) 12 none = lE sc bs sm K F e wd dr fB fE pr none none none := rfl
  unfold lw_11
  rw [evS_for, e0]
  show loopF _ _ (eput _ 12 none) [] = _
  rw [e1, L]
end
theorem mod_ok (a : Int) (m : Int) (h : 0 < m) : bopD .mod (.int a) (.int m) = some (.int (a % m)) := by
  simp only [Jd]; rw [if_pos h]
theorem law_ok {S : Sem} (A : LawS S) (T : TailS S) {xs : List Int} (hx : xs.length ≤ 63) : runF S ir_law [.d (.list (xs.map .int))] = some (.d (.bool true)) := by
  obtain ⟨a0, a1, a2, a3, a4, a5, a6, h2⟩ := sums_ok S.cut (xs := xs) (Nat.le_trans hx (by decide))
  obtain ⟨k, hk, ek⟩ := nat_of_mod a0 6 (by decide)
  obtain ⟨e, he, ee⟩ := nat_of_mod a5 6 (by decide)
  obtain ⟨w', hw, ew⟩ := nat_of_mod a6 57 (by decide)
  obtain ⟨F, sg, n0, n1, Q, hFK⟩ := kind_ok k hk
  obtain ⟨a, b, c, d, ha, hb, hc, hd, h7⟩ := drawn_ok A Q.f a0 a1 a2 a3 a4 a5 a6
  obtain ⟨g, cf, P, u, D⟩ := deals Q.f ha hb hc hd
  have hl := drawnL_len F a b c d
  have hs : (drawnL F a b c d).sum ≤ 16 := by rw [drawnL_sum]; lia
  generalize drawnL F a b c d = c0 at *
  obtain ⟨z, x, q1, q2, q3, _⟩ := A.ld (c := c0) (e := e) (f := 1) (g := 0) (by lia) (by lia) (by lia) rfl
  have i1 : ((1 : Nat) : Int) = 1 := rfl
  rw [i1] at q1
  have s0 : subD (.list [.int a0, .int a1, .int a2, .int a3, .int a4, .int a5, .int a6]) (.int 0) = some (.int a0) := sub_l0 _ _
  have s5 : subD (.list [.int a0, .int a1, .int a2, .int a3, .int a4, .int a5, .int a6]) (.int 5) = some (.int a5) := by simp [Ju]
  have s6 : subD (.list [.int a0, .int a1, .int a2, .int a3, .int a4, .int a5, .int a6]) (.int 6) = some (.int a6) := by simp [Ju]
  have m0 : bopD .mod (.int a0) (.int 6) = some (.int (k : Int)) := by rw [mod_ok a0 6 (by decide)]; exact congrArg (fun i => some (PyData.int i)) ek
  have m5 : bopD .mod (.int a5) (.int 6) = some (.int (e : Int)) := by rw [mod_ok a5 6 (by decide)]; exact congrArg (fun i => some (PyData.int i)) ee
  have m6 : bopD .mod (.int a6) (.int 57) = some (.int (w' : Int)) := by rw [mod_ok a6 57 (by decide)]; exact congrArg (fun i => some (PyData.int i)) ew
  have p6 : bopD .add (.int 8) (.int (w' : Int)) = some (.int ((8 + w' : Nat) : Int)) := add_nat 8 w'
  obtain ⟨x', y14, L⟩ := turns A Q (e := e) (by lia) (sc := .list (xs.map .int)) (bs := .list baseL) (sm := .list [.int a0, .int a1, .int a2, .int a3, .int a4, .int a5, .int a6]) (dr := .list (nI c0)) (wd := ((8 + w' : Nat) : Int)) (fB := wsC x (trim c0) e) 4 0 (trim c0) [] g cf P x none none D.rd
  rw [show nI [] = [] from rfl] at L
  obtain ⟨en, R⟩ := law_tail A T Q.f D hl hs (e := e) (w := 8 + w') (by lia) (by lia) (by lia) (sc := .list (xs.map .int)) (bs := .list baseL) (sm := .list [.int a0, .int a1, .int a2, .int a3, .int a4, .int a5, .int a6]) (K := k) (xB := x) (xE := x') (y14 := y14)
  have E : evBl S lwR_1 (hE (.list (xs.map .int)) none none none none none none none none none) [] = some (.ret (.d (.bool true)), en, []) := by
    unfold lwR_1; rw [bl_next (lw_1ok S)]
    unfold lwR_2; rw [bl_next (lw_2ok S h2)]
    unfold lwR_3; rw [bl_next (lw_3ok S s0 m0)]
    unfold lwR_4; rw [bl_next (lw_4ok S (cmp_eqi _ _) hFK)]
    unfold lwR_5; rw [bl_next (lw_5ok S s5 m5)]
    unfold lwR_6; rw [bl_next (lw_6ok S s6 m6 p6)]
    unfold lwR_7; rw [bl_next (lw_7ok S h7)]
    unfold lwR_8; rw [bl_next (lw_8ok S q1 q2 q3)]
    unfold lwR_9; rw [bl_next (lw_9ok S)]
    unfold lwR_10; rw [bl_next (lw_10ok S)]
    unfold lwR_11; rw [bl_next (lw_11ok S L)]
    exact R
  have e0 : pad ir_law.names.length ([V.d (.list (xs.map PyData.int))].map some) = hE (.list (xs.map .int)) none none none none none none none none none := rfl
  unfold runF
  rw [if_pos (show ([V.d (.list (xs.map PyData.int))] : List V).length = ir_law.np from rfl), e0, lw_body, E]
  rfl
end Mine
end
section
open PySem PySem.W PyProof.Rows PySem.Calls
namespace Mine
noncomputable def S18 : Sem := semL 400 18
noncomputable def S19 : Sem := semL 400 19
theorem ints_of : ∀ {l : List PyData} {c : List Int}, intsOf l = some c → l = c.map .int := by
  intro l
  induction l with
  | nil => intro c h; cases h; rfl
  | cons x r ih =>
    intro c h
    cases x with
    | int i =>
      obtain ⟨q, e, rfl⟩ := Option.map_eq_some_iff.mp h
      rw [ih e]; rfl
    | _ => cases h
noncomputable def dBo (x : PyData) : Option Bool := by
  cases x with
  | bool b => exact some b
  | _ => exact none
theorem dBo_i {x : PyData} {b : Bool} (h : dBo x = some b) : x = .bool b := by
  cases x <;> first | (cases h; rfl) | cases h
noncomputable def pr2 : List PyData → Option (PyData × PyData) | [a, b] => some (a, b) | _ => none
theorem pr2_i {l : List PyData} {p : PyData × PyData} (h : pr2 l = some p) : l = [p.1, p.2] := by
  cases l with
  | nil => cases h
  | cons a l => cases l with
    | nil => cases h
    | cons b l => cases l with
      | nil => cases h; rfl
      | cons => cases h
noncomputable def twoI (v : Option V) : Option (Int × Int) := b1 v fun v => b1 (vd v) fun x => b1 (dTup x) fun l => b1 (pr2 l) fun p => b1 (dInt p.1) fun i => b1 (dInt p.2) fun j => some (i, j)
theorem twoI_of {v : Option V} {i : Int × Int} (h : twoI v = some i) : v = some (.d (.tuple [.int i.1, .int i.2])) :=
  b1e h fun v e1 h => b1e h fun x e2 h => b1e h fun l e3 h => b1e h fun p e4 h => b1e h fun a e5 h => b1e h fun b e6 h => by
    cases h
    rw [e1, vd_i e2, dTup_i e3, pr2_i e4, dInt_i e5, dInt_i e6]
noncomputable def isT (v : Option V) : Bool := decide ((b1 v fun v => b1 (vd v) dBo) = some true)
theorem isT_of {v : Option V} (h : isT v = true) : v = some (.d (.bool true)) := b1e (of_decide_eq_true h) fun v e1 h => b1e h fun x e2 h => by rw [e1, vd_i e2, dBo_i h]
noncomputable def isP (v : Option V) (a b : Int) : Bool := decide (twoI v = some (a, b))
theorem isP_of {v : Option V} {a b : Int} (h : isP v a b = true) : v = some (.d (.tuple [.int a, .int b])) := twoI_of (of_decide_eq_true h)
noncomputable def isN (v : Option V) (c : List Nat) : Bool := decide ((b1 v fun v => b1 (vd v) fun x => b1 (dLst x) intsOf) = some (c.map Int.ofNat))
theorem isN_of {v : Option V} {c : List Nat} (h : isN v c = true) : v = some (.d (.list (nI c))) := b1e (of_decide_eq_true h) fun v e1 h => b1e h fun x e2 h => b1e h fun l e3 h => by
  rw [e1, vd_i e2, dLst_i e3, ints_of h, List.map_map]; rfl
theorem pl_all : ((List.range 6).all fun k => isT (S19.Φ .plain [.d (.int ((k + 1 : Nat) : Int))])) = true := by decide +kernel
theorem ws_2 : isN (S19.Φ .ways [.d (.int 5), .d (.int 2)]) ((coef 2).take 6) = true := by decide +kernel
theorem ws_3 : isN (S19.Φ .ways [.d (.int 5), .d (.int 3)]) ((coef 3).take 6) = true := by decide +kernel
theorem hi_2 : ((List.range 10).all fun k => isP (S18.Φ .idm [.d (.int (k : Int)), .d (.int 2)]) ((k / 2 : Nat) : Int) ((k % 2 : Nat) : Int)) = true := by decide +kernel
theorem hi_3 : ((List.range 10).all fun k => isP (S18.Φ .idm [.d (.int (k : Int)), .d (.int 3)]) ((k / 3 : Nat) : Int) ((k % 3 : Nat) : Int)) = true := by decide +kernel
theorem hi_ok (F : Nat) (hF : F = 2 ∨ F = 3) (k : Nat) (hk : k ≤ 9) : (semL 400 18).Φ .idm [.d (.int (k : Int)), .d (.int (F : Int))] = some (.d (.tuple [.int ((k / F : Nat) : Int), .int ((k % F : Nat) : Int)])) := by
  rcases hF with rfl | rfl
  · exact isP_of (List.all_eq_true.mp hi_2 k (List.mem_range.mpr (Nat.lt_succ_of_le hk)))
  · exact isP_of (List.all_eq_true.mp hi_3 k (List.mem_range.mpr (Nat.lt_succ_of_le hk)))
theorem pl_ok (e : Nat) (he : e ≤ 5) : (semL 400 19).Φ .plain [.d (.int ((e + 1 : Nat) : Int))] = some (.d (.bool true)) :=
  isT_of (List.all_eq_true.mp pl_all e (List.mem_range.mpr (Nat.lt_succ_of_le he)))
theorem ws_ok (F : Nat) (hF : F = 2 ∨ F = 3) : (semL 400 19).Φ .ways [.d (.int 5), .d (.int (F : Int))] = some (.d (.list (nI ((coef F).take 6)))) := by
  rcases hF with rfl | rfl
  · exact isN_of ws_2
  · exact isN_of ws_3
end Mine
end
section
open PySem PySem.W PyProof.Rows PySem.Calls
namespace Mine
noncomputable def pInt (v : Option V) : Option Int := b1 v fun v => b1 (vd v) dInt
theorem pInt_of {v : Option V} {i : Int} (h : pInt v = some i) : v = some (.d (.int i)) := b1e h fun v e1 h => b1e h fun x e2 h => by rw [e1, vd_i e2, dInt_i h]
noncomputable def pTwo (v : Option V) : Option (Int × Int) := twoI v
theorem pTwo_of {v : Option V} {i : Int × Int} (h : pTwo v = some i) : v = some (.d (.tuple [.int i.1, .int i.2])) := twoI_of h
noncomputable def tlG (F w : Nat) : Option (Int × Int) → Bool
  | some q => decide (q.2 = 0) && isN (S19.Φ .i2d [.d (.int q.1), .d (.int (w : Int))]) (coef F)
  | none => false
noncomputable def tlH (F w : Nat) : Option Int → Option Int → Bool
  | some p1, some p2 => tlG F w (pTwo (S19.Φ .idm [.d (.int p1), .d (.int p2)]))
  | _, _ => false
noncomputable def tlB (F w : Nat) : Bool := tlH F w (pInt (S19.Φ .prod [.d (.int (w : Int)), .d (.int (F : Int))])) (pInt (S19.Φ .prod [.d (.int (w : Int)), .d (.int 1)]))
theorem tlB_of {F w : Nat} (h : tlB F w = true) : ∃ p1 p2 q : Int, S19.Φ .prod [.d (.int (w : Int)), .d (.int (F : Int))] = some (.d (.int p1)) ∧ S19.Φ .prod [.d (.int (w : Int)), .d (.int 1)] = some (.d (.int p2)) ∧
    S19.Φ .idm [.d (.int p1), .d (.int p2)] = some (.d (.tuple [.int q, .int 0])) ∧ S19.Φ .i2d [.d (.int q), .d (.int (w : Int))] = some (.d (.list (nI (coef F)))) := by
  unfold tlB at h
  generalize h1 : pInt (S19.Φ .prod [.d (.int (w : Int)), .d (.int (F : Int))]) = o1 at h
  generalize h2 : pInt (S19.Φ .prod [.d (.int (w : Int)), .d (.int 1)]) = o2 at h
  match o1, o2, h with
  | some p1, some p2, h =>
    change tlG F w _ = true at h
    generalize h3 : pTwo (S19.Φ .idm [.d (.int p1), .d (.int p2)]) = o3 at h
    match o3, h with
    | some (q, r), h =>
      have h := Bool.and_eq_true_iff.mp h
      have hr : r = 0 := of_decide_eq_true h.1
      subst hr
      exact ⟨p1, p2, q, pInt_of h1, pInt_of h2, pTwo_of h3, isN_of h.2⟩
theorem tl_2_8 : ((List.range 8).all fun k => tlB 2 (k + 8)) = true := by decide +kernel
theorem tl_2_16 : ((List.range 8).all fun k => tlB 2 (k + 16)) = true := by decide +kernel
theorem tl_2_24 : ((List.range 8).all fun k => tlB 2 (k + 24)) = true := by decide +kernel
theorem tl_2_32 : ((List.range 8).all fun k => tlB 2 (k + 32)) = true := by decide +kernel
theorem tl_2_40 : ((List.range 8).all fun k => tlB 2 (k + 40)) = true := by decide +kernel
theorem tl_2_48 : ((List.range 8).all fun k => tlB 2 (k + 48)) = true := by decide +kernel
theorem tl_2_56 : ((List.range 8).all fun k => tlB 2 (k + 56)) = true := by decide +kernel
theorem tl_2_64 : tlB 2 64 = true := by decide +kernel
theorem tl_3_8 : ((List.range 8).all fun k => tlB 3 (k + 8)) = true := by decide +kernel
theorem tl_3_16 : ((List.range 8).all fun k => tlB 3 (k + 16)) = true := by decide +kernel
theorem tl_3_24 : ((List.range 8).all fun k => tlB 3 (k + 24)) = true := by decide +kernel
theorem tl_3_32 : ((List.range 8).all fun k => tlB 3 (k + 32)) = true := by decide +kernel
theorem tl_3_40 : ((List.range 8).all fun k => tlB 3 (k + 40)) = true := by decide +kernel
theorem tl_3_48 : ((List.range 8).all fun k => tlB 3 (k + 48)) = true := by decide +kernel
theorem tl_3_56 : ((List.range 8).all fun k => tlB 3 (k + 56)) = true := by decide +kernel
theorem tl_3_64 : tlB 3 64 = true := by decide +kernel
theorem tl_at {F a w : Nat} (h : ((List.range 8).all fun k => tlB F (k + a)) = true) (h1 : ¬ w < a) (h2 : w < 8 + a) : tlB F w = true := by
  have e := List.all_eq_true.mp h (w - a) (List.mem_range.mpr (Nat.sub_lt_right_of_lt_add (Nat.le_of_not_lt h1) h2))
  rwa [Nat.sub_add_cancel (Nat.le_of_not_lt h1)] at e
noncomputable def tlA (F a : Nat) : Prop := ((List.range 8).all fun k => tlB F (k + a)) = true
theorem tl_F {F : Nat} (h1 : tlA F 8) (h2 : tlA F 16) (h3 : tlA F 24) (h4 : tlA F 32) (h5 : tlA F 40) (h6 : tlA F 48) (h7 : tlA F 56) (h8 : tlB F 64 = true) (w : Nat) (h : 8 ≤ w) (h' : w ≤ 64) : tlB F w = true :=
  if a : w < 16 then tl_at h1 (Nat.not_lt.mpr h) a else if b : w < 24 then tl_at h2 a b else if c : w < 32 then tl_at h3 b c else if d : w < 40 then tl_at h4 c d else if e : w < 48 then tl_at h5 d e else
    if f : w < 56 then tl_at h6 e f else if g : w < 64 then tl_at h7 f g else Nat.le_antisymm h' (Nat.le_of_not_lt g) ▸ h8
theorem tl_ok (F w : Nat) (hF : F = 2 ∨ F = 3) (h : 8 ≤ w) (h' : w ≤ 64) : tlB F w = true := hF.elim
  (fun e => e ▸ tl_F tl_2_8 tl_2_16 tl_2_24 tl_2_32 tl_2_40 tl_2_48 tl_2_56 tl_2_64 w h h') (fun e => e ▸ tl_F tl_3_8 tl_3_16 tl_3_24 tl_3_32 tl_3_40 tl_3_48 tl_3_56 tl_3_64 w h h')
end Mine
end
section
open PySem PySem.W PyProof.Rows
namespace Mine
theorem tails : TailS (semL 400 19) := ⟨pl_ok, ws_ok, fun F w hF h h' => tlB_of (tl_ok F w hF h h')⟩
theorem law_all (xs : List Int) (hx : xs.length ≤ 63) : (semL 400 20).Φ .law [.d (.list (xs.map .int))] = some (.d (.bool true)) :=
  law_ok (lawS 17 hi_ok) tails hx
end Mine
theorem PySem.Challenge.cw_sc0102_01_holds : PySem.Challenge.rw_sc0102_01.Holds :=
  Mine.foo fun xs hx => ⟨20, by decide, by decide, Mine.law_all xs hx⟩
end
