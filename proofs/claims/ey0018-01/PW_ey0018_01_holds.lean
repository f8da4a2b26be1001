import PyProof.Rows.All
import Wide.All
import OpenK.AllK
import KE.KEqSeq
import KE.KPairTest
import Wide.FinOn
import PySem.Challenge.RW_ey0018_01
set_option Elab.async false

section
open PySem
namespace Mine

/-- values of the small language -/
inductive AV where
  | none
  | bool (b : Bool)
  | int (i : Int)
  | lst (xs : List AV)
  | tup (xs : List AV)
  | edge (xs : List AV)
  | ref (r : Nat)
  | app (r : Nat)

abbrev AH := List (List AV)
abbrev AE := Nat → Option AV

inductive BI where
  | len | sum | max | min | divmod | int | list
  deriving DecidableEq

inductive TG where
  | var (x : Nat)
  | t2 (a b : TG)
  | t3 (a b c : TG)

mutual
inductive EE where
  | none
  | bool (b : Bool)
  | int (i : Int)
  | var (x : Nat)
  | bin (op : Operator) (a b : EE)
  | neg (a : EE)
  | nt (a : EE)
  | cmp (op : CmpOp) (a b : EE)
  | bo (o : Bool) (a b : EE)
  | ife (t a b : EE)
  | call (g : Nat) (as : ES)
  | bi (b : BI) (as : ES)
  | edge (as : ES)
  | attr (k : Nat) (a : EE)
  | meth (a : EE)
  | sub (a i : EE)
  | slice (a : EE) (hi : Option Nat)
  | lst (m : Bool) (as : ES)
  | tup (as : ES)
  | comp (elt : EE) (tg : TG) (it : IT) (ifs : OE) (m : Bool) (cap : List Nat)
  | sumg (ak : Option Nat) (c : Int) (x : Nat) (tg : TG) (it : EE)
inductive ES where
  | nil
  | cons (e : EE) (r : ES)
inductive IT where
  | e (a : EE)
  | range (a : EE)
  | zip (as : ES)
  | ezip (as : ES)
inductive OE where
  | none
  | some (e : EE)
end

mutual
inductive SS where
  | asg (tg : TG) (e : EE)
  | asub (x : Nat) (i e : EE)
  | aug (x : Nat) (op : Operator) (e : EE)
  | appm (x : Nat) (e : EE)
  | app (x : Nat) (e : EE)
  | ite (t : EE) (a b : SL)
  | whl (t : EE) (b : SL)
  | for_ (tg : TG) (it : IT) (b o : SL)
  | brk
  | cont
  | ret (e : EE)
  | asrt (t : EE)
  | doc
inductive SL where
  | nil
  | cons (s : SS) (r : SL)
end

inductive AFl where
  | nx | brk | cn | ret (v : AV)

structure Fn where
  ps : List Nat
  df : List AV
  body : SL

def upd (ρ : AE) (x : Nat) (v : AV) : AE := fun y => if y = x then some v else ρ y

def bindT : TG → AV → AE → Option AE
  | .var x, v, ρ => some (upd ρ x v)
  | .t2 a b, .tup [u, v], ρ => (bindT a u ρ).bind (bindT b v)
  | .t3 a b c, .tup [u, v, w], ρ => ((bindT a u ρ).bind (bindT b v)).bind (bindT c w)
  | _, _, _ => none

def items (ah : AH) : AV → Option (List AV)
  | .lst xs => some xs
  | .ref r => ah[r]?
  | _ => none

def atruth (ah : AH) : AV → Option Bool
  | .none => some false
  | .bool b => some b
  | .int i => some (i != 0)
  | .lst xs => if xs.length < 1000 then some (!xs.isEmpty) else none
  | .ref r => (ah[r]?).bind fun xs => if xs.length < 1000 then some (!xs.isEmpty) else none
  | _ => none

def intsOf : List AV → Option (List Int)
  | [] => some []
  | .int i :: r => (intsOf r).map (i :: ·)
  | _ => none

def isNone : AV → Bool
  | .none => true
  | _ => false

/-- all are None or ints -/
def optInts : List AV → Bool
  | [] => true
  | .int _ :: r => optInts r
  | .none :: r => optInts r
  | _ => false

def small (i : Int) : Bool := decide (-(2 ^ 60) < i) && decide (i < 2 ^ 60)
def small30 (i : Int) : Bool := decide (-(2 ^ 30) < i) && decide (i < 2 ^ 30)

def abin (op : Operator) (ah : AH) (u v : AV) : Option (AV × AH) :=
  match op, u, v with
  | .Add, .int a, .int b => some (.int (a + b), ah)
  | .Sub, .int a, .int b => some (.int (a - b), ah)
  | .Mult, .int a, .int b => if small a then some (.int (a * b), ah) else none
  | .FloorDiv, .int a, .int b => if b ≠ 0 ∧ small30 b = true then some (.int (a.fdiv b), ah) else none
  | .Mod, .int a, .int b => if b ≠ 0 then some (.int (a.fmod b), ah) else none
  | .BitAnd, .int a, .int b => some (.int (Builtin.bitAnd a b), ah)
  | .Mult, .lst xs, .int k => if 0 ≤ k ∧ k < 64 ∧ xs.length = 1 then some (.lst (List.replicate k.toNat xs).flatten, ah) else none
  | .Add, u, v => match items ah u, items ah v with
    | some xs, some ys => if xs.length + ys.length < 1000 then some (.ref ah.length, ah ++ [xs ++ ys]) else none
    | _, _ => none
  | _, _, _ => none

def acmp (op : CmpOp) (ah : AH) (u v : AV) : Option Bool :=
  match op, u, v with
  | .Is, u, .none => some (isNone u)
  | .IsNot, u, .none => some (!isNone u)
  | .In, .none, v => match items ah v with
    | some xs => if optInts xs && decide (xs.length < 1000) then some (xs.any isNone) else none
    | none => none
  | .Lt, .int a, .int b => some (decide (a < b))
  | .LtE, .int a, .int b => some (decide (a ≤ b))
  | .Gt, .int a, .int b => some (decide (a > b))
  | .GtE, .int a, .int b => some (decide (a ≥ b))
  | .Eq, .int a, .int b => some (a == b)
  | .NotEq, .int a, .int b => some (a != b)
  | .Eq, u, v => match items ah u, items ah v with
    | some xs, some ys => match intsOf xs, intsOf ys with
      | some a, some b => some (decide (a = b))
      | _, _ => none
    | _, _ => none
  | .NotEq, u, v => match items ah u, items ah v with
    | some xs, some ys => match intsOf xs, intsOf ys with
      | some a, some b => some (!decide (a = b))
      | _, _ => none
    | _, _ => none
  | _, _, _ => none

def abi (b : BI) (ah : AH) (vs : List AV) : Option AV :=
  match b, vs with
  | .len, [v] => match items ah v with
    | some xs => if xs.length < 1000 then some (.int xs.length) else none
    | none => none
  | .sum, [v] => match items ah v with
    | some xs => match intsOf xs with
      | some a => if a.length < 1000 ∧ a.all (fun i => small30 i) then some (.int a.sum) else none
      | none => none
    | none => none
  | .max, [.int a, .int b] => some (.int (if b > a then b else a))
  | .min, [.int a, .int b] => some (.int (if b < a then b else a))
  | .max, [v] => match items ah v with
    | some [.int a, .int b] => some (.int (if b > a then b else a))
    | _ => none
  | .min, [v] => match items ah v with
    | some [.int a, .int b] => some (.int (if b < a then b else a))
    | _ => none
  | .divmod, [.int a, .int b] => if b ≠ 0 ∧ small30 b = true then some (.tup [.int (a.fdiv b), .int (a.fmod b)]) else none
  | .int, [.int a] => some (.int a)
  | .list, [v] => match items ah v with
    | some xs => if xs.length < 1000 then some (.lst xs) else none
    | none => none
  | _, _ => none

def asub (ah : AH) (u v : AV) : Option AV :=
  match u, v with
  | .tup xs, .int k => if 0 ≤ k ∧ k < 1000 then xs[k.toNat]? else none
  | u, .int k => match items ah u with
    | some xs => if 0 ≤ k ∧ k < 1000 then xs[k.toNat]? else none
    | none => none
  | _, _ => none

/-- what a loop goes over -/
inductive Src where
  | L (v : AV)
  | R (n : Nat)
  | Z2 (u v : AV)
  | Z3 (u v w : AV)
  | EZ (u v : AV)

def srcOk (ah : AH) : Src → Bool
  | .L v => (items ah v).any fun xs => decide (xs.length < 1000)
  | .R n => decide (n < 1000)
  | .Z2 u v => ((items ah u).any fun xs => decide (xs.length < 1000)) && ((items ah v).any fun xs => decide (xs.length < 1000))
  | .Z3 u v w => ((items ah u).any fun xs => decide (xs.length < 1000)) && ((items ah v).any fun xs => decide (xs.length < 1000)) && ((items ah w).any fun xs => decide (xs.length < 1000))
  | .EZ u v => ((items ah u).any fun xs => decide (xs.length < 1000)) && ((items ah v).any fun xs => decide (xs.length < 1000))

def lsAt (ah : AH) (v : AV) (k : Nat) : Option AV := (items ah v).bind (·[k]?)

def srcGet (ah : AH) (k : Nat) : Src → Option AV
  | .L v => lsAt ah v k
  | .R n => if k < n then some (.int k) else none
  | .Z2 u v => match lsAt ah u k, lsAt ah v k with
    | some a, some b => some (.tup [a, b])
    | _, _ => none
  | .Z3 u v w => match lsAt ah u k, lsAt ah v k, lsAt ah w k with
    | some a, some b, some c => some (.tup [a, b, c])
    | _, _, _ => none
  | .EZ u v => match lsAt ah u k, lsAt ah v k with
    | some a, some b => some (.tup [.int k, .tup [a, b]])
    | _, _ => none

def takeO {α : Type} (hi : Option Nat) (xs : List α) : List α := match hi with
  | some k => xs.take k
  | none => xs

def capt (ρ : AE) (cap : List Nat) : AE := fun y => if cap.contains y then ρ y else none

def pick3 (xs : List AV) (k : Nat) : Option AV := if xs.length = 3 ∧ k < 3 then xs[k]? else none

/-- one turn of a generator expression `x or c`, `x.field or c` that is handed to sum -/
def asum1 (ak : Option Nat) (c : Int) (x : Nat) (tg : TG) (v : AV) : Option Int :=
  (bindT tg v fun _ => none).bind fun ρ => (ρ x).bind fun u => (match ak, u with
    | none, u => some u
    | some k, .edge xs => pick3 xs k
    | _, _ => none).bind fun w => match w with
      | .none => some c
      | .int i => some (if i = 0 then c else i)
      | _ => none
def asum (ak : Option Nat) (c : Int) (x : Nat) (tg : TG) : List AV → Option (List Int)
  | [] => some []
  | v :: r => (asum1 ak c x tg v).bind fun i => (asum ak c x tg r).map (i :: ·)

section
variable (fns : Nat → Option Fn)
mutual
def ae : Nat → EE → AE → AH → Option (AV × AH)
  | 0, _, _, _ => none
  | n + 1, e, ρ, ah => match e with
    | .none => some (.none, ah)
    | .bool b => some (.bool b, ah)
    | .int i => some (.int i, ah)
    | .var x => (ρ x).map fun v => (v, ah)
    | .bin op a b => (ae n a ρ ah).bind fun p => (ae n b ρ p.2).bind fun q => abin op q.2 p.1 q.1
    | .neg a => (ae n a ρ ah).bind fun p => match p.1 with
      | .int i => some (.int (-i), p.2)
      | _ => none
    | .nt _ => none
    | .cmp op a b => (ae n a ρ ah).bind fun p => (ae n b ρ p.2).bind fun q => (acmp op q.2 p.1 q.1).map fun t => (.bool t, q.2)
    | .bo o a b => (ae n a ρ ah).bind fun p => (atruth p.2 p.1).bind fun t => if t = o then some p else ae n b ρ p.2
    | .ife t a b => (att n t ρ ah).bind fun p => if p.1 then ae n a ρ p.2 else ae n b ρ p.2
    | .call g as => (aes n as ρ ah).bind fun p => acall n g p.1 p.2
    | .bi b as => (aes n as ρ ah).bind fun p => (abi b p.2 p.1).map fun v => (v, p.2)
    | .edge as => (aes n as ρ ah).bind fun p => if p.1.length = 3 then some (.edge p.1, p.2) else none
    | .attr k a => (ae n a ρ ah).bind fun p => match p.1 with
      | .edge xs => (pick3 xs k).map fun v => (v, p.2)
      | _ => none
    | .meth a => (ae n a ρ ah).bind fun p => match p.1 with
      | .ref r => some (.app r, p.2)
      | _ => none
    | .sub a i => (ae n a ρ ah).bind fun p => (ae n i ρ p.2).bind fun q => (asub q.2 p.1 q.1).map fun v => (v, q.2)
    | .slice a hi => (ae n a ρ ah).bind fun p => (items p.2 p.1).bind fun xs => if xs.length < 1000 then some (.lst (takeO hi xs), p.2) else none
    | .lst m as => (aes n as ρ ah).bind fun p => if p.1.length < 1000 then (if m then some (.ref p.2.length, p.2 ++ [p.1]) else some (.lst p.1, p.2)) else none
    | .tup as => (aes n as ρ ah).bind fun p => if p.1.length < 1000 then some (.tup p.1, p.2) else none
    | .comp elt tg it ifs m cap => (ait n it ρ ah).bind fun p => (acomp n elt tg ifs (capt ρ cap) p.1 0 [] p.2).bind fun q =>
        if m then some (.ref q.2.length, q.2 ++ [q.1]) else some (.lst q.1, q.2)
    | .sumg ak c x tg it => (ae n it ρ ah).bind fun p => (items p.2 p.1).bind fun xs => (asum ak c x tg xs).bind fun ns =>
        if ns.length < 1000 ∧ ns.all (fun i => small30 i) then some (.int ns.sum, p.2) else none
def aes : Nat → ES → AE → AH → Option (List AV × AH)
  | 0, _, _, _ => none
  | n + 1, es, ρ, ah => match es with
    | .nil => some ([], ah)
    | .cons e r => (ae n e ρ ah).bind fun p => (aes n r ρ p.2).bind fun q => some (p.1 :: q.1, q.2)
def ait : Nat → IT → AE → AH → Option (Src × AH)
  | 0, _, _, _ => none
  | n + 1, it, ρ, ah => match it with
    | .e a => (ae n a ρ ah).bind fun p => if srcOk p.2 (.L p.1) then some (.L p.1, p.2) else none
    | .range a => (ae n a ρ ah).bind fun p => match p.1 with
      | .int i => if 0 ≤ i ∧ i < 1000 then some (.R i.toNat, p.2) else none
      | _ => none
    | .zip as => (aes n as ρ ah).bind fun p => match p.1 with
      | [u, v] => if srcOk p.2 (.Z2 u v) then some (.Z2 u v, p.2) else none
      | [u, v, w] => if srcOk p.2 (.Z3 u v w) then some (.Z3 u v w, p.2) else none
      | _ => none
    | .ezip as => (aes n as ρ ah).bind fun p => match p.1 with
      | [u, v] => if srcOk p.2 (.EZ u v) then some (.EZ u v, p.2) else none
      | _ => none
/-- a comprehension's turns: what is made so far stands last -/
def acomp : Nat → EE → TG → OE → AE → Src → Nat → List AV → AH → Option (List AV × AH)
  | 0, _, _, _, _, _, _, _, _ => none
  | n + 1, elt, tg, ifs, ρ, src, k, acc, ah => match srcGet ah k src with
    | none => some (acc, ah)
    | some v => (bindT tg v ρ).bind fun ρ' => (match ifs with | .none => some (true, ah) | .some c => att n c ρ' ah).bind fun t =>
        if acc.length < 1000 then
          (if t.1 then (ae n elt ρ' t.2).bind fun p => acomp n elt tg ifs ρ src (k + 1) (acc ++ [p.1]) p.2
          else acomp n elt tg ifs ρ src (k + 1) acc t.2)
        else none
def att : Nat → EE → AE → AH → Option (Bool × AH)
  | 0, _, _, _ => none
  | n + 1, e, ρ, ah => match e with
    | .nt a => (att n a ρ ah).map fun p => (!p.1, p.2)
    | .bo o a b => (att n a ρ ah).bind fun p => if p.1 = o then some p else att n b ρ p.2
    | .ife _ _ _ => none
    | e => (ae n e ρ ah).bind fun p => (atruth p.2 p.1).map fun t => (t, p.2)
def acall : Nat → Nat → List AV → AH → Option (AV × AH)
  | 0, _, _, _ => none
  | n + 1, g, vs, ah => (fns g).bind fun f =>
    let full := vs ++ f.df.drop (f.df.length - (f.ps.length - vs.length))
    if full.length = f.ps.length then
      (axs n f.body ((f.ps.zip full).foldl (fun ρ p => upd ρ p.1 p.2) fun _ => none) ah).bind fun q => match q.1 with
        | .ret v => some (v, q.2.2)
        | _ => none
    else none
def ax : Nat → SS → AE → AH → Option (AFl × AE × AH)
  | 0, _, _, _ => none
  | n + 1, st, ρ, ah => match st with
    | .asg tg e => (ae n e ρ ah).bind fun p => (bindT tg p.1 ρ).map fun ρ' => (.nx, ρ', p.2)
    | .asub x i e => (ae n e ρ ah).bind fun p => (ρ x).bind fun o => (ae n i ρ p.2).bind fun q => match o, q.1 with
      | .ref r, .int k => (q.2[r]?).bind fun xs => if 0 ≤ k ∧ k < xs.length ∧ xs.length < 1000 then some (.nx, ρ, q.2.set r (xs.set k.toNat p.1)) else none
      | _, _ => none
    | .aug x op e => (ρ x).bind fun o => (ae n e ρ ah).bind fun p => match op, o, p.1 with
      | .Add, .int a, .int b => some (.nx, upd ρ x (.int (a + b)), p.2)
      | .Sub, .int a, .int b => some (.nx, upd ρ x (.int (a - b)), p.2)
      | _, _, _ => none
    | .appm x e => (ρ x).bind fun o => (ae n e ρ ah).bind fun p => match o with
      | .ref r => (p.2[r]?).bind fun xs => if xs.length < 1000 then some (.nx, ρ, p.2.set r (xs ++ [p.1])) else none
      | _ => none
    | .app x e => (ρ x).bind fun o => (ae n e ρ ah).bind fun p => match o with
      | .app r => (p.2[r]?).bind fun xs => if xs.length < 1000 then some (.nx, ρ, p.2.set r (xs ++ [p.1])) else none
      | _ => none
    | .ite t a b => (att n t ρ ah).bind fun p => if p.1 then axs n a ρ p.2 else axs n b ρ p.2
    | .whl t b => awh n t b ρ ah
    | .for_ tg it b o => (ait n it ρ ah).bind fun p => afor n tg p.1 0 b o ρ p.2
    | .brk => some (.brk, ρ, ah)
    | .cont => some (.cn, ρ, ah)
    | .ret e => (ae n e ρ ah).map fun p => (.ret p.1, ρ, p.2)
    | .asrt t => (att n t ρ ah).bind fun p => if p.1 then some (.nx, ρ, p.2) else none
    | .doc => some (.nx, ρ, ah)
def axs : Nat → SL → AE → AH → Option (AFl × AE × AH)
  | 0, _, _, _ => none
  | n + 1, ss, ρ, ah => match ss with
    | .nil => some (.nx, ρ, ah)
    | .cons s r => (ax n s ρ ah).bind fun p => match p.1 with
      | .nx => axs n r p.2.1 p.2.2
      | _ => some p
def awh : Nat → EE → SL → AE → AH → Option (AFl × AE × AH)
  | 0, _, _, _, _ => none
  | n + 1, t, b, ρ, ah => (att n t ρ ah).bind fun p => if p.1 then
      (axs n b ρ p.2).bind fun q => match q.1 with
        | .nx => awh n t b q.2.1 q.2.2
        | .cn => awh n t b q.2.1 q.2.2
        | .brk => some (.nx, q.2.1, q.2.2)
        | .ret v => some (.ret v, q.2.1, q.2.2)
    else some (.nx, ρ, p.2)
def afor : Nat → TG → Src → Nat → SL → SL → AE → AH → Option (AFl × AE × AH)
  | 0, _, _, _, _, _, _, _ => none
  | n + 1, tg, src, k, b, o, ρ, ah => match srcGet ah k src with
    | none => axs n o ρ ah
    | some v => (bindT tg v ρ).bind fun ρ' => (axs n b ρ' ah).bind fun q => match q.1 with
        | .nx => afor n tg src (k + 1) b o q.2.1 q.2.2
        | .cn => afor n tg src (k + 1) b o q.2.1 q.2.2
        | .brk => some (.nx, q.2.1, q.2.2)
        | .ret v => some (.ret v, q.2.1, q.2.2)
end
end
end Mine

end

section
open PySem
namespace Mine
def names : List Str := [("state" : Str), ("many" : Str), ("value" : Str), ("script" : Str), ("cell" : Str), ("total" : Str), ("edges" : Str), ("sizes" : Str), ("size" : Str), ("ratio" : Str), ("least" : Str), ("k" : Str), ("loose" : Str), ("seen" : Str), ("room" : Str), ("parts" : Str), ("short" : Str), ("up" : Str), ("down" : Str), ("whole" : Str), ("rest" : Str), ("ratios" : Str), ("most" : Str), ("values" : Str), ("left" : Str), ("found" : Str), ("own" : Str), ("edge" : Str), ("index" : Str), ("flexible_edges" : Str), ("remaining" : Str), ("remainder" : Str), ("_" : Str), ("maximums" : Str), ("_max" : Str), ("total_ratio" : Str), ("total_remaining" : Str), ("result" : Str), ("append" : Str), ("maximum" : Str), ("distributed" : Str), ("minimums" : Str), ("_min" : Str), ("distributed_total" : Str), ("_minimums" : Str), ("minimum" : Str), ("shared" : Str), ("weights" : Str), ("taken" : Str)]
def st_law_draw_0 : SS := (.ite (.cmp .GtE (.sub (.var 0) (.int 1)) (.bi .len (.cons (.sub (.var 0) (.int 0)) .nil))) (.cons (.ret (.int 0)) .nil) .nil)
def st_law_draw_1 : SS := (.asg (.var 2) (.bin .Mod (.sub (.sub (.var 0) (.int 0)) (.sub (.var 0) (.int 1))) (.var 1)))
def st_law_draw_2 : SS := (.asub 0 (.int 1) (.bin .Add (.sub (.var 0) (.int 1)) (.int 1)))
def st_law_draw_3 : SS := (.ret (.var 2))
def bd_law_draw : SL := (.cons st_law_draw_0 (.cons st_law_draw_1 (.cons st_law_draw_2 (.cons st_law_draw_3 .nil))))
def st_law_state_0 : SS := (.ret (.lst true (.cons (.comp (.bin .Mod (.bi .int (.cons (.var 4) .nil)) (.int 1000003)) (.var 4) (.e (.slice (.var 3) (some 40))) .none false []) (.cons (.int 0) .nil))))
def bd_law_state : SL := (.cons st_law_state_0 .nil)
def st_law_sizes_0 : SS := .doc
def st_law_sizes_1 : SS := (.asg (.var 7) (.comp (.var 8) (.t3 (.var 8) (.var 9) (.var 10)) (.e (.var 6)) .none true []))
def st_law_sizes_2 : SS := (.whl (.cmp .In .none (.var 7)) (.cons (.asg (.var 12) (.comp (.var 11) (.var 11) (.range (.bi .len (.cons (.var 6) .nil))) (.some (.cmp .Is (.sub (.var 7) (.var 11)) .none)) false [7])) (.cons (.asg (.t2 (.var 14) (.var 15)) (.tup (.cons (.bin .Sub (.var 5) (.bi .sum (.cons (.comp (.var 8) (.var 8) (.e (.var 7)) (.some (.cmp .IsNot (.var 8) .none)) false []) .nil))) (.cons (.bi .sum (.cons (.comp (.sub (.sub (.var 6) (.var 11)) (.int 1)) (.var 11) (.e (.var 12)) .none false [6]) .nil)) .nil)))) (.cons (.ite (.cmp .LtE (.var 14) (.int 0)) (.cons (.ret (.comp (.ife (.cmp .Is (.sub (.var 7) (.var 11)) .none) (.sub (.sub (.var 6) (.var 11)) (.int 2)) (.sub (.var 7) (.var 11))) (.var 11) (.range (.bi .len (.cons (.var 6) .nil))) .none false [7, 6])) .nil) .nil) (.cons (.asg (.var 16) (.comp (.var 11) (.var 11) (.e (.var 12)) (.some (.cmp .LtE (.bin .Mult (.var 14) (.sub (.sub (.var 6) (.var 11)) (.int 1))) (.bin .Mult (.sub (.sub (.var 6) (.var 11)) (.int 2)) (.var 15)))) false [14, 15, 6])) (.cons (.ite (.var 16) (.cons (.asub 7 (.sub (.var 16) (.int 0)) (.sub (.sub (.var 6) (.sub (.var 16) (.int 0))) (.int 2))) (.cons .cont .nil)) .nil) (.cons (.asg (.var 13) (.int 0)) (.cons (.for_ (.var 11) (.e (.var 12)) (.cons (.asub 7 (.var 11) (.bin .Sub (.bin .FloorDiv (.bin .Mult (.var 14) (.bin .Add (.var 13) (.sub (.sub (.var 6) (.var 11)) (.int 1)))) (.var 15)) (.bin .FloorDiv (.bin .Mult (.var 14) (.var 13)) (.var 15)))) (.cons (.asg (.var 13) (.bin .Add (.var 13) (.sub (.sub (.var 6) (.var 11)) (.int 1)))) .nil)) .nil) .nil))))))))
def st_law_sizes_3 : SS := (.ret (.var 7))
def bd_law_sizes : SL := (.cons st_law_sizes_0 (.cons st_law_sizes_1 (.cons st_law_sizes_2 (.cons st_law_sizes_3 .nil))))
def st_law_nearest_0 : SS := (.asg (.t2 (.var 19) (.var 20)) (.tup (.cons (.bin .FloorDiv (.var 17) (.var 18)) (.cons (.bin .Sub (.var 17) (.bin .Mult (.bin .FloorDiv (.var 17) (.var 18)) (.var 18))) .nil))))
def st_law_nearest_1 : SS := (.ret (.ife (.bo true (.cmp .Gt (.bin .Mult (.int 2) (.var 20)) (.var 18)) (.bo false (.cmp .Eq (.bin .Mult (.int 2) (.var 20)) (.var 18)) (.cmp .Eq (.bin .BitAnd (.var 19) (.int 1)) (.int 1)))) (.bin .Add (.var 19) (.int 1)) (.var 19)))
def bd_law_nearest : SL := (.cons st_law_nearest_0 (.cons st_law_nearest_1 .nil))
def st_law_taken_0 : SS := (.asg (.t3 (.var 24) (.var 15) (.var 25)) (.tup (.cons (.var 5) (.cons (.bi .sum (.cons (.comp (.ife (.sub (.var 22) (.var 11)) (.sub (.var 21) (.var 11)) (.int 0)) (.var 11) (.range (.bi .len (.cons (.var 21) .nil))) .none false [22, 21]) .nil)) (.cons (.lst true .nil) .nil)))))
def st_law_taken_1 : SS := (.ite (.cmp .Eq (.var 15) (.int 0)) (.cons (.ret (.bi .list (.cons (.var 23) .nil))) .nil) .nil)
def st_law_taken_2 : SS := (.for_ (.var 11) (.range (.bi .len (.cons (.var 21) .nil))) (.cons (.asg (.var 26) (.ife (.sub (.var 22) (.var 11)) (.sub (.var 21) (.var 11)) (.int 0))) (.cons (.ite (.bo false (.var 26) (.cmp .Gt (.var 15) (.int 0))) (.cons (.asg (.var 1) (.bi .min (.cons (.lst false (.cons (.sub (.var 22) (.var 11)) (.cons (.call 3 (.cons (.bin .Mult (.var 26) (.var 24)) (.cons (.var 15) .nil))) .nil))) .nil))) (.cons (.asg (.t3 (.var 25) (.var 24) (.var 15)) (.tup (.cons (.bin .Add (.var 25) (.lst false (.cons (.bin .Sub (.sub (.var 23) (.var 11)) (.var 1)) .nil))) (.cons (.bin .Sub (.var 24) (.var 1)) (.cons (.bin .Sub (.var 15) (.var 26)) .nil))))) .nil)) (.cons (.appm 25 (.sub (.var 23) (.var 11))) .nil)) .nil)) .nil)
def st_law_taken_3 : SS := (.ret (.var 25))
def bd_law_taken : SL := (.cons st_law_taken_0 (.cons st_law_taken_1 (.cons st_law_taken_2 (.cons st_law_taken_3 .nil))))
def st_ratio_resolve_0 : SS := .doc
def st_ratio_resolve_1 : SS := (.asg (.var 7) (.comp (.bo true (.attr 0 (.var 27)) .none) (.var 27) (.e (.var 6)) .none true []))
def st_ratio_resolve_2 : SS := (.whl (.cmp .In .none (.var 7)) (.cons (.asg (.var 29) (.comp (.tup (.cons (.var 28) (.cons (.var 27) .nil))) (.t2 (.var 28) (.t2 (.var 8) (.var 27))) (.ezip (.cons (.var 7) (.cons (.var 6) .nil))) (.some (.cmp .Is (.var 8) .none)) false [])) (.cons (.asg (.var 30) (.bin .Sub (.var 5) (.sumg none 0 8 (.var 8) (.var 7)))) (.cons (.ite (.cmp .LtE (.var 30) (.int 0)) (.cons (.ret (.comp (.ife (.cmp .Is (.var 8) .none) (.bo true (.attr 2 (.var 27)) (.int 1)) (.var 8)) (.t2 (.var 8) (.var 27)) (.zip (.cons (.var 7) (.cons (.var 6) .nil))) .none false [])) .nil) .nil) (.cons (.asg (.var 15) (.sumg (some 1) 1 27 (.t2 (.var 32) (.var 27)) (.var 29))) (.cons (.for_ (.t2 (.var 28) (.var 27)) (.e (.var 29)) (.cons (.ite (.cmp .LtE (.bin .Mult (.var 30) (.attr 1 (.var 27))) (.bin .Mult (.attr 2 (.var 27)) (.var 15))) (.cons (.asub 7 (.var 28) (.attr 2 (.var 27))) (.cons .brk .nil)) .nil) .nil) (.cons (.asg (.var 31) (.int 0)) (.cons (.for_ (.t2 (.var 28) (.var 27)) (.e (.var 29)) (.cons (.asg (.t2 (.var 8) (.var 31)) (.bi .divmod (.cons (.bin .Add (.bin .Mult (.var 30) (.attr 1 (.var 27))) (.var 31)) (.cons (.var 15) .nil)))) (.cons (.asub 7 (.var 28) (.var 8)) .nil)) .nil) (.cons .brk .nil)))) .nil))))))
def st_ratio_resolve_3 : SS := (.ret (.var 7))
def bd_ratio_resolve : SL := (.cons st_ratio_resolve_0 (.cons st_ratio_resolve_1 (.cons st_ratio_resolve_2 (.cons st_ratio_resolve_3 .nil))))
def st_ratio_reduce_0 : SS := .doc
def st_ratio_reduce_1 : SS := (.asg (.var 21) (.comp (.ife (.var 34) (.var 9) (.int 0)) (.t2 (.var 9) (.var 34)) (.zip (.cons (.var 21) (.cons (.var 33) .nil))) .none false []))
def st_ratio_reduce_2 : SS := (.asg (.var 35) (.bi .sum (.cons (.var 21) .nil)))
def st_ratio_reduce_3 : SS := (.ite (.nt (.var 35)) (.cons (.ret (.slice (.var 23) none)) .nil) .nil)
def st_ratio_reduce_4 : SS := (.asg (.var 36) (.var 5))
def st_ratio_reduce_5 : SS := (.asg (.var 37) (.lst true .nil))
def st_ratio_reduce_6 : SS := (.asg (.var 38) (.meth (.var 37)))
def st_ratio_reduce_7 : SS := (.for_ (.t3 (.var 9) (.var 39) (.var 2)) (.zip (.cons (.var 21) (.cons (.var 33) (.cons (.var 23) .nil)))) (.cons (.ite (.bo false (.var 9) (.cmp .Gt (.var 35) (.int 0))) (.cons (.asg (.t2 (.var 19) (.var 20)) (.bi .divmod (.cons (.bin .Mult (.var 9) (.var 36)) (.cons (.var 35) .nil)))) (.cons (.ite (.bo true (.cmp .Gt (.bin .Mult (.int 2) (.var 20)) (.var 35)) (.bo false (.cmp .Eq (.bin .Mult (.int 2) (.var 20)) (.var 35)) (.bin .Mod (.var 19) (.int 2)))) (.cons (.aug 19 .Add (.int 1)) .nil) .nil) (.cons (.asg (.var 40) (.bi .min (.cons (.var 39) (.cons (.var 19) .nil)))) (.cons (.app 38 (.bin .Sub (.var 2) (.var 40))) (.cons (.aug 36 .Sub (.var 40)) (.cons (.aug 35 .Sub (.var 9)) .nil)))))) (.cons (.app 38 (.var 2)) .nil)) .nil) .nil)
def st_ratio_reduce_8 : SS := (.ret (.var 37))
def bd_ratio_reduce : SL := (.cons st_ratio_reduce_0 (.cons st_ratio_reduce_1 (.cons st_ratio_reduce_2 (.cons st_ratio_reduce_3 (.cons st_ratio_reduce_4 (.cons st_ratio_reduce_5 (.cons st_ratio_reduce_6 (.cons st_ratio_reduce_7 (.cons st_ratio_reduce_8 .nil)))))))))
def st_ratio_distribute_0 : SS := .doc
def st_ratio_distribute_1 : SS := (.ite (.var 41) (.cons (.asg (.var 21) (.comp (.ife (.var 42) (.var 9) (.int 0)) (.t2 (.var 9) (.var 42)) (.zip (.cons (.var 21) (.cons (.var 41) .nil))) .none false [])) .nil) .nil)
def st_ratio_distribute_2 : SS := (.asg (.var 35) (.bi .sum (.cons (.var 21) .nil)))
def st_ratio_distribute_3 : SS := (.asrt (.cmp .Gt (.var 35) (.int 0)))
def st_ratio_distribute_4 : SS := (.asg (.var 36) (.var 5))
def st_ratio_distribute_5 : SS := (.asg (.var 43) (.lst true .nil))
def st_ratio_distribute_6 : SS := (.asg (.var 38) (.meth (.var 43)))
def st_ratio_distribute_7 : SS := (.ite (.cmp .Is (.var 41) .none) (.cons (.asg (.var 44) (.bin .Mult (.lst false (.cons (.int 0) .nil)) (.bi .len (.cons (.var 21) .nil)))) .nil) (.cons (.asg (.var 44) (.var 41)) .nil))
def st_ratio_distribute_8 : SS := (.for_ (.t2 (.var 9) (.var 45)) (.zip (.cons (.var 21) (.cons (.var 44) .nil))) (.cons (.ite (.cmp .Gt (.var 35) (.int 0)) (.cons (.asg (.var 40) (.bi .max (.cons (.var 45) (.cons (.neg (.bin .FloorDiv (.bin .Mult (.neg (.var 9)) (.var 36)) (.var 35))) .nil)))) .nil) (.cons (.asg (.var 40) (.var 36)) .nil)) (.cons (.app 38 (.var 40)) (.cons (.aug 35 .Sub (.var 9)) (.cons (.aug 36 .Sub (.var 40)) .nil)))) .nil)
def st_ratio_distribute_9 : SS := (.ret (.var 43))
def bd_ratio_distribute : SL := (.cons st_ratio_distribute_0 (.cons st_ratio_distribute_1 (.cons st_ratio_distribute_2 (.cons st_ratio_distribute_3 (.cons st_ratio_distribute_4 (.cons st_ratio_distribute_5 (.cons st_ratio_distribute_6 (.cons st_ratio_distribute_7 (.cons st_ratio_distribute_8 (.cons st_ratio_distribute_9 .nil))))))))))
def st_law_0 : SS := (.asg (.var 0) (.call 1 (.cons (.var 3) .nil)))
def st_law_1 : SS := (.asg (.t2 (.var 5) (.var 1)) (.tup (.cons (.call 0 (.cons (.var 0) (.cons (.int 61) .nil))) (.cons (.bin .Add (.int 1) (.call 0 (.cons (.var 0) (.cons (.int 5) .nil)))) .nil))))
def st_law_2 : SS := (.asg (.var 6) (.comp (.tup (.cons (.sub (.lst false (.cons .none (.cons .none (.cons (.bin .Add (.int 1) (.call 0 (.cons (.var 0) (.cons (.int 20) .nil)))) .nil)))) (.call 0 (.cons (.var 0) (.cons (.int 3) .nil)))) (.cons (.bin .Add (.int 1) (.call 0 (.cons (.var 0) (.cons (.int 4) .nil)))) (.cons (.bin .Add (.int 1) (.call 0 (.cons (.var 0) (.cons (.int 6) .nil)))) .nil)))) (.var 11) (.range (.var 1)) .none false [0]))
def st_law_3 : SS := (.asg (.var 7) (.call 5 (.cons (.var 5) (.cons (.comp (.edge (.cons (.var 8) (.cons (.var 9) (.cons (.var 10) .nil)))) (.t3 (.var 8) (.var 9) (.var 10)) (.e (.var 6)) .none false []) .nil))))
def st_law_4 : SS := (.ite (.cmp .NotEq (.var 7) (.call 2 (.cons (.var 5) (.cons (.var 6) .nil)))) (.cons (.ret (.bool false)) .nil) .nil)
def st_law_5 : SS := (.ite (.comp (.var 11) (.var 11) (.range (.var 1)) (.some (.bo true (.bo false (.cmp .IsNot (.sub (.sub (.var 6) (.var 11)) (.int 0)) .none) (.cmp .NotEq (.sub (.var 7) (.var 11)) (.sub (.sub (.var 6) (.var 11)) (.int 0)))) (.bo false (.cmp .Is (.sub (.sub (.var 6) (.var 11)) (.int 0)) .none) (.cmp .Lt (.sub (.var 7) (.var 11)) (.sub (.sub (.var 6) (.var 11)) (.int 2)))))) false [7, 6]) (.cons (.ret (.bool false)) .nil) .nil)
def st_law_6 : SS := (.asg (.t2 (.var 21) (.var 10)) (.tup (.cons (.comp (.bin .Add (.int 1) (.call 0 (.cons (.var 0) (.cons (.int 4) .nil)))) (.var 11) (.range (.var 1)) .none false [0]) (.cons (.comp (.bin .Add (.int 1) (.call 0 (.cons (.var 0) (.cons (.int 3) .nil)))) (.var 11) (.range (.var 1)) .none false [0]) .nil))))
def st_law_7 : SS := (.asg (.t3 (.var 46) (.var 24) (.var 15)) (.tup (.cons (.call 7 (.cons (.var 5) (.cons (.var 21) (.cons (.var 10) .nil)))) (.cons (.var 5) (.cons (.bi .sum (.cons (.var 21) .nil)) .nil)))))
def st_law_8 : SS := (.for_ (.var 11) (.range (.var 1)) (.cons (.ite (.cmp .NotEq (.sub (.var 46) (.var 11)) (.bi .max (.cons (.lst false (.cons (.sub (.var 10) (.var 11)) (.cons (.bin .Sub (.int 0) (.bin .FloorDiv (.bin .Sub (.int 0) (.bin .Mult (.sub (.var 21) (.var 11)) (.var 24))) (.var 15))) .nil))) .nil))) (.cons (.ret (.bool false)) .nil) .nil) (.cons (.asg (.t2 (.var 24) (.var 15)) (.tup (.cons (.bin .Sub (.var 24) (.sub (.var 46) (.var 11))) (.cons (.bin .Sub (.var 15) (.sub (.var 21) (.var 11))) .nil)))) .nil)) .nil)
def st_law_9 : SS := (.ite (.cmp .NotEq (.bi .sum (.cons (.call 7 (.cons (.var 5) (.cons (.var 21) .nil))) .nil)) (.var 5)) (.cons (.ret (.bool false)) .nil) .nil)
def st_law_10 : SS := (.asg (.t2 (.var 23) (.var 47)) (.tup (.cons (.comp (.bin .Add (.int 10) (.call 0 (.cons (.var 0) (.cons (.int 20) .nil)))) (.var 11) (.range (.var 1)) .none false [0]) (.cons (.comp (.call 0 (.cons (.var 0) (.cons (.int 3) .nil))) (.var 11) (.range (.var 1)) .none false [0]) .nil))))
def st_law_11 : SS := (.asg (.t2 (.var 22) (.var 48)) (.tup (.cons (.comp (.call 0 (.cons (.var 0) (.cons (.int 10) .nil))) (.var 11) (.range (.var 1)) .none false [0]) (.cons (.call 0 (.cons (.var 0) (.cons (.int 20) .nil))) .nil))))
def st_law_12 : SS := (.ite (.cmp .NotEq (.call 6 (.cons (.var 48) (.cons (.var 47) (.cons (.var 22) (.cons (.var 23) .nil))))) (.call 4 (.cons (.var 48) (.cons (.var 47) (.cons (.var 22) (.cons (.var 23) .nil)))))) (.cons (.ret (.bool false)) .nil) .nil)
def st_law_13 : SS := (.ret (.bo false (.cmp .Eq (.call 5 (.cons (.int 10) (.cons (.bin .Mult (.lst false (.cons (.edge (.cons .none (.cons (.int 1) (.cons (.int 1) .nil)))) .nil)) (.int 3)) .nil))) (.lst false (.cons (.int 3) (.cons (.int 3) (.cons (.int 4) .nil))))) (.cmp .Eq (.call 5 (.cons (.int 7) (.cons (.lst false (.cons (.edge (.cons .none (.cons (.int 1) (.cons (.int 3) .nil)))) (.cons (.edge (.cons .none (.cons (.int 1) (.cons (.int 4) .nil)))) (.cons (.edge (.cons .none (.cons (.int 1) (.cons (.int 1) .nil)))) .nil)))) .nil))) (.lst false (.cons (.int 3) (.cons (.int 4) (.cons (.int 1) .nil)))))))
def bd_law : SL := (.cons st_law_0 (.cons st_law_1 (.cons st_law_2 (.cons st_law_3 (.cons st_law_4 (.cons st_law_5 (.cons st_law_6 (.cons st_law_7 (.cons st_law_8 (.cons st_law_9 (.cons st_law_10 (.cons st_law_11 (.cons st_law_12 (.cons st_law_13 .nil))))))))))))))
def fns : Nat → Option Fn
  | 0 => some ⟨[0, 1], [], bd_law_draw⟩
  | 1 => some ⟨[3], [], bd_law_state⟩
  | 2 => some ⟨[5, 6], [], bd_law_sizes⟩
  | 3 => some ⟨[17, 18], [], bd_law_nearest⟩
  | 4 => some ⟨[5, 21, 22, 23], [], bd_law_taken⟩
  | 5 => some ⟨[5, 6], [], bd_ratio_resolve⟩
  | 6 => some ⟨[5, 21, 33, 23], [], bd_ratio_reduce⟩
  | 7 => some ⟨[5, 21, 41], [.none], bd_ratio_distribute⟩
  | 8 => some ⟨[3], [], bd_law⟩
  | _ => none
end Mine

end

section
open PySem
namespace Mine

def K : Nat := 64
def nm (x : Nat) : Str := names.getD x (Str.mk #[0])

abbrev SC := List (Str × NameKind)

def gname : Nat → Str
  | 0 => "_law_draw" | 1 => "_law_state" | 2 => "_law_sizes" | 3 => "_law_nearest" | 4 => "_law_taken"
  | 5 => "ratio_resolve" | 6 => "ratio_reduce" | 7 => "ratio_distribute" | _ => "law"
def bname : BI → Str
  | .len => "len" | .sum => "sum" | .max => "max" | .min => "min" | .divmod => "divmod" | .int => "int" | .list => "list"
def aname : Nat → Str
  | 0 => "size" | 1 => "ratio" | _ => "minimum_size"

def isLoc (sc : SC) (x : Nat) (id : Str) : Bool := id == nm x && decide (x < names.length) && (sc.lookup id == some .local || sc.lookup id == some .cell) && !(id == ("__debug__" : Str))
def isLoc1 (sc : SC) (x : Nat) (id : Str) : Bool := id == nm x && decide (x < names.length) && (sc.lookup id == some .local) && !(id == ("__debug__" : Str))
def isGl (sc : SC) (g : Str) (id : Str) : Bool := id == g && sc.lookup id == some .globalImplicit && !(id == ("__debug__" : Str))

def chkTg (ok : Nat → Str → Bool) : TG → Expr → Bool
  | .var x, e => match e with | .Name id _ => ok x id | _ => false
  | .t2 a b, e => match e with | .Tuple [p, q] _ _ => chkTg ok a p && chkTg ok b q | _ => false
  | .t3 a b c, e => match e with | .Tuple [p, q, r] _ _ => chkTg ok a p && chkTg ok b q && chkTg ok c r | _ => false
def chkT (sc : SC) : TG → Expr → Bool := chkTg (isLoc sc)
/-- a comprehension's target: locals alone -/
def chkT1 (sc : SC) : TG → Expr → Bool := chkTg (isLoc1 sc)

def relN (sc : SC) (names : SC) : SC := names.map fun (n, k) => if (k == .free && sc.lookup n == some .cell) then (n, .cell) else (n, k)

def okComp (sc : SC) (scope : Scope) (cap : List Nat) : Bool :=
  scope.kind == .function && scope.names.all (fun p => p.2 != .cell) &&
  scope.names.all (fun p => p.2 != .local || scope.names.lookup p.1 == some .local) &&
  scope.names.all (fun p => p.2 != .free || sc.lookup p.1 == some .cell) &&
  (scope.names.lookup (nm 29) != some .local) && cap.all (fun x => decide (x < names.length) && scope.names.lookup (nm x) == some .free && sc.lookup (nm x) == some .cell)

def okGen (scope : Scope) : Bool :=
  scope.kind == .function && scope.names.all (fun p => p.2 != .cell) && scope.names.all (fun p => p.2 != .free) && scope.isCoroutine == false && scope.isGenerator == true &&
  scope.names.lookup (".0" : Str) == some .local

def gTg : TG → Bool
  | .var _ => true
  | .t2 (.var a) (.var b) => a != b
  | _ => false

/-- the element of a generator expression that is handed to sum -/
def chkG (sc : SC) (ak : Option Nat) (c : Int) (x : Nat) : Expr → Bool
  | .BoolOp .Or [l, .Constant (.int c') _ _] _ => c == c' && (match ak, l with
    | none, .Name id _ => isLoc1 sc x id
    | some k, .Attribute (.Name id _) at' _ => decide (k < 3) && at' == aname k && isLoc1 sc x id
    | _, _ => false)
  | _ => false

/-- what a loop's target may be -/
def okTgt : IT → TG → Bool
  | .e _, _ => true
  | .range _, .var _ => true
  | .zip _, .t2 _ _ => true
  | .zip _, .t3 _ _ _ => true
  | .ezip _, .t2 _ _ => true
  | _, _ => false

mutual
def chkE (sc : SC) : EE → Expr → Bool
  | .none, e => match e with | .Constant .none _ _ => true | _ => false
  | .bool b, e => match e with | .Constant (.bool b') _ _ => b == b' | _ => false
  | .int i, e => match e with | .Constant (.int i') _ _ => i == i' | _ => false
  | .var x, e => match e with | .Name id _ => isLoc sc x id | _ => false
  | .bin op a b, e => match e with | .BinOp l op' r _ => op == op' && chkE sc a l && chkE sc b r | _ => false
  | .neg a, e => match e with | .UnaryOp .USub x _ => chkE sc a x | _ => false
  | .nt a, e => match e with | .UnaryOp .Not x _ => chkE sc a x | _ => false
  | .cmp op a b, e => match e with | .Compare l [op'] [r] _ => op == op' && !behindInMarks op r && chkE sc a l && chkE sc b r | _ => false
  | .bo o a b, e => match e with | .BoolOp op [l, r] _ => op == (if o then .Or else .And) && chkE sc a l && chkE sc b r | _ => false
  | .ife t a b, e => match e with | .IfExp t' a' b' _ => chkE sc t t' && chkE sc a a' && chkE sc b b' | _ => false
  | .call g as, e => match e with | .Call (.Name id _) args [] _ => isGl sc (gname g) id && !args.isEmpty && decide (args.length < 16) && chkES sc as args | _ => false
  | .bi b as, e => match e with | .Call (.Name id _) args [] _ => isGl sc (bname b) id && !args.isEmpty && chkES sc as args | _ => false
  | .edge as, e => match e with | .Call (.Name id _) args [] _ => isGl sc ("Edge" : Str) id && !args.isEmpty && chkES sc as args | _ => false
  | .attr k a, e => match e with | .Attribute v at' _ => decide (k < 3) && at' == aname k && (match v with | .Name .. => true | _ => false) && chkE sc a v | _ => false
  | .meth a, e => match e with | .Attribute v at' _ => at' == ("append" : Str) && (match v with | .Name .. => true | _ => false) && chkE sc a v | _ => false
  | .sub a i, e => match e with | .Subscript v s _ => chkE sc a v && chkE sc i s | _ => false
  | .slice a hi, e => match e with
    | .Subscript v (.Slice none up none _) _ => chkE sc a v && (match hi, up with
      | none, none => true
      | some k, some (.Constant (.int i) _ _) => i == (k : Int) && decide (k < 1000)
      | _, _ => false)
    | _ => false
  | .lst _ as, e => match e with | .List elts _ => chkES sc as elts | _ => false
  | .tup as, e => match e with | .Tuple elts _ _ => chkES sc as elts | _ => false
  | .comp elt tg it ifs _ cap, e => match e with
    | .ListComp elt' [⟨t', i', fs', 0⟩] scope _ => okTgt it tg && okComp sc scope cap && chkT1 (relN sc scope.names) tg t' && chkIT sc it i' && chkE (relN sc scope.names) elt elt' && chkO (relN sc scope.names) ifs fs'
    | _ => false
  | .sumg ak c x tg it, e => match e with
    | .Call (.Name id _) [.GeneratorExp elt' [⟨t', i', [], 0⟩] scope _] [] _ => isGl sc ("sum" : Str) id && (sc.lookup (nm 29) == some .local) && gTg tg && okGen scope && chkT1 scope.names tg t' && (match i' with | .Name .. => true | _ => false) && chkE sc it i' && chkG scope.names ak c x elt'
    | _ => false
def chkES (sc : SC) : ES → List Expr → Bool
  | .nil, l => match l with | [] => true | _ => false
  | .cons e r, l => match l with | e' :: r' => chkE sc e e' && chkES sc r r' | _ => false
def chkIT (sc : SC) : IT → Expr → Bool
  | .e a, e => chkE sc a e
  | .range a, e => match e with | .Call (.Name id _) [x] [] _ => isGl sc ("range" : Str) id && chkE sc a x | _ => false
  | .zip as, e => match e with | .Call (.Name id _) args [] _ => isGl sc ("zip" : Str) id && !args.isEmpty && chkES sc as args | _ => false
  | .ezip as, e => match e with
    | .Call (.Name id _) [.Call (.Name id2 _) args [] _] [] _ => isGl sc ("enumerate" : Str) id && isGl sc ("zip" : Str) id2 && !args.isEmpty && chkES sc as args
    | _ => false
def chkO (sc : SC) : OE → List Expr → Bool
  | .none, l => match l with | [] => true | _ => false
  | .some c, l => match l with | [c'] => chkE sc c c' | _ => false
end

/-- a target is a name, or two or three of them -/
def flatT : TG → Bool
  | .var _ => true
  | .t2 (.var _) (.var _) => true
  | .t3 (.var _) (.var _) (.var _) => true
  | _ => false

def notSwapConst : List Expr → Expr → Bool
  | [.Tuple _ _ _], .Tuple vs _ _ => !vs.all (constantsAlone 8)
  | [.Name ..], _ => true
  | [.Tuple _ _ _], .Call .. => true
  | _, _ => false

mutual
def chkS (sc : SC) : SS → Stmt → Bool
  | .asg tg e, s => match s with | .Assign [t] v _ => flatT tg && chkT sc tg t && chkE sc e v && notSwapConst [t] v | _ => false
  | .asub x i e, s => match s with | .Assign [.Subscript (.Name id _) i' _] v _ => isLoc sc x id && chkE sc i i' && chkE sc e v | _ => false
  | .aug x op e, s => match s with | .AugAssign (.Name id _) op' v _ => isLoc sc x id && op == op' && chkE sc e v | _ => false
  | .appm x e, s => match s with
    | .Expr (.Call (.Attribute (.Name id _) at' apos) [a] [] cpos) _ => isLoc sc x id && at' == ("append" : Str) && apos.endLine == cpos.line && chkE sc e a
    | _ => false
  | .app x e, s => match s with | .Expr (.Call (.Name id _) [a] [] _) _ => isLoc sc x id && chkE sc e a | _ => false
  | .ite t a b, s => match s with | .If t' a' b' _ => chkE sc t t' && chkSL sc a a' && chkSL sc b b' | _ => false
  | .whl t b, s => match s with | .While t' b' [] _ => chkE sc t t' && chkSL sc b b' | _ => false
  | .for_ tg it b o, s => match s with | .For t' i' b' o' _ => okTgt it tg && chkT sc tg t' && chkIT sc it i' && chkSL sc b b' && chkSL sc o o' | _ => false
  | .brk, s => match s with | .Break _ => true | _ => false
  | .cont, s => match s with | .Continue _ => true | _ => false
  | .ret e, s => match s with | .Return (some e') _ => chkE sc e e' | _ => false
  | .asrt t, s => match s with | .Assert t' _ _ => chkE sc t t' | _ => false
  | .doc, s => match s with | .Expr (.Constant (.str _) _ _) _ => true | _ => false
def chkSL (sc : SC) : SL → List Stmt → Bool
  | .nil, l => match l with | [] => true | _ => false
  | .cons s r, l => match l with | s' :: r' => chkS sc s s' && chkSL sc r r' | _ => false
end
end Mine

end

section
open PySem PySem.Spec PySem.Calls PyProof.Rows
set_option autoImplicit false
namespace Mine

structure Par where
  prog : Program
  w : World
  gv : Nat → Addr
  eC : Addr
  h₀ : Heap
  tb : Addr
  cc : Addr
  ps₀ : Array Value
  mg : Str → Option Value
  mb : Str → Option Value

abbrev lstO (vs : List Value) (n : Nat) : Obj := { cls := .type "list", data := .seq vs.toArray n }
abbrev tupO (vs : List Value) (n : Nat) : Obj := { cls := .type "tuple", data := .seq vs.toArray n }
abbrev edgO (P : Par) (vs : List Value) (n : Nat) (d : Addr) : Obj := { cls := .ref P.eC, dict := some d, data := .seq vs.toArray n }
abbrev dctO : Obj := { cls := .type "dict", data := .dict #[] }
abbrev appO (l : Addr) : Obj := { cls := .type "builtin_function_or_method", data := .fields #[.builtin "list.append", .ref l] }

/-- the table of codes that may grow -/
def TabR (P : Par) (h : Heap) : Prop := ∃ more, h.get? P.tb = some { cls := .none, data := .fields (P.ps₀ ++ more) } ∧ TriplesOk (P.ps₀ ++ more).toList

mutual
inductive VR (P : Par) (α : List Addr) (N : Addr → Prop) (h : Heap) : AV → Value → Prop
  | none : VR P α N h .none .none
  | bool (b : Bool) : VR P α N h (.bool b) (.bool b)
  | int (i : Int) (t : Tok) : VR P α N h (.int i) (.int i t)
  | lst {a : Addr} {vs : List Value} {n : Nat} {xs : List AV} : h.get? a = some (lstO vs n) → a ∉ α → ¬ N a → VRs P α N h xs vs → VR P α N h (.lst xs) (.ref a)
  | tup {a : Addr} {vs : List Value} {n : Nat} {xs : List AV} : h.get? a = some (tupO vs n) → a ∉ α → ¬ N a → VRs P α N h xs vs → VR P α N h (.tup xs) (.ref a)
  | edge {a d : Addr} {vs : List Value} {n : Nat} {xs : List AV} : h.get? a = some (edgO P vs n d) → a ∉ α → ¬ N a → h.get? d = some dctO → d ∉ α → ¬ N d → VRs P α N h xs vs → VR P α N h (.edge xs) (.ref a)
  | ref {a : Addr} {r : Nat} : r ≠ 0 → α[r]? = some a → VR P α N h (.ref r) (.ref a)
  | app {a l : Addr} {r : Nat} : r ≠ 0 → α[r]? = some l → h.get? a = some (appO l) → a ∉ α → ¬ N a → VR P α N h (.app r) (.ref a)
inductive VRs (P : Par) (α : List Addr) (N : Addr → Prop) (h : Heap) : List AV → List Value → Prop
  | nil : VRs P α N h [] []
  | cons {x : AV} {xs : List AV} {v : Value} {vs : List Value} : VR P α N h x v → VRs P α N h xs vs → VRs P α N h (x :: xs) (v :: vs)
end

section
variable {P : Par} {α α' : List Addr} {N N' : Addr → Prop} {h h' : Heap}

theorem VR.plain {x : AV} {v : Value} (r : VR P α N h x v) : ∀ i, v ≠ .builtin i := by cases r <;> intro i e <;> cases e

def Ext (α α' : List Addr) (N : Addr → Prop) (h : Heap) : Prop := ∃ β, α' = α ++ β ∧ ∀ a ∈ β, N a ∨ h.get? a = none
theorem Ext.refl : Ext α α N h := ⟨[], by simp, by simp⟩
theorem Ext.get (x : Ext α α' N h) {r : Nat} {a : Addr} (e : α[r]? = some a) : α'[r]? = some a := by
  obtain ⟨β, rfl, _⟩ := x
  have := (List.getElem?_eq_some_iff.mp e).1
  rw [List.getElem?_append_left this]; exact e
theorem Ext.off (x : Ext α α' N h) {a : Addr} {o : Obj} (e : h.get? a = some o) (ha : a ∉ α) (hn : ¬ N a) : a ∉ α' := by
  obtain ⟨β, rfl, hβ⟩ := x
  intro hm
  rcases List.mem_append.mp hm with hm | hm
  · exact ha hm
  · rcases hβ a hm with q | q
    · exact hn q
    · rw [e] at q; cases q

mutual
theorem VR.map (hα : Ext α α' N h) (hN : ∀ b, N' b → N b ∨ h.get? b = none) (hk : ∀ b o, b ∉ α → ¬ N b → h.get? b = some o → h'.get? b = some o) :
    ∀ {v : AV} {c : Value}, VR P α N h v c → VR P α' N' h' v c
  | _, _, .none => .none
  | _, _, .bool b => .bool b
  | _, _, .int i t => .int i t
  | _, _, .lst e ha hn r => .lst (hk _ _ ha hn e) (hα.off e ha hn) (fun q => (hN _ q).elim hn fun q => by rw [e] at q; cases q) (VRs.map hα hN hk r)
  | _, _, .tup e ha hn r => .tup (hk _ _ ha hn e) (hα.off e ha hn) (fun q => (hN _ q).elim hn fun q => by rw [e] at q; cases q) (VRs.map hα hN hk r)
  | _, _, .edge e ha hn e2 ha2 hn2 r => .edge (hk _ _ ha hn e) (hα.off e ha hn) (fun q => (hN _ q).elim hn fun q => by rw [e] at q; cases q) (hk _ _ ha2 hn2 e2) (hα.off e2 ha2 hn2) (fun q => (hN _ q).elim hn2 fun q => by rw [e2] at q; cases q) (VRs.map hα hN hk r)
  | _, _, .ref h0 e => .ref h0 (hα.get e)
  | _, _, .app h0 e g ha hn => .app h0 (hα.get e) (hk _ _ ha hn g) (hα.off g ha hn) (fun q => (hN _ q).elim hn fun q => by rw [g] at q; cases q)
theorem VRs.map (hα : Ext α α' N h) (hN : ∀ b, N' b → N b ∨ h.get? b = none) (hk : ∀ b o, b ∉ α → ¬ N b → h.get? b = some o → h'.get? b = some o) :
    ∀ {v : List AV} {c : List Value}, VRs P α N h v c → VRs P α' N' h' v c
  | _, _, .nil => .nil
  | _, _, .cons r rs => .cons (VR.map hα hN hk r) (VRs.map hα hN hk rs)
end

theorem VRs.length {xs : List AV} {vs : List Value} (r : VRs P α N h xs vs) : xs.length = vs.length := by
  induction xs generalizing vs with
  | nil => cases r; rfl
  | cons x xs ih => cases r with | cons a b => simp [ih b]
theorem VRs.append {xs ys : List AV} {vs ws : List Value} (r : VRs P α N h xs vs) (q : VRs P α N h ys ws) : VRs P α N h (xs ++ ys) (vs ++ ws) := by
  induction xs generalizing vs with
  | nil => cases r; exact q
  | cons x xs ih => cases r with | cons a b => exact .cons a (ih b)
theorem VRs.get {xs : List AV} {vs : List Value} (r : VRs P α N h xs vs) {k : Nat} {x : AV} (e : xs[k]? = some x) : ∃ v, vs[k]? = some v ∧ VR P α N h x v := by
  induction xs generalizing vs k with
  | nil => simp at e
  | cons y xs ih =>
    cases r with
    | cons a b =>
      cases k with
      | zero => simp at e; subst e; exact ⟨_, rfl, a⟩
      | succ k => simp at e; simpa using ih b e
theorem VRs.getNone {xs : List AV} {vs : List Value} (r : VRs P α N h xs vs) {k : Nat} (e : xs[k]? = none) : vs[k]? = none := by
  rw [List.getElem?_eq_none_iff] at e ⊢; rw [← r.length]; exact e
theorem VRs.take {xs : List AV} {vs : List Value} (r : VRs P α N h xs vs) (k : Nat) : VRs P α N h (xs.take k) (vs.take k) := by
  induction xs generalizing vs k with
  | nil => cases r; simpa using VRs.nil
  | cons y xs ih =>
    cases r with
    | cons a b =>
      cases k with
      | zero => exact .nil
      | succ k => exact .cons a (ih b k)
theorem VRs.set {xs : List AV} {vs : List Value} (r : VRs P α N h xs vs) (k : Nat) {x : AV} {v : Value} (q : VR P α N h x v) : VRs P α N h (xs.set k x) (vs.set k v) := by
  induction xs generalizing vs k with
  | nil => cases r; simpa using VRs.nil
  | cons y xs ih =>
    cases r with
    | cons a b =>
      cases k with
      | zero => exact .cons q b
      | succ k => exact .cons a (ih b k)

structure HR (P : Par) (α : List Addr) (N : Addr → Prop) (ah : AH) (h : Heap) : Prop where
  len : α.length = ah.length
  tab0 : α[0]? = some P.tb
  tab : TabR P h
  obj : ∀ (r : Nat) xs, r ≠ 0 → ah[r]? = some xs → ∃ a vs n, α[r]? = some a ∧ h.get? a = some (lstO vs n) ∧ VRs P α N h xs vs
  nod : α.Nodup
  off : ∀ a ∈ α, ¬ N a

theorem HR.live {ah : AH} (H : HR P α N ah h) {a : Addr} (ha : a ∈ α) : ∃ o, h.get? a = some o := by
  obtain ⟨r, hr, rfl⟩ := List.mem_iff_getElem.mp ha
  have hr' : r < ah.length := H.len ▸ hr
  by_cases h0 : r = 0
  · subst h0
    have := H.tab0
    rw [List.getElem?_eq_getElem hr] at this
    obtain ⟨m, g, _⟩ := H.tab
    rw [Option.some.inj this]
    exact ⟨_, g⟩
  obtain ⟨b, vs, n, e, g, _⟩ := H.obj r _ h0 (List.getElem?_eq_getElem hr')
  rw [List.getElem?_eq_getElem hr] at e; cases e
  exact ⟨_, g⟩
/-- more objects, none turned; more that is apart -/
theorem HR.grow {ah : AH} (H : HR P α N ah h) (hN : ∀ b, N' b → N b ∨ h.get? b = none) (hk : ∀ b o, h.get? b = some o → h'.get? b = some o) : HR P α N' ah h' where
  len := H.len
  tab0 := H.tab0
  tab := let ⟨m, g, t⟩ := H.tab; ⟨m, hk _ _ g, t⟩
  obj := fun r xs h0 e => by
    obtain ⟨a, vs, n, e1, g, v⟩ := H.obj r xs h0 e
    exact ⟨a, vs, n, e1, hk _ _ g, v.map .refl hN fun b o _ _ e => hk b o e⟩
  nod := H.nod
  off := fun a ha q => by
    rcases hN a q with q | q
    · exact H.off a ha q
    · obtain ⟨o, g⟩ := H.live ha; rw [q] at g; cases g
/-- a list is made one that turns -/
theorem HR.thaw {ah : AH} {a : Addr} {vs : List Value} {n : Nat} {xs : List AV} (H : HR P α N ah h) (g : h.get? a = some (lstO vs n)) (hna : N a) (r : VRs P α N h xs vs) (hN : ∀ b, N' b → N b) (hn' : ¬ N' a) :
    HR P (α ++ [a]) N' (ah ++ [xs]) h := by
  have hα : Ext α (α ++ [a]) N h := ⟨[a], rfl, fun b hb => by rw [List.mem_singleton.mp hb]; exact .inl hna⟩
  have haα : a ∉ α := fun q => H.off a q hna
  refine ⟨by simp [H.len], hα.get H.tab0, H.tab, fun q ys h0 e => ?_, ?_, fun b hb q => ?_⟩
  · by_cases hq : q < ah.length
    · rw [List.getElem?_append_left hq] at e
      obtain ⟨b, us, m, e1, e2, e3⟩ := H.obj q ys h0 e
      exact ⟨b, us, m, hα.get e1, e2, e3.map hα (fun b q => .inl (hN b q)) fun _ _ _ _ e => e⟩
    · have : q = ah.length := by
        have := (List.getElem?_eq_some_iff.mp e).1
        rw [List.length_append, List.length_singleton] at this; omega
      subst this
      rw [List.getElem?_append_right (Nat.le_refl _), Nat.sub_self] at e
      cases e
      refine ⟨a, vs, n, ?_, g, r.map hα (fun b q => .inl (hN b q)) fun _ _ _ _ e => e⟩
      rw [← H.len, List.getElem?_append_right (Nat.le_refl _), Nat.sub_self]; rfl
  · rw [List.nodup_append]
    exact ⟨H.nod, by simp, fun x hx y hy => by rw [List.mem_singleton.mp hy]; exact fun e => haα (e ▸ hx)⟩
  · rcases List.mem_append.mp hb with hb | hb
    · exact H.off b hb (hN b q)
    · rw [List.mem_singleton.mp hb] at q; exact hn' q
/-- a list that turns turns -/
theorem HR.set {ah : AH} {r : Nat} {a : Addr} {xs : List AV} {vs : List Value} {n : Nat} (H : HR P α N ah h) (hr0 : r ≠ 0) (hr : α[r]? = some a) (hs : ∀ b o, b ≠ a → h.get? b = some o → h'.get? b = some o) (g : h'.get? a = some (lstO vs n)) (v : VRs P α N h xs vs) :
    HR P α N (ah.set r xs) h' := by
  have ha : a ∈ α := List.mem_of_getElem? hr
  have hk : ∀ b o, b ∉ α → ¬ N b → h.get? b = some o → h'.get? b = some o := fun b o hb _ e => hs b o (fun q => hb (q ▸ ha)) e
  have hta : P.tb ≠ a := fun z => by
    have e0 := H.tab0
    rw [z] at e0
    exact hr0 ((List.getElem?_inj (List.getElem?_eq_some_iff.mp hr).1 H.nod).mp (hr.trans e0.symm))
  refine ⟨by simp [H.len], H.tab0, (let ⟨m, g, t⟩ := H.tab; ⟨m, hs _ _ hta g, t⟩), fun q ys h0 e => ?_, H.nod, H.off⟩
  by_cases hq : r = q
  · subst hq
    have hl : r < ah.length := H.len ▸ (List.getElem?_eq_some_iff.mp hr).1
    rw [List.getElem?_set_self hl] at e
    cases e
    exact ⟨a, vs, n, hr, g, v.map .refl (fun b q => .inl q) hk⟩
  · rw [List.getElem?_set_ne hq] at e
    obtain ⟨b, us, m, e1, e2, e3⟩ := H.obj q ys h0 e
    have hba : b ≠ a := fun z => by
      subst z
      exact hq ((List.getElem?_inj (List.getElem?_eq_some_iff.mp hr).1 H.nod).mp (hr.trans e1.symm))
    exact ⟨b, us, m, e1, hs b _ hba e2, e3.map .refl (fun b q => .inl q) hk⟩
end

structure Grow (α : List Addr) (X : Addr → Prop) (h h' : Heap) : Prop where
  keep : ∀ b o, b ∉ α → ¬ X b → h.get? b = some o → h'.get? b = some o
  live : ∀ b o, h.get? b = some o → ∃ o', h'.get? b = some o'

def NoX : Addr → Prop := fun _ => False

structure Stp (X : Addr → Prop) (α : List Addr) (s : Shared) (α' : List Addr) (s' : Shared) : Prop where
  ext : Ext α α' NoX s.heap
  grow : Grow α X s.heap s'.heap
  os : s'.os = s.os
  gens : AllBare s.gens → AllBare s'.gens

section
variable {P : Par} {α α' α'' : List Addr} {N N' X X' : Addr → Prop} {s s' s'' : Shared}
theorem Stp.refl : Stp X α s α s := ⟨.refl, ⟨fun _ _ _ _ e => e, fun _ o e => ⟨o, e⟩⟩, rfl, id⟩
/-- more objects alone -/
theorem Stp.of_keep {h' : Heap} {tk : Nat} (hk : ∀ b o, s.heap.get? b = some o → h'.get? b = some o) : Stp X α s α { s with heap := h', toks := tk } :=
  ⟨.refl, ⟨fun b o _ _ e => hk b o e, fun b o e => ⟨o, hk b o e⟩⟩, rfl, id⟩
theorem Stp.weaken (hX : ∀ b, X b → X' b) (x : Stp X α s α' s') : Stp X' α s α' s' :=
  ⟨x.ext, ⟨fun b o hb hx e => x.grow.keep b o hb (fun q => hx (hX b q)) e, x.grow.live⟩, x.os, x.gens⟩
theorem Ext.notin {h : Heap} (x : Ext α α' NoX h) {a : Addr} {o : Obj} (e : h.get? a = some o) (ha : a ∉ α) : a ∉ α' := x.off e ha id
theorem Stp.trans (x : Stp X α s α' s') (y : Stp X α' s' α'' s'') : Stp X α s α'' s'' := by
  refine ⟨?_, ⟨fun b o hb hx e => y.grow.keep b o (x.ext.notin e hb) hx (x.grow.keep b o hb hx e), fun b o e => ?_⟩, y.os.trans x.os, fun g => y.gens (x.gens g)⟩
  · obtain ⟨β, e1, h1⟩ := x.ext
    obtain ⟨γ, e2, h2⟩ := y.ext
    refine ⟨β ++ γ, by rw [e2, e1, List.append_assoc], fun a ha => ?_⟩
    rcases List.mem_append.mp ha with ha | ha
    · exact h1 a ha
    · rcases h2 a ha with q | q
      · exact .inl q
      · right
        cases e : s.heap.get? a with
        | none => rfl
        | some o => obtain ⟨o', e'⟩ := x.grow.live a o e; rw [q] at e'; cases e'
  · obtain ⟨o', e'⟩ := x.grow.live b o e
    exact y.grow.live b o' e'
theorem Ext.of_step {h : Heap} (x : Ext α α' NoX h) : Ext α α' N h := by
  obtain ⟨β, e, hb⟩ := x
  exact ⟨β, e, fun a ha => .inr ((hb a ha).elim (fun q => q.elim) id)⟩
theorem VR.step {v : AV} {c : Value} (r : VR P α N s.heap v c) (x : Stp X α s α' s') (hX : ∀ b, X b → N b) : VR P α' N s'.heap v c :=
  r.map x.ext.of_step (fun _ q => .inl q) fun b o hb hn e => x.grow.keep b o hb (fun q => hn (hX b q)) e
theorem VRs.step {v : List AV} {c : List Value} (r : VRs P α N s.heap v c) (x : Stp X α s α' s') (hX : ∀ b, X b → N b) : VRs P α' N s'.heap v c :=
  r.map x.ext.of_step (fun _ q => .inl q) fun b o hb hn e => x.grow.keep b o hb (fun q => hn (hX b q)) e
end

structure FrameOK (P : Par) (N : Addr → Prop) (env : Env) (h : Heap) : Prop where
  kind : env.scope.kind = .function
  glb : env.globals = mainGlobals
  bui : env.builtins = builtinsNs
  code : env.scope.names.lookup (nm 29) = some .local → env.code = .ref P.cc
  ns : ∃ m, h.Ns env.locals m
  nL : N env.locals
  bL : P.h₀.get? env.locals = none
  cells : ∀ x c, env.cells.lookup x = some c → N c ∧ P.h₀.get? c = none ∧ ∃ v, h.IsCell c v
  has : ∀ x, env.kindOf x = some .cell → ∃ c, env.cells.lookup x = some c
  apart : ∀ x y c, env.cells.lookup x = some c → env.cells.lookup y = some c → x = y

def VarR (P : Par) (α : List Addr) (N : Addr → Prop) (env : Env) (h : Heap) (x : Str) (v : AV) : Prop :=
  (env.kindOf x = some .local ∧ ∃ m c, h.Ns env.locals m ∧ m x = some c ∧ VR P α N h v c) ∨
  (env.kindOf x = some .cell ∧ ∃ a c, env.cells.lookup x = some a ∧ h.IsCell a (some c) ∧ VR P α N h v c)

structure ST (P : Par) (α : List Addr) (N : Addr → Prop) (ah : AH) (env : Env) (ρ : AE) (s : Shared) : Prop where
  hr : HR P α N ah s.heap
  ne : ∀ b, N b → ∃ o, s.heap.get? b = some o
  bk : ∀ b o, P.h₀.get? b = some o → s.heap.get? b = some o
  bn : ∀ b o, P.h₀.get? b = some o → N b
  fr : FrameOK P N env s.heap
  vars : ∀ x v, ρ x = some v → x < names.length ∧ VarR P α N env s.heap (nm x) v

section
variable {P : Par} {α α' : List Addr} {N : Addr → Prop} {ah ah' : AH} {env : Env} {ρ : AE} {s s' : Shared}
theorem cellAt {h h' : Heap} {a v} (hn : h.IsCell a v) (e : ∀ o, h.get? a = some o → h'.get? a = some o) : h'.IsCell a v :=
  let ⟨o, x, r⟩ := hn; ⟨o, e _ x, r⟩
theorem ST.keepN (S : ST P α N ah env ρ s) (x : Stp NoX α s α' s') {b : Addr} (hb : N b) {o : Obj} (e : s.heap.get? b = some o) : s'.heap.get? b = some o :=
  x.grow.keep b o (fun q => S.hr.off b q hb) id e
theorem ST.step (S : ST P α N ah env ρ s) (x : Stp NoX α s α' s') (H : HR P α' N ah' s'.heap) : ST P α' N ah' env ρ s' where
  hr := H
  ne := fun b hb => by obtain ⟨o, e⟩ := S.ne b hb; exact x.grow.live b o e
  bk := fun b o e => S.keepN x (S.bn b o e) (S.bk b o e)
  bn := S.bn
  fr := { S.fr with
    ns := by obtain ⟨m, hm⟩ := S.fr.ns; exact ⟨m, hm.at' fun o e => S.keepN x S.fr.nL e⟩
    cells := fun y c e => by
      obtain ⟨h1, h2, v, h3⟩ := S.fr.cells y c e
      exact ⟨h1, h2, v, cellAt h3 fun o e => S.keepN x h1 e⟩ }
  vars := fun y v e => by
    obtain ⟨hy, r⟩ := S.vars y v e
    refine ⟨hy, ?_⟩
    rcases r with ⟨k, m, c, hm, hc, r⟩ | ⟨k, a, c, ha, hc, r⟩
    · exact .inl ⟨k, m, c, hm.at' fun o e => S.keepN x S.fr.nL e, hc, r.step x fun _ q => q.elim⟩
    · exact .inr ⟨k, a, c, ha, cellAt hc fun o e => S.keepN x (S.fr.cells _ _ ha).1 e, r.step x fun _ q => q.elim⟩
end

/-- room for n more calls -/
structure Room (n : Nat) (A : Around) : Prop where
  hh : A.handled = none
  dep : A.depth + n + 20 < 1000
  uni : A.units + 3 * n + 200 < 9900
theorem Room.mono {n m : Nat} {A : Around} (R : Room n A) (h : m ≤ n) : Room m A := ⟨R.hh, by have := R.dep; omega, by have := R.uni; omega⟩

/-- what a walk of an expression hands on -/
def EPost (P : Par) (N : Addr → Prop) (α : List Addr) (s : Shared) (v : AV) (ah' : AH) (Q : Value → Shared → Prop) : Prop :=
  ∀ α' s' c, Stp NoX α s α' s' → HR P α' N ah' s'.heap → VR P α' N s'.heap v c → Q c s'
end Mine

end

section
open PySem PySem.Spec PySem.Calls PyProof.Rows PySem.MeetsSeq
set_option autoImplicit false
namespace Mine
section
variable {P : Par} {α α' : List Addr} {N : Addr → Prop} {ah ah' : AH} {s s' : Shared} {A : Around} {E Q : Value → Shared → Prop} {u v w : AV} {cu cv c : Value}

theorem EPost.after (hq : EPost P N α s v ah' Q) (x : Stp NoX α s α' s') : EPost P N α' s' v ah' Q := fun α₂ s₂ c y H r => hq α₂ s₂ c (x.trans y) H r
theorem EPost.keep (hq : EPost P N α s v ah Q) (H : HR P α N ah s.heap) {h' : Heap} {tk : Nat} (hk : ∀ b o, s.heap.get? b = some o → h'.get? b = some o) (r : VR P α N h' v c) : Q c { s with heap := h', toks := tk } :=
  hq α _ c (.of_keep hk) (H.grow (fun _ q => .inl q) hk) r
theorem EPost.here (hq : EPost P N α s v ah Q) (H : HR P α N ah s.heap) (r : VR P α N s.heap v c) : Q c s := hq α s c .refl H r
theorem EPost.tok (hq : EPost P N α s v ah Q) (H : HR P α N ah s.heap) {tk : Nat} (r : VR P α N s.heap v c) : Q c { s with toks := tk } :=
  hq.keep H (fun _ _ e => e) r
theorem HR.notin (H : HR P α N ah s.heap) {a : Addr} (e : s.heap.get? a = none) : a ∉ α := fun q => by
  obtain ⟨o, g⟩ := H.live q; rw [e] at g; cases g

theorem HR.ne0 {h : Heap} (H : HR P α N ah h) : ah.length ≠ 0 := fun q => by
  have := (List.getElem?_eq_some_iff.mp H.tab0).1
  rw [H.len, q] at this; exact absurd this (Nat.lt_irrefl 0)

theorem itemsR {xs : List AV} (r : VR P α N s.heap v c) (H : HR P α N ah s.heap) (e : items ah v = some xs) : ∃ a vs n, c = .ref a ∧ s.heap.get? a = some (lstO vs n) ∧ VRs P α N s.heap xs vs := by
  cases r with
  | lst g _ _ r => cases e; exact ⟨_, _, _, rfl, g, r⟩
  | ref h0 g =>
    obtain ⟨a, vs, n, e1, e2, e3⟩ := H.obj _ _ h0 e
    rw [g] at e1; cases e1
    exact ⟨_, _, _, rfl, e2, e3⟩
  | _ => cases e

theorem intsR {xs : List AV} {ns : List Int} {vs : List Value} (r : VRs P α N s.heap xs vs) (e : intsOf xs = some ns) : IntsAre vs ns := by
  induction xs generalizing ns vs with
  | nil => cases r; cases e; exact .nil
  | cons x xs ih =>
    cases r with
    | cons a b =>
      cases x with
      | int i =>
        simp only [intsOf, Option.map_eq_some_iff] at e
        obtain ⟨ms, e1, rfl⟩ := e
        cases a
        exact .cons _ _ (ih b e1)
      | _ => simp [intsOf] at e

theorem isList_of {a : Addr} {vs : List Value} {n : Nat} (g : s.heap.get? a = some (lstO vs n)) : s.heap.IsList a vs.toArray := ⟨_, g, rfl, n, rfl⟩

theorem truth_ok {t : Bool} {Q : Bool → Shared → Prop} (r : VR P α N s.heap v c) (H : HR P α N ah s.heap) (e : atruth ah v = some t) (h : ∀ tk, Q t { s with toks := tk }) :
    wpAny (model P.prog P.w) A (truthy c) Q E s := by
  have lists : ∀ (xs : List AV) (a : Addr) (vs : List Value) (n : Nat), s.heap.get? a = some (lstO vs n) → VRs P α N s.heap xs vs → (if xs.length < 1000 then some (!xs.isEmpty) else none) = some t → wpAny (model P.prog P.w) A (truthy (.ref a)) Q E s := by
    intro xs a vs n g rs e
    split at e
    · rename_i hl
      cases e
      have hlen := rs.length
      refine wpAny_truthy_list (isList_of g) (by simp; omega) ?_
      have : (!vs.toArray.isEmpty) = !xs.isEmpty := by
        cases xs <;> cases vs <;> simp_all
      rw [this]; exact h _
    · cases e
  cases r with
  | none => cases e; exact wpAny_pure (h s.toks)
  | bool b => cases e; exact wpAny_truthy_bool (h s.toks)
  | int i t => cases e; exact PySem.P.truthy_int (h s.toks)
  | lst g _ _ r => exact lists _ _ _ _ g r e
  | ref h0 g =>
    simp only [atruth] at e
    obtain ⟨xs, e1, e2⟩ := Option.bind_eq_some_iff.mp e
    obtain ⟨a, vs, n, e3, e4, e5⟩ := H.obj _ _ h0 e1
    rw [g] at e3; cases e3
    exact lists _ _ _ _ e4 e5 e2
  | tup _ _ _ _ => cases e
  | edge _ _ _ _ _ _ _ => cases e
  | app _ _ _ _ _ => cases e

theorem fresh_val {h h' : Heap} {a : Addr} {vs : List Value} {n : Nat} {xs : List AV} (H : HR P α N ah h) (ne : ∀ b, N b → ∃ o, h.get? b = some o) (hf : h.get? a = none) (hk : ∀ b o, h.get? b = some o → h'.get? b = some o)
    (g : h'.get? a = some (lstO vs n)) (r : VRs P α N h xs vs) : VR P α N h' (.lst xs) (.ref a) :=
  .lst g (fun q => by obtain ⟨o, e⟩ := H.live q; rw [hf] at e; cases e) (fun q => by obtain ⟨o, e⟩ := ne a q; rw [hf] at e; cases e) (r.map .refl (fun _ q => .inl q) fun b o _ _ e => hk b o e)
theorem fresh_tup {h h' : Heap} {a : Addr} {vs : List Value} {n : Nat} {xs : List AV} (H : HR P α N ah h) (ne : ∀ b, N b → ∃ o, h.get? b = some o) (hf : h.get? a = none) (hk : ∀ b o, h.get? b = some o → h'.get? b = some o)
    (g : h'.get? a = some (tupO vs n)) (r : VRs P α N h xs vs) : VR P α N h' (.tup xs) (.ref a) :=
  .tup g (fun q => by obtain ⟨o, e⟩ := H.live q; rw [hf] at e; cases e) (fun q => by obtain ⟨o, e⟩ := ne a q; rw [hf] at e; cases e) (r.map .refl (fun _ q => .inl q) fun b o _ _ e => hk b o e)
/-- a fresh list is laid among those that turn -/
theorem fresh_ref {a : Addr} {vs : List Value} {n : Nat} {xs : List AV} {h' : Heap} {tk : Nat} (H : HR P α N ah s.heap) (ne : ∀ b, N b → ∃ o, s.heap.get? b = some o) (hf : s.heap.get? a = none) (hk : ∀ b o, s.heap.get? b = some o → h'.get? b = some o)
    (g : h'.get? a = some (lstO vs n)) (r : VRs P α N s.heap xs vs) (hq : EPost P N α s (.ref ah.length) (ah ++ [xs]) Q) : Q (.ref a) { s with heap := h', toks := tk } := by
  have hN : ∀ b, (N b ∨ b = a) → N b ∨ s.heap.get? b = none := fun b q => q.imp id fun q => by rw [q]; exact hf
  have H1 : HR P α (fun b => N b ∨ b = a) ah h' := H.grow hN hk
  have r1 : VRs P α (fun b => N b ∨ b = a) h' xs vs := r.map .refl hN fun b o _ _ e => hk b o e
  have hna : ¬ N a := fun q => by obtain ⟨o, e⟩ := ne a q; rw [hf] at e; cases e
  refine hq (α ++ [a]) _ _ ⟨⟨[a], rfl, fun b hb => by rw [List.mem_singleton.mp hb]; exact .inr hf⟩, ⟨fun b o _ _ e => hk b o e, fun b o e => ⟨o, hk b o e⟩⟩, rfl, id⟩ (H1.thaw g (.inr rfl) r1 (fun b q => .inl q) hna) (.ref H.ne0 ?_)
  rw [← H.len, List.getElem?_append_right (Nat.le_refl _), Nat.sub_self]; rfl

theorem next_none (s : Shared) : s.heap.get? s.heap.objs.size = none := by
  cases e : s.heap.get? s.heap.objs.size with
  | none => rfl
  | some o => exact absurd (Heap.lt_size e) (Nat.lt_irrefl _)

theorem small_bits {i : Int} (h : small i = true) : Builtin.Int.intBits i ≤ 64 := by
  simp only [small, Bool.and_eq_true, decide_eq_true_eq] at h
  exact intBits_le_64 (by omega) (by omega)
theorem small30_abs {i : Int} (h : small30 i = true) : i.natAbs < 1073741824 := by
  simp only [small30, Bool.and_eq_true, decide_eq_true_eq] at h
  omega

theorem isLen {xs : List AV} {vs : List Value} (r : VRs P α N s.heap xs vs) : vs.toArray.size = xs.length := by simp [r.length]

theorem bin_list {op : Operator} (hop : op = .Add) {xs ys : List AV} (e1 : items ah u = some xs) (e2 : items ah v = some ys) (hl : xs.length + ys.length < 1000)
    (ru : VR P α N s.heap u cu) (rv : VR P α N s.heap v cv) (H : HR P α N ah s.heap) (ne : ∀ b, N b → ∃ o, s.heap.get? b = some o) (hq : EPost P N α s (.ref ah.length) (ah ++ [xs ++ ys]) Q) :
    wpAny (model P.prog P.w) A (binaryOp op cu cv) Q E s := by
  subst hop
  obtain ⟨a, vs, n, rfl, g1, r1⟩ := itemsR ru H e1
  obtain ⟨b, ws, m, rfl, g2, r2⟩ := itemsR rv H e2
  have hsz : vs.length + ws.length ≤ sizeLine := by rw [← r1.length, ← r2.length, sizeLine_eq]; omega
  refine concat_meets ⟨_, g1, rfl⟩ ⟨_, g2, rfl⟩ noFill_list_add seq_list_add PySem.F.slot_list_add PySem.F.entry_list_add (PySem.F.args_list_add_2 _ _) (list_addW a b vs.toArray ws.toArray n m none none #[] #[] (by simpa using hsz)) ⟨g1, g2, ?_⟩
  have ea : vs.toArray ++ ws.toArray = (vs ++ ws).toArray := by simp
  rw [ea]
  exact fresh_ref H ne (next_none s) (fun b o e => Heap.get?_push_of_some _ e) (Heap.get?_push_size _ rfl) (r1.append r2) hq

theorem VRs.rep {xs : List AV} {vs : List Value} (r : VRs P α N s.heap xs vs) : ∀ k : Nat, VRs P α N s.heap (List.replicate k xs).flatten (List.replicate k vs).flatten
  | 0 => by simpa using VRs.nil
  | k + 1 => by simpa [List.replicate_succ] using r.append (VRs.rep r k)

theorem bin_mul_list {xs : List AV} {k : Int} (h0 : 0 ≤ k) (h1 : k < 64) (hl : xs.length = 1) {t : Tok}
    (ru : VR P α N s.heap (.lst xs) cu) (H : HR P α N ah s.heap) (ne : ∀ b, N b → ∃ o, s.heap.get? b = some o) (hq : EPost P N α s (.lst (List.replicate k.toNat xs).flatten) ah Q) :
    wpAny (model P.prog P.w) A (binaryOp .Mult cu (.int k t)) Q E s := by
  obtain ⟨l, vs, n, rfl, g, r⟩ := itemsR ru H rfl
  have hvl : vs.length = 1 := by rw [← r.length, hl]
  have hks : k.toNat < 64 := by omega
  refine wpAny_binaryOp_repeat_ref (T := "list") (U := "int") (by decide) ⟨_, g, rfl⟩ (fun s' => typeIs_int s' k t) noFill_list_mul F.fills_int_mul F.slot_int_rmul repeat_list F.slot_int_index.lookup
    (call_meets F.slot_int_rmul (typeIs_int s k t) F.entry_int_rmul (F.args_int_rmul_2 _ _) (int___rmul___int_list k t l vs.toArray n)
      ⟨g, rfl, ⟨_, g, rfl⟩, call_meets F.slot_list_mul ⟨_, g, rfl⟩ F.entry_list_mul (F.args_list_mul_2 _ _)
        (AutoListH.list___mul___list_int_3 l vs.toArray n k t (by simp [Builtin.List.listFitsIndex]; omega) (by simp [hvl]; omega) (by simp [Builtin.List.listTooLong, sizeLine, hvl]; omega))
        ⟨g, ?_⟩⟩)
  have hne : vs.toArray.isEmpty = false := by
    cases vs with
    | nil => simp at hvl
    | cons _ _ => rfl
  rw [hne]
  simp only [Bool.false_eq_true, if_false, listMul_foldl]
  refine hq.keep H (fun b o e => Heap.get?_push_of_some _ e) (fresh_val (n := 0) (vs := (List.replicate k.toNat vs).flatten) H ne (next_none s) (fun b o e => Heap.get?_push_of_some _ e) ?_ (r.rep k.toNat))
  exact Heap.get?_push_size _ rfl

theorem bin_ok {op : Operator} (e : abin op ah u v = some (w, ah')) (ru : VR P α N s.heap u cu) (rv : VR P α N s.heap v cv) (H : HR P α N ah s.heap) (ne : ∀ b, N b → ∃ o, s.heap.get? b = some o) (hq : EPost P N α s w ah' Q) :
    wpAny (model P.prog P.w) A (binaryOp op cu cv) Q E s := by
  unfold abin at e
  split at e
  · cases ru; cases rv; cases e; exact PySem.P.add_int (hq.tok H (.int _ _))
  · cases ru; cases rv; cases e; exact PySem.P.sub_int (hq.tok H (.int _ _))
  · split at e
    · rename_i hs
      cases ru; cases rv; cases e; exact PySem.P.mul_int (hq.tok H (.int _ _)) (.of_left (small_bits hs))
    · cases e
  · split at e
    · rename_i hs
      cases ru; cases rv; cases e; exact PyProof.Rows.floordiv_int hs.1 (hq.tok H (.int _ _)) (.inl (PyProof.noPylong_small (small30_abs hs.2)))
    · cases e
  · split at e
    · rename_i hs
      cases ru; cases rv; cases e; exact PyProof.Rows.mod_int' hs (hq.tok H (.int _ _))
    · cases e
  · cases ru; cases rv; cases e; exact PyProof.Rows.and_int (hq.tok H (.int _ _))
  · split at e
    · rename_i hs
      cases rv; cases e; exact bin_mul_list hs.1 hs.2.1 hs.2.2 ru H ne hq
    · cases e
  · split at e
    · rename_i xs ys e1 e2
      split at e
      · rename_i hs
        cases e; exact bin_list rfl e1 e2 hs ru rv H ne hq
      · cases e
    · cases e
  · cases e
end
end Mine

end

section
open PySem PySem.Spec PySem.Calls PyProof.Rows PySem.MeetsSeq
set_option autoImplicit false
namespace Mine

def bval : BI → Value
  | .len => .builtin "len" | .sum => .builtin "sum" | .max => .builtin "max" | .min => .builtin "min" | .divmod => .builtin "divmod"
  | .int => .type "int" | .list => .type "list"

section
variable {P : Par} {α α' : List Addr} {N : Addr → Prop} {ah ah' : AH} {s s' : Shared} {A : Around} {E Q : Value → Shared → Prop} {u v w : AV} {cu cv c : Value}

def valNone (v : Value) : Bool := v == .none
theorem optEq {xs : List AV} {vs : List Value} (r : VRs P α N s.heap xs vs) (h : optInts xs = true) : (∀ y ∈ vs, EqGives y .none (valNone y)) ∧ vs.any valNone = xs.any isNone := by
  induction xs generalizing vs with
  | nil => cases r; exact ⟨by simp, rfl⟩
  | cons x xs ih =>
    cases r with
    | cons a b =>
      cases x with
      | none =>
        cases a
        obtain ⟨h1, h2⟩ := ih b h
        refine ⟨fun y hy => ?_, by simp [h2, valNone, isNone]⟩
        rcases List.mem_cons.mp hy with rfl | hy
        · exact fun prog w A E s Q hq => SeqAt.EqAt.same .none prog w E Q hq
        · exact h1 y hy
      | int i =>
        cases a with
        | int _ t =>
          obtain ⟨h1, h2⟩ := ih b h
          refine ⟨fun y hy => ?_, by simp [h2, valNone, isNone]⟩
          rcases List.mem_cons.mp hy with rfl | hy
          · exact fun prog w A E s Q hq => SeqAt.EqAt.int_none i t prog w E Q hq
          · exact h1 y hy
      | _ => cases h

theorem noneR (r : VR P α N s.heap v c) : (c == Value.none) = isNone v := by
  cases r <;> simp [isNone]

theorem cmp_ok {op : CmpOp} {t : Bool} (e : acmp op ah u v = some t) (ru : VR P α N s.heap u cu) (rv : VR P α N s.heap v cv) (H : HR P α N ah s.heap) (hu : A.units + 64 < cLine) (hq : Q (.bool t) s) :
    wpAny (model P.prog P.w) A (compareOp op cu cv) Q E s := by
  have lists : ∀ xs ys a b, items ah u = some xs → items ah v = some ys → intsOf xs = some a → intsOf ys = some b →
      ∃ la lb vs ws, cu = .ref la ∧ cv = .ref lb ∧ s.heap.IsList la vs.toArray ∧ s.heap.IsList lb ws.toArray ∧ IntsAre vs a ∧ IntsAre ws b := by
    intro xs ys a b e1 e2 e3 e4
    obtain ⟨la, vs, n, rfl, g1, r1⟩ := itemsR ru H e1
    obtain ⟨lb, ws, m, rfl, g2, r2⟩ := itemsR rv H e2
    exact ⟨la, lb, vs, ws, rfl, rfl, isList_of g1, isList_of g2, intsR r1 e3, intsR r2 e4⟩
  unfold acmp at e
  split at e
  · cases rv; cases e
    refine is_none ?_
    rw [noneR ru]; exact hq
  · cases rv; cases e
    refine isNot_none ?_
    rw [noneR ru]; exact hq
  · split at e
    · rename_i xs e1
      split at e
      · rename_i hc
        simp only [Bool.and_eq_true, decide_eq_true_eq] at hc
        cases e
        obtain ⟨a, vs, n, rfl, g, r⟩ := itemsR rv H e1
        cases ru
        obtain ⟨h1, h2⟩ := optEq r hc.1
        refine SeqRoads2.in_list valNone (fun y hy => h1 y (by simpa using hy)) g ?_
        have : vs.toArray.any valNone = vs.any valNone := by simp
        rw [this, h2]; exact hq
      · cases e
    · cases e
  · cases ru; cases rv; cases e; exact PySem.P.lt_int hq
  · cases ru; cases rv; cases e; exact PySem.P.le_int hq
  · cases ru; cases rv; cases e; exact PySem.P.gt_int hq
  · cases ru; cases rv; cases e; exact PySem.P.ge_int hq
  · cases ru; cases rv; cases e; exact PySem.P.eq_int hq
  · cases ru; cases rv; cases e; exact PySem.P.ne_int hq
  · split at e
    · rename_i xs ys e1 e2
      split at e
      · rename_i a b e3 e4
        cases e
        obtain ⟨la, lb, vs, ws, rfl, rfl, h1, h2, h3, h4⟩ := lists xs ys a b e1 e2 e3 e4
        exact PySem.W.ke_eq_ints h1 h2 h3 h4 hu hq
      · cases e
    · cases e
  · split at e
    · rename_i xs ys e1 e2
      split at e
      · rename_i a b e3 e4
        cases e
        obtain ⟨la, lb, vs, ws, rfl, rfl, h1, h2, h3, h4⟩ := lists xs ys a b e1 e2 e3 e4
        exact PySem.W.ke_ne_ints h1 h2 h3 h4 hu hq
      · cases e
    · cases e
  · cases e

theorem intItems_of {vs : List Value} {ns : List Int} (h : IntsAre vs ns) : ∃ xs : Array (Int × Tok), intItems xs = vs.toArray ∧ xs.toList.map (·.1) = ns := by
  induction h with
  | nil => exact ⟨#[], by simp [intItems], rfl⟩
  | cons n t _ ih =>
    obtain ⟨xs, h1, h2⟩ := ih
    refine ⟨((n, t) :: xs.toList).toArray, ?_, by simp [h2]⟩
    have h3 := congrArg Array.toList h1
    simp only [intItems, Array.toList_map] at h3
    apply Array.ext'
    simp only [intItems, Array.toList_map, List.map_cons, h3]

theorem preSum_all (xs : Array (Int × Tok)) {ns : List Int} (h : xs.toList.map (·.1) = ns) : preSum (numAt xs) xs.size = ns.sum := by
  rw [preSum_eq, h]
  have : xs.size = ns.length := by rw [← h]; simp
  rw [this, List.take_length]

theorem two_items {vs : List Value} {xs : List AV} {a b : Int} (r : VRs P α N s.heap xs vs) (e : xs = [.int a, .int b]) : ∃ t u, vs.toArray = intItems #[(a, t), (b, u)] := by
  subst e
  cases r with
  | cons x r => cases r with
    | cons y r => cases r; cases x with | int _ t => cases y with | int _ u => exact ⟨t, u, by simp [intItems]⟩

theorem bi_ok {b : BI} {vs : List AV} {cs : List Value} (e : abi b ah vs = some v) (r : VRs P α N s.heap vs cs) (H : HR P α N ah s.heap) (ne : ∀ b, N b → ∃ o, s.heap.get? b = some o) (hh : A.handled = none)
    (hq : EPost P N α s v ah Q) : wpAny (model P.prog P.w) A (call (bval b) cs) Q E s := by
  unfold abi at e
  split at e
  · split at e
    · rename_i xs e1
      split at e
      · rename_i hl
        cases e
        cases r with
        | cons a r =>
          cases r
          obtain ⟨l, vs, n, rfl, g, r⟩ := itemsR a H e1
          refine call_len_list (isList_of g) (by rw [isLen r]; omega) ?_
          rw [isLen r]
          exact hq.tok H (.int _ _)
      · cases e
    · cases e
  · split at e
    · rename_i xs e1
      split at e
      · rename_i ns e2
        split at e
        · cases e
          cases r with
          | cons a r =>
            cases r
            obtain ⟨l, vs, n, rfl, g, r⟩ := itemsR a H e1
            obtain ⟨ys, h1, h2⟩ := intItems_of (intsR r e2)
            refine sum_intListG hh (by rw [h1]; exact isList_of g) fun h' tk t' hk => ?_
            rw [preSum_all ys h2]
            exact hq.keep H hk (.int _ _)
        · cases e
      · cases e
    · cases e
  · cases e
    cases r with
    | cons a r => cases r with
      | cons b r =>
        cases r; cases a; cases b
        refine max_two_ints hh fun h' tk hk => ?_
        split
        · exact hq.keep H hk (by rw [if_pos (by assumption)]; exact .int _ _)
        · exact hq.keep H hk (by rw [if_neg (by assumption)]; exact .int _ _)
  · cases e
    cases r with
    | cons a r => cases r with
      | cons b r =>
        cases r; cases a; cases b
        refine min_two_ints hh fun h' tk hk => ?_
        split
        · exact hq.keep H hk (by rw [if_pos (by assumption)]; exact .int _ _)
        · exact hq.keep H hk (by rw [if_neg (by assumption)]; exact .int _ _)
  · split at e
    · rename_i a b e1
      cases e
      cases r with
      | cons x r =>
        cases r
        obtain ⟨l, vs, n, rfl, g, r⟩ := itemsR x H e1
        obtain ⟨t, u, h1⟩ := two_items r rfl
        refine max_intList hh (xs := #[(a, t), (b, u)]) (by rw [← h1]; exact isList_of g) (by simp) fun w h' tk hw hk => ?_
        have hw' : w = (if b > a then .int b u else .int a t) := by
          simp [argBest.eq_def, numAt, intItems] at hw
          split at hw <;> simp_all <;> (intro hc; exact absurd hc (by omega))
        rw [hw']
        split
        · exact hq.keep H hk (by rw [if_pos (by assumption)]; exact .int _ _)
        · exact hq.keep H hk (by rw [if_neg (by assumption)]; exact .int _ _)
    · cases e
  · split at e
    · rename_i a b e1
      cases e
      cases r with
      | cons x r =>
        cases r
        obtain ⟨l, vs, n, rfl, g, r⟩ := itemsR x H e1
        obtain ⟨t, u, h1⟩ := two_items r rfl
        refine min_intList hh (xs := #[(a, t), (b, u)]) (by rw [← h1]; exact isList_of g) (by simp) fun w h' tk hw hk => ?_
        have hw' : w = (if b < a then .int b u else .int a t) := by
          simp [argBest.eq_def, numAt, intItems] at hw
          split at hw <;> simp_all <;> (intro hc; exact absurd hc (by omega))
        rw [hw']
        split
        · exact hq.keep H hk (by rw [if_pos (by assumption)]; exact .int _ _)
        · exact hq.keep H hk (by rw [if_neg (by assumption)]; exact .int _ _)
    · cases e
  · split at e
    · rename_i a b hs
      cases e
      cases r with
      | cons x r => cases r with
        | cons y r =>
          cases r; cases x; cases y
          refine divmod_int hs.1 ?_ (.inl (PyProof.noPylong_small (small30_abs hs.2)))
          have hk : ∀ c o, s.heap.get? c = some o → (s.heap.push { cls := .type "tuple", data := .seq #[.int (a.fdiv b) s.toks, .int (a.fmod b) (s.toks + 1)] }).get? c = some o := fun b o e => Heap.get?_push_of_some _ e
          exact hq.keep H hk (fresh_tup (n := 0) H ne (next_none s) hk (Heap.get?_push_size _ rfl) (.cons (.int _ _) (.cons (.int _ _) .nil)))
    · cases e
  · cases e
    cases r with
    | cons a r => cases r; cases a; exact call_int_int (hq.tok H (.int _ _))
  · split at e
    · rename_i xs e1
      split at e
      · rename_i hl
        cases e
        cases r with
        | cons a r =>
          cases r
          obtain ⟨l, vs, n, rfl, g, r⟩ := itemsR a H e1
          refine call_list_seq (hsz := by rw [isLen r, sizeLine_eq]; omega) l (.inl rfl) g rfl rfl fun h' c' hk g' => ?_
          exact hq.keep H hk (fresh_val H ne (next_none s) hk g' r)
      · cases e
    · cases e
  · cases e

theorem sub_ok {value slice : Expr} (hs : ∀ o i, subscripted slice false o i = operate [o, i] (getItem o i)) (e : asub ah u v = some w) (ru : VR P α N s.heap u cu) (rv : VR P α N s.heap v cv) (H : HR P α N ah s.heap)
    (hq : EPost P N α s w ah Q) : wpAny (model P.prog P.w) A (subscriptTail value slice cu cv) Q E s := by
  unfold asub at e
  split at e
  · rename_i xs k
    split at e
    · rename_i hk
      cases ru with
      | tup g _ _ r =>
        cases rv with
        | int _ t =>
          rename_i a vs n _ _
          obtain ⟨c, hc, rc⟩ := r.get e
          have hx : (vs.toArray)[k.toNat]? = some c := by simpa using hc
          have hlt : k.toNat < vs.toArray.size := (Array.getElem?_eq_some_iff.mp hx).1
          refine tail_any (T := "tuple") ⟨_, g, rfl⟩ slot_tuple_getitem.lookup (PyProof.Rows.getItem_tuple (items := vs.toArray) (j := k.toNat) ⟨_, g, rfl, n, rfl⟩ (by omega) (by omega) ?_ hx (hq.here H rc)) (hs _ _)
          have h1 : ¬ k < 0 := by omega
          have h2 : k < (vs.toArray.size : Int) := by omega
          simp only [seqIndex?, h1, if_false, hk.1, h2, decide_true, Bool.and_self, if_true]
    · cases e
  · rename_i k _
    split at e
    · rename_i xs e1
      split at e
      · rename_i hk
        cases rv with
        | int _ t =>
          obtain ⟨a, vs, n, rfl, g, r⟩ := itemsR ru H e1
          obtain ⟨c, hc, rc⟩ := r.get e
          exact tail_any (T := "list") ⟨_, g, rfl⟩ slot_list_getitem.lookup (wpAny_getItem_list (isList_of g) hk.1 (by omega) (by simpa using hc) (hq.here H rc)) (hs _ _)
      · cases e
    · cases e
  · cases e

theorem slicePick_up (vs : List Value) (k : Nat) : slicePick vs.toArray none (some (k : Int)) none = (vs.take k).toArray := by
  by_cases h : k ≤ vs.toArray.size
  · rw [slicePick_upto _ _ h]
  · have h' : vs.toArray.size < k := by omega
    have e : sliceBounds none (some (k : Int)) none vs.toArray.size = sliceBounds none none none vs.toArray.size := by
      simp only [sliceBounds, Option.getD_none]
      have h2 : ¬ ((k : Int) < 0) := by omega
      simp only [h2, if_false, show (1 : Int) > 0 by decide, if_true, Prod.mk.injEq, and_true, true_and]
      omega
    have e2 : slicePick vs.toArray none (some (k : Int)) none = slicePick vs.toArray none none none := by
      unfold slicePick; rw [e]
    rw [e2, slicePick_all, List.take_of_length_le (by simp at h'; omega)]

theorem slice_ok {value slice : Expr} {hi : Option Nat} {xs : List AV} {vu : Value} (hvu : IsPart vu (hi.map fun (k : Nat) => (k : Int)))
    (hs : ∀ o i, subscripted slice false o i = operate [i, o] (getItem o i)) (e1 : items ah u = some xs) (hl : xs.length < 1000)
    (ru : VR P α N s.heap u cu) (H : HR P α N ah s.heap) (ne : ∀ b, N b → ∃ o, s.heap.get? b = some o) (hq : EPost P N α s (.lst (takeO hi xs)) ah Q) :
    wpAny (model P.prog P.w) A (subscriptTail value slice cu (.ref s.heap.objs.size)) Q E { s with heap := s.heap.push { cls := .type "slice", data := .fields #[.none, vu, .none] } } := by
  obtain ⟨a, vs, n, rfl, g, r⟩ := itemsR ru H e1
  have hk : ∀ b o, s.heap.get? b = some o → (s.heap.push { cls := .type "slice", data := .fields #[.none, vu, .none] }).get? b = some o := fun b o e => Heap.get?_push_of_some _ e
  have hz : vs.toArray.size ≤ sizeLine := by have := isLen r; rw [sizeLine_eq]; omega
  refine tail_any (T := "list") ⟨_, hk _ _ g, rfl⟩ slot_list_getitem.lookup
    (wpAny_getItem_list_slice (items := vs.toArray) (hsz := hz) (Heap.IsList.push (isList_of g) _) (Heap.IsSliceOf.new ..) .none hvu .none (by simp) ?_) (hs _ _)
  have hk2 : ∀ b o, s.heap.get? b = some o → ((s.heap.push { cls := .type "slice", data := .fields #[.none, vu, .none] }).push { cls := .type "list", data := .seq (slicePick vs.toArray none (hi.map fun (k : Nat) => (k : Int)) none) }).get? b = some o := fun b o e => Heap.get?_push_of_some _ (hk b o e)
  have ep : slicePick vs.toArray none (hi.map fun (k : Nat) => (k : Int)) none = (takeO hi vs).toArray := by
    cases hi with
    | none => exact slicePick_all _
    | some k => exact slicePick_up vs k
  have hf : s.heap.get? (s.heap.push { cls := .type "slice", data := .fields #[.none, vu, .none] }).objs.size = none := by
    cases e : s.heap.get? (s.heap.push { cls := .type "slice", data := .fields #[.none, vu, .none] }).objs.size with
    | none => rfl
    | some o => have := Heap.lt_size e; rw [Heap.size_push] at this; exact absurd (Nat.lt_of_succ_lt this) (Nat.lt_irrefl _)
  refine hq.keep H hk2 (fresh_val (n := 0) (vs := takeO hi vs) H ne hf hk2 ?_ ?_)
  · rw [ep]; exact Heap.get?_push_size _ (by rfl)
  · cases hi with
    | none => exact r
    | some k => exact r.take k
end
end Mine

end

section
open PySem PySem.Spec PySem.Calls PyProof.Rows PySem.MeetsSeq
set_option autoImplicit false
namespace Mine

theorem names_nodup : names.Nodup := by decide +kernel
theorem nm_inj {x y : Nat} (hx : x < names.length) (hy : y < names.length) (e : nm x = nm y) : x = y := by
  have hx' : names[x]? = some (nm x) := by unfold nm; rw [List.getD_eq_getElem?_getD, List.getElem?_eq_getElem hx]; rfl
  have hy' : names[y]? = some (nm y) := by unfold nm; rw [List.getD_eq_getElem?_getD, List.getElem?_eq_getElem hy]; rfl
  exact (List.getElem?_inj hx names_nodup).mp (by rw [hx', hy', e])

theorem isLoc_parts {sc : SC} {x : Nat} {id : Str} (h : isLoc sc x id = true) : id = nm x ∧ x < names.length ∧ (sc.lookup id = some .local ∨ sc.lookup id = some .cell) ∧ (id == ("__debug__" : Str)) = false := by
  simp only [isLoc, Bool.and_eq_true, beq_iff_eq, decide_eq_true_eq, Bool.or_eq_true, Bool.not_eq_true'] at h
  exact ⟨h.1.1.1, h.1.1.2, h.1.2, h.2⟩
theorem isLoc1_parts {sc : SC} {x : Nat} {id : Str} (h : isLoc1 sc x id = true) : id = nm x ∧ x < names.length ∧ sc.lookup id = some .local ∧ (id == ("__debug__" : Str)) = false := by
  simp only [isLoc1, Bool.and_eq_true, beq_iff_eq, decide_eq_true_eq, Bool.not_eq_true'] at h
  exact ⟨h.1.1.1, h.1.1.2, h.1.2, h.2⟩
theorem isGl_parts {sc : SC} {g id : Str} (h : isGl sc g id = true) : id = g ∧ sc.lookup id = some .globalImplicit ∧ (id == ("__debug__" : Str)) = false := by
  simp only [isGl, Bool.and_eq_true, beq_iff_eq, Bool.not_eq_true'] at h
  exact ⟨h.1.1, h.1.2, h.2⟩

theorem ns_fun {h : Heap} {a : Addr} {m m' : Str → Option Value} (x : h.Ns a m) (y : h.Ns a m') : m = m' := by
  obtain ⟨o, es, ep, e1, e2, _, e3⟩ := x
  obtain ⟨o', es', ep', f1, f2, _, f3⟩ := y
  rw [e1] at f1; cases f1
  rw [e2] at f2; cases f2
  funext n; rw [← e3 n, ← f3 n]
theorem ns_cell {h : Heap} {a : Addr} {m : Str → Option Value} {v : Option Value} (x : h.Ns a m) (y : h.IsCell a v) : False := by
  obtain ⟨o, es, ep, e1, e2, _⟩ := x
  obtain ⟨o', f1, f2⟩ := y
  rw [e1] at f1; cases f1
  rw [e2] at f2; cases f2

def OwnL (env : Env) : Addr → Prop := fun b => b = env.locals
def Own (env : Env) : Addr → Prop := fun b => b = env.locals ∨ ∃ n, env.cells.lookup n = some b

section
variable {P : Par} {α α' : List Addr} {N : Addr → Prop} {ah ah' : AH} {env : Env} {ρ ρ' : AE} {s s' : Shared} {A : Around} {E : Value → Shared → Prop} {v : AV} {c : Value}

theorem HR.offN {h h' : Heap} (H : HR P α N ah h) (hk : ∀ b o, ¬ N b → h.get? b = some o → h'.get? b = some o) : HR P α N ah h' where
  len := H.len
  tab0 := H.tab0
  tab := let ⟨m, g, t⟩ := H.tab; ⟨m, hk _ _ (H.off _ (List.mem_of_getElem? H.tab0)) g, t⟩
  obj := fun r xs h0 e => by
    obtain ⟨a, vs, n, e1, g, v⟩ := H.obj r xs h0 e
    exact ⟨a, vs, n, e1, hk _ _ (H.off a (List.mem_of_getElem? e1)) g, v.map .refl (fun _ q => .inl q) fun b o _ hn e => hk b o hn e⟩
  nod := H.nod
  off := H.off

theorem load_ok {x : Nat} {id : Str} {Q : Value → Shared → Prop} (S : ST P α N ah env ρ s) (hl : isLoc env.scope.names x id = true) (e : ρ x = some v) (h : ∀ c, VR P α N s.heap v c → Q c s) :
    wpAny (model P.prog P.w) A (loadName env id) Q E s := by
  obtain ⟨rfl, hx, hk, hd⟩ := isLoc_parts hl
  rcases (S.vars x v e).2 with ⟨k, m, c, hm, hc, r⟩ | ⟨k, a, c, ha, hc, r⟩
  · exact wpAny_loadName_local S.fr.kind k hm hc (h c r)
  · exact wpAny_loadName_cell S.fr.kind k ha hc (h c r)
theorem name_ok {x : Nat} {id : Str} {pos : Pos} {Q : Value → Shared → Prop} (S : ST P α N ah env ρ s) (hl : isLoc env.scope.names x id = true) (e : ρ x = some v) (h : ∀ c, VR P α N s.heap v c → Q c s) :
    wpAny (model P.prog P.w) A (eval (.Name id pos) env) Q E s :=
  wpAny_Name (load_ok S hl e h) (isLoc_parts hl).2.2.2

theorem stp_samebut {a : Addr} {h' : Heap} {tk : Nat} {X : Addr → Prop} (hX : X a) (hs : Heap.SameBut a s.heap h') (ha : ∃ o, h'.get? a = some o) : Stp X α s α { s with heap := h', toks := tk } :=
  ⟨.refl, ⟨fun b o _ hx e => (hs.2 b fun q => hx (q ▸ hX)).trans e, fun b o e => by
    by_cases hb : b = a
    · subst hb; exact ha
    · exact ⟨o, (hs.2 b hb).trans e⟩⟩, rfl, id⟩

/-- a local is stored -/
theorem storeL_ok {x : Nat} {Q : Unit → Shared → Prop} (S : ST P α N ah env ρ s) (hx : x < names.length) (hk : env.kindOf (nm x) = some .local) (r : VR P α N s.heap v c)
    (h : ∀ s', Stp (OwnL env) α s α s' → ST P α N ah env (upd ρ x v) s' → Q () s') : wpAny (model P.prog P.w) A (storeName env (nm x) c) Q E s := by
  obtain ⟨m, hm⟩ := S.fr.ns
  refine wpAny_storeName_local hk hm (fun h' hn hs => ?_) (by rw [S.fr.kind]; rfl)
  have hkN : ∀ b o, ¬ N b → s.heap.get? b = some o → h'.get? b = some o := fun b o hb e => (hs.2 b fun q => hb (q ▸ S.fr.nL)).trans e
  have hex : ∃ o, h'.get? env.locals = some o := by obtain ⟨o, _, _, e, _⟩ := hn; exact ⟨o, e⟩
  have hcell : ∀ y a, env.cells.lookup y = some a → ∀ o, s.heap.get? a = some o → h'.get? a = some o := fun y a ha o e => by
    obtain ⟨_, _, w, hw⟩ := S.fr.cells y a ha
    exact (hs.2 a fun q => ns_cell hm (q ▸ hw)).trans e
  refine h _ (stp_samebut rfl hs hex) ⟨S.hr.offN hkN, fun b hb => ?_, fun b o e => ?_, S.bn, { S.fr with ns := ⟨_, hn⟩, cells := fun y a ha => ?_ }, fun y w e => ?_⟩
  · by_cases q : b = env.locals
    · subst q; exact hex
    · obtain ⟨o, e⟩ := S.ne b hb; exact ⟨o, (hs.2 b q).trans e⟩
  · exact (hs.2 b fun q => by rw [q, S.fr.bL] at e; cases e).trans (S.bk b o e)
  · obtain ⟨h1, h2, w, hw⟩ := S.fr.cells y a ha
    exact ⟨h1, h2, w, cellAt hw (hcell y a ha)⟩
  · unfold upd at e
    split at e
    · rename_i hy; subst hy; cases e
      exact ⟨hx, .inl ⟨hk, _, c, hn, by simp, r.map .refl (fun _ q => .inl q) fun b o _ hb e => hkN b o hb e⟩⟩
    · rename_i hy
      obtain ⟨hyl, q⟩ := S.vars y w e
      refine ⟨hyl, ?_⟩
      rcases q with ⟨k, m', c', hm', hc', r'⟩ | ⟨k, a, c', ha, hc', r'⟩
      · have := ns_fun hm hm'; subst this
        exact .inl ⟨k, _, c', hn, by rw [if_neg fun q => hy (nm_inj hyl hx q)]; exact hc', r'.map .refl (fun _ q => .inl q) fun b o _ hb e => hkN b o hb e⟩
      · exact .inr ⟨k, a, c', ha, cellAt hc' (hcell _ a ha), r'.map .refl (fun _ q => .inl q) fun b o _ hb e => hkN b o hb e⟩

theorem store_ok {x : Nat} {id : Str} {Q : Unit → Shared → Prop} (S : ST P α N ah env ρ s) (hl : isLoc env.scope.names x id = true) (r : VR P α N s.heap v c)
    (h : ∀ s', Stp (Own env) α s α s' → ST P α N ah env (upd ρ x v) s' → Q () s') : wpAny (model P.prog P.w) A (storeName env id c) Q E s := by
  obtain ⟨rfl, hx, hk, hd⟩ := isLoc_parts hl
  rcases hk with hk | hk
  · exact storeL_ok S hx hk r fun s' x S' => h s' (x.weaken fun b q => .inl q) S'
  · obtain ⟨a, ha⟩ := S.fr.has _ hk
    obtain ⟨haN, hab, w0, hw0⟩ := S.fr.cells _ a ha
    refine wpAny_storeName_cell S.fr.kind hk ha hw0 fun h' hc hs => ?_
    obtain ⟨m, hm⟩ := S.fr.ns
    have hne : env.locals ≠ a := fun q => ns_cell hm (q ▸ hw0)
    have hkN : ∀ b o, ¬ N b → s.heap.get? b = some o → h'.get? b = some o := fun b o hb e => (hs.2 b fun q => hb (q ▸ haN)).trans e
    have hex : ∃ o, h'.get? a = some o := by obtain ⟨o, e, _⟩ := hc; exact ⟨o, e⟩
    have hns : ∀ m', s.heap.Ns env.locals m' → h'.Ns env.locals m' := fun m' q => q.sameBut hs hne
    refine h _ (stp_samebut (.inr ⟨_, ha⟩) hs hex) ⟨S.hr.offN hkN, fun b hb => ?_, fun b o e => ?_, S.bn, { S.fr with ns := ⟨m, hns m hm⟩, cells := fun y b hb => ?_ }, fun y w e => ?_⟩
    · by_cases q : b = a
      · subst q; exact hex
      · obtain ⟨o, e⟩ := S.ne b hb; exact ⟨o, (hs.2 b q).trans e⟩
    · exact (hs.2 b fun q => by rw [q, hab] at e; cases e).trans (S.bk b o e)
    · obtain ⟨h1, h2, w, hw⟩ := S.fr.cells y b hb
      by_cases q : b = a
      · subst q; exact ⟨h1, h2, _, hc⟩
      · exact ⟨h1, h2, w, hw.sameBut hs q⟩
    · unfold upd at e
      split at e
      · rename_i hy; subst hy; cases e
        exact ⟨hx, .inr ⟨hk, a, c, ha, hc, r.map .refl (fun _ q => .inl q) fun b o _ hb e => hkN b o hb e⟩⟩
      · rename_i hy
        obtain ⟨hyl, q⟩ := S.vars y w e
        refine ⟨hyl, ?_⟩
        rcases q with ⟨k, m', c', hm', hc', r'⟩ | ⟨k, b, c', hb, hc', r'⟩
        · exact .inl ⟨k, m', c', hns _ hm', hc', r'.map .refl (fun _ q => .inl q) fun b o _ hb e => hkN b o hb e⟩
        · have hba : b ≠ a := fun q => hy (nm_inj hyl hx (S.fr.apart _ _ a (q ▸ hb) ha))
          exact .inr ⟨k, b, c', hb, hc'.sameBut hs hba, r'.map .refl (fun _ q => .inl q) fun b o _ hb e => hkN b o hb e⟩

/-- a state that has more objects is one too -/
theorem ST.more {h' : Heap} {tk : Nat} (S : ST P α N ah env ρ s) (hk : ∀ b o, s.heap.get? b = some o → h'.get? b = some o) : ST P α N ah env ρ { s with heap := h', toks := tk } :=
  S.step (.of_keep hk) (S.hr.grow (fun _ q => .inl q) hk)

theorem ext_keep {h' : Heap} (x : Heap.ExtBut s.heap.objs.size s.heap h') : ∀ b o, s.heap.get? b = some o → h'.get? b = some o := fun b o e => x b o (Nat.ne_of_lt (Heap.lt_size e)) e

theorem each_ok {ok : Nat → Str → Bool} {tg : TG} {e : Expr} (h : chkTg ok tg e = true) (rest : List Expr) : assignEach (e :: rest) env = (false, assign e env) :: assignEach rest env := by
  cases tg <;> cases e <;> simp [chkTg] at h <;> rfl

theorem tupR {xs : List AV} (r : VR P α N s.heap (.tup xs) c) : ∃ a vs n, c = .ref a ∧ s.heap.get? a = some (tupO vs n) ∧ VRs P α N s.heap xs vs := by
  cases r with
  | tup g _ _ r => exact ⟨_, _, _, rfl, g, r⟩

theorem bind2 {a b : TG} (h : bindT (.t2 a b) v ρ = some ρ') : ∃ u w ρ1, v = .tup [u, w] ∧ bindT a u ρ = some ρ1 ∧ bindT b w ρ1 = some ρ' := by
  cases v with
  | tup xs =>
    rcases xs with _ | ⟨u, _ | ⟨w, _ | ⟨y, xs⟩⟩⟩
    · cases h
    · cases h
    · obtain ⟨ρ1, h1, h2⟩ := Option.bind_eq_some_iff.mp (show (bindT a u ρ).bind (bindT b w) = some ρ' from h)
      exact ⟨u, w, ρ1, rfl, h1, h2⟩
    · cases h
  | _ => cases h
theorem bind3 {a b d : TG} (h : bindT (.t3 a b d) v ρ = some ρ') : ∃ u w y ρ1 ρ2, v = .tup [u, w, y] ∧ bindT a u ρ = some ρ1 ∧ bindT b w ρ1 = some ρ2 ∧ bindT d y ρ2 = some ρ' := by
  cases v with
  | tup xs =>
    rcases xs with _ | ⟨u, _ | ⟨w, _ | ⟨y, _ | ⟨z, xs⟩⟩⟩⟩
    · cases h
    · cases h
    · cases h
    · obtain ⟨ρ2, h1, h2⟩ := Option.bind_eq_some_iff.mp (show ((bindT a u ρ).bind (bindT b w)).bind (bindT d y) = some ρ' from h)
      obtain ⟨ρ1, h3, h4⟩ := Option.bind_eq_some_iff.mp h1
      exact ⟨u, w, y, ρ1, ρ2, rfl, h3, h4, h2⟩
    · cases h
  | _ => cases h

abbrev Stores (P : Par) (α : List Addr) (N : Addr → Prop) (ah : AH) (env : Env) (A : Around) (E : Value → Shared → Prop) (X : Addr → Prop) (ok : Nat → Str → Bool) : Prop :=
  ∀ x id v c ρ s (Q : Unit → Shared → Prop), ok x id = true → ST P α N ah env ρ s → VR P α N s.heap v c → (∀ s', Stp X α s α s' → ST P α N ah env (upd ρ x v) s' → Q () s') → wpAny (model P.prog P.w) A (storeName env id c) Q E s

theorem bind_gen (hh : A.handled = none) {X : Addr → Prop} (hX : ∀ b, X b → N b) {ok : Nat → Str → Bool} (hst : Stores P α N ah env A E X ok) :
    ∀ (tg : TG) (e : Expr) (v : AV) (c : Value) (ρ ρ' : AE) (s : Shared) (Q : Unit → Shared → Prop), chkTg ok tg e = true → bindT tg v ρ = some ρ' → ST P α N ah env ρ s → VR P α N s.heap v c →
    (∀ s', Stp X α s α s' → ST P α N ah env ρ' s' → Q () s') → wpAny (model P.prog P.w) A (assign e env c) Q E s := by
  intro tg
  induction tg with
  | var x =>
    intro e v c ρ ρ' s Q hc hb S r h
    cases e <;> simp only [chkTg] at hc <;> try (exact absurd hc (by decide))
    simp only [bindT] at hb; cases hb
    exact wpAny_assign_Name (hst _ _ _ _ _ _ _ hc S r h)
  | t2 a b iha ihb =>
    intro e v c ρ ρ' s Q hc hb S r h
    unfold chkTg at hc
    split at hc
    · simp only [Bool.and_eq_true] at hc
      obtain ⟨u, w, ρ1, rfl, hb1, hb2⟩ := bind2 hb
      obtain ⟨l, vs, n, rfl, g, rs⟩ := tupR r
      cases rs with
      | cons ru rs => cases rs with
        | cons rw rs =>
          cases rs
          rename_i cu cw
          refine wpAny_assign_Tuple hh (items := #[cu, cw]) ⟨_, g, rfl, n, by rfl⟩ ?_ ?_ fun h' hx => ?_
          · rw [each_ok hc.1, each_ok hc.2]; rfl
          · rw [each_ok hc.1, each_ok hc.2]; rfl
          · rw [each_ok hc.1, each_ok hc.2]
            have hk := ext_keep hx
            have S1 : ST P α N ah env ρ { s with heap := h' } := S.more hk
            have x0 : Stp X α s α { s with heap := h' } := .of_keep hk
            refine wpAny_assignInOrder_more (iha _ _ _ _ _ _ _ hc.1 hb1 S1 (ru.step x0 hX) fun s2 x1 S2 => ?_)
            refine wpAny_assignInOrder_more (ihb _ _ _ _ _ _ _ hc.2 hb2 S2 ((rw.step x0 hX).step x1 hX) fun s3 x2 S3 => ?_)
            exact wpAny_assignInOrder_none (h s3 ((x0.trans x1).trans x2) S3)
    · cases hc
  | t3 a b d iha ihb ihd =>
    intro e v c ρ ρ' s Q hc hb S r h
    unfold chkTg at hc
    split at hc
    · simp only [Bool.and_eq_true] at hc
      obtain ⟨u, w, y, ρ1, ρ2, rfl, hb1, hb2, hb3⟩ := bind3 hb
      obtain ⟨l, vs, n, rfl, g, rs⟩ := tupR r
      cases rs with
      | cons ru rs => cases rs with
        | cons rw rs => cases rs with
          | cons ry rs =>
            cases rs
            rename_i cu cw cy
            refine wpAny_assign_Tuple hh (items := #[cu, cw, cy]) ⟨_, g, rfl, n, by rfl⟩ ?_ ?_ fun h' hx => ?_
            · rw [each_ok hc.1.1, each_ok hc.1.2, each_ok hc.2]; rfl
            · rw [each_ok hc.1.1, each_ok hc.1.2, each_ok hc.2]; rfl
            · rw [each_ok hc.1.1, each_ok hc.1.2, each_ok hc.2]
              have hk := ext_keep hx
              have S1 : ST P α N ah env ρ { s with heap := h' } := S.more hk
              have x0 : Stp X α s α { s with heap := h' } := .of_keep hk
              refine wpAny_assignInOrder_more (iha _ _ _ _ _ _ _ hc.1.1 hb1 S1 (ru.step x0 hX) fun s2 x1 S2 => ?_)
              refine wpAny_assignInOrder_more (ihb _ _ _ _ _ _ _ hc.1.2 hb2 S2 ((rw.step x0 hX).step x1 hX) fun s3 x2 S3 => ?_)
              refine wpAny_assignInOrder_more (ihd _ _ _ _ _ _ _ hc.2 hb3 S3 (((ry.step x0 hX).step x1 hX).step x2 hX) fun s4 x3 S4 => ?_)
              exact wpAny_assignInOrder_none (h s4 (((x0.trans x1).trans x2).trans x3) S4)
    · cases hc

theorem stores_own : Stores P α N ah env A E (Own env) (isLoc env.scope.names) := fun _ _ _ _ _ _ _ hl S r h => store_ok S hl r h
theorem stores_loc : Stores P α N ah env A E (OwnL env) (isLoc1 env.scope.names) := fun x id _ _ _ _ _ hl S r h => by
  obtain ⟨rfl, hx, hk, _⟩ := isLoc1_parts hl
  exact storeL_ok S hx hk r h
theorem own_N (S : ST P α N ah env ρ s) : ∀ b, Own env b → N b := fun b q => by
  rcases q with rfl | ⟨n, q⟩
  · exact S.fr.nL
  · exact (S.fr.cells n b q).1
theorem ownL_N (S : ST P α N ah env ρ s) : ∀ b, OwnL env b → N b := fun b q => by rw [show b = env.locals from q]; exact S.fr.nL
end
end Mine

end

section
open PySem PySem.Calls PyProof.Rows
set_option autoImplicit false
set_option maxHeartbeats 4000000
namespace Mine

abbrev zipO (f0 f1 : Value) (TI TO : Nat) : Obj := { cls := .type "zip", dict := none, data := .fields #[f0, f1, .bool false, .ref TI, .ref TO], slots := #[] }
abbrev tupA (vs : Array Value) : Obj := { cls := .type "tuple", data := .seq vs }
theorem ne_ {a b : Nat} (h : a ≠ b) : a ≠ b := h

section
variable {prog : Program} {w : World} {A : Around} {E : Value → Shared → Prop} {s : Shared}

theorem typeCall_zip3 (a b c : Value) : checkTypeCall "zip" ⟨[a, b, c], []⟩ = pure () := by kernel_rfl
theorem newCall_zip3 (a b c : Value) : checkBuiltinCall "zip.__new__" ⟨[.type "zip", a, b, c], []⟩ = pure () := by kernel_rfl
theorem args_init4 (a b c d : Value) : argsOk "object.__init__" ⟨[a, b, c, d], []⟩ := by
  unfold argsOk; rw [signature?_of (id := "object.__init__") (n := ['_', '_', 't', 'i', 'n', 'i', '_', '_']) (o := ['t', 'c', 'e', 'j', 'b', 'o']) (by kernel_rfl) F.owner_object]; kernel_rfl

abbrev itO (l : Addr) (k : Int) : Obj := { cls := .type "list_iterator", data := .fields #[.ref l, .int k 0] }
abbrev z3a (h : Heap) (l1 : Addr) : Heap := h.push (itO l1 0)
abbrev z3b (h : Heap) (l1 l2 : Addr) : Heap := (z3a h l1).push (itO l2 0)
abbrev z3c (h : Heap) (l1 l2 l3 : Addr) : Heap := (z3b h l1 l2).push (itO l3 0)
abbrev z3d (h : Heap) (l1 l2 l3 : Addr) : Heap := (z3c h l1 l2 l3).push (tupA #[.ref h.objs.size, .ref (z3a h l1).objs.size, .ref (z3b h l1 l2).objs.size])
abbrev z3e (h : Heap) (l1 l2 l3 : Addr) : Heap := (z3d h l1 l2 l3).push (tupA #[.none, .none, .none])
abbrev z3f (h : Heap) (l1 l2 l3 : Addr) : Heap := (z3e h l1 l2 l3).push (zipO .none (.bool false) (z3c h l1 l2 l3).objs.size (z3d h l1 l2 l3).objs.size)

theorem meets_zip3 (l1 l2 l3 : Addr) (xs ys zs : Array Value) :
    Meets (Builtin.«zip.__new__» ⟨[.type "zip", .ref l1, .ref l2, .ref l3], []⟩) (fun _ R s => s.heap.IsList l1 xs ∧ s.heap.IsList l2 ys ∧ s.heap.IsList l3 zs ∧
      R (.ok (.ret (.ref (z3e s.heap l1 l2 l3).objs.size))) { s with heap := z3f s.heap l1 l2 l3 }) :=
  .of_wp fun prog w A R s h => by
    obtain ⟨hp, g, d, tk, os⟩ := s; obtain ⟨hl1, hl2, hl3, h⟩ := h
    have hsub := sub_zip
    have hL1 : Heap.IsList (Shared.heap ⟨hp, g, d, tk, os⟩) l1 xs := hl1
    have hL2 : Heap.IsList (Shared.heap ⟨z3a hp l1, g, d, tk, os⟩) l2 ys := Heap.IsList.push hl2 _
    have hL3 : Heap.IsList (Shared.heap ⟨z3b hp l1 l2, g, d, tk, os⟩) l3 zs := Heap.IsList.push (Heap.IsList.push hl3 _) _
    wp_walk using wpAny_pyIter_list hL1, wpAny_pyIter_list hL2, wpAny_pyIter_list hL3
    exact ⟨_, rfl, h⟩

/-- a zip of three lists, laid from n on -/
structure Zip3 (h : Heap) (n : Nat) (f0 : Value) (k : Nat) (l1 l2 l3 : Addr) : Prop where
  z : h.get? (n + 5) = some (zipO f0 (.bool false) (n + 3) (n + 4))
  ti : h.get? (n + 3) = some (tupA #[.ref n, .ref (n + 1), .ref (n + 2)])
  to : ∃ a b c, h.get? (n + 4) = some (tupA #[a, b, c])
  i1 : h.IsListIter n l1 k
  i2 : h.IsListIter (n + 1) l2 k
  i3 : h.IsListIter (n + 2) l3 k

theorem call_zip3 {l1 l2 l3 : Addr} {xs ys zs : Array Value} {Q : Value → Shared → Prop} (hl1 : s.heap.IsList l1 xs) (hl2 : s.heap.IsList l2 ys) (hl3 : s.heap.IsList l3 zs)
    (h : ∀ h', Zip3 h' s.heap.objs.size .none 0 l1 l2 l3 → (∀ c o, s.heap.get? c = some o → h'.get? c = some o) → Q (.ref (s.heap.objs.size + 5)) { s with heap := h' }) :
    wpAny (model prog w) A (call (.type "zip") [.ref l1, .ref l2, .ref l3]) Q E s := by
  refine callType_new F.called_zip (by decide) (typeCall_zip3 _ _ _) (newCall_zip3 _ _ _) (fun obj => args_init4 obj _ _ _) F.entry_zip_new
    (meets_zip3 l1 l2 l3 xs ys zs) ⟨hl1, hl2, hl3, ?_⟩
  have e1 : (z3a s.heap l1).objs.size = s.heap.objs.size + 1 := Heap.size_push ..
  have e2 : (z3b s.heap l1 l2).objs.size = s.heap.objs.size + 2 := by rw [Heap.size_push, e1]
  have e3 : (z3c s.heap l1 l2 l3).objs.size = s.heap.objs.size + 3 := by rw [Heap.size_push, e2]
  have e4 : (z3d s.heap l1 l2 l3).objs.size = s.heap.objs.size + 4 := by rw [Heap.size_push, e3]
  have e5 : (z3e s.heap l1 l2 l3).objs.size = s.heap.objs.size + 5 := by rw [Heap.size_push, e4]
  have up : ∀ {g : Heap} {o' : Obj} {a : Addr} {o : Obj}, g.get? a = some o → (g.push o').get? a = some o := fun e => Heap.get?_push_of_some _ e
  have g6 : (z3f s.heap l1 l2 l3).get? (z3e s.heap l1 l2 l3).objs.size = some _ := Heap.get?_push_size _ rfl
  have g5 : (z3f s.heap l1 l2 l3).get? (z3d s.heap l1 l2 l3).objs.size = some _ := up (Heap.get?_push_size _ rfl)
  have g4 : (z3f s.heap l1 l2 l3).get? (z3c s.heap l1 l2 l3).objs.size = some _ := up (up (Heap.get?_push_size _ rfl))
  have g3 : (z3f s.heap l1 l2 l3).get? (z3b s.heap l1 l2).objs.size = some _ := up (up (up (Heap.get?_push_size _ rfl)))
  have g2 : (z3f s.heap l1 l2 l3).get? (z3a s.heap l1).objs.size = some _ := up (up (up (up (Heap.get?_push_size _ rfl))))
  have g1 : (z3f s.heap l1 l2 l3).get? s.heap.objs.size = some _ := up (up (up (up (up (Heap.get?_push_size _ rfl)))))
  rw [e5, e3, e4] at g6
  rw [e4] at g5
  rw [e3, e1, e2] at g4
  rw [e2] at g3
  rw [e1] at g2
  show _ ∧ _
  rw [e5]
  exact ⟨⟨_, g6, rfl⟩, h _ ⟨g6, g4, ⟨_, _, _, g5⟩, ⟨_, g1, rfl, rfl⟩, ⟨_, g2, rfl, rfl⟩, ⟨_, g3, rfl, rfl⟩⟩ fun c o x => up (up (up (up (up (up x)))))⟩
theorem wpAny_updateSeq_tup {T : Addr} {a b c x : Value} {k : Nat} {Q : Unit → Shared → Prop} (hT : s.heap.get? T = some (tupA #[a, b, c]))
    (h : ∀ h', h'.get? T = some (tupA ((#[a, b, c] : Array Value).setIfInBounds k x)) → Heap.SameBut T s.heap h' → Q () { s with heap := h' }) :
    wpAny (model prog w) A (updateSeq T (·.setIfInBounds k x)) Q E s := by
  refine wpAny_updateSeq hT rfl (h _ ?_ (Heap.SameBut.update ..))
  rw [Heap.get?_update_self _ hT rfl]
  simp [Obj.mapSeq]

/-- the lists lie off the zip's own objects -/
structure Z3Off (n l1 l2 l3 : Nat) : Prop where
  a : l1 < n ∨ n + 6 ≤ l1
  b : l2 < n ∨ n + 6 ≤ l2
  c : l3 < n ∨ n + 6 ≤ l3

theorem zip3_next_item {n l1 l2 l3 : Nat} {k : Nat} {xs ys zs : Array Value} {x y u : Value} {Q : Value → Shared → Prop} (D : Z3Off n l1 l2 l3) (hz : Zip3 s.heap n .none k l1 l2 l3)
    (hl1 : s.heap.IsList l1 xs) (hl2 : s.heap.IsList l2 ys) (hl3 : s.heap.IsList l3 zs) (hx : xs[k]? = some x) (hy : ys[k]? = some y) (hu : zs[k]? = some u)
    (hQ : ∀ h', Zip3 h' n (rawInt s.heap.objs.size) (k + 1) l1 l2 l3 → h'.get? s.heap.objs.size = some (tupA #[x, y, u]) →
      (∀ c o, (c < n ∨ n + 6 ≤ c) → s.heap.get? c = some o → h'.get? c = some o) → Q (.ref s.heap.objs.size) { s with heap := h' }) :
    wpAny (model prog w) A (Builtin.«zip.__next__» ⟨[.ref (n + 5)], []⟩) (fun fin s' => ∃ v, fin = .done (.ret v) ∧ Q v s') E s := by
  obtain ⟨da, db, dc⟩ := D
  obtain ⟨hz, hTI, ⟨a, b, c, hTO⟩, h1, h2, h3⟩ := hz
  show wpAny _ _ (field (.ref _) 2 >>= _) _ _ _
  refine wpAny_bind (wpAny_field hz rfl (x := .bool false) rfl ?_)
  show wpAny _ _ (field (.ref _) 3 >>= _) _ _ _
  refine wpAny_bind (wpAny_field hz rfl (x := .ref (n + 3)) rfl ?_)
  refine wpAny_bind (wpAny_seqItems hTI rfl ?_)
  show wpAny _ _ (Builtin.SmallTypes.ownedTupleIsFree (.ref _) >>= _) _ _ _
  refine wpAny_bind ?_
  unfold Builtin.SmallTypes.ownedTupleIsFree
  refine wpAny_bind (wpAny_field hz rfl (x := .none) rfl (wpAny_pure ?_))
  simp only [if_true]
  refine wpAny_bind (wpAny_rule ?_)
  refine wpAny_bind (wpAny_field hz rfl (x := .ref (n + 4)) rfl ?_)
  refine wpAny_bind (wpAny_setField_rec hz (by simp) fun h₁ hz₁ hs₁ => ?_)
  replace hz₁ : h₁.get? (n + 5) = some (zipO .ellipsis (.bool false) (n + 3) (n + 4)) := hz₁
  refine wpAny_bind ?_
  simp only [List.zipIdx_cons, List.zipIdx_nil, List.forIn_cons, List.forIn_nil]

  refine wpAny_bind (wpAny_bind (wpAny_onRaise ?_))
  show wpAny _ _ (Builtin.SmallTypes.nextOf (.ref n) >>= _) _ _ _
  refine wpAny_bind (wpAny_nextOf_list_item (h1.extBut hs₁.extBut (ne_ (by omega))) (hl1.extBut hs₁.extBut (ne_ (by omega))) hx fun h₂ h1₂ hs₂ => wpAny_pure ?_)
  have hTO₂ : h₂.get? (n + 4) = some (tupA #[a, b, c]) := hs₂.extBut _ _ (ne_ (by omega)) (hs₁.extBut _ _ (ne_ (by omega)) hTO)
  refine wpAny_bind (wpAny_seqItems hTO₂ rfl ?_)
  refine wpAny_bind (wpAny_updateSeq_tup hTO₂ fun h₃ hTO₃ hs₃ => ?_)
  replace hTO₃ : h₃.get? (n + 4) = some (tupA #[x, b, c]) := hTO₃
  refine wpAny_bind (wpAny_letGo (wpAny_pure ?_))

  refine wpAny_bind (wpAny_bind (wpAny_onRaise ?_))
  show wpAny _ _ (Builtin.SmallTypes.nextOf (.ref (n + 1)) >>= _) _ _ _
  refine wpAny_bind (wpAny_nextOf_list_item (((h2.extBut hs₁.extBut (ne_ (by omega))).extBut hs₂.extBut (ne_ (by omega))).extBut hs₃.extBut (ne_ (by omega)))
    (((hl2.extBut hs₁.extBut (ne_ (by omega))).extBut hs₂.extBut (ne_ (by omega))).extBut hs₃.extBut (ne_ (by omega))) hy fun h₄ h2₄ hs₄ => wpAny_pure ?_)
  have hTO₄ : h₄.get? (n + 4) = some (tupA #[x, b, c]) := hs₄.extBut _ _ (ne_ (by omega)) hTO₃
  refine wpAny_bind (wpAny_seqItems hTO₄ rfl ?_)
  refine wpAny_bind (wpAny_updateSeq_tup hTO₄ fun h₅ hTO₅ hs₅ => ?_)
  replace hTO₅ : h₅.get? (n + 4) = some (tupA #[x, y, c]) := hTO₅
  refine wpAny_bind (wpAny_letGo (wpAny_pure ?_))

  refine wpAny_bind (wpAny_bind (wpAny_onRaise ?_))
  show wpAny _ _ (Builtin.SmallTypes.nextOf (.ref (n + 2)) >>= _) _ _ _
  refine wpAny_bind (wpAny_nextOf_list_item (((((h3.extBut hs₁.extBut (ne_ (by omega))).extBut hs₂.extBut (ne_ (by omega))).extBut hs₃.extBut (ne_ (by omega))).extBut hs₄.extBut (ne_ (by omega))).extBut hs₅.extBut (ne_ (by omega)))
    (((((hl3.extBut hs₁.extBut (ne_ (by omega))).extBut hs₂.extBut (ne_ (by omega))).extBut hs₃.extBut (ne_ (by omega))).extBut hs₄.extBut (ne_ (by omega))).extBut hs₅.extBut (ne_ (by omega))) hu fun h₆ h3₆ hs₆ => wpAny_pure ?_)
  have hTO₆ : h₆.get? (n + 4) = some (tupA #[x, y, c]) := hs₆.extBut _ _ (ne_ (by omega)) hTO₅
  refine wpAny_bind (wpAny_seqItems hTO₆ rfl ?_)
  refine wpAny_bind (wpAny_updateSeq_tup hTO₆ fun h₇ hTO₇ hs₇ => ?_)
  replace hTO₇ : h₇.get? (n + 4) = some (tupA #[x, y, u]) := hTO₇
  refine wpAny_bind (wpAny_letGo (wpAny_pure (wpAny_pure ?_)))

  refine wpAny_bind (wpAny_seqItems hTO₇ rfl ?_)
  refine wpAny_bind (wpAny_newTuple ?_)
  have hsz : h₇.objs.size = s.heap.objs.size := by rw [hs₇.1, hs₆.1, hs₅.1, hs₄.1, hs₃.1, hs₂.1, hs₁.1]
  have hk₇ : ∀ c o, c ≠ n → c ≠ n + 1 → c ≠ n + 2 → c ≠ n + 4 → h₁.get? c = some o → h₇.get? c = some o := fun c o c1 c2 c3 c4 e =>
    hs₇.extBut _ _ c4 (hs₆.extBut _ _ c3 (hs₅.extBut _ _ c4 (hs₄.extBut _ _ c2 (hs₃.extBut _ _ c4 (hs₂.extBut _ _ c1 e)))))
  have hz₇ : h₇.get? (n + 5) = some (zipO .ellipsis (.bool false) (n + 3) (n + 4)) := hk₇ _ _ (ne_ (by omega)) (ne_ (by omega)) (ne_ (by omega)) (ne_ (by omega)) hz₁
  have hTI₇ : h₇.get? (n + 3) = some (tupA #[.ref n, .ref (n + 1), .ref (n + 2)]) := hk₇ _ _ (ne_ (by omega)) (ne_ (by omega)) (ne_ (by omega)) (ne_ (by omega)) (hs₁.extBut _ _ (ne_ (by omega)) hTI)
  have h1₇ : h₇.IsListIter n l1 (k + 1) := ((((h1₂.extBut hs₃.extBut (ne_ (by omega))).extBut hs₄.extBut (ne_ (by omega))).extBut hs₅.extBut (ne_ (by omega))).extBut hs₆.extBut (ne_ (by omega))).extBut hs₇.extBut (ne_ (by omega))
  have h2₇ : h₇.IsListIter (n + 1) l2 (k + 1) := ((h2₄.extBut hs₅.extBut (ne_ (by omega))).extBut hs₆.extBut (ne_ (by omega))).extBut hs₇.extBut (ne_ (by omega))
  have h3₇ : h₇.IsListIter (n + 2) l3 (k + 1) := h3₆.extBut hs₇.extBut (ne_ (by omega))
  have hzlt : n + 5 < h₇.objs.size := Heap.lt_size hz₇
  show wpAny _ _ (Builtin.SmallTypes.ownedTupleHandOut (.ref _) (.ref h₇.objs.size) >>= _) _ _ _
  refine wpAny_bind ?_
  unfold Builtin.SmallTypes.ownedTupleHandOut
  have hz₈ : (h₇.push (tupA #[x, y, u])).get? (n + 5) = some (zipO .ellipsis (.bool false) (n + 3) (n + 4)) := Heap.get?_push_of_some _ hz₇
  refine wpAny_bind (wpAny_setField_rec hz₈ (by simp) fun h₉ hz₉ hs₉ => ?_)
  replace hz₉ : h₉.get? (n + 5) = some (zipO (rawInt h₇.objs.size) (.bool false) (n + 3) (n + 4)) := hz₉
  refine wpAny_setField_rec hz₉ (by simp) fun h' hz' hs' => ?_
  replace hz' : h'.get? (n + 5) = some (zipO (rawInt h₇.objs.size) (.bool false) (n + 3) (n + 4)) := hz'
  have up : ∀ c o, c ≠ n + 5 → h₇.get? c = some o → h'.get? c = some o := fun c o c1 e => hs'.extBut _ _ c1 (hs₉.extBut _ _ c1 (Heap.get?_push_of_some _ e))
  have hT' : h'.get? h₇.objs.size = some (tupA #[x, y, u]) := hs'.extBut _ _ (Nat.ne_of_gt hzlt) (hs₉.extBut _ _ (Nat.ne_of_gt hzlt) (Heap.get?_push_size _ rfl))
  rw [hsz] at hz' hT'
  refine wpAny_pure ⟨_, rfl, ?_⟩
  show Q (.ref h₇.objs.size) _
  rw [hsz]
  exact hQ h' ⟨hz', up _ _ (ne_ (by omega)) hTI₇, ⟨_, _, _, up _ _ (ne_ (by omega)) hTO₇⟩, h1₇.at fun o e => up _ o (ne_ (by omega)) e, h2₇.at fun o e => up _ o (ne_ (by omega)) e, h3₇.at fun o e => up _ o (ne_ (by omega)) e⟩ hT'
    fun c o hc e => up c o (ne_ (by omega)) (hk₇ c o (ne_ (by omega)) (ne_ (by omega)) (ne_ (by omega)) (ne_ (by omega)) (hs₁.extBut _ _ (ne_ (by omega)) e))

theorem zip3_next_end {n l1 l2 l3 : Nat} {k : Nat} {xs ys zs : Array Value} {Q : Fin → Shared → Prop} (hh : A.handled = none) (D : Z3Off n l1 l2 l3) (hz : Zip3 s.heap n .none k l1 l2 l3)
    (hl1 : s.heap.IsList l1 xs) (hl2 : s.heap.IsList l2 ys) (hl3 : s.heap.IsList l3 zs) (hend : xs[k]? = none ∨ ys[k]? = none ∨ zs[k]? = none)
    (hE : ∀ h' e, (∀ c o, (c < n ∨ n + 6 ≤ c) → s.heap.get? c = some o → h'.get? c = some o) → (∃ o, h'.get? e = some o ∧ o.cls = .type "StopIteration") → E (.ref e) { s with heap := h' }) :
    wpAny (model prog w) A (Builtin.«zip.__next__» ⟨[.ref (n + 5)], []⟩) Q E s := by
  obtain ⟨da, db, dc⟩ := D
  obtain ⟨hz, hTI, ⟨a, b, c, hTO⟩, h1, h2, h3⟩ := hz
  show wpAny _ _ (field (.ref _) 2 >>= _) _ _ _
  refine wpAny_bind (wpAny_field hz rfl (x := .bool false) rfl ?_)
  show wpAny _ _ (field (.ref _) 3 >>= _) _ _ _
  refine wpAny_bind (wpAny_field hz rfl (x := .ref (n + 3)) rfl ?_)
  refine wpAny_bind (wpAny_seqItems hTI rfl ?_)
  show wpAny _ _ (Builtin.SmallTypes.ownedTupleIsFree (.ref _) >>= _) _ _ _
  refine wpAny_bind ?_
  unfold Builtin.SmallTypes.ownedTupleIsFree
  refine wpAny_bind (wpAny_field hz rfl (x := .none) rfl (wpAny_pure ?_))
  simp only [if_true]
  refine wpAny_bind (wpAny_rule ?_)
  refine wpAny_bind (wpAny_field hz rfl (x := .ref (n + 4)) rfl ?_)
  refine wpAny_bind (wpAny_setField_rec hz (by simp) fun h₁ hz₁ hs₁ => ?_)
  replace hz₁ : h₁.get? (n + 5) = some (zipO .ellipsis (.bool false) (n + 3) (n + 4)) := hz₁
  refine wpAny_bind ?_
  simp only [List.zipIdx_cons, List.zipIdx_nil, List.forIn_cons, List.forIn_nil]
  refine wpAny_bind (wpAny_bind (wpAny_onRaise ?_))
  show wpAny _ _ (Builtin.SmallTypes.nextOf (.ref n) >>= _) _ _ _
  have last : ∀ (h₂ h₃ : Heap) (j : Nat) (e : Addr), (j = n ∨ j = n + 1 ∨ j = n + 2) → h₂.get? (n + 5) = some (zipO .ellipsis (.bool false) (n + 3) (n + 4)) →
      (∀ c o, (c < n ∨ n + 6 ≤ c) → s.heap.get? c = some o → h₂.get? c = some o) → Heap.ExtBut j h₂ h₃ → (∃ o, h₃.get? e = some o ∧ o.cls = .type "StopIteration") →
      wpAny (model prog w) A (setField (.ref (n + 5)) 0 .none) (fun _ s' => E (.ref e) s') E { s with heap := h₃ } := by
    intro h₂ h₃ j e hj g2 hk hs he
    obtain ⟨oe, hoe, hce⟩ := he
    have hz₃ : h₃.get? (n + 5) = some (zipO .ellipsis (.bool false) (n + 3) (n + 4)) := hs _ _ (ne_ (by omega)) g2
    have hez : e ≠ n + 5 := fun x => by subst x; rw [hz₃] at hoe; cases hoe; simp at hce
    exact wpAny_setField_rec hz₃ (by simp) fun h₄ _ hs₄ => hE h₄ e (fun c o hc x => hs₄.extBut _ _ (ne_ (by omega)) (hs _ _ (ne_ (by omega)) (hk c o hc x))) ⟨oe, hs₄.extBut _ _ hez hoe, hce⟩
  cases hx : xs[k]? with
  | none =>
    exact wpAny_bind (wpAny_nextOf_list_end hh (h1.extBut hs₁.extBut (ne_ (by omega))) (hl1.extBut hs₁.extBut (ne_ (by omega))) hx fun h₂ e hs₂ he =>
      last h₁ h₂ n e (.inl rfl) hz₁ (fun c o hc x => hs₁.extBut _ _ (ne_ (by omega)) x) hs₂ he)
  | some x =>
    refine wpAny_bind (wpAny_nextOf_list_item (h1.extBut hs₁.extBut (ne_ (by omega))) (hl1.extBut hs₁.extBut (ne_ (by omega))) hx fun h₂ h1₂ hs₂ => wpAny_pure ?_)
    have hTO₂ : h₂.get? (n + 4) = some (tupA #[a, b, c]) := hs₂.extBut _ _ (ne_ (by omega)) (hs₁.extBut _ _ (ne_ (by omega)) hTO)
    refine wpAny_bind (wpAny_seqItems hTO₂ rfl ?_)
    refine wpAny_bind (wpAny_updateSeq_tup hTO₂ fun h₃ hTO₃ hs₃ => ?_)
    replace hTO₃ : h₃.get? (n + 4) = some (tupA #[x, b, c]) := hTO₃
    refine wpAny_bind (wpAny_letGo (wpAny_pure ?_))
    refine wpAny_bind (wpAny_bind (wpAny_onRaise ?_))
    show wpAny _ _ (Builtin.SmallTypes.nextOf (.ref (n + 1)) >>= _) _ _ _
    have hz₃ : h₃.get? (n + 5) = some (zipO .ellipsis (.bool false) (n + 3) (n + 4)) := hs₃.extBut _ _ (ne_ (by omega)) (hs₂.extBut _ _ (ne_ (by omega)) hz₁)
    have k₃ : ∀ c o, c ≠ n → c ≠ n + 4 → c ≠ n + 5 → s.heap.get? c = some o → h₃.get? c = some o := fun c o c1 c2 c3 x => hs₃.extBut _ _ c2 (hs₂.extBut _ _ c1 (hs₁.extBut _ _ c3 x))
    cases hy : ys[k]? with
    | none =>
      exact wpAny_bind (wpAny_nextOf_list_end hh (h2.at fun o x => k₃ _ o (ne_ (by omega)) (ne_ (by omega)) (ne_ (by omega)) x) (hl2.at fun o x => k₃ _ o (ne_ (by omega)) (ne_ (by omega)) (ne_ (by omega)) x) hy fun h₄ e hs₄ he =>
        last h₃ h₄ (n + 1) e (.inr (.inl rfl)) hz₃ (fun c o hc x => k₃ c o (ne_ (by omega)) (ne_ (by omega)) (ne_ (by omega)) x) hs₄ he)
    | some y =>
      have hu : zs[k]? = none := by
        rcases hend with h | h | h
        · rw [hx] at h; cases h
        · rw [hy] at h; cases h
        · exact h
      refine wpAny_bind (wpAny_nextOf_list_item (h2.at fun o x => k₃ _ o (ne_ (by omega)) (ne_ (by omega)) (ne_ (by omega)) x) (hl2.at fun o x => k₃ _ o (ne_ (by omega)) (ne_ (by omega)) (ne_ (by omega)) x) hy fun h₄ h2₄ hs₄ => wpAny_pure ?_)
      have hTO₄ : h₄.get? (n + 4) = some (tupA #[x, b, c]) := hs₄.extBut _ _ (ne_ (by omega)) hTO₃
      refine wpAny_bind (wpAny_seqItems hTO₄ rfl ?_)
      refine wpAny_bind (wpAny_updateSeq_tup hTO₄ fun h₅ hTO₅ hs₅ => ?_)
      refine wpAny_bind (wpAny_letGo (wpAny_pure ?_))
      refine wpAny_bind (wpAny_bind (wpAny_onRaise ?_))
      show wpAny _ _ (Builtin.SmallTypes.nextOf (.ref (n + 2)) >>= _) _ _ _
      have k₅ : ∀ c o, c ≠ n → c ≠ n + 1 → c ≠ n + 4 → c ≠ n + 5 → s.heap.get? c = some o → h₅.get? c = some o := fun c o c1 c2 c3 c4 x => hs₅.extBut _ _ c3 (hs₄.extBut _ _ c2 (k₃ c o c1 c3 c4 x))
      have hz₅ : h₅.get? (n + 5) = some (zipO .ellipsis (.bool false) (n + 3) (n + 4)) := hs₅.extBut _ _ (ne_ (by omega)) (hs₄.extBut _ _ (ne_ (by omega)) hz₃)
      exact wpAny_bind (wpAny_nextOf_list_end hh (h3.at fun o x => k₅ _ o (ne_ (by omega)) (ne_ (by omega)) (ne_ (by omega)) (ne_ (by omega)) x) (hl3.at fun o x => k₅ _ o (ne_ (by omega)) (ne_ (by omega)) (ne_ (by omega)) (ne_ (by omega)) x) hu fun h₆ e hs₆ he =>
        last h₅ h₆ (n + 2) e (.inr (.inr rfl)) hz₅ (fun c o hc x => k₅ c o (ne_ (by omega)) (ne_ (by omega)) (ne_ (by omega)) (ne_ (by omega)) x) hs₆ he)
end
end Mine

end

section
open PySem PySem.Calls PyProof.Rows
set_option autoImplicit false
namespace Mine
section
variable {prog : Program} {w : World} {A : Around} {E : Value → Shared → Prop} {s : Shared}

theorem wpAny_loadIfAlive {a : Addr} {Q : Option Obj → Shared → Prop} (h : Q (s.heap.get? a) s) : wpAny (model prog w) A (loadIfAlive a) Q E s :=
  fun Γ p _ => by unfold loadIfAlive; rw [Sem.wp_loadIfAlive]; exact h

/-- a zip of two lists that hands its pairs on: laid from n on -/
structure ZipU (h : Heap) (n : Nat) (k : Nat) (l1 l2 : Addr) : Prop where
  z : h.get? (n + 4) = some (zipO .none (.bool false) (n + 2) (n + 3)) ∨ ∃ T b, (∃ o, h.get? T = some o) ∧ h.get? (n + 4) = some (zipO (rawInt (T : Nat)) (.bool b) (n + 2) (n + 3))
  ti : h.get? (n + 2) = some (tupA #[.ref n, .ref (n + 1)])
  to : ∃ a b, h.get? (n + 3) = some (tupA #[a, b])
  i1 : h.IsListIter n l1 k
  i2 : h.IsListIter (n + 1) l2 k

structure Z2Off (n sz l1 l2 : Nat) : Prop where
  a : l1 < n ∨ n + sz ≤ l1
  b : l2 < n ∨ n + sz ≤ l2

theorem Z2Off.apart {n sz l1 l2 : Nat} (D : Z2Off n sz l1 l2) (h : 5 ≤ sz) : ZipApart (n + 4) (n + 2) (n + 3) n (n + 1) l1 l2 := by
  obtain ⟨a, b⟩ := D
  constructor <;> exact ne_ (by omega)

theorem notFree {r : Addr} {T : Nat} {fb : Bool} {f2 f3 f4 : Value} {cls : Value} (hT : ∃ o, s.heap.get? T = some o) (hz : s.heap.get? r = some { cls := cls, dict := none, data := .fields #[rawInt (T : Nat), .bool fb, f2, f3, f4], slots := #[] })  :
    wpAny (model prog w) A (Builtin.SmallTypes.ownedTupleIsFree (.ref r)) (fun b s' => b = false ∧ ∃ h₁, s' = { s with heap := h₁ } ∧ h₁.get? r = some { cls := cls, dict := none, data := .fields #[rawInt (T : Nat), .bool true, f2, f3, f4], slots := #[] } ∧ Heap.SameBut r s.heap h₁) E s := by
  obtain ⟨oT, hoT⟩ := hT
  unfold Builtin.SmallTypes.ownedTupleIsFree
  refine wpAny_bind (wpAny_field hz rfl (x := rawInt (T : Nat)) rfl ?_)
  dsimp only [rawInt]
  refine wpAny_bind (wpAny_loadIfAlive ?_)
  rw [Int.toNat_natCast, hoT]
  simp only [Option.isNone_some, Bool.false_eq_true, if_false]
  refine wpAny_bind (wpAny_field hz rfl (x := .bool fb) rfl ?_)
  cases fb with
  | true =>
    refine wpAny_bind (wpAny_pure (wpAny_pure ⟨rfl, _, rfl, hz, .refl _ _⟩))
  | false =>
    refine wpAny_bind ?_
    show wpAny _ _ (setField (.ref r) 1 (.bool true)) _ _ _
    exact wpAny_setField_rec hz (by simp) fun h₁ hz₁ hs₁ => wpAny_pure ⟨rfl, h₁, rfl, hz₁, hs₁⟩

theorem zipU_next_item {n l1 l2 sz : Nat} {k : Nat} {xs ys : Array Value} {x y : Value} {Q : Value → Shared → Prop} (hsz5 : 5 ≤ sz) (D : Z2Off n sz l1 l2) (hz : ZipU s.heap n k l1 l2)
    (hl1 : s.heap.IsList l1 xs) (hl2 : s.heap.IsList l2 ys) (hx : xs[k]? = some x) (hy : ys[k]? = some y)
    (hQ : ∀ h', ZipU h' n (k + 1) l1 l2 → h'.get? s.heap.objs.size = some (tupA #[x, y]) → h'.objs.size = s.heap.objs.size + 1 →
      (∀ c o, (c < n ∨ n + 5 ≤ c) → s.heap.get? c = some o → h'.get? c = some o) → Q (.ref s.heap.objs.size) { s with heap := h' }) :
    wpAny (model prog w) A (Builtin.«zip.__next__» ⟨[.ref (n + 4)], []⟩) (fun fin s' => ∃ v, fin = .done (.ret v) ∧ Q v s') E s := by
  have D' := D
  obtain ⟨da, db⟩ := D
  obtain ⟨hz, hTI, ⟨a, b, hTO⟩, h1, h2⟩ := hz
  rcases hz with hz | ⟨T, fb, hT, hz⟩
  · refine zip_next_item (D'.apart hsz5) hz hTI hTO h1 h2 hl1 hl2 hx hy fun h' a1 a2 a3 a4 a5 a6 a7 => hQ h' ⟨.inr ⟨_, _, ⟨_, a5⟩, a1⟩, ?_, ⟨_, _, a2⟩, a3, a4⟩ a5 a6 fun c o hc e => a7 c o (ne_ (by omega)) (ne_ (by omega)) (ne_ (by omega)) (ne_ (by omega)) e
    exact a7 _ _ (ne_ (by omega)) (ne_ (by omega)) (ne_ (by omega)) (ne_ (by omega)) hTI
  · show wpAny _ _ (field (.ref _) 2 >>= _) _ _ _
    refine wpAny_bind (wpAny_field hz rfl (x := .bool false) rfl ?_)
    show wpAny _ _ (field (.ref _) 3 >>= _) _ _ _
    refine wpAny_bind (wpAny_field hz rfl (x := .ref (n + 2)) rfl ?_)
    refine wpAny_bind (wpAny_seqItems hTI rfl ?_)
    show wpAny _ _ (Builtin.SmallTypes.ownedTupleIsFree (.ref _) >>= _) _ _ _
    refine wpAny_bind (wpAny_mono (notFree hT hz) ?_ fun _ _ e => e)
    rintro _ _ ⟨rfl, h₁, rfl, hz₁, hs₁⟩
    simp only [Bool.false_eq_true, if_false]
    refine wpAny_bind ?_
    simp only [List.forIn_toArray, List.forIn_cons, List.forIn_nil]
    refine wpAny_bind (wpAny_bind (wpAny_holding ?_))
    show wpAny _ _ (Builtin.SmallTypes.nextOf (.ref n) >>= _) _ _ _
    refine wpAny_bind (wpAny_nextOf_list_item (h1.extBut hs₁.extBut (ne_ (by omega))) (hl1.extBut hs₁.extBut (ne_ (by omega))) hx fun h₂ h1₂ hs₂ => wpAny_pure ?_)
    refine wpAny_pure ?_
    refine wpAny_bind (wpAny_bind (wpAny_holding ?_))
    show wpAny _ _ (Builtin.SmallTypes.nextOf (.ref (n + 1)) >>= _) _ _ _
    refine wpAny_bind (wpAny_nextOf_list_item ((h2.extBut hs₁.extBut (ne_ (by omega))).extBut hs₂.extBut (ne_ (by omega)))
      ((hl2.extBut hs₁.extBut (ne_ (by omega))).extBut hs₂.extBut (ne_ (by omega))) hy fun h₃ h2₃ hs₃ => wpAny_pure ?_)
    refine wpAny_pure (wpAny_pure ?_)
    refine wpAny_bind (wpAny_newTuple (hsz := by show (2 : Nat) ≤ sizeLine; rw [sizeLine_eq]; omega) (wpAny_pure ⟨_, rfl, ?_⟩))
    have hsz : h₃.objs.size = s.heap.objs.size := by rw [hs₃.1, hs₂.1, hs₁.1]
    have k₃ : ∀ c o, c ≠ n → c ≠ n + 1 → c ≠ n + 4 → s.heap.get? c = some o → h₃.get? c = some o := fun c o c1 c2 c3 e => hs₃.extBut _ _ c2 (hs₂.extBut _ _ c1 (hs₁.extBut _ _ c3 e))
    have up : ∀ c o, h₃.get? c = some o → (h₃.push (tupA #[x, y])).get? c = some o := fun c o e => Heap.get?_push_of_some _ e
    have hz₃ : h₃.get? (n + 4) = some (zipO (rawInt (T : Nat)) (.bool true) (n + 2) (n + 3)) := hs₃.extBut _ _ (ne_ (by omega)) (hs₂.extBut _ _ (ne_ (by omega)) hz₁)
    have h1₃ : h₃.IsListIter n l1 (k + 1) := h1₂.extBut hs₃.extBut (ne_ (by omega))
    have hT₃ : ∃ o, h₃.get? T = some o := by
      obtain ⟨oT, hoT⟩ := hT
      by_cases t1 : T = n
      · rw [t1]; obtain ⟨o, e, _⟩ := h1₃; exact ⟨o, e⟩
      · by_cases t2 : T = n + 1
        · rw [t2]; obtain ⟨o, e, _⟩ := h2₃; exact ⟨o, e⟩
        · by_cases t3 : T = n + 4
          · rw [t3]; exact ⟨_, hz₃⟩
          · exact ⟨_, k₃ _ _ t1 t2 t3 hoT⟩
    show Q (.ref h₃.objs.size) _
    rw [hsz]
    refine hQ _ ⟨.inr ⟨T, true, ?_, up _ _ hz₃⟩, up _ _ (k₃ _ _ (ne_ (by omega)) (ne_ (by omega)) (ne_ (by omega)) hTI), ⟨a, b, up _ _ (k₃ _ _ (ne_ (by omega)) (ne_ (by omega)) (ne_ (by omega)) hTO)⟩, h1₃.at fun o e => up _ o e, h2₃.at fun o e => up _ o e⟩ ?_ ?_ ?_
    · obtain ⟨o, e⟩ := hT₃; exact ⟨o, up _ _ e⟩
    · rw [← hsz]; exact Heap.get?_push_size _ rfl
    · rw [Heap.size_push, hsz]
    · exact fun c o hc e => up _ _ (k₃ c o (ne_ (by omega)) (ne_ (by omega)) (ne_ (by omega)) e)

theorem zipU_next_end {n l1 l2 sz : Nat} {k : Nat} {xs ys : Array Value} {Q : Fin → Shared → Prop} (hh : A.handled = none) (hsz5 : 5 ≤ sz) (D : Z2Off n sz l1 l2) (hz : ZipU s.heap n k l1 l2)
    (hl1 : s.heap.IsList l1 xs) (hl2 : s.heap.IsList l2 ys) (hend : xs[k]? = none ∨ ys[k]? = none)
    (hE : ∀ h' e, (∀ c o, (c < n ∨ n + 5 ≤ c) → s.heap.get? c = some o → h'.get? c = some o) → (∃ o, h'.get? e = some o ∧ o.cls = .type "StopIteration") → E (.ref e) { s with heap := h' }) :
    wpAny (model prog w) A (Builtin.«zip.__next__» ⟨[.ref (n + 4)], []⟩) Q E s := by
  have D' := D
  obtain ⟨da, db⟩ := D
  obtain ⟨hz, hTI, ⟨a, b, hTO⟩, h1, h2⟩ := hz
  rcases hz with hz | ⟨T, fb, hT, hz⟩
  · exact zip_next_end hh (D'.apart hsz5) hz hTI hTO h1 h2 hl1 hl2 hend fun h' e a1 a2 => hE h' e (fun c o hc e => a1 c o (ne_ (by omega)) (ne_ (by omega)) (ne_ (by omega)) (ne_ (by omega)) e) a2
  · show wpAny _ _ (field (.ref _) 2 >>= _) _ _ _
    refine wpAny_bind (wpAny_field hz rfl (x := .bool false) rfl ?_)
    show wpAny _ _ (field (.ref _) 3 >>= _) _ _ _
    refine wpAny_bind (wpAny_field hz rfl (x := .ref (n + 2)) rfl ?_)
    refine wpAny_bind (wpAny_seqItems hTI rfl ?_)
    show wpAny _ _ (Builtin.SmallTypes.ownedTupleIsFree (.ref _) >>= _) _ _ _
    refine wpAny_bind (wpAny_mono (notFree hT hz) ?_ fun _ _ e => e)
    rintro _ _ ⟨rfl, h₁, rfl, hz₁, hs₁⟩
    simp only [Bool.false_eq_true, if_false]
    refine wpAny_bind ?_
    simp only [List.forIn_toArray, List.forIn_cons, List.forIn_nil]
    refine wpAny_bind (wpAny_bind (wpAny_holding ?_))
    show wpAny _ _ (Builtin.SmallTypes.nextOf (.ref n) >>= _) _ _ _
    cases hx : xs[k]? with
    | none =>
      exact wpAny_bind (wpAny_nextOf_list_end hh (h1.extBut hs₁.extBut (ne_ (by omega))) (hl1.extBut hs₁.extBut (ne_ (by omega))) hx fun h₂ e hs₂ he =>
        hE h₂ e (fun c o hc x => hs₂ _ _ (ne_ (by omega)) (hs₁.extBut _ _ (ne_ (by omega)) x)) he)
    | some x =>
      have hy : ys[k]? = none := by rcases hend with h | h; rw [hx] at h; cases h; exact h
      refine wpAny_bind (wpAny_nextOf_list_item (h1.extBut hs₁.extBut (ne_ (by omega))) (hl1.extBut hs₁.extBut (ne_ (by omega))) hx fun h₂ h1₂ hs₂ => wpAny_pure ?_)
      refine wpAny_pure ?_
      refine wpAny_bind (wpAny_bind (wpAny_holding ?_))
      show wpAny _ _ (Builtin.SmallTypes.nextOf (.ref (n + 1)) >>= _) _ _ _
      exact wpAny_bind (wpAny_nextOf_list_end hh ((h2.extBut hs₁.extBut (ne_ (by omega))).extBut hs₂.extBut (ne_ (by omega)))
        ((hl2.extBut hs₁.extBut (ne_ (by omega))).extBut hs₂.extBut (ne_ (by omega))) hy fun h₃ e hs₃ he =>
        hE h₃ e (fun c o hc x => hs₃ _ _ (ne_ (by omega)) (hs₂.extBut _ _ (ne_ (by omega)) (hs₁.extBut _ _ (ne_ (by omega)) x))) he)

theorem nextOf_zip {r : Addr} {Q : Value → Shared → Prop} (hT : s.TypeIs (.ref r) "zip") (h : wpAny (model prog w) A.in1 (Builtin.«zip.__next__» ⟨[.ref r], []⟩) (fun fin s' => ∃ v, fin = .done (.ret v) ∧ Q v s') E s) :
    wpAny (model prog w) A (Builtin.SmallTypes.nextOf (.ref r)) Q E s := by
  unfold Builtin.SmallTypes.nextOf
  refine wpAny_bind (wpAny_callSpecial?_slot (name := Str.ofString "__next__") hT F.slot_zip_next
    (wpAny_call_entry F.slot_zip_next hT F.entry_zip_next ?_ (F.args_zip_next_1 _)))
  exact wpAny_mono h (fun fin s' ⟨v, e, q⟩ => ⟨v, e, wpAny_pure q⟩) fun _ _ e => e

/-- an enumerate over such a zip -/
structure EZip (h : Heap) (n : Nat) (f0 : Value) (k : Nat) (l1 l2 : Addr) : Prop where
  u : ZipU h n k l1 l2
  e : ∃ old, h.get? (n + 5) = some { cls := .type "enumerate", dict := none, data := .fields #[f0, .bool false, .ref (n + 4), rawInt (k : Nat), .none, old], slots := #[] }

theorem ZipU.typeIs {n k : Nat} {l1 l2 : Addr} (u : ZipU s.heap n k l1 l2) : s.TypeIs (.ref (n + 4)) "zip" := by
  rcases u.z with e | ⟨_, _, _, e⟩ <;> exact ⟨_, e, rfl⟩
theorem ZipU.keep {h h' : Heap} {n k : Nat} {l1 l2 : Addr} (u : ZipU h n k l1 l2) (hk : ∀ c o, n ≤ c → c < n + 5 → h.get? c = some o → h'.get? c = some o) (hl : ∀ c o, h.get? c = some o → ∃ o', h'.get? c = some o') : ZipU h' n k l1 l2 where
  z := u.z.imp (hk _ _ (by omega) (by omega)) fun ⟨T, b, ⟨o, e⟩, q⟩ => ⟨T, b, hl _ _ e, hk _ _ (by omega) (by omega) q⟩
  ti := hk _ _ (by omega) (by omega) u.ti
  to := by obtain ⟨a, b, e⟩ := u.to; exact ⟨a, b, hk _ _ (by omega) (by omega) e⟩
  i1 := u.i1.at fun o e => hk _ _ (by omega) (by omega) e
  i2 := u.i2.at fun o e => hk _ _ (by omega) (by omega) e

theorem ez_next_item {n l1 l2 : Nat} {k : Nat} {xs ys : Array Value} {x y : Value} {Q : Value → Shared → Prop} (D : Z2Off n 6 l1 l2) (hz : EZip s.heap n .none k l1 l2)
    (hl1 : s.heap.IsList l1 xs) (hl2 : s.heap.IsList l2 ys) (hx : xs[k]? = some x) (hy : ys[k]? = some y)
    (hQ : ∀ h' T, EZip h' n (rawInt (T : Nat)) (k + 1) l1 l2 → (∃ U, s.heap.objs.size ≤ T ∧ s.heap.objs.size ≤ U ∧ h'.get? T = some (tupA #[.int k s.toks, .ref U]) ∧ h'.get? U = some (tupA #[x, y])) →
      (∀ c o, (c < n ∨ n + 6 ≤ c) → s.heap.get? c = some o → h'.get? c = some o) → Q (.ref T) { s with heap := h', toks := s.toks + 1 }) :
    wpAny (model prog w) A (Builtin.«enumerate.__next__» ⟨[.ref (n + 5)], []⟩) (fun fin s' => ∃ v, fin = .done (.ret v) ∧ Q v s') E s := by
  obtain ⟨u, old, he⟩ := hz
  obtain ⟨hp, g, d, tk, os⟩ := s
  show wpAny _ _ (field (.ref _) 2 >>= _) _ _ _
  refine wpAny_bind (wpAny_field he rfl (x := .ref (n + 4)) rfl ?_)
  refine wpAny_bind (nextOf_zip u.typeIs (zipU_next_item (by omega) D u hl1 hl2 hx hy fun h₁ u₁ hU hs₁ hk₁ => ?_))
  generalize hUe : (Shared.heap ⟨hp, g, d, tk, os⟩).objs.size = U at *
  have hUe' : hp.objs.size = U := hUe
  dsimp only at hk₁ he
  have hnU : n + 5 < U := hUe ▸ Heap.lt_size he
  have he₁ := hk₁ _ _ (.inr (by omega)) he
  show wpAny _ _ (field (.ref _) 3 >>= _) _ _ ⟨h₁, g, d, tk, os⟩
  refine wpAny_bind (wpAny_field he₁ rfl (x := rawInt (k : Nat)) rfl ?_)
  show wpAny _ _ (field (.ref _) 4 >>= _) _ _ ⟨h₁, g, d, tk, os⟩
  refine wpAny_bind (wpAny_field he₁ rfl (x := .none) rfl ?_)
  show wpAny _ _ (mkInt (k : Nat) >>= _) _ _ ⟨h₁, g, d, tk, os⟩
  refine wpAny_bind (wpAny_mkInt ?_)
  show wpAny _ _ (setField (.ref _) 3 (rawInt ((k : Int) + 1)) >>= _) _ _ ⟨h₁, g, d, tk + 1, os⟩
  refine wpAny_bind (wpAny_setField_rec he₁ (by simp) fun h₂ he₂ hs₂ => ?_)
  show wpAny _ _ (setField (.ref _) 4 .none >>= _) _ _ ⟨h₂, g, d, tk + 1, os⟩
  refine wpAny_bind (wpAny_setField_rec he₂ (by simp) fun h₃ he₃ hs₃ => ?_)
  replace he₃ : h₃.get? (n + 5) = some { cls := .type "enumerate", dict := none, data := .fields #[.none, .bool false, .ref (n + 4), rawInt ((k : Int) + 1), .none, old], slots := #[] } := he₃
  show wpAny _ _ (newTuple [.int (k : Nat) tk, .ref U] >>= _) _ _ ⟨h₃, g, d, tk + 1, os⟩
  refine wpAny_bind (wpAny_newTuple ?_)
  have up₁ : ∀ c o, c ≠ n + 5 → h₁.get? c = some o → h₃.get? c = some o := fun c o c1 e => hs₃.extBut _ _ c1 (hs₂.extBut _ _ c1 e)
  have sz₃ : h₃.objs.size = U + 1 := by rw [hs₃.1, hs₂.1]; exact hs₁
  have he₄ : (h₃.push (tupA #[.int (k : Nat) tk, .ref U])).get? (n + 5) = some { cls := .type "enumerate", dict := none, data := .fields #[.none, .bool false, .ref (n + 4), rawInt ((k : Int) + 1), .none, old], slots := #[] } := Heap.get?_push_of_some _ he₃
  have hT₄ : (h₃.push (tupA #[.int (k : Nat) tk, .ref U])).get? (U + 1) = some (tupA #[.int (k : Nat) tk, .ref U]) := by rw [← sz₃]; exact Heap.get?_push_size _ rfl
  have up₄ : ∀ c o, c ≠ n + 5 → h₁.get? c = some o → (h₃.push (tupA #[.int (k : Nat) tk, .ref U])).get? c = some o := fun c o c1 e => Heap.get?_push_of_some _ (up₁ c o c1 e)
  show wpAny _ _ (Builtin.SmallTypes.ownedTupleIsFree (.ref _) >>= _) _ _ ⟨_, g, d, tk + 1, os⟩
  rw [sz₃]
  show wpAny _ _ (Builtin.SmallTypes.ownedTupleIsFree (.ref _) >>= _) _ _ ⟨h₃.push (tupA #[.int (k : Nat) tk, .ref U]), g, d, tk + 1, os⟩
  generalize h₃.push (tupA #[.int (k : Nat) tk, .ref U]) = h₄ at *
  refine wpAny_bind ?_
  unfold Builtin.SmallTypes.ownedTupleIsFree
  refine wpAny_bind (wpAny_field he₄ rfl (x := .none) rfl (wpAny_pure ?_))
  simp only [if_true]
  refine wpAny_bind (wpAny_rule ?_)
  refine wpAny_bind (wpAny_field he₄ rfl (x := old) rfl ?_)
  refine wpAny_bind (wpAny_setField_rec he₄ (by simp) fun h₅ he₅ hs₅ => ?_)
  show wpAny _ _ (Builtin.SmallTypes.ownedTupleHandOut (.ref _) (.ref (U + 1)) >>= _) _ _ ⟨h₅, g, d, tk + 1, os⟩
  refine wpAny_bind ?_
  unfold Builtin.SmallTypes.ownedTupleHandOut
  refine wpAny_bind (wpAny_setField_rec he₅ (by simp) fun h₆ he₆ hs₆ => ?_)
  refine wpAny_setField_rec he₆ (by simp) fun h₇ he₇ hs₇ => ?_
  replace he₇ : h₇.get? (n + 5) = some { cls := .type "enumerate", dict := none, data := .fields #[rawInt ((U + 1 : Nat) : Int), .bool false, .ref (n + 4), rawInt ((k : Int) + 1), .none, .ref U], slots := #[] } := he₇
  have up₇ : ∀ c o, c ≠ n + 5 → h₄.get? c = some o → h₇.get? c = some o := fun c o c1 e => hs₇.extBut _ _ c1 (hs₆.extBut _ _ c1 (hs₅.extBut _ _ c1 e))
  have all₇ : ∀ c o, h₁.get? c = some o → ∃ o', h₇.get? c = some o' := fun c o e => by
    by_cases q : c = n + 5
    · rw [q]; exact ⟨_, he₇⟩
    · exact ⟨o, up₇ _ _ q (up₄ _ _ q e)⟩
  refine wpAny_bind (wpAny_letGo (wpAny_pure ⟨_, rfl, hQ h₇ (U + 1) ⟨u₁.keep (fun c o c1 c2 e => up₇ _ _ (ne_ (by omega)) (up₄ _ _ (ne_ (by omega)) e)) all₇, .ref U, ?_⟩ ⟨U, by show U ≤ U + 1; omega, Nat.le_refl _, ?_, ?_⟩ ?_⟩))
  · have : ((k + 1 : Nat) : Int) = (k : Int) + 1 := by push_cast; rfl
    rw [this]; exact he₇
  · exact up₇ _ _ (ne_ (by omega)) hT₄
  · exact up₇ _ _ (ne_ (by omega)) (up₄ _ _ (ne_ (by omega)) hU)
  · exact fun c o hc e => up₇ _ _ (ne_ (by omega)) (up₄ _ _ (ne_ (by omega)) (hk₁ _ _ (by omega) e))

theorem ez_next_end {n l1 l2 : Nat} {k : Nat} {xs ys : Array Value} {Q : Fin → Shared → Prop} (hh : A.handled = none) (D : Z2Off n 6 l1 l2) (hz : EZip s.heap n .none k l1 l2)
    (hl1 : s.heap.IsList l1 xs) (hl2 : s.heap.IsList l2 ys) (hend : xs[k]? = none ∨ ys[k]? = none)
    (hE : ∀ h' e, (∀ c o, (c < n ∨ n + 6 ≤ c) → s.heap.get? c = some o → h'.get? c = some o) → (∃ o, h'.get? e = some o ∧ o.cls = .type "StopIteration") → E (.ref e) { s with heap := h' }) :
    wpAny (model prog w) A (Builtin.«enumerate.__next__» ⟨[.ref (n + 5)], []⟩) Q E s := by
  obtain ⟨u, old, he⟩ := hz
  show wpAny _ _ (field (.ref _) 2 >>= _) _ _ _
  refine wpAny_bind (wpAny_field he rfl (x := .ref (n + 4)) rfl ?_)
  refine wpAny_bind ?_
  unfold Builtin.SmallTypes.nextOf
  refine wpAny_bind (wpAny_callSpecial?_slot (name := Str.ofString "__next__") u.typeIs F.slot_zip_next
    (wpAny_call_entry F.slot_zip_next u.typeIs F.entry_zip_next ?_ (F.args_zip_next_1 _)))
  exact zipU_next_end (sz := 6) hh (by omega) D u hl1 hl2 hend fun h' e a b => hE h' e (fun c o hc x => a c o (by omega) x) b

theorem pyNext_item {r : Addr} {T id : String} {b : Builtin} {Q : Option Value → Shared → Prop} (hT : s.TypeIs (.ref r) T) (hs : Slot T "__next__" id) (he : entryFor table id = some b) (ha : argsOk id { pos := [.ref r] })
    (h : ∀ E', wpAny (model prog w) A.in1 (b ⟨[.ref r], []⟩) (fun fin s' => ∃ v, fin = .done (.ret v) ∧ Q (some v) s') E' s) : wpAny (model prog w) A (pyNext (.ref r)) Q E s := by
  unfold pyNext
  exact wpAny_bind (wpAny_attempt (wpAny_callSpecial?_slot (name := Str.ofString "__next__") hT hs
    (wpAny_call_entry hs hT he (wpAny_mono (h _) (fun fin s' ⟨v, e, q⟩ => ⟨v, e, wpAny_pure q⟩) fun _ _ e => e) ha)))

theorem pyNext_end {r : Addr} {T id : String} {b : Builtin} {Q : Option Value → Shared → Prop} (hT : s.TypeIs (.ref r) T) (hs : Slot T "__next__" id) (he : entryFor table id = some b) (ha : argsOk id { pos := [.ref r] })
    (h : ∀ Q', wpAny (model prog w) A.in1 (b ⟨[.ref r], []⟩) Q' (fun e s' => (∃ a, e = .ref a ∧ ∃ o, s'.heap.get? a = some o ∧ o.cls = .type "StopIteration") ∧ Q none s') s) : wpAny (model prog w) A (pyNext (.ref r)) Q E s := by
  unfold pyNext
  refine wpAny_bind (wpAny_attempt (wpAny_callSpecial?_slot (name := Str.ofString "__next__") hT hs
    (wpAny_call_entry hs hT he (wpAny_mono (h _) (fun _ _ e => e) fun e s' hq => ?_) ha)))
  obtain ⟨⟨a, rfl, o, ho, hc⟩, q⟩ := hq
  refine wpAny_bind (wpAny_isInstance (T := "StopIteration") (b := true) ⟨o, ho, hc⟩ isSubtype_stop ?_)
  exact wpAny_pure q

theorem next_zip3_item {n l1 l2 l3 : Nat} {k : Nat} {xs ys zs : Array Value} {x y u : Value} {Q : Option Value → Shared → Prop} (D : Z3Off n l1 l2 l3) (hz : Zip3 s.heap n .none k l1 l2 l3)
    (hl1 : s.heap.IsList l1 xs) (hl2 : s.heap.IsList l2 ys) (hl3 : s.heap.IsList l3 zs) (hx : xs[k]? = some x) (hy : ys[k]? = some y) (hu : zs[k]? = some u)
    (hQ : ∀ h', Zip3 h' n (rawInt s.heap.objs.size) (k + 1) l1 l2 l3 → h'.get? s.heap.objs.size = some (tupA #[x, y, u]) →
      (∀ c o, (c < n ∨ n + 6 ≤ c) → s.heap.get? c = some o → h'.get? c = some o) → Q (some (.ref s.heap.objs.size)) { s with heap := h' }) :
    wpAny (model prog w) A (pyNext (.ref (n + 5))) Q E s :=
  pyNext_item (T := "zip") ⟨_, hz.z, rfl⟩ F.slot_zip_next F.entry_zip_next (F.args_zip_next_1 _) fun _ => zip3_next_item D hz hl1 hl2 hl3 hx hy hu hQ
theorem next_zip3_end {n l1 l2 l3 : Nat} {k : Nat} {xs ys zs : Array Value} {Q : Option Value → Shared → Prop} (hh : A.handled = none) (D : Z3Off n l1 l2 l3) (hz : Zip3 s.heap n .none k l1 l2 l3)
    (hl1 : s.heap.IsList l1 xs) (hl2 : s.heap.IsList l2 ys) (hl3 : s.heap.IsList l3 zs) (hend : xs[k]? = none ∨ ys[k]? = none ∨ zs[k]? = none)
    (hQ : ∀ h', (∀ c o, (c < n ∨ n + 6 ≤ c) → s.heap.get? c = some o → h'.get? c = some o) → Q none { s with heap := h' }) :
    wpAny (model prog w) A (pyNext (.ref (n + 5))) Q E s :=
  pyNext_end (T := "zip") ⟨_, hz.z, rfl⟩ F.slot_zip_next F.entry_zip_next (F.args_zip_next_1 _) fun _ => zip3_next_end hh D hz hl1 hl2 hl3 hend fun h' e a b => ⟨⟨e, rfl, b⟩, hQ h' a⟩

theorem next_ez_item {n l1 l2 : Nat} {k : Nat} {xs ys : Array Value} {x y : Value} {Q : Option Value → Shared → Prop} (D : Z2Off n 6 l1 l2) (hz : EZip s.heap n .none k l1 l2)
    (hl1 : s.heap.IsList l1 xs) (hl2 : s.heap.IsList l2 ys) (hx : xs[k]? = some x) (hy : ys[k]? = some y)
    (hQ : ∀ h' T, EZip h' n (rawInt (T : Nat)) (k + 1) l1 l2 → (∃ U, s.heap.objs.size ≤ T ∧ s.heap.objs.size ≤ U ∧ h'.get? T = some (tupA #[.int k s.toks, .ref U]) ∧ h'.get? U = some (tupA #[x, y])) →
      (∀ c o, (c < n ∨ n + 6 ≤ c) → s.heap.get? c = some o → h'.get? c = some o) → Q (some (.ref T)) { s with heap := h', toks := s.toks + 1 }) :
    wpAny (model prog w) A (pyNext (.ref (n + 5))) Q E s := by
  obtain ⟨old, e⟩ := hz.e
  exact pyNext_item (T := "enumerate") ⟨_, e, rfl⟩ F.slot_enumerate_next F.entry_enumerate_next (F.args_enumerate_next_1 _) fun _ => ez_next_item D hz hl1 hl2 hx hy hQ
theorem next_ez_end {n l1 l2 : Nat} {k : Nat} {xs ys : Array Value} {Q : Option Value → Shared → Prop} (hh : A.handled = none) (D : Z2Off n 6 l1 l2) (hz : EZip s.heap n .none k l1 l2)
    (hl1 : s.heap.IsList l1 xs) (hl2 : s.heap.IsList l2 ys) (hend : xs[k]? = none ∨ ys[k]? = none)
    (hQ : ∀ h', (∀ c o, (c < n ∨ n + 6 ≤ c) → s.heap.get? c = some o → h'.get? c = some o) → Q none { s with heap := h' }) :
    wpAny (model prog w) A (pyNext (.ref (n + 5))) Q E s := by
  obtain ⟨old, e⟩ := hz.e
  exact pyNext_end (T := "enumerate") ⟨_, e, rfl⟩ F.slot_enumerate_next F.entry_enumerate_next (F.args_enumerate_next_1 _) fun _ => ez_next_end hh D hz hl1 hl2 hend fun h' e a b => ⟨⟨e, rfl, b⟩, hQ h' a⟩

theorem go_zip3 {n l1 l2 l3 k : Nat} {T : Nat} {elts : List Expr} {x1} {pos : Pos} {Q : Unit → Shared → Prop} (hz : Zip3 s.heap n (rawInt (T : Nat)) k l1 l2 l3)
    (hQ : ∀ h', Zip3 h' n .none k l1 l2 l3 → Heap.SameBut (n + 5) s.heap h' → Q () { s with heap := h' }) :
    wpAny (model prog w) A (letOwnedTupleGo (.Tuple elts x1 pos) (.ref (n + 5)) (.ref T)) Q E s := by
  refine wpAny_letOwnedTupleGo_zip hz.z fun h' hz' hs' => hQ h' ⟨hz', hs'.extBut _ _ (ne_ (by omega)) hz.ti, ?_, hz.i1.extBut hs'.extBut (ne_ (by omega)), hz.i2.extBut hs'.extBut (ne_ (by omega)), hz.i3.extBut hs'.extBut (ne_ (by omega))⟩ hs'
  obtain ⟨a, b, c, e⟩ := hz.to
  exact ⟨a, b, c, hs'.extBut _ _ (ne_ (by omega)) e⟩
theorem go_ez {n l1 l2 k : Nat} {T : Nat} {elts : List Expr} {x1} {pos : Pos} {Q : Unit → Shared → Prop} (hz : EZip s.heap n (rawInt (T : Nat)) k l1 l2)
    (hQ : ∀ h', EZip h' n .none k l1 l2 → Heap.SameBut (n + 5) s.heap h' → Q () { s with heap := h' }) :
    wpAny (model prog w) A (letOwnedTupleGo (.Tuple elts x1 pos) (.ref (n + 5)) (.ref T)) Q E s := by
  obtain ⟨u, old, e⟩ := hz
  refine wpAny_letOwnedTupleGo_enum e fun h' he' hs' => hQ h' ⟨u.keep (fun c o _ c2 e => hs'.extBut _ _ (ne_ (by omega)) e) (fun c o x => ?_), _, he'⟩ hs'
  by_cases q : c = n + 5
  · rw [q]; exact ⟨_, he'⟩
  · exact ⟨_, hs'.extBut _ _ q x⟩

/-- a fresh zip of two lists at z -/
theorem meets_enumerate_zip (z TI TO : Addr) :
    Meets (Builtin.«enumerate.__new__» ⟨[.type "enumerate", .ref z], []⟩) (fun _ R s => IsZip s.heap z TI TO .none ∧
      R (.ok (.ret (.ref s.heap.objs.size)))
        { s with heap := s.heap.push { cls := .type "enumerate", data := .fields #[.none, .bool false, .ref z, rawInt 0, .none, .none] } }) :=
  .of_wp fun prog w A R s h => by
    obtain ⟨hp, g, d, tk, os⟩ := s; obtain ⟨hl, h⟩ := h
    have hsub := sub_enumerate
    have hL : IsZip (Shared.heap ⟨hp, g, d, tk, os⟩) z TI TO .none := hl
    wp_walk using AutoSeq1.wpAny_loadPart' hl
    refine wpAny_stack_any fun st => wpAny_pure ?_
    split
    · rename_i c _ _ _ _ _
      cases (c == Value.type "enumerate")
      · wp_walk using AutoSeq1.wpAny_loadPart' hl, wpAny_pyIter_zip hL
        exact ⟨_, rfl, h⟩
      · wp_walk using AutoSeq1.wpAny_loadPart' hl, wpAny_pyIter_zip hL
        exact ⟨_, rfl, h⟩
    · wp_walk using AutoSeq1.wpAny_loadPart' hl, wpAny_pyIter_zip hL
      exact ⟨_, rfl, h⟩

theorem call_ez {n l1 l2 : Nat} {Q : Value → Shared → Prop} (hn : s.heap.objs.size = n + 5) (hz : IsZip s.heap (n + 4) (n + 2) (n + 3) .none) (hTI : IsPair s.heap (n + 2) (.ref n) (.ref (n + 1))) (hTO : IsPair s.heap (n + 3) .none .none)
    (h1 : s.heap.IsListIter n l1 0) (h2 : s.heap.IsListIter (n + 1) l2 0)
    (h : ∀ h', EZip h' n .none 0 l1 l2 → (∀ c o, s.heap.get? c = some o → h'.get? c = some o) → Q (.ref (n + 5)) { s with heap := h' }) :
    wpAny (model prog w) A (call (.type "enumerate") [.ref (n + 4)]) Q E s := by
  refine callType_new F.called_enumerate (by decide) (F.typeCall_enumerate_1 _) (F.newCall_enumerate_1 _) (fun obj => F.args_object_init_2 obj _) F.entry_enumerate_new
    (meets_enumerate_zip (n + 4) (n + 2) (n + 3)) ⟨hz, ?_⟩
  have g : (s.heap.push { cls := .type "enumerate", data := .fields #[.none, .bool false, .ref (n + 4), rawInt 0, .none, .none] }).get? s.heap.objs.size = some _ := Heap.get?_push_size _ rfl
  have up : ∀ c o, s.heap.get? c = some o → (s.heap.push { cls := .type "enumerate", data := .fields #[.none, .bool false, .ref (n + 4), rawInt 0, .none, .none] }).get? c = some o := fun c o e => Heap.get?_push_of_some _ e
  show _ ∧ _
  rw [hn] at g
  rw [hn]
  exact ⟨⟨_, g, rfl⟩, h _ ⟨⟨.inl (up _ _ hz), up _ _ hTI, ⟨_, _, up _ _ hTO⟩, h1.at fun o e => up _ o e, h2.at fun o e => up _ o e⟩, _, g⟩ up⟩

theorem iter_zip3 {n l1 l2 l3 k : Nat} {Q : Value → Shared → Prop} (hz : Zip3 s.heap n .none k l1 l2 l3) (h : Q (.ref (n + 5)) s) : wpAny (model prog w) A (pyIter (.ref (n + 5))) Q E s :=
  wpAny_pyIter_zip hz.z h
theorem iter_ez {n l1 l2 k : Nat} {Q : Value → Shared → Prop} (hz : EZip s.heap n .none k l1 l2) (h : Q (.ref (n + 5)) s) : wpAny (model prog w) A (pyIter (.ref (n + 5))) Q E s := by
  obtain ⟨_, e⟩ := hz.e; exact wpAny_pyIter_enum e h
end
end Mine

end

section
open PySem PySem.Spec PySem.Calls PyProof.Rows PySem.MeetsSeq
set_option autoImplicit false
namespace Mine

def fpz : Src → Nat
  | .L _ => 1 | .R _ => 1 | .Z2 _ _ => 5 | .Z3 _ _ _ => 6 | .EZ _ _ => 6
def itv : Src → Nat → Nat
  | .L _, n => n | .R _, n => n | .Z2 _ _, n => n + 4 | .Z3 _ _ _, n => n + 5 | .EZ _ _, n => n + 5
def Fp (src : Src) (n : Nat) : Addr → Prop := fun (b : Nat) => n ≤ b ∧ b < n + fpz src

theorem off_fp {src : Src} {n l : Nat} (h : ¬ Fp src n l) {z : Nat} (hz : fpz src = z) : l < n ∨ n + z ≤ l := by
  subst hz
  by_cases q : l < n
  · exact .inl q
  · exact .inr (Nat.le_of_not_lt fun q2 => h ⟨Nat.le_of_not_lt q, q2⟩)
theorem on_fp {src : Src} {n l : Nat} {z : Nat} (hz : fpz src = z) (h1 : n ≤ l) (h2 : l < n + z) : Fp src n l := by subst hz; exact ⟨h1, h2⟩
theorem off_ne {src : Src} {n l j : Nat} (h : ¬ Fp src n l) {z : Nat} (hz : fpz src = z) (h1 : n ≤ j) (h2 : j < n + z) : l ≠ j := by
  have := off_fp h hz; omega

def isL : AV → Prop
  | .lst _ => True
  | .ref _ => True
  | _ => False

def ItR (P : Par) (α : List Addr) (N : Addr → Prop) (h : Heap) (n k : Nat) : Src → Prop
  | .L v => isL v ∧ ∃ l : Addr, VR P α N h v (.ref l) ∧ h.IsListIter n l k
  | .R m => k ≤ m ∧ IsRangeIter h n ((k : Nat) : Int) ((m : Int) - (k : Nat)) 1
  | .Z2 u v => isL u ∧ isL v ∧ ∃ l1 l2 : Addr, VR P α N h u (.ref l1) ∧ VR P α N h v (.ref l2) ∧ IsZip h (n + 4) (n + 2) (n + 3) .none ∧ IsPair h (n + 2) (.ref n) (.ref (n + 1)) ∧ (∃ a b, IsPair h (n + 3) a b) ∧ h.IsListIter n l1 k ∧ h.IsListIter (n + 1) l2 k
  | .Z3 u v w => isL u ∧ isL v ∧ isL w ∧ ∃ l1 l2 l3 : Addr, VR P α N h u (.ref l1) ∧ VR P α N h v (.ref l2) ∧ VR P α N h w (.ref l3) ∧ Zip3 h n .none k l1 l2 l3
  | .EZ u v => isL u ∧ isL v ∧ ∃ l1 l2 : Addr, VR P α N h u (.ref l1) ∧ VR P α N h v (.ref l2) ∧ EZip h n .none k l1 l2

section
variable {P : Par} {α α' : List Addr} {N N' X : Addr → Prop} {ah ah' : AH} {env : Env} {ρ ρ' : AE} {s s' : Shared} {A : Around} {E : Value → Shared → Prop} {v : AV} {c : Value}

theorem listAt {l : Addr} (hv : isL v) (r : VR P α N s.heap v (.ref l)) (H : HR P α N ah s.heap) : ∃ xs vs n, items ah v = some xs ∧ s.heap.get? l = some (lstO vs n) ∧ VRs P α N s.heap xs vs ∧ ¬ N l := by
  cases r with
  | lst g _ hn r => exact ⟨_, _, _, rfl, g, r, hn⟩
  | ref h0 e =>
    rename_i r
    have hr : r < ah.length := H.len ▸ (List.getElem?_eq_some_iff.mp e).1
    obtain ⟨b, us, m, e1, e2, e3⟩ := H.obj r _ h0 (List.getElem?_eq_getElem hr)
    rw [e] at e1; cases e1
    exact ⟨_, us, m, List.getElem?_eq_getElem hr, e2, e3, H.off _ (List.mem_of_getElem? e)⟩
  | _ => exact hv.elim

theorem iterLive {h : Heap} {n l : Addr} {k : Nat} (i : h.IsListIter n l k) : ∃ o, h.get? n = some o := by obtain ⟨o, e, _⟩ := i; exact ⟨o, e⟩

theorem ItR.live {h : Heap} {n k : Nat} {src : Src} (I : ItR P α N h n k src) : ∀ b : Nat, Fp src n b → ∃ o, h.get? b = some o := by
  intro b ⟨h1, h2⟩
  cases src with
  | L v =>
    obtain ⟨_, l, _, i⟩ := I
    have : b = n := by simp only [fpz] at h2; omega
    subst this; exact iterLive i
  | R m =>
    have : b = n := by simp only [fpz] at h2; omega
    subst this; exact ⟨_, I.2⟩
  | Z2 u v =>
    obtain ⟨_, _, l1, l2, _, _, hz, hTI, ⟨_, _, hTO⟩, i1, i2⟩ := I
    have : b = n ∨ b = n + 1 ∨ b = n + 2 ∨ b = n + 3 ∨ b = n + 4 := by simp only [fpz] at h2; omega
    rcases this with q | q | q | q | q <;> subst q
    · exact iterLive i1
    · exact iterLive i2
    · exact ⟨_, hTI⟩
    · exact ⟨_, hTO⟩
    · exact ⟨_, hz⟩
  | Z3 u v w =>
    obtain ⟨_, _, _, l1, l2, l3, _, _, _, Z⟩ := I
    have : b = n ∨ b = n + 1 ∨ b = n + 2 ∨ b = n + 3 ∨ b = n + 4 ∨ b = n + 5 := by simp only [fpz] at h2; omega
    rcases this with q | q | q | q | q | q <;> subst q
    · exact iterLive Z.i1
    · exact iterLive Z.i2
    · exact iterLive Z.i3
    · exact ⟨_, Z.ti⟩
    · obtain ⟨_, _, _, e⟩ := Z.to; exact ⟨_, e⟩
    · exact ⟨_, Z.z⟩
  | EZ u v =>
    obtain ⟨_, _, l1, l2, _, _, Z⟩ := I
    have : b = n ∨ b = n + 1 ∨ b = n + 2 ∨ b = n + 3 ∨ b = n + 4 ∨ b = n + 5 := by simp only [fpz] at h2; omega
    rcases this with q | q | q | q | q | q <;> subst q
    · exact iterLive Z.u.i1
    · exact iterLive Z.u.i2
    · exact ⟨_, Z.u.ti⟩
    · obtain ⟨_, _, e⟩ := Z.u.to; exact ⟨_, e⟩
    · rcases Z.u.z with e | ⟨_, _, _, e⟩ <;> exact ⟨_, e⟩
    · obtain ⟨_, e⟩ := Z.e; exact ⟨_, e⟩

/-- an iterator stands where nothing touches it -/
theorem ItR.map {h h' : Heap} {n k : Nat} {src : Src} (I : ItR P α N h n k src) (hv : ∀ {v c}, VR P α N h v c → VR P α' N' h' v c) (hk : ∀ b o, Fp src n b → h.get? b = some o → h'.get? b = some o) (hl : ∀ b o, h.get? b = some o → ∃ o', h'.get? b = some o') :
    ItR P α' N' h' n k src := by
  have f : ∀ j, j < fpz src → ∀ o, h.get? (n + j) = some o → h'.get? (n + j) = some o := fun j hj o e => hk _ _ ⟨Nat.le_add_right .., Nat.add_lt_add_left hj n⟩ e
  have f0 : 0 < fpz src → ∀ o, h.get? n = some o → h'.get? n = some o := fun hj o e => f 0 hj o e
  cases src with
  | L v =>
    obtain ⟨q, l, r, i⟩ := I
    exact ⟨q, l, hv r, i.at fun o e => f0 (by simp [fpz]) o e⟩
  | R m => exact ⟨I.1, f0 (by simp [fpz]) _ I.2⟩
  | Z2 u v =>
    obtain ⟨q1, q2, l1, l2, r1, r2, hz, hTI, ⟨a, b, hTO⟩, i1, i2⟩ := I
    exact ⟨q1, q2, l1, l2, hv r1, hv r2, f 4 (by simp [fpz]) _ hz, f 2 (by simp [fpz]) _ hTI, ⟨a, b, f 3 (by simp [fpz]) _ hTO⟩, i1.at fun o e => f0 (by simp [fpz]) o e, i2.at fun o e => f 1 (by simp [fpz]) o e⟩
  | Z3 u v w =>
    obtain ⟨q1, q2, q3, l1, l2, l3, r1, r2, r3, Z⟩ := I
    obtain ⟨a, b, c, e⟩ := Z.to
    exact ⟨q1, q2, q3, l1, l2, l3, hv r1, hv r2, hv r3, ⟨f 5 (by simp [fpz]) _ Z.z, f 3 (by simp [fpz]) _ Z.ti, ⟨a, b, c, f 4 (by simp [fpz]) _ e⟩, Z.i1.at fun o e => f0 (by simp [fpz]) o e, Z.i2.at fun o e => f 1 (by simp [fpz]) o e, Z.i3.at fun o e => f 2 (by simp [fpz]) o e⟩⟩
  | EZ u v =>
    obtain ⟨q1, q2, l1, l2, r1, r2, Z⟩ := I
    obtain ⟨old, e⟩ := Z.e
    refine ⟨q1, q2, l1, l2, hv r1, hv r2, ⟨Z.u.keep (fun c o c1 c2 e => hk _ _ ⟨c1, by simp only [fpz]; omega⟩ e) hl, old, f 5 (by simp [fpz]) _ e⟩⟩

def okTg : Src → TG → Bool
  | .L _, _ => true
  | .R _, .var _ => true
  | .Z2 _ _, .t2 _ _ => true
  | .Z2 _ _, .t3 _ _ _ => true
  | .Z3 _ _ _, .t2 _ _ => true
  | .Z3 _ _ _, .t3 _ _ _ => true
  | .EZ _ _, .t2 _ _ => true
  | _, _ => false

theorem go_name {x : Str} {px : Pos} {it v : Value} : letOwnedTupleGo (.Name x px) it v = pure () := rfl

theorem lsAt_some {k : Nat} {l : Addr} (hv : isL v) (r : VR P α N s.heap v (.ref l)) (H : HR P α N ah s.heap) {w : AV} (e : lsAt ah v k = some w) :
    ∃ vs c n, s.heap.get? l = some (lstO vs n) ∧ vs[k]? = some c ∧ VR P α N s.heap w c ∧ ¬ N l := by
  obtain ⟨xs, vs, n, e1, g, rs, hn⟩ := listAt hv r H
  simp only [lsAt, e1, Option.bind_some] at e
  obtain ⟨c, hc, rc⟩ := rs.get e
  exact ⟨vs, c, n, g, hc, rc, hn⟩
theorem lsAt_none {k : Nat} {l : Addr} (hv : isL v) (r : VR P α N s.heap v (.ref l)) (H : HR P α N ah s.heap) :
    ∃ vs n, s.heap.get? l = some (lstO vs n) ∧ (lsAt ah v k = none → vs[k]? = none) ∧ ¬ N l := by
  obtain ⟨xs, vs, n, e1, g, rs, hn⟩ := listAt hv r H
  refine ⟨vs, n, g, fun e => ?_, hn⟩
  simp only [lsAt, e1, Option.bind_some] at e
  exact rs.getNone e

/-- a step that touches an iterator's own objects alone -/
theorem stp_fp {src : Src} {n : Nat} {h' : Heap} {tk : Nat} (hk : ∀ b o, ¬ Fp src n b → s.heap.get? b = some o → h'.get? b = some o) (hl : ∀ b, Fp src n b → ∃ o, h'.get? b = some o) : Stp (Fp src n) α s α { s with heap := h', toks := tk } :=
  ⟨.refl, ⟨fun b o _ hx e => hk b o hx e, fun b o e => by
    by_cases q : Fp src n b
    · exact hl b q
    · exact ⟨o, hk b o q e⟩⟩, rfl, id⟩

abbrev NextPost (P : Par) (α : List Addr) (N : Addr → Prop) (ah : AH) (s : Shared) (src : Src) (n k : Nat) (v : AV) (Q : Value → Shared → Prop) : Prop :=
  ∀ c h' tk, Stp (Fp src n) α s α { s with heap := h', toks := tk } → HR P α N ah h' → VR P α N h' v c → ItR P α N h' n (k + 1) src → Q c { s with heap := h', toks := tk }

theorem next_end {src : Src} {n k : Nat} (hh : A.handled = none) (I : ItR P α N s.heap n k src) (H : HR P α N ah s.heap) (hN : ∀ b, Fp src n b → N b) (e : srcGet ah k src = none) {Q : Option Value → Shared → Prop}
    (hq : ∀ h' tk, (∀ b o, ¬ Fp src n b → s.heap.get? b = some o → h'.get? b = some o) → Q none { s with heap := h', toks := tk }) :
    wpAny (model P.prog P.w) A (pyNext (.ref (itv src n))) Q E s := by
  cases src with
  | L v =>
    show wpAny _ _ (pyNext (.ref n)) _ _ _
    obtain ⟨q, l, r, i⟩ := I
    obtain ⟨vs, m, g, hx, hn⟩ := lsAt_none (k := k) q r H
    refine wpAny_pyNext_list_end hh i (isList_of g) (by simpa using hx e) fun h' he' => hq h' s.toks fun b o hb e => he' b o (off_ne hb (z := 1) rfl (by omega) (by omega)) e
  | R m =>
    show wpAny _ _ (pyNext (.ref n)) _ _ _
    obtain ⟨hkm, I⟩ := I
    have hm : ¬ k < m := fun x => by simp [srcGet, x] at e
    exact wpAny_pyNext_range_end hh I (by omega) fun h' he' => hq h' s.toks fun b o hb e => he' b o (off_ne hb (z := 1) rfl (by omega) (by omega)) e
  | Z2 u v =>
    show wpAny _ _ (pyNext (.ref (n + 4))) _ _ _
    obtain ⟨q1, q2, l1, l2, r1, r2, hz, hTI, ⟨a, b, hTO⟩, i1, i2⟩ := I
    obtain ⟨vs, m, g1, hx, hn1⟩ := lsAt_none (k := k) q1 r1 H
    obtain ⟨ws, m', g2, hy, hn2⟩ := lsAt_none (k := k) q2 r2 H
    have D : Z2Off n 5 l1 l2 := ⟨off_fp (fun q => hn1 (hN _ q)) rfl, off_fp (fun q => hn2 (hN _ q)) rfl⟩
    refine wpAny_pyNext_zip_end hh (D.apart (by omega)) hz hTI hTO i1 i2 (isList_of g1) (isList_of g2) ?_ fun h' hk => hq h' s.toks fun b o hb e => hk b o (off_ne hb (z := 5) rfl (by omega) (by omega)) (off_ne hb (z := 5) rfl (by omega) (by omega)) (off_ne hb (z := 5) rfl (by omega) (by omega)) (off_ne hb (z := 5) rfl (by omega) (by omega)) e
    simp only [srcGet] at e
    cases e1 : lsAt ah u k with
    | none => exact .inl (by simpa using hx e1)
    | some _ => cases e2 : lsAt ah v k with
      | none => exact .inr (by simpa using hy e2)
      | some _ => simp [e1, e2] at e
  | Z3 u v w =>
    show wpAny _ _ (pyNext (.ref (n + 5))) _ _ _
    obtain ⟨q1, q2, q3, l1, l2, l3, r1, r2, r3, Z⟩ := I
    obtain ⟨vs, m, g1, hx, hn1⟩ := lsAt_none (k := k) q1 r1 H
    obtain ⟨ws, m', g2, hy, hn2⟩ := lsAt_none (k := k) q2 r2 H
    obtain ⟨us, m'', g3, hu, hn3⟩ := lsAt_none (k := k) q3 r3 H
    have D : Z3Off n l1 l2 l3 := ⟨off_fp (fun q => hn1 (hN _ q)) rfl, off_fp (fun q => hn2 (hN _ q)) rfl, off_fp (fun q => hn3 (hN _ q)) rfl⟩
    refine next_zip3_end hh D Z (isList_of g1) (isList_of g2) (isList_of g3) ?_ fun h' hk => hq h' s.toks fun b o hb e => hk b o (off_fp hb rfl) e
    simp only [srcGet] at e
    cases e1 : lsAt ah u k with
    | none => exact .inl (by simpa using hx e1)
    | some _ => cases e2 : lsAt ah v k with
      | none => exact .inr (.inl (by simpa using hy e2))
      | some _ => cases e3 : lsAt ah w k with
        | none => exact .inr (.inr (by simpa using hu e3))
        | some _ => simp [e1, e2, e3] at e
  | EZ u v =>
    show wpAny _ _ (pyNext (.ref (n + 5))) _ _ _
    obtain ⟨q1, q2, l1, l2, r1, r2, Z⟩ := I
    obtain ⟨vs, m, g1, hx, hn1⟩ := lsAt_none (k := k) q1 r1 H
    obtain ⟨ws, m', g2, hy, hn2⟩ := lsAt_none (k := k) q2 r2 H
    have D : Z2Off n 6 l1 l2 := ⟨off_fp (fun q => hn1 (hN _ q)) rfl, off_fp (fun q => hn2 (hN _ q)) rfl⟩
    refine next_ez_end hh D Z (isList_of g1) (isList_of g2) ?_ fun h' hk => hq h' s.toks fun b o hb e => hk b o (off_fp hb rfl) e
    simp only [srcGet] at e
    cases e1 : lsAt ah u k with
    | none => exact .inl (by simpa using hx e1)
    | some _ => cases e2 : lsAt ah v k with
      | none => exact .inr (by simpa using hy e2)
      | some _ => simp [e1, e2] at e

theorem next_item {src : Src} {n k : Nat} {tg : TG} {ok : Nat → Str → Bool} {target : Expr} (ht : chkTg ok tg target = true) (hk : okTg src tg = true) (ne : ∀ b, N b → ∃ o, s.heap.get? b = some o)
    (I : ItR P α N s.heap n k src) (H : HR P α N ah s.heap) (hN : ∀ b, Fp src n b → N b) (e : srcGet ah k src = some v) {Q : Value → Shared → Prop} {E' : Value → Shared → Prop} (hq : NextPost P α N ah s src n k v Q) :
    wpAny (model P.prog P.w) A (pyNext (.ref (itv src n))) (fun r s₁ => ∃ c, r = some c ∧ wpAny (model P.prog P.w) A (letOwnedTupleGo target (.ref (itv src n)) c) (fun _ s₂ => Q c s₂) E' s₁) E s := by
  have fin : ∀ c h' tk, (∀ b o, ¬ Fp src n b → s.heap.get? b = some o → h'.get? b = some o) → VR P α N h' v c → ((∀ {v c}, VR P α N s.heap v c → VR P α N h' v c) → ItR P α N h' n (k + 1) src) → Q c { s with heap := h', toks := tk } := by
    intro c h' tk hkp r I'
    have I'' := I' fun r => r.map .refl (fun _ q => .inl q) fun b o _ hb e => hkp b o (fun q => hb (hN b q)) e
    exact hq c h' tk (stp_fp hkp fun b q => I''.live b q) (H.offN fun b o hb e => hkp b o (fun q => hb (hN b q)) e) r I''
  have fresh : ∀ {h' : Heap} {vs : List Value} {xs : List AV} {T : Nat}, (∀ b o, ¬ Fp src n b → s.heap.get? b = some o → h'.get? b = some o) → s.heap.objs.size ≤ T → h'.get? T = some (tupO vs 0) → VRs P α N h' xs vs → VR P α N h' (.tup xs) (.ref T) := by
    intro h' vs xs T hkp hT g rs
    have hf : s.heap.get? T = none := by
      cases e : s.heap.get? T with
      | none => rfl
      | some o => exact absurd (Heap.lt_size e) (Nat.not_lt.mpr hT)
    exact .tup g (H.notin hf) (fun q => by obtain ⟨o, e⟩ := ne T q; rw [hf] at e; cases e) rs
  have vmap : ∀ {h' : Heap}, (∀ b o, ¬ Fp src n b → s.heap.get? b = some o → h'.get? b = some o) → ∀ {v c}, VR P α N s.heap v c → VR P α N h' v c :=
    fun hkp _ _ r => r.map .refl (fun _ q => .inl q) fun b o _ hb e => hkp b o (fun q => hb (hN b q)) e
  cases src with
  | L u =>
    show wpAny _ _ (pyNext (.ref n)) _ _ _
    obtain ⟨q, l, r, i⟩ := I
    obtain ⟨vs, c, m, g, hc, rc, hn⟩ := lsAt_some q r H e
    refine wpAny_pyNext_list_item i (isList_of g) (x := c) (by simpa using hc) fun h' hit' hs' => ⟨c, rfl, ?_⟩
    have hkp : ∀ b o, ¬ Fp (.L u) n b → s.heap.get? b = some o → h'.get? b = some o := fun b o hb e => hs'.extBut b o (off_ne hb (j := n) (z := 1) rfl (by omega) (by omega)) e
    have done := fin c h' s.toks hkp (vmap hkp rc) fun vm => ⟨q, l, vm r, hit'⟩
    cases tg with
    | var x =>
      unfold chkTg at ht
      split at ht
      · rw [go_name]; exact wpAny_pure done
      · cases ht
    | t2 a b =>
      unfold chkTg at ht
      split at ht
      · cases c with
        | ref T => exact wpAny_letOwnedTupleGo_listiter hit' done
        | _ => exact wpAny_pure done
      · cases ht
    | t3 a b d =>
      unfold chkTg at ht
      split at ht
      · cases c with
        | ref T => exact wpAny_letOwnedTupleGo_listiter hit' done
        | _ => exact wpAny_pure done
      · cases ht
  | R m =>
    show wpAny _ _ (pyNext (.ref n)) _ _ _
    obtain ⟨hkm, I⟩ := I
    simp only [srcGet] at e
    split at e
    · rename_i hlt
      cases e
      refine wpAny_pyNext_range_item I (by omega) fun h' hit' hs' => ⟨_, rfl, ?_⟩
      have hkp : ∀ b o, ¬ Fp (.R m) n b → s.heap.get? b = some o → h'.get? b = some o := fun b o hb e => hs'.extBut b o (off_ne hb (j := n) (z := 1) rfl (by omega) (by omega)) e
      cases tg with
      | var x =>
        unfold chkTg at ht
        split at ht
        · rw [go_name]
          refine wpAny_pure (fin _ h' _ hkp (.int _ _) fun _ => ⟨by omega, ?_⟩)
          have e1 : ((k + 1 : Nat) : Int) = (k : Int) + 1 := by push_cast; rfl
          have e2 : (m : Int) - ((k + 1 : Nat) : Int) = (m : Int) - (k : Int) - 1 := by push_cast; omega
          rw [e2, e1]; exact hit'
        · cases ht
      | t2 a b => cases hk
      | t3 a b d => cases hk
    · cases e
  | Z2 u v =>
    show wpAny _ _ (pyNext (.ref (n + 4))) _ _ _
    obtain ⟨q1, q2, l1, l2, r1, r2, hz, hTI, ⟨a, b, hTO⟩, i1, i2⟩ := I
    simp only [srcGet] at e
    split at e
    · rename_i x y e1 e2
      cases e
      obtain ⟨vs, c1, m, g1, hx, rx, hn1⟩ := lsAt_some q1 r1 H e1
      obtain ⟨ws, c2, m', g2, hy, ry, hn2⟩ := lsAt_some q2 r2 H e2
      have D : Z2Off n 5 l1 l2 := ⟨off_fp (fun q => hn1 (hN _ q)) rfl, off_fp (fun q => hn2 (hN _ q)) rfl⟩
      refine wpAny_pyNext_zip_item (D.apart (by omega)) hz hTI hTO i1 i2 (isList_of g1) (isList_of g2) (x := c1) (y := c2) (by simpa using hx) (by simpa using hy) fun h' a1 a2 a3 a4 a5 a6 a7 => ⟨_, rfl, ?_⟩
      have hkp : ∀ b o, ¬ Fp (.Z2 u v) n b → s.heap.get? b = some o → h'.get? b = some o := fun b o hb e => a7 b o (off_ne hb (z := 5) rfl (by omega) (by omega)) (off_ne hb (z := 5) rfl (by omega) (by omega)) (off_ne hb (j := n) (z := 5) rfl (by omega) (by omega)) (off_ne hb (z := 5) rfl (by omega) (by omega)) e
      have hTI' : IsPair h' (n + 2) (.ref n) (.ref (n + 1)) := a7 _ _ (ne_ (by omega)) (ne_ (by omega)) (ne_ (by omega)) (ne_ (by omega)) hTI
      have zlt : n + 4 < s.heap.objs.size := Heap.lt_size hz
      have after : ∀ h'', IsZip h'' (n + 4) (n + 2) (n + 3) .none → Heap.SameBut (n + 4) h' h'' → Q (.ref s.heap.objs.size) { s with heap := h'' } := fun h'' hz' hs' => by
        have hkp' : ∀ b o, ¬ Fp (.Z2 u v) n b → s.heap.get? b = some o → h''.get? b = some o := fun b o hb e => hs'.extBut b o (off_ne hb (j := n + 4) (z := 5) rfl (by omega) (by omega)) (hkp b o hb e)
        refine fin _ h'' s.toks hkp' (fresh hkp' (Nat.le_refl _) (hs'.extBut _ _ (Nat.ne_of_gt zlt) a5) (.cons (vmap hkp' rx) (.cons (vmap hkp' ry) .nil))) fun vm => ⟨q1, q2, l1, l2, vm r1, vm r2, hz', hs'.extBut _ _ (ne_ (by omega)) hTI', ⟨_, _, hs'.extBut _ _ (ne_ (by omega)) a2⟩, a3.extBut hs'.extBut (ne_ (by omega)), a4.extBut hs'.extBut (ne_ (by omega))⟩
      cases tg with
      | var x => cases hk
      | t2 a b =>
        unfold chkTg at ht
        split at ht
        · exact wpAny_letOwnedTupleGo_zip a1 after
        · cases ht
      | t3 a b d =>
        unfold chkTg at ht
        split at ht
        · exact wpAny_letOwnedTupleGo_zip a1 after
        · cases ht
    · cases e
  | Z3 u v w =>
    show wpAny _ _ (pyNext (.ref (n + 5))) _ _ _
    obtain ⟨q1, q2, q3, l1, l2, l3, r1, r2, r3, Z⟩ := I
    simp only [srcGet] at e
    split at e
    · rename_i x y z e1 e2 e3
      cases e
      obtain ⟨vs, c1, m, g1, hx, rx, hn1⟩ := lsAt_some q1 r1 H e1
      obtain ⟨ws, c2, m', g2, hy, ry, hn2⟩ := lsAt_some q2 r2 H e2
      obtain ⟨us, c3, m'', g3, hu, ru, hn3⟩ := lsAt_some q3 r3 H e3
      have D : Z3Off n l1 l2 l3 := ⟨off_fp (fun q => hn1 (hN _ q)) rfl, off_fp (fun q => hn2 (hN _ q)) rfl, off_fp (fun q => hn3 (hN _ q)) rfl⟩
      have zlt : n + 5 < s.heap.objs.size := Heap.lt_size Z.z
      refine next_zip3_item D Z (isList_of g1) (isList_of g2) (isList_of g3) (x := c1) (y := c2) (u := c3) (by simpa using hx) (by simpa using hy) (by simpa using hu) fun h' a1 a2 a3 => ⟨_, rfl, ?_⟩
      have hkp : ∀ b o, ¬ Fp (.Z3 u v w) n b → s.heap.get? b = some o → h'.get? b = some o := fun b o hb e => a3 b o (off_fp hb rfl) e
      have after : ∀ h'', Zip3 h'' n .none (k + 1) l1 l2 l3 → Heap.SameBut (n + 5) h' h'' → Q (.ref s.heap.objs.size) { s with heap := h'' } := fun h'' hz' hs' => by
        have hkp' : ∀ b o, ¬ Fp (.Z3 u v w) n b → s.heap.get? b = some o → h''.get? b = some o := fun b o hb e => hs'.extBut b o (off_ne hb (j := n + 5) (z := 6) rfl (by omega) (by omega)) (hkp b o hb e)
        exact fin _ h'' s.toks hkp' (fresh hkp' (Nat.le_refl _) (hs'.extBut _ _ (Nat.ne_of_gt zlt) a2) (.cons (vmap hkp' rx) (.cons (vmap hkp' ry) (.cons (vmap hkp' ru) .nil)))) fun vm => ⟨q1, q2, q3, l1, l2, l3, vm r1, vm r2, vm r3, hz'⟩
      cases tg with
      | var x => cases hk
      | t2 a b =>
        unfold chkTg at ht
        split at ht
        · exact go_zip3 a1 after
        · cases ht
      | t3 a b d =>
        unfold chkTg at ht
        split at ht
        · exact go_zip3 a1 after
        · cases ht
    · cases e
  | EZ u v =>
    show wpAny _ _ (pyNext (.ref (n + 5))) _ _ _
    obtain ⟨q1, q2, l1, l2, r1, r2, Z⟩ := I
    simp only [srcGet] at e
    split at e
    · rename_i x y e1 e2
      cases e
      obtain ⟨vs, c1, m, g1, hx, rx, hn1⟩ := lsAt_some q1 r1 H e1
      obtain ⟨ws, c2, m', g2, hy, ry, hn2⟩ := lsAt_some q2 r2 H e2
      have D : Z2Off n 6 l1 l2 := ⟨off_fp (fun q => hn1 (hN _ q)) rfl, off_fp (fun q => hn2 (hN _ q)) rfl⟩
      have zlt : n + 5 < s.heap.objs.size := by obtain ⟨_, e⟩ := Z.e; exact Heap.lt_size e
      refine next_ez_item D Z (isList_of g1) (isList_of g2) (x := c1) (y := c2) (by simpa using hx) (by simpa using hy) fun h' T a1 a2 a3 => ⟨_, rfl, ?_⟩
      obtain ⟨U, t1, t2, t3, t4⟩ := a2
      have hkp : ∀ b o, ¬ Fp (.EZ u v) n b → s.heap.get? b = some o → h'.get? b = some o := fun b o hb e => a3 b o (off_fp hb rfl) e
      have after : ∀ h'', EZip h'' n .none (k + 1) l1 l2 → Heap.SameBut (n + 5) h' h'' → Q (.ref T) { s with heap := h'', toks := s.toks + 1 } := fun h'' hz' hs' => by
        have hkp' : ∀ b o, ¬ Fp (.EZ u v) n b → s.heap.get? b = some o → h''.get? b = some o := fun b o hb e => hs'.extBut b o (off_ne hb (j := n + 5) (z := 6) rfl (by omega) (by omega)) (hkp b o hb e)
        have rU : VR P α N h'' (.tup [x, y]) (.ref U) := fresh hkp' t2 (hs'.extBut _ _ (ne_ (by omega)) t4) (.cons (vmap hkp' rx) (.cons (vmap hkp' ry) .nil))
        exact fin _ h'' _ hkp' (fresh hkp' t1 (hs'.extBut _ _ (ne_ (by omega)) t3) (.cons (.int _ _) (.cons rU .nil))) fun vm => ⟨q1, q2, l1, l2, vm r1, vm r2, hz'⟩
      cases tg with
      | var x => cases hk
      | t2 a b =>
        unfold chkTg at ht
        split at ht
        · exact go_ez a1 after
        · cases ht
      | t3 a b d => cases hk
    · cases e
end
end Mine

end

section
open PySem PySem.Spec PySem.Calls PyProof.Rows PySem.MeetsSeq PySem.W
set_option autoImplicit false
namespace Mine

/-- the state of the world, with no frame in sight -/
structure WS (P : Par) (α : List Addr) (N : Addr → Prop) (ah : AH) (s : Shared) : Prop where
  hr : HR P α N ah s.heap
  ne : ∀ b, N b → ∃ o, s.heap.get? b = some o
  bk : ∀ b o, P.h₀.get? b = some o → s.heap.get? b = some o
  bn : ∀ b o, P.h₀.get? b = some o → N b

theorem ST.ws {P : Par} {α : List Addr} {N : Addr → Prop} {ah : AH} {env : Env} {ρ : AE} {s : Shared} (S : ST P α N ah env ρ s) : WS P α N ah s := ⟨S.hr, S.ne, S.bk, S.bn⟩

def Callee (P : Par) (h : Heap) (f : Value) : Prop := ∃ k, (k = Keeper.frame ∨ k = Keeper.machine) ∧ Looks (model P.prog P.w) h (keeperOf f) k
theorem Callee.keeps {P : Par} {h h' : Heap} {f : Value} (x : Callee P h f) (k : ∀ b o, h.get? b = some o → h'.get? b = some o) : Callee P h' f := let ⟨q, a, b⟩ := x; ⟨q, a, b.keeps k⟩
theorem Callee.builtin {P : Par} {h : Heap} {id : String} : Callee P h (.builtin id) := ⟨_, .inr rfl, .of_pure rfl⟩
theorem Callee.type {P : Par} {h : Heap} {T : String} : Callee P h (.type T) := ⟨_, .inr rfl, .of_pure rfl⟩
theorem Callee.func {P : Par} {h : Heap} {a : Addr} {o : Obj} {fd : FuncData} (g : h.get? a = some o) (hd : o.data = .func fd) : Callee P h (.ref a) := by
  refine ⟨.frame, .inl rfl, fun A Q E s k q => ?_⟩
  unfold keeperOf
  refine wpAny_bind (wpAny_load (k _ _ g) ?_)
  rw [hd]; exact wpAny_pure q
theorem Callee.app {P : Par} {h : Heap} {a l : Addr} (g : h.get? a = some (appO l)) : Callee P h (.ref a) := by
  refine ⟨.machine, .inr rfl, fun A Q E s k q => ?_⟩
  unfold keeperOf
  refine wpAny_bind (wpAny_load (k _ _ g) ?_)
  exact wpAny_pure q

/-- what the program's text and its first heap give -/
structure Top (P : Par) (fns : Nat → Option Fn) : Prop where
  glob : P.h₀.Ns mainGlobals P.mg
  bui : P.h₀.Ns builtinsNs P.mb
  nolim : P.h₀.NoLimit
  fn : ∀ g f, fns g = some f → P.mg (gname g) = some (.ref (P.gv g)) ∧ ∃ o fd body, P.h₀.get? (P.gv g) = some o ∧ o.data = .func fd ∧ P.h₀.CodeRec fd.code fd.qualname ∧ fd.body = .stmts body ∧ fd.closure = [] ∧
    fd.globals = mainGlobals ∧ fd.builtins = builtinsNs ∧ fd.scope.isCoroutine = false ∧ fd.scope.isGenerator = false ∧ fd.scope.kind = .function ∧ (fd.scope.names.lookup (nm 29) = some .local → fd.code = .ref P.cc) ∧ chkSL fd.scope.names f.body body = true ∧
    (∀ x ∈ f.ps, x < names.length ∧ (fd.scope.names.lookup (nm x) = some .local ∨ fd.scope.names.lookup (nm x) = some .cell)) ∧ f.ps.Nodup ∧ (∀ v ∈ f.df, v = .none) ∧
    (∀ vals : List Value, vals.length ≤ f.ps.length → f.ps.length - vals.length ≤ f.df.length →
      Looks (model P.prog P.w) P.h₀ (bindArgs fd ⟨vals, []⟩) ((f.ps.map nm).zip (vals ++ (f.df.drop (f.df.length - (f.ps.length - vals.length))).map fun _ => Value.none)))
  bi : ∀ b, P.mg (bname b) = none ∧ P.mb (bname b) = some (bval b)
  range : P.mg "range" = none ∧ P.mb "range" = some (.type "range")
  zip : P.mg "zip" = none ∧ P.mb "zip" = some (.type "zip")
  enum : P.mg "enumerate" = none ∧ P.mb "enumerate" = some (.type "enumerate")
  bmod : ∃ bm ob, BMod P.h₀ mainGlobals P.mg bm ob
  code : ∃ (o : Obj) (vs : Array Value) (file : Str) (tf : Tok) (flags : Int) (tg : Tok) (inF : Bool) (text : Int) (tt : Tok), P.h₀.get? P.cc = some o ∧ o.cls = .type "code" ∧ o.data = .fields vs ∧ vs[11]? = some (.ref P.tb) ∧
    vs.getD 11 .none = .ref P.tb ∧ vs.getD 18 .none = .str file tf ∧ vs.getD 7 .none = .int flags tg ∧ vs.getD 9 .none = .bool inF ∧ vs.getD 10 .none = .int text tt ∧ P.cc ≠ P.tb
  edgeG : P.mg "Edge" = some (.ref P.eC)
  edgeK : Callee P P.h₀ (.ref P.eC)
  edgeN : ∀ (A : Around) (s : Shared) (cs : List Value) (Q : Value → Shared → Prop) (E : Value → Shared → Prop), A.handled = none → A.depth + 15 < 1000 → A.units + 100 < 9900 →
    (∀ b o, P.h₀.get? b = some o → s.heap.get? b = some o) → cs.length = 3 →
    (∀ h' a n d tk, s.heap.get? a = none → s.heap.get? d = none → (∀ b o, s.heap.get? b = some o → h'.get? b = some o) → h'.get? a = some (edgO P cs n d) → h'.get? d = some dctO → Q (.ref a) { s with heap := h', toks := tk }) →
    wpAny (model P.prog P.w) A (call (.ref P.eC) cs) Q E s
  attr : ∀ (A : Around) (s : Shared) (k : Nat) (a : Addr) (vs : List Value) (n : Nat) (d : Addr) (v : Value) (Q : Value → Shared → Prop) (E : Value → Shared → Prop), (∀ i, v ≠ .builtin i) → A.handled = none → A.depth + 15 < 1000 → A.units + 100 < 9900 →
    (∀ b o, P.h₀.get? b = some o → s.heap.get? b = some o) → k < 3 → s.heap.get? a = some (edgO P vs n d) → s.heap.get? d = some dctO → vs.length = 3 → vs[k]? = some v →
    (∀ h' tk, (∀ b o, s.heap.get? b = some o → h'.get? b = some o) → Q v { s with heap := h', toks := tk }) → wpAny (model P.prog P.w) A (getAttr (.ref a) (aname k) true) Q E s
  meth : ∀ (A : Around) (s : Shared) (l : Addr) (vs : List Value) (n : Nat) (Q : Value → Shared → Prop) (E : Value → Shared → Prop), A.handled = none → s.heap.get? l = some (lstO vs n) →
    (∀ h' a tk, s.heap.get? a = none → (∀ b o, s.heap.get? b = some o → h'.get? b = some o) → h'.get? a = some (appO l) → Q (.ref a) { s with heap := h', toks := tk }) →
    wpAny (model P.prog P.w) A (getAttr (.ref l) "append" true) Q E s
  appC : ∀ (A : Around) (s : Shared) (a l : Addr) (vs : List Value) (n : Nat) (c : Value) (Q : Value → Shared → Prop) (E : Value → Shared → Prop), A.handled = none → A.depth + 15 < 1000 → A.units + 100 < 9900 → s.heap.get? a = some (appO l) → s.heap.get? l = some (lstO vs n) → vs.length < 1000 →
    (∀ h' n', h'.get? l = some (lstO (vs ++ [c]) n') → Heap.SameBut l s.heap h' → Q .none { s with heap := h' }) → wpAny (model P.prog P.w) A (call (.ref a) [c]) Q E s

section
variable {P : Par} {fns : Nat → Option Fn} {α α' : List Addr} {N : Addr → Prop} {ah ah' : AH} {env : Env} {ρ : AE} {s s' : Shared} {A : Around} {E : Value → Shared → Prop} {v : AV}

theorem NoX_N : ∀ b, NoX b → N b := fun _ q => q.elim

theorem ST.glb (S : ST P α N ah env ρ s) (T : Top P fns) : s.heap.Ns env.globals P.mg := by rw [S.fr.glb]; exact T.glob.at' fun o e => S.bk _ o e
theorem ST.bui (S : ST P α N ah env ρ s) (T : Top P fns) : s.heap.Ns env.builtins P.mb := by rw [S.fr.bui]; exact T.bui.at' fun o e => S.bk _ o e

theorem global_ok (T : Top P fns) {id g : Str} {pos : Pos} {c : Value} {Q : Value → Shared → Prop} (S : ST P α N ah env ρ s) (hl : isGl env.scope.names g id = true) (hg : P.mg g = some c) (h : Q c s) :
    wpAny (model P.prog P.w) A (eval (.Name id pos) env) Q E s := by
  obtain ⟨rfl, h1, h2⟩ := isGl_parts hl
  exact Name_function_global S.fr.kind h1 (loadGlobal_global (S.glb T) hg h) h2
theorem builtin_ok (T : Top P fns) {id g : Str} {pos : Pos} {c : Value} {Q : Value → Shared → Prop} (S : ST P α N ah env ρ s) (hl : isGl env.scope.names g id = true) (hg : P.mg g = none ∧ P.mb g = some c) (h : Q c s) :
    wpAny (model P.prog P.w) A (eval (.Name id pos) env) Q E s := by
  obtain ⟨rfl, h1, h2⟩ := isGl_parts hl
  exact Name_function_global S.fr.kind h1 (loadGlobal_builtin (S.glb T) hg.1 (S.bui T) hg.2 h) h2

theorem star_ok {sc : SC} {e : EE} {x : Expr} (h : chkE sc e x = true) (rest : List Expr) (env : Env) : starEach (x :: rest) env = (false, eval x env) :: starEach rest env := by
  cases x <;> first | rfl | (cases e <;> simp [chkE] at h)

theorem noStar {sc : SC} {pos : Pos} : ∀ {es : ES} {xs : List Expr}, chkES sc es xs = true → (backTo pos (starEach xs env)).any (·.1) = false
  | .nil, xs, h => by cases xs with
    | nil => rfl
    | cons => simp [chkES] at h
  | .cons e r, xs, h => by cases xs with
    | nil => simp [chkES] at h
    | cons x xs =>
      simp only [chkES, Bool.and_eq_true] at h
      rw [star_ok h.1]
      show (false || (backTo pos (starEach xs env)).any (·.1)) = false
      rw [noStar h.2]; rfl

/-- any call of a thing that keeps its frame or the machine's -/
theorem callW {sc : SC} {es : ES} {xs : List Expr} {pos : Pos} {f : Value} {Q : Value → Shared → Prop} (hc : chkES sc es xs = true) (hne : (!xs.isEmpty) = true)
    (h : wpAny (model P.prog P.w) A (spliced (backTo pos (starEach xs env))) (fun vs s₁ => Callee P s₁.heap f ∧ wpAny (model P.prog P.w) A (call f vs) Q E s₁) E s) :
    wpAny (model P.prog P.w) A (callWith pos f [] (backTo pos (starEach xs env)) []) Q E s := by
  refine callWith_of (P := fun h => Callee P h f) (by rw [noStar hc]; rfl) (fun h ⟨k, a, b⟩ => ⟨k, a.imp id .inl, b⟩) ?_
  cases xs with
  | nil => simp at hne
  | cons x xs =>
    cases es with
    | nil => simp [chkES] at hc
    | cons e r =>
      simp only [chkES, Bool.and_eq_true] at hc
      rw [star_ok hc.1] at h ⊢
      exact evalArgs_plain h

def SE1 (P : Par) (fns : Nat → Option Fn) (m : Nat) (e : EE) : Prop := ∀ x ρ ah v ah' env s α N A E Q, chkE env.scope.names e x = true → ae fns m e ρ ah = some (v, ah') → ST P α N ah env ρ s → Room m A → EPost P N α s v ah' Q →
  wpAny (model P.prog P.w) A (eval x env) Q E s
def SEP (P : Par) (fns : Nat → Option Fn) (m : Nat) : Prop := ∀ e, SE1 P fns m e
def SESP (P : Par) (fns : Nat → Option Fn) (m : Nat) : Prop := ∀ es xs ρ ah vs ah' env s α N A E (Q : List Value → Shared → Prop) pos, chkES env.scope.names es xs = true → aes fns m es ρ ah = some (vs, ah') → ST P α N ah env ρ s → Room m A →
  (∀ α' s' cs, Stp NoX α s α' s' → HR P α' N ah' s'.heap → VRs P α' N s'.heap vs cs → Q cs s') → wpAny (model P.prog P.w) A (spliced (backTo pos (starEach xs env))) Q E s
def STP (P : Par) (fns : Nat → Option Fn) (m : Nat) : Prop := ∀ e x ρ ah t ah' env s α N A E (Q : Bool → Shared → Prop), chkE env.scope.names e x = true → att fns m e ρ ah = some (t, ah') → ST P α N ah env ρ s → Room m A →
  (∀ α' s', Stp NoX α s α' s' → HR P α' N ah' s'.heap → Q t s') → wpAny (model P.prog P.w) A (isTrue x env (eval x env)) Q E s
def NF (N : Addr → Prop) (src : Src) (n : Nat) : Addr → Prop := fun b => N b ∨ Fp src n b
def SITP (P : Par) (fns : Nat → Option Fn) (m : Nat) : Prop := ∀ it x ρ ah src ah' env s α N A E (Q : Value → Shared → Prop), chkIT env.scope.names it x = true → ait fns m it ρ ah = some (src, ah') → ST P α N ah env ρ s → Room m A →
  (∀ α' s' n, Stp NoX α s α' s' → HR P α' (NF N src n) ah' s'.heap → ItR P α' (NF N src n) s'.heap n 0 src → (∀ b, Fp src n b → s.heap.get? b = none) → Q (.ref (itv src n)) s') →
  wpAny (model P.prog P.w) A (eval x env) (fun c s₁ => wpAny (model P.prog P.w) A (pyIter c) Q E s₁) E s
def CallP (P : Par) (fns : Nat → Option Fn) (m : Nat) : Prop := ∀ g vs ah v ah' cs s α N A E Q, acall fns m g vs ah = some (v, ah') → WS P α N ah s → VRs P α N s.heap vs cs → Room m A → EPost P N α s v ah' Q →
  wpAny (model P.prog P.w) A (call (.ref (P.gv g)) cs) Q E s

theorem es_ok {n : Nat} (I : SEP P fns n) (J : SESP P fns n) : SESP P fns (n + 1) := by
  intro es xs ρ ah vs ah' env s α N A E Q pos hc ha S R h
  cases es with
  | nil =>
    cases xs with
    | nil => simp only [aes] at ha; cases ha; exact wpAny_items_nil (h α s [] .refl S.hr .nil)
    | cons => simp [chkES] at hc
  | cons e r =>
    cases xs with
    | nil => simp [chkES] at hc
    | cons x xs =>
      simp only [chkES, Bool.and_eq_true] at hc
      simp only [aes] at ha
      obtain ⟨p, h1, ha⟩ := Option.bind_eq_some_iff.mp ha
      obtain ⟨q, h2, ha⟩ := Option.bind_eq_some_iff.mp ha
      cases ha
      refine wpAny_items_cons ?_ (star_ok hc.1 _ _)
      refine I e x ρ ah p.1 p.2 env s α N A E _ hc.1 h1 S (R.mono (Nat.le_succ n)) fun α1 s1 c1 x1 H1 r1 => ?_
      refine J r xs ρ p.2 q.1 q.2 env s1 α1 N A E _ pos hc.2 h2 (S.step x1 H1) (R.mono (Nat.le_succ n)) fun α2 s2 cs x2 H2 rs => ?_
      exact h α2 s2 (c1 :: cs) (x1.trans x2) H2 (.cons (r1.step x2 NoX_N) rs)

theorem iter_self {src : Src} {n k : Nat} {Q : Value → Shared → Prop} (I : ItR P α N s.heap n k src) (h : Q (.ref (itv src n)) s) : wpAny (model P.prog P.w) A (pyIter (.ref (itv src n))) Q E s := by
  cases src with
  | L v => obtain ⟨_, l, _, i⟩ := I; exact wpAny_pyIter_listiter i h
  | R m => exact wpAny_pyIter_rangeiter I.2 h
  | Z2 u v => obtain ⟨_, _, l1, l2, _, _, hz, _⟩ := I; exact wpAny_pyIter_zip hz h
  | Z3 u v w => obtain ⟨_, _, _, l1, l2, l3, _, _, _, Z⟩ := I; exact iter_zip3 Z h
  | EZ u v => obtain ⟨_, _, l1, l2, _, _, Z⟩ := I; exact iter_ez Z h

theorem isL_of {xs : List AV} (e : items ah v = some xs) : isL v := by cases v <;> first | trivial | cases e
theorem items_any {f : List AV → Bool} (e : (items ah v).any f = true) : ∃ xs, items ah v = some xs ∧ f xs = true := by
  cases h : items ah v with
  | none => simp [h] at e
  | some xs => exact ⟨xs, rfl, by simpa [h] using e⟩

theorem fresh_none {h : Heap} {a : Addr} (hn : h.objs.size ≤ a) : h.get? a = none := by
  cases e : h.get? a with
  | none => rfl
  | some o => exact absurd (Heap.lt_size e) (Nat.not_lt.mpr hn)
theorem Stp.none_of (x : Stp NoX α s α' s') {a : Addr} (e : s'.heap.get? a = none) : s.heap.get? a = none := by
  cases h : s.heap.get? a with
  | none => rfl
  | some o => obtain ⟨o', e'⟩ := x.grow.live a o h; rw [e] at e'; cases e'

end
end Mine

end

section
open PySem PySem.Spec PySem.Calls PyProof.Rows PySem.MeetsSeq PySem.W
set_option autoImplicit false
namespace Mine
section
variable {P : Par} {fns : Nat → Option Fn} {α α' : List Addr} {N : Addr → Prop} {ah ah' : AH} {env : Env} {ρ : AE} {s s' : Shared} {A : Around} {E : Value → Shared → Prop} {v : AV}

theorem ne_step (ne : ∀ b, N b → ∃ o, s.heap.get? b = some o) {X : Addr → Prop} (x : Stp X α s α' s') : ∀ b, N b → ∃ o, s'.heap.get? b = some o :=
  fun b q => by obtain ⟨o, e⟩ := ne b q; exact x.grow.live b o e

/-- what is laid anew makes an iterator -/
theorem mk_iter {src : Src} {k : Nat} {h' : Heap} {tk : Nat} {Q : Value → Shared → Prop} {α1 : List Addr} {s1 : Shared} {ah1 : AH} (x1 : Stp NoX α s α1 s1) (H1 : HR P α1 N ah1 s1.heap) (hn : s1.heap.objs.size ≤ k)
    (hk : ∀ b o, s1.heap.get? b = some o → h'.get? b = some o) (hi : (∀ {v c}, VR P α1 N s1.heap v c → VR P α1 (NF N src k) h' v c) → ItR P α1 (NF N src k) h' k 0 src)
    (h : ∀ α' s' n, Stp NoX α s α' s' → HR P α' (NF N src n) ah1 s'.heap → ItR P α' (NF N src n) s'.heap n 0 src → (∀ b, Fp src n b → s.heap.get? b = none) → Q (.ref (itv src n)) s') : Q (.ref (itv src k)) { s1 with heap := h', toks := tk } := by
  have hf : ∀ b, Fp src k b → s1.heap.get? b = none := fun b hb => fresh_none (Nat.le_trans hn hb.1)
  have hN : ∀ b, NF N src k b → N b ∨ s1.heap.get? b = none := fun b q => q.imp id (hf b)
  exact h α1 _ k (x1.trans (.of_keep hk)) (H1.grow hN hk) (hi fun r => r.map .refl hN fun b o _ _ e => hk b o e) fun b hb => x1.none_of (hf b hb)

theorem it_ok (T : Top P fns) {n : Nat} (I : SEP P fns n) (J : SESP P fns n) : SITP P fns (n + 1) := by
  intro it x ρ ah src ah' env s α N A E Q hc ha S R h
  cases it with
  | e a =>
    simp only [chkIT] at hc
    simp only [ait] at ha
    obtain ⟨p, h1, ha⟩ := Option.bind_eq_some_iff.mp ha
    split at ha
    · rename_i hs
      cases ha
      obtain ⟨xs, e1, hl⟩ := items_any hs
      refine I a x ρ ah p.1 p.2 env s α N A E _ hc h1 S (R.mono (Nat.le_succ n)) fun α1 s1 c x1 H1 r1 => ?_
      obtain ⟨l, vs, m, rfl, g, rs⟩ := itemsR r1 H1 e1
      refine wpAny_pyIter_list (isList_of g) ?_
      have hk : ∀ b o, s1.heap.get? b = some o → (s1.heap.push { cls := .type "list_iterator", data := .fields #[.ref l, .int 0 0] }).get? b = some o := fun b o e => Heap.get?_push_of_some _ e
      exact mk_iter (src := .L p.1) x1 H1 (Nat.le_refl _) hk (fun vm => ⟨isL_of e1, l, vm r1, ⟨_, Heap.get?_push_size _ rfl, rfl, rfl⟩⟩) h
    · cases ha
  | range a =>
    unfold chkIT at hc
    split at hc
    · rename_i id p x2 cpos
      simp only [Bool.and_eq_true] at hc
      simp only [ait] at ha
      obtain ⟨q, h1, ha⟩ := Option.bind_eq_some_iff.mp ha
      split at ha
      · rename_i i hi
        split at ha
        · rename_i hb
          cases ha
          refine wpAny_Call_NameR (builtin_ok T S hc.1 T.range ?_)
          refine callW (sc := env.scope.names) (es := .cons a .nil) (by simp [chkES, hc.2]) rfl ?_
          refine wpAny_items_cons ?_ (star_ok hc.2 _ _)
          refine I a x2 ρ ah q.1 q.2 env s α N A E _ hc.2 h1 S (R.mono (Nat.le_succ n)) fun α1 s1 c x1 H1 r1 => ?_
          rw [hi] at r1
          cases r1 with
          | int _ t =>
            refine wpAny_items_nil ⟨.type, call_range_1 ?_⟩
            have hr := IsRange.new s1.heap 0 i 1 s1.toks t (s1.toks + 1)
            have hz : Builtin.Range.rangeSize 0 i 1 = i := by
              rw [rangeSize_one]
              split
              · omega
              · omega
            refine wpAny_pyIter_range hr (small_one (by decide) (by decide) (by have := hb.1; omega) (by have := hb.2; omega)) ?_
            rw [hz]
            generalize hh2 : s1.heap.push { cls := .type "range", data := .fields #[.int 0 s1.toks, .int i t, .int 1 (s1.toks + 1)] } = h2 at *
            have k2 : ∀ b o, s1.heap.get? b = some o → h2.get? b = some o := fun b o e => hh2 ▸ Heap.get?_push_of_some _ e
            have sz2 : h2.objs.size = s1.heap.objs.size + 1 := by rw [← hh2, Heap.size_push]
            refine mk_iter (s1 := s1) (src := .R i.toNat) (k := h2.objs.size) x1 H1 (by rw [sz2]; exact Nat.le_succ _) (fun b o e => Heap.get?_push_of_some _ (k2 b o e)) (fun _ => ⟨Nat.zero_le _, ?_⟩) h
            have e0 : ((i.toNat : Nat) : Int) - ((0 : Nat) : Int) = i := by have := hb.1; omega
            rw [e0]
            exact Heap.get?_push_size _ rfl
        · cases ha
      · cases ha
    · cases hc
  | zip as =>
    unfold chkIT at hc
    split at hc
    · rename_i id p args cpos
      simp only [Bool.and_eq_true] at hc
      simp only [ait] at ha
      obtain ⟨q, h1, ha⟩ := Option.bind_eq_some_iff.mp ha
      refine wpAny_Call_NameR (builtin_ok T S hc.1.1 T.zip ?_)
      refine callW hc.2 hc.1.2 ?_
      refine J as args ρ ah q.1 q.2 env s α N A E _ _ hc.2 h1 S (R.mono (Nat.le_succ n)) fun α1 s1 cs x1 H1 rs => ⟨.type, ?_⟩
      split at ha
      · rename_i u v hq
        split at ha
        · rename_i hs
          cases ha
          simp only [srcOk, Bool.and_eq_true] at hs
          obtain ⟨xs, e1, l1⟩ := items_any hs.1
          obtain ⟨ys, e2, l2⟩ := items_any hs.2
          rw [hq] at rs
          cases rs with
          | cons ru rs => cases rs with
            | cons rv rs =>
              cases rs
              obtain ⟨la, va, na, rfl, ga, ra⟩ := itemsR ru H1 e1
              obtain ⟨lb, vb, nb, rfl, gb, rb⟩ := itemsR rv H1 e2
              refine call_zip_2 (isList_of ga) (isList_of gb) fun h' a1 a2 a3 a4 a5 a6 a7 => wpAny_pyIter_zip a1 ?_
              exact mk_iter (src := .Z2 u v) (k := s1.heap.objs.size) x1 H1 (Nat.le_refl _) a7 (fun vm => ⟨isL_of e1, isL_of e2, la, lb, vm ru, vm rv, a1, a2, ⟨_, _, a3⟩, a4, a5⟩) h
        · cases ha
      · rename_i u v w hq
        split at ha
        · rename_i hs
          cases ha
          simp only [srcOk, Bool.and_eq_true] at hs
          obtain ⟨xs, e1, l1⟩ := items_any hs.1.1
          obtain ⟨ys, e2, l2⟩ := items_any hs.1.2
          obtain ⟨zs, e3, l3⟩ := items_any hs.2
          rw [hq] at rs
          cases rs with
          | cons ru rs => cases rs with
            | cons rv rs => cases rs with
              | cons rw rs =>
                cases rs
                obtain ⟨la, va, na, rfl, ga, ra⟩ := itemsR ru H1 e1
                obtain ⟨lb, vb, nb, rfl, gb, rb⟩ := itemsR rv H1 e2
                obtain ⟨lc, vc, nc, rfl, gc, rc⟩ := itemsR rw H1 e3
                refine call_zip3 (isList_of ga) (isList_of gb) (isList_of gc) fun h' a1 a2 => iter_zip3 a1 ?_
                exact mk_iter (src := .Z3 u v w) (k := s1.heap.objs.size) x1 H1 (Nat.le_refl _) a2 (fun vm => ⟨isL_of e1, isL_of e2, isL_of e3, la, lb, lc, vm ru, vm rv, vm rw, a1⟩) h
        · cases ha
      · cases ha
    · cases hc
  | ezip as =>
    unfold chkIT at hc
    split at hc
    · rename_i nid p id2 p2 args cpos2 cpos
      simp only [Bool.and_eq_true] at hc
      simp only [ait] at ha
      obtain ⟨q, h1, ha⟩ := Option.bind_eq_some_iff.mp ha
      refine wpAny_Call_NameR (builtin_ok T S hc.1.1.1 T.enum ?_)
      refine callWith_of (P := fun h => Callee P h (.type "enumerate")) rfl (fun h ⟨k, a, b⟩ => ⟨k, a.imp id .inl, b⟩) ?_
      refine evalArgs_plain ?_
      refine spliced_cons ?_
      refine wpAny_Call_NameR (builtin_ok T S hc.1.1.2 T.zip ?_)
      refine callW hc.2 hc.1.2 ?_
      refine J as args ρ ah q.1 q.2 env s α N A E _ _ hc.2 h1 S (R.mono (Nat.le_succ n)) fun α1 s1 cs x1 H1 rs => ⟨.type, ?_⟩
      split at ha
      · rename_i u v hq
        split at ha
        · rename_i hs
          cases ha
          simp only [srcOk, Bool.and_eq_true] at hs
          obtain ⟨xs, e1, l1⟩ := items_any hs.1
          obtain ⟨ys, e2, l2⟩ := items_any hs.2
          rw [hq] at rs
          cases rs with
          | cons ru rs => cases rs with
            | cons rv rs =>
              cases rs
              obtain ⟨la, va, na, rfl, ga, ra⟩ := itemsR ru H1 e1
              obtain ⟨lb, vb, nb, rfl, gb, rb⟩ := itemsR rv H1 e2
              refine call_zip_2 (isList_of ga) (isList_of gb) fun h' a1 a2 a3 a4 a5 a6 a7 => spliced_nil ⟨.type, ?_⟩
              refine call_ez a6 a1 a2 a3 a4 a5 fun h'' b1 b2 => iter_ez b1 ?_
              exact mk_iter (s1 := s1) (src := .EZ u v) (k := s1.heap.objs.size) x1 H1 (Nat.le_refl _) (fun b o e => b2 b o (a7 b o e)) (fun vm => ⟨isL_of e1, isL_of e2, la, lb, vm ru, vm rv, b1⟩) h
        · cases ha
      · cases ha
    · cases hc
end
end Mine

end

section
open PySem PySem.Spec PySem.Calls PyProof.Rows PySem.MeetsSeq PySem.W
set_option autoImplicit false
namespace Mine
section
variable {P : Par} {fns : Nat → Option Fn} {α α' : List Addr} {N : Addr → Prop} {ah ah' : AH} {env : Env} {ρ : AE} {s s' : Shared} {A : Around} {E : Value → Shared → Prop} {v : AV}

theorem Room.units {n : Nat} (R : Room n A) : A.units + 64 < cLine := by
  have := R.uni
  have e : cLine = 9900 := rfl
  omega

theorem cmp_parts {n : Nat} (I : SEP P fns n) {op : CmpOp} {a b : EE} {l r : Expr} {Q : Value → Shared → Prop} (hl : chkE env.scope.names a l = true) (hr : chkE env.scope.names b r = true)
    (ha : ae fns (n + 1) (.cmp op a b) ρ ah = some (v, ah')) (S : ST P α N ah env ρ s) (R : Room n A) (h : ∀ α' s' t, v = .bool t → Stp NoX α s α' s' → HR P α' N ah' s'.heap → Q (.bool t) s') :
    wpAny (model P.prog P.w) A (eval l env) (fun x s₁ => wpAny (model P.prog P.w) A (eval r env) (fun y s₂ => wpAny (model P.prog P.w) A (compareOp op x y) Q E s₂) E s₁) E s := by
  simp only [ae] at ha
  obtain ⟨p, h1, ha⟩ := Option.bind_eq_some_iff.mp ha
  obtain ⟨q, h2, ha⟩ := Option.bind_eq_some_iff.mp ha
  obtain ⟨t, h3, ha⟩ := Option.map_eq_some_iff.mp ha
  cases ha
  refine I a l ρ ah p.1 p.2 env s α N A E _ hl h1 S R fun α1 s1 c1 x1 H1 r1 => ?_
  refine I b r ρ p.2 q.1 q.2 env s1 α1 N A E _ hr h2 (S.step x1 H1) R fun α2 s2 c2 x2 H2 r2 => ?_
  exact cmp_ok h3 (r1.step x2 NoX_N) r2 H2 R.units (h α2 s2 t rfl (x1.trans x2) H2)

theorem sub_plain {sc : SC} {e : EE} {x : Expr} (h : chkE sc e x = true) (o i : Value) : subscripted x false o i = operate [o, i] (getItem o i) := by
  cases x <;> first | rfl | (cases e <;> simp [chkE] at h)

theorem e_ok (T : Top P fns) {n : Nat} (I : SEP P fns n) (J : SESP P fns n) (B : STP P fns n) (C : CallP P fns n)
    (HC : ∀ elt tg it ifs m cap, SE1 P fns (n + 1) (.comp elt tg it ifs m cap)) (HG : ∀ ak c x tg it, SE1 P fns (n + 1) (.sumg ak c x tg it)) : SEP P fns (n + 1) := by
  intro e x ρ ah v ah' env s α N A E Q hc ha S R hq
  have Rn := R.mono (Nat.le_succ n)
  cases e with
  | none =>
    unfold chkE at hc; split at hc
    · simp only [ae] at ha; cases ha; exact wpAny_Constant_none (hq.here S.hr .none)
    · cases hc
  | bool b =>
    unfold chkE at hc; split at hc
    · simp only [beq_iff_eq] at hc; subst hc
      simp only [ae] at ha; cases ha; exact wpAny_Constant_bool (hq.here S.hr (.bool _))
    · cases hc
  | int i =>
    unfold chkE at hc; split at hc
    · simp only [beq_iff_eq] at hc; subst hc
      simp only [ae] at ha; cases ha; exact wpAny_Constant_int (hq.tok S.hr (.int _ _))
    · cases hc
  | var y =>
    unfold chkE at hc; split at hc
    · simp only [ae] at ha
      obtain ⟨w, h1, h2⟩ := Option.map_eq_some_iff.mp ha
      cases h2
      exact name_ok S hc h1 fun c r => hq.here S.hr r
    · cases hc
  | bin op a b =>
    unfold chkE at hc; split at hc
    · simp only [Bool.and_eq_true, beq_iff_eq] at hc
      obtain ⟨⟨rfl, hl⟩, hr⟩ := hc
      simp only [ae] at ha
      obtain ⟨p, h1, ha⟩ := Option.bind_eq_some_iff.mp ha
      obtain ⟨q, h2, ha⟩ := Option.bind_eq_some_iff.mp ha
      refine wpAny_BinOp ?_
      refine I a _ ρ ah p.1 p.2 env s α N A E _ hl h1 S Rn fun α1 s1 c1 x1 H1 r1 => ?_
      refine I b _ ρ p.2 q.1 q.2 env s1 α1 N A E _ hr h2 (S.step x1 H1) Rn fun α2 s2 c2 x2 H2 r2 => ?_
      exact bin_ok ha (r1.step x2 NoX_N) r2 H2 (ne_step S.ne (x1.trans x2)) (hq.after (x1.trans x2))
    · cases hc
  | neg a =>
    unfold chkE at hc; split at hc
    · simp only [ae] at ha
      obtain ⟨p, h1, ha⟩ := Option.bind_eq_some_iff.mp ha
      split at ha
      · rename_i i hi
        cases ha
        refine wpAny_UnaryOp ?_
        refine I a _ ρ ah p.1 p.2 env s α N A E _ hc h1 S Rn fun α1 s1 c1 x1 H1 r1 => ?_
        rw [hi] at r1; cases r1
        exact PyProof.Rows.neg_int ((hq.after x1).tok H1 (.int _ _))
      · cases ha
    · cases hc
  | nt a => simp only [ae] at ha; cases ha
  | cmp op a b =>
    unfold chkE at hc; split at hc
    · simp only [Bool.and_eq_true, beq_iff_eq, Bool.not_eq_true'] at hc
      obtain ⟨⟨⟨rfl, hm⟩, hl⟩, hr⟩ := hc
      exact wpAny_Compare1 (cmp_parts I hl hr ha S Rn fun α1 s1 t e x1 H1 => hq α1 s1 _ x1 H1 (e ▸ .bool t)) hm
    · cases hc
  | bo o a b =>
    unfold chkE at hc; split at hc
    · rename_i bop l r pos
      simp only [Bool.and_eq_true, beq_iff_eq] at hc
      obtain ⟨⟨rfl, hl⟩, hr⟩ := hc
      simp only [ae] at ha
      obtain ⟨p, h1, ha⟩ := Option.bind_eq_some_iff.mp ha
      obtain ⟨t, h2, ha⟩ := Option.bind_eq_some_iff.mp ha
      have go : ∀ (Q' : Bool → Shared → Prop) c1 s1 α1, VR P α1 N s1.heap p.1 c1 → HR P α1 N p.2 s1.heap → (∀ tk, Q' t { s1 with toks := tk }) → wpAny (model P.prog P.w) A (truthy c1) Q' E s1 := fun Q' c1 s1 α1 r1 H1 h => truth_ok r1 H1 h2 h
      have left : t = o → ∀ c1 s1 α1 tk, Stp NoX α s α1 s1 → HR P α1 N p.2 s1.heap → VR P α1 N s1.heap p.1 c1 → Q c1 { s1 with toks := tk } := by
        intro e c1 s1 α1 tk x1 H1 r1
        rw [if_pos e] at ha
        cases ha
        exact (hq.after x1).tok H1 r1
      have right : t ≠ o → ∀ s1 α1 tk, Stp NoX α s α1 s1 → HR P α1 N p.2 s1.heap → wpAny (model P.prog P.w) A (eval r env) Q E { s1 with toks := tk } := by
        intro e s1 α1 tk x1 H1
        rw [if_neg e] at ha
        have x2 : Stp NoX α s α1 { s1 with toks := tk } := x1.trans (.of_keep fun _ _ e => e)
        exact I b _ ρ p.2 v ah' env _ α1 N A E _ hr ha (S.step x2 H1) Rn (hq.after x2)
      cases o with
      | true =>
        refine wpAny_Or2 ?_
        refine I a _ ρ ah p.1 p.2 env s α N A E _ hl h1 S Rn fun α1 s1 c1 x1 H1 r1 => ?_
        refine go _ c1 s1 α1 r1 H1 fun tk => ?_
        cases t with
        | true => exact left rfl c1 s1 α1 tk x1 H1 r1
        | false => exact right (by simp) s1 α1 tk x1 H1
      | false =>
        refine wpAny_And2 ?_
        refine I a _ ρ ah p.1 p.2 env s α N A E _ hl h1 S Rn fun α1 s1 c1 x1 H1 r1 => ?_
        refine go _ c1 s1 α1 r1 H1 fun tk => ?_
        cases t with
        | false => exact left rfl c1 s1 α1 tk x1 H1 r1
        | true => exact right (by simp) s1 α1 tk x1 H1
    · cases hc
  | ife t a b =>
    unfold chkE at hc; split at hc
    · simp only [Bool.and_eq_true] at hc
      simp only [ae] at ha
      obtain ⟨p, h1, ha⟩ := Option.bind_eq_some_iff.mp ha
      refine wpAny_IfExp ?_
      refine B t _ ρ ah p.1 p.2 env s α N A E _ hc.1.1 h1 S Rn fun α1 s1 x1 H1 => ?_
      cases hp : p.1 with
      | true => rw [hp, if_pos rfl] at ha; exact I a _ ρ p.2 v ah' env s1 α1 N A E _ hc.1.2 ha (S.step x1 H1) Rn (hq.after x1)
      | false => rw [hp] at ha; exact I b _ ρ p.2 v ah' env s1 α1 N A E _ hc.2 ha (S.step x1 H1) Rn (hq.after x1)
    · cases hc
  | call g as =>
    unfold chkE at hc; split at hc
    · rename_i nid p args pos
      simp only [Bool.and_eq_true] at hc
      simp only [ae] at ha
      obtain ⟨q, h1, ha⟩ := Option.bind_eq_some_iff.mp ha
      obtain ⟨f, hf⟩ : ∃ f, fns g = some f := by
        cases n with
        | zero => simp only [acall] at ha; cases ha
        | succ n =>
          simp only [acall] at ha
          obtain ⟨f, hf, _⟩ := Option.bind_eq_some_iff.mp ha
          exact ⟨f, hf⟩
      obtain ⟨hg, o, fd, body, ho, hd, _⟩ := T.fn g f hf
      refine wpAny_Call_NameR (global_ok T S hc.1.1.1 hg ?_)
      refine callW hc.2 hc.1.1.2 ?_
      refine J as args ρ ah q.1 q.2 env s α N A E _ _ hc.2 h1 S Rn fun α1 s1 cs x1 H1 rs => ?_
      have S1 := S.step x1 H1
      exact ⟨.func (S1.bk _ _ ho) hd, C g q.1 q.2 v ah' cs s1 α1 N A E _ ha S1.ws rs Rn (hq.after x1)⟩
    · cases hc
  | bi b as =>
    unfold chkE at hc; split at hc
    · rename_i nid p args pos
      simp only [Bool.and_eq_true] at hc
      simp only [ae] at ha
      obtain ⟨q, h1, ha⟩ := Option.bind_eq_some_iff.mp ha
      obtain ⟨w, h2, ha⟩ := Option.map_eq_some_iff.mp ha
      cases ha
      refine wpAny_Call_NameR (builtin_ok T S hc.1.1 (T.bi b) ?_)
      refine callW hc.2 hc.1.2 ?_
      refine J as args ρ ah q.1 q.2 env s α N A E _ _ hc.2 h1 S Rn fun α1 s1 cs x1 H1 rs => ?_
      exact ⟨by cases b <;> first | exact .builtin | exact .type, bi_ok h2 rs H1 (ne_step S.ne x1) R.hh (hq.after x1)⟩
    · cases hc
  | edge as =>
    unfold chkE at hc; split at hc
    · rename_i nid p args pos
      simp only [Bool.and_eq_true] at hc
      simp only [ae] at ha
      obtain ⟨q, h1, ha⟩ := Option.bind_eq_some_iff.mp ha
      split at ha
      · rename_i h3
        cases ha
        refine wpAny_Call_NameR (global_ok T S hc.1.1 T.edgeG ?_)
        refine callW hc.2 hc.1.2 ?_
        refine J as args ρ ah q.1 q.2 env s α N A E _ _ hc.2 h1 S Rn fun α1 s1 cs x1 H1 rs => ?_
        have S1 := S.step x1 H1
        refine ⟨T.edgeK.keeps S1.bk, T.edgeN A s1 cs _ E R.hh (by have := R.dep; omega) (by have := R.uni; omega) S1.bk (by rw [← rs.length, h3]) fun h' a m d tk hf hf2 hk g g2 => ?_⟩
        refine (hq.after x1).keep H1 hk (.edge g (H1.notin hf) (fun b => ?_) g2 (H1.notin hf2) (fun b => ?_) (rs.map .refl (fun _ q => .inl q) fun b o _ _ e => hk b o e))
        · obtain ⟨o, e⟩ := S1.ne a b; rw [hf] at e; cases e
        · obtain ⟨o, e⟩ := S1.ne d b; rw [hf2] at e; cases e
      · cases ha
    · cases hc
  | attr k a =>
    unfold chkE at hc; split at hc
    · rename_i vx attr pos
      simp only [Bool.and_eq_true, decide_eq_true_eq, beq_iff_eq] at hc
      obtain ⟨⟨⟨hk3, rfl⟩, hn⟩, hc⟩ := hc
      simp only [ae] at ha
      obtain ⟨p, h1, ha⟩ := Option.bind_eq_some_iff.mp ha
      split at ha
      · rename_i xs hp
        obtain ⟨w, h2, ha⟩ := Option.map_eq_some_iff.mp ha
        cases ha
        cases vx <;> first | (simp at hn; done) | skip
        refine Attribute_name ?_
        refine I a _ ρ ah p.1 p.2 env s α N A E _ hc h1 S Rn fun α1 s1 c x1 H1 r1 => ?_
        rw [hp] at r1
        cases r1 with
        | edge g ha' hN g2 ha2 hN2 rs =>
          unfold pick3 at h2
          split at h2
          · rename_i h3
            obtain ⟨cv, hcv, rcv⟩ := rs.get h2
            have S1 := S.step x1 H1
            refine T.attr A s1 k _ _ _ _ cv _ E rcv.plain R.hh (by have := R.dep; omega) (by have := R.uni; omega) S1.bk hk3 g g2 (by rw [← rs.length, h3.1]) hcv fun h' tk hk => ?_
            exact (hq.after x1).keep H1 hk (rcv.map .refl (fun _ q => .inl q) fun b o _ _ e => hk b o e)
          · cases h2
      · cases ha
    · cases hc
  | meth a =>
    unfold chkE at hc; split at hc
    · rename_i vx attr pos
      simp only [Bool.and_eq_true, beq_iff_eq] at hc
      obtain ⟨⟨rfl, hn⟩, hc⟩ := hc
      simp only [ae] at ha
      obtain ⟨p, h1, ha⟩ := Option.bind_eq_some_iff.mp ha
      split at ha
      · rename_i r hp
        cases ha
        cases vx <;> first | (simp at hn; done) | skip
        refine Attribute_name ?_
        refine I a _ ρ ah p.1 p.2 env s α N A E _ hc h1 S Rn fun α1 s1 c x1 H1 r1 => ?_
        have S1 := S.step x1 H1
        rw [hp] at r1
        cases r1 with
        | ref h0 e =>
          have hr : r < p.2.length := H1.len ▸ (List.getElem?_eq_some_iff.mp e).1
          obtain ⟨b, us, m, e1, e2, e3⟩ := H1.obj r _ h0 (List.getElem?_eq_getElem hr)
          rw [e] at e1; cases e1
          refine T.meth A s1 _ us m _ E R.hh e2 fun h' a' tk hf hk g => ?_
          refine (hq.after x1).keep H1 hk (.app h0 e g (H1.notin hf) fun b => ?_)
          obtain ⟨o, e⟩ := S1.ne a' b; rw [hf] at e; cases e
      · cases ha
    · cases hc
  | sub a i =>
    unfold chkE at hc; split at hc
    · simp only [Bool.and_eq_true] at hc
      simp only [ae] at ha
      obtain ⟨p, h1, ha⟩ := Option.bind_eq_some_iff.mp ha
      obtain ⟨q, h2, ha⟩ := Option.bind_eq_some_iff.mp ha
      obtain ⟨w, h3, ha⟩ := Option.map_eq_some_iff.mp ha
      cases ha
      refine Subscript_ ?_
      refine I a _ ρ ah p.1 p.2 env s α N A E _ hc.1 h1 S Rn fun α1 s1 c1 x1 H1 r1 => ?_
      refine I i _ ρ p.2 q.1 q.2 env s1 α1 N A E _ hc.2 h2 (S.step x1 H1) Rn fun α2 s2 c2 x2 H2 r2 => ?_
      exact sub_ok (sub_plain hc.2) h3 (r1.step x2 NoX_N) r2 H2 (hq.after (x1.trans x2))
    · cases hc
  | slice a hi =>
    unfold chkE at hc; split at hc
    · rename_i vx up spos pos
      simp only [Bool.and_eq_true] at hc
      simp only [ae] at ha
      obtain ⟨p, h1, ha⟩ := Option.bind_eq_some_iff.mp ha
      obtain ⟨xs, h2, ha⟩ := Option.bind_eq_some_iff.mp ha
      split at ha
      · rename_i hl
        cases ha
        refine Subscript_ ?_
        refine I a _ ρ ah p.1 p.2 env s α N A E _ hc.1 h1 S Rn fun α1 s1 c1 x1 H1 r1 => ?_
        refine wpAny_Slice ?_
        rw [evalPart_none]
        refine wpAny_pure ?_
        have ne1 := ne_step S.ne x1
        cases hi with
        | none =>
          cases up with
          | none => 
            exact wpAny_pure (wpAny_pure (slice_ok (hi := none) .none (fun _ _ => rfl) h2 hl r1 H1 ne1 (hq.after x1)))
          | some u => simp at hc
        | some k =>
          cases up with
          | none => simp at hc
          | some u =>
            rw [evalPart_some]
            obtain ⟨hc1, hc2⟩ := hc
            split at hc2
            · rename_i h; cases h
            · rename_i k' i pp cc h5 h6
              cases h5; cases h6
              simp only [Bool.and_eq_true, beq_iff_eq, decide_eq_true_eq] at hc2
              obtain ⟨rfl, hk⟩ := hc2
              refine wpAny_Constant_int (wpAny_pure ?_)
              have x2 : Stp NoX α1 s1 α1 { s1 with toks := s1.toks + 1 } := .of_keep fun _ _ e => e
              exact slice_ok (s := { s1 with toks := s1.toks + 1 }) (hi := some k) (.int _ _) (fun _ _ => rfl) h2 hl r1 H1 ne1 (hq.after (x1.trans x2))
            · cases hc2
      · cases ha
    · cases hc
  | lst m as =>
    unfold chkE at hc; split at hc
    · simp only [ae] at ha
      obtain ⟨p, h1, ha⟩ := Option.bind_eq_some_iff.mp ha
      split at ha
      · rename_i hl
        refine wpAny_List ?_
        refine J as _ ρ ah p.1 p.2 env s α N A E _ _ hc h1 S Rn fun α1 s1 cs x1 H1 rs => ⟨by rw [← rs.length, sizeLine_eq]; omega, ?_⟩
        have hk : ∀ b o, s1.heap.get? b = some o → (s1.heap.push (lstO cs 0)).get? b = some o := fun b o e => Heap.get?_push_of_some _ e
        have ne1 := ne_step S.ne x1
        cases m with
        | true => cases ha; exact fresh_ref (n := 0) H1 ne1 (next_none s1) hk (Heap.get?_push_size _ rfl) rs (hq.after x1)
        | false => cases ha; exact (hq.after x1).keep H1 hk (fresh_val (n := 0) H1 ne1 (next_none s1) hk (Heap.get?_push_size _ rfl) rs)
      · cases ha
    · cases hc
  | tup as =>
    unfold chkE at hc; split at hc
    · simp only [ae] at ha
      obtain ⟨p, h1, ha⟩ := Option.bind_eq_some_iff.mp ha
      split at ha
      · rename_i hl
        cases ha
        refine wpAny_Tuple ?_
        refine J as _ ρ ah p.1 p.2 env s α N A E _ _ hc h1 S Rn fun α1 s1 cs x1 H1 rs => ⟨by rw [← rs.length, sizeLine_eq]; omega, ?_⟩
        have hk : ∀ b o, s1.heap.get? b = some o → (s1.heap.push (tupO cs 0)).get? b = some o := fun b o e => Heap.get?_push_of_some _ e
        have ne1 := ne_step S.ne x1
        exact (hq.after x1).keep H1 hk (fresh_tup (n := 0) H1 ne1 (next_none s1) hk (Heap.get?_push_size _ rfl) rs)
      · cases ha
    · cases hc
  | comp elt tg it ifs m cap => exact HC elt tg it ifs m cap x ρ ah v ah' env s α N A E Q hc ha S R hq
  | sumg ak c y tg it => exact HG ak c y tg it x ρ ah v ah' env s α N A E Q hc ha S R hq
end
end Mine

end

section
open PySem PySem.Spec PySem.Calls PyProof.Rows PySem.MeetsSeq PySem.W
set_option autoImplicit false
namespace Mine
section
variable {P : Par} {fns : Nat → Option Fn} {α α' : List Addr} {N : Addr → Prop} {ah ah' : AH} {env : Env} {ρ : AE} {s s' : Shared} {A : Around} {E : Value → Shared → Prop} {v : AV}

def isPl : EE → Bool
  | .nt _ => false | .bo _ _ _ => false | .ife _ _ _ => false | .cmp _ _ _ => false | _ => true

theorem true_plain {sc : SC} {e : EE} {x : Expr} (h : chkE sc e x = true) (hp : isPl e = true) (env : Env) (whole : Sem Value) : isTrue x env whole = (do let v ← whole; standAt x.pos; holding [v] (truthy v)) := by
  cases x with
  | UnaryOp op y pos => cases op <;> first | rfl | (cases e <;> first | (simp [chkE] at h; done) | cases hp)
  | _ => first | rfl | (cases e <;> first | (simp [chkE] at h; done) | cases hp)

theorem att_plain {fns : Nat → Option Fn} {n : Nat} {e : EE} {t : Bool} (hp : isPl e = true ∨ ∃ op a b, e = .cmp op a b) (h : att fns (n + 1) e ρ ah = some (t, ah')) : ∃ v, ae fns n e ρ ah = some (v, ah') ∧ atruth ah' v = some t := by
  have : (ae fns n e ρ ah).bind (fun p => (atruth p.2 p.1).map fun t => (t, p.2)) = some (t, ah') := by
    rcases hp with hp | ⟨_, _, _, rfl⟩
    · cases e <;> first | (simpa only [att] using h) | cases hp
    · simpa only [att] using h
  obtain ⟨p, h1, h2⟩ := Option.bind_eq_some_iff.mp this
  obtain ⟨t', h3, h4⟩ := Option.map_eq_some_iff.mp h2
  cases h4
  exact ⟨_, h1, h3⟩

theorem t_ok {n : Nat} (I : ∀ k, k ≤ n → SEP P fns k) (B : STP P fns n) : STP P fns (n + 1) := by
  intro e x ρ ah t ah' env s α N A E Q hc ha S R h
  have Rn := R.mono (Nat.le_succ n)
  by_cases hp : isPl e = true
  · obtain ⟨w, h1, h2⟩ := att_plain (.inl hp) ha
    refine isTrue_plain ?_ (true_plain hc hp _ _)
    refine I n (Nat.le_refl n) e x ρ ah w ah' env s α N A E _ hc h1 S Rn fun α1 s1 c1 x1 H1 r1 => ?_
    exact truth_ok r1 H1 h2 fun tk => h α1 _ (x1.trans (.of_keep fun _ _ e => e)) H1
  · cases e with
    | nt a =>
      unfold chkE at hc; split at hc
      · simp only [att] at ha
        obtain ⟨p, h1, ha⟩ := Option.map_eq_some_iff.mp ha
        cases ha
        refine isTrue_not ?_
        exact B a _ ρ ah p.1 p.2 env s α N A E _ hc h1 S Rn fun α1 s1 x1 H1 => h α1 s1 x1 H1
      · cases hc
    | bo o a b =>
      unfold chkE at hc; split at hc
      · simp only [Bool.and_eq_true, beq_iff_eq] at hc
        obtain ⟨⟨rfl, hl⟩, hr⟩ := hc
        simp only [att] at ha
        obtain ⟨p, h1, ha⟩ := Option.bind_eq_some_iff.mp ha
        cases o with
        | true =>
          refine isTrue_or ?_
          refine B a _ ρ ah p.1 p.2 env s α N A E _ hl h1 S Rn fun α1 s1 x1 H1 => ?_
          cases hp1 : p.1 with
          | true =>
            rw [hp1, if_pos rfl] at ha
            cases ha
            cases hp1
            exact h α1 s1 x1 H1
          | false =>
            rw [hp1, if_neg (by decide)] at ha
            simp only [Bool.false_eq_true, if_false]
            refine isTrue_or ?_
            refine B b _ ρ p.2 t ah' env s1 α1 N A E _ hr ha (S.step x1 H1) Rn fun α2 s2 x2 H2 => ?_
            cases t with
            | true => exact h α2 s2 (x1.trans x2) H2
            | false => exact isTrue_or_nil (h α2 s2 (x1.trans x2) H2)
        | false =>
          refine isTrue_and ?_
          refine B a _ ρ ah p.1 p.2 env s α N A E _ hl h1 S Rn fun α1 s1 x1 H1 => ?_
          cases hp1 : p.1 with
          | false =>
            rw [hp1, if_pos rfl] at ha
            cases ha
            cases hp1
            exact h α1 s1 x1 H1
          | true =>
            rw [hp1, if_neg (by decide)] at ha
            simp only [if_true]
            refine isTrue_and ?_
            refine B b _ ρ p.2 t ah' env s1 α1 N A E _ hr ha (S.step x1 H1) Rn fun α2 s2 x2 H2 => ?_
            cases t with
            | false => exact h α2 s2 (x1.trans x2) H2
            | true => exact isTrue_and_nil (h α2 s2 (x1.trans x2) H2)
      · cases hc
    | ife a b c => simp only [att] at ha; cases ha
    | cmp op a b =>
      obtain ⟨w, h1, h2⟩ := att_plain (.inr ⟨_, _, _, rfl⟩) ha
      unfold chkE at hc; split at hc
      · simp only [Bool.and_eq_true, beq_iff_eq, Bool.not_eq_true'] at hc
        obtain ⟨⟨⟨rfl, hm⟩, hl⟩, hr⟩ := hc
        cases n with
        | zero => simp only [ae] at h1; cases h1
        | succ n =>
          refine wpAny_isTrue_Compare1 (cmp_parts (I n (Nat.le_succ n)) hl hr h1 S (R.mono (by omega)) fun α1 s1 t' e x1 H1 => ?_) hm
          subst e
          cases h2
          exact wpAny_truthy_bool (h α1 s1 x1 H1)
      · cases hc
    | _ => exact absurd rfl hp
end
end Mine

end

section
open PySem PySem.Spec PySem.Calls PyProof.Rows PySem.MeetsSeq PySem.W
set_option autoImplicit false
namespace Mine

section
variable {prog : Program} {w : World} {A : Around} {E : Value → Shared → Prop} {R : Result → Shared → Prop} {s : Shared}
/-- what the tests of a comprehension (none or one) must show -/
def testsW (prog : Program) (w : World) (A : Around) (env : Env) : List Expr → (Bool → Shared → Prop) → (Value → Shared → Prop) → Shared → Prop
  | [], Q, _, s => Q true s
  | [c], Q, E, s => wpAny (model prog w) A (isTrue c env (eval c env)) Q E s
  | _, _, _, _ => False
/-- kcp_loop and kct_loop in one -/
theorem loop_tests {elt target iter : Expr} {ifs : List Expr} {scope : Scope} {pos : Pos} {it acc : Value} {env : Env} (hi : ifs.length ≤ 1) (I : Nat → Shared → Prop)
    (turn : ∀ n s, I n s → wpAny (model prog w) A (pyNext it) (fun r s₁ => match r with
      | none => R (.ok .next) s₁
      | some v => wpAny (model prog w) A (letOwnedTupleGo target it v) (fun _ s₂ => wpAny (model prog w) A (assign target env v) (fun _ s₃ =>
          testsW prog w A env ifs (fun ok s₄ => if ok = true then wpAny (model prog w) A (eval elt env) (fun x s₅ =>
              wpAny (model prog w) A (call (.builtin "list.append") [acc, x]) (fun _ s₆ => ∃ m, m < n ∧ I m s₆) (notedBy (model prog w) A env fun e s' => R (.error e) s') s₅) (notedBy (model prog w) A env fun e s' => R (.error e) s') s₄
            else ∃ m, m < n ∧ I m s₄) (notedBy (model prog w) A env fun e s' => R (.error e) s') s₃) (notedBy (model prog w) A env fun e s' => R (.error e) s') s₂) (notedBy (model prog w) A env fun e s' => R (.error e) s') s₁) (notedBy (model prog w) A env fun e s' => R (.error e) s') s)
    (n : Nat) (h : I n s) : codeAny (model prog w) A (.compLoop (.ListComp elt [⟨target, iter, ifs, 0⟩] scope pos) 0 it acc env) R s := by
  rcases ifs with _ | ⟨c, _ | ⟨d, r⟩⟩
  · exact kcp_loop I turn n h
  · exact kct_loop I turn n h
  · simp at hi
end

/-- the cells that a comprehension takes along -/
def clo (env : Env) : SC → List (Str × Addr) → List (Str × Addr)
  | [], acc => acc
  | (n, k) :: r, acc => if k == .free then clo env r ((n, (env.cells.lookup n).getD 0) :: acc) else clo env r acc

theorem closure_ok {scope : Scope} {env : Env} (h : ∀ n, (n, NameKind.free) ∈ scope.names → ∃ c, env.cells.lookup n = some c) : closureFor scope env = pure (clo env scope.names []) := by
  unfold closureFor
  have key : ∀ (names : SC) (acc : List (Str × Addr)), (∀ n, (n, NameKind.free) ∈ names → ∃ c, env.cells.lookup n = some c) →
      (forIn names acc fun (x : Str × NameKind) cs => (match x with | (name, kind) => if (kind == NameKind.free) = true then do let a ← cellOf env name; pure (ForInStep.yield ((name, a) :: cs)) else pure (ForInStep.yield cs) : Sem (ForInStep (List (Str × Addr))))) = pure (clo env names acc) := by
    intro names
    induction names with
    | nil => intro acc _; rfl
    | cons p r ih =>
      intro acc hf
      obtain ⟨n, k⟩ := p
      rw [List.forIn_cons]
      unfold clo
      by_cases hk : (k == NameKind.free) = true
      · obtain ⟨c, hc⟩ := hf n (by rw [← (beq_iff_eq.mp hk)]; exact List.mem_cons_self)
        simp only [hk, if_true, cellOf, hc, Option.getD_some]
        exact ih _ fun m hm => hf m (List.mem_cons_of_mem _ hm)
      · simp only [hk, Bool.false_eq_true, if_false]
        exact ih _ fun m hm => hf m (List.mem_cons_of_mem _ hm)
  have := key scope.names [] h
  first
    | (simp only [bind_pure]; exact this)
    | (show (_ >>= _) = _; rw [this]; rfl)

theorem clo_lookup {env : Env} : ∀ (names : SC) (acc : List (Str × Addr)) (x : Str) (c : Addr), (∀ n, (n, NameKind.free) ∈ names → ∃ c, env.cells.lookup n = some c) → (clo env names acc).lookup x = some c →
    (env.cells.lookup x = some c) ∨ acc.lookup x = some c
  | [], acc, x, c, _, h => .inr h
  | (n, k) :: r, acc, x, c, hf, h => by
    have hr : ∀ m, (m, NameKind.free) ∈ r → ∃ c, env.cells.lookup m = some c := fun m hm => hf m (List.mem_cons_of_mem _ hm)
    unfold clo at h
    split at h
    · rename_i hk
      obtain ⟨a, ha⟩ := hf n (by rw [← (beq_iff_eq.mp hk)]; exact List.mem_cons_self)
      rw [ha, Option.getD_some] at h
      rcases clo_lookup r _ x c hr h with q | q
      · exact .inl q
      · by_cases hx : x == n
        · simp only [List.lookup_cons, hx] at q
          cases q
          rw [beq_iff_eq.mp hx]; exact .inl ha
        · have hx' : (x == n) = false := by simpa using hx
          simp only [List.lookup_cons, hx'] at q
          exact .inr q
    · exact clo_lookup r acc x c hr h

theorem clo_keep {env : Env} : ∀ (names : SC) (acc : List (Str × Addr)) (x : Str), (acc.lookup x).isSome = true → ((clo env names acc).lookup x).isSome = true
  | [], acc, x, h => h
  | (n, k) :: r, acc, x, h => by
    unfold clo
    split
    · refine clo_keep r _ x ?_
      by_cases hx : (x == n) = true
      · simp [List.lookup_cons, hx]
      · have hx' : (x == n) = false := by simpa using hx
        simpa [List.lookup_cons, hx'] using h
    · exact clo_keep r acc x h
theorem clo_has {env : Env} : ∀ (names : SC) (acc : List (Str × Addr)) (x : Str), (x, NameKind.free) ∈ names → ((clo env names acc).lookup x).isSome = true
  | [], acc, x, h => by cases h
  | (n, k) :: r, acc, x, h => by
    unfold clo
    rcases List.mem_cons.mp h with q | q
    · cases q
      simp only [beq_self_eq_true, if_true]
      exact clo_keep r _ _ (by simp [List.lookup_cons])
    · split
      · exact clo_has r _ x q
      · exact clo_has r _ x q

theorem relabel_names {scope : Scope} {env : Env} (hk : env.scope.kind = .function) : (relabel scope env).names = relN env.scope.names scope.names := by
  unfold relabel relN Env.kindOf
  simp only [hk]
  apply List.map_congr_left
  rintro ⟨n, k⟩ _
  simp

theorem mem_of_look {l : SC} {x : Str} {k : NameKind} (h : l.lookup x = some k) : (x, k) ∈ l := by
  induction l with
  | nil => cases h
  | cons p r ih =>
    obtain ⟨n, k'⟩ := p
    by_cases hx : (x == n) = true
    · simp only [List.lookup_cons, hx] at h
      cases h
      rw [beq_iff_eq.mp hx]; exact List.mem_cons_self
    · have hx' : (x == n) = false := by simpa using hx
      simp only [List.lookup_cons, hx'] at h
      exact List.mem_cons_of_mem _ (ih h)

theorem relN_look {sc names : SC} {x : Str} : (relN sc names).lookup x = (names.lookup x).map fun k => if (k == .free && sc.lookup x == some .cell) then .cell else k := by
  induction names with
  | nil => rfl
  | cons p r ih =>
    obtain ⟨n, k⟩ := p
    unfold relN at ih ⊢
    rw [List.map_cons]
    by_cases hx : (x == n) = true
    · have : x = n := beq_iff_eq.mp hx
      subst this
      by_cases hc : (k == .free && sc.lookup x == some .cell) = true
      · simp only [hc, if_true, List.lookup_cons, beq_self_eq_true, Option.map_some]
      · simp only [hc, Bool.false_eq_true, if_false, List.lookup_cons, beq_self_eq_true, Option.map_some]
    · have hx' : (x == n) = false := by simpa using hx
      by_cases hc : (k == .free && sc.lookup n == some .cell) = true
      · simp only [hc, if_true, List.lookup_cons, hx']; exact ih
      · simp only [hc, Bool.false_eq_true, if_false, List.lookup_cons, hx']; exact ih

structure CompOk (sc : SC) (scope : Scope) (cap : List Nat) : Prop where
  kind : scope.kind = .function
  nocell : ∀ p ∈ scope.names, p.2 ≠ .cell
  loc : ∀ p ∈ scope.names, p.2 = .local → scope.names.lookup p.1 = some .local
  free : ∀ n, (n, NameKind.free) ∈ scope.names → sc.lookup n = some .cell
  nr : scope.names.lookup (nm 29) ≠ some .local
  cap : ∀ x ∈ cap, x < names.length ∧ scope.names.lookup (nm x) = some .free ∧ sc.lookup (nm x) = some .cell

theorem okComp_parts {sc : SC} {scope : Scope} {cap : List Nat} (h : okComp sc scope cap = true) : CompOk sc scope cap := by
  simp only [okComp, Bool.and_eq_true, List.all_eq_true, beq_iff_eq, bne_iff_ne, Bool.or_eq_true, ne_eq, decide_eq_true_eq] at h
  obtain ⟨⟨⟨⟨⟨h1, h2⟩, h3⟩, h4⟩, h6⟩, h5⟩ := h
  refine ⟨h1, h2, fun p hp hl => (h3 p hp).resolve_left fun q => q hl, fun n hn => (h4 _ hn).resolve_left fun q => q rfl, h6, fun x hx => ?_⟩
  obtain ⟨⟨a, b⟩, c⟩ := h5 x hx
  exact ⟨a, b, c⟩

section
variable {P : Par} {fns : Nat → Option Fn} {α α' α'' : List Addr} {N N' X : Addr → Prop} {ah ah' : AH} {env : Env} {ρ ρ' : AE} {s s' s1 s2 : Shared} {A : Around} {E : Value → Shared → Prop} {v : AV}

theorem ST.off (S : ST P α N ah env ρ s) (x : Stp X α s α' s') (H : HR P α' N ah' s'.heap) (hX : ∀ b, X b → N b) (hl : ¬ X env.locals) (hc : ∀ x c, env.cells.lookup x = some c → ¬ X c) (h0 : ∀ b, X b → P.h₀.get? b = none) : ST P α' N ah' env ρ s' := by
  have kp : ∀ b o, N b → ¬ X b → s.heap.get? b = some o → s'.heap.get? b = some o := fun b o hb hx e => x.grow.keep b o (fun q => S.hr.off b q hb) hx e
  refine ⟨H, fun b hb => ?_, fun b o e => ?_, S.bn, { S.fr with ns := ?_, cells := fun y c e => ?_ }, fun y w e => ?_⟩
  · obtain ⟨o, e⟩ := S.ne b hb; exact x.grow.live b o e
  · exact kp b o (S.bn b o e) (fun q => by rw [h0 b q] at e; cases e) (S.bk b o e)
  · obtain ⟨m, hm⟩ := S.fr.ns; exact ⟨m, hm.at' fun o e => kp _ o S.fr.nL hl e⟩
  · obtain ⟨h1, h2, w, h3⟩ := S.fr.cells y c e
    exact ⟨h1, h2, w, cellAt h3 fun o q => kp _ o h1 (hc y c e) q⟩
  · obtain ⟨hy, r⟩ := S.vars y w e
    refine ⟨hy, ?_⟩
    rcases r with ⟨k, m, c, hm, hc', r⟩ | ⟨k, a, c, ha, hc', r⟩
    · exact .inl ⟨k, m, c, hm.at' fun o e => kp _ o S.fr.nL hl e, hc', r.step x hX⟩
    · exact .inr ⟨k, a, c, ha, cellAt hc' fun o e => kp _ o (S.fr.cells _ _ ha).1 (hc _ _ ha) e, r.step x hX⟩

/-- the same state, fewer names -/
theorem ST.less (S : ST P α N ah env ρ s) (h : ∀ x v, ρ' x = some v → ρ x = some v) : ST P α N ah env ρ' s := { S with vars := fun x v e => S.vars x v (h x v e) }

theorem Stp.fresh {Y : Addr → Prop} (x : Stp Y α s α' s1) (y : Stp X α' s1 α'' s2) (hX : ∀ b, X b → s.heap.get? b = none) : Stp Y α s α'' s2 := by
  have none_of : ∀ a, s1.heap.get? a = none → s.heap.get? a = none := fun a e => by
    cases h : s.heap.get? a with
    | none => rfl
    | some o => obtain ⟨o', e'⟩ := x.grow.live a o h; rw [e] at e'; cases e'
  refine ⟨?_, ⟨fun b o hb hy e => y.grow.keep b o (x.ext.notin e hb) (fun q => by rw [hX b q] at e; cases e) (x.grow.keep b o hb hy e), fun b o e => ?_⟩, y.os.trans x.os, fun g => y.gens (x.gens g)⟩
  · obtain ⟨β, e1, h1⟩ := x.ext
    obtain ⟨γ, e2, h2⟩ := y.ext
    refine ⟨β ++ γ, by rw [e2, e1, List.append_assoc], fun a ha => ?_⟩
    rcases List.mem_append.mp ha with ha | ha
    · exact h1 a ha
    · exact .inr (none_of a ((h2 a ha).resolve_left id))
  · obtain ⟨o', e'⟩ := x.grow.live b o e
    exact y.grow.live b o' e'
theorem Stp.fin {Y : Addr → Prop} {h' : Heap} {tk : Nat} (x : Stp Y α s α' s1) (hk : ∀ b o, ¬ X b → s1.heap.get? b = some o → h'.get? b = some o) (hX : ∀ b, X b → s.heap.get? b = none) : Stp Y α s α' { s1 with heap := h', toks := tk } := by
  refine ⟨x.ext, ⟨fun b o hb hy e => hk b o (fun q => by rw [hX b q] at e; cases e) (x.grow.keep b o hb hy e), fun b o e => ?_⟩, x.os, x.gens⟩
  obtain ⟨o', e'⟩ := x.grow.live b o e
  exact ⟨o', hk b o' (fun q => by rw [hX b q] at e; cases e) e'⟩

/-- more is set apart -/
theorem ST.lift (S : ST P α N ah env ρ s) (x : Stp NoX α s α' s') (H : HR P α' N' ah' s'.heap) (hN : ∀ b, N b → N' b) (hN2 : ∀ b, N' b → N b ∨ s.heap.get? b = none) (ne : ∀ b, N' b → ∃ o, s'.heap.get? b = some o) : ST P α' N' ah' env ρ s' := by
  have kp : ∀ b o, N b → s.heap.get? b = some o → s'.heap.get? b = some o := fun b o hb e => x.grow.keep b o (fun q => S.hr.off b q hb) id e
  have vm : ∀ {v c}, VR P α N s.heap v c → VR P α' N' s'.heap v c := fun r => r.map x.ext.of_step hN2 fun b o hb hn e => x.grow.keep b o hb id e
  refine ⟨H, ne, fun b o e => kp b o (S.bn b o e) (S.bk b o e), fun b o e => hN b (S.bn b o e), { S.fr with ns := ?_, nL := hN _ S.fr.nL, cells := fun y c e => ?_ }, fun y w e => ?_⟩
  · obtain ⟨m, hm⟩ := S.fr.ns; exact ⟨m, hm.at' fun o e => kp _ o S.fr.nL e⟩
  · obtain ⟨h1, h2, w, h3⟩ := S.fr.cells y c e
    exact ⟨hN _ h1, h2, w, cellAt h3 fun o q => kp _ o h1 q⟩
  · obtain ⟨hy, r⟩ := S.vars y w e
    refine ⟨hy, ?_⟩
    rcases r with ⟨k, m, c, hm, hc', r⟩ | ⟨k, a, c, ha, hc', r⟩
    · exact .inl ⟨k, m, c, hm.at' fun o e => kp _ o S.fr.nL e, hc', vm r⟩
    · exact .inr ⟨k, a, c, ha, cellAt hc' fun o e => kp _ o (S.fr.cells _ _ ha).1 e, vm r⟩
/-- what was set apart is let go -/
theorem ST.drop {h' : Heap} {tk : Nat} (S : ST P α N' ah env ρ s) (hN : ∀ b, N b → N' b) (hk : ∀ b o, (N b ∨ ¬ N' b) → s.heap.get? b = some o → h'.get? b = some o) (bn : ∀ b o, P.h₀.get? b = some o → N b) (nL : N env.locals) (nC : ∀ x c, env.cells.lookup x = some c → N c) :
    ST P α N ah env ρ { s with heap := h', toks := tk } := by
  have vm : ∀ {v c}, VR P α N' s.heap v c → VR P α N h' v c := fun r => r.map .refl (fun b q => .inl (hN b q)) fun b o _ hb e => hk b o (.inr hb) e
  refine ⟨(S.hr.offN fun b o hb e => hk b o (.inr hb) e).grow (fun b q => .inl (hN b q)) fun _ _ e => e, fun b hb => ?_, fun b o e => hk b o (.inl (bn b o e)) (S.bk b o e), bn, { S.fr with ns := ?_, nL := nL, cells := fun y c e => ?_ }, fun y w e => ?_⟩
  · obtain ⟨o, e⟩ := S.ne b (hN b hb); exact ⟨o, hk b o (.inl hb) e⟩
  · obtain ⟨m, hm⟩ := S.fr.ns; exact ⟨m, hm.at' fun o e => hk _ o (.inl nL) e⟩
  · obtain ⟨h1, h2, w, h3⟩ := S.fr.cells y c e
    exact ⟨nC y c e, h2, w, cellAt h3 fun o q => hk _ o (.inl (nC y c e)) q⟩
  · obtain ⟨hy, r⟩ := S.vars y w e
    refine ⟨hy, ?_⟩
    rcases r with ⟨k, m, c, hm, hc', r⟩ | ⟨k, a, c, ha, hc', r⟩
    · exact .inl ⟨k, m, c, hm.at' fun o e => hk _ o (.inl nL) e, hc', vm r⟩
    · exact .inr ⟨k, a, c, ha, cellAt hc' fun o e => hk _ o (.inl (nC _ _ ha)) e, vm r⟩
end

section
variable {P : Par} {fns : Nat → Option Fn} {α α' α'' : List Addr} {N N' X : Addr → Prop} {ah ah' : AH} {env : Env} {ρ ρ' : AE} {s s' s1 s2 : Shared} {A : Around} {E : Value → Shared → Prop} {v : AV}
/-- what a comprehension's frame has -/
theorem compST {scope : Scope} {cap : List Nat} {C : Addr} {m : Str → Option Value} (K : CompOk env.scope.names scope cap) (S : ST P α N ah env ρ s) (hN : ∀ b, N b → N' b) (W : WS P α' N' ah' s') (hC : N' C) (hC0 : P.h₀.get? C = none) (hns : s'.heap.Ns C m)
    (hkN : ∀ b o, N b → s.heap.get? b = some o → s'.heap.get? b = some o) (hv : ∀ {v c}, VR P α N s.heap v c → VR P α' N' s'.heap v c) :
    ST P α' N' ah' (compEnvC scope (clo env scope.names []) C env) (capt ρ cap) s' := by
  have hf : ∀ n, (n, NameKind.free) ∈ scope.names → ∃ c, env.cells.lookup n = some c := fun n hn => S.fr.has n (K.free n hn)
  have en : (compEnvC scope (clo env scope.names []) C env).scope.names = relN env.scope.names scope.names := relabel_names S.fr.kind
  refine ⟨W.hr, W.ne, W.bk, W.bn, ⟨K.kind, S.fr.glb, S.fr.bui, fun e => ?_, ⟨m, hns⟩, hC, hC0, fun x c e => ?_, fun x e => ?_, fun x y c e1 e2 => ?_⟩, fun x v e => ?_⟩
  · exfalso
    rw [en, relN_look] at e
    obtain ⟨k, hk, hk'⟩ := Option.map_eq_some_iff.mp e
    split at hk'
    · cases hk'
    · subst hk'; exact K.nr hk
  · rcases clo_lookup _ _ _ _ hf e with q | q
    · obtain ⟨h1, h2, w, h3⟩ := S.fr.cells x c q
      exact ⟨hN _ h1, h2, w, cellAt h3 fun o e => hkN _ o h1 e⟩
    · cases q
  · have e' : (relN env.scope.names scope.names).lookup x = some .cell := by rw [← en]; exact e
    rw [relN_look] at e'
    obtain ⟨k, hk, hk'⟩ := Option.map_eq_some_iff.mp e'
    have hkf : k = .free := by
      by_cases q : (k == NameKind.free && env.scope.names.lookup x == some NameKind.cell) = true
      · exact beq_iff_eq.mp (Bool.and_eq_true _ _ ▸ q).1
      · rw [if_neg q] at hk'
        exact absurd hk' (K.nocell _ (mem_of_look hk))
    subst hkf
    obtain ⟨c, hc⟩ := Option.isSome_iff_exists.mp (clo_has (env := env) scope.names [] x (mem_of_look hk))
    exact ⟨c, hc⟩
  · rcases clo_lookup _ _ _ _ hf e1 with q1 | q1
    · rcases clo_lookup _ _ _ _ hf e2 with q2 | q2
      · exact S.fr.apart x y c q1 q2
      · cases q2
    · cases q1
  · unfold capt at e
    split at e
    · rename_i hx
      have hx' : x ∈ cap := by simpa using hx
      obtain ⟨h1, h2, h3⟩ := K.cap x hx'
      refine ⟨h1, .inr ?_⟩
      rcases (S.vars x v e).2 with ⟨k, _⟩ | ⟨k, a, c, ha, hc, r⟩
      · have k' : env.scope.names.lookup (nm x) = some .local := k
        rw [h3] at k'; cases k'
      · obtain ⟨c', hc'⟩ := Option.isSome_iff_exists.mp (clo_has (env := env) scope.names [] (nm x) (mem_of_look h2))
        have : c' = a := by
          rcases clo_lookup _ _ _ _ hf hc' with q | q
          · rw [ha] at q; cases q; rfl
          · cases q
        subst this
        refine ⟨?_, c', c, hc', cellAt hc fun o e => hkN _ o (S.fr.cells _ _ ha).1 e, hv r⟩
        show (compEnvC scope (clo env scope.names []) C env).scope.names.lookup (nm x) = some .cell
        rw [en, relN_look, h2, Option.map_some, h3]; rfl
    · cases e

/-- targets leave what a comprehension takes along -/
def tgV : TG → List Nat
  | .var x => [x]
  | .t2 a b => tgV a ++ tgV b
  | .t3 a b c => tgV a ++ tgV b ++ tgV c
theorem bind_off : ∀ (tg : TG) (v : AV) (ρ ρ' : AE), bindT tg v ρ = some ρ' → ∀ x, x ∉ tgV tg → ρ' x = ρ x := by
  intro tg
  induction tg with
  | var y =>
    intro v ρ ρ' h x hx
    simp only [bindT] at h; cases h
    simp only [tgV, List.mem_singleton] at hx
    simp [upd, hx]
  | t2 a b iha ihb =>
    intro v ρ ρ' h x hx
    obtain ⟨u, w, ρ1, rfl, h1, h2⟩ := bind2 h
    simp only [tgV, List.mem_append, not_or] at hx
    rw [ihb _ _ _ h2 x hx.2, iha _ _ _ h1 x hx.1]
  | t3 a b c iha ihb ihc =>
    intro v ρ ρ' h x hx
    obtain ⟨u, w, y, ρ1, ρ2, rfl, h1, h2, h3⟩ := bind3 h
    simp only [tgV, List.mem_append, not_or] at hx
    rw [ihc _ _ _ h3 x hx.2, ihb _ _ _ h2 x hx.1.2, iha _ _ _ h1 x hx.1.1]
theorem tgV_ok {ok : Nat → Str → Bool} : ∀ {tg : TG} {e : Expr}, chkTg ok tg e = true → ∀ x ∈ tgV tg, ∃ id, ok x id = true := by
  intro tg
  induction tg with
  | var y =>
    intro e h x hx
    unfold chkTg at h
    split at h
    · simp only [tgV, List.mem_singleton] at hx; subst hx; exact ⟨_, h⟩
    · cases h
  | t2 a b iha ihb =>
    intro e h x hx
    unfold chkTg at h
    split at h
    · simp only [Bool.and_eq_true] at h
      simp only [tgV, List.mem_append] at hx
      exact hx.elim (iha h.1 x) (ihb h.2 x)
    · cases h
  | t3 a b c iha ihb ihc =>
    intro e h x hx
    unfold chkTg at h
    split at h
    · simp only [Bool.and_eq_true] at h
      simp only [tgV, List.mem_append] at hx
      exact hx.elim (fun q => q.elim (iha h.1.1 x) (ihb h.1.2 x)) (ihc h.2 x)
    · cases h
theorem cap_keep {scope : Scope} {cap : List Nat} {sc : SC} {tg : TG} {e : Expr} {v : AV} (K : CompOk sc scope cap) (ht : chkT1 (relN sc scope.names) tg e = true) (hb : bindT tg v (capt ρ cap) = some ρ') :
    ∀ x w, capt ρ cap x = some w → ρ' x = some w := by
  intro x w h
  rw [bind_off tg v _ _ hb x fun hx => ?_]
  · exact h
  · obtain ⟨id, hid⟩ := tgV_ok ht x hx
    obtain ⟨rfl, _, h1, _⟩ := isLoc1_parts hid
    unfold capt at h
    split at h
    · rename_i hc
      obtain ⟨_, h2, h3⟩ := K.cap x (by simpa using hc)
      rw [relN_look, h2, Option.map_some, h3] at h1
      cases h1
    · cases h
end
end Mine

end

section
open PySem PySem.Spec PySem.Calls PyProof.Rows PySem.MeetsSeq PySem.W
set_option autoImplicit false
namespace Mine
section
variable {P : Par} {fns : Nat → Option Fn} {α α' α'' : List Addr} {N N' N2 X : Addr → Prop} {ah ah' : AH} {env cenv : Env} {ρ ρ' ρc : AE} {s s' s1 s2 : Shared} {A : Around} {E : Value → Shared → Prop} {v : AV}

theorem chkO_len {sc : SC} {ifs : OE} {fs : List Expr} (h : chkO sc ifs fs = true) : fs.length ≤ 1 := by
  cases ifs with
  | none => cases fs with
    | nil => exact Nat.zero_le _
    | cons => simp [chkO] at h
  | some c =>
    unfold chkO at h
    split at h
    · exact Nat.le_refl _
    · cases h
theorem tests_ok {m : Nat} (B : STP P fns m) {ifs : OE} {fs : List Expr} {t : Bool} {Q : Bool → Shared → Prop}
    (ha : (match ifs with | .none => some (true, ah) | .some c => att fns m c ρ ah) = some (t, ah')) (hc : chkO env.scope.names ifs fs = true) (S : ST P α N ah env ρ s) (R : Room m A)
    (h : ∀ α' s', Stp NoX α s α' s' → HR P α' N ah' s'.heap → Q t s') :
    testsW P.prog P.w A env fs Q E s := by
  cases ifs with
  | none =>
    cases fs with
    | nil => cases ha; exact h α s .refl S.hr
    | cons => simp [chkO] at hc
  | some c =>
    unfold chkO at hc
    split at hc
    · exact B c _ ρ ah t ah' env s α N A E _ hc ha S R h
    · cases hc

structure LoopC (P : Par) (N N' N2 : Addr → Prop) (s : Shared) (cenv : Env) (src : Src) (n0 : Nat) (D : Addr) : Prop where
  fN : ∀ b, Fp src n0 b → N' b
  f0 : ∀ b, Fp src n0 b → s.heap.get? b = none
  fh : ∀ b, Fp src n0 b → P.h₀.get? b = none
  c0 : s.heap.get? cenv.locals = none
  cF : ¬ Fp src n0 cenv.locals
  cN : N' cenv.locals
  d0 : s.heap.get? D = none
  dF : ¬ Fp src n0 D
  dN : N' D
  dh : P.h₀.get? D = none
  dC : D ≠ cenv.locals
  cells : ∀ x c, cenv.cells.lookup x = some c → ¬ Fp src n0 c ∧ c ≠ D
  two : ∀ b, N2 b → N' b ∧ ¬ Fp src n0 b

theorem Itr_step {src : Src} {n0 k : Nat} {Y : Addr → Prop} (It : ItR P α N s.heap n0 k src) (H : HR P α N ah s.heap) (hF : ∀ b, Fp src n0 b → N b) (x : Stp Y α s α' s') (hY : ∀ b, Y b → N b) (hn : ∀ b, Fp src n0 b → ¬ Y b) : ItR P α' N s'.heap n0 k src :=
  It.map (fun r => r.step x hY) (fun b o hb e => x.grow.keep b o (fun q => H.off b q (hF b hb)) (hn b hb) e) fun b o e => x.grow.live b o e

theorem next_use {src : Src} {n k : Nat} {tg : TG} {ok : Nat → Str → Bool} {target : Expr} {Q0 : Option Value → Shared → Prop} {Qa : Value → Shared → Prop} {E' : Value → Shared → Prop} (hconv : ∀ c s1, wpAny (model P.prog P.w) A (letOwnedTupleGo target (.ref (itv src n)) c) (fun _ s2 => Qa c s2) E' s1 → Q0 (some c) s1)
    (ht : chkTg ok tg target = true) (hk : okTg src tg = true) (ne : ∀ b, N b → ∃ o, s.heap.get? b = some o)
    (I : ItR P α N s.heap n k src) (H : HR P α N ah s.heap) (hN : ∀ b, Fp src n b → N b) (e : srcGet ah k src = some v) (hq : NextPost P α N ah s src n k v Qa) :
    wpAny (model P.prog P.w) A (pyNext (.ref (itv src n))) Q0 E s :=
  wpAny_mono (next_item ht hk ne I H hN e hq) (fun r s₁ h => by obtain ⟨c, rfl, h⟩ := h; exact hconv c s₁ h) fun _ _ e => e

theorem comp_loop {nmax : Nat} (I : ∀ k, k < nmax → SEP P fns k) (B : ∀ k, k < nmax → STP P fns k) {elt : EE} {tg : TG} {ifs : OE} {src : Src} {n0 : Nat} {D : Addr} {elt' t' i' : Expr} {fs' : List Expr} {scope : Scope} {pos : Pos}
    {xs : List AV} {ahf : AH} {R : Result → Shared → Prop}
    (L : LoopC P N N' N2 s cenv src n0 D) (ht : chkT1 cenv.scope.names tg t' = true) (hok : okTg src tg = true) (he : chkE cenv.scope.names elt elt' = true) (hf : chkO cenv.scope.names ifs fs' = true)
    (hcap : ∀ v ρ', bindT tg v ρc = some ρ' → ∀ x w, ρc x = some w → ρ' x = some w) (Rm : Room nmax A)
    (hR : ∀ α' sf vs nn, Stp NoX α s α' sf → HR P α' N2 ahf sf.heap → sf.heap.get? D = some (lstO vs nn) → VRs P α' N2 sf.heap xs vs → (∃ m, sf.heap.Ns cenv.locals m) → R (.ok .next) sf)
    {acc : List AV} {vs : List Value} {nn k : Nat} {ahk : AH} (ha : acomp fns nmax elt tg ifs ρc src k acc ahk = some (xs, ahf)) (x0 : Stp NoX α s α' s') (S : ST P α' N' ahk cenv ρc s') (It : ItR P α' N' s'.heap n0 k src)
    (gD : s'.heap.get? D = some (lstO vs nn)) (rv : VRs P α' N' s'.heap acc vs) :
    codeAny (model P.prog P.w) A (.compLoop (.ListComp elt' [⟨t', i', fs', 0⟩] scope pos) 0 (.ref (itv src n0)) (.ref D) cenv) R s' := by
  refine loop_tests (chkO_len hf) (fun n s' => ∃ α' acc vs nn k ahk, n ≤ nmax ∧ acomp fns n elt tg ifs ρc src k acc ahk = some (xs, ahf) ∧ Stp NoX α s α' s' ∧ ST P α' N' ahk cenv ρc s' ∧ ItR P α' N' s'.heap n0 k src ∧
    s'.heap.get? D = some (lstO vs nn) ∧ VRs P α' N' s'.heap acc vs) ?_ nmax ⟨α', acc, vs, nn, k, ahk, Nat.le_refl _, ha, x0, S, It, gD, rv⟩
  clear ha x0 S It gD rv
  rintro n s' ⟨α', acc, vs, nn, k, ahk, hle, ha, x0, S, It, gD, rv⟩
  cases n with
  | zero => simp only [acomp] at ha; cases ha
  | succ m =>
    have Im := I m hle
    have Bm := B m hle
    have Rm' : Room m A := Rm.mono (Nat.le_of_lt hle)
    simp only [acomp] at ha
    split at ha
    · rename_i hsrc
      cases ha
      refine next_end Rm.hh It S.hr L.fN hsrc fun h' tk hk => ?_
      have H' : HR P α' N' ahf h' := S.hr.offN fun b o hb e => hk b o (fun q => hb (L.fN b q)) e
      refine hR α' _ vs nn (x0.fin hk L.f0) (H'.grow (fun b q => .inl (L.two b q).1) fun _ _ e => e) (hk D _ L.dF gD) (rv.map .refl (fun b q => .inl (L.two b q).1) fun b o _ hb e => hk b o (fun q => hb (L.fN b q)) e) ?_
      obtain ⟨mm, hm⟩ := S.fr.ns
      exact ⟨mm, hm.at' fun o e => hk _ o L.cF e⟩
    · rename_i v hsrc
      obtain ⟨ρ', hb, ha⟩ := Option.bind_eq_some_iff.mp ha
      obtain ⟨t, h1, ha⟩ := Option.bind_eq_some_iff.mp ha
      split at ha
      · rename_i hlen
        refine next_use (fun c s1 h => h) ht hok S.ne It S.hr L.fN hsrc ?_
        intro c h' tk x1 H1 r1 It1
        have S1 := S.off x1 H1 L.fN L.cF (fun x c e => (L.cells x c e).1) L.fh
        refine bind_gen Rm.hh (ownL_N S1) stores_loc tg t' v c ρc ρ' _ _ ht hb S1 r1 fun s2 x2 S2 => ?_
        have It2 := Itr_step It1 H1 L.fN x2 (ownL_N S1) fun b hb q => L.cF (by rw [show b = cenv.locals from q] at hb; exact hb)
        have fresh2 : Stp NoX α s α' s2 := (x0.fresh x1 L.f0).fresh x2 fun b q => by rw [show b = cenv.locals from q]; exact L.c0
        have nD : ∀ {β : List Addr} {a : AH} {hx : Heap}, HR P β N' a hx → D ∉ β := fun H q => H.off D q L.dN
        have gD2 : s2.heap.get? D = some (lstO vs nn) := x2.grow.keep D _ (nD H1) L.dC (x1.grow.keep D _ (nD S.hr) L.dF gD)
        have rv2 : VRs P α' N' s2.heap acc vs := (rv.step x1 L.fN).step x2 (ownL_N S1)
        refine tests_ok Bm h1 hf S2 Rm' fun α3 s3 x3 H3 => ?_
        have S3 := S2.step x3 H3
        have It3 := Itr_step It2 S2.hr L.fN x3 NoX_N fun _ _ q => q
        have gD3 := x3.grow.keep D _ (nD S2.hr) id gD2
        have rv3 := rv2.step x3 NoX_N
        cases ht1 : t.1 with
        | false =>
          simp only [Bool.false_eq_true, if_false]
          rw [ht1] at ha
          simp only [Bool.false_eq_true, if_false] at ha
          exact ⟨m, Nat.lt_succ_self m, α3, acc, vs, nn, k + 1, t.2, Nat.le_of_lt hle, ha, fresh2.trans x3, S3.less (hcap v ρ' hb), It3, gD3, rv3⟩
        | true =>
          simp only [if_true]
          rw [ht1] at ha
          simp only [if_true] at ha
          obtain ⟨p, h2, ha⟩ := Option.bind_eq_some_iff.mp ha
          refine Im elt elt' ρ' t.2 p.1 p.2 cenv s3 α3 N' A _ _ he h2 S3 Rm' fun α4 s4 y x4 H4 r4 => ?_
          have S4 := S3.step x4 H4
          have It4 := Itr_step It3 S3.hr L.fN x4 NoX_N fun _ _ q => q
          have gD4 := x4.grow.keep D _ (nD S3.hr) id gD3
          have rv4 := rv3.step x4 NoX_N
          refine wpAny_list_append_plain (hsz := by rw [List.size_toArray, ← rv4.length, sizeLine_eq]; omega) ⟨nn, gD4⟩ fun h5 hl5 hs5 => ?_
          obtain ⟨nn5, g5⟩ := hl5
          have g5' : h5.get? D = some (lstO (vs ++ [y]) nn5) := by rw [g5]; simp
          have x5 : Stp (fun b => b = D) α4 s4 α4 { s4 with heap := h5 } := stp_samebut rfl hs5 ⟨_, g5⟩
          have H5 : HR P α4 N' p.2 h5 := H4.offN fun b o hb e => hs5.extBut b o (fun q => hb (q ▸ L.dN)) e
          have dX : ∀ b, b = D → N' b := fun b q => q ▸ L.dN
          have S5 := S4.off x5 H5 dX (fun q => L.dC q.symm) (fun x c e q => (L.cells x c e).2 q) (fun b q => q ▸ L.dh)
          refine ⟨m, Nat.lt_succ_self m, α4, acc ++ [p.1], vs ++ [y], nn5, k + 1, p.2, Nat.le_of_lt hle, ha, ((fresh2.trans x3).trans x4).fresh x5 fun b q => q ▸ L.d0, S5.less (hcap v ρ' hb),
            Itr_step It4 H4 L.fN x5 dX (fun b hb q => L.dF (q ▸ hb)), g5', (rv4.step x5 dX).append (.cons (r4.step x5 dX) .nil)⟩
      · cases ha
end
end Mine

end

section
open PySem PySem.Spec PySem.Calls PyProof.Rows PySem.MeetsSeq PySem.W
set_option autoImplicit false
namespace Mine
section
variable {P : Par} {fns : Nat → Option Fn} {α α' α'' : List Addr} {N N' N2 X : Addr → Prop} {ah ah' : AH} {env cenv : Env} {ρ ρ' ρc : AE} {s s' s1 s2 : Shared} {A : Around} {E : Value → Shared → Prop} {v : AV}

theorem okTg_of {n : Nat} {it : IT} {tg : TG} {src : Src} (h : okTgt it tg = true) (ha : ait fns n it ρ ah = some (src, ah')) : okTg src tg = true := by
  cases n with
  | zero => simp only [ait] at ha; cases ha
  | succ n =>
    cases it with
    | e a =>
      simp only [ait] at ha
      obtain ⟨p, _, ha⟩ := Option.bind_eq_some_iff.mp ha
      split at ha
      · cases ha; rfl
      · cases ha
    | range a =>
      simp only [ait] at ha
      obtain ⟨p, _, ha⟩ := Option.bind_eq_some_iff.mp ha
      split at ha
      · split at ha
        · cases ha; cases tg <;> first | rfl | cases h
        · cases ha
      · cases ha
    | zip as =>
      simp only [ait] at ha
      obtain ⟨p, _, ha⟩ := Option.bind_eq_some_iff.mp ha
      split at ha
      · split at ha
        · cases ha; cases tg <;> first | rfl | cases h
        · cases ha
      · split at ha
        · cases ha; cases tg <;> first | rfl | cases h
        · cases ha
      · cases ha
    | ezip as =>
      simp only [ait] at ha
      obtain ⟨p, _, ha⟩ := Option.bind_eq_some_iff.mp ha
      split at ha
      · split at ha
        · cases ha; cases tg <;> first | rfl | cases h
        · cases ha
      · cases ha

theorem comp_core {n : Nat} (I : ∀ k, k < n → SEP P fns k) (B : ∀ k, k < n → STP P fns k) (IT_ : SITP P fns n) {elt : EE} {tg : TG} {it : IT} {ifs : OE} {cap : List Nat} {elt' t' i' : Expr} {fs' : List Expr} {scope : Scope} {pos : Pos}
    {src : Src} {ah1 ahf : AH} {xs : List AV} {RR : Value → Addr → Result → Shared → Prop}
    (K : CompOk env.scope.names scope cap) (hokt : okTgt it tg = true) (ht : chkT1 (relN env.scope.names scope.names) tg t' = true) (hi : chkIT env.scope.names it i' = true) (he : chkE (relN env.scope.names scope.names) elt elt' = true)
    (hf : chkO (relN env.scope.names scope.names) ifs fs' = true) (h1 : ait fns n it ρ ah = some (src, ah1)) (h2 : acomp fns n elt tg ifs (capt ρ cap) src 0 [] ah1 = some (xs, ahf)) (S : ST P α N ah env ρ s) (Rm : Room n A)
    (hRR : ∀ D C α' sf vs nn m, Stp NoX α s α' sf → HR P α' (fun b => N b ∨ b = C ∨ b = D) ahf sf.heap → sf.heap.get? D = some (lstO vs nn) → VRs P α' (fun b => N b ∨ b = C ∨ b = D) sf.heap xs vs → sf.heap.Ns C m →
      s.heap.get? D = none → s.heap.get? C = none → D ≠ C → RR (.ref D) C (.ok .next) sf) :
    wpAny (model P.prog P.w) A (eval i' env) (fun x s₁ => wpAny (model P.prog P.w) A (pyIter x) (fun it s₂ => wpAny (model P.prog P.w) A (newList []) (fun acc s₃ =>
      wpAny (model P.prog P.w) A (newFunctionEnv scope env.globals (clo env scope.names []) [] env.qual none .none (some env)) (fun cenv s₄ =>
        codeAny (model P.prog P.w) A (.compStart (.ListComp elt' [⟨t', i', fs', 0⟩] scope pos) 0 it acc { cenv with scope := relabel scope env }) (RR acc cenv.locals) s₄) E s₃) E s₂) E s₁) E s := by
  refine IT_ it i' ρ ah src ah1 env s α N A E _ hi h1 S Rm fun α1 s2 n0 x1 H1 It hF0 => ?_
  refine wpAny_newObj_type (wpAny_newFunctionEnv K.nocell (by intro y hy; simp at hy) (fun h₁ hns₁ hsb₁ => ?_) K.kind)
  dsimp only at hns₁ hsb₁ ⊢
  generalize hD : s2.heap.objs.size = D at *
  generalize hH2 : s2.heap.push { cls := .type "list", dict := none, data := .seq ([] : List Value).toArray } = H2 at hns₁ hsb₁ ⊢
  have hCe : H2.objs.size = D + 1 := by rw [← hH2, Heap.size_push, hD]
  generalize hC : H2.objs.size = C at *
  have gD2 : H2.get? D = some (lstO [] 0) := by rw [← hH2, ← hD]; exact Heap.get?_push_size _ rfl
  have up2 : ∀ b o, s2.heap.get? b = some o → H2.get? b = some o := fun b o e => by rw [← hH2]; exact Heap.get?_push_of_some _ e
  have ltD : ∀ b o, s2.heap.get? b = some o → b < D := fun b o e => hD ▸ Heap.lt_size e
  have up : ∀ b o, s2.heap.get? b = some o → h₁.get? b = some o := fun b o e => hsb₁.extBut b o (Nat.ne_of_lt (by rw [hCe]; exact Nat.lt_succ_of_lt (ltD b o e))) (Heap.get?_push_of_some _ (up2 b o e))
  have gD : h₁.get? D = some (lstO [] 0) := hsb₁.extBut D _ (Nat.ne_of_lt (by omega)) (Heap.get?_push_of_some _ gD2)
  have D2 : s2.heap.get? D = none := fresh_none (Nat.le_of_eq hD)
  have C2 : s2.heap.get? C = none := fresh_none (by rw [hD]; omega)
  have D0 : s.heap.get? D = none := x1.none_of D2
  have C0 : s.heap.get? C = none := x1.none_of C2
  have DC : D ≠ C := Nat.ne_of_lt (by omega)
  have h0 : ∀ b, s.heap.get? b = none → P.h₀.get? b = none := fun b e => by
    cases q : P.h₀.get? b with
    | none => rfl
    | some o => have := S.bk b o q; rw [e] at this; cases this
  have x2 : Stp NoX α1 s2 α1 { s2 with heap := h₁, toks := s2.toks + ([] : List (Str × Value)).length } := .of_keep up
  have hkS : ∀ b o, N b → s.heap.get? b = some o → h₁.get? b = some o := fun b o hb e => up b o (x1.grow.keep b o (fun q => S.hr.off b q hb) id e)
  have W : WS P α1 (fun b => NF N src n0 b ∨ b = C ∨ b = D) ah1 { s2 with heap := h₁, toks := s2.toks + ([] : List (Str × Value)).length } := by
    refine ⟨H1.grow (fun b q => q.imp id fun q => q.elim (fun q => q ▸ C2) (fun q => q ▸ D2)) up, fun b q => ?_, fun b o e => ?_, fun b o e => .inl (.inl (S.bn b o e))⟩
    · rcases q with (q | q) | q | q
      · obtain ⟨o, e⟩ := S.ne b q; exact ⟨o, hkS b o q e⟩
      · obtain ⟨o, e⟩ := It.live b q; exact ⟨o, up b o e⟩
      · obtain ⟨o, _, _, e, _⟩ := hns₁; exact ⟨o, q ▸ e⟩
      · exact ⟨_, q ▸ gD⟩
    · exact hkS b o (S.bn b o e) (S.bk b o e)
  have Fne : ∀ b, Fp src n0 b → b ≠ C ∧ b ≠ D := fun b hb => by
    obtain ⟨o, e⟩ := It.live b hb
    exact ⟨fun q => (by rw [q, C2] at e; cases e), fun q => (by rw [q, D2] at e; cases e)⟩
  have cST := compST (s' := { s2 with heap := h₁, toks := s2.toks + ([] : List (Str × Value)).length }) (C := C) K S (N' := fun b => NF N src n0 b ∨ b = C ∨ b = D) (fun b q => .inl (.inl q)) W (.inr (.inl rfl)) (h0 C C0) hns₁ hkS
    (fun {v c} r => by
      refine r.map (x1.ext.of_step) (fun b q => ?_) fun b o hb hn e => up b o (x1.grow.keep b o hb id e)
      rcases q with (q | q) | q | q
      · exact .inl q
      · exact .inr (hF0 b q)
      · exact .inr (q ▸ C0)
      · exact .inr (q ▸ D0))
  have It2 : ItR P α1 (fun b => NF N src n0 b ∨ b = C ∨ b = D) h₁ n0 0 src :=
    It.map (fun r => r.map .refl (fun b q => q.imp id fun q => q.elim (fun q => q ▸ C2) (fun q => q ▸ D2)) fun b o _ _ e => up b o e) (fun b o _ e => up b o e) fun b o e => ⟨o, up b o e⟩
  have en : (compEnvC scope (clo env scope.names []) C env).scope.names = relN env.scope.names scope.names := relabel_names S.fr.kind
  have hfree : ∀ m, (m, NameKind.free) ∈ scope.names → ∃ c, env.cells.lookup m = some c := fun m hm => S.fr.has m (K.free m hm)
  have L : LoopC P N (fun b => NF N src n0 b ∨ b = C ∨ b = D) (fun b => N b ∨ b = C ∨ b = D) s (compEnvC scope (clo env scope.names []) C env) src n0 D := by
    refine ⟨fun b q => .inl (.inr q), hF0, fun b q => h0 b (hF0 b q), C0, fun q => (Fne _ q).1 rfl, .inr (.inl rfl), D0, fun q => (Fne _ q).2 rfl, .inr (.inr rfl), h0 D D0, DC, fun x c e => ?_, fun b q => ?_⟩
    · rcases clo_lookup _ _ _ _ hfree e with q | q
      · obtain ⟨hc1, _⟩ := S.fr.cells x c q
        obtain ⟨o, ho⟩ := S.ne c hc1
        exact ⟨fun q => (by rw [hF0 c q] at ho; cases ho), fun q => (by rw [q, D0] at ho; cases ho)⟩
      · cases q
    · rcases q with q | q | q
      · refine ⟨.inl (.inl q), fun hb => ?_⟩
        obtain ⟨o, ho⟩ := S.ne b q
        rw [hF0 b hb] at ho; cases ho
      · exact ⟨.inr (.inl q), fun hb => (Fne b hb).1 q⟩
      · exact ⟨.inr (.inr q), fun hb => (Fne b hb).2 q⟩
  have loop : ∀ s₃ : Shared, s₃ = { s2 with heap := h₁, toks := s2.toks + ([] : List (Str × Value)).length } →
      codeAny (model P.prog P.w) A (.compLoop (.ListComp elt' [⟨t', i', fs', 0⟩] scope pos) 0 (.ref (itv src n0)) (.ref D) (compEnvC scope (clo env scope.names []) C env)) (RR (.ref D) C) s₃ := by
    rintro s₃ rfl
    refine comp_loop I B L (by rw [en]; exact ht) (okTg_of hokt h1) (by rw [en]; exact he) (by rw [en]; exact hf) (fun v ρ' hb => cap_keep K ht hb) Rm ?_ h2 (x1.trans x2) cST It2 gD .nil
    intro α' sf vs nn xf Hf gf rf ⟨m, hm⟩
    exact hRR D C α' sf vs nn m xf Hf gf rf hm D0 C0 DC
  exact codeAny_compStart_list (loop _ rfl) (iter_self It2 (loop _ rfl))
end
end Mine

end

section
open PySem PySem.Spec PySem.Calls PyProof.Rows PySem.MeetsSeq PySem.W
set_option autoImplicit false
namespace Mine
section
variable {P : Par} {fns : Nat → Option Fn} {α α' α'' : List Addr} {N N' N2 X : Addr → Prop} {ah ah' : AH} {env cenv : Env} {ρ ρ' ρc : AE} {s s' s1 s2 sf : Shared} {A : Around} {E : Value → Shared → Prop} {v : AV}

def cres (m : Bool) (xs : List AV) (ah : AH) : AV × AH := if m then (.ref ah.length, ah ++ [xs]) else (.lst xs, ah)

/-- the list that a comprehension made -/
theorem comp_fin {m : Bool} {C D : Addr} {xs : List AV} {ahf : AH} {vs : List Value} {nn : Nat} (S : ST P α N ah env ρ s) (x : Stp NoX α s α' sf) (H : HR P α' (fun b => N b ∨ b = C ∨ b = D) ahf sf.heap) (g : sf.heap.get? D = some (lstO vs nn))
    (r : VRs P α' (fun b => N b ∨ b = C ∨ b = D) sf.heap xs vs) (hD : s.heap.get? D = none) (hDC : D ≠ C) :
    ∃ α₂, Stp NoX α s α₂ sf ∧ HR P α₂ (fun b => N b ∨ b = C) (cres m xs ahf).2 sf.heap ∧ VR P α₂ (fun b => N b ∨ b = C) sf.heap (cres m xs ahf).1 (.ref D) := by
  have hsub : ∀ b, (N b ∨ b = C) → N b ∨ b = C ∨ b = D := fun b q => q.imp id .inl
  have hnD : ¬ (N D ∨ D = C) := fun q => q.elim (fun q => by obtain ⟨o, e⟩ := S.ne D q; rw [hD] at e; cases e) hDC
  cases m with
  | true =>
    refine ⟨α' ++ [D], ⟨?_, x.grow, x.os, x.gens⟩, H.thaw g (.inr (.inr rfl)) r hsub hnD, .ref H.ne0 ?_⟩
    · obtain ⟨β, e, h⟩ := x.ext
      refine ⟨β ++ [D], by rw [e, List.append_assoc], fun a ha => ?_⟩
      rcases List.mem_append.mp ha with ha | ha
      · exact h a ha
      · rw [List.mem_singleton.mp ha]; exact .inr hD
    · rw [← H.len, List.getElem?_append_right (Nat.le_refl _), Nat.sub_self]; rfl
  | false =>
    refine ⟨α', x, H.grow (fun b q => .inl (hsub b q)) fun _ _ e => e, .lst g (fun q => H.off D q (.inr (.inr rfl))) hnD (r.map .refl (fun b q => .inl (hsub b q)) fun _ _ _ _ e => e)⟩

theorem noFold {sc : SC} {it : IT} {x : Expr} (h : chkIT sc it x = true) (env : Env) (c : Value) : foldedSetIterable x env c = pure c := by
  cases x <;> first | rfl | (cases it <;> first | (simp [chkIT] at h; done) | skip)
  rename_i a
  cases a <;> simp [chkIT, chkE] at h

theorem comp_split {n : Nat} {elt : EE} {tg : TG} {it : IT} {ifs : OE} {m : Bool} {cap : List Nat} {x : Expr} (hc : chkE env.scope.names (.comp elt tg it ifs m cap) x = true) (ha : ae fns (n + 1) (.comp elt tg it ifs m cap) ρ ah = some (v, ah')) :
    ∃ elt' t' i' fs' scope pos src ah1 xs ahf, x = .ListComp elt' [⟨t', i', fs', 0⟩] scope pos ∧ okTgt it tg = true ∧ CompOk env.scope.names scope cap ∧ chkT1 (relN env.scope.names scope.names) tg t' = true ∧ chkIT env.scope.names it i' = true ∧
      chkE (relN env.scope.names scope.names) elt elt' = true ∧ chkO (relN env.scope.names scope.names) ifs fs' = true ∧ ait fns n it ρ ah = some (src, ah1) ∧ acomp fns n elt tg ifs (capt ρ cap) src 0 [] ah1 = some (xs, ahf) ∧ cres m xs ahf = (v, ah') := by
  unfold chkE at hc
  split at hc
  · rename_i elt' t' i' fs' scope pos
    simp only [Bool.and_eq_true] at hc
    simp only [ae] at ha
    obtain ⟨p, h1, ha⟩ := Option.bind_eq_some_iff.mp ha
    obtain ⟨q, h2, ha⟩ := Option.bind_eq_some_iff.mp ha
    refine ⟨elt', t', i', fs', scope, pos, p.1, p.2, q.1, q.2, rfl, hc.1.1.1.1.1, okComp_parts hc.1.1.1.1.2, hc.1.1.1.2, hc.1.1.2, hc.1.2, hc.2, h1, h2, ?_⟩
    unfold cres
    cases m with
    | true => simp only [if_true] at ha ⊢; cases ha; rfl
    | false => simp only [Bool.false_eq_true, if_false] at ha ⊢; cases ha; rfl
  · cases hc

theorem comp_ok {n : Nat} (I : ∀ k, k < n → SEP P fns k) (B : ∀ k, k < n → STP P fns k) (IT_ : SITP P fns n) (elt tg it ifs m cap) : SE1 P fns (n + 1) (.comp elt tg it ifs m cap) := by
  intro x ρ ah v ah' env s α N A E Q hc ha S R hq
  obtain ⟨elt', t', i', fs', scope, pos, src, ah1, xs, ahf, rfl, hok, K, ht, hi, he, hf, h1, h2, hv⟩ := comp_split hc ha
  rw [eval_ListComp]
  refine wpAny_comprehension_free (use := none) rfl (noFold hi env) (closure_ok fun n hn => S.fr.has n (K.free n hn)) K.kind (fun y hy hl => K.loc y hy hl) ?_
  refine comp_core (RR := fun acc C => compPost (model P.prog P.w) A E none Q acc C) I B IT_ K hok ht hi he hf h1 h2 S (R.mono (Nat.le_succ n)) fun D C α' sf vs nn m' xf Hf gf rf hns hD0 hC0 hDC => ?_
  obtain ⟨α₂, y, H2, r2⟩ := comp_fin (m := m) S xf Hf gf rf hD0 hDC
  rw [hv] at H2 r2
  refine ⟨m', hns, fun h' hs' => ?_⟩
  have hk : ∀ b o, ¬ (N b ∨ b = C) → sf.heap.get? b = some o → h'.get? b = some o := fun b o hb e => hs'.extBut b o (fun q => hb (.inr q)) e
  exact hq α₂ _ _ (y.fin (X := fun b => b = C) (fun b o hb e => hs'.extBut b o hb e) fun b (q : b = C) => by rw [q]; exact hC0) ((H2.offN hk).grow (fun b q => .inl (.inl q)) fun _ _ e => e) (r2.map .refl (fun b q => .inl (.inl q)) fun b o _ hb e => hk b o hb e)

/-- a comprehension whose list is used before its names go -/
theorem comp_use {n : Nat} (I : ∀ k, k < n → SEP P fns k) (B : ∀ k, k < n → STP P fns k) (IT_ : SITP P fns n) {elt tg it ifs m cap} {elt' t' i' : Expr} {fs' : List Expr} {scope : Scope} {pos cpos : Pos} {u : Value → Sem Unit} {Q : Value → Shared → Prop}
    (hc : chkE env.scope.names (.comp elt tg it ifs m cap) (.ListComp elt' [⟨t', i', fs', 0⟩] scope pos) = true) (ha : ae fns (n + 1) (.comp elt tg it ifs m cap) ρ ah = some (v, ah')) (S : ST P α N ah env ρ s) (R : Room n A)
    (h : ∀ α₂ sf C c, Stp NoX α s α₂ sf → ST P α₂ (fun b => N b ∨ b = C) ah' env ρ sf → VR P α₂ (fun b => N b ∨ b = C) sf.heap v c → s.heap.get? C = none → (∃ m, sf.heap.Ns C m) →
      wpAny (model P.prog P.w) A (u c) (fun _ s'' => (∃ m, s''.heap.Ns C m) ∧ ∀ h', Heap.SameBut C s''.heap h' → Q .none { s'' with heap := h' }) E sf) :
    wpAny (model P.prog P.w) A (comprehension (.ListComp elt' [⟨t', i', fs', 0⟩] scope pos) scope env cpos (newList []) false (eval i' env) (some u)) Q E s := by
  obtain ⟨_, _, _, _, _, _, src, ah1, xs, ahf, hx, hok, K, ht, hi, he, hf, h1, h2, hv⟩ := comp_split hc ha
  cases hx
  refine wpAny_comprehension_free (use := some u) rfl (noFold hi env) (closure_ok fun n hn => S.fr.has n (K.free n hn)) K.kind (fun y hy hl => K.loc y hy hl) ?_
  refine comp_core (RR := fun acc C => compPost (model P.prog P.w) A E (some u) Q acc C) I B IT_ K hok ht hi he hf h1 h2 S R fun D C α' sf vs nn m' xf Hf gf rf hns hD0 hC0 hDC => ?_
  obtain ⟨α₂, y, H2, r2⟩ := comp_fin (m := m) S xf Hf gf rf hD0 hDC
  rw [hv] at H2 r2
  have Sf : ST P α₂ (fun b => N b ∨ b = C) ah' env ρ sf := S.lift y H2 (fun b q => .inl q) (fun b q => Or.imp id (fun (q : b = C) => by rw [q]; exact hC0) q) fun b q => by
    rcases q with q | q
    · obtain ⟨o, e⟩ := S.ne b q; exact y.grow.live b o e
    · obtain ⟨o, _, _, e, _⟩ := hns; exact ⟨o, q ▸ e⟩
  refine wpAny_mono (h α₂ sf C _ y Sf r2 hC0 ⟨_, hns⟩) (fun _ s'' hq => ?_) fun _ _ e => e
  obtain ⟨⟨m, hm⟩, h'⟩ := hq
  exact ⟨m, hm, h'⟩
end
end Mine

end

section
open PySem PySem.Spec PySem.Calls PyProof.Rows PySem.MeetsSeq PySem.W
set_option autoImplicit false
namespace Mine

section
variable {prog : Program} {w : World} {A : Around} {E : Value → Shared → Prop} {s : Shared} {env : Env}

theorem setItem_lst {l : Addr} {vs : List Value} {n : Nat} {k : Int} {t : Tok} {v : Value} {Q : Unit → Shared → Prop} (hl : s.heap.get? l = some (lstO vs n))
    (h0 : 0 ≤ k) (hfit : k < 2 ^ 63) (hn : k < vs.length)
    (hQ : ∀ h' n', h'.get? l = some (lstO (vs.set k.toNat v) n') → Heap.SameBut l s.heap h' → Q () { s with heap := h' }) :
    wpAny (model prog w) A (setItem (.ref l) (.int k t) v) Q E s := by
  have hT : s.TypeIs (.ref l) "list" := ⟨_, hl, rfl⟩
  have hd : (lstO vs n).data = .seq vs.toArray n := rfl
  unfold setItem
  try with_reducible refine wpAny_holding ?_
  first | refine wpAny_bind (wpAny_pure ?_) | skip
  refine wpAny_bind (wpAny_sequenceKey hT (by decide) ?_)
  refine wpAny_bind (wpAny_callSpecial?_slot (name := Str.ofString "__setitem__") hT slot_list_setitem
    (wpAny_call_entry slot_list_setitem hT entry_list_setitem ?_ (args_list_setitem _ _ _)))
  show wpAny _ _ (Builtin.List.listSubscript? (.int k t) >>= _) _ _ s
  refine wpAny_bind (wpAny_listSubscript_int (fitsIndex_of h0 hfit) ?_)
  clear hfit
  obtain ⟨j, rfl⟩ := Int.eq_ofNat_of_zero_le h0
  have hj : j < vs.toArray.size := by simp; omega
  have hx' : vs.toArray[j]? = some vs.toArray[j] := Array.getElem?_eq_getElem hj
  show wpAny _ _ ((seqItemAt l j >>= fun r => pure (r.map (j, ·))) >>= _) _ _ s
  refine wpAny_bind (wpAny_bind (wpAny_seqItemAt hl hd (wpAny_pure ?_)))
  rw [hx']
  show wpAny _ _ (setSeqItemAt l j v >>= _) _ _ s
  have hfin : ∃ n', (s.heap.update l (Obj.mapSeq (·.setIfInBounds j v))).get? l = some (lstO (vs.set j v) n') := by
    obtain ⟨n', hd'⟩ := Obj.data_mapSeq hd (·.setIfInBounds j v)
    refine ⟨n', ?_⟩
    rw [Heap.get?_update_self _ hl (Obj.isFreed_of_seq hd')]
    have e : (lstO vs n).mapSeq (·.setIfInBounds j v) = { lstO vs n with data := ((lstO vs n).mapSeq (·.setIfInBounds j v)).data } := by simp [Obj.mapSeq]
    rw [e, hd']
    simp
  obtain ⟨n', hfin⟩ := hfin
  refine wpAny_bind (wpAny_setSeqItemAt hl hd ?_)
  first
    | exact wpAny_bind (wpAny_pure (wpAny_pure ⟨.none, rfl, wpAny_pure (hQ _ n' hfin (Heap.SameBut.update ..))⟩))
    | exact wpAny_pure ⟨.none, rfl, wpAny_pure (hQ _ n' hfin (Heap.SameBut.update ..))⟩

theorem swapped2 {i1 i2 : Str} {p1 p2 pos pos' : Pos} {k k' : Nat} {vs : List Expr} (hv : vs.all (constantsAlone 8) = false) :
    swappedStores [.Tuple [.Name i1 p1, .Name i2 p2] k pos] (.Tuple vs k' pos') env = pure none ∨
    (swappedStores [.Tuple [.Name i1 p1, .Name i2 p2] k pos] (.Tuple vs k' pos') env = pure (some [i1, i2]) ∧ i1 ≠ i2 ∧ vs.length = 2) := by
  unfold swappedStores
  dsimp only
  split
  · exact .inl rfl
  rename_i c1
  split
  · exact .inl rfl
  split
  · exact .inl rfl
  rename_i c3
  split
  · exact .inl rfl
  rw [hv]
  refine .inr ?_
  have hlen : vs.length = 2 := by simp at c1; exact c1.1
  by_cases h1 : (env.kindOf i1 == some NameKind.local && p1.line == p1.line) = true
  · by_cases h2 : (env.kindOf i2 == some NameKind.local && p2.line == p1.line) = true
    · simp only [List.filterMap_cons, List.filterMap_nil, List.head?_cons, Option.map_some, Option.getD_some, Expr.pos, h1, h2, if_true] at c3 ⊢
      refine ⟨rfl, fun e => ?_, hlen⟩
      subst e
      simp [List.eraseDups_cons] at c3
    · simp only [List.filterMap_cons, List.filterMap_nil, List.head?_cons, Option.map_some, Option.getD_some, Expr.pos, h1, h2, if_true] at c3
      simp at c3
  · exfalso
    simp only [List.filterMap_cons, List.filterMap_nil, List.head?_cons, Option.map_some, Option.getD_some, Expr.pos, h1] at c3
    by_cases h2 : (env.kindOf i2 == some NameKind.local && p2.line == p1.line) = true
    · simp [h2] at c3
    · simp [h2] at c3

theorem swapped3 {i1 i2 i3 : Str} {p1 p2 p3 pos pos' : Pos} {k k' : Nat} {vs : List Expr} (hv : vs.all (constantsAlone 8) = false) :
    swappedStores [.Tuple [.Name i1 p1, .Name i2 p2, .Name i3 p3] k pos] (.Tuple vs k' pos') env = pure none ∨
    (swappedStores [.Tuple [.Name i1 p1, .Name i2 p2, .Name i3 p3] k pos] (.Tuple vs k' pos') env = pure (some [i1, i2, i3]) ∧ i1 ≠ i2 ∧ i1 ≠ i3 ∧ i2 ≠ i3 ∧ vs.length = 3) := by
  unfold swappedStores
  dsimp only
  split
  · exact .inl rfl
  rename_i c1
  split
  · exact .inl rfl
  split
  · exact .inl rfl
  rename_i c3
  split
  · exact .inl rfl
  rw [hv]
  refine .inr ?_
  have hlen : vs.length = 3 := by simp at c1; exact c1.1
  by_cases h1 : (env.kindOf i1 == some NameKind.local && p1.line == p1.line) = true <;> by_cases h2 : (env.kindOf i2 == some NameKind.local && p2.line == p1.line) = true <;>
    by_cases h3 : (env.kindOf i3 == some NameKind.local && p3.line == p1.line) = true
  · simp only [List.filterMap_cons, List.filterMap_nil, List.head?_cons, Option.map_some, Option.getD_some, Expr.pos, h1, h2, h3, if_true] at c3 ⊢
    by_cases e12 : i1 = i2
    · exfalso; subst e12
      by_cases e13 : i1 = i3
      · subst e13; simp [List.eraseDups_cons] at c3
      · simp [List.eraseDups_cons, Ne.symm e13] at c3
    · by_cases e13 : i1 = i3
      · exfalso; subst e13
        simp [List.eraseDups_cons, Ne.symm e12] at c3
      · by_cases e23 : i2 = i3
        · exfalso; subst e23
          simp [List.eraseDups_cons, Ne.symm e12] at c3
        · exact ⟨rfl, e12, e13, e23, hlen⟩
  all_goals
    exfalso
    simp only [List.filterMap_cons, List.filterMap_nil, List.head?_cons, Option.map_some, Option.getD_some, Expr.pos, h1, h2, h3, if_true] at c3
    simp at c3
end
end Mine

end

section
open PySem PySem.Spec PySem.Calls PyProof.Rows PySem.MeetsSeq PySem.W
set_option autoImplicit false
namespace Mine

def FlR (P : Par) (α : List Addr) (N : Addr → Prop) (h : Heap) : AFl → Flow → Prop
  | .nx, f => f = .next
  | .brk, f => f = .brk
  | .cn, f => f = .cont
  | .ret v, f => ∃ c, f = .ret c ∧ VR P α N h v c

def SXP (P : Par) (fns : Nat → Option Fn) (m : Nat) : Prop := ∀ st x ρ ah fl ρ' ah' env s α N A E (Q : Flow → Shared → Prop), chkS env.scope.names st x = true → ax fns m st ρ ah = some (fl, ρ', ah') → ST P α N ah env ρ s → Room m A →
  (∀ α' s' f, Stp (Own env) α s α' s' → ST P α' N ah' env ρ' s' → FlR P α' N s'.heap fl f → Q f s') → wpAny (model P.prog P.w) A (exec x env) Q E s
def SXSP (P : Par) (fns : Nat → Option Fn) (m : Nat) : Prop := ∀ ss xs ρ ah fl ρ' ah' env s α N A E (Q : Flow → Shared → Prop), chkSL env.scope.names ss xs = true → axs fns m ss ρ ah = some (fl, ρ', ah') → ST P α N ah env ρ s → Room m A →
  (∀ α' s' f, Stp (Own env) α s α' s' → ST P α' N ah' env ρ' s' → FlR P α' N s'.heap fl f → Q f s') → wpAny (model P.prog P.w) A (execs xs env) Q E s

structure All (P : Par) (fns : Nat → Option Fn) (m : Nat) : Prop where
  e : ∀ k, k ≤ m → SEP P fns k
  es : ∀ k, k ≤ m → SESP P fns k
  t : ∀ k, k ≤ m → STP P fns k
  i : ∀ k, k ≤ m → SITP P fns k
  c : ∀ k, k ≤ m → CallP P fns k
  x : ∀ k, k ≤ m → SXP P fns k
  xs : ∀ k, k ≤ m → SXSP P fns k

section
variable {P : Par} {fns : Nat → Option Fn} {α α' α'' : List Addr} {N N' N2 X : Addr → Prop} {ah ah' : AH} {env cenv : Env} {ρ ρ' ρc : AE} {s s' s1 s2 sf : Shared} {A : Around} {E : Value → Shared → Prop} {v : AV}

theorem upd_comm {x y : Nat} {u w : AV} (h : x ≠ y) : upd (upd ρ x u) y w = upd (upd ρ y w) x u := by
  funext z
  unfold upd
  by_cases h1 : z = y
  · by_cases h2 : z = x
    · exact absurd (h2.symm.trans h1) h
    · simp [h1, Ne.symm h]
  · by_cases h2 : z = x <;> simp [h1, h2, h]

theorem noX_own : ∀ b, NoX b → Own env b := fun _ q => q.elim

/-- a value is stored -/
theorem assign1_ok {tg : TG} {t : Expr} {c : Value} {ρ' : AE} {Q : Unit → Shared → Prop} (hh : A.handled = none) (ht : chkT env.scope.names tg t = true) (hb : bindT tg v ρ = some ρ') (S : ST P α N ah env ρ s) (r : VR P α N s.heap v c)
    (h : ∀ s', Stp (Own env) α s α s' → ST P α N ah env ρ' s' → Q () s') : wpAny (model P.prog P.w) A (assignAll c ((assignEach [t] env).map (·.2))) Q E s := by
  rw [each_ok ht]
  show wpAny _ A (assign t env c) Q E s
  exact bind_gen hh (own_N S) stores_own tg t v c ρ ρ' s Q ht hb S r h

theorem chkT_var {sc : SC} {x : Nat} {t : Expr} (h : chkT sc (.var x) t = true) : ∃ id p, t = .Name id p ∧ isLoc sc x id = true := by
  unfold chkT chkTg at h
  split at h
  · exact ⟨_, _, rfl, h⟩
  · cases h

theorem bindName_ok {x : Nat} {id : Str} {c : Value} {Q : Unit → Shared → Prop} (S : ST P α N ah env ρ s) (hl : isLoc env.scope.names x id = true) (r : VR P α N s.heap v c)
    (h : ∀ s', Stp (Own env) α s α s' → ST P α N ah env (upd ρ x v) s' → Q () s') : wpAny (model P.prog P.w) A (bindName env id c) Q E s := wpAny_bindName (store_ok S hl r h)

/-- a value is stored, in whatever order -/
theorem stores_ok {tg : TG} {t value : Expr} {e : EE} {c : Value} {ρ' : AE} {Q : Flow → Shared → Prop} (hh : A.handled = none) (hfl : flatT tg = true) (ht : chkT env.scope.names tg t = true) (hns : notSwapConst [t] value = true) (hc : chkE env.scope.names e value = true) (hb : bindT tg v ρ = some ρ') (S : ST P α N ah env ρ s) (r : VR P α N s.heap v c)
    (h : ∀ s', Stp (Own env) α s α s' → ST P α N ah env ρ' s' → Q .next s') :
    wpAny (model P.prog P.w) A (do assignStores env c (← swappedStores [t] value env) ((assignEach [t] env).map (·.2))) Q E s := by
  have plain : swappedStores [t] value env = pure none → wpAny (model P.prog P.w) A (do assignStores env c (← swappedStores [t] value env) ((assignEach [t] env).map (·.2))) Q E s := fun q => by
    rw [q]
    refine wpAny_bind (wpAny_pure ?_)
    show wpAny _ A (do assignAll c ((assignEach [t] env).map (·.2)); pure .next) Q E s
    exact wpAny_bind (assign1_ok hh ht hb S r fun s' x S' => wpAny_pure (h s' x S'))
  cases tg with
  | var x =>
    obtain ⟨id, p, rfl, _⟩ := chkT_var ht
    exact plain rfl
  | t2 a b =>
    cases a <;> cases b <;> first | (cases hfl; done) | skip
    rename_i x y
    unfold chkT chkTg at ht
    split at ht
    · rename_i tp tq _ _
      simp only [Bool.and_eq_true] at ht
      obtain ⟨i1, p1, rfl, l1⟩ := chkT_var ht.1
      obtain ⟨i2, p2, rfl, l2⟩ := chkT_var ht.2
      by_cases hv : ∃ vs k' pos', value = .Tuple vs k' pos'
      · obtain ⟨vs, k', pos', rfl⟩ := hv
        have hv' : vs.all (constantsAlone 8) = false := by simpa [notSwapConst] using hns
        rcases swapped2 (env := env) (p1 := p1) (p2 := p2) hv' with q | ⟨q, hne, hlen⟩
        · exact plain q
        · obtain ⟨u, w, ρ1, rfl, hb1, hb2⟩ := bind2 hb
          simp only [bindT, Option.some.injEq] at hb1 hb2
          obtain ⟨l, cs, n, rfl, g, rs⟩ := tupR r
          cases rs with
          | cons ru rs => cases rs with
            | cons rw rs =>
              cases rs
              rename_i cu cw
              have e1 := isLoc_parts l1
              have e2 := isLoc_parts l2
              have hxy : x ≠ y := fun e => hne (by rw [e1.1, e2.1, e])
              rw [q]
              refine wpAny_bind (wpAny_pure ?_)
              unfold assignStores
              refine wpAny_bind (wpAny_rule ?_)
              refine wpAny_bind ?_
              refine wpAny_unpackItems_tuple (items := #[cu, cw]) hh ⟨_, g, rfl, n, by rfl⟩ fun h' hx => ?_
              show wpAny _ A (assignInOrder [fun v => bindName env i2 v, fun v => bindName env i1 v] [cw, cu] >>= fun _ => pure Flow.next) Q E _
              have hk := ext_keep hx
              have x0 : Stp (Own env) α s α { s with heap := h' } := .of_keep hk
              have S1 : ST P α N ah env ρ { s with heap := h' } := S.more hk
              refine wpAny_bind (wpAny_assignInOrder_more (bindName_ok S1 l2 (rw.step x0 (own_N S)) fun s2 x2 S2 => ?_))
              refine wpAny_assignInOrder_more (bindName_ok S2 l1 ((ru.step x0 (own_N S)).step x2 (own_N S)) fun s3 x3 S3 => wpAny_assignInOrder_none (wpAny_pure ?_))
              refine h s3 ((x0.trans x2).trans x3) ?_
              rw [← hb2, ← hb1, upd_comm hxy]; exact S3
      · refine plain ?_
        cases value <;> first | rfl | (exact absurd ⟨_, _, _, rfl⟩ hv)
    · cases ht
  | t3 a b d =>
    cases a <;> cases b <;> cases d <;> first | (cases hfl; done) | skip
    rename_i x y z
    unfold chkT chkTg at ht
    split at ht
    · simp only [Bool.and_eq_true] at ht
      obtain ⟨i1, p1, rfl, l1⟩ := chkT_var ht.1.1
      obtain ⟨i2, p2, rfl, l2⟩ := chkT_var ht.1.2
      obtain ⟨i3, p3, rfl, l3⟩ := chkT_var ht.2
      by_cases hv : ∃ vs k' pos', value = .Tuple vs k' pos'
      · obtain ⟨vs, k', pos', rfl⟩ := hv
        have hv' : vs.all (constantsAlone 8) = false := by simpa [notSwapConst] using hns
        rcases swapped3 (env := env) (p1 := p1) (p2 := p2) (p3 := p3) hv' with q | ⟨q, h12, h13, h23, hlen⟩
        · exact plain q
        · obtain ⟨u, w, y', ρ1, ρ2, rfl, hb1, hb2, hb3⟩ := bind3 hb
          simp only [bindT, Option.some.injEq] at hb1 hb2 hb3
          obtain ⟨l, cs, n, rfl, g, rs⟩ := tupR r
          cases rs with
          | cons ru rs => cases rs with
            | cons rw rs => cases rs with
              | cons ry rs =>
                cases rs
                rename_i cu cw cy
                have e1 := isLoc_parts l1
                have e2 := isLoc_parts l2
                have e3 := isLoc_parts l3
                have hxy : x ≠ y := fun e => h12 (by rw [e1.1, e2.1, e])
                have hxz : x ≠ z := fun e => h13 (by rw [e1.1, e3.1, e])
                have hyz : y ≠ z := fun e => h23 (by rw [e2.1, e3.1, e])
                rw [q]
                refine wpAny_bind (wpAny_pure ?_)
                unfold assignStores
                refine wpAny_bind (wpAny_rule ?_)
                refine wpAny_bind ?_
                refine wpAny_unpackItems_tuple (items := #[cu, cw, cy]) hh ⟨_, g, rfl, n, by rfl⟩ fun h' hx => ?_
                show wpAny _ A (assignInOrder [fun v => bindName env i3 v, fun v => bindName env i2 v, fun v => bindName env i1 v] [cy, cw, cu] >>= fun _ => pure Flow.next) Q E _
                have hk := ext_keep hx
                have x0 : Stp (Own env) α s α { s with heap := h' } := .of_keep hk
                have S1 : ST P α N ah env ρ { s with heap := h' } := S.more hk
                refine wpAny_bind (wpAny_assignInOrder_more (bindName_ok S1 l3 (ry.step x0 (own_N S)) fun s2 x2 S2 => ?_))
                refine wpAny_assignInOrder_more (bindName_ok S2 l2 ((rw.step x0 (own_N S)).step x2 (own_N S)) fun s3 x3 S3 => ?_)
                refine wpAny_assignInOrder_more (bindName_ok S3 l1 (((ru.step x0 (own_N S)).step x2 (own_N S)).step x3 (own_N S)) fun s4 x4 S4 => wpAny_assignInOrder_none (wpAny_pure ?_))
                refine h s4 (((x0.trans x2).trans x3).trans x4) ?_
                rw [← hb3, ← hb2, ← hb1, upd_comm hyz, upd_comm hxz, upd_comm hxy]; exact S4
      · refine plain ?_
        cases value <;> first | rfl | (exact absurd ⟨_, _, _, rfl⟩ hv)
    · cases ht
end
end Mine

end

section
open PySem PySem.Spec PySem.Calls PyProof.Rows PySem.MeetsSeq PySem.W
set_option autoImplicit false
namespace Mine
section
variable {P : Par} {fns : Nat → Option Fn} {α α' α'' : List Addr} {N N' N2 X : Addr → Prop} {ah ah' : AH} {env cenv : Env} {ρ ρ' ρc : AE} {s s' s1 s2 sf : Shared} {A : Around} {E : Value → Shared → Prop} {v : AV}

theorem swaps_ok {e : EE} {value t : Expr} {line : Nat} (hc : chkE env.scope.names e value = true) : ∃ b, swapsWith value (some t) line env = pure b ∧ (b = true → ∃ a g sc p, value = .ListComp a g sc p) := by
  cases value with
  | ListComp a g sc p => cases t <;> exact ⟨_, rfl, fun _ => ⟨_, _, _, _, rfl⟩⟩
  | SetComp => cases e <;> simp [chkE] at hc
  | DictComp => cases e <;> simp [chkE] at hc
  | _ => exact ⟨false, rfl, by simp⟩

theorem Stp.own (x : Stp NoX α s α' s') : Stp (Own env) α s α' s' := x.weaken noX_own

theorem asg_ok {n : Nat} (L : All P fns n) {tg : TG} {e : EE} {t value : Expr} {pos : Pos} {fl : AFl} {Q : Flow → Shared → Prop} (hc : chkS env.scope.names (.asg tg e) (.Assign [t] value pos) = true)
    (ha : ax fns (n + 1) (.asg tg e) ρ ah = some (fl, ρ', ah')) (S : ST P α N ah env ρ s) (R : Room (n + 1) A)
    (h : ∀ α' s' f, Stp (Own env) α s α' s' → ST P α' N ah' env ρ' s' → FlR P α' N s'.heap fl f → Q f s') : wpAny (model P.prog P.w) A (exec (.Assign [t] value pos) env) Q E s := by
  have Rn := R.mono (Nat.le_succ n)
  simp only [chkS, Bool.and_eq_true] at hc
  obtain ⟨⟨⟨hfl, ht⟩, hce⟩, hns⟩ := hc
  simp only [ax] at ha
  obtain ⟨p, h1, ha⟩ := Option.bind_eq_some_iff.mp ha
  obtain ⟨ρ1, hb, ha⟩ := Option.map_eq_some_iff.mp ha
  cases ha
  rw [exec_Assign_arm]
  obtain ⟨b, hsw, hlc⟩ := swaps_ok (t := t) (line := pos.line) hce
  refine wpAny_bind (wpAny_standAt (wpAny_bind (wpAny_of_eq hsw ?_)))
  cases b with
  | false =>
    simp only [Bool.false_eq_true, if_false]
    refine wpAny_bind ?_
    refine L.e n (Nat.le_refl n) e value ρ ah p.1 p.2 env s α N A E _ hce h1 S Rn fun α1 s1 c x1 H1 r1 => ?_
    exact stores_ok R.hh hfl ht hns hce hb (S.step x1 H1) r1 fun s2 x2 S2 => h α1 s2 .next (x1.own.trans x2) S2 rfl
  | true =>
    simp only [if_true]
    obtain ⟨a, g, sc, cp, rfl⟩ := hlc rfl
    cases n with
    | zero => simp only [ae] at h1; cases h1
    | succ n =>
      cases e <;> first | (simp [chkE] at hce; done) | skip
      rename_i elt tg' it ifs m cap
      obtain ⟨t', i', fs', rfl⟩ : ∃ t' i' fs', g = [⟨t', i', fs', 0⟩] := by
        obtain ⟨_, t', i', fs', _, _, _, _, _, _, hx, _⟩ := comp_split hce h1
        cases hx; exact ⟨_, _, _, rfl⟩
      have ev : ∀ use : Value → Sem Unit, evalThenUse (.ListComp a [⟨t', i', fs', 0⟩] sc cp) env use = (do let _ ← comprehension (.ListComp a [⟨t', i', fs', 0⟩] sc cp) sc env (firstIterPos [⟨t', i', fs', 0⟩] cp) (newList []) false (eval i' env) (some use)) := fun _ => rfl
      rw [ev]
      refine wpAny_bind (wpAny_bind (wpAny_mono (Q := fun _ s' => Q .next s') (comp_use (fun k hk => L.e k (by omega)) (fun k hk => L.t k (by omega)) (L.i n (by omega)) hce h1 S (Rn.mono (Nat.le_succ n)) ?_) (fun _ s' hq => wpAny_pure (wpAny_pure hq)) fun _ _ e => e))
      intro α₂ sf C c y Sf r hC0 ⟨m', hm⟩
      refine assign1_ok R.hh ht hb Sf r fun s2 x2 S2 => ?_
      have hCN : ∀ b, N b → b ≠ C := fun b hb q => by obtain ⟨o, e⟩ := S.ne b hb; rw [q, hC0] at e; cases e
      have hCo : ¬ Own env C := fun q => hCN C (own_N S C q) rfl
      have hCα : C ∉ α₂ := fun q => Sf.hr.off C q (.inr rfl)
      refine ⟨⟨m', hm.at' fun o e => x2.grow.keep C o hCα hCo e⟩, fun h' hs' => ?_⟩
      have x3 : Stp (Own env) α s α₂ { s2 with heap := h' } := (y.own.trans x2).fin (X := fun b => b = C) (fun b o hb e => hs'.extBut b o hb e) fun b (q : b = C) => by rw [q]; exact hC0
      refine h α₂ _ .next x3 (S2.drop (fun b q => .inl q) (fun b o hb e => hs'.extBut b o (fun q => ?_) e) S.bn S.fr.nL fun x c e => (S.fr.cells x c e).1) rfl
      subst q
      exact hb.elim (fun q => hCN _ q rfl) fun q => q (.inr rfl)

/-- a list that turns has turned -/
theorem track_ok {r : Nat} {a : Addr} {xs : List AV} {vs : List Value} {n : Nat} {h' : Heap} {tk : Nat} (S : ST P α N ah env ρ s) (h0 : r ≠ 0) (hr : α[r]? = some a) (hs : Heap.SameBut a s.heap h') (g : h'.get? a = some (lstO vs n)) (rv : VRs P α N s.heap xs vs) :
    Stp NoX α s α { s with heap := h', toks := tk } ∧ ST P α N (ah.set r xs) env ρ { s with heap := h', toks := tk } := by
  have ha : a ∈ α := List.mem_of_getElem? hr
  have x : Stp NoX α s α { s with heap := h', toks := tk } := by
    refine ⟨.refl, ⟨fun b o hb _ e => hs.extBut b o (fun q => hb (q ▸ ha)) e, fun b o e => ?_⟩, rfl, id⟩
    by_cases q : b = a
    · subst q; exact ⟨_, g⟩
    · exact ⟨o, hs.extBut b o q e⟩
  exact ⟨x, S.step x (S.hr.set h0 hr (fun b o hb e => hs.extBut b o hb e) g rv)⟩

theorem refAt {r : Nat} {a : Addr} {xs : List AV} (H : HR P α N ah s.heap) (h0 : r ≠ 0) (hr : α[r]? = some a) (e : ah[r]? = some xs) : ∃ vs n, s.heap.get? a = some (lstO vs n) ∧ VRs P α N s.heap xs vs := by
  obtain ⟨b, vs, n, e1, e2, e3⟩ := H.obj r xs h0 e
  rw [hr] at e1; cases e1
  exact ⟨vs, n, e2, e3⟩

theorem noInter (S : ST P α N ah env ρ s) : interactive env = false := by unfold interactive; rw [S.fr.kind]; rfl

/-- a while-loop -/
theorem while_ok {nmax : Nat} (L : ∀ k, k < nmax → STP P fns k ∧ SXSP P fns k) {t : EE} {b : SL} {t' : Expr} {b' : List Stmt} {fl : AFl} {R : Result → Shared → Prop} (ht : chkE env.scope.names t t' = true) (hb : chkSL env.scope.names b b' = true)
    (ha : awh fns nmax t b ρ ah = some (fl, ρ', ah')) (S : ST P α N ah env ρ s) (Rm : Room nmax A)
    (hR : ∀ α' s' f, Stp (Own env) α s α' s' → ST P α' N ah' env ρ' s' → FlR P α' N s'.heap fl f → R (.ok f) s') : codeAny (model P.prog P.w) A (.whileLoop t' b' [] env) R s := by
  refine codeAny_whileLoop (fun n s' => ∃ α' ρk ahk, n ≤ nmax ∧ awh fns n t b ρk ahk = some (fl, ρ', ah') ∧ Stp (Own env) α s α' s' ∧ ST P α' N ahk env ρk s') ?_ nmax ⟨α, ρ, ah, Nat.le_refl _, ha, .refl, S⟩
  rintro n s' ⟨α', ρk, ahk, hle, ha, x0, S'⟩
  cases n with
  | zero => simp only [awh] at ha; cases ha
  | succ m =>
    obtain ⟨Bm, Xm⟩ := L m hle
    have Rm' : Room m A := Rm.mono (Nat.le_of_lt hle)
    simp only [awh] at ha
    obtain ⟨p, h1, ha⟩ := Option.bind_eq_some_iff.mp ha
    refine Bm t t' ρk ahk p.1 p.2 env s' α' N A _ _ ht h1 S' Rm' fun α1 s1 x1 H1 => ?_
    have S1 := S'.step x1 H1
    cases hp : p.1 with
    | false =>
      rw [hp] at ha
      simp only [Bool.false_eq_true, if_false] at ha ⊢
      cases ha
      exact wpAny_execs_nil (hR α1 s1 .next (x0.trans x1.own) S1 rfl)
    | true =>
      rw [hp] at ha
      simp only [if_true] at ha ⊢
      obtain ⟨q, h2, ha⟩ := Option.bind_eq_some_iff.mp ha
      refine Xm b b' ρk p.2 q.1 q.2.1 q.2.2 env s1 α1 N A _ _ hb h2 S1 Rm' fun α2 s2 f x2 S2 hf => ?_
      have x02 := (x0.trans x1.own).trans x2
      cases hq : q.1 with
      | nx => rw [hq] at hf ha; cases hf; exact ⟨m, Nat.lt_succ_self m, α2, _, _, Nat.le_of_lt hle, ha, x02, S2⟩
      | cn => rw [hq] at hf ha; cases hf; exact ⟨m, Nat.lt_succ_self m, α2, _, _, Nat.le_of_lt hle, ha, x02, S2⟩
      | brk => rw [hq] at hf ha; cases hf; cases ha; exact hR α2 s2 .next x02 S2 rfl
      | ret v => rw [hq] at hf ha; obtain ⟨c, rfl, r⟩ := hf; cases ha; exact hR α2 s2 (.ret c) x02 S2 ⟨c, rfl, r⟩

/-- a for-loop, from its iterator on -/
theorem for_ok {nmax : Nat} (L : ∀ k, k < nmax → SXSP P fns k) {tg : TG} {src : Src} {n0 : Nat} {b o : SL} {t' : Expr} {b' o' : List Stmt} {fl : AFl} {R : Result → Shared → Prop} (ht : chkT env.scope.names tg t' = true) (hok : okTg src tg = true) (hb : chkSL env.scope.names b b' = true) (ho : chkSL env.scope.names o o' = true)
    (hF0 : ∀ b, Fp src n0 b → s.heap.get? b = none) (S0 : ST P α N ah env ρ s) {ah1 : AH} {α1 : List Addr} (ha : afor fns nmax tg src 0 b o ρ ah1 = some (fl, ρ', ah')) (x0 : Stp (Own env) α s α1 s1) (S : ST P α1 (NF N src n0) ah1 env ρ s1) (It : ItR P α1 (NF N src n0) s1.heap n0 0 src) (Rm : Room nmax A)
    (hR : ∀ α' s' f, Stp (Own env) α s α' s' → ST P α' N ah' env ρ' s' → FlR P α' N s'.heap fl f → R (.ok f) s') : codeAny (model P.prog P.w) A (.forLoop t' (.ref (itv src n0)) b' o' env) R s1 := by
  have FN : ∀ b, Fp src n0 b → ¬ N b := fun b hb q => by obtain ⟨o, e⟩ := S0.ne b q; rw [hF0 b hb] at e; cases e
  have h0 : ∀ b, Fp src n0 b → P.h₀.get? b = none := fun b hb => by
    cases q : P.h₀.get? b with
    | none => rfl
    | some o => exact absurd (S0.bn b o q) (FN b hb)
  have FO : ∀ b, Fp src n0 b → ¬ Own env b := fun b hb q => FN b hb (own_N S0 b q)
  have dropF : ∀ {β : List Addr} {ahx : AH} {ρx : AE} {sx : Shared} {h' : Heap} {tk : Nat}, ST P β (NF N src n0) ahx env ρx sx → (∀ b o, ¬ Fp src n0 b → sx.heap.get? b = some o → h'.get? b = some o) → ST P β N ahx env ρx { sx with heap := h', toks := tk } :=
    fun Sx hk => Sx.drop (fun b q => .inl q) (fun b o hb e => hk b o (fun q => hb.elim (FN b q) fun z => z (.inr q)) e) S0.bn S0.fr.nL fun x c e => (S0.fr.cells x c e).1
  refine codeAny_forLoop_any (fun n s' => ∃ α' ρk ahk k, n ≤ nmax ∧ afor fns n tg src k b o ρk ahk = some (fl, ρ', ah') ∧ Stp (Own env) α s α' s' ∧ ST P α' (NF N src n0) ahk env ρk s' ∧ ItR P α' (NF N src n0) s'.heap n0 k src) ?_ nmax ⟨α1, ρ, ah1, 0, Nat.le_refl _, ha, x0, S, It⟩
  clear ha x0 S It
  rintro n s' ⟨α', ρk, ahk, k, hle, ha, x0, S, It⟩
  cases n with
  | zero => simp only [afor] at ha; cases ha
  | succ m =>
    have Xm := L m hle
    have Rm' : Room m A := Rm.mono (Nat.le_of_lt hle)
    simp only [afor] at ha
    split at ha
    · rename_i hsrc
      refine next_end Rm.hh It S.hr (fun b q => .inr q) hsrc fun h' tk hk => ?_
      have S2 : ST P α' N ahk env ρk { s' with heap := h', toks := tk } := dropF S hk
      have x2 : Stp (Own env) α s α' { s' with heap := h', toks := tk } := x0.fin hk hF0
      exact Xm o o' ρk ahk fl ρ' ah' env _ α' N A _ _ ho ha S2 Rm' fun α2 s2 f x3 S3 hf => hR α2 s2 f (x2.trans x3) S3 hf
    · rename_i v hsrc
      obtain ⟨ρ1, hbd, ha⟩ := Option.bind_eq_some_iff.mp ha
      obtain ⟨q, h2, ha⟩ := Option.bind_eq_some_iff.mp ha
      refine next_use (fun c s1 h => h) ht hok S.ne It S.hr (fun b q => .inr q) hsrc ?_
      intro c h' tk y1 H1 r1 It1
      have S1 := S.off y1 H1 (fun b q => .inr q) (fun q => FO _ q (.inl rfl)) (fun x c e q => FO _ q (.inr ⟨x, e⟩)) h0
      refine bind_gen Rm.hh (own_N S1) stores_own tg t' v c ρk ρ1 _ _ ht hbd S1 r1 fun s2 x2 S2 => ?_
      have It2 := Itr_step It1 H1 (fun b q => .inr q) x2 (own_N S1) FO
      have x02 : Stp (Own env) α s α' s2 := by
        have y : Stp (Own env) α s α' { s' with heap := h', toks := tk } := x0.fresh y1 hF0
        exact y.trans x2
      refine Xm b b' ρ1 ahk q.1 q.2.1 q.2.2 env s2 α' (NF N src n0) A _ _ hb h2 S2 Rm' fun α3 s3 f x3 S3 hf => ?_
      have It3 := Itr_step It2 S2.hr (fun b q => .inr q) x3 (own_N S2) FO
      have x03 := x02.trans x3
      have vm : ∀ {v c}, VR P α3 (NF N src n0) s3.heap v c → VR P α3 N s3.heap v c := fun r => r.map .refl (fun b q => .inl (.inl q)) fun _ _ _ _ e => e
      have S3' : ST P α3 N q.2.2 env q.2.1 s3 := dropF (tk := s3.toks) S3 fun b o _ e => e
      cases hq : q.1 with
      | nx => rw [hq] at hf ha; cases hf; exact ⟨m, Nat.lt_succ_self m, α3, _, _, k + 1, Nat.le_of_lt hle, ha, x03, S3, It3⟩
      | cn => rw [hq] at hf ha; cases hf; exact ⟨m, Nat.lt_succ_self m, α3, _, _, k + 1, Nat.le_of_lt hle, ha, x03, S3, It3⟩
      | brk => rw [hq] at hf ha; cases hf; cases ha; exact hR α3 s3 .next x03 S3' rfl
      | ret v => rw [hq] at hf ha; obtain ⟨c, rfl, r⟩ := hf; cases ha; exact hR α3 s3 (.ret c) x03 S3' ⟨c, rfl, vm r⟩
end
end Mine

end

section
open PySem PySem.Spec PySem.Calls PyProof.Rows PySem.MeetsSeq PySem.W
set_option autoImplicit false
namespace Mine
section
variable {P : Par} {fns : Nat → Option Fn} {α α' α'' : List Addr} {N N' N2 X : Addr → Prop} {ah ah' : AH} {env cenv : Env} {ρ ρ' ρc : AE} {s s' s1 s2 sf : Shared} {A : Around} {E : Value → Shared → Prop} {v : AV}

theorem xs_ok {n : Nat} (X : SXP P fns n) (XS : SXSP P fns n) : SXSP P fns (n + 1) := by
  intro ss xs ρ ah fl ρ' ah' env s α N A E Q hc ha S R h
  have Rn := R.mono (Nat.le_succ n)
  cases ss with
  | nil =>
    cases xs with
    | nil => simp only [axs] at ha; cases ha; exact wpAny_execs_nil (h α s .next .refl S rfl)
    | cons => simp [chkSL] at hc
  | cons st r =>
    cases xs with
    | nil => simp [chkSL] at hc
    | cons x xs =>
      simp only [chkSL, Bool.and_eq_true] at hc
      simp only [axs] at ha
      obtain ⟨p, h1, ha⟩ := Option.bind_eq_some_iff.mp ha
      refine wpAny_execs_cons ?_
      refine X st x ρ ah p.1 p.2.1 p.2.2 env s α N A E _ hc.1 h1 S Rn fun α1 s1 f x1 S1 hf => ?_
      cases hp : p.1 with
      | nx =>
        rw [hp] at hf ha; cases hf
        exact XS r xs p.2.1 p.2.2 fl ρ' ah' env s1 α1 N A E Q hc.2 ha S1 Rn fun α2 s2 f x2 S2 hf => h α2 s2 f (x1.trans x2) S2 hf
      | brk => rw [hp] at hf ha; cases hf; obtain ⟨q1, q2, q3⟩ := p; cases ha; cases hp; exact h α1 s1 .brk x1 S1 rfl
      | cn => rw [hp] at hf ha; cases hf; obtain ⟨q1, q2, q3⟩ := p; cases ha; cases hp; exact h α1 s1 .cont x1 S1 rfl
      | ret v => rw [hp] at hf ha; obtain ⟨c, rfl, r⟩ := hf; obtain ⟨q1, q2, q3⟩ := p; cases ha; cases hp; exact h α1 s1 (.ret c) x1 S1 ⟨c, rfl, r⟩

theorem x_ok (T : Top P fns) {n : Nat} (L : All P fns n) : SXP P fns (n + 1) := by
  intro st x ρ ah fl ρ' ah' env s α N A E Q hc ha S R h
  have Rn := R.mono (Nat.le_succ n)
  have I := L.e n (Nat.le_refl n)
  have B := L.t n (Nat.le_refl n)
  cases st with
  | asg tg e =>
    cases x <;> first | (simp [chkS] at hc; done) | skip
    rename_i ts value pos
    rcases ts with _ | ⟨t, _ | ⟨t2, ts⟩⟩
    · simp [chkS] at hc
    · exact asg_ok L hc ha S R h
    · simp [chkS] at hc
  | asub y i e =>
    unfold chkS at hc; split at hc
    · rename_i nid np i' sp value pos
      simp only [Bool.and_eq_true] at hc
      obtain ⟨⟨hy, hi⟩, he⟩ := hc
      simp only [ax] at ha
      obtain ⟨p, h1, ha⟩ := Option.bind_eq_some_iff.mp ha
      obtain ⟨o, h2, ha⟩ := Option.bind_eq_some_iff.mp ha
      obtain ⟨q, h3, ha⟩ := Option.bind_eq_some_iff.mp ha
      split at ha
      · rename_i r k hk _
        obtain ⟨xs, h4, ha⟩ := Option.bind_eq_some_iff.mp ha
        split at ha
        · rename_i hb
          cases ha
          refine wpAny_Assign_Subscript ?_ (by cases value <;> rfl)
          refine I e value ρ ah p.1 p.2 env s α N A E _ he h1 S Rn fun α1 s1 c x1 H1 r1 => ?_
          have S1 := S.step x1 H1
          refine name_ok S1 hy h2 fun co ro => ?_
          cases ro with
          | ref h0 hr =>
            refine I i i' ρ p.2 q.1 q.2 env s1 α1 N A E _ hi h3 S1 Rn fun α2 s2 ci x2 H2 r2 => ?_
            rw [hk] at r2
            cases r2 with
            | int _ t =>
              have S2 := S1.step x2 H2
              have hr2 := x2.ext.get hr
              obtain ⟨vs, m, g, rs⟩ := refAt H2 h0 hr2 h4
              refine setItem_lst g hb.1 (by have := hb.2.1; have := hb.2.2; omega) (by rw [← rs.length]; exact hb.2.1) fun h' n' g' hs' => ?_
              obtain ⟨x3, S3⟩ := track_ok (tk := s2.toks) S2 h0 hr2 hs' g' (rs.set k.toNat (r1.step x2 NoX_N))
              exact h α2 _ .next (((x1.trans x2).trans x3).own) S3 rfl
        · cases ha
      · cases ha
    · cases hc
  | aug y op e =>
    unfold chkS at hc; split at hc
    · rename_i nid np op' value pos
      simp only [Bool.and_eq_true, beq_iff_eq] at hc
      obtain ⟨⟨hy, rfl⟩, he⟩ := hc
      simp only [ax] at ha
      obtain ⟨o, h2, ha⟩ := Option.bind_eq_some_iff.mp ha
      obtain ⟨p, h1, ha⟩ := Option.bind_eq_some_iff.mp ha
      refine wpAny_AugAssign_Name ?_
      refine load_ok S hy h2 fun co ro => ?_
      refine I e value ρ ah p.1 p.2 env s α N A E _ he h1 S Rn fun α1 s1 c x1 H1 r1 => ?_
      have S1 := S.step x1 H1
      split at ha
      · rename_i hp _ _
        cases ha
        cases ro
        rw [hp] at r1; cases r1
        refine PySem.P.iadd_int ?_
        refine store_ok (S1.more (tk := s1.toks + 1) fun _ _ e => e) hy (.int _ _) fun s2 x2 S2 => ?_
        exact h α1 s2 .next ((x1.own.trans (.of_keep fun _ _ e => e)).trans x2) S2 rfl
      · rename_i hp _ _
        cases ha
        cases ro
        rw [hp] at r1; cases r1
        refine PySem.P.isub_int ?_
        refine store_ok (S1.more (tk := s1.toks + 1) fun _ _ e => e) hy (.int _ _) fun s2 x2 S2 => ?_
        exact h α1 s2 .next ((x1.own.trans (.of_keep fun _ _ e => e)).trans x2) S2 rfl
      · cases ha
    · cases hc
  | appm y e =>
    unfold chkS at hc; split at hc
    · rename_i nid np attr apos a cpos pos
      simp only [Bool.and_eq_true, beq_iff_eq] at hc
      obtain ⟨⟨⟨hy, rfl⟩, hl⟩, he⟩ := hc
      simp only [ax] at ha
      obtain ⟨o, h2, ha⟩ := Option.bind_eq_some_iff.mp ha
      obtain ⟨p, h1, ha⟩ := Option.bind_eq_some_iff.mp ha
      split at ha
      · rename_i r _
        obtain ⟨xs, h4, ha⟩ := Option.bind_eq_some_iff.mp ha
        split at ha
        · rename_i hlen
          cases ha
          have ht : backTo cpos (starEach [a] env) = [(false, eval a env)] := by rw [star_ok he]; rfl
          refine wpAny_Expr (wpAny_Call_append rfl (by rw [ht]; rfl) (by simpa using hl) ht ?_) (noInter S) rfl
          refine name_ok S hy h2 fun co ro => ?_
          cases ro with
          | @ref la _ h0 hr =>
            have hr0 : r < ah.length := S.hr.len ▸ (List.getElem?_eq_some_iff.mp hr).1
            obtain ⟨vs0, n0, g0, _⟩ := refAt S.hr h0 hr (List.getElem?_eq_getElem hr0)
            refine ⟨_, _, rfl, ⟨_, _, g0, rfl, rfl, rfl⟩, ?_⟩
            refine I e a ρ ah p.1 p.2 env s α N A E _ he h1 S Rn fun α1 s1 c x1 H1 r1 => ?_
            have S1 := S.step x1 H1
            have hr1 := x1.ext.get hr
            obtain ⟨vs, m, g, rs⟩ := refAt H1 h0 hr1 h4
            refine wpAny_list_append_plain (hsz := by rw [List.size_toArray, ← rs.length, sizeLine_eq]; omega) ⟨m, g⟩ fun h' hl' hs' => ?_
            obtain ⟨m', g'⟩ := hl'
            have g'' : h'.get? la = some (lstO (vs ++ [c]) m') := by rw [g']; simp
            obtain ⟨x3, S3⟩ := track_ok (tk := s1.toks) S1 h0 hr1 hs' g'' (rs.append (.cons r1 .nil))
            exact h α1 _ .next ((x1.trans x3).own) S3 rfl
        · cases ha
      · cases ha
    · cases hc
  | app y e =>
    unfold chkS at hc; split at hc
    · rename_i nid np a cpos pos
      simp only [Bool.and_eq_true] at hc
      obtain ⟨hy, he⟩ := hc
      simp only [ax] at ha
      obtain ⟨o, h2, ha⟩ := Option.bind_eq_some_iff.mp ha
      obtain ⟨p, h1, ha⟩ := Option.bind_eq_some_iff.mp ha
      split at ha
      · rename_i r _
        obtain ⟨xs, h4, ha⟩ := Option.bind_eq_some_iff.mp ha
        split at ha
        · rename_i hlen
          cases ha
          refine wpAny_Expr (wpAny_Call_NameR ?_) (noInter S) rfl
          refine name_ok S hy h2 fun co ro => ?_
          cases ro with
          | app h0 hr ga hna hnN =>
            refine callW (sc := env.scope.names) (es := .cons e .nil) (by simp [chkES, he]) rfl ?_
            refine wpAny_items_cons ?_ (star_ok he _ _)
            refine I e a ρ ah p.1 p.2 env s α N A E _ he h1 S Rn fun α1 s1 c x1 H1 r1 => ?_
            have S1 := S.step x1 H1
            have ga1 := x1.grow.keep _ _ hna id ga
            refine wpAny_items_nil ⟨.app ga1, ?_⟩
            have hr1 := x1.ext.get hr
            obtain ⟨vs, m, g, rs⟩ := refAt H1 h0 hr1 h4
            refine T.appC A s1 _ _ vs m c _ E R.hh (by have := R.dep; omega) (by have := R.uni; omega) ga1 g (by rw [← rs.length]; exact hlen) fun h' n' g' hs' => ?_
            obtain ⟨x3, S3⟩ := track_ok (tk := s1.toks) S1 h0 hr1 hs' g' (rs.append (.cons r1 .nil))
            exact h α1 _ .next ((x1.trans x3).own) S3 rfl
        · cases ha
      · cases ha
    · cases hc
  | ite t a b =>
    unfold chkS at hc; split at hc
    · simp only [Bool.and_eq_true] at hc
      obtain ⟨⟨ht, h1⟩, h2⟩ := hc
      simp only [ax] at ha
      obtain ⟨p, h3, ha⟩ := Option.bind_eq_some_iff.mp ha
      refine wpAny_If ?_
      refine B t _ ρ ah p.1 p.2 env s α N A E _ ht h3 S Rn fun α1 s1 x1 H1 => ?_
      cases hp : p.1 with
      | true =>
        rw [hp] at ha
        simp only [if_true] at ha ⊢
        exact L.xs n (Nat.le_refl n) a _ ρ p.2 fl ρ' ah' env s1 α1 N A E Q h1 ha (S.step x1 H1) Rn fun α2 s2 f x2 S2 hf => h α2 s2 f (x1.own.trans x2) S2 hf
      | false =>
        rw [hp] at ha
        simp only [Bool.false_eq_true, if_false] at ha ⊢
        exact L.xs n (Nat.le_refl n) b _ ρ p.2 fl ρ' ah' env s1 α1 N A E Q h2 ha (S.step x1 H1) Rn fun α2 s2 f x2 S2 hf => h α2 s2 f (x1.own.trans x2) S2 hf
    · cases hc
  | whl t b =>
    unfold chkS at hc; split at hc
    · simp only [Bool.and_eq_true] at hc
      simp only [ax] at ha
      refine wpAny_While ?_
      exact while_ok (fun k hk => ⟨L.t k (Nat.le_of_lt hk), L.xs k (Nat.le_of_lt hk)⟩) hc.1 hc.2 ha S Rn fun α' s' f x S' hf => h α' s' f x S' hf
    · cases hc
  | for_ tg it b o =>
    unfold chkS at hc; split at hc
    · simp only [Bool.and_eq_true] at hc
      obtain ⟨⟨⟨⟨hok, ht⟩, hi⟩, hb⟩, ho⟩ := hc
      simp only [ax] at ha
      obtain ⟨p, h1, ha⟩ := Option.bind_eq_some_iff.mp ha
      refine wpAny_For ?_ (noFold hi env)
      refine L.i n (Nat.le_refl n) it _ ρ ah p.1 p.2 env s α N A E _ hi h1 S Rn fun α1 s1 n0 x1 H1 It hF0 => ?_
      have S1 : ST P α1 (NF N p.1 n0) p.2 env ρ s1 := S.lift x1 H1 (fun b q => .inl q) (fun b q => q.imp id (hF0 b)) fun b q => by
        rcases q with q | q
        · obtain ⟨o, e⟩ := S.ne b q; exact x1.grow.live b o e
        · exact It.live b q
      exact for_ok (fun k hk => L.xs k (Nat.le_of_lt hk)) ht (okTg_of hok h1) hb ho hF0 S ha x1.own S1 It Rn fun α' s' f x S' hf => h α' s' f x S' hf
    · cases hc
  | brk =>
    unfold chkS at hc; split at hc
    · simp only [ax] at ha; cases ha; exact wpAny_Break (h α s .brk .refl S rfl)
    · cases hc
  | cont =>
    unfold chkS at hc; split at hc
    · simp only [ax] at ha; cases ha; exact wpAny_Continue (h α s .cont .refl S rfl)
    · cases hc
  | ret e =>
    unfold chkS at hc; split at hc
    · simp only [ax] at ha
      obtain ⟨p, h1, ha⟩ := Option.map_eq_some_iff.mp ha
      cases ha
      refine wpAny_Return_some ?_
      exact I e _ ρ ah p.1 p.2 env s α N A E _ hc h1 S Rn fun α1 s1 c x1 H1 r1 => h α1 s1 (.ret c) x1.own (S.step x1 H1) ⟨c, rfl, r1⟩
    · cases hc
  | asrt t =>
    unfold chkS at hc; split at hc
    · simp only [ax] at ha
      obtain ⟨p, h1, ha⟩ := Option.bind_eq_some_iff.mp ha
      split at ha
      · rename_i hp
        cases ha
        refine wpAny_Assert_holds ?_
        exact B t _ ρ ah p.1 p.2 env s α N A E _ hc h1 S Rn fun α1 s1 x1 H1 => ⟨hp, h α1 s1 .next x1.own (S.step x1 H1) rfl⟩
      · cases ha
    · cases hc
  | doc =>
    unfold chkS at hc; split at hc
    · simp only [ax] at ha; cases ha
      refine wpAny_Expr (wpAny_Constant_str ?_) (noInter S) rfl
      exact h α _ .next (.of_keep fun _ _ e => e) (S.more fun _ _ e => e) rfl
    · cases hc
end
end Mine

end

section
open PySem PySem.Spec PySem.Calls PyProof.Rows PySem.MeetsSeq PySem.W
set_option autoImplicit false
namespace Mine

theorem cells_keep : ∀ (nms : SC) (n : Nat) (acc : List (Str × Addr)) (x : Str), (acc.lookup x).isSome = true → ((cellsFrom n nms acc).lookup x).isSome = true
  | [], _, _, _, h => h
  | (y, k) :: r, n, acc, x, h => by
    unfold cellsFrom
    split
    · refine cells_keep r _ _ x ?_
      by_cases hx : (x == y) = true
      · simp [List.lookup_cons, hx]
      · have hx' : (x == y) = false := by simpa using hx
        simpa [List.lookup_cons, hx'] using h
    · exact cells_keep r _ _ x h
theorem cells_has : ∀ (nms : SC) (n : Nat) (acc : List (Str × Addr)) (x : Str), (x, NameKind.cell) ∈ nms → ((cellsFrom n nms acc).lookup x).isSome = true
  | [], _, _, _, h => by cases h
  | (y, k) :: r, n, acc, x, h => by
    unfold cellsFrom
    rcases List.mem_cons.mp h with q | q
    · cases q
      rw [if_pos (by rfl)]
      exact cells_keep r _ _ _ (by simp [List.lookup_cons])
    · split
      · exact cells_has r _ _ x q
      · exact cells_has r _ _ x q

theorem bindL_not {kd : Str → Option NameKind} : ∀ (bs : List (Str × Value)) (m : Str → Option Value) (x : Str), (∀ p ∈ bs, p.1 ≠ x) → bindL kd bs m x = m x
  | [], _, _, _ => rfl
  | (n, v) :: r, m, x, h => by
    unfold bindL
    rw [bindL_not r _ x fun p hp => h p (List.mem_cons_of_mem _ hp)]
    split
    · show (if x = n then some v else m x) = m x
      exact if_neg (Ne.symm (h (n, v) List.mem_cons_self))
    · rfl
theorem bindC_not {kd : Str → Option NameKind} : ∀ (bs : List (Str × Value)) (m : Str → Option Value) (x : Str), (∀ p ∈ bs, p.1 ≠ x) → bindC kd bs m x = m x
  | [], _, _, _ => rfl
  | (n, v) :: r, m, x, h => by
    unfold bindC
    rw [bindC_not r _ x fun p hp => h p (List.mem_cons_of_mem _ hp)]
    split
    · rfl
    · show (if x = n then some v else m x) = m x
      exact if_neg (Ne.symm (h (n, v) List.mem_cons_self))
theorem bindL_at {kd : Str → Option NameKind} : ∀ (bs : List (Str × Value)) (m : Str → Option Value) (x : Str) (v : Value), (bs.map (·.1)).Nodup → (x, v) ∈ bs → kd x = some .local → bindL kd bs m x = some v
  | [], _, _, _, _, h, _ => by cases h
  | (n, w) :: r, m, x, v, nd, h, hk => by
    rw [List.map_cons, List.nodup_cons] at nd
    unfold bindL
    rcases List.mem_cons.mp h with q | q
    · cases q
      rw [bindL_not r _ n fun p hp e => nd.1 (List.mem_map.mpr ⟨p, hp, e⟩), if_pos hk]
      simp
    · exact bindL_at r _ x v nd.2 q hk
theorem bindC_at {kd : Str → Option NameKind} : ∀ (bs : List (Str × Value)) (m : Str → Option Value) (x : Str) (v : Value), (bs.map (·.1)).Nodup → (x, v) ∈ bs → kd x = some .cell → bindC kd bs m x = some v
  | [], _, _, _, _, h, _ => by cases h
  | (n, w) :: r, m, x, v, nd, h, hk => by
    rw [List.map_cons, List.nodup_cons] at nd
    unfold bindC
    rcases List.mem_cons.mp h with q | q
    · cases q
      rw [bindC_not r _ n fun p hp e => nd.1 (List.mem_map.mpr ⟨p, hp, e⟩), if_neg (by rw [hk]; decide)]
      simp
    · exact bindC_at r _ x v nd.2 q hk

section
variable {P : Par} {fns : Nat → Option Fn} {α α' α'' : List Addr} {N N' N2 X : Addr → Prop} {ah ah' : AH} {env cenv : Env} {ρ ρ' ρc : AE} {s s' s1 s2 sf : Shared} {A : Around} {E : Value → Shared → Prop} {v : AV}

theorem params_ok {h : Heap} : ∀ (ps : List Nat) (full : List AV) (cs : List Value) (ρ : AE) (x : Nat) (v : AV), VRs P α N h full cs → ((ps.zip full).foldl (fun ρ p => upd ρ p.1 p.2) ρ) x = some v →
    ρ x = some v ∨ (x ∈ ps ∧ ∃ c, (nm x, c) ∈ (ps.map nm).zip cs ∧ VR P α N h v c)
  | [], full, cs, ρ, x, v, _, e => .inl e
  | p :: ps, [], cs, ρ, x, v, _, e => .inl e
  | p :: ps, w :: full, cs, ρ, x, v, r, e => by
    cases r with
    | cons rw rs =>
      rename_i c cs
      rcases params_ok ps full cs (upd ρ p w) x v rs e with q | ⟨q1, c', q2, q3⟩
      · unfold upd at q
        split at q
        · rename_i hx; cases q
          exact .inr ⟨hx ▸ List.mem_cons_self, c, by rw [hx]; exact List.mem_cons_self, rw⟩
        · exact .inl q
      · exact .inr ⟨List.mem_cons_of_mem _ q1, c', List.mem_cons_of_mem _ q2, q3⟩

theorem nones_ok {h : Heap} : ∀ (l : List AV), (∀ v ∈ l, v = .none) → VRs P α N h l (l.map fun _ => Value.none)
  | [], _ => .nil
  | v :: r, hd => by
    have := hd v List.mem_cons_self
    subst this
    exact .cons .none (nones_ok r fun w hw => hd w (List.mem_cons_of_mem _ hw))

theorem zip_fst {ps : List Nat} {cs : List Value} (h : ps.length = cs.length) : ((ps.map nm).zip cs).map (·.1) = ps.map nm := by
  rw [List.map_fst_zip]; simp [h]

theorem call_ok (T : Top P fns) {n : Nat} (XS : SXSP P fns n) : CallP P fns (n + 1) := by
  intro g vs ah v ah' cs s α N A E Q ha W rs R hq
  simp only [acall] at ha
  obtain ⟨f, hf, ha⟩ := Option.bind_eq_some_iff.mp ha
  split at ha
  · rename_i hlen
    obtain ⟨q, h1, ha⟩ := Option.bind_eq_some_iff.mp ha
    split at ha
    · rename_i v' hret
      cases ha
      obtain ⟨hg, o, fd, body, ho, hd, hcode, hbody, hclo, hglb, hbui, hco, hgen, hkind, hrc, hchk, hps, hnd, hdf, hbind⟩ := T.fn g f hf
      generalize hdv : f.df.drop (f.df.length - (f.ps.length - vs.length)) = dv at *
      have hcl : cs.length = vs.length := rs.length.symm
      have hdvn : ∀ w ∈ dv, w = .none := fun w hw => hdf w (by rw [← hdv] at hw; exact List.mem_of_mem_drop hw)
      have hle : vs.length ≤ f.ps.length := by rw [← hlen]; simp
      have hdl : dv.length = f.df.length - (f.df.length - (f.ps.length - vs.length)) := by rw [← hdv, List.length_drop]
      have hle2 : f.ps.length - vs.length ≤ f.df.length := by
        have : vs.length + dv.length = f.ps.length := by rw [← hlen]; simp
        omega
      have hb := hbind cs (by rw [hcl]; exact hle) (by rw [hcl]; exact hle2)
      rw [hcl, hdv] at hb
      have rfull : VRs P α N s.heap (vs ++ dv) (cs ++ dv.map fun _ => Value.none) := rs.append (nones_ok dv hdvn)
      generalize hfc : cs ++ dv.map (fun _ => Value.none) = fc at *
      have hfl : f.ps.length = fc.length := by rw [← rfull.length]; exact hlen.symm
      have hnm : ((f.ps.map nm).zip fc).map (·.1) = f.ps.map nm := zip_fst hfl
      have hnod : (((f.ps.map nm).zip fc).map (·.1)).Nodup := by
        rw [hnm]
        exact List.pairwise_map.mpr (hnd.imp_of_mem fun hx hy hne e => hne (nm_inj (hps _ hx).1 (hps _ hy).1 e))
      have hmem : ∀ p ∈ (f.ps.map nm).zip fc, ∃ x ∈ f.ps, p.1 = nm x := fun p hp => by
        have : p.1 ∈ ((f.ps.map nm).zip fc).map (·.1) := List.mem_map_of_mem hp
        rw [hnm] at this
        obtain ⟨x, hx, e⟩ := List.mem_map.mp this
        exact ⟨x, hx, e.symm⟩
      refine wpAny_call ?_
      refine codeAny_call_function (by have := R.dep; show A.depth < 1000; omega) (W.bk _ _ ho) hd hco hgen hbody (hcode.keeps W.bk) ?_
      rw [hclo]
      refine (hb.keeps W.bk).here (wpAny_newFunctionEnv_cells hkind (fun p hp => ?_) fun cenv henv s₁ X => ?_)
      · obtain ⟨x, hx, e⟩ := hmem p hp
        rw [e]
        exact (hps x hx).2.imp id fun q => ⟨q, cells_has _ _ _ _ (mem_of_look q)⟩
      · have eL : cenv.locals = s.heap.objs.size := by rw [henv]; rfl
        have eS : cenv.scope = fd.scope := by rw [henv]; rfl
        have eG : cenv.globals = mainGlobals := by rw [henv]; exact hglb
        have eB : cenv.builtins = builtinsNs := by rw [henv]; exact hbui
        have eC : cenv.cells = cellsFrom (s.heap.objs.size + 1) fd.scope.names [] := by rw [henv]; rfl
        have eK : cenv.code = fd.code := by rw [henv]; rfl
        clear henv
        refine ⟨T.nolim.keeps (fun b o e => X.toInCall.keep b o (W.bk b o e)), codeAny_func ?_⟩
        obtain ⟨X0, hcell, hap, hab⟩ := X
        obtain ⟨⟨h', tk, hsame⟩, hns, hkp, _⟩ := X0
        subst hsame
        dsimp only at hns hkp hcell
        have fresh : ∀ b, Own cenv b → s.heap.get? b = none := fun b q => by
          rcases q with q | ⟨x, q⟩
          · rw [q, eL]; exact fresh_none (Nat.le_refl _)
          · have := hab x b (mem_of_lookup q)
            rw [eL] at this
            exact fresh_none (Nat.le_of_lt this)
        have live : ∀ b, Own cenv b → ∃ o, h'.get? b = some o := fun b q => by
          rcases q with q | ⟨x, q⟩
          · obtain ⟨o, _, _, e, _⟩ := hns; exact ⟨o, q ▸ e⟩
          · obtain ⟨o, e, _⟩ := hcell x b q; exact ⟨o, e⟩
        have h0 : ∀ b, s.heap.get? b = none → P.h₀.get? b = none := fun b e => by
          cases q : P.h₀.get? b with
          | none => rfl
          | some o => have := W.bk b o q; rw [e] at this; cases this
        have hN2 : ∀ b, (N b ∨ Own cenv b) → N b ∨ s.heap.get? b = none := fun b q => q.imp id (fresh b)
        have H' : HR P α (fun b => N b ∨ Own cenv b) ah h' := W.hr.grow hN2 hkp
        have S : ST P α (fun b => N b ∨ Own cenv b) ah cenv ((f.ps.zip (vs ++ dv)).foldl (fun ρ p => upd ρ p.1 p.2) fun _ => none) { s with heap := h', toks := tk } := by
          refine ⟨H', fun b q => ?_, fun b o e => hkp b o (W.bk b o e), fun b o e => .inl (W.bn b o e), ⟨by rw [eS]; exact hkind, eG, eB, fun e => by rw [eS] at e; rw [eK]; exact hrc e, ⟨_, hns⟩, .inr (.inl rfl), h0 _ (fresh _ (.inl rfl)), fun x c e => ?_, fun x e => ?_, fun x y c e1 e2 => name_of_addr hap (mem_of_lookup e1) (mem_of_lookup e2)⟩, fun x w e => ?_⟩
          · rcases q with q | q
            · obtain ⟨o, e⟩ := W.ne b q; exact ⟨o, hkp b o e⟩
            · exact live b q
          · exact ⟨.inr (.inr ⟨x, e⟩), h0 _ (fresh _ (.inr ⟨x, e⟩)), _, hcell x c e⟩
          · have e' : fd.scope.names.lookup x = some .cell := by rw [← eS]; exact e
            obtain ⟨c, hc⟩ := Option.isSome_iff_exists.mp (cells_has fd.scope.names (s.heap.objs.size + 1) [] x (mem_of_look e'))
            exact ⟨c, by rw [eC]; exact hc⟩
          · rcases params_ok f.ps (vs ++ dv) fc (fun _ => none) x w rfull e with q | ⟨hx, c, hc, rc⟩
            · cases q
            · have rc' : VR P α (fun b => N b ∨ Own cenv b) h' w c := rc.map .refl hN2 fun b o _ _ e => hkp b o e
              refine ⟨(hps x hx).1, ?_⟩
              rcases (hps x hx).2 with k | k
              · have k' : cenv.kindOf (nm x) = some .local := by show cenv.scope.names.lookup _ = _; rw [eS]; exact k
                exact .inl ⟨k', _, c, hns, bindL_at _ _ _ _ hnod hc k', rc'⟩
              · have k' : cenv.kindOf (nm x) = some .cell := by show cenv.scope.names.lookup _ = _; rw [eS]; exact k
                obtain ⟨a, hal⟩ := Option.isSome_iff_exists.mp (cells_has fd.scope.names (s.heap.objs.size + 1) [] (nm x) (mem_of_look k))
                have hal' : cenv.cells.lookup (nm x) = some a := by rw [eC]; exact hal
                refine .inr ⟨k', a, c, hal', ?_, rc'⟩
                have := hcell (nm x) a hal'
                rwa [bindC_at _ _ _ _ hnod hc k'] at this
        have R' : Room n (A.deeper cenv) := ⟨R.hh, by have := R.dep; show A.depth + 1 + n + 20 < 1000; omega, by have := R.uni; show A.units + 3 + 3 * n + 200 < 9900; omega⟩
        refine XS f.body body _ ah q.1 q.2.1 q.2.2 cenv _ α (fun b => N b ∨ Own cenv b) (A.deeper cenv) _ _ (by rw [eS]; exact hchk) h1 S R' fun α' s' fl x S' hfl => ?_
        rw [hret] at hfl
        obtain ⟨c, rfl, rc⟩ := hfl
        have x0 : Stp NoX α s α { s with heap := h', toks := tk } := .of_keep hkp
        exact hq α' s' c (x0.fresh x fresh) (S'.hr.grow (fun b q => .inl (.inl q)) fun _ _ e => e) (rc.map .refl (fun b q => .inl (.inl q)) fun _ _ _ _ e => e)
    · cases ha
  · cases ha
end
end Mine

end

section
open PySem PySem.Spec PySem.Calls PyProof.Rows PySem.MeetsSeq PySem.W
set_option autoImplicit false
namespace Mine
section
variable {P : Par} {fns : Nat → Option Fn} {α α' α'' : List Addr} {N N' N2 X : Addr → Prop} {ah ah' : AH} {env cenv : Env} {ρ ρ' ρc : AE} {s s' s1 s2 sf : Shared} {A : Around} {E : Value → Shared → Prop} {v : AV}

theorem tb_ne {h : Heap} (H : HR P α N ah h) {b : Addr} (hb : b ∉ α) : b ≠ P.tb := fun q => hb (q ▸ List.mem_of_getElem? H.tab0)

/-- the table of codes has grown -/
theorem HR.tabbed {h h' : Heap} (H : HR P α N ah h) (hk : ∀ b o, b ≠ P.tb → h.get? b = some o → h'.get? b = some o) (ht : TabR P h') : HR P α N ah h' where
  len := H.len
  tab0 := H.tab0
  tab := ht
  obj := fun r xs h0 e => by
    obtain ⟨a, vs, n, e1, g, v⟩ := H.obj r xs h0 e
    have hne : a ≠ P.tb := fun z => by
      rw [z] at e1
      exact h0 ((List.getElem?_inj (List.getElem?_eq_some_iff.mp e1).1 H.nod).mp (e1.trans H.tab0.symm))
    exact ⟨a, vs, n, e1, hk _ _ hne g, v.map .refl (fun _ q => .inl q) fun b o hb _ e => hk b o (tb_ne H hb) e⟩
  nod := H.nod
  off := H.off

theorem codeHere (T : Top P fns) {h : Heap} (hk : ∀ b o, P.h₀.get? b = some o → h.get? b = some o) {more : Array Value} (g : h.get? P.tb = some { cls := .none, data := .fields (P.ps₀ ++ more) }) (ht : TriplesOk (P.ps₀ ++ more).toList) :
    h.IsCode P.cc P.tb (P.ps₀ ++ more) ∧ h.TableAt P.cc P.tb (P.ps₀ ++ more) := by
  obtain ⟨o, vs, file, tf, flags, tg, inF, text, tt, e1, e2, e3, e4, e5, e6, e7, e8, e9, e10⟩ := T.code
  exact ⟨⟨o, vs, file, tf, flags, tg, inF, text, tt, _, hk _ _ e1, e3, e5, e6, e7, e8, e9, g, rfl, ht, e10⟩, ⟨o, vs, hk _ _ e1, e2, e3, e4⟩, g⟩

theorem gcode_ok (T : Top P fns) {pos : Pos} {q : Str} {scope : Scope} {Q : Value → Shared → Prop} (hc : env.code = .ref P.cc) (hk : ∀ b o, P.h₀.get? b = some o → s.heap.get? b = some o) (ht : TabR P s.heap)
    (h : ∀ c h' tk, (∀ b o, b ≠ P.tb → s.heap.get? b = some o → h'.get? b = some o) → TabR P h' → s.heap.objs.size ≤ h'.objs.size → Q c { s with heap := h', toks := tk }) :
    wpAny (model P.prog P.w) A (genexprCode env pos q scope) Q E s := by
  obtain ⟨more, g, tr⟩ := ht
  obtain ⟨ic, ta⟩ := codeHere T hk g tr
  cases hf : codeAmong pos (P.ps₀ ++ more).toList with
  | some c' => exact wpAny_genexprCode_hit hc ic hf (h c' s.heap s.toks (fun _ _ _ e => e) ⟨more, g, tr⟩ (Nat.le_refl _))
  | none =>
    refine wpAny_genexprCodeX hc ic ta hf fun c' h' tk hx h1 h2 hic _ hta _ => h _ h' tk (fun b o hb e => hx b o hb e) ?_ (Nat.le_trans h1 (Nat.le_of_lt h2))
    obtain ⟨_, _, _, _, _, _, _, _, _, op, _, _, _, _, _, _, _, hop, hod, htr, _⟩ := hic
    refine ⟨more ++ #[rawInt pos.line, rawInt pos.col, .ref c'], ?_, ?_⟩
    · rw [← Array.append_assoc]; exact hta.2
    · rw [← Array.append_assoc]; exact htr

theorem passing_all (n : Nat) : passing (fun _ => true) n 0 = List.range n := by unfold passing; simp

theorem asum_len {ak : Option Nat} {c : Int} {x : Nat} {tg : TG} : ∀ {xs : List AV} {ns : List Int}, asum ak c x tg xs = some ns → ns.length = xs.length
  | [], ns, h => by simp only [asum] at h; cases h; rfl
  | v :: r, ns, h => by
    simp only [asum] at h
    obtain ⟨i, _, h⟩ := Option.bind_eq_some_iff.mp h
    obtain ⟨ms, h1, rfl⟩ := Option.map_eq_some_iff.mp h
    simp [asum_len h1]
theorem asum_get {ak : Option Nat} {c : Int} {x : Nat} {tg : TG} : ∀ {xs : List AV} {ns : List Int}, asum ak c x tg xs = some ns → ∀ (j : Nat) (v : AV), xs[j]? = some v → ∃ i, asum1 ak c x tg v = some i ∧ ns[j]? = some i
  | [], ns, h, j, v, e => by simp at e
  | w :: r, ns, h, j, v, e => by
    simp only [asum] at h
    obtain ⟨i, h0, h⟩ := Option.bind_eq_some_iff.mp h
    obtain ⟨ms, h1, rfl⟩ := Option.map_eq_some_iff.mp h
    cases j with
    | zero => simp at e; subst e; exact ⟨i, h0, rfl⟩
    | succ j => simpa using asum_get h1 j v (by simpa using e)

/-- what a sum's element reads -/
def ared (ak : Option Nat) (u : AV) : Option AV := match ak, u with
  | none, u => some u
  | some k, .edge xs => pick3 xs k
  | _, _ => none
def aor (c : Int) : AV → Option Int
  | .none => some c
  | .int i => some (if i = 0 then c else i)
  | _ => none
theorem asum1_eq {ak : Option Nat} {c : Int} {x : Nat} {tg : TG} {v : AV} {i : Int} (h : asum1 ak c x tg v = some i) : ∃ ρ u w, bindT tg v (fun _ => none) = some ρ ∧ ρ x = some u ∧ ared ak u = some w ∧ aor c w = some i := by
  unfold asum1 at h
  obtain ⟨ρ, h1, h⟩ := Option.bind_eq_some_iff.mp h
  obtain ⟨u, h2, h⟩ := Option.bind_eq_some_iff.mp h
  obtain ⟨w, h3, h4⟩ := Option.bind_eq_some_iff.mp h
  exact ⟨ρ, u, w, h1, h2, h3, by unfold aor; exact h4⟩

theorem or_int {c' : Int} {kk : Nat} {p : Pos} {l : Expr} {pos : Pos} {w : AV} {i : Int} {Q : Value → Shared → Prop} (ha : aor c' w = some i)
    (hl : ∀ Q' : Value → Shared → Prop, (∀ cw h' tk, VR P α N h' w cw → (∀ b o, s.heap.get? b = some o → h'.get? b = some o) → Q' cw { s with heap := h', toks := tk }) → wpAny (model P.prog P.w) A (eval l env) Q' E s)
    (hQ : ∀ t h' tk, (∀ b o, s.heap.get? b = some o → h'.get? b = some o) → Q (.int i t) { s with heap := h', toks := tk }) :
    wpAny (model P.prog P.w) A (eval (.BoolOp .Or [l, .Constant (.int c') kk p] pos) env) Q E s := by
  refine wpAny_Or2 (hl _ fun cw h' tk r hk => ?_)
  unfold aor at ha
  split at ha
  · cases ha; cases r
    refine wpAny_pure (a := false) ?_
    simp only [Bool.false_eq_true, if_false]
    exact wpAny_Constant_int (hQ _ _ _ hk)
  · rename_i j
    cases ha; cases r
    refine PySem.P.truthy_int ?_
    by_cases h0 : j = 0
    · subst h0
      simp only [bne_self_eq_false, Bool.false_eq_true, if_false, if_true]
      exact wpAny_Constant_int (hQ _ _ _ hk)
    · have : (j != 0) = true := by simpa using h0
      have e : (if j = 0 then c' else j) = j := if_neg h0
      rw [e] at hQ
      simp only [this, if_true]
      exact hQ _ _ _ hk
  · cases ha

/-- the element of such a sum -/
theorem gelt_ok (T : Top P fns) {ak : Option Nat} {c : Int} {x : Nat} {elt : Expr} {u w : AV} {i : Int} {cu : Value} {m : Str → Option Value} {Q : Value → Shared → Prop} (hh : A.handled = none) (hd : A.depth + 15 < 1000) (hu : A.units + 100 < 9900) (hc : chkG cenv.scope.names ak c x elt = true)
    (hkind : cenv.scope.kind = .function) (hns : s.heap.Ns cenv.locals m) (hm : m (nm x) = some cu) (r : VR P α N s.heap u cu) (hbk : ∀ b o, P.h₀.get? b = some o → s.heap.get? b = some o) (h1 : ared ak u = some w) (h2 : aor c w = some i)
    (hQ : ∀ t h' tk, (∀ b o, s.heap.get? b = some o → h'.get? b = some o) → Q (.int i t) { s with heap := h', toks := tk }) : wpAny (model P.prog P.w) A (eval elt cenv) Q E s := by
  unfold chkG at hc
  split at hc
  · rename_i l c' kk p pos
    simp only [Bool.and_eq_true, beq_iff_eq] at hc
    obtain ⟨rfl, hc⟩ := hc
    refine or_int (α := α) (N := N) h2 (fun Q' hQ' => ?_) hQ
    split at hc
    · rename_i nid np
      obtain ⟨rfl, hx, hk, hdb⟩ := isLoc1_parts hc
      cases h1
      exact wpAny_Name (wpAny_loadName_local hkind hk hns hm (hQ' cu s.heap s.toks r fun _ _ e => e)) hdb
    · rename_i k nid np attr apos
      simp only [Bool.and_eq_true, decide_eq_true_eq, beq_iff_eq] at hc
      obtain ⟨⟨hk3, rfl⟩, hl⟩ := hc
      obtain ⟨rfl, hx, hk, hdb⟩ := isLoc1_parts hl
      refine Attribute_name (wpAny_Name (wpAny_loadName_local hkind hk hns hm ?_) hdb)
      cases u <;> first | (simp [ared] at h1; done) | skip
      rename_i xs
      simp only [ared] at h1
      cases r with
      | edge g ha' hN g2 ha2 hN2 rs =>
        unfold pick3 at h1
        split at h1
        · rename_i h3
          obtain ⟨cv, hcv, rcv⟩ := rs.get h1
          refine T.attr A s k _ _ _ _ cv _ E rcv.plain hh hd hu hbk hk3 g g2 (by rw [← rs.length, h3.1]) hcv fun h' tk hkp => ?_
          exact hQ' cv h' tk (rcv.map .refl (fun _ q => .inl q) fun b o _ _ e => hkp b o e) hkp
        · cases h1
    · cases hc
  · cases hc
end
end Mine

end

section
open PySem PySem.Spec PySem.Calls PyProof.Rows PySem.MeetsSeq PySem.W
set_option autoImplicit false
namespace Mine
section
variable {P : Par} {fns : Nat → Option Fn} {α α' α'' : List Addr} {N N' N2 X : Addr → Prop} {ah ah' : AH} {env cenv : Env} {ρ ρ' ρc : AE} {s s' s1 s2 s4 sf : Shared} {A : Around} {E : Value → Shared → Prop} {v : AV}

theorem VRs.at {h : Heap} {xs : List AV} {vs : List Value} (r : VRs P α N h xs vs) {k : Nat} {c : Value} (e : vs[k]? = some c) : ∃ x, xs[k]? = some x ∧ VR P α N h x c := by
  have hk : k < xs.length := by rw [r.length]; exact (List.getElem?_eq_some_iff.mp e).1
  obtain ⟨c', e', rc⟩ := r.get (List.getElem?_eq_getElem hk)
  rw [e] at e'; cases e'
  exact ⟨_, List.getElem?_eq_getElem hk, rc⟩

/-- where the generator's list stands -/
structure GPre (P : Par) (α : List Addr) (N : Addr → Prop) (ah : AH) (α0 : List Addr) (s s4 : Shared) (I l : Addr) (xs : List AV) (vs : List Value) : Prop where
  x : Stp NoX α0 s α s4
  H : HR P α (fun b => N b ∨ b = I) ah s4.heap
  g : ∃ n, s4.heap.get? l = some (lstO vs n)
  ne : l ≠ I
  rs : VRs P α (fun b => N b ∨ b = I) s4.heap xs vs
  I0 : s.heap.get? I = none
  it : s4.heap.IsListIter I l 0
  bk : ∀ b o, P.h₀.get? b = some o → s4.heap.get? b = some o
  bkI : ∀ b o, P.h₀.get? b = some o → b ≠ I
  lim : s4.heap.NoLimit

theorem gen_pre (T : Top P fns) {n : Nat} (Ie : SEP P fns n) {it : EE} {i' : Expr} {p : AV × AH} {xs : List AV} {pos : Pos} {scope : Scope} {q : Str} {X : Value → Value → Addr → Shared → Prop}
    (hc : chkE env.scope.names it i' = true) (h1 : ae fns n it ρ ah = some p) (h2 : items p.2 p.1 = some xs) (S : ST P α N ah env ρ s) (R : Room n A) (hcode : env.code = .ref P.cc)
    (hX : ∀ α1 s4 I l vs code, GPre P α1 N p.2 α s s4 I l xs vs → X (.ref I) code builtinsNs s4) :
    wpAny (model P.prog P.w) A (eval i' env) (fun xv s₁ => wpAny (model P.prog P.w) A (pyIter xv) (fun it s₂ => s₂.heap.NoLimit ∧
      wpAny (model P.prog P.w) A (genexprCode env pos q scope) (fun code s₃ => wpAny (model P.prog P.w) A (builtinsFor env.globals env.builtins) (fun bi s₄ => X it code bi s₄) E s₃) E s₂) E s₁) E s := by
  refine Ie it i' ρ ah p.1 p.2 env s α N A E _ hc h1 S R fun α1 s1 c1 x1 H1 r1 => ?_
  have S1 := S.step x1 H1
  obtain ⟨l, vs, m, rfl, g, rs⟩ := itemsR r1 H1 h2
  refine wpAny_pyIter_list (isList_of g) ?_
  have hk : ∀ b o, s1.heap.get? b = some o → (s1.heap.push { cls := .type "list_iterator", data := .fields #[.ref l, .int 0 0] }).get? b = some o := fun b o e => Heap.get?_push_of_some _ e
  have gI : (s1.heap.push { cls := .type "list_iterator", data := .fields #[.ref l, .int 0 0] }).get? s1.heap.objs.size = some _ := Heap.get?_push_size _ rfl
  have I1 : s1.heap.get? s1.heap.objs.size = none := next_none s1
  generalize s1.heap.push { cls := .type "list_iterator", data := .fields #[.ref l, .int 0 0] } = h2' at *
  generalize s1.heap.objs.size = I at *
  have bk2 : ∀ b o, P.h₀.get? b = some o → h2'.get? b = some o := fun b o e => hk b o (S1.bk b o e)
  refine ⟨T.nolim.keeps bk2, ?_⟩
  have hN : ∀ b, (N b ∨ b = I) → N b ∨ s1.heap.get? b = none := fun b q => Or.imp id (fun (q : b = I) => by rw [q]; exact I1) q
  have H2 : HR P α1 (fun b => N b ∨ b = I) p.2 h2' := H1.grow hN hk
  refine gcode_ok T hcode bk2 H2.tab fun c h3 tk3 hk3 ht3 hsz => ?_
  have up : ∀ b o, b ≠ P.tb → s1.heap.get? b = some o → h3.get? b = some o := fun b o hb e => hk3 b o hb (hk b o e)
  have tbα : P.tb ∈ α1 := List.mem_of_getElem? H1.tab0
  have bk3 : ∀ b o, P.h₀.get? b = some o → h3.get? b = some o := fun b o e => up b o (fun q => H1.off P.tb tbα (q ▸ S1.bn b o e)) (S1.bk b o e)
  have Itb : I ≠ P.tb := fun q => by obtain ⟨o, e⟩ := H1.live tbα; rw [q] at I1; rw [I1] at e; cases e
  have lI : l ≠ I := fun q => by rw [q, I1] at g; cases g
  have ltb : l ≠ P.tb := fun q => by
    obtain ⟨mm, e, _⟩ := H1.tab
    rw [q, e] at g; cases g
  have x3 : Stp NoX α1 s1 α1 { s1 with heap := h3, toks := tk3 } := ⟨.refl, ⟨fun b o hb _ e => up b o (fun q => hb (q ▸ tbα)) e, fun b o e => by
    by_cases q : b = P.tb
    · obtain ⟨mm, e, _⟩ := ht3; exact ⟨_, q ▸ e⟩
    · exact ⟨o, up b o q e⟩⟩, rfl, id⟩
  have H3 : HR P α1 (fun b => N b ∨ b = I) p.2 h3 := (H1.grow (N' := fun b => N b ∨ b = I) hN (fun _ _ e => e)).tabbed up ht3
  obtain ⟨bm, ob, M⟩ := T.bmod
  have M3 := M.keeps bk3
  refine wpAny_builtinsFor (by rw [S.fr.glb]; exact M3.ns) M3.name M3.ne M3.obj M3.cls M3.dict M3.data ?_
  refine hX α1 _ I l vs c ⟨x1.trans x3, H3, ⟨m, up l _ ltb g⟩, lI, rs.map .refl hN fun b o hb _ e => up b o (fun q => hb (q ▸ tbα)) e, x1.none_of I1, ⟨_, hk3 _ _ Itb gI, rfl, rfl⟩, bk3, fun b o e q => ?_, T.nolim.keeps bk3⟩
  have := S1.bk b o e
  rw [q, I1] at this; cases this

theorem sum_fin {ns : List Int} {I l a : Addr} {xs : List AV} {vs : List Value} {F : Nat → Value → Prop} {gs : GenState} {h₅ : Heap} {tk : Nat} {α1 : List Addr} {Q : Value → Shared → Prop} {G : Nat → Shared → Prop}
    (gp : GPre P α1 N ah' α s s4 I l xs vs) (hlen : ns.length = vs.length) (hsm : ns.length < 1000 ∧ ns.all (fun i => small30 i) = true) (hF : ∀ i y, F i y → ∃ t, y = .int (ns.getD i 0) t)
    (hb : gs.bare = true) (hlt : s4.heap.objs.size < a) (hsz : h₅.objs.size = a + 1) (hk : ∀ b o, s4.heap.get? b = some o → h₅.get? b = some o)
    (W : WalksS P.prog P.w A.in4 a (a :: s4.heap.objs.size :: List.range s4.heap.objs.size) (s4.heap.objs.size :: [I]) (GenOnlyQ s4.gens.size) (passing (fun _ => true) vs.toArray.size 0).length (fun j y => ∃ i, (passing (fun _ => true) vs.toArray.size 0)[j]? = some i ∧ F i y) G)
    (hst : G 0 { s4 with gens := s4.gens.push gs, toks := tk, heap := h₅ }) (hq : EPost P N α s (.int ns.sum) ah' Q) :
    wpAny (model P.prog P.w) A (call (.builtin "sum") [.ref a]) Q E { s4 with gens := s4.gens.push gs, toks := tk, heap := h₅ } := by
  have hn : (passing (fun _ => true) vs.toArray.size 0).length = ns.length := by rw [passing_all, List.length_range, List.size_toArray, hlen]
  have W1 := W.in4_1
  have fit : PyProof.Rows.SumFits ns := PyProof.Rows.sumFits_of_bound (B := 2 ^ 30) (n := 1000) (by decide) (fun x hx => by
    have := (List.all_eq_true.mp hsm.2) x hx
    simp only [small30, Bool.and_eq_true, decide_eq_true_eq] at this
    omega) (Nat.le_of_lt hsm.1) (by decide)
  refine call_sum_walkS (W1.self 0 _ _ _ hst ⟨a, _, _, _, _, _, _, fun j => ns.getD j 0, rfl, W1, hst, fun b hb => ?_, fun j y hy => ?_, fun j hj => ?_, fun s' t' hm => ?_⟩)
  · show b < h₅.objs.size
    rw [hsz]
    rcases List.mem_cons.mp hb with rfl | hb
    · exact Nat.lt_succ_self _
    · rcases List.mem_cons.mp hb with rfl | hb
      · exact Nat.lt_succ_of_lt hlt
      · exact Nat.lt_succ_of_lt (Nat.lt_trans (List.mem_range.mp hb) hlt)
  · obtain ⟨i, hi, hy⟩ := hy
    rw [passing_all] at hi
    have : i = j := by
      obtain ⟨h1, h2⟩ := List.getElem?_eq_some_iff.mp hi
      simpa using h2.symm
    subst this
    exact hF _ _ hy
  · rw [hn] at hj
    have := fit j hj
    rw [preSum_getD]; exact this
  · rw [hn, preSum_getD, List.take_length]
    have kk : ∀ b o, b ≠ I → s4.heap.get? b = some o → s'.heap.get? b = some o := fun b o hbI e => hm.heap b o (fun hmem => by
      rcases List.mem_cons.mp hmem with q | q
      · have := Heap.lt_size e; rw [q] at this; exact Nat.lt_irrefl _ this
      · exact hbI (List.mem_singleton.mp q)) (hk b o e)
    have x5 : Stp NoX α s α1 s' := by
      refine ⟨gp.x.ext, ⟨fun b o hb hx e => kk b o (fun q => ?_) (gp.x.grow.keep b o hb hx e), fun b o e => ?_⟩, hm.os.trans gp.x.os, fun gg => ?_⟩
      · rw [q, gp.I0] at e; cases e
      · obtain ⟨o', e'⟩ := gp.x.grow.live b o e
        exact ⟨o', kk b o' (fun q => by rw [q, gp.I0] at e; cases e) e'⟩
      · exact AllBare.movedS ((gp.x.gens gg).push hb) hm
    have H5 : HR P α1 (fun b => N b ∨ b = I) ah' s'.heap := gp.H.offN fun b o hb e => kk b o (fun q => hb (.inr q)) e
    exact hq α1 s' _ x5 (H5.grow (fun b q => .inl (.inl q)) fun _ _ e => e) (.int _ _)
end
end Mine

end

section
open PySem PySem.Spec PySem.Calls PyProof.Rows PySem.MeetsSeq PySem.W
set_option autoImplicit false
namespace Mine
section
variable {P : Par} {fns : Nat → Option Fn} {α α' α'' : List Addr} {N N' N2 X : Addr → Prop} {ah ah' : AH} {env cenv : Env} {ρ ρ' ρc : AE} {s s' s1 s2 s4 sf : Shared} {A : Around} {E : Value → Shared → Prop} {v : AV}

theorem GPre.lt {α0 : List Addr} {I l : Addr} {xs : List AV} {vs : List Value} (g : GPre P α N ah α0 s s4 I l xs vs) : I < s4.heap.objs.size ∧ l < s4.heap.objs.size := by
  obtain ⟨_, e⟩ := g.g
  obtain ⟨_, e2, _⟩ := g.it
  exact ⟨Heap.lt_size e2, Heap.lt_size e⟩

theorem okGen_parts {scope : Scope} (h : okGen scope = true) : scope.kind = .function ∧ (∀ p ∈ scope.names, p.2 ≠ .cell) ∧ (∀ p ∈ scope.names, p.2 ≠ .free) ∧ scope.isCoroutine = false ∧ scope.names.lookup (".0" : Str) = some .local := by
  simp only [okGen, Bool.and_eq_true, List.all_eq_true, beq_iff_eq, bne_iff_ne, ne_eq] at h
  exact ⟨h.1.1.1.1.1, h.1.1.1.1.2, h.1.1.1.2, h.1.1.2, h.2⟩

theorem genFold_name {id : Str} {p : Pos} (env : Env) (x : Value) : genFold (.Name id p) env x = pure x := rfl

theorem sumg_ok (T : Top P fns) {n : Nat} (Ie : SEP P fns n) (ak : Option Nat) (c : Int) (x : Nat) (tg : TG) (it : EE) : SE1 P fns (n + 1) (.sumg ak c x tg it) := by
  intro xx ρ ah v ah' env s α N A E Q hc ha S R hq
  have Rn := R.mono (Nat.le_succ n)
  unfold chkE at hc; split at hc
  · rename_i nid np elt' t' i' scope gpos cpos
    simp only [Bool.and_eq_true, beq_iff_eq] at hc
    obtain ⟨⟨⟨⟨⟨⟨⟨hgl, hloc⟩, hgt⟩, hgen⟩, ht⟩, hin⟩, hi⟩, hG⟩ := hc
    obtain ⟨hkind, hcell, hfree, hco, h0⟩ := okGen_parts hgen
    simp only [ae] at ha
    obtain ⟨p, h1, ha⟩ := Option.bind_eq_some_iff.mp ha
    obtain ⟨xs, h2, ha⟩ := Option.bind_eq_some_iff.mp ha
    obtain ⟨ns, h3, ha⟩ := Option.bind_eq_some_iff.mp ha
    split at ha
    · rename_i hsm
      cases ha
      have hcode := S.fr.code hloc
      have hroom : A.depth < recursionLimit := by have := R.dep; show A.depth < 1000; omega
      have hd8 : A.depth + 1 + 15 < 1000 := by have := R.dep; omega
      have hu8 : A.units + 8 + 100 < 9900 := by have := R.uni; omega
      have hfold : ∀ x, genFold i' env x = pure x := fun x => by
        cases i' <;> first | (simp at hin; done) | exact genFold_name env x
      refine wpAny_Call_NameR (builtin_ok T S hgl (T.bi .sum) ?_)
      show wpAny _ A (callWith cpos (.builtin "sum") [] [(false, eval (.GeneratorExp elt' [⟨t', i', [], 0⟩] scope gpos) env)] []) Q E s
      refine callWith_builtin rfl (evalArgs_plain (spliced_cons ?_))
      have hlen := asum_len h3
      cases tg with
      | var y =>
        obtain ⟨id, px, rfl, hl⟩ : ∃ id px, t' = .Name id px ∧ isLoc1 scope.names y id = true := by
          unfold chkT1 chkTg at ht; split at ht
          · exact ⟨_, _, rfl, ht⟩
          · cases ht
        obtain ⟨rfl, hy, hk, hdb⟩ := isLoc1_parts hl
        refine wpAny_GeneratorExp_walksQD R.hh hco (closureFor_none hfree) hcell h0 hk hkind hroom ?_ hfold
        refine gen_pre T Ie hi h1 h2 S Rn hcode fun α1 s4 I l vs code gp => ?_
        have hvl : vs.length = xs.length := gp.rs.length.symm
        obtain ⟨nn, gl⟩ := gp.g
        refine ⟨I, [I, l], [I], vs.toArray.size, _, _, fun _ => true, fun i y => ∃ t, y = .int (ns.getD i 0) t, rfl, fun A' hA => Walks.list hA I l gp.ne vs.toArray, ⟨gp.it, isList_of gl⟩, fun b hb => ?_, gp.lim, fun hm => ?_, fun href hk4 => ⟨fun A' E' i v s₂ m₂ _ _ _ _ _ _ _ => wpAny_tests_nil ⟨rfl, _, _, rfl, fun _ _ e => e⟩, fun A' E' i v s₂ m₂ hA hd hu hP _ hn hm hk => ?_⟩, fun a h₅ tk gs hb hlt hsz hk5 W hat => spliced_nil ?_⟩
        · rcases List.mem_cons.mp hb with rfl | hb
          · exact gp.lt.1
          · rw [List.mem_singleton.mp hb]; exact gp.lt.2
        · obtain ⟨_, hns, _⟩ := T.nolim
          obtain ⟨o, _, _, e, _⟩ := hns
          exact gp.bkI _ _ e (List.mem_singleton.mp hm)
        · have hv : vs[i]? = some v := by simpa using hP
          obtain ⟨u, hu', ru⟩ := gp.rs.at hv
          obtain ⟨j, hj1, hj2⟩ := asum_get h3 i u hu'
          obtain ⟨ρ1, u', w, hb, hx', hr, ho⟩ := asum1_eq hj1
          simp only [bindT, Option.some.injEq] at hb
          subst hb
          unfold upd at hx'
          split at hx'
          · rename_i hxy
            cases hx'
            have kp : ∀ b o, b ≠ I → s4.heap.get? b = some o → s₂.heap.get? b = some o := fun b o hbI e =>
              hk b (List.mem_range.mpr (Heap.lt_size e)) (fun q => hbI (List.mem_singleton.mp q)) o (hk4 b o e)
            refine gelt_ok T hA (by omega) (by omega) hG hkind hn (by rw [hxy]; exact hm) (ru.map .refl (fun _ q => .inl q) fun b o _ hb e => kp b o (fun q => hb (.inr q)) e) (fun b o e => kp b o (gp.bkI b o e) (gp.bk b o e)) hr ho fun t h' tk hkk => ⟨⟨t, ?_⟩, h', tk, rfl, hkk⟩
            rw [List.getD_eq_getElem?_getD, hj2]; rfl
          · cases hx'
        · exact sum_fin gp (by rw [hlen, hvl]) hsm (fun i y h => h) hb hlt hsz hk5 W hat hq
      | t2 a b =>
        cases a <;> cases b <;> first | (simp [gTg] at hgt; done) | skip
        rename_i y z _ _
        have hyz : y ≠ z := by simpa [gTg] using hgt
        obtain ⟨ia, ib, pa, pb, kt, pt, rfl, hla, hlb⟩ : ∃ ia ib pa pb kt pt, t' = .Tuple [.Name ia pa, .Name ib pb] kt pt ∧ isLoc1 scope.names y ia = true ∧ isLoc1 scope.names z ib = true := by
          unfold chkT1 chkTg at ht; split at ht
          · rename_i ea eb _ _
            simp only [Bool.and_eq_true] at ht
            obtain ⟨ha1, hb1⟩ := ht
            unfold chkTg at ha1 hb1
            split at ha1
            · split at hb1
              · exact ⟨_, _, _, _, _, _, rfl, ha1, hb1⟩
              · cases hb1
            · cases ha1
          · cases ht
        obtain ⟨rfl, hy, hka, hdba⟩ := isLoc1_parts hla
        obtain ⟨rfl, hz, hkb, hdbb⟩ := isLoc1_parts hlb
        refine wpAny_GeneratorExp_walksQTD R.hh hco (closureFor_none hfree) hcell h0 hka hkb (fun e => hyz (nm_inj hy hz e)) hkind hroom ?_ hfold
        refine gen_pre T Ie hi h1 h2 S Rn hcode fun α1 s4 I l vs code gp => ?_
        have hvl : vs.length = xs.length := gp.rs.length.symm
        obtain ⟨nn, gl⟩ := gp.g
        -- every member is a pair
        have pair : ∀ j : Nat, ∃ q : Addr × Value × Value, j < vs.length → vs[j]? = some (.ref q.1) ∧ q.1 ≠ I ∧ (∃ m, s4.heap.get? q.1 = some (tupO [q.2.1, q.2.2] m)) ∧
            ∃ u1 u2 i, VR P α1 (fun b => N b ∨ b = I) s4.heap u1 q.2.1 ∧ VR P α1 (fun b => N b ∨ b = I) s4.heap u2 q.2.2 ∧ xs[j]? = some (.tup [u1, u2]) ∧ asum1 ak c x (.t2 (.var y) (.var z)) (.tup [u1, u2]) = some i ∧ ns[j]? = some i := by
          intro j
          by_cases hj : j < vs.length
          · obtain ⟨u, hu', ru⟩ := gp.rs.at (List.getElem?_eq_getElem hj)
            obtain ⟨i, hj1, hj2⟩ := asum_get h3 j u hu'
            obtain ⟨ρ1, u', w, hb, _⟩ := asum1_eq hj1
            obtain ⟨u1, u2, ρ2, rfl, _, _⟩ := bind2 hb
            have hrv : ∃ a cs n', vs[j] = .ref a ∧ s4.heap.get? a = some (tupO cs n') ∧ ¬ (N a ∨ a = I) ∧ VRs P α1 (fun b => N b ∨ b = I) s4.heap [u1, u2] cs := by
              cases hv : vs[j] with
              | ref a =>
                rw [hv] at ru
                cases ru with
                | tup g _ hn rs => exact ⟨_, _, _, rfl, g, hn, rs⟩
              | _ => rw [hv] at ru; cases ru
            obtain ⟨a, cs, n', hv, g, hnI, rs⟩ := hrv
            cases rs with
            | cons r1 rs => cases rs with
              | cons r2 rs =>
                cases rs
                rename_i c1 c2
                exact ⟨(a, c1, c2), fun _ => ⟨by rw [List.getElem?_eq_getElem hj, hv], fun q => hnI (.inr q), ⟨n', g⟩, u1, u2, i, r1, r2, hu', hj1, hj2⟩⟩
          · exact ⟨(0, .none, .none), fun q => absurd q hj⟩
        obtain ⟨qf, hqf⟩ := Classical.skolem.mp pair
        have hsz' : ∀ j, j < vs.toArray.size → j < vs.length := fun j h => by simpa using h
        let W0 : ∀ A' : Around, A'.handled = none → WalksU P.prog P.w A' I (I :: l :: (List.range vs.toArray.size).map fun j => (qf j).1) [I] vs.toArray.size (fun j w => j < vs.length ∧ w = #[(qf j).2.1, (qf j).2.2])
            (fun j h => h.IsListIter I l j ∧ h.IsList l vs.toArray ∧ ∀ k, k < vs.toArray.size → h.IsTuple (qf k).1 #[(qf k).2.1, (qf k).2.2])
            (fun j T h => (j < vs.toArray.size ∧ T = (qf j).1) ∧ h.IsListIter I l (j + 1) ∧ h.IsList l vs.toArray ∧ ∀ k, k < vs.toArray.size → h.IsTuple (qf k).1 #[(qf k).2.1, (qf k).2.2]) := fun A' hA =>
          let W := WalksU.listOfTuples (prog := P.prog) (w := P.w) hA I l gp.ne vs.toArray (fun j => (qf j).1) (fun j => #[(qf j).2.1, (qf j).2.2]) (fun j hj => by simpa using (hqf j (hsz' j hj)).1) (fun j hj => (hqf j (hsz' j hj)).2.1)
          { W with item := fun i s Q E hi st hQ => W.item i s Q E hi st fun T vals h' tk hP => hQ T vals h' tk ⟨hsz' i hi, hP⟩ }
        refine ⟨I, _, [I], vs.toArray.size, _, _, _, fun _ => true, fun i y => ∃ t, y = .int (ns.getD i 0) t, rfl, W0, fun i vals hP => ⟨_, _, hP.2⟩, ⟨gp.it, isList_of gl, fun k hk => ?_⟩, fun b hb => ?_, gp.lim, fun hm => ?_, fun href hk4 => ⟨fun A' E' i va vb s₂ m₂ _ _ _ _ _ _ _ _ => wpAny_tests_nil ⟨rfl, _, _, rfl, fun _ _ e => e⟩, fun A' E' i va vb s₂ m₂ hA hd hu hP _ hn hma hmb hk => ?_⟩, fun a h₅ tk gs hb hlt hsz hk5 W hat => spliced_nil ?_⟩
        · obtain ⟨_, _, ⟨m, g⟩, _⟩ := hqf k (hsz' k hk)
          exact ⟨_, g, rfl, m, rfl⟩
        · rcases List.mem_cons.mp hb with rfl | hb
          · exact gp.lt.1
          · rcases List.mem_cons.mp hb with rfl | hb
            · exact gp.lt.2
            · obtain ⟨j, hj, rfl⟩ := List.mem_map.mp hb
              obtain ⟨_, _, ⟨m, g⟩, _⟩ := hqf j (hsz' j (List.mem_range.mp hj))
              exact Heap.lt_size g
        · obtain ⟨_, hns, _⟩ := T.nolim
          obtain ⟨o, _, _, e, _⟩ := hns
          exact gp.bkI _ _ e (List.mem_singleton.mp hm)
        · obtain ⟨hil, hvals⟩ := hP
          obtain ⟨_, _, _, u1, u2, j, r1, r2, _, hj1, hj2⟩ := hqf i hil
          have hva : va = (qf i).2.1 ∧ vb = (qf i).2.2 := by
            have e := congrArg Array.toList hvals
            simp at e; exact e
          obtain ⟨rfl, rfl⟩ := hva
          obtain ⟨ρ1, u', w, hb, hx', hr, ho⟩ := asum1_eq hj1
          simp only [bindT, Option.bind_some, Option.some.injEq] at hb
          subst hb
          have kp : ∀ b o, b ≠ I → s4.heap.get? b = some o → s₂.heap.get? b = some o := fun b o hbI e =>
            hk b (List.mem_range.mpr (Heap.lt_size e)) (fun q => hbI (List.mem_singleton.mp q)) o (hk4 b o e)
          have vm : ∀ {v c}, VR P α1 (fun b => N b ∨ b = I) s4.heap v c → VR P α1 (fun b => N b ∨ b = I) s₂.heap v c := fun r => r.map .refl (fun _ q => .inl q) fun b o _ hb e => kp b o (fun q => hb (.inr q)) e
          have fin : ∀ cu, m₂ (nm x) = some cu → VR P α1 (fun b => N b ∨ b = I) s₂.heap u' cu → wpAny (model P.prog P.w) A' (eval elt' (genEnv scope [] s4.heap.objs.size code builtinsNs env)) (fun y s₃ => (∃ t, y = .int (ns.getD i 0) t) ∧ Keeps s₂ s₃) E' s₂ := fun cu hm ru =>
            gelt_ok T hA (by omega) (by omega) hG hkind hn hm ru (fun b o e => kp b o (gp.bkI b o e) (gp.bk b o e)) hr ho fun t h' tk hkk => ⟨⟨t, by rw [List.getD_eq_getElem?_getD, hj2]; rfl⟩, h', tk, rfl, hkk⟩
          unfold upd at hx'
          split at hx'
          · rename_i hxz
            cases hx'
            exact fin _ (by rw [hxz]; exact hmb) (vm r2)
          · split at hx'
            · rename_i hxy
              cases hx'
              exact fin _ (by rw [hxy]; exact hma) (vm r1)
            · cases hx'
        · exact sum_fin gp (by rw [hlen, hvl]) hsm (fun i y h => h) hb hlt hsz hk5 W hat hq
      | t3 a b d => cases hgt
    · cases ha
  · cases hc
end
end Mine

end

section
open PySem PySem.Spec PySem.Calls PyProof.Rows PySem.MeetsSeq PySem.W
set_option autoImplicit false
namespace Mine
section
variable {P : Par} {fns : Nat → Option Fn}

theorem all0 : All P fns 0 where
  e := fun k hk => by
    obtain rfl := Nat.le_zero.mp hk
    intro e x ρ ah v ah' env s α N A E Q hc ha; simp only [ae] at ha; cases ha
  es := fun k hk => by
    obtain rfl := Nat.le_zero.mp hk
    intro e x ρ ah v ah' env s α N A E Q pos hc ha; simp only [aes] at ha; cases ha
  t := fun k hk => by
    obtain rfl := Nat.le_zero.mp hk
    intro e x ρ ah v ah' env s α N A E Q hc ha; simp only [att] at ha; cases ha
  i := fun k hk => by
    obtain rfl := Nat.le_zero.mp hk
    intro e x ρ ah v ah' env s α N A E Q hc ha; simp only [ait] at ha; cases ha
  c := fun k hk => by
    obtain rfl := Nat.le_zero.mp hk
    intro g vs ah v ah' cs s α N A E Q ha; simp only [acall] at ha; cases ha
  x := fun k hk => by
    obtain rfl := Nat.le_zero.mp hk
    intro st x ρ ah fl ρ' ah' env s α N A E Q hc ha; simp only [ax] at ha; cases ha
  xs := fun k hk => by
    obtain rfl := Nat.le_zero.mp hk
    intro st x ρ ah fl ρ' ah' env s α N A E Q hc ha; simp only [axs] at ha; cases ha

theorem up_le {p : Nat → Prop} {m : Nat} (h : ∀ k, k ≤ m → p k) (h1 : p (m + 1)) : ∀ k, k ≤ m + 1 → p k := fun k hk => by
  rcases Nat.lt_or_ge m k with q | q
  · obtain rfl : k = m + 1 := by omega
    exact h1
  · exact h k q

theorem all_ok (T : Top P fns) : ∀ m, All P fns m
  | 0 => all0
  | m + 1 => by
    have L := all_ok T m
    have l := Nat.le_refl m
    exact {
      e := up_le L.e (e_ok T (L.e m l) (L.es m l) (L.t m l) (L.c m l) (fun elt tg it ifs mm cap => comp_ok (fun k hk => L.e k (Nat.le_of_lt hk)) (fun k hk => L.t k (Nat.le_of_lt hk)) (L.i m l) elt tg it ifs mm cap)
        (fun ak c x tg it => sumg_ok T (L.e m l) ak c x tg it))
      es := up_le L.es (es_ok (L.e m l) (L.es m l))
      t := up_le L.t (t_ok L.e (L.t m l))
      i := up_le L.i (it_ok T (L.e m l) (L.es m l))
      c := up_le L.c (call_ok T (L.xs m l))
      x := up_le L.x (x_ok T L)
      xs := up_le L.xs (xs_ok (L.x m l) (L.xs m l)) }
end
end Mine

end

section
open PySem PySem.W PyProof.Rows
set_option Elab.async false
set_option maxRecDepth 100000
set_option maxHeartbeats 8000000
namespace Mine
open_top hd for PySem.Challenge.rw_ey0018_01
end Mine

end

section
open PySem PySem.Spec PySem.Calls PyProof.Rows PySem.MeetsSeq PySem.W
set_option autoImplicit false
set_option maxRecDepth 100000
namespace Mine

/-- the old heap without the table that may grow, and without the script -/
def cut1 (x : Addr) (h : Heap) : Heap := h.update x fun o => { o with data := .freed }
theorem cut1_other {x : Addr} {h : Heap} {b : Addr} (hb : b ≠ x) : (cut1 x h).get? b = h.get? b := Heap.get?_update_other _ _ (Ne.symm hb)
theorem cut1_self (x : Addr) (h : Heap) : (cut1 x h).get? x = none := by
  cases h with
  | mk objs l =>
    simp only [cut1, Heap.update, Heap.get?, Array.getElem?_modify]
    cases objs[x]? <;> rfl
def cutH (L : Addr) (h : Heap) : Heap := cut1 L (cut1 141 h)
theorem cut_other {L : Addr} {h : Heap} {b : Addr} (hb : b ≠ 141) (hL : b ≠ L) : (cutH L h).get? b = h.get? b := (cut1_other hL).trans (cut1_other hb)
theorem cut_old {L : Addr} {h : Heap} {b : Addr} {o : Obj} (e : (cutH L h).get? b = some o) : b ≠ 141 ∧ b ≠ L ∧ h.get? b = some o := by
  by_cases hL : b = L
  · rw [hL, cutH, cut1_self] at e; cases e
  · by_cases hb : b = 141
    · rw [cutH, cut1_other hL, hb, cut1_self] at e; cases e
    · exact ⟨hb, hL, by rw [← cut_other hb hL]; exact e⟩

def gvs : Nat → Addr
  | 0 => 162 | 1 => 167 | 2 => 172 | 3 => 179 | 4 => 184 | 5 => 144 | 6 => 149 | 7 => 155 | _ => 189

def par (w : World) (L : Addr) (h : Heap) (mg mb : Str → Option Value) : Par :=
  { prog := PySem.Challenge.pw_ey0018_01, w := w, gv := gvs, eC := 136, h₀ := cutH L h, tb := 141, cc := 143, ps₀ := #[], mg := mg, mb := mb }

noncomputable abbrev KK (w : World) : Frag := hd.heap_39 w.params

theorem ns_cut {L : Addr} {h : Heap} {a : Addr} {m : Str → Option Value} (x : h.Ns a m) (ha : a ≠ 141) (hL : a ≠ L) : (cutH L h).Ns a m := x.at' fun _ e => (cut_other ha hL).trans e

theorem k_in_cut (w : World) {L : Addr} (hL : (KK w).lookup L = none) {h : Heap} (X : (KK w).In h) : (KK w).In (cutH L h) := fun a o e => by
  have ha : a ≠ 141 := by
    rintro rfl
    have : (KK w).lookup 141 = none := by rfl
    rw [this] at e; cases e
  have ha2 : a ≠ L := by
    rintro rfl
    rw [hL] at e; cases e
  exact (cut_other ha ha2).trans (X a o e)

section
variable {w : World} {h : Heap} {mg mb : Str → Option Value} {L : Addr}

def FnOk (P : Par) (g : Nat) (f : Fn) : Prop := P.mg (gname g) = some (.ref (P.gv g)) ∧ ∃ o fd body, P.h₀.get? (P.gv g) = some o ∧ o.data = .func fd ∧ P.h₀.CodeRec fd.code fd.qualname ∧ fd.body = .stmts body ∧ fd.closure = [] ∧
    fd.globals = mainGlobals ∧ fd.builtins = builtinsNs ∧ fd.scope.isCoroutine = false ∧ fd.scope.isGenerator = false ∧ fd.scope.kind = .function ∧ (fd.scope.names.lookup (nm 29) = some .local → fd.code = .ref P.cc) ∧ chkSL fd.scope.names f.body body = true ∧
    (∀ x ∈ f.ps, x < names.length ∧ (fd.scope.names.lookup (nm x) = some .local ∨ fd.scope.names.lookup (nm x) = some .cell)) ∧ f.ps.Nodup ∧ (∀ v ∈ f.df, v = .none) ∧
    (∀ vals : List Value, vals.length ≤ f.ps.length → f.ps.length - vals.length ≤ f.df.length →
      Looks (model P.prog P.w) P.h₀ (bindArgs fd ⟨vals, []⟩) ((f.ps.map nm).zip (vals ++ (f.df.drop (f.df.length - (f.ps.length - vals.length))).map fun _ => Value.none)))

theorem len1 {l : List Value} (h1 : l.length ≤ 1) (h2 : 1 - l.length ≤ 0) : ∃ a, l = [a] := by
  rcases l with _ | ⟨a, _ | ⟨b, l⟩⟩
  · simp at h2
  · exact ⟨a, rfl⟩
  · simp at h1
theorem len2 {l : List Value} (h1 : l.length ≤ 2) (h2 : 2 - l.length ≤ 0) : ∃ a b, l = [a, b] := by
  rcases l with _ | ⟨a, _ | ⟨b, _ | ⟨c, l⟩⟩⟩
  · simp at h2
  · simp at h2
  · exact ⟨a, b, rfl⟩
  · simp at h1
theorem len4 {l : List Value} (h1 : l.length ≤ 4) (h2 : 4 - l.length ≤ 0) : ∃ a b c d, l = [a, b, c, d] := by
  rcases l with _ | ⟨a, _ | ⟨b, _ | ⟨c, _ | ⟨d, _ | ⟨e, l⟩⟩⟩⟩⟩
  · simp at h2
  · simp at h2
  · simp at h2
  · simp at h2
  · exact ⟨a, b, c, d, rfl⟩
  · simp at h1
theorem len23 {l : List Value} (h1 : l.length ≤ 3) (h2 : 3 - l.length ≤ 1) : (∃ a b, l = [a, b]) ∨ ∃ a b c, l = [a, b, c] := by
  rcases l with _ | ⟨a, _ | ⟨b, _ | ⟨c, _ | ⟨e, l⟩⟩⟩⟩
  · simp at h2
  · simp at h2
  · exact .inl ⟨a, b, rfl⟩
  · exact .inr ⟨a, b, c, rfl⟩
  · simp at h1

theorem fn0 (hL : (KK w).lookup L = none) (X : (KK w).In h) (G : h.Ns mainGlobals mg) : FnOk (par w L h mg mb) 0 ⟨[0, 1], [], bd_law_draw⟩ := by
  have X' := k_in_cut w hL X
  refine ⟨mg_of X G (by rfl), _, _, _, X' _ _ (by rfl : (KK w).lookup 162 = some _), rfl, codeRec_of X' (by rfl), rfl, rfl, rfl, rfl, rfl, rfl, rfl, fun e => absurd e (by decide +kernel), by decide +kernel, by decide +kernel, by decide, by simp, fun vals h1 h2 => ?_⟩
  obtain ⟨a, b, rfl⟩ := len2 h1 h2
  exact Looks.of_peek X' (by rfl)
theorem fn1 (hL : (KK w).lookup L = none) (X : (KK w).In h) (G : h.Ns mainGlobals mg) : FnOk (par w L h mg mb) 1 ⟨[3], [], bd_law_state⟩ := by
  have X' := k_in_cut w hL X
  refine ⟨mg_of X G (by rfl), _, _, _, X' _ _ (by rfl : (KK w).lookup 167 = some _), rfl, codeRec_of X' (by rfl), rfl, rfl, rfl, rfl, rfl, rfl, rfl, fun e => absurd e (by decide +kernel), by decide +kernel, by decide +kernel, by decide, by simp, fun vals h1 h2 => ?_⟩
  obtain ⟨a, rfl⟩ := len1 h1 h2
  exact Looks.of_peek X' (by rfl)
theorem fn2 (hL : (KK w).lookup L = none) (X : (KK w).In h) (G : h.Ns mainGlobals mg) : FnOk (par w L h mg mb) 2 ⟨[5, 6], [], bd_law_sizes⟩ := by
  have X' := k_in_cut w hL X
  refine ⟨mg_of X G (by rfl), _, _, _, X' _ _ (by rfl : (KK w).lookup 172 = some _), rfl, codeRec_of X' (by rfl), rfl, rfl, rfl, rfl, rfl, rfl, rfl, fun e => absurd e (by decide +kernel), by decide +kernel, by decide +kernel, by decide, by simp, fun vals h1 h2 => ?_⟩
  obtain ⟨a, b, rfl⟩ := len2 h1 h2
  exact Looks.of_peek X' (by rfl)
theorem fn3 (hL : (KK w).lookup L = none) (X : (KK w).In h) (G : h.Ns mainGlobals mg) : FnOk (par w L h mg mb) 3 ⟨[17, 18], [], bd_law_nearest⟩ := by
  have X' := k_in_cut w hL X
  refine ⟨mg_of X G (by rfl), _, _, _, X' _ _ (by rfl : (KK w).lookup 179 = some _), rfl, codeRec_of X' (by rfl), rfl, rfl, rfl, rfl, rfl, rfl, rfl, fun e => absurd e (by decide +kernel), by decide +kernel, by decide +kernel, by decide, by simp, fun vals h1 h2 => ?_⟩
  obtain ⟨a, b, rfl⟩ := len2 h1 h2
  exact Looks.of_peek X' (by rfl)
theorem fn4 (hL : (KK w).lookup L = none) (X : (KK w).In h) (G : h.Ns mainGlobals mg) : FnOk (par w L h mg mb) 4 ⟨[5, 21, 22, 23], [], bd_law_taken⟩ := by
  have X' := k_in_cut w hL X
  refine ⟨mg_of X G (by rfl), _, _, _, X' _ _ (by rfl : (KK w).lookup 184 = some _), rfl, codeRec_of X' (by rfl), rfl, rfl, rfl, rfl, rfl, rfl, rfl, fun e => absurd e (by decide +kernel), by decide +kernel, by decide +kernel, by decide, by simp, fun vals h1 h2 => ?_⟩
  obtain ⟨a, b, c, d, rfl⟩ := len4 h1 h2
  exact Looks.of_peek X' (by rfl)
theorem fn5 (hL : (KK w).lookup L = none) (X : (KK w).In h) (G : h.Ns mainGlobals mg) : FnOk (par w L h mg mb) 5 ⟨[5, 6], [], bd_ratio_resolve⟩ := by
  have X' := k_in_cut w hL X
  refine ⟨mg_of X G (by rfl), _, _, _, X' _ _ (by rfl : (KK w).lookup 144 = some _), rfl, codeRec_of X' (by rfl), rfl, rfl, rfl, rfl, rfl, rfl, rfl, fun _ => rfl, by decide +kernel, by decide +kernel, by decide, by simp, fun vals h1 h2 => ?_⟩
  obtain ⟨a, b, rfl⟩ := len2 h1 h2
  exact Looks.of_peek X' (by rfl)
theorem fn6 (hL : (KK w).lookup L = none) (X : (KK w).In h) (G : h.Ns mainGlobals mg) : FnOk (par w L h mg mb) 6 ⟨[5, 21, 33, 23], [], bd_ratio_reduce⟩ := by
  have X' := k_in_cut w hL X
  refine ⟨mg_of X G (by rfl), _, _, _, X' _ _ (by rfl : (KK w).lookup 149 = some _), rfl, codeRec_of X' (by rfl), rfl, rfl, rfl, rfl, rfl, rfl, rfl, fun e => absurd e (by decide +kernel), by decide +kernel, by decide +kernel, by decide, by simp, fun vals h1 h2 => ?_⟩
  obtain ⟨a, b, c, d, rfl⟩ := len4 h1 h2
  exact Looks.of_peek X' (by rfl)
theorem fn7 (hL : (KK w).lookup L = none) (X : (KK w).In h) (G : h.Ns mainGlobals mg) : FnOk (par w L h mg mb) 7 ⟨[5, 21, 41], [.none], bd_ratio_distribute⟩ := by
  have X' := k_in_cut w hL X
  refine ⟨mg_of X G (by rfl), _, _, _, X' _ _ (by rfl : (KK w).lookup 155 = some _), rfl, codeRec_of X' (by rfl), rfl, rfl, rfl, rfl, rfl, rfl, rfl, fun e => absurd e (by decide +kernel), by decide +kernel, by decide +kernel, by decide, by simp, fun vals h1 h2 => ?_⟩
  rcases len23 h1 h2 with ⟨a, b, rfl⟩ | ⟨a, b, c, rfl⟩
  · exact Looks.of_peek X' (by rfl)
  · exact Looks.of_peek X' (by rfl)
theorem fn8 (hL : (KK w).lookup L = none) (X : (KK w).In h) (G : h.Ns mainGlobals mg) : FnOk (par w L h mg mb) 8 ⟨[3], [], bd_law⟩ := by
  have X' := k_in_cut w hL X
  refine ⟨mg_of X G (by rfl), _, _, _, X' _ _ (by rfl : (KK w).lookup 189 = some _), rfl, codeRec_of X' (by rfl), rfl, rfl, rfl, rfl, rfl, rfl, rfl, fun e => absurd e (by decide +kernel), by decide +kernel, by decide +kernel, by decide, by simp, fun vals h1 h2 => ?_⟩
  obtain ⟨a, rfl⟩ := len1 h1 h2
  exact Looks.of_peek X' (by rfl)

theorem fn_all (hL : (KK w).lookup L = none) (X : (KK w).In h) (G : h.Ns mainGlobals mg) : ∀ g f, fns g = some f → FnOk (par w L h mg mb) g f := by
  intro g f e
  match g, e with
  | 0, e => cases e; exact fn0 hL X G
  | 1, e => cases e; exact fn1 hL X G
  | 2, e => cases e; exact fn2 hL X G
  | 3, e => cases e; exact fn3 hL X G
  | 4, e => cases e; exact fn4 hL X G
  | 5, e => cases e; exact fn5 hL X G
  | 6, e => cases e; exact fn6 hL X G
  | 7, e => cases e; exact fn7 hL X G
  | 8, e => cases e; exact fn8 hL X G
  | _ + 9, e => cases e
end
end Mine

end

section
open PySem PySem.Spec PySem.Calls PyProof.Rows PySem.MeetsSeq PySem.W
set_option autoImplicit false
set_option maxRecDepth 100000
namespace Mine
section
variable {w : World} {h : Heap} {mg mb : Str → Option Value} {L : Addr}

theorem boot_ok (hb : ∀ x : Str, x ≠ "__name__" → mb x = bootBuiltins x) (X : (KK w).In h) (G : h.Ns mainGlobals mg) {x : Str} {v : Value} (h1 : nsIn (KK w) mainGlobals x = some none) (h2 : bootBuiltins x = some v) (h3 : x ≠ "__name__") : mg x = none ∧ mb x = some v :=
  ⟨mg_none_of X G h1, (hb x h3).trans h2⟩

theorem bi_all (hb : ∀ x : Str, x ≠ "__name__" → mb x = bootBuiltins x) (X : (KK w).In h) (G : h.Ns mainGlobals mg) : ∀ b, mg (bname b) = none ∧ mb (bname b) = some (bval b) := by
  intro b
  cases b <;> exact boot_ok hb X G (by rfl) (by decide +kernel) (by decide)

theorem looks_callee {P : Par} {K : Frag} {h : Heap} {f : Value} (X : K.In h) (e : keepIn K f = true) : Callee P h f := by
  obtain ⟨k, a, b⟩ := looks_keep (M := model P.prog P.w) e X
  exact ⟨k, a, b⟩

theorem edgeK_ok (hL : (KK w).lookup L = none) (X : (KK w).In h) : Callee (par w L h mg mb) (cutH L h) (.ref 136) := looks_callee (k_in_cut w hL X) (by rfl)

theorem code_ok (hL : (KK w).lookup L = none) (X : (KK w).In h) : ∃ (o : Obj) (vs : Array Value) (file : Str) (tf : Tok) (flags : Int) (tg : Tok) (inF : Bool) (text : Int) (tt : Tok), (cutH L h).get? 143 = some o ∧ o.cls = .type "code" ∧ o.data = .fields vs ∧ vs[11]? = some (.ref 141) ∧
    vs.getD 11 .none = .ref 141 ∧ vs.getD 18 .none = .str file tf ∧ vs.getD 7 .none = .int flags tg ∧ vs.getD 9 .none = .bool inF ∧ vs.getD 10 .none = .int text tt ∧ (143 : Addr) ≠ 141 :=
  ⟨_, _, _, _, _, _, _, _, _, k_in_cut w hL X _ _ (by rfl : (KK w).lookup 143 = some _), rfl, rfl, rfl, rfl, rfl, rfl, rfl, rfl, by decide⟩

end
end Mine

end

section
open PySem PySem.Spec PySem.Calls PyProof.Rows PySem.MeetsSeq PySem.W
set_option autoImplicit false
set_option maxRecDepth 100000
namespace Mine

theorem sig_app : Manifest.signature? "list.append" = some ⟨.oneArg, "list.append", "append", .self, [⟨"object", .posOnly, true⟩]⟩ := by kernel_rfl
theorem kind_app : builtinKind "list.append" = some .method := by decide +kernel
theorem sub_list_module : isSubtype (.type "list") (.type "module") = pure false := by rw [isSubtype_type]; kernel_rfl

theorem appC_ok' {P : Par} (A : Around) (s : Shared) (a l : Addr) (vs : List Value) (n : Nat) (c : Value) (Q : Value → Shared → Prop) (E : Value → Shared → Prop) (hh : A.handled = none) (hd : A.depth + 15 < 1000) (hu : A.units + 100 < 9900) (ga : s.heap.get? a = some (appO l)) (gl : s.heap.get? l = some (lstO vs n)) (hl : vs.length < 1000)
    (hQ : ∀ h' n', h'.get? l = some (lstO (vs ++ [c]) n') → Heap.SameBut l s.heap h' → Q .none { s with heap := h' }) : wpAny (model P.prog P.w) A (call (.ref a) [c]) Q E s := by
  refine wpAny_call (codeAny_of_tree ?_)
  show wpAny _ _ (callAny (.ref a) _) _ _ _
  refine wpAny_bind (wpAny_load ga ?_)
  show wpAny _ _ (do
    checkBoundCall "list.append" ⟨[.ref l, c], []⟩
    return ← again (.builtin "list.append" ⟨[.ref l, c], []⟩)) _ _ _
  refine wpAny_bind ?_
  have hT : s.TypeIs (.ref l) "list" := ⟨_, gl, rfl⟩
  unfold checkBoundCall
  rw [sig_app, kind_app]
  dsimp only
  rw [if_neg (by decide)]
  refine wpAny_bind (wpAny_isInstance (T := "list") (b := false) hT sub_list_module ?_)
  rw [if_neg (by decide +kernel)]
  refine wpAny_bind ?_
  have fin : wpAny (model P.prog P.w) (A.under (.call (.ref a) ⟨[c], []⟩)) (again (.builtin "list.append" ⟨[.ref l, c], []⟩)) (fun fin s' => match fin with
      | .done f => (match (Except.ok f : Result) with | .ok (.ret v) => Q v s' | .ok _ => False | .error e => E e s')
      | .again c' => c'.quiet = true ∧ codeAny (model P.prog P.w) A c' (fun r s' => match r with | .ok (.ret v) => Q v s' | .ok _ => False | .error e => E e s') s')
      (fun e s' => match (Except.error e : Result) with | .ok (.ret v) => Q v s' | .ok _ => False | .error e => E e s') s := by
    refine wpAny_pure (a := Fin.again _) ⟨Code.quiet_builtin _ (by decide +kernel), codeAny_builtin entry_list_append ?_⟩
    rw [Around.under_plain (show (Code.builtin "list.append" ⟨[.ref l, c], []⟩).weight = 0 from rfl) rfl]
    show wpAny _ _ (updateSeq l (·.push c) >>= fun _ => ret .none) _ _ s
    have hsz : vs.toArray.size ≤ sizeLine := by rw [List.size_toArray, sizeLine_eq]; omega
    refine wpAny_bind ?_
    refine wpAny_updateSeq gl rfl (wpAny_pure (hQ _ (n + 1) ?_ (Heap.SameBut.update ..))) (hz := hsz) (_hz' := by rw [Array.size_push]; omega)
    rw [Heap.get?_update_self _ gl (by rw [Obj.mapSeq_push_plain]; rfl), Obj.mapSeq_push_plain]; simp
  unfold isType
  refine wpAny_bind (wpAny_loadPart gl (wpAny_pure ?_))
  dsimp only
  rw [if_neg (by decide)]
  refine wpAny_bind (wpAny_typeOf hT ?_)
  dsimp only
  refine wpAny_of_eq (a := ()) (by kernel_rfl) fin
end Mine

end

section
open PySem PySem.Spec PySem.Calls PyProof.Rows PySem.MeetsSeq PySem.W
set_option autoImplicit false
set_option maxRecDepth 100000
namespace Mine
theorem md_get : typeLookup (.type "method_descriptor") "__get__" = pure (some (.builtin "method_descriptor.__get__")) := by rw [typeLookup_type, builtinLookup_eq_fast]; kernel_rfl
theorem md_set : typeLookup (.type "method_descriptor") "__set__" = pure none := by rw [typeLookup_type, builtinLookup_eq_fast]; kernel_rfl
theorem md_del : typeLookup (.type "method_descriptor") "__delete__" = pure none := by rw [typeLookup_type, builtinLookup_eq_fast]; kernel_rfl
theorem md_entry : entryFor table "method_descriptor.__get__" = some Builtin.«method_descriptor.__get__» := entryFor_of_tree (by kernel_rfl)
theorem md_slot : Slot "method_descriptor" "__get__" "method_descriptor.__get__" :=
  .of (owner := "method_descriptor") (n := "__get__") md_get (by decide +kernel) (by decide +kernel) (by decide +kernel)
    (by first | exact .inl (by decide +kernel) | exact .inr (by decide +kernel)) (by rw [isSubtype_type]; kernel_rfl)
theorem md_args (a b c : Value) : argsOk "method_descriptor.__get__" ⟨[a, b, c], []⟩ := by unfold argsOk; kernel_rfl

theorem meets_md_append (l : Addr) (vs : Array Value) (n : Nat) :
    Meets (Builtin.«method_descriptor.__get__» ⟨[.builtin "list.append", .ref l, .type "list"], []⟩) (fun _ R s => s.heap.get? l = some { cls := .type "list", dict := none, data := .seq vs n, slots := #[] } ∧
      R (.ok (.ret (.ref s.heap.objs.size))) { s with heap := s.heap.push (appO l) }) :=
  Meets.of_wp fun prog w A R s hs => by
    obtain ⟨hp, g, d, tk, os⟩ := s
    obtain ⟨hx, hs⟩ := hs
    have hT : (⟨hp, g, d, tk, os⟩ : Shared).TypeIs (.ref l) "list" := ⟨_, hx, rfl⟩
    unfold Builtin.«method_descriptor.__get__»
    repeat (any_goals (first | assumption | wp_step))
    have e : ".".intercalate ("list.append".cutAt '.').dropLast = "list" := by decide +kernel
    rw [e]
    have e2 : isSubtype (.type "list") (.type "list") = pure true := by rw [isSubtype_type]; kernel_rfl
    refine wpAny_of_eq e2 ?_
    simp only [Bool.not_true, Bool.false_eq_true, if_false]
    refine wpAny_pure (wpAny_bind (wpAny_newObj_type (wpAny_pure ⟨_, rfl, hs⟩) (by size_fits)))
theorem meets_ga_append (l : Addr) (vs : Array Value) (n : Nat) (u : Tok) :
    Meets (Builtin.«object.__getattribute__» ⟨[.ref l, .str "append" u], []⟩) (fun _ R s => s.heap.get? l = some { cls := .type "list", dict := none, data := .seq vs n, slots := #[] } ∧
      R (.ok (.ret (.ref s.heap.objs.size))) { s with heap := s.heap.push (appO l) }) :=
  Meets.of_wp fun prog w A R s hs => by
    obtain ⟨hp, g, d, tk, os⟩ := s
    obtain ⟨hx, hs⟩ := hs
    have hT : (⟨hp, g, d, tk, os⟩ : Shared).TypeIs (.ref l) "list" := ⟨_, hx, rfl⟩
    have f1 := slot_list_append.lookup
    have f2 := type_list_append
    have f3 := md_get
    have f4 := md_set
    have f5 := md_del
    have hTb : (⟨hp, g, d, tk, os⟩ : Shared).TypeIs (.builtin "list.append") "method_descriptor" := by
      first | exact type_list_append
    unfold Builtin.«object.__getattribute__»
    repeat (any_goals (first | assumption | ((with_reducible show wpAny _ _ (call (Value.builtin "method_descriptor.__get__") _ _) _ _ _); refine call_meets md_slot hTb md_entry (md_args _ _ _) (meets_md_append l vs n) ⟨hx, ?_⟩) | wp_step))
    exact wpAny_pure ⟨_, rfl, hs⟩
theorem meth_ok {P : Par} (A : Around) (s : Shared) (l : Addr) (vs : List Value) (n : Nat) (Q : Value → Shared → Prop) (E : Value → Shared → Prop) (hh : A.handled = none) (gl : s.heap.get? l = some (lstO vs n))
    (hQ : ∀ h' a tk, s.heap.get? a = none → (∀ b o, s.heap.get? b = some o → h'.get? b = some o) → h'.get? a = some (appO l) → Q (.ref a) { s with heap := h', toks := tk }) :
    wpAny (model P.prog P.w) A (getAttr (.ref l) "append" true) Q E s := by
  obtain ⟨hp, g, d, tk, os⟩ := s
  have hT : ∀ tk', (⟨hp, g, d, tk', os⟩ : Shared).TypeIs (.ref l) "list" := fun _ => ⟨_, gl, rfl⟩
  have f3 := F.slot_list_getattribute.lookup
  have f4 := F.slot_list_getattribute.bind (.ref l)
  unfold getAttr getAttrBy
  repeat (any_goals (first | assumption | exact hT _ | ((with_reducible show wpAny _ _ (call (Value.builtin "list.__getattribute__") _ _) _ _ _); refine call_meets F.slot_list_getattribute (hT _) am_entry_list_getattribute (F.args_list_getattribute_2 _ _) (meets_ga_append l vs.toArray n _) ⟨gl, ?_⟩) | wp_step))
  show wpAny _ _ (handedOut (.ref hp.objs.size)) _ _ _
  exact wpAny_pure (hQ _ _ _ (next_none ⟨hp, g, d, tk, os⟩) (fun b o e => Heap.get?_push_of_some _ e) (Heap.get?_push_size _ rfl))
end Mine

end

section
open PySem PySem.Spec PySem.Calls PyProof.Rows PySem.MeetsSeq PySem.W
set_option autoImplicit false
set_option maxRecDepth 100000
namespace Mine
section
variable {w : World} {mg mb : Str → Option Value} {prog : Program} {A : Around} {E : Value → Shared → Prop} {s : Shared}

theorem tga_kind : builtinKind "tuple.__getattribute__" = some .slot := by decide +kernel
theorem tga_split : splitId "tuple.__getattribute__" = some ("tuple", "__getattribute__") := by decide +kernel
theorem tga_plain : plainId "tuple.__getattribute__" = true := by decide +kernel
theorem tga_entry : entryFor table "tuple.__getattribute__" = some Builtin.«object.__getattribute__» := am_entry_tuple_getattribute
theorem tga_args (a b : Value) : argsOk "tuple.__getattribute__" ⟨[a, b], []⟩ := by unfold argsOk; kernel_rfl
theorem tga_bind (v : Value) : bindSpecial (.builtin "tuple.__getattribute__") v = pure (.builtin "tuple.__getattribute__", [v]) :=
  (Slot.of (T := "tuple") (name := "__getattribute__") (owner := "tuple") (n := "__getattribute__") (by rw [typeLookup_type, builtinLookup_eq_fast]; kernel_rfl) (by decide +kernel) (by decide +kernel) (by decide +kernel)
    (by first | exact .inl (by decide +kernel) | exact .inr (by decide +kernel)) (by rw [isSubtype_type]; kernel_rfl)).bind v

def descOf : Nat → Addr
  | 0 => 125 | 1 => 128 | _ => 131

theorem attr_open (X : (KK w).In s.heap) {x : Addr} {vs : List Value} {n k : Nat} {C : Addr} (hC : C = 136) {Q : Value → Shared → Prop} (hk : k < 3) {dx : Addr} (g : s.heap.get? x = some { cls := .ref C, dict := some dx, data := .seq vs.toArray n }) (g2 : s.heap.get? dx = some dctO)
    (h : ∀ E', wpAny (model prog w) A.in1 (call (.ref 43) [.ref (descOf k), .ref x, .ref 136]) (fun v s' => (∀ i, v ≠ .builtin i) ∧ Q v s') E' { s with toks := s.toks + 1 }) :
    wpAny (model prog w) A (getAttr (.ref x) (aname k) true) Q E s := by
  subst hC
  have I : InstAt s.heap x { cls := .ref 136, dict := some dx, data := .seq vs.toArray n } 136 (some dctO) := ⟨g, rfl, rfl, g2⟩
  obtain ⟨hp, gg, d, tk, os⟩ := s
  have L0 := I.type (M := model prog w)
  have L1 : Looks (model prog w) hp (typeLookup (.ref 136) "__getattribute__") (some (.builtin "tuple.__getattribute__")) := looks_findIn X (by rfl)
  have L2 : Looks (model prog w) hp (typeLookup (.ref 136) "__getattr__") none := looks_findIn X (by rfl)
  have L3 : Looks (model prog w) hp (Builtin.ObjectAttr.find (.ref x) (.ref 136) (aname k)) (Builtin.ObjectAttr.Found.bind (.ref 43) (.ref (descOf k))) := by
    rcases k with _ | _ | _ | k
    · exact looks_find X I (by rfl)
    · exact looks_find X I (by rfl)
    · exact looks_find X I (by rfl)
    · omega
  have L4 : Looks (model prog w) hp (isInstance (.ref x) (.type "tuple")) true := L0.andThen (looks_mroIn X (by rfl))
  unfold getAttr getAttrBy
  refine wpAny_bind (wpAny_mkText (wpAny_holding (wpAny_bind (L0.at (wpAny_bind (L1.at ?_))))))
  show wpAny _ _ (getAttrByItsOwn _ _ _ _ _ _) _ _ _
  unfold getAttrByItsOwn
  refine wpAny_bind (L2.at (wpAny_bind (wpAny_attempt (wpAny_holding ?_))))
  show wpAny _ _ (boundAndCalled _ _ _) _ _ _
  unfold boundAndCalled
  refine wpAny_bind (wpAny_of_eq (tga_bind _) ?_)
  refine wpAny_call (codeAny_call_builtin tga_plain tga_entry (@check_slot (model prog w) _ _ _ "tuple.__getattribute__" "tuple" "__getattribute__" (.ref x) [.str (aname k) tk] [] _ tga_kind tga_split L4 (tga_args _ _) ?_))
  unfold Builtin.«object.__getattribute__»
  refine wpAny_bind (wpAny_pure ?_)
  refine wpAny_bind (wpAny_pure ?_)
  refine wpAny_bind (L0.at (wpAny_bind (L3.at ?_)))
  show wpAny _ _ (holding [.ref (descOf k)] (call (.ref 43) [.ref (descOf k), .ref x, .ref 136]) >>= fun v => ret v) _ _ _
  refine wpAny_bind (wpAny_holding (wpAny_mono (h _) (fun v s' hv => ?_) fun _ _ e => e))
  obtain ⟨hv, hq⟩ := hv
  refine wpAny_pure ?_
  show wpAny _ _ (handedOut v) _ _ _
  rw [handedOut_of (by cases v <;> first | rfl | exact absurd rfl (hv _))]
  exact wpAny_pure hq
end
end Mine

end

section
open PySem PySem.Spec PySem.Calls PyProof.Rows PySem.MeetsSeq PySem.W
set_option autoImplicit false
set_option maxRecDepth 100000
namespace Mine
section
variable {w : World} {mg mb : Str → Option Value} {prog : Program} {A : Around} {E : Value → Shared → Prop} {s : Shared}

/-- what a frame of a plain function has -/
structure Frm (w : World) (mg mb : Str → Option Value) (s0 s : Shared) (env : Env) (m : Str → Option Value) : Prop where
  F : Fr s0.heap env.locals s.heap m
  X : (KK w).In s0.heap
  G : s0.heap.Ns mainGlobals mg
  B : s0.heap.Ns builtinsNs mb
  kind : env.scope.kind = .function
  glb : env.globals = mainGlobals
  bui : env.builtins = builtinsNs
  oth : ∃ h tk, s = { s0 with heap := h, toks := tk }

theorem Frm.more {s0 : Shared} {env : Env} {m : Str → Option Value} {h' : Heap} {tk : Nat} (f : Frm w mg mb s0 s env m) (hk : ∀ b o, s.heap.get? b = some o → h'.get? b = some o) : Frm w mg mb s0 { s with heap := h', toks := tk } env m :=
  ⟨f.F.keeps hk, f.X, f.G, f.B, f.kind, f.glb, f.bui, by obtain ⟨_, _, e⟩ := f.oth; subst e; exact ⟨_, _, rfl⟩⟩
theorem Frm.Xs {s0 : Shared} {env : Env} {m : Str → Option Value} (f : Frm w mg mb s0 s env m) : (KK w).In s.heap := f.X.keeps f.F.keep
theorem Frm.loc {s0 : Shared} {env : Env} {m : Str → Option Value} (f : Frm w mg mb s0 s env m) {x : Str} {p : Pos} {v : Value} {Q : Value → Shared → Prop} (hk : env.scope.names.lookup x = some .local) (hv : m x = some v) (h : Q v s) (hd : (x == ("__debug__" : Str)) = false := by decide) :
    wpAny (model prog w) A (eval (.Name x p) env) Q E s := wpAny_Name (wpAny_loadName_local f.kind hk f.F.ns hv h) hd
theorem Frm.bui_ {s0 : Shared} {env : Env} {m : Str → Option Value} (f : Frm w mg mb s0 s env m) {x : Str} {p : Pos} {v : Value} {Q : Value → Shared → Prop} (hk : env.scope.names.lookup x = some .globalImplicit) (hv : mg x = none ∧ mb x = some v) (h : Q v s) (hd : (x == ("__debug__" : Str)) = false := by decide) :
    wpAny (model prog w) A (eval (.Name x p) env) Q E s :=
  Name_function_global f.kind hk (loadGlobal_builtin (by rw [f.glb]; exact f.G.keeps f.F.keep) hv.1 (by rw [f.bui]; exact f.B.keeps f.F.keep) hv.2 h) hd

theorem kcallC {f : Addr} {o : Obj} {fd : FuncData} {body : List Stmt} {vals : List Value} {binds : List (Str × Value)} {Q : Value → Shared → Prop} (X : (KK w).In s.heap) (G : s.heap.Ns mainGlobals mg) (B : s.heap.Ns builtinsNs mb) (hl : s.heap.NoLimit) (hd : A.depth < 1000)
    (ho : (KK w).lookup f = some o) (hdata : o.data = .func fd) (hco : fd.scope.isCoroutine = false) (hgen : fd.scope.isGenerator = false) (hk : fd.scope.kind = .function) (hbody : fd.body = .stmts body) (hcd : codeIn (KK w) fd.code fd.qualname = true) (hclo : fd.closure = []) (hglb : fd.globals = mainGlobals) (hbui : fd.builtins = builtinsNs)
    (hb : Looks (model prog w) s.heap (bindArgs fd ⟨vals, []⟩) binds) (hnc : ∀ x ∈ fd.scope.names, x.2 ≠ .cell) (hbl : ∀ x ∈ binds, fd.scope.names.lookup x.1 = some .local)
    (h : ∀ env s' A', env.scope = fd.scope → A'.handled = A.handled → A'.depth = A.depth + 1 → A'.units = A.units + 3 → Frm w mg mb s s' env (fun x => binds.reverse.lookup x) → ∀ E', wpAny (model prog w) A' (execs body env) (fun fl s'' => ∃ v, fl = .ret v ∧ Q v s'') E' s') :
    codeAny (model prog w) A (.call (.ref f) ⟨vals, []⟩) (fun r s' => match r with | .ok (.ret v) => Q v s' | .ok _ => False | .error e => E e s') s := by
  refine codeAny_call_function hd (X _ _ ho) hdata hco hgen hbody (codeRec_of X hcd) ?_
  rw [hclo]
  refine hb.here (wpAny_newFunctionEnv hnc hbl (fun h' hn hs => ?_) hk)
  have keep : ∀ b o, s.heap.get? b = some o → h'.get? b = some o := fun b o e => hs.extBut b o (Nat.ne_of_lt (Heap.lt_size e)) (Heap.get?_push_of_some _ e)
  refine ⟨hl.keeps keep, codeAny_func ?_⟩
  refine wpAny_mono (h (newEnv fd.scope s.heap.objs.size fd.globals [] (fd.qualname ++ ".<locals>.") (some f) fd.code none fd.builtins) _ (A.deeper _) rfl rfl rfl rfl ⟨⟨hn, keep, Nat.le_refl _⟩, X, G, B, hk, hglb, hbui, ⟨_, _, rfl⟩⟩ _) (fun fl s'' hq => ?_) fun _ _ e => e
  obtain ⟨v, rfl, hq⟩ := hq
  exact hq
theorem kcall {f : Addr} {o : Obj} {fd : FuncData} {body : List Stmt} {vals : List Value} {binds : List (Str × Value)} {Q : Value → Shared → Prop} (X : (KK w).In s.heap) (G : s.heap.Ns mainGlobals mg) (B : s.heap.Ns builtinsNs mb) (hl : s.heap.NoLimit) (hd : A.depth < 1000)
    (ho : (KK w).lookup f = some o) (hdata : o.data = .func fd) (hco : fd.scope.isCoroutine = false) (hgen : fd.scope.isGenerator = false) (hk : fd.scope.kind = .function) (hbody : fd.body = .stmts body) (hcd : codeIn (KK w) fd.code fd.qualname = true) (hclo : fd.closure = []) (hglb : fd.globals = mainGlobals) (hbui : fd.builtins = builtinsNs)
    (hb : Looks (model prog w) s.heap (bindArgs fd ⟨vals, []⟩) binds) (hnc : ∀ x ∈ fd.scope.names, x.2 ≠ .cell) (hbl : ∀ x ∈ binds, fd.scope.names.lookup x.1 = some .local)
    (h : ∀ env s' A', env.scope = fd.scope → A'.handled = A.handled → A'.depth = A.depth + 1 → A'.units = A.units + 3 → Frm w mg mb s s' env (fun x => binds.reverse.lookup x) → ∀ E', wpAny (model prog w) A' (execs body env) (fun fl s'' => ∃ v, fl = .ret v ∧ Q v s'') E' s') :
    wpAny (model prog w) A (call (.ref f) vals) Q E s := wpAny_call (kcallC X G B hl hd ho hdata hco hgen hk hbody hcd hclo hglb hbui hb hnc hbl h)
end
end Mine

end

section
open PySem PySem.Spec PySem.Calls PyProof.Rows PySem.MeetsSeq PySem.W
set_option autoImplicit false
set_option maxRecDepth 100000
namespace Mine
section
variable {w : World} {mg mb : Str → Option Value} {prog : Program} {A : Around} {E : Value → Shared → Prop} {s : Shared}

/-- the names that the small functions ask of the built-ins -/
structure Boot (mg mb : Str → Option Value) : Prop where
  issub : mg "issubclass" = none ∧ mb "issubclass" = some (.builtin "issubclass")
  type : mg "type" = none ∧ mb "type" = some (.type "type")
  tuple : mg "tuple" = none ∧ mb "tuple" = some (.type "tuple")

theorem issub_ok (X : (KK w).In s.heap) {Q : Value → Shared → Prop} (h : Q (.bool true) s) : wpAny (model prog w) A (call (.builtin "issubclass") [.ref 136, .type "tuple"]) Q E s := by
  refine call_function_tree F.kind_issubclass F.plain_issubclass F.entry_issubclass (F.args_issubclass_2 _ _) ?_
  repeat (any_goals (first | assumption | wp_step))
  refine ⟨Code.quiet_builtin _ (by decide +kernel), codeAny_builtin F.entry_issubclass_nested ?_⟩
  rw [Around.under_plain (show (Code.builtin "issubclass.nested" ⟨[.ref 136, .type "tuple", rawInt 0], []⟩).weight = 0 from rfl) rfl]
  exact (Looks.of_peek X (by rfl : peek (KK w) ⟨prog, w.params⟩ (Builtin.«issubclass.nested» ⟨[.ref 136, .type "tuple", .int 0 0], []⟩) = some (.done (.ret (.bool true))))).here h

theorem tgi_kind : builtinKind "tuple.__getitem__" = some .slot := by decide +kernel
theorem tgi_split : splitId "tuple.__getitem__" = some ("tuple", "__getitem__") := by decide +kernel
theorem tgi_plain : plainId "tuple.__getitem__" = true := by decide +kernel
theorem tgi_entry : entryFor table "tuple.__getitem__" = some Builtin.«tuple.__getitem__» := entryFor_of_tree (by kernel_rfl)
theorem tgi_args (a b : Value) : argsOk "tuple.__getitem__" ⟨[a, b], []⟩ := by unfold argsOk; kernel_rfl

theorem item_ok (X : (KK w).In s.heap) {x : Addr} {vs : List Value} {n k : Nat} {t : Tok} {v : Value} {Q : Value → Shared → Prop} (hk : k < 3) {dx : Addr} (g : s.heap.get? x = some { cls := .ref 136, dict := some dx, data := .seq vs.toArray n }) (g2 : s.heap.get? dx = some dctO) (hl : vs.length = 3) (hv : vs[k]? = some v) (h : Q v s) :
    wpAny (model prog w) A (call (.builtin "tuple.__getitem__") [.ref x, .int k t]) Q E s := by
  have I : InstAt s.heap x { cls := .ref 136, dict := some dx, data := .seq vs.toArray n } 136 (some dctO) := ⟨g, rfl, rfl, g2⟩
  have L0 := I.type (M := model prog w)
  have L4 : Looks (model prog w) s.heap (isInstance (.ref x) (.type "tuple")) true := L0.andThen (looks_mroIn X (by rfl))
  refine wpAny_call (codeAny_call_builtin tgi_plain tgi_entry (@check_slot (model prog w) _ _ _ "tuple.__getitem__" "tuple" "__getitem__" (.ref x) [.int k t] [] _ tgi_kind tgi_split L4 (tgi_args _ _) ?_))
  obtain ⟨hp, gg, d, tk, os⟩ := s
  unfold Builtin.«tuple.__getitem__»
  have f1 : typeLookup (.type "int") "__index__" = pure (some (.builtin "int.__index__")) := F.slot_int_index.lookup
  repeat (any_goals (first | assumption | wp_step))
  have hk1 : (decide ((k : Int) < -2 ^ 63) || decide ((k : Int) ≥ 2 ^ 63)) = false := by simp; omega
  rw [hk1]
  simp only [Bool.false_eq_true, if_false]
  have e : ((seqIndex? (k : Int) vs.toArray.size).bind fun x => vs.toArray[x]?) = some v := by
    have h1 : ¬ (k : Int) < 0 := by omega
    have h2 : (k : Int) < (vs.toArray.size : Int) := by simp; omega
    have h3 : (0 : Int) ≤ (k : Int) := by omega
    simp only [seqIndex?, h1, if_false, h3, h2, decide_true, Bool.and_self, if_true, Option.bind_some, Int.toNat_natCast]
    simpa using hv
  rw [e]
  exact wpAny_pure h

theorem tup_ty : typeOf (.type "tuple") = pure (.type "type") := by kernel_rfl
theorem tup_stub : Manifest.isStub "tuple" = false := by decide +kernel
theorem tgi_find (w : World) : findCls (KK w) (.type "tuple") (.type "type") (Str.ofString "__getitem__") = some (.val (.builtin "tuple.__getitem__")) := by kernel_rfl
theorem tgi_hand : handedIn (.builtin "tuple.__getitem__") = true := by decide +kernel
theorem tnew_find (w : World) : findCls (KK w) (.type "tuple") (.type "type") (Str.ofString "__new__") = some (.val (.builtin "tuple.__new__")) := by kernel_rfl
theorem tnew_hand : handedIn (.builtin "tuple.__new__") = true := by decide +kernel

theorem meth_ty (K : Frag) (name : Str) (v : Value) (T : String) (ht : typeOf (.type T) = pure (.type "type")) (hs : Manifest.isStub T = false) (he : findCls K (.type T) (.type "type") name = some (.val v)) (hh : handedIn v = true)
    {h₀ : Heap} {L : Addr} {m : Str → Option Value} {pl : Sem Bool} {Q : Value × List Value → Shared → Prop} (F : Fr h₀ L s.heap m) (X₀ : K.In h₀) (h : Q (v, []) { s with toks := s.toks + 1 }) :
    wpAny (model prog w) A (getMethod (.type T) name pl) Q E s := by
  exact method_type F X₀ ht hs he hh h
theorem tgi_meth {h₀ : Heap} {L : Addr} {m : Str → Option Value} {pl : Sem Bool} {Q : Value × List Value → Shared → Prop} (F : Fr h₀ L s.heap m) (X₀ : (KK w).In h₀) (h : Q (.builtin "tuple.__getitem__", []) { s with toks := s.toks + 1 }) :
    wpAny (model prog w) A (getMethod (.type "tuple") (Str.ofString "__getitem__") pl) Q E s := meth_ty (KK w) _ _ _ tup_ty tup_stub (tgi_find w) tgi_hand F X₀ h
theorem tnew_meth {h₀ : Heap} {L : Addr} {m : Str → Option Value} {pl : Sem Bool} {Q : Value × List Value → Shared → Prop} (F : Fr h₀ L s.heap m) (X₀ : (KK w).In h₀) (h : Q (.builtin "tuple.__new__", []) { s with toks := s.toks + 1 }) :
    wpAny (model prog w) A (getMethod (.type "tuple") (Str.ofString "__new__") pl) Q E s := meth_ty (KK w) _ _ _ tup_ty tup_stub (tnew_find w) tnew_hand F X₀ h

theorem get43 (X : (KK w).In s.heap) (G : s.heap.Ns mainGlobals mg) (B : s.heap.Ns builtinsNs mb) (hl : s.heap.NoLimit) (bt : Boot mg mb) (hd : A.depth < 1000) {x : Addr} {vs : List Value} {n k : Nat} {v : Value} {Q : Value → Shared → Prop} (hk : k < 3)
    {dx : Addr} (g : s.heap.get? x = some { cls := .ref 136, dict := some dx, data := .seq vs.toArray n }) (g2 : s.heap.get? dx = some dctO) (hl3 : vs.length = 3) (hv : vs[k]? = some v) (hQ : ∀ h' tk, (∀ b o, s.heap.get? b = some o → h'.get? b = some o) → Q v { s with heap := h', toks := tk }) :
    wpAny (model prog w) A (call (.ref 43) [.ref (descOf k), .ref x, .ref 136]) Q E s := by
  refine kcall (mg := mg) (mb := mb) (binds := [(Str.ofString "self", Value.ref (descOf k)), (Str.ofString "obj", Value.ref x), (Str.ofString "objtype", Value.ref 136)]) X G B hl hd (by rfl : (KK w).lookup 43 = some _) rfl rfl rfl rfl rfl (by rfl) rfl rfl rfl (Looks.of_peek X (by rfl)) (by decide) (by intro y hy; simp at hy; rcases hy with rfl | rfl | rfl <;> rfl) fun env s1 A' hS hh' hd' hu' f E' => ?_
  have fin : ∀ {s2 : Shared}, Frm w mg mb s s2 env (fun x_1 => [(Str.ofString "self", Value.ref (descOf k)), (Str.ofString "obj", Value.ref x), (Str.ofString "objtype", Value.ref 136)].reverse.lookup x_1) → Q v s2 := fun f2 => by
    obtain ⟨h', tk, e⟩ := f2.oth
    have kp := f2.F.keep
    subst e
    exact hQ h' tk kp
  have kS : ∀ y : Str, env.scope.names.lookup y = ([(Str.ofString "self", NameKind.local), (Str.ofString "obj", NameKind.local), (Str.ofString "objtype", NameKind.local), (Str.ofString "issubclass", NameKind.globalImplicit), (Str.ofString "type", NameKind.globalImplicit), (Str.ofString "tuple", NameKind.globalImplicit), (Str.ofString "_wall", NameKind.globalImplicit)] : SC).lookup y := fun y => by rw [hS]
  refine wpAny_execs_cons (wpAny_If (wpAny_isTrue_Compare1 (f.loc (by rw [kS]; rfl) (by rfl) (wpAny_Constant_none (is_none ?_)))))
  refine wpAny_truthy_bool ?_
  show wpAny _ _ (execs [] env) _ _ _
  refine wpAny_execs_nil ?_
  refine wpAny_execs_cons (wpAny_If (isTrue_not (isTrue_plain (wpAny_Call_NameR (f.bui_ (by rw [kS]; rfl) bt.issub ?_)))))
  show wpAny _ _ (callWith _ (.builtin "issubclass") [] [(false, _), (false, _)] []) _ _ _
  refine callWith_builtin rfl (evalArgs_plain (spliced_cons (wpAny_Call_NameR (f.bui_ (by rw [kS]; rfl) bt.type ?_))))
  show wpAny _ _ (callWith _ (.type "type") [] [(false, _)] []) _ _ _
  refine PyProof.Rows.callWith_type rfl (evalArgs_plain (spliced_cons (f.loc (by rw [kS]; rfl) (by rfl) (spliced_nil ?_))))
  have I1 : InstAt s1.heap x { cls := .ref 136, dict := some dx, data := .seq vs.toArray n } 136 (some dctO) := ⟨f.F.keep _ _ g, rfl, rfl, f.F.keep _ _ g2⟩
  refine kto_own I1 ?_
  refine spliced_cons (f.bui_ (by rw [kS]; rfl) bt.tuple (spliced_nil ?_))
  refine issub_ok f.Xs ?_
  refine wpAny_truthy_bool ?_
  show wpAny _ _ (execs [] env) _ _ _
  refine wpAny_execs_nil ?_
  refine wpAny_execs_cons (wpAny_Return_some ?_)
  refine methodCall_KW (f.bui_ (by rw [kS]; rfl) bt.tuple ?_)
  refine tgi_meth f.F f.X ?_
  have f2 := f.more (tk := s1.toks + 1) fun _ _ e => e
  show wpAny _ _ (callWith _ (.builtin "tuple.__getitem__") [] [(false, _), (false, _)] []) _ _ _
  refine callWith_builtin rfl ?_
  refine evalArgs_plain ?_
  refine spliced_cons ?_
  refine f2.loc (by rw [kS]; rfl) (by rfl) ?_
  refine spliced_cons ?_
  refine Attribute_name ?_
  refine f2.loc (by rw [kS]; rfl) (by rfl) ?_
  have last : ∀ t, wpAny (model prog w) A' (spliced []) (fun vs_1 s₂ => wpAny (model prog w) A' (call (.builtin "tuple.__getitem__") ([] ++ (Value.ref x :: (Value.int (k : Nat) t :: vs_1)))) (fun v s'' => ∃ v_1, Flow.ret v = .ret v_1 ∧ Q v_1 s'') E' s₂) E' { s1 with toks := s1.toks + 1 + 1 } := fun t => by
    have f3 := f2.more (tk := s1.toks + 1 + 1) fun _ _ e => e
    refine spliced_nil (item_ok f3.Xs hk (f3.F.keep _ _ g) (f3.F.keep _ _ g2) hl3 hv ⟨v, rfl, fin f3⟩)
  rcases k with _ | _ | _ | k
  · exact get_value f2.Xs (InstAt.of_K f2.Xs (by rfl : (KK w).lookup 125 = some _) (by rfl : (KK w).lookup 124 = some _)) (by rfl) (by rfl : findObj (KK w) 60 _ "index" = some (.value (.int 0 357))) rfl (last _)
  · exact get_value f2.Xs (InstAt.of_K f2.Xs (by rfl : (KK w).lookup 128 = some _) (by rfl : (KK w).lookup 127 = some _)) (by rfl) (by rfl : findObj (KK w) 60 _ "index" = some (.value (.int 1 367))) rfl (last _)
  · exact get_value f2.Xs (InstAt.of_K f2.Xs (by rfl : (KK w).lookup 131 = some _) (by rfl : (KK w).lookup 130 = some _)) (by rfl) (by rfl : findObj (KK w) 60 _ "index" = some (.value (.int 2 377))) rfl (last _)
  · omega
end
end Mine

end

section
open PySem PySem.Spec PySem.Calls PyProof.Rows PySem.MeetsSeq PySem.W
set_option autoImplicit false
set_option maxRecDepth 100000
namespace Mine
section
variable {w : World} {mg mb : Str → Option Value} {prog : Program} {A : Around} {E : Value → Shared → Prop} {s : Shared}

theorem gnew_reads (w : World) : readsIn (KK w) 136 (.type "type") = true := by kernel_rfl
theorem gnew_find (w : World) : findCls (KK w) (.ref 136) (.type "type") (Str.ofString "__new__") = some (.get (.builtin "staticmethod.__get__") (.ref 137) .none (.ref 136)) := by kernel_rfl
theorem gnew_ (K : Frag) (C p : Addr) (mc f : Value) (name : Str) {rest : List Value} {expr : Bool} {hp : Heap} {g : Array GenState} {d : Drawn} {t : Nat} {os : OsState} {Q : Value → Shared → Prop} (X : K.In hp) (hr : readsIn K C mc = true)
    (e : findCls K (.ref C) mc name = some (.get (.builtin "staticmethod.__get__") (.ref p) .none (.ref C))) (hp' : recIn K p "staticmethod" = some (f :: rest)) (hv : handedIn f = true)
    (h : Q f ⟨hp, g, d, t + 1, os⟩) : wpAny (model prog w) A (getAttr (.ref C) name expr) Q E ⟨hp, g, d, t, os⟩ :=
  cls_bind (s := ⟨hp, g, d, t, os⟩) X hr e (wpAny_call (sm_get (s := ⟨hp, g, d, t + 1, os⟩) X hp' (handed_on hv h)))
theorem gnew {hp : Heap} {g : Array GenState} {d : Drawn} {t : Nat} {os : OsState} {Q : Value → Shared → Prop} (X : (KK w).In hp) (h : Q (.ref 83) ⟨hp, g, d, t + 1, os⟩) :
    wpAny (model prog w) A (getAttr (.ref 136) (Str.ofString "__new__")) Q E ⟨hp, g, d, t, os⟩ := gnew_ (KK w) 136 137 (.type "type") (.ref 83) _ X (gnew_reads w) (gnew_find w) (by rfl) (by rfl) h

theorem oi_args3 (a b c d : Value) : argsOk "object.__init__" ⟨[a, b, c, d], []⟩ := by unfold argsOk; kernel_rfl
theorem edge_open (X : (KK w).In s.heap) {c1 c2 c3 : Value} {Q : Value → Shared → Prop}
    (h : ∀ A', A'.handled = A.handled → A'.depth ≤ A.depth + 2 → A'.units ≤ A.units + 20 → codeAny (model prog w) A' (.call (.ref 83) ⟨[.ref 136, c1, c2, c3], []⟩) (fun r s' => match r with | .ok (.ret v) => (∃ a o, v = .ref a ∧ s'.heap.get? a = some o ∧ o.cls = .ref 136 ∧ (KK w).In s'.heap ∧ Q (.ref a) s') | .ok _ => False | .error e => False) { s with toks := s.toks + 1 }) :
    wpAny (model prog w) A (call (.ref 136) [c1, c2, c3]) Q E s := by
  obtain ⟨hp, g, d, t, os⟩ := s
  have hC := X _ _ (by rfl : (KK w).lookup 136 = some _)
  have call0 : Looks (model prog w) hp (specialOf (.ref 136) "__call__") (some (.builtin "type.__call__")) := looks_specialIn X (by rfl)
  have typ : Looks (model prog w) hp (isInstance (.ref 136) (.type "type")) true := looks_instIn X (by rfl)
  have made : Looks (model prog w) hp (Bind.madeBy (.ref 136)) none := Looks.of_peek X (by rfl)
  have hm : Looks (model prog w) hp (mroOf (.ref 136)) [.ref 136, .type "tuple", .type "object"] := Looks.of_peek X (by rfl)
  refine wpAny_call (codeAny_of_tree ?_)
  show wpAny _ _ (callAny (.ref 136) _) _ _ _
  refine nd_load hC ?_
  show wpAny _ _ (callAny.viaDunder (.ref 136) _) _ _ _
  unfold callAny.viaDunder
  refine wpAny_bind (call0.at ?_)
  dsimp only
  rw [tc_bind]
  refine wpAny_bind (wpAny_pure (wpAny_bind (wpAny_pure ?_)))
  refine wpAny_pure (a := Fin.again (.call (.builtin "type.__call__") ⟨[.ref 136, c1, c2, c3], []⟩)) (And.intro rfl ?_)
  refine codeAny_call_builtin_at (Code.quiet_builtin _ (by decide +kernel)) entry_typeCall (check_slot tc_kind tc_split typ (tc_args _ _ _) ?_)
  unfold Builtin.«type.__call__»
  repeat (first | (with_reducible refine gnew X ?_) | (with_reducible refine wpAny_call ?_) | lk)
  have uw : (Code.builtin "type.__call__" ⟨[.ref 136, c1, c2, c3], []⟩).weight = 1 := rfl
  have uu : (Code.builtin "type.__call__" ⟨[.ref 136, c1, c2, c3], []⟩).cUnits = 1 := rfl
  have ud : (A.under (.builtin "type.__call__" ⟨[.ref 136, c1, c2, c3], []⟩)).depth = A.depth + 1 := congrArg (A.depth + ·) uw
  have uv : (A.under (.builtin "type.__call__" ⟨[.ref 136, c1, c2, c3], []⟩)).units = A.units + 1 := congrArg (A.units + ·) uu
  refine codeAny_mono (h _ rfl (by rw [ud]; omega) (by rw [uv]; omega)) fun r s1 hq => ?_
  rcases r with e | (v | _ | _ | _) <;> first | exact hq.elim | skip
  obtain ⟨a, o, rfl, ho, hoc, X1, hq⟩ := hq
  have L0 : Looks (model prog w) s1.heap (typeOf (.ref a)) (.ref 136) := (Looks.ld ho).andThen (by rw [hoc]; exact .now)
  have L1 : Looks (model prog w) s1.heap (isInstance (.ref a) (.ref 136)) true := L0.andThen (looks_mroIn X1 (by rfl))
  have L2 : Looks (model prog w) s1.heap (isInstance (.ref a) (.type "object")) true := L0.andThen (looks_mroIn X1 (by rfl))
  have L3 : Looks (model prog w) s1.heap (specialOf (.ref a) (Str.ofString "__init__")) (some (.builtin "object.__init__")) := L0.andThen (looks_findIn X1 (by rfl))
  have L4 : Looks (model prog w) s1.heap (typeLookup (.ref 136) (Str.ofString "__init__")) (some (.builtin "object.__init__")) := looks_findIn X1 (by rfl)
  have made' : Looks (model prog w) s1.heap (Bind.madeBy (.ref 136)) none := Looks.of_peek X1 (by rfl)
  have b1 : Looks (model prog w) s1.heap (bindSpecial (.builtin "object.__init__") (.ref a)) (.builtin "object.__init__", [.ref a]) := Looks.of_pure (oi_bind _)
  dsimp only
  unfold callSpecial?
  repeat (first | (with_reducible refine wpAny_call ?_) | lk)
  refine codeAny_call_builtin oi_plain entry_oi (@check_slot (model prog w) _ _ _ "object.__init__" "object" "__init__" (.ref a) [c1, c2, c3] [] _ oi_kind oi_split L2 (oi_args3 _ _ _ _) ?_)
  unfold Builtin.«object.__init__»
  repeat lk
  exact hq

theorem tn_kind : builtinKind "tuple.__new__" = some .builtinFn := by decide +kernel
theorem tn_split : splitId "tuple.__new__" = some ("tuple", "__new__") := by decide +kernel
theorem sb_ok {hp : Heap} (X : (KK w).In hp) : Looks (model prog w) hp (Bind.staticBase (.ref 136)) (.type "tuple") := by
  have made : Looks (model prog w) hp (Bind.madeBy (.ref 136)) none := Looks.of_peek X (by rfl)
  have hm : Looks (model prog w) hp (mroOf (.ref 136)) [.ref 136, .type "tuple", .type "object"] := Looks.of_peek X (by rfl)
  have bb : Looks (model prog w) hp (Builtin.Slots.bestBase [.type "tuple"]) (.type "tuple") := Looks.of_peek X (by rfl)
  have mt : Looks (model prog w) hp (Bind.madeBy (.type "tuple")) (some "tuple.__new__") := Looks.of_pure PySem.F.called_tuple.made
  have hC := X _ _ (by rfl : (KK w).lookup 136 = some _)
  intro A Q E s k q
  obtain ⟨h2, gg, d, tk, os⟩ := s
  have made' : Looks (model prog w) h2 (Bind.madeBy (.ref 136)) none := made.keeps k
  have hm' : Looks (model prog w) h2 (mroOf (.ref 136)) [.ref 136, .type "tuple", .type "object"] := hm.keeps k
  have bb' : Looks (model prog w) h2 (Builtin.Slots.bestBase [.type "tuple"]) (.type "tuple") := bb.keeps k
  have mt' : Looks (model prog w) h2 (Bind.madeBy (.type "tuple")) (some "tuple.__new__") := mt.keeps k
  have hC' := k _ _ hC
  clear made hm bb mt hC
  unfold Bind.staticBase
  repeat (first | rw [List.forIn_cons] | lk)
  exact q
theorem not_in_push {h h' : Heap} (k : ∀ b o, h.get? b = some o → h'.get? b = some o) {a : Addr} (ha : h'.objs.size ≤ a) : h.get? a = none := by
  cases e : h.get? a with
  | none => rfl
  | some o => exact absurd (Heap.lt_size (k _ _ e)) (Nat.not_lt.mpr ha)
/-- the tuple's own making of an edge -/
theorem tnew_ok (X : (KK w).In s.heap) {x : Addr} {vs : List Value} {n : Nat} {Q : Value → Shared → Prop} (g : s.heap.get? x = some { cls := .type "tuple", data := .seq vs.toArray n }) (hl : vs.length = 3)
    (h : ∀ h' a dx m, s.heap.get? a = none → s.heap.get? dx = none → (∀ b o, s.heap.get? b = some o → h'.get? b = some o) → h'.get? a = some { cls := .ref 136, dict := some dx, data := .seq vs.toArray m } → h'.get? dx = some dctO → Q (.ref a) { s with heap := h' }) :
    wpAny (model prog w) A (call (.builtin "tuple.__new__") [.ref 136, .ref x]) Q E s := by
  obtain ⟨hp, gg, d, tk, os⟩ := s
  have typ : Looks (model prog w) hp (isInstance (.ref 136) (.type "type")) true := looks_instIn X (by rfl)
  have typ2 : Looks (model prog w) hp (isType (.ref 136)) true := Looks.of_peek X (by rfl)
  have sub : Looks (model prog w) hp (isSubtype (.ref 136) (.type "tuple")) true := looks_mroIn X (by rfl)
  have sb := sb_ok (prog := prog) X
  have mt : Looks (model prog w) hp (Bind.madeBy (.type "tuple")) (some "tuple.__new__") := Looks.of_pure PySem.F.called_tuple.made
  have here : Looks (model prog w) hp (Bind.madeHere "tuple.__new__" (.ref 136)) () := sb.andThen (mt.andThen .now)
  have L4 : Looks (model prog w) hp (typeLookup (.ref 136) (Str.ofString "__init__")) (some (.builtin "object.__init__")) := looks_findIn X (by rfl)
  refine wpAny_call (codeAny_call_builtin_code (Code.quiet_builtin _ (by decide +kernel)) ?_)
  simp only [checkBuiltinCall, tn_kind, tn_split]
  repeat (first | simp only [bne_self_eq_false, Bool.false_eq_true, if_false] | lk)
  refine codeAny_builtin PySem.F.entry_tuple_new ?_
  unfold Builtin.«tuple.__new__»
  repeat (first | (with_reducible refine wpAny_collect_seq x (.inr rfl) g rfl rfl ?_ (by simp [hl, sizeLine])) | simp only [bne_self_eq_false, Bool.false_eq_true, if_false] | lk)
  intro h' k'
  have hC := k' _ _ (X _ _ (by rfl : (KK w).lookup 136 = some _))
  refine wpAny_bind (wpAny_pure (wpAny_bind (wpAny_alloc (wpAny_bind ?_))))
  have hsz : ¬ vs.toArray.size > sizeLine := by simp [hl, sizeLine]
  simp only [newObj, if_neg hsz]
  first | refine wpAny_bind (wpAny_pure ?_) | skip
  unfold newObjAsIs classHasDel
  refine wpAny_bind (wpAny_alloc (wpAny_bind (wpAny_bind (wpAny_load (Heap.get?_push_of_some _ (Heap.get?_push_of_some _ hC)) (wpAny_pure ?_)))))
  refine wpAny_pure (wpAny_pure ?_)
  have q := h (((h'.push dctO).push { cls := .ref 136, dict := some h'.objs.size, data := .seq vs.toArray })) ((h'.push dctO).objs.size) h'.objs.size 0 (not_in_push k' (by rw [Heap.size_push]; exact Nat.le_succ _)) (not_in_push k' (Nat.le_refl _))
    (fun b o e => Heap.get?_push_of_some _ (Heap.get?_push_of_some _ (k' b o e))) (Heap.get?_push_size _ rfl) (Heap.get?_push_of_some _ (Heap.get?_push_size _ rfl))
  exact q
end

section
variable {w : World} {mg mb : Str → Option Value} {prog : Program} {A : Around} {E : Value → Shared → Prop} {s : Shared}
theorem edge_make (X : (KK w).In s.heap) (G : s.heap.Ns mainGlobals mg) (B : s.heap.Ns builtinsNs mb) (hl : s.heap.NoLimit) (bt : Boot mg mb) (hd : A.depth + 5 < 1000) {c1 c2 c3 : Value} {Q : Value → Shared → Prop}
    (hQ : ∀ h' a m dx tk, s.heap.get? a = none → s.heap.get? dx = none → (∀ b o, s.heap.get? b = some o → h'.get? b = some o) → h'.get? a = some { cls := .ref 136, dict := some dx, data := .seq [c1, c2, c3].toArray m } → h'.get? dx = some dctO → Q (.ref a) { s with heap := h', toks := tk }) :
    wpAny (model prog w) A (call (.ref 136) [c1, c2, c3]) Q E s := by
  refine edge_open X fun A' hh hd' hu' => ?_
  refine kcallC (s := { s with toks := s.toks + 1 }) (mg := mg) (mb := mb) (E := fun _ _ => False) (binds := [(Str.ofString "_cls", Value.ref 136), (Str.ofString "size", c1), (Str.ofString "ratio", c2), (Str.ofString "minimum_size", c3)]) X G B hl (by omega) (by rfl : (KK w).lookup 83 = some _) rfl rfl rfl rfl rfl (by rfl) rfl rfl rfl (Looks.of_peek X (by rfl)) (by decide) (by intro y hy; simp at hy; rcases hy with rfl | rfl | rfl | rfl <;> rfl) fun env s1 A2 hS hh2 hd2 hu2 f E' => ?_
  have kS : ∀ y : Str, env.scope.names.lookup y = ([(Str.ofString "_cls", NameKind.local), (Str.ofString "size", NameKind.local), (Str.ofString "ratio", NameKind.local), (Str.ofString "minimum_size", NameKind.local), (Str.ofString "tuple", NameKind.globalImplicit)] : SC).lookup y := fun y => by rw [hS]
  refine wpAny_execs_cons (wpAny_Expr (wpAny_Constant_str ?_) (by unfold interactive; rw [f.kind]; rfl) rfl)
  have f0 := f.more (tk := s1.toks + 1) fun _ _ e => e
  refine wpAny_execs_cons (wpAny_Return_some ?_)
  refine methodCall_KW (f0.bui_ (by rw [kS]; rfl) bt.tuple ?_)
  refine tnew_meth f0.F f0.X ?_
  have f2 := f0.more (tk := s1.toks + 1 + 1) fun _ _ e => e
  show wpAny _ _ (callWith _ (.builtin "tuple.__new__") [] [(false, _), (false, _)] []) _ _ _
  refine callWith_builtin rfl ?_
  refine evalArgs_plain ?_
  refine spliced_cons ?_
  refine f2.loc (by rw [kS]; rfl) (by rfl) ?_
  refine spliced_cons ?_
  rw [if_neg (by decide)]
  refine wpAny_Tuple ?_
  refine spliced_cons (f2.loc (by rw [kS]; rfl) (by rfl) ?_)
  refine spliced_cons (f2.loc (by rw [kS]; rfl) (by rfl) ?_)
  refine spliced_cons (f2.loc (by rw [kS]; rfl) (by rfl) ?_)
  refine spliced_nil ⟨by show 3 ≤ sizeLine; decide, ?_⟩
  refine spliced_nil ?_
  have kp : ∀ b o, s.heap.get? b = some o → (s1.heap.push { cls := .type "tuple", data := .seq [c1, c2, c3].toArray }).get? b = some o := fun b o e => Heap.get?_push_of_some _ (f2.F.keep _ _ e)
  have X2 : (KK w).In (s1.heap.push { cls := .type "tuple", data := .seq [c1, c2, c3].toArray }) := X.keeps kp
  have back : ∀ a, (s1.heap.push { cls := .type "tuple", data := .seq [c1, c2, c3].toArray }).get? a = none → s.heap.get? a = none := fun a e => by
    cases e2 : s.heap.get? a with
    | none => rfl
    | some o => rw [kp _ _ e2] at e; cases e
  refine tnew_ok (vs := [c1, c2, c3]) (n := 0) X2 (Heap.get?_push_size _ rfl) rfl fun h' a dx m hf hf2 hk g g2 => ?_
  refine ⟨_, rfl, a, _, rfl, g, rfl, X2.keeps hk, ?_⟩
  obtain ⟨h1, tk, e⟩ := f2.oth
  have e2 : s1 = { s with heap := s1.heap, toks := s1.toks } := by
    obtain ⟨_, _, e⟩ := f.oth
    rw [e]
  rw [e2]
  exact hQ h' a m dx _ (back _ hf) (back _ hf2) (fun b o e => hk _ _ (kp _ _ e)) g g2
end
end Mine

end

section
open PySem PySem.Spec PySem.Calls PyProof.Rows PySem.MeetsSeq PySem.W
set_option autoImplicit false
set_option maxRecDepth 100000
namespace Mine
section
variable {w : World} {h : Heap} {mg mb : Str → Option Value} {L : Addr}

theorem ns_ne {a : Addr} {m : Str → Option Value} {vs : List Value} {n : Nat} (x : h.Ns a m) (hLo : h.get? L = some (lstO vs n)) : a ≠ L := by
  rintro rfl
  obtain ⟨o, es, ep, e, d, _⟩ := x
  rw [hLo] at e; cases e; cases d

theorem boot3 (hb : ∀ x : Str, x ≠ "__name__" → mb x = bootBuiltins x) (X : (KK w).In h) (G : h.Ns mainGlobals mg) : Boot mg mb :=
  ⟨boot_ok hb X G (by rfl) (by decide +kernel) (by decide), boot_ok hb X G (by rfl) (by decide +kernel) (by decide), boot_ok hb X G (by rfl) (by decide +kernel) (by decide)⟩

theorem top_ok {vs : List Value} {n : Nat} (hL : (KK w).lookup L = none) (hLo : h.get? L = some (lstO vs n)) (X : (KK w).In h) (G : h.Ns mainGlobals mg) (B : h.Ns builtinsNs mb) (hn : h.NoLimit) (hb : ∀ x : Str, x ≠ "__name__" → mb x = bootBuiltins x)
    (bm : ∃ bm ob, mg "__builtins__" = some (.ref bm) ∧ bm ≠ builtinsNs ∧ h.get? bm = some ob ∧ ob.cls = .type "module" ∧ ob.dict = some builtinsNs ∧ ob.data = .plain) (ht : ∃ ps, h.get? 141 = some { cls := .none, data := .fields ps }) :
    Top (par w L h mg mb) fns := by
  have G' : (cutH L h).Ns mainGlobals mg := ns_cut G (by decide) (ns_ne G hLo)
  have B' : (cutH L h).Ns builtinsNs mb := ns_cut B (by decide) (ns_ne B hLo)
  have X' := k_in_cut w hL X
  have hn' : (cutH L h).NoLimit := by
    obtain ⟨mc, a, b⟩ := hn
    exact ⟨mc, ns_cut a (by decide) (ns_ne a hLo), b⟩
  refine ⟨G', B', hn', fn_all hL X G, bi_all hb X G, boot_ok hb X G (by rfl) (by decide +kernel) (by decide), boot_ok hb X G (by rfl) (by decide +kernel) (by decide), boot_ok hb X G (by rfl) (by decide +kernel) (by decide),
    ?_, code_ok hL X, mg_of X G (by rfl), edgeK_ok hL X, ?_, ?_, fun A s l vs n Q E hh gl hQ => meth_ok A s l vs n Q E hh gl hQ, fun A s a l vs n c Q E h1 h2 h3 h4 h5 h6 h7 => appC_ok' A s a l vs n c Q E h1 h2 h3 h4 h5 h6 h7⟩
  · obtain ⟨b, ob, h1, h2, h3, h4, h5, h6⟩ := bm
    refine ⟨b, ob, ⟨G', h1, h2, (cut_other ?_ ?_).trans h3, h4, h5, h6⟩⟩
    · rintro rfl
      obtain ⟨ps, e⟩ := ht
      rw [h3] at e; cases e; cases h4
    · rintro rfl
      rw [hLo] at h3; cases h3; exact absurd (Value.type.inj h4) (by decide)
  · intro A s cs Q E hh hd hu bk h3 hQ
    obtain ⟨c1, c2, c3, rfl⟩ : ∃ a b c, cs = [a, b, c] := by
      rcases cs with _ | ⟨a, _ | ⟨b, _ | ⟨c, _ | ⟨d, l⟩⟩⟩⟩ <;> simp at h3
      exact ⟨a, b, c, rfl⟩
    exact edge_make (X'.keeps bk) (G'.keeps bk) (B'.keeps bk) (hn'.keeps bk) (boot3 hb X G) (by omega) fun h' a m dx tk e1 e2 e3 e4 e5 => hQ h' a m dx tk e1 e2 e3 e4 e5
  · intro A s k a vs n d v Q E hv hh hd hu bk hk g g2 hl hvs hQ
    refine attr_open (X'.keeps bk) (C := 136) rfl hk g g2 fun E' => ?_
    refine get43 (s := { s with toks := s.toks + 1 }) (X'.keeps bk) (G'.keeps bk) (B'.keeps bk) (hn'.keeps bk) (boot3 hb X G) (by show A.in1.depth < 1000; show A.depth < 1000; omega) hk g g2 hl hvs fun h' tk hkp => ⟨hv, hQ h' tk hkp⟩
end

theorem room0 (N : Nat) (h : N ≤ 670) : Room N callerA := by
  have e : callerA.depth = 301 := by decide +kernel
  have e2 : callerA.units = 4 := by decide +kernel
  exact ⟨rfl, by rw [e]; omega, by rw [e2]; omega⟩
end Mine

end

section
open PySem PySem.Spec PySem.Calls PyProof.Rows PySem.MeetsSeq PySem.W
set_option autoImplicit false
namespace Mine
theorem items_of : ∀ {xs : List WData}, WShape.hasItems [] xs .int = true → ∃ ns : List Int, xs = ns.map .int
  | [], _ => ⟨[], rfl⟩
  | x :: r, h => by
    simp only [WShape.hasItems, Bool.and_eq_true] at h
    obtain ⟨h1, h2⟩ := h
    obtain ⟨ns, rfl⟩ := items_of h2
    cases x <;> first | (simp [WShape.has, WShape.arms] at h1; done) | skip
    rename_i i
    exact ⟨i :: ns, rfl⟩
theorem args_of {args : List WData} (h : WShape.hasAll [] args [.list .int] = true) : ∃ ns : List Int, args = [.list (ns.map .int)] := by
  rcases args with _ | ⟨x, _ | ⟨y, r⟩⟩
  · simp [WShape.hasAll] at h
  · simp only [WShape.hasAll, Bool.and_eq_true] at h
    obtain ⟨h1, _⟩ := h
    cases x <;> first | (simp [WShape.has, WShape.arms] at h1; done) | skip
    rename_i xs
    have h2 : WShape.hasItems [] xs .int = true := by simpa [WShape.has, WShape.arms] using h1
    obtain ⟨ns, rfl⟩ := items_of h2
    exact ⟨ns, rfl⟩
  · simp [WShape.hasAll] at h
/-- nothing of the written part is a list -/
theorem no_list (w : World) : ∀ a o, (KK w).lookup a = some o → o.cls ≠ .type "list" := by
  have h : ((KK w).all fun p => p.2.cls != .type "list") = true := by kernel_rfl
  intro a o e q
  have : ∀ (K : Frag), (K.all fun p => p.2.cls != .type "list") = true → K.lookup a = some o → False := by
    intro K
    induction K with
    | nil => intro _ e; cases e
    | cons p r ih =>
      intro h e
      simp only [List.all_cons, Bool.and_eq_true] at h
      obtain ⟨b, x⟩ := p
      simp only [List.lookup] at e
      split at e
      · cases e; rw [q] at h; exact absurd h.1 (by decide)
      · exact ih h.2 e
  exact this _ h e
end Mine

end

section
open PySem PySem.Spec PySem.Calls PyProof.Rows PySem.MeetsSeq PySem.W
set_option autoImplicit false
set_option maxRecDepth 100000
namespace Mine
def PL : Prop := ∀ xs : List Int, xs.length ≤ 63 → ∃ N ah', N ≤ 670 ∧ acall fns N 8 [.lst (xs.map .int)] [[]] = some (.bool true, ah')

theorem vrs_ints {P : Par} {α : List Addr} {N : Addr → Prop} {h : Heap} {Pm : Params} {h2 : Heap} : ∀ {vs : List Value} {xs : List Int}, WellAll Pm h2 vs (xs.map .int) → VRs P α N h (xs.map .int) vs
  | _, [], x => by cases x; exact .nil
  | _, i :: r, x => by cases x with | cons a b => cases a; exact .cons (.int _ _) (vrs_ints b)

theorem tab_of {p : Program} {loose : List Str} {mean : ExcName → Option Value} {w : World} {mg mb : Str → Option Value} {h : Heap} (T : PyProof.Rows.Top p loose mean mg mb h) (hp : ((recsOf p).any fun d => d.name == "ratio_resolve") = true) (X : (KK w).In h) (G : h.Ns mainGlobals mg) :
    h.TableAt 143 141 #[] := by
  obtain ⟨d, hd, hn⟩ := List.any_eq_true.mp hp
  obtain ⟨a, o, fd, c, P, h1, h2, h3, h4, h5, h6⟩ := T.tab d hd
  rw [beq_iff_eq.mp hn] at h1
  have e1 : mg "ratio_resolve" = some (.ref 144) := mg_of X G (by rfl)
  rw [e1] at h1
  have ea : 144 = a := Value.ref.inj (Option.some.inj h1)
  subst ea
  have e2 := X _ _ (by rfl : (KK w).lookup 144 = some _)
  rw [e2] at h2
  have e3 := Option.some.inj h2
  subst e3
  have e4 := Data.func.inj h3
  subst e4
  have e5 : 143 = c := Value.ref.inj h4
  subst e5
  obtain ⟨⟨o2, vs, g1, g2, g3, g4⟩, g5⟩ := h6
  have e6 := X _ _ (by rfl : (KK w).lookup 143 = some _)
  have e7 := Option.some.inj (e6.symm.trans g1)
  subst e7
  have e8 := Data.fields.inj g3
  subst e8
  have e9 : some (Value.ref 141) = some (Value.ref P) := g4
  have e10 := Value.ref.inj (Option.some.inj e9)
  subst e10
  exact ⟨⟨_, _, e6, rfl, rfl, rfl⟩, g5⟩

theorem holds_of (pl : PL) : PySem.Challenge.rw_ey0018_01.Holds := by
  refine hd ?_
  intro w s₀ s₁ mg mb G Y a o pm cd doc dV kV ho hdata hcode hdflts hmg hgens args vals as hpre hlay hreads hwell hsys
  have X : (KK w).In s₁.heap := kIn_of Y
  have hsh : WShape.hasAll [] args [.list .int] = true := (pre_splitW hpre).1
  obtain ⟨ns, rfl⟩ := args_of hsh
  cases hwell with
  | cons h1 h2 =>
  cases h2
  cases h1 with
  | @list L vs _ hLo hw =>
  have hL : (KK w).lookup L = none := by
    cases e : (KK w).lookup L with
    | none => rfl
    | some o' =>
      have := X _ _ e
      rw [hLo] at this
      cases this
      exact absurd rfl (no_list w _ _ e)
  have tab : s₁.heap.TableAt 143 141 #[] := tab_of G.T (by kernel_rfl) X G.T.g
  have hLt : L ≠ 141 := by
    rintro rfl
    have := tab.2
    rw [hLo] at this; cases this
  have T := top_ok (mb := mb) hL hLo X G.T.g G.T.b G.T.nolimit G.T.builtins G.T.bmain ⟨_, tab.2⟩
  have hcond := condW_of (holds_andW (pre_splitW hpre).2).1 (by wtm_val)
  have hn64 : (ns.length : Int) ≤ 63 := by simpa using hcond
  have hn63 : ns.length ≤ 63 := by omega
  obtain ⟨N, ah', hN, hac⟩ := pl ns hn63
  have e1 : mg "law" = some (.ref 189) := mg_of X G.T.g (by rfl)
  have ea : (189 : Addr) = a := Value.ref.inj (Option.some.inj (e1.symm.trans hmg))
  subst ea
  let NN : Addr → Prop := fun b => (∃ o, s₁.heap.get? b = some o) ∧ b ≠ 141 ∧ b ≠ L
  have W : WS (par w L s₁.heap mg mb) [141] NN [[]] s₁ := by
    refine ⟨⟨rfl, rfl, ⟨#[], by show s₁.heap.get? 141 = some { cls := .none, data := .fields (#[] ++ #[]) }; simpa using tab.2, trivial⟩, ?_, by simp, ?_⟩, fun b h => h.1, fun b o e => (cut_old e).2.2, fun b o e => ⟨⟨o, (cut_old e).2.2⟩, (cut_old e).1, (cut_old e).2.1⟩⟩
    · intro r xs h0 e
      rcases r with _ | r
      · exact absurd rfl h0
      · simp at e
    · intro b hb q
      have : b = 141 := by simpa using hb
      exact q.2.1 this
  have V : VRs (par w L s₁.heap mg mb) [141] NN s₁.heap [.lst (ns.map .int)] [.ref L] :=
    .cons (.lst (n := 0) hLo (by simpa using hLt) (fun q => q.2.2 rfl) (vrs_ints hw)) .nil
  refine (all_ok T N).c N (Nat.le_refl _) 8 _ _ _ _ _ _ _ _ _ _ _ hac W V (room0 N hN) ?_
  intro α' s' c st H r
  cases r
  refine ⟨.inl ⟨_, .bool true, [], rfl, fun _ => rfl, ReadsW.bool true, by wrow_post, fun _ => ⟨List.nodup_nil, fun _ hm => nomatch hm⟩⟩, ⟨?_, ?_⟩, st.os, st.gens (by rw [hgens]; exact AllBare.empty)⟩
  · intro b o e
    by_cases hb : b = 141
    · subst hb
      obtain ⟨more, g, _⟩ := H.tab
      have eo := Option.some.inj (e.symm.trans tab.2)
      subst eo
      exact .inr (.inl ⟨tab.isCodeTable, rfl, #[], more, rfl, g⟩)
    · exact .inl (st.grow.keep b o (by simpa using hb) id e)
  · intro b o e
    exact st.grow.live b o e
end Mine

end

section
open PySem
set_option autoImplicit false
namespace Mine
section
variable {F : Nat → Option Fn} {n : Nat} {ρ : AE} {ah : AH}
theorem ae_none : ae F (n + 1) .none ρ ah = some (.none, ah) := by rw [ae] <;> rfl
theorem ae_bool {b : Bool} : ae F (n + 1) (.bool b) ρ ah = some (.bool b, ah) := by rw [ae] <;> rfl
theorem ae_int {i : Int} : ae F (n + 1) (.int i) ρ ah = some (.int i, ah) := by rw [ae] <;> rfl
theorem ae_var {x : Nat} : ae F (n + 1) (.var x) ρ ah = (ρ x).map fun v => (v, ah) := by rw [ae] <;> rfl
theorem ae_bin {op : Operator} {a b : EE} : ae F (n + 1) (.bin op a b) ρ ah = (ae F n a ρ ah).bind fun p => (ae F n b ρ p.2).bind fun q => abin op q.2 p.1 q.1 := by rw [ae] <;> rfl
theorem ae_neg {a : EE} : ae F (n + 1) (.neg a) ρ ah = (ae F n a ρ ah).bind fun p => match p.1 with
      | .int i => some (.int (-i), p.2)
      | _ => none := by rw [ae] <;> rfl
theorem ae_cmp {op : CmpOp} {a b : EE} : ae F (n + 1) (.cmp op a b) ρ ah = (ae F n a ρ ah).bind fun p => (ae F n b ρ p.2).bind fun q => (acmp op q.2 p.1 q.1).map fun t => (.bool t, q.2) := by rw [ae] <;> rfl
theorem ae_bo {o : Bool} {a b : EE} : ae F (n + 1) (.bo o a b) ρ ah = (ae F n a ρ ah).bind fun p => (atruth p.2 p.1).bind fun t => if t = o then some p else ae F n b ρ p.2 := by rw [ae] <;> rfl
theorem ae_ife {t a b : EE} : ae F (n + 1) (.ife t a b) ρ ah = (att F n t ρ ah).bind fun p => if p.1 = true then ae F n a ρ p.2 else ae F n b ρ p.2 := by rw [ae] <;> rfl
theorem ae_call {g : Nat} {as : ES} : ae F (n + 1) (.call g as) ρ ah = (aes F n as ρ ah).bind fun p => acall F n g p.1 p.2 := by rw [ae] <;> rfl
theorem ae_bi {b : BI} {as : ES} : ae F (n + 1) (.bi b as) ρ ah = (aes F n as ρ ah).bind fun p => (abi b p.2 p.1).map fun v => (v, p.2) := by rw [ae] <;> rfl
theorem ae_edge {as : ES} : ae F (n + 1) (.edge as) ρ ah = (aes F n as ρ ah).bind fun p => if p.1.length = 3 then some (.edge p.1, p.2) else none := by rw [ae] <;> rfl
theorem ae_attr {k : Nat} {a : EE} : ae F (n + 1) (.attr k a) ρ ah = (ae F n a ρ ah).bind fun p => match p.1 with
      | .edge xs => (pick3 xs k).map fun v => (v, p.2)
      | _ => none := by rw [ae] <;> rfl
theorem ae_meth {a : EE} : ae F (n + 1) (.meth a) ρ ah = (ae F n a ρ ah).bind fun p => match p.1 with
      | .ref r => some (.app r, p.2)
      | _ => none := by rw [ae] <;> rfl
theorem ae_sub {a i : EE} : ae F (n + 1) (.sub a i) ρ ah = (ae F n a ρ ah).bind fun p => (ae F n i ρ p.2).bind fun q => (asub q.2 p.1 q.1).map fun v => (v, q.2) := by rw [ae] <;> rfl
theorem ae_slice {a : EE} {hi : Option Nat} : ae F (n + 1) (.slice a hi) ρ ah = (ae F n a ρ ah).bind fun p => (items p.2 p.1).bind fun xs => if xs.length < 1000 then some (.lst (takeO hi xs), p.2) else none := by rw [ae] <;> rfl
theorem ae_lstT {as : ES} : ae F (n + 1) (.lst true as) ρ ah = (aes F n as ρ ah).bind fun p => if p.1.length < 1000 then some (.ref p.2.length, p.2 ++ [p.1]) else none := by rw [ae]; rfl
theorem ae_lstF {as : ES} : ae F (n + 1) (.lst false as) ρ ah = (aes F n as ρ ah).bind fun p => if p.1.length < 1000 then some (.lst p.1, p.2) else none := by rw [ae]; rfl
theorem ae_tup {as : ES} : ae F (n + 1) (.tup as) ρ ah = (aes F n as ρ ah).bind fun p => if p.1.length < 1000 then some (.tup p.1, p.2) else none := by rw [ae] <;> rfl
theorem ae_compT {elt : EE} {tg : TG} {it : IT} {ifs : OE} {cap : List Nat} : ae F (n + 1) (.comp elt tg it ifs true cap) ρ ah = (ait F n it ρ ah).bind fun p => (acomp F n elt tg ifs (capt ρ cap) p.1 0 [] p.2).bind fun q =>
        some (.ref q.2.length, q.2 ++ [q.1]) := by rw [ae]; rfl
theorem ae_compF {elt : EE} {tg : TG} {it : IT} {ifs : OE} {cap : List Nat} : ae F (n + 1) (.comp elt tg it ifs false cap) ρ ah = (ait F n it ρ ah).bind fun p => (acomp F n elt tg ifs (capt ρ cap) p.1 0 [] p.2).bind fun q =>
        some (.lst q.1, q.2) := by rw [ae]; rfl
theorem ae_sumg {ak : Option Nat} {c : Int} {x : Nat} {tg : TG} {it : EE} : ae F (n + 1) (.sumg ak c x tg it) ρ ah = (ae F n it ρ ah).bind fun p => (items p.2 p.1).bind fun xs => (asum ak c x tg xs).bind fun ns =>
        if ns.length < 1000 ∧ ns.all (fun i => small30 i) then some (.int ns.sum, p.2) else none := by rw [ae] <;> rfl
theorem aes_nil : aes F (n + 1) .nil ρ ah = some ([], ah) := by rw [aes] <;> rfl
theorem aes_cons {e : EE} {r : ES} : aes F (n + 1) (.cons e r) ρ ah = (ae F n e ρ ah).bind fun p => (aes F n r ρ p.2).bind fun q => some (p.1 :: q.1, q.2) := by rw [aes] <;> rfl
theorem ait_e {a : EE} : ait F (n + 1) (.e a) ρ ah = (ae F n a ρ ah).bind fun p => if srcOk p.2 (.L p.1) = true then some (.L p.1, p.2) else none := by rw [ait] <;> rfl
theorem ait_range {a : EE} : ait F (n + 1) (.range a) ρ ah = (ae F n a ρ ah).bind fun p => match p.1 with
      | .int i => if 0 ≤ i ∧ i < 1000 then some (.R i.toNat, p.2) else none
      | _ => none := by rw [ait] <;> rfl
theorem ait_zip {as : ES} : ait F (n + 1) (.zip as) ρ ah = (aes F n as ρ ah).bind fun p => match p.1 with
      | [u, v] => if srcOk p.2 (.Z2 u v) = true then some (.Z2 u v, p.2) else none
      | [u, v, w] => if srcOk p.2 (.Z3 u v w) = true then some (.Z3 u v w, p.2) else none
      | _ => none := by rw [ait] <;> rfl
theorem ait_ezip {as : ES} : ait F (n + 1) (.ezip as) ρ ah = (aes F n as ρ ah).bind fun p => match p.1 with
      | [u, v] => if srcOk p.2 (.EZ u v) = true then some (.EZ u v, p.2) else none
      | _ => none := by rw [ait] <;> rfl
theorem att_nt {a : EE} : att F (n + 1) (.nt a) ρ ah = (att F n a ρ ah).map fun p => (!p.1, p.2) := by rw [att]
theorem att_bo {o : Bool} {a b : EE} : att F (n + 1) (.bo o a b) ρ ah = (att F n a ρ ah).bind fun p => if p.1 = o then some p else att F n b ρ p.2 := by rw [att]
theorem att_var {x : Nat} : att F (n + 1) (.var x) ρ ah = (ae F n (.var x) ρ ah).bind fun p => (atruth p.2 p.1).map fun t => (t, p.2) := by rw [att] <;> (intros; contradiction)
theorem att_cmp {op : CmpOp} {a b : EE} : att F (n + 1) (.cmp op a b) ρ ah = (ae F n (.cmp op a b) ρ ah).bind fun p => (atruth p.2 p.1).map fun t => (t, p.2) := by rw [att] <;> (intros; contradiction)
theorem att_sub {a b : EE} : att F (n + 1) (.sub a b) ρ ah = (ae F n (.sub a b) ρ ah).bind fun p => (atruth p.2 p.1).map fun t => (t, p.2) := by rw [att] <;> (intros; contradiction)
theorem att_bin {op : Operator} {a b : EE} : att F (n + 1) (.bin op a b) ρ ah = (ae F n (.bin op a b) ρ ah).bind fun p => (atruth p.2 p.1).map fun t => (t, p.2) := by rw [att] <;> (intros; contradiction)
theorem att_comp {elt : EE} {tg : TG} {it : IT} {ifs : OE} {m : Bool} {cap : List Nat} : att F (n + 1) (.comp elt tg it ifs m cap) ρ ah = (ae F n (.comp elt tg it ifs m cap) ρ ah).bind fun p => (atruth p.2 p.1).map fun t => (t, p.2) := by rw [att] <;> (intros; contradiction)
theorem acall_ {g : Nat} {vs : List AV} : acall F (n + 1) g vs ah = (F g).bind fun f =>
    if (vs ++ f.df.drop (f.df.length - (f.ps.length - vs.length))).length = f.ps.length then
      (axs F n f.body ((f.ps.zip (vs ++ f.df.drop (f.df.length - (f.ps.length - vs.length)))).foldl (fun ρ p => upd ρ p.1 p.2) fun _ => none) ah).bind fun q => match q.1 with
        | .ret v => some (v, q.2.2)
        | _ => none
    else none := by rw [acall] <;> rfl
theorem ax_asg {tg : TG} {e : EE} : ax F (n + 1) (.asg tg e) ρ ah = (ae F n e ρ ah).bind fun p => (bindT tg p.1 ρ).map fun ρ' => (.nx, ρ', p.2) := by rw [ax] <;> rfl
theorem ax_asub {x : Nat} {i e : EE} : ax F (n + 1) (.asub x i e) ρ ah = (ae F n e ρ ah).bind fun p => (ρ x).bind fun o => (ae F n i ρ p.2).bind fun q => match o, q.1 with
      | .ref r, .int k => (q.2[r]?).bind fun xs => if 0 ≤ k ∧ k < xs.length ∧ xs.length < 1000 then some (.nx, ρ, q.2.set r (xs.set k.toNat p.1)) else none
      | _, _ => none := by rw [ax] <;> rfl
theorem ax_aug {x : Nat} {op : Operator} {e : EE} : ax F (n + 1) (.aug x op e) ρ ah = (ρ x).bind fun o => (ae F n e ρ ah).bind fun p => match op, o, p.1 with
      | .Add, .int a, .int b => some (.nx, upd ρ x (.int (a + b)), p.2)
      | .Sub, .int a, .int b => some (.nx, upd ρ x (.int (a - b)), p.2)
      | _, _, _ => none := by rw [ax] <;> rfl
theorem ax_appm {x : Nat} {e : EE} : ax F (n + 1) (.appm x e) ρ ah = (ρ x).bind fun o => (ae F n e ρ ah).bind fun p => match o with
      | .ref r => (p.2[r]?).bind fun xs => if xs.length < 1000 then some (.nx, ρ, p.2.set r (xs ++ [p.1])) else none
      | _ => none := by rw [ax] <;> rfl
theorem ax_app {x : Nat} {e : EE} : ax F (n + 1) (.app x e) ρ ah = (ρ x).bind fun o => (ae F n e ρ ah).bind fun p => match o with
      | .app r => (p.2[r]?).bind fun xs => if xs.length < 1000 then some (.nx, ρ, p.2.set r (xs ++ [p.1])) else none
      | _ => none := by rw [ax] <;> rfl
theorem ax_ite {t : EE} {a b : SL} : ax F (n + 1) (.ite t a b) ρ ah = (att F n t ρ ah).bind fun p => if p.1 = true then axs F n a ρ p.2 else axs F n b ρ p.2 := by rw [ax] <;> rfl
theorem ax_whl {t : EE} {b : SL} : ax F (n + 1) (.whl t b) ρ ah = awh F n t b ρ ah := by rw [ax] <;> rfl
theorem ax_for {tg : TG} {it : IT} {b o : SL} : ax F (n + 1) (.for_ tg it b o) ρ ah = (ait F n it ρ ah).bind fun p => afor F n tg p.1 0 b o ρ p.2 := by rw [ax] <;> rfl
theorem ax_brk : ax F (n + 1) .brk ρ ah = some (.brk, ρ, ah) := by rw [ax] <;> rfl
theorem ax_cont : ax F (n + 1) .cont ρ ah = some (.cn, ρ, ah) := by rw [ax] <;> rfl
theorem ax_ret {e : EE} : ax F (n + 1) (.ret e) ρ ah = (ae F n e ρ ah).map fun p => (.ret p.1, ρ, p.2) := by rw [ax] <;> rfl
theorem ax_asrt {t : EE} : ax F (n + 1) (.asrt t) ρ ah = (att F n t ρ ah).bind fun p => if p.1 = true then some (.nx, ρ, p.2) else none := by rw [ax] <;> rfl
theorem ax_doc : ax F (n + 1) .doc ρ ah = some (.nx, ρ, ah) := by rw [ax] <;> rfl
theorem axs_nil : axs F (n + 1) .nil ρ ah = some (.nx, ρ, ah) := by rw [axs] <;> rfl
theorem axs_cons {s : SS} {r : SL} : axs F (n + 1) (.cons s r) ρ ah = (ax F n s ρ ah).bind fun p => match p.1 with
      | .nx => axs F n r p.2.1 p.2.2
      | _ => some p := by rw [axs] <;> rfl
theorem acomp_end {elt : EE} {tg : TG} {ifs : OE} {src : Src} {k : Nat} {acc : List AV} (h : srcGet ah k src = none) : acomp F (n + 1) elt tg ifs ρ src k acc ah = some (acc, ah) := by rw [acomp, h]
theorem acomp_step {elt : EE} {tg : TG} {src : Src} {k : Nat} {acc : List AV} {v x : AV} {ρ' : AE} {ah' : AH} (h : srcGet ah k src = some v) (hb : bindT tg v ρ = some ρ') (hl : acc.length < 1000) (he : ae F n elt ρ' ah = some (x, ah')) :
    acomp F (n + 1) elt tg .none ρ src k acc ah = acomp F n elt tg .none ρ src (k + 1) (acc ++ [x]) ah' := by rw [acomp, h]; simp only [hb, Option.bind_some, hl, if_true, he]
theorem acomp_yes {elt c : EE} {tg : TG} {src : Src} {k : Nat} {acc : List AV} {v x : AV} {ρ' : AE} {ah' ah'' : AH} (h : srcGet ah k src = some v) (hb : bindT tg v ρ = some ρ') (ht : att F n c ρ' ah = some (true, ah')) (hl : acc.length < 1000) (he : ae F n elt ρ' ah' = some (x, ah'')) :
    acomp F (n + 1) elt tg (.some c) ρ src k acc ah = acomp F n elt tg (.some c) ρ src (k + 1) (acc ++ [x]) ah'' := by rw [acomp, h]; simp only [hb, Option.bind_some, ht, hl, if_true, he]
theorem acomp_no {elt c : EE} {tg : TG} {src : Src} {k : Nat} {acc : List AV} {v : AV} {ρ' : AE} {ah' : AH} (h : srcGet ah k src = some v) (hb : bindT tg v ρ = some ρ') (ht : att F n c ρ' ah = some (false, ah')) (hl : acc.length < 1000) :
    acomp F (n + 1) elt tg (.some c) ρ src k acc ah = acomp F n elt tg (.some c) ρ src (k + 1) acc ah' := by rw [acomp, h]; simp only [hb, Option.bind_some, ht, hl, if_true, Bool.false_eq_true, if_false]
theorem awh_no {t : EE} {b : SL} {ah' : AH} (h : att F n t ρ ah = some (false, ah')) : awh F (n + 1) t b ρ ah = some (.nx, ρ, ah') := by rw [awh, h]; simp only [Option.bind_some, Bool.false_eq_true, if_false]
theorem awh_yes {t : EE} {b : SL} {ah' : AH} (h : att F n t ρ ah = some (true, ah')) : awh F (n + 1) t b ρ ah = (axs F n b ρ ah').bind fun q => match q.1 with
        | .nx => awh F n t b q.2.1 q.2.2
        | .cn => awh F n t b q.2.1 q.2.2
        | .brk => some (.nx, q.2.1, q.2.2)
        | .ret v => some (.ret v, q.2.1, q.2.2) := by rw [awh, h]; simp only [Option.bind_some, if_true] <;> rfl
theorem afor_end {tg : TG} {src : Src} {k : Nat} {b o : SL} (h : srcGet ah k src = none) : afor F (n + 1) tg src k b o ρ ah = axs F n o ρ ah := by rw [afor, h]
theorem afor_step {tg : TG} {src : Src} {k : Nat} {b o : SL} {v : AV} {ρ' : AE} (h : srcGet ah k src = some v) (hb : bindT tg v ρ = some ρ') : afor F (n + 1) tg src k b o ρ ah = (axs F n b ρ' ah).bind fun q => match q.1 with
        | .nx => afor F n tg src (k + 1) b o q.2.1 q.2.2
        | .cn => afor F n tg src (k + 1) b o q.2.1 q.2.2
        | .brk => some (.nx, q.2.1, q.2.2)
        | .ret v => some (.ret v, q.2.1, q.2.2) := by rw [afor, h]; simp only [hb, Option.bind_some] <;> rfl

theorem upd_ {x : Nat} {v : AV} {y : Nat} : upd ρ x v y = if y = x then some v else ρ y := rfl
theorem bindT_var {x : Nat} {v : AV} : bindT (.var x) v ρ = some (upd ρ x v) := rfl
theorem bindT_2 {a b : TG} {u v : AV} : bindT (.t2 a b) (.tup [u, v]) ρ = (bindT a u ρ).bind (bindT b v) := rfl
theorem bindT_3 {a b c : TG} {u v w : AV} : bindT (.t3 a b c) (.tup [u, v, w]) ρ = ((bindT a u ρ).bind (bindT b v)).bind (bindT c w) := rfl
theorem items_lst {xs : List AV} : items ah (.lst xs) = some xs := rfl
theorem items_ref {r : Nat} : items ah (.ref r) = ah[r]? := rfl
theorem tr_none : atruth ah .none = some false := rfl
theorem tr_bool {b : Bool} : atruth ah (.bool b) = some b := rfl
theorem tr_int {i : Int} : atruth ah (.int i) = some (i != 0) := rfl
theorem tr_lst {xs : List AV} : atruth ah (.lst xs) = if xs.length < 1000 then some (!xs.isEmpty) else none := rfl
theorem tr_ref {r : Nat} : atruth ah (.ref r) = (ah[r]?).bind fun xs => if xs.length < 1000 then some (!xs.isEmpty) else none := rfl
variable {a b : Int}
theorem b_add : abin .Add ah (.int a) (.int b) = some (.int (a + b), ah) := rfl
theorem b_sub : abin .Sub ah (.int a) (.int b) = some (.int (a - b), ah) := rfl
theorem b_mul (h : small a = true) : abin .Mult ah (.int a) (.int b) = some (.int (a * b), ah) := by simp only [abin, h, if_true]
theorem b_fdiv (h : b ≠ 0) (h2 : small30 b = true) : abin .FloorDiv ah (.int a) (.int b) = some (.int (a.fdiv b), ah) := by simp only [abin, if_pos (And.intro h h2)]
theorem b_mod (h : b ≠ 0) : abin .Mod ah (.int a) (.int b) = some (.int (a.fmod b), ah) := by simp only [abin, if_pos h]
theorem b_and : abin .BitAnd ah (.int a) (.int b) = some (.int (Builtin.bitAnd a b), ah) := rfl
theorem c_is {u : AV} : acmp .Is ah u .none = some (isNone u) := by cases u <;> rfl
theorem c_isnot {u : AV} : acmp .IsNot ah u .none = some (!isNone u) := by cases u <;> rfl
theorem c_lt : acmp .Lt ah (.int a) (.int b) = some (decide (a < b)) := rfl
theorem c_le : acmp .LtE ah (.int a) (.int b) = some (decide (a ≤ b)) := rfl
theorem c_gt : acmp .Gt ah (.int a) (.int b) = some (decide (a > b)) := rfl
theorem c_ge : acmp .GtE ah (.int a) (.int b) = some (decide (a ≥ b)) := rfl
theorem c_eq : acmp .Eq ah (.int a) (.int b) = some (a == b) := rfl
theorem c_ne : acmp .NotEq ah (.int a) (.int b) = some (a != b) := rfl
theorem nn_none : isNone .none = true := rfl
theorem nn_lst {xs : List AV} : isNone (.lst xs) = false := rfl
theorem nn_ref {r : Nat} : isNone (.ref r) = false := rfl
theorem nn_int : isNone (.int a) = false := rfl
theorem i_len {v : AV} {xs : List AV} (h : items ah v = some xs) (hl : xs.length < 1000) : abi .len ah [v] = some (.int xs.length) := by simp only [abi, h, if_pos hl]
theorem sub_tup {xs : List AV} {k : Int} (h : 0 ≤ k ∧ k < 1000) : asub ah (.tup xs) (.int k) = xs[k.toNat]? := by simp only [asub, if_pos h]
theorem sub_lst {xs : List AV} {k : Int} (h : 0 ≤ k ∧ k < 1000) : asub ah (.lst xs) (.int k) = xs[k.toNat]? := by simp only [asub, items, if_pos h]
theorem sub_ref {r : Nat} {xs : List AV} {k : Int} (h : 0 ≤ k ∧ k < 1000) (hr : ah[r]? = some xs) : asub ah (.ref r) (.int k) = xs[k.toNat]? := by simp only [asub, items, hr, if_pos h]
end
end Mine

end

section
open PySem
set_option autoImplicit false
set_option linter.unusedSimpArgs false
set_option linter.unusedVariables false
set_option maxRecDepth 100000
namespace Mine

/-- the state of the draws lies at r -/
def St (cells : List Int) (r : Nat) (ah : AH) : Prop := ∃ i : Int, 0 ≤ i ∧ ah[r]? = some [.lst (cells.map .int), .int i]

theorem draw {r : Nat} {ah : AH} {cells : List Int} {many : Int} (hl : cells.length ≤ 40) (hm : 0 < many) (S : St cells r ah) :
    ∃ v ah', (∀ n, 12 ≤ n → acall fns n 0 [.ref r, .int many] ah = some (.int v, ah')) ∧ 0 ≤ v ∧ v < many ∧ St cells r ah' := by
  obtain ⟨i, hi, h⟩ := S
  have s0 : asub ah (.ref r) (.int 0) = some (.lst (cells.map .int)) := by rw [sub_ref (by decide) h]; rfl
  have s1 : asub ah (.ref r) (.int 1) = some (.int i) := by rw [sub_ref (by decide) h]; rfl
  have l0 : abi .len ah [.lst (cells.map .int)] = some (.int cells.length) := by rw [i_len items_lst (by rw [List.length_map]; omega), List.length_map]
  by_cases hc : (cells.length : Int) ≤ i
  · refine ⟨0, ah, fun n hn => ?_, by omega, hm, i, hi, h⟩
    obtain ⟨m, rfl⟩ : ∃ m, n = m + 12 := ⟨n - 12, by omega⟩
    rw [acall_]
    simp only [fns, bd_law_draw, st_law_draw_0, List.drop_nil, List.append_nil, List.zip_cons_cons, List.zip_nil_right, List.foldl_cons, List.foldl_nil, ae_none, ae_bool, ae_int, ae_var, ae_bin, ae_neg, ae_cmp, ae_bo, ae_ife, ae_call, ae_bi, ae_edge, ae_attr, ae_meth, ae_sub, ae_slice, ae_lstT, ae_lstF, ae_tup, ae_compT, ae_compF, ae_sumg, aes_nil, aes_cons, ait_e, ait_range, ait_zip, ait_ezip, att_nt, att_bo, att_var, att_cmp, att_sub, att_bin, att_comp, ax_asg, ax_asub, ax_aug, ax_appm, ax_app, ax_ite, ax_whl, ax_for, ax_brk, ax_cont, ax_ret, ax_asrt, ax_doc, axs_nil, axs_cons, upd_, bindT_var, bindT_2, bindT_3, items_lst, items_ref, tr_none, tr_bool, tr_int, tr_lst, tr_ref, b_add, b_sub, b_and, c_is, c_isnot, c_lt, c_le, c_gt, c_ge, c_eq, c_ne, nn_none, nn_int, nn_lst, nn_ref, Option.bind_some, Option.map_some, if_true, if_false, Bool.false_eq_true, reduceIte, Nat.reduceEqDiff, Nat.reduceAdd, List.length_cons, List.length_nil, Nat.reduceLT, Nat.add_zero, Nat.zero_add, s0, s1, l0, ge_iff_le, hc, decide_true]
  · have hk : i.toNat < cells.length := by omega
    have s2 : asub ah (.lst (cells.map .int)) (.int i) = some (.int cells[i.toNat]) := by
      rw [sub_lst (by omega)]; simp [hk]
    have hm0 : many ≠ 0 := by omega
    refine ⟨cells[i.toNat].fmod many, ah.set r [.lst (cells.map .int), .int (i + 1)], fun n hn => ?_, Int.fmod_nonneg_of_pos _ hm, Int.fmod_lt_of_pos _ hm, i + 1, by omega, ?_⟩
    · obtain ⟨m, rfl⟩ : ∃ m, n = m + 12 := ⟨n - 12, by omega⟩
      rw [acall_]
      simp only [fns, bd_law_draw, st_law_draw_0, st_law_draw_1, st_law_draw_2, st_law_draw_3, List.drop_nil, List.append_nil, List.zip_cons_cons, List.zip_nil_right, List.foldl_cons, List.foldl_nil, ae_none, ae_bool, ae_int, ae_var, ae_bin, ae_neg, ae_cmp, ae_bo, ae_ife, ae_call, ae_bi, ae_edge, ae_attr, ae_meth, ae_sub, ae_slice, ae_lstT, ae_lstF, ae_tup, ae_compT, ae_compF, ae_sumg, aes_nil, aes_cons, ait_e, ait_range, ait_zip, ait_ezip, att_nt, att_bo, att_var, att_cmp, att_sub, att_bin, att_comp, ax_asg, ax_asub, ax_aug, ax_appm, ax_app, ax_ite, ax_whl, ax_for, ax_brk, ax_cont, ax_ret, ax_asrt, ax_doc, axs_nil, axs_cons, upd_, bindT_var, bindT_2, bindT_3, items_lst, items_ref, tr_none, tr_bool, tr_int, tr_lst, tr_ref, b_add, b_sub, b_and, c_is, c_isnot, c_lt, c_le, c_gt, c_ge, c_eq, c_ne, nn_none, nn_int, nn_lst, nn_ref, Option.bind_some, Option.map_some, if_true, if_false, Bool.false_eq_true, reduceIte, Nat.reduceEqDiff, Nat.reduceAdd, List.length_cons, List.length_nil, Nat.reduceLT, Nat.add_zero, Nat.zero_add, s0, s1, s2, l0, ge_iff_le, hc, decide_false, b_mod hm0, h]
      rfl
    · have : r < ah.length := by
        rcases Nat.lt_or_ge r ah.length with q | q
        · exact q
        · rw [List.getElem?_eq_none q] at h; cases h
      rw [List.getElem?_set_self this]
end Mine

end

section
open PySem
set_option autoImplicit false
set_option linter.unusedSimpArgs false
set_option linter.unusedVariables false
set_option maxRecDepth 100000
namespace Mine
section
variable {F : Nat → Option Fn}

theorem acomp_run {elt : EE} {tg : TG} {ρ : AE} {src : Src} (P : Nat → List AV → AH → Prop) (N c : Nat)
    (step : ∀ k acc ah, k < N → P k acc ah → acc.length < 1000 ∧ ∃ v ρ' x ah', srcGet ah k src = some v ∧ bindT tg v ρ = some ρ' ∧ (∀ n, c ≤ n → ae F n elt ρ' ah = some (x, ah')) ∧ P (k + 1) (acc ++ [x]) ah')
    (fin : ∀ acc ah, P N acc ah → srcGet ah N src = none) :
    ∀ (d k : Nat) acc ah, k + d = N → P k acc ah → ∃ acc' ah', P N acc' ah' ∧ ∀ n, c + d + 1 ≤ n → acomp F n elt tg .none ρ src k acc ah = some (acc', ah')
  | 0, k, acc, ah, e, h => by
    have e : k = N := e
    subst e
    refine ⟨acc, ah, h, fun n hn => ?_⟩
    obtain ⟨m, rfl⟩ : ∃ m, n = m + 1 := ⟨n - 1, by omega⟩
    exact acomp_end (fin _ _ h)
  | d + 1, k, acc, ah, e, h => by
    obtain ⟨hl, v, ρ', x, ah1, h1, h2, h3, h4⟩ := step k acc ah (by omega) h
    obtain ⟨acc', ah', h5, h6⟩ := acomp_run P N c step fin d (k + 1) _ _ (by omega) h4
    refine ⟨acc', ah', h5, fun n hn => ?_⟩
    obtain ⟨m, rfl⟩ : ∃ m, n = m + 1 := ⟨n - 1, by omega⟩
    rw [acomp_step h1 h2 hl (h3 m (by omega)), h6 m (by omega)]

theorem acomp_runF {elt cnd : EE} {tg : TG} {ρ : AE} {src : Src} (P : Nat → List AV → AH → Prop) (N c : Nat)
    (step : ∀ k acc ah, k < N → P k acc ah → acc.length < 1000 ∧ ∃ v ρ' b ah', srcGet ah k src = some v ∧ bindT tg v ρ = some ρ' ∧ (∀ n, c ≤ n → att F n cnd ρ' ah = some (b, ah')) ∧
      (b = true → ∃ x ah'', (∀ n, c ≤ n → ae F n elt ρ' ah' = some (x, ah'')) ∧ P (k + 1) (acc ++ [x]) ah'') ∧ (b = false → P (k + 1) acc ah'))
    (fin : ∀ acc ah, P N acc ah → srcGet ah N src = none) :
    ∀ (d k : Nat) acc ah, k + d = N → P k acc ah → ∃ acc' ah', P N acc' ah' ∧ ∀ n, c + d + 1 ≤ n → acomp F n elt tg (.some cnd) ρ src k acc ah = some (acc', ah')
  | 0, k, acc, ah, e, h => by
    have e : k = N := e
    subst e
    refine ⟨acc, ah, h, fun n hn => ?_⟩
    obtain ⟨m, rfl⟩ : ∃ m, n = m + 1 := ⟨n - 1, by omega⟩
    exact acomp_end (fin _ _ h)
  | d + 1, k, acc, ah, e, h => by
    obtain ⟨hl, v, ρ', b, ah1, h1, h2, h3, h4, h5⟩ := step k acc ah (by omega) h
    cases b with
    | true =>
      obtain ⟨x, ah2, h6, h7⟩ := h4 rfl
      obtain ⟨acc', ah', h8, h9⟩ := acomp_runF P N c step fin d (k + 1) _ _ (by omega) h7
      refine ⟨acc', ah', h8, fun n hn => ?_⟩
      obtain ⟨m, rfl⟩ : ∃ m, n = m + 1 := ⟨n - 1, by omega⟩
      rw [acomp_yes h1 h2 (h3 m (by omega)) hl (h6 m (by omega)), h9 m (by omega)]
    | false =>
      obtain ⟨acc', ah', h8, h9⟩ := acomp_runF P N c step fin d (k + 1) _ _ (by omega) (h5 rfl)
      refine ⟨acc', ah', h8, fun n hn => ?_⟩
      obtain ⟨m, rfl⟩ : ∃ m, n = m + 1 := ⟨n - 1, by omega⟩
      rw [acomp_no h1 h2 (h3 m (by omega)) hl, h9 m (by omega)]

theorem afor_run {tg : TG} {src : Src} {b : SL} (P : Nat → AE → AH → Prop) (N c : Nat)
    (step : ∀ k ρ ah, k < N → P k ρ ah → ∃ v ρ' ρ'' ah', srcGet ah k src = some v ∧ bindT tg v ρ = some ρ' ∧ (∀ n, c ≤ n → axs F n b ρ' ah = some (.nx, ρ'', ah')) ∧ P (k + 1) ρ'' ah')
    (fin : ∀ ρ ah, P N ρ ah → srcGet ah N src = none) :
    ∀ (d k : Nat) ρ ah, k + d = N → P k ρ ah → ∃ ρ' ah', P N ρ' ah' ∧ ∀ n, c + d + 2 ≤ n → afor F n tg src k b .nil ρ ah = some (.nx, ρ', ah')
  | 0, k, ρ, ah, e, h => by
    have e : k = N := e
    subst e
    refine ⟨ρ, ah, h, fun n hn => ?_⟩
    obtain ⟨m, rfl⟩ : ∃ m, n = m + 2 := ⟨n - 2, by omega⟩
    rw [afor_end (fin _ _ h), axs_nil]
  | d + 1, k, ρ, ah, e, h => by
    obtain ⟨v, ρ', ρ'', ah1, h1, h2, h3, h4⟩ := step k ρ ah (by omega) h
    obtain ⟨ρ3, ah', h5, h6⟩ := afor_run P N c step fin d (k + 1) _ _ (by omega) h4
    refine ⟨ρ3, ah', h5, fun n hn => ?_⟩
    obtain ⟨m, rfl⟩ : ∃ m, n = m + 1 := ⟨n - 1, by omega⟩
    rw [afor_step h1 h2, h3 m (by omega)]
    exact h6 m (by omega)

theorem src_L {ah : AH} {v : AV} {xs : List AV} (h : items ah v = some xs) (k : Nat) : srcGet ah k (.L v) = xs[k]? := by simp only [srcGet, lsAt, h, Option.bind_some]
theorem src_R {ah : AH} {N k : Nat} : srcGet ah k (.R N) = if k < N then some (.int k) else none := rfl
theorem src_Z2 {ah : AH} {u v a b : AV} {xs ys : List AV} {k : Nat} (h1 : items ah u = some xs) (h2 : items ah v = some ys) (e1 : xs[k]? = some a) (e2 : ys[k]? = some b) : srcGet ah k (.Z2 u v) = some (.tup [a, b]) := by simp only [srcGet, lsAt, h1, h2, Option.bind_some, e1, e2]
theorem src_Z2n {ah : AH} {u v : AV} {xs : List AV} {k : Nat} (h1 : items ah u = some xs) (e1 : xs[k]? = none) : srcGet ah k (.Z2 u v) = none := by simp only [srcGet, lsAt, h1, Option.bind_some, e1]
theorem src_Z3 {ah : AH} {u v w a b c : AV} {xs ys zs : List AV} {k : Nat} (h1 : items ah u = some xs) (h2 : items ah v = some ys) (h3 : items ah w = some zs) (e1 : xs[k]? = some a) (e2 : ys[k]? = some b) (e3 : zs[k]? = some c) : srcGet ah k (.Z3 u v w) = some (.tup [a, b, c]) := by simp only [srcGet, lsAt, h1, h2, h3, Option.bind_some, e1, e2, e3]
theorem src_Z3n {ah : AH} {u v w : AV} {xs : List AV} {k : Nat} (h1 : items ah u = some xs) (e1 : xs[k]? = none) : srcGet ah k (.Z3 u v w) = none := by simp only [srcGet, lsAt, h1, Option.bind_some, e1]
theorem src_EZ {ah : AH} {u v a b : AV} {xs ys : List AV} {k : Nat} (h1 : items ah u = some xs) (h2 : items ah v = some ys) (e1 : xs[k]? = some a) (e2 : ys[k]? = some b) : srcGet ah k (.EZ u v) = some (.tup [.int k, .tup [a, b]]) := by simp only [srcGet, lsAt, h1, h2, Option.bind_some, e1, e2]
theorem src_EZn {ah : AH} {u v : AV} {xs : List AV} {k : Nat} (h1 : items ah u = some xs) (e1 : xs[k]? = none) : srcGet ah k (.EZ u v) = none := by simp only [srcGet, lsAt, h1, Option.bind_some, e1]
theorem ok_L {ah : AH} {v : AV} {xs : List AV} (h : items ah v = some xs) (hl : xs.length < 1000) : srcOk ah (.L v) = true := by simp [srcOk, h, hl]
theorem ok_Z2 {ah : AH} {u v : AV} {xs ys : List AV} (h : items ah u = some xs) (h2 : items ah v = some ys) (hl : xs.length < 1000) (hl2 : ys.length < 1000) : srcOk ah (.Z2 u v) = true := by simp [srcOk, h, hl, h2, hl2]
theorem ok_EZ {ah : AH} {u v : AV} {xs ys : List AV} (h : items ah u = some xs) (h2 : items ah v = some ys) (hl : xs.length < 1000) (hl2 : ys.length < 1000) : srcOk ah (.EZ u v) = true := by simp [srcOk, h, hl, h2, hl2]
theorem ok_Z3 {ah : AH} {u v w : AV} {xs ys zs : List AV} (h : items ah u = some xs) (h2 : items ah v = some ys) (h3 : items ah w = some zs) (hl : xs.length < 1000) (hl2 : ys.length < 1000) (hl3 : zs.length < 1000) : srcOk ah (.Z3 u v w) = true := by simp [srcOk, h, hl, h2, hl2, h3, hl3]
theorem intsOf_map (xs : List Int) : intsOf (xs.map .int) = some xs := by
  induction xs with
  | nil => rfl
  | cons x r ih => simp [intsOf, ih]
theorem i_sum {ah : AH} {v : AV} {xs : List Int} (h : items ah v = some (xs.map .int)) (hl : xs.length < 1000) (hs : ∀ i ∈ xs, small30 i = true) : abi .sum ah [v] = some (.int xs.sum) := by
  simp only [abi, h, intsOf_map]
  rw [if_pos ⟨hl, List.all_eq_true.mpr hs⟩]
theorem c_neL {ah : AH} {u v : AV} {xs ys : List Int} (h1 : items ah u = some (xs.map .int)) (h2 : items ah v = some (ys.map .int)) : acmp .NotEq ah u v = some (!decide (xs = ys)) := by
  cases u <;> cases v <;> first | (cases h1; done) | (cases h2; done) | simp only [acmp, h1, h2, intsOf_map]
theorem c_eqL {ah : AH} {u v : AV} {xs ys : List Int} (h1 : items ah u = some (xs.map .int)) (h2 : items ah v = some (ys.map .int)) : acmp .Eq ah u v = some (decide (xs = ys)) := by
  cases u <;> cases v <;> first | (cases h1; done) | (cases h2; done) | simp only [acmp, h1, h2, intsOf_map]
theorem small_of {i : Int} (h1 : -1000000000 < i) (h2 : i < 1000000000) : small i = true := by simp only [small, Bool.and_eq_true, decide_eq_true_eq]; omega
theorem small30_of {i : Int} (h1 : -1000000000 < i) (h2 : i < 1000000000) : small30 i = true := by simp only [small30, Bool.and_eq_true, decide_eq_true_eq]; omega
end

end Mine

end

section
open PySem
set_option autoImplicit false
set_option linter.unusedSimpArgs false
set_option linter.unusedVariables false
set_option maxRecDepth 100000
namespace Mine

theorem i_int {ah : AH} {a : Int} : abi .int ah [.int a] = some (.int a) := rfl

theorem state_ok {xs : List Int} (hx : xs.length ≤ 900) {ah : AH} : ∃ cells : List Int, cells.length ≤ 40 ∧ ∀ n, 60 ≤ n → acall fns n 1 [.lst (xs.map .int)] ah = some (.ref ah.length, ah ++ [[.lst (cells.map .int), .int 0]]) := by
  refine ⟨(xs.take 40).map (·.fmod 1000003), by rw [List.length_map, List.length_take]; omega, fun n hn => ?_⟩
  obtain ⟨m, rfl⟩ : ∃ m, n = m + 60 := ⟨n - 60, by omega⟩
  rw [acall_]
  simp only [fns, bd_law_state, st_law_state_0, List.drop_nil, List.append_nil, List.zip_cons_cons, List.zip_nil_right, List.foldl_cons, List.foldl_nil, ae_none, ae_bool, ae_int, ae_var, ae_bin, ae_neg, ae_cmp, ae_bo, ae_ife, ae_call, ae_bi, ae_edge, ae_attr, ae_meth, ae_sub, ae_slice, ae_lstT, ae_lstF, ae_tup, ae_compT, ae_compF, ae_sumg, aes_nil, aes_cons, ait_e, ait_range, ait_zip, ait_ezip, att_nt, att_bo, att_var, att_cmp, att_sub, att_bin, att_comp, ax_asg, ax_asub, ax_aug, ax_appm, ax_app, ax_ite, ax_whl, ax_for, ax_brk, ax_cont, ax_ret, ax_asrt, ax_doc, axs_nil, axs_cons, upd_, bindT_var, bindT_2, bindT_3, items_lst, items_ref, tr_none, tr_bool, tr_int, tr_lst, tr_ref, b_add, b_sub, b_and, c_is, c_isnot, c_lt, c_le, c_gt, c_ge, c_eq, c_ne, nn_none, nn_int, nn_lst, nn_ref, Option.bind_some, Option.map_some, if_true, if_false, Bool.false_eq_true, reduceIte, Nat.reduceEqDiff, Nat.reduceAdd, List.length_cons, List.length_nil, Nat.reduceLT, Nat.add_zero, Nat.zero_add]
  have hlen : (xs.map AV.int).length < 1000 := by rw [List.length_map]; omega
  have et : takeO (some 40) (xs.map AV.int) = (xs.take 40).map .int := by simp only [takeO, List.map_take]
  rw [et]
  have hl40 : (xs.take 40).length ≤ 40 := by rw [List.length_take]; omega
  have hok : srcOk ah (.L (.lst ((xs.take 40).map .int))) = true := ok_L items_lst (by simp only [List.length_map]; omega)
  simp only [hlen, if_true, hok, Option.bind_some]
  generalize xs.take 40 = ys at *
  obtain ⟨acc', ah', ⟨rfl, rfl⟩, h2⟩ := acomp_run (F := fns) (elt := .bin .Mod (.bi .int (.cons (.var 4) .nil)) (.int 1000003)) (tg := .var 4) (ρ := capt (upd (fun _ => none) 3 (.lst (xs.map .int))) []) (src := .L (.lst (ys.map .int)))
    (fun k acc a => acc = ((ys.take k).map (·.fmod 1000003)).map .int ∧ a = ah) ys.length 10
    (fun k acc a hk h => by
      obtain ⟨rfl, rfl⟩ := h
      refine ⟨by simp only [List.length_map, List.length_take]; omega, .int ys[k], _, .int (ys[k].fmod 1000003), a, ?_, rfl, fun n hn => ?_, ?_, rfl⟩
      · rw [src_L items_lst]; simp [hk]
      · obtain ⟨m, rfl⟩ : ∃ m, n = m + 10 := ⟨n - 10, by omega⟩
        simp only [ae_none, ae_bool, ae_int, ae_var, ae_bin, ae_neg, ae_cmp, ae_bo, ae_ife, ae_call, ae_bi, ae_edge, ae_attr, ae_meth, ae_sub, ae_slice, ae_lstT, ae_lstF, ae_tup, ae_compT, ae_compF, ae_sumg, aes_nil, aes_cons, ait_e, ait_range, ait_zip, ait_ezip, att_nt, att_bo, att_var, att_cmp, att_sub, att_bin, att_comp, ax_asg, ax_asub, ax_aug, ax_appm, ax_app, ax_ite, ax_whl, ax_for, ax_brk, ax_cont, ax_ret, ax_asrt, ax_doc, axs_nil, axs_cons, upd_, bindT_var, bindT_2, bindT_3, items_lst, items_ref, tr_none, tr_bool, tr_int, tr_lst, tr_ref, b_add, b_sub, b_and, c_is, c_isnot, c_lt, c_le, c_gt, c_ge, c_eq, c_ne, nn_none, nn_int, nn_lst, nn_ref, Option.bind_some, Option.map_some, if_true, if_false, Bool.false_eq_true, reduceIte, Nat.reduceEqDiff, Nat.reduceAdd, List.length_cons, List.length_nil, Nat.reduceLT, Nat.add_zero, Nat.zero_add, i_int, b_mod (a := ys[k]) (b := 1000003) (by decide)]
      · simp only [List.take_succ, List.getElem?_eq_getElem hk, Option.toList, List.map_append, List.map_cons, List.map_nil])
    (fun acc a h => by rw [src_L items_lst]; simp)
    ys.length 0 [] ah (by omega) ⟨rfl, rfl⟩
  rw [h2 _ (by omega)]
  simp only [Option.bind_some, Option.map_some, List.length_cons, List.length_nil, Nat.reduceAdd, Nat.reduceLT, if_true, List.take_length]
end Mine

end

section
open PySem
set_option autoImplicit false
set_option linter.unusedSimpArgs false
set_option linter.unusedVariables false
set_option maxRecDepth 100000
namespace Mine

theorem get_last {ah : AH} {x : List AV} : (ah ++ [x])[ah.length]? = some x := by simp
theorem set_last {ah : AH} {x y : List AV} : (ah ++ [x]).set ah.length y = ah ++ [y] := by simp
theorem len_last {ah : AH} {x : List AV} : (ah ++ [x]).length = ah.length + 1 := by simp

def mx (a b : Int) : Int := if b > a then b else a
theorem i_max {ah : AH} {a b : Int} : abi .max ah [.int a, .int b] = some (.int (mx a b)) := rfl
theorem i_maxL {ah : AH} {a b : Int} : abi .max ah [.lst [.int a, .int b]] = some (.int (mx a b)) := rfl

def dist : List (Int × Int) → Int → Int → List Int
  | [], _, _ => []
  | z :: r, p, l => mx z.2 (-((-z.1 * l).fdiv p)) :: dist r (p - z.1) (l - mx z.2 (-((-z.1 * l).fdiv p)))
theorem dist_len : ∀ (zs : List (Int × Int)) (p l : Int), (dist zs p l).length = zs.length
  | [], _, _ => rfl
  | z :: r, p, l => by simp [dist, dist_len r]

def psum (zs : List (Int × Int)) : Int := (zs.map (·.1)).sum
theorem psum_bounds {zs : List (Int × Int)} (h : ∀ z ∈ zs, 1 ≤ z.1 ∧ z.1 ≤ 4) : (zs.length : Int) ≤ psum zs ∧ psum zs ≤ 4 * zs.length := by
  induction zs with
  | nil => simp [psum]
  | cons z r ih =>
    have := ih fun y hy => h y (.tail _ hy)
    have hz := h z (.head _)
    simp only [psum, List.map_cons, List.sum_cons, List.length_cons] at *
    omega

theorem dist_loop {ah : AH} {zs : List (Int × Int)} {total : Int} {ρ : AE} (hz : ∀ z ∈ zs, 1 ≤ z.1 ∧ z.1 ≤ 4) (hl : zs.length ≤ 5) (h35 : ρ 35 = some (.int (psum zs))) (h36 : ρ 36 = some (.int total)) (h38 : ρ 38 = some (.app ah.length)) (h43 : ρ 43 = some (.ref ah.length)) (h21 : ρ 21 = some (.lst (zs.map fun z => .int z.1))) (h44 : ρ 44 = some (.lst (zs.map fun z => .int z.2))) :
    ∃ ρ', ρ' 43 = some (.ref ah.length) ∧ ∀ n, 60 ≤ n → ax fns n st_ratio_distribute_8 ρ (ah ++ [[]]) = some (.nx, ρ', ah ++ [(dist zs (psum zs) total).map .int]) := by
  obtain ⟨ρ', ah', ⟨acc, p, l, h1, h2, h3, h4, h5, h6, rfl⟩, h7⟩ := afor_run (F := fns) (tg := .t2 (.var 9) (.var 45)) (src := .Z2 (.lst (zs.map fun z => .int z.1)) (.lst (zs.map fun z => .int z.2)))
    (b := .cons (.ite (.cmp .Gt (.var 35) (.int 0)) (.cons (.asg (.var 40) (.bi .max (.cons (.var 45) (.cons (.neg (.bin .FloorDiv (.bin .Mult (.neg (.var 9)) (.var 36)) (.var 35))) .nil)))) .nil) (.cons (.asg (.var 40) (.var 36)) .nil)) (.cons (.app 38 (.var 40)) (.cons (.aug 35 .Sub (.var 9)) (.cons (.aug 36 .Sub (.var 40)) .nil))))
    (fun k ρ a => ∃ acc p l, ρ 35 = some (.int p) ∧ ρ 36 = some (.int l) ∧ ρ 38 = some (.app ah.length) ∧ ρ 43 = some (.ref ah.length) ∧ p = psum (zs.drop k) ∧ acc ++ dist (zs.drop k) p l = dist zs (psum zs) total ∧ a = ah ++ [acc.map .int]) zs.length 30
    (fun k ρ a hk h => by
      obtain ⟨acc, p, l, h1, h2, h3, h4, rfl, h6, rfl⟩ := h
      have hd : zs.drop k = zs[k] :: zs.drop (k + 1) := List.drop_eq_getElem_cons hk
      have hzk := hz zs[k] (List.getElem_mem hk)
      have hb := psum_bounds (zs := zs.drop k) fun z hz' => hz z (List.mem_of_mem_drop hz')
      have hlen : (zs.drop k).length = zs.length - k := List.length_drop
      have hp0 : psum (zs.drop k) ≠ 0 := by omega
      have hps : small30 (psum (zs.drop k)) = true := small30_of (by omega) (by omega)
      have hpg : psum (zs.drop k) > 0 := by omega
      have hsm : small (-zs[k].1) = true := small_of (by omega) (by omega)
      have hacc : acc.length + (zs.length - k) = zs.length := by
        have := congrArg List.length h6
        rw [List.length_append, dist_len, dist_len, hlen] at this; exact this
      generalize hp : psum (zs.drop k) = p at *
      rw [hd, dist] at h6
      refine ⟨.tup [.int zs[k].1, .int zs[k].2], _, upd (upd (upd (upd (upd ρ 9 (.int zs[k].1)) 45 (.int zs[k].2)) 40 (.int (mx zs[k].2 (-((-zs[k].1 * l).fdiv p))))) 35 (.int (p - zs[k].1))) 36 (.int (l - mx zs[k].2 (-((-zs[k].1 * l).fdiv p)))), ah ++ [(acc ++ [mx zs[k].2 (-((-zs[k].1 * l).fdiv p))]).map .int], ?_, rfl, fun n hn => ?_,
        acc ++ [mx zs[k].2 (-((-zs[k].1 * l).fdiv p))], p - zs[k].1, l - mx zs[k].2 (-((-zs[k].1 * l).fdiv p)), rfl, rfl, ?_, ?_, ?_, ?_, rfl⟩
      · exact src_Z2 items_lst items_lst (by simp [hk]) (by simp [hk])
      · obtain ⟨m, rfl⟩ : ∃ m, n = m + 30 := ⟨n - 30, by omega⟩
        have hal : (acc.map AV.int).length < 1000 := by rw [List.length_map]; omega
        simp only [ae_none, ae_bool, ae_int, ae_var, ae_bin, ae_neg, ae_cmp, ae_bo, ae_ife, ae_call, ae_bi, ae_edge, ae_attr, ae_meth, ae_sub, ae_slice, ae_lstT, ae_lstF, ae_tup, ae_compT, ae_compF, ae_sumg, aes_nil, aes_cons, ait_e, ait_range, ait_zip, ait_ezip, att_nt, att_bo, att_var, att_cmp, att_sub, att_bin, att_comp, ax_asg, ax_asub, ax_aug, ax_appm, ax_app, ax_ite, ax_whl, ax_for, ax_brk, ax_cont, ax_ret, ax_asrt, ax_doc, axs_nil, axs_cons, upd_, bindT_var, bindT_2, bindT_3, items_lst, items_ref, tr_none, tr_bool, tr_int, tr_lst, tr_ref, b_add, b_sub, b_and, c_is, c_isnot, c_lt, c_le, c_gt, c_ge, c_eq, c_ne, nn_none, nn_int, nn_lst, nn_ref, Option.bind_some, Option.map_some, if_true, if_false, Bool.false_eq_true, reduceIte, Nat.reduceEqDiff, Nat.reduceAdd, List.length_cons, List.length_nil, Nat.reduceLT, Nat.add_zero, Nat.zero_add, h1, h2, h3, h4, b_mul hsm, b_fdiv hp0 hps, i_max, hpg, decide_true, get_last, set_last, hal, List.map_append, List.map_cons, List.map_nil]
      · simp only [upd_, Nat.reduceEqDiff, if_false]; exact h3
      · simp only [upd_, Nat.reduceEqDiff, if_false]; exact h4
      · rw [← hp, hd]; simp only [psum, List.map_cons, List.sum_cons]; omega
      · rw [List.append_assoc]; exact h6)
    (fun ρ a h => src_Z2n items_lst (by simp))
    zs.length 0 ρ (ah ++ [[]]) (by omega) ⟨[], psum zs, total, h35, h36, h38, h43, rfl, rfl, rfl⟩
  refine ⟨ρ', h4, fun n hn => ?_⟩
  obtain ⟨m, rfl⟩ : ∃ m, n = m + 10 := ⟨n - 10, by omega⟩
  have hok : srcOk (ah ++ [[]]) (.Z2 (.lst (zs.map fun z => .int z.1)) (.lst (zs.map fun z => .int z.2))) = true := ok_Z2 items_lst items_lst (by rw [List.length_map]; omega) (by rw [List.length_map]; omega)
  simp only [st_ratio_distribute_8, ae_none, ae_bool, ae_int, ae_var, ae_bin, ae_neg, ae_cmp, ae_bo, ae_ife, ae_call, ae_bi, ae_edge, ae_attr, ae_meth, ae_sub, ae_slice, ae_lstT, ae_lstF, ae_tup, ae_compT, ae_compF, ae_sumg, aes_nil, aes_cons, ait_e, ait_range, ait_zip, ait_ezip, att_nt, att_bo, att_var, att_cmp, att_sub, att_bin, att_comp, ax_asg, ax_asub, ax_aug, ax_appm, ax_app, ax_ite, ax_whl, ax_for, ax_brk, ax_cont, ax_ret, ax_asrt, ax_doc, axs_nil, axs_cons, upd_, bindT_var, bindT_2, bindT_3, items_lst, items_ref, tr_none, tr_bool, tr_int, tr_lst, tr_ref, b_add, b_sub, b_and, c_is, c_isnot, c_lt, c_le, c_gt, c_ge, c_eq, c_ne, nn_none, nn_int, nn_lst, nn_ref, Option.bind_some, Option.map_some, if_true, if_false, Bool.false_eq_true, reduceIte, Nat.reduceEqDiff, Nat.reduceAdd, List.length_cons, List.length_nil, Nat.reduceLT, Nat.add_zero, Nat.zero_add, h21, h44, hok]
  rw [h7 _ (by omega)]
  rw [List.drop_length] at h6
  simp only [dist, List.append_nil] at h6
  rw [h6]

theorem dist_ok1 {ah : AH} {zs : List (Int × Int)} {total : Int} (hz : ∀ z ∈ zs, 1 ≤ z.1 ∧ z.1 ≤ 4) (hm : ∀ z ∈ zs, 1 ≤ z.2) (hl : zs.length ≤ 5) (h0 : 1 ≤ zs.length) :
    ∀ n, 100 ≤ n → acall fns n 7 [.int total, .lst (zs.map fun z => .int z.1), .lst (zs.map fun z => .int z.2)] ah = some (.ref ah.length, ah ++ [(dist zs (psum zs) total).map .int]) := by
  intro n hn
  obtain ⟨m, rfl⟩ : ∃ m, n = m + 100 := ⟨n - 100, by omega⟩
  have hb := psum_bounds hz
  have hl2 : (zs.map fun z => AV.int z.2).length < 1000 := by rw [List.length_map]; omega
  have hne : (!(zs.map fun z => AV.int z.2).isEmpty) = true := by cases zs <;> simp_all
  have hok : srcOk ah (.Z2 (.lst (zs.map fun z => .int z.1)) (.lst (zs.map fun z => .int z.2))) = true := ok_Z2 items_lst items_lst (by rw [List.length_map]; omega) (by rw [List.length_map]; omega)
  obtain ⟨acc', ah', ⟨rfl, rfl⟩, h2⟩ := acomp_run (F := fns) (elt := .ife (.var 42) (.var 9) (.int 0)) (tg := .t2 (.var 9) (.var 42)) (ρ := capt (upd (upd (upd (fun _ => none) 5 (.int total)) 21 (.lst (zs.map fun z => .int z.1))) 41 (.lst (zs.map fun z => .int z.2))) []) (src := .Z2 (.lst (zs.map fun z => .int z.1)) (.lst (zs.map fun z => .int z.2)))
    (fun k acc a => acc = (zs.take k).map (fun z => .int z.1) ∧ a = ah) zs.length 10
    (fun k acc a hk h => by
      obtain ⟨rfl, rfl⟩ := h
      have := hm zs[k] (List.getElem_mem hk)
      have hne : (zs[k].2 != 0) = true := by simp; omega
      refine ⟨by simp only [List.length_map, List.length_take]; omega, .tup [.int zs[k].1, .int zs[k].2], _, .int zs[k].1, a, src_Z2 items_lst items_lst (by simp [hk]) (by simp [hk]), rfl, fun n hn => ?_, ?_, rfl⟩
      · obtain ⟨m, rfl⟩ : ∃ m, n = m + 10 := ⟨n - 10, by omega⟩
        simp only [ae_none, ae_bool, ae_int, ae_var, ae_bin, ae_neg, ae_cmp, ae_bo, ae_ife, ae_call, ae_bi, ae_edge, ae_attr, ae_meth, ae_sub, ae_slice, ae_lstT, ae_lstF, ae_tup, ae_compT, ae_compF, ae_sumg, aes_nil, aes_cons, ait_e, ait_range, ait_zip, ait_ezip, att_nt, att_bo, att_var, att_cmp, att_sub, att_bin, att_comp, ax_asg, ax_asub, ax_aug, ax_appm, ax_app, ax_ite, ax_whl, ax_for, ax_brk, ax_cont, ax_ret, ax_asrt, ax_doc, axs_nil, axs_cons, upd_, bindT_var, bindT_2, bindT_3, items_lst, items_ref, tr_none, tr_bool, tr_int, tr_lst, tr_ref, b_add, b_sub, b_and, c_is, c_isnot, c_lt, c_le, c_gt, c_ge, c_eq, c_ne, nn_none, nn_int, nn_lst, nn_ref, Option.bind_some, Option.map_some, if_true, if_false, Bool.false_eq_true, reduceIte, Nat.reduceEqDiff, Nat.reduceAdd, List.length_cons, List.length_nil, Nat.reduceLT, Nat.add_zero, Nat.zero_add, hne]
      · simp only [List.take_succ, List.getElem?_eq_getElem hk, Option.toList, List.map_append, List.map_cons, List.map_nil])
    (fun acc a h => src_Z2n items_lst (by simp))
    zs.length 0 [] ah (by omega) ⟨rfl, rfl⟩
  rw [List.take_length] at h2
  have hsum : abi .sum ah' [.lst (zs.map fun z => .int z.1)] = some (.int (psum zs)) := by
    rw [i_sum (xs := zs.map (·.1)) (by rw [items_lst, List.map_map]; rfl) (by rw [List.length_map]; omega)]; rfl
    intro i hi
    obtain ⟨z, h1, rfl⟩ := List.mem_map.mp hi
    have := hz z h1
    exact small30_of (by omega) (by omega)
  have hpg : psum zs > 0 := by omega
  obtain ⟨ρ', h3, h4⟩ := dist_loop (ah := ah') (total := total) (ρ := upd (upd (upd (upd (upd (upd (upd (upd (upd (fun _ => none) 5 (.int total)) 21 (.lst (zs.map fun z => .int z.1))) 41 (.lst (zs.map fun z => .int z.2))) 21 (.lst (zs.map fun z => .int z.1))) 35 (.int (psum zs))) 36 (.int total)) 43 (.ref ah'.length)) 38 (.app ah'.length)) 44 (.lst (zs.map fun z => .int z.2))) hz hl rfl rfl rfl rfl rfl rfl
  rw [acall_]
  simp only [fns, bd_ratio_distribute, st_ratio_distribute_0, st_ratio_distribute_1, st_ratio_distribute_2, st_ratio_distribute_3, st_ratio_distribute_4, st_ratio_distribute_5, st_ratio_distribute_6, st_ratio_distribute_7, st_ratio_distribute_9, List.drop_nil, List.append_nil, List.zip_cons_cons, List.zip_nil_right, List.foldl_cons, List.foldl_nil, Nat.sub_self, Nat.reduceSub, List.drop_succ_cons, ae_none, ae_bool, ae_int, ae_var, ae_bin, ae_neg, ae_cmp, ae_bo, ae_ife, ae_call, ae_bi, ae_edge, ae_attr, ae_meth, ae_sub, ae_slice, ae_lstT, ae_lstF, ae_tup, ae_compT, ae_compF, ae_sumg, aes_nil, aes_cons, ait_e, ait_range, ait_zip, ait_ezip, att_nt, att_bo, att_var, att_cmp, att_sub, att_bin, att_comp, ax_asg, ax_asub, ax_aug, ax_appm, ax_app, ax_ite, ax_whl, ax_for, ax_brk, ax_cont, ax_ret, ax_asrt, ax_doc, axs_nil, axs_cons, upd_, bindT_var, bindT_2, bindT_3, items_lst, items_ref, tr_none, tr_bool, tr_int, tr_lst, tr_ref, b_add, b_sub, b_and, c_is, c_isnot, c_lt, c_le, c_gt, c_ge, c_eq, c_ne, nn_none, nn_int, nn_lst, nn_ref, Option.bind_some, Option.map_some, if_true, if_false, Bool.false_eq_true, reduceIte, Nat.reduceEqDiff, Nat.reduceAdd, List.length_cons, List.length_nil, Nat.reduceLT, Nat.add_zero, Nat.zero_add, hl2, hne, hok]
  rw [h2 _ (by omega)]
  simp only [ae_none, ae_bool, ae_int, ae_var, ae_bin, ae_neg, ae_cmp, ae_bo, ae_ife, ae_call, ae_bi, ae_edge, ae_attr, ae_meth, ae_sub, ae_slice, ae_lstT, ae_lstF, ae_tup, ae_compT, ae_compF, ae_sumg, aes_nil, aes_cons, ait_e, ait_range, ait_zip, ait_ezip, att_nt, att_bo, att_var, att_cmp, att_sub, att_bin, att_comp, ax_asg, ax_asub, ax_aug, ax_appm, ax_app, ax_ite, ax_whl, ax_for, ax_brk, ax_cont, ax_ret, ax_asrt, ax_doc, axs_nil, axs_cons, upd_, bindT_var, bindT_2, bindT_3, items_lst, items_ref, tr_none, tr_bool, tr_int, tr_lst, tr_ref, b_add, b_sub, b_and, c_is, c_isnot, c_lt, c_le, c_gt, c_ge, c_eq, c_ne, nn_none, nn_int, nn_lst, nn_ref, Option.bind_some, Option.map_some, if_true, if_false, Bool.false_eq_true, reduceIte, Nat.reduceEqDiff, Nat.reduceAdd, List.length_cons, List.length_nil, Nat.reduceLT, Nat.add_zero, Nat.zero_add, hsum, hpg, decide_true]
  rw [h4 _ (by omega)]
  simp only [ae_none, ae_bool, ae_int, ae_var, ae_bin, ae_neg, ae_cmp, ae_bo, ae_ife, ae_call, ae_bi, ae_edge, ae_attr, ae_meth, ae_sub, ae_slice, ae_lstT, ae_lstF, ae_tup, ae_compT, ae_compF, ae_sumg, aes_nil, aes_cons, ait_e, ait_range, ait_zip, ait_ezip, att_nt, att_bo, att_var, att_cmp, att_sub, att_bin, att_comp, ax_asg, ax_asub, ax_aug, ax_appm, ax_app, ax_ite, ax_whl, ax_for, ax_brk, ax_cont, ax_ret, ax_asrt, ax_doc, axs_nil, axs_cons, upd_, bindT_var, bindT_2, bindT_3, items_lst, items_ref, tr_none, tr_bool, tr_int, tr_lst, tr_ref, b_add, b_sub, b_and, c_is, c_isnot, c_lt, c_le, c_gt, c_ge, c_eq, c_ne, nn_none, nn_int, nn_lst, nn_ref, Option.bind_some, Option.map_some, if_true, if_false, Bool.false_eq_true, reduceIte, Nat.reduceEqDiff, Nat.reduceAdd, List.length_cons, List.length_nil, Nat.reduceLT, Nat.add_zero, Nat.zero_add, h3]

theorem b_rep {ah : AH} {k : Int} (h : 0 ≤ k ∧ k < 64) : abin .Mult ah (.lst [.int 0]) (.int k) = some (.lst (List.replicate k.toNat (.int 0)), ah) := by
  simp only [abin, List.length_cons, List.length_nil]
  rw [if_pos ⟨h.1, h.2, trivial⟩]
  rw [List.flatten_replicate_singleton]

theorem dist_ok0 {ah : AH} {zs : List (Int × Int)} {total : Int} (hz : ∀ z ∈ zs, 1 ≤ z.1 ∧ z.1 ≤ 4) (hm : ∀ z ∈ zs, z.2 = 0) (hl : zs.length ≤ 5) (h0 : 1 ≤ zs.length) :
    ∀ n, 100 ≤ n → acall fns n 7 [.int total, .lst (zs.map fun z => .int z.1)] ah = some (.ref ah.length, ah ++ [(dist zs (psum zs) total).map .int]) := by
  intro n hn
  obtain ⟨m, rfl⟩ : ∃ m, n = m + 100 := ⟨n - 100, by omega⟩
  have hb := psum_bounds hz
  have hsum : abi .sum ah [.lst (zs.map fun z => .int z.1)] = some (.int (psum zs)) := by
    rw [i_sum (xs := zs.map (·.1)) (by rw [items_lst, List.map_map]; rfl) (by rw [List.length_map]; omega)]; rfl
    intro i hi
    obtain ⟨z, h1, rfl⟩ := List.mem_map.mp hi
    have := hz z h1
    exact small30_of (by omega) (by omega)
  have hlen : abi .len (ah ++ [[]]) [.lst (zs.map fun z => .int z.1)] = some (.int zs.length) := by
    rw [i_len items_lst (by rw [List.length_map]; omega), List.length_map]
  have hrep : List.replicate ((zs.length : Int)).toNat (AV.int 0) = zs.map fun z => .int z.2 := by
    rw [Int.toNat_natCast]
    clear hl h0 hb hsum hlen hn hz
    induction zs with
    | nil => rfl
    | cons z r ih => rw [List.length_cons, List.replicate_succ, List.map_cons, ih fun y hy => hm y (.tail _ hy), hm z (.head _)]
  have hpg : psum zs > 0 := by omega
  obtain ⟨ρ', h3, h4⟩ := dist_loop (ah := ah) (total := total) (ρ := upd (upd (upd (upd (upd (upd (upd (upd (fun _ => none) 5 (.int total)) 21 (.lst (zs.map fun z => .int z.1))) 41 .none) 35 (.int (psum zs))) 36 (.int total)) 43 (.ref ah.length)) 38 (.app ah.length)) 44 (.lst (zs.map fun z => .int z.2))) hz hl rfl rfl rfl rfl rfl rfl
  rw [acall_]
  simp only [fns, bd_ratio_distribute, st_ratio_distribute_0, st_ratio_distribute_1, st_ratio_distribute_2, st_ratio_distribute_3, st_ratio_distribute_4, st_ratio_distribute_5, st_ratio_distribute_6, st_ratio_distribute_7, st_ratio_distribute_9, List.drop_nil, List.append_nil, List.zip_cons_cons, List.zip_nil_right, List.foldl_cons, List.foldl_nil, Nat.sub_self, Nat.reduceSub, List.drop_zero, List.cons_append, List.nil_append, ae_none, ae_bool, ae_int, ae_var, ae_bin, ae_neg, ae_cmp, ae_bo, ae_ife, ae_call, ae_bi, ae_edge, ae_attr, ae_meth, ae_sub, ae_slice, ae_lstT, ae_lstF, ae_tup, ae_compT, ae_compF, ae_sumg, aes_nil, aes_cons, ait_e, ait_range, ait_zip, ait_ezip, att_nt, att_bo, att_var, att_cmp, att_sub, att_bin, att_comp, ax_asg, ax_asub, ax_aug, ax_appm, ax_app, ax_ite, ax_whl, ax_for, ax_brk, ax_cont, ax_ret, ax_asrt, ax_doc, axs_nil, axs_cons, upd_, bindT_var, bindT_2, bindT_3, items_lst, items_ref, tr_none, tr_bool, tr_int, tr_lst, tr_ref, b_add, b_sub, b_and, c_is, c_isnot, c_lt, c_le, c_gt, c_ge, c_eq, c_ne, nn_none, nn_int, nn_lst, nn_ref, Option.bind_some, Option.map_some, if_true, if_false, Bool.false_eq_true, reduceIte, Nat.reduceEqDiff, Nat.reduceAdd, List.length_cons, List.length_nil, Nat.reduceLT, Nat.add_zero, Nat.zero_add, hsum, hpg, decide_true, hlen, b_rep (ah := ah ++ [[]]) (k := zs.length) (by omega), hrep]
  rw [h4 _ (by omega)]
  simp only [ae_none, ae_bool, ae_int, ae_var, ae_bin, ae_neg, ae_cmp, ae_bo, ae_ife, ae_call, ae_bi, ae_edge, ae_attr, ae_meth, ae_sub, ae_slice, ae_lstT, ae_lstF, ae_tup, ae_compT, ae_compF, ae_sumg, aes_nil, aes_cons, ait_e, ait_range, ait_zip, ait_ezip, att_nt, att_bo, att_var, att_cmp, att_sub, att_bin, att_comp, ax_asg, ax_asub, ax_aug, ax_appm, ax_app, ax_ite, ax_whl, ax_for, ax_brk, ax_cont, ax_ret, ax_asrt, ax_doc, axs_nil, axs_cons, upd_, bindT_var, bindT_2, bindT_3, items_lst, items_ref, tr_none, tr_bool, tr_int, tr_lst, tr_ref, b_add, b_sub, b_and, c_is, c_isnot, c_lt, c_le, c_gt, c_ge, c_eq, c_ne, nn_none, nn_int, nn_lst, nn_ref, Option.bind_some, Option.map_some, if_true, if_false, Bool.false_eq_true, reduceIte, Nat.reduceEqDiff, Nat.reduceAdd, List.length_cons, List.length_nil, Nat.reduceLT, Nat.add_zero, Nat.zero_add, h3]
end Mine

end

section
open PySem
set_option autoImplicit false
set_option linter.unusedSimpArgs false
set_option linter.unusedVariables false
set_option maxRecDepth 100000
namespace Mine

def near (u d : Int) : Int := if 2 * u.fmod d > d ∨ (2 * u.fmod d = d ∧ (u.fdiv d).fmod 2 ≠ 0) then u.fdiv d + 1 else u.fdiv d
def mn (a b : Int) : Int := if b < a then b else a
theorem i_min {ah : AH} {a b : Int} : abi .min ah [.int a, .int b] = some (.int (mn a b)) := rfl
theorem i_minL {ah : AH} {a b : Int} : abi .min ah [.lst [.int a, .int b]] = some (.int (mn a b)) := rfl
theorem i_divmod {ah : AH} {a b : Int} (h : b ≠ 0) (h2 : small30 b = true) : abi .divmod ah [.int a, .int b] = some (.tup [.int (a.fdiv b), .int (a.fmod b)]) := by simp only [abi, if_pos (And.intro h h2)]

def nearOk (o p l : Nat) : Bool := !(decide (o ≤ p) && decide (0 < p)) || (decide (0 ≤ near ((o : Int) * (l : Int)) (p : Int)) && decide (near ((o : Int) * (l : Int)) (p : Int) ≤ (l : Int)) && decide (0 ≤ ((o : Int) * (l : Int)).fdiv (p : Int)) && decide (((o : Int) * (l : Int)).fdiv (p : Int) < 20))
theorem nearAll : ((List.range 3).all fun o => (List.range 11).all fun p => (List.range 20).all fun l => nearOk o p l) = true := by decide +kernel
theorem near_bdN (o : Nat) (ho : o < 3) (p : Nat) (hp : p < 11) (l : Nat) (hl : l < 20) (h1 : o ≤ p) (h2 : 0 < p) : 0 ≤ near ((o : Int) * (l : Int)) (p : Int) ∧ near ((o : Int) * (l : Int)) (p : Int) ≤ (l : Int) ∧ 0 ≤ ((o : Int) * (l : Int)).fdiv (p : Int) ∧ ((o : Int) * (l : Int)).fdiv (p : Int) < 20 := by
  have a := List.all_eq_true.mp nearAll o (List.mem_range.mpr ho)
  have b := List.all_eq_true.mp a p (List.mem_range.mpr hp)
  have c := List.all_eq_true.mp b l (List.mem_range.mpr hl)
  simp only [nearOk, h1, h2, decide_true, Bool.and_self, Bool.not_true, Bool.false_or, Bool.and_eq_true, decide_eq_true_eq] at c
  exact ⟨c.1.1.1, c.1.1.2, c.1.2, c.2⟩
theorem near_bd {o p l : Int} (h1 : 0 ≤ o) (h2 : o < 3) (h3 : o ≤ p) (h4 : 0 < p) (h5 : p < 11) (h6 : 0 ≤ l) (h7 : l < 20) : 0 ≤ near (o * l) p ∧ near (o * l) p ≤ l ∧ 0 ≤ (o * l).fdiv p ∧ (o * l).fdiv p < 20 := by
  have := near_bdN o.toNat (by omega) p.toNat (by omega) l.toNat (by omega) (by omega) (by omega)
  rwa [Int.toNat_of_nonneg h1, Int.toNat_of_nonneg h6, Int.toNat_of_nonneg (by omega : 0 ≤ p)] at this
theorem bitN : ∀ w : Nat, w < 20 → (Builtin.bitAnd (w : Int) 1 == 1) = decide ((w : Int).fmod 2 ≠ 0) := by decide +kernel
theorem bit_eq {w : Int} (h : 0 ≤ w) (h2 : w < 20) : (Builtin.bitAnd w 1 == 1) = decide (w.fmod 2 ≠ 0) := by
  have := bitN w.toNat (by omega)
  rwa [Int.toNat_of_nonneg h] at this

theorem near_ok {ah : AH} {u d : Int} (hd : 0 < d) (hd2 : d < 1000) (h1 : 0 ≤ u.fdiv d) (h2 : u.fdiv d < 20) : ∀ n, 30 ≤ n → acall fns n 3 [.int u, .int d] ah = some (.int (near u d), ah) := by
  intro n hn
  obtain ⟨m, rfl⟩ : ∃ m, n = m + 30 := ⟨n - 30, by omega⟩
  have e : u - u.fdiv d * d = u.fmod d := by rw [Int.fmod_def, Int.mul_comm]
  have hd0 : d ≠ 0 := by omega
  have hds : small30 d = true := small30_of (by omega) (by omega)
  have hs : small (u.fdiv d) = true := small_of (by omega) (by omega)
  have hs2 : small 2 = true := by decide
  have hb := bit_eq h1 h2
  rw [acall_]
  simp only [fns, bd_law_nearest, st_law_nearest_0, st_law_nearest_1, List.drop_nil, List.append_nil, List.zip_cons_cons, List.zip_nil_right, List.foldl_cons, List.foldl_nil, Nat.sub_self, ae_none, ae_bool, ae_int, ae_var, ae_bin, ae_neg, ae_cmp, ae_bo, ae_ife, ae_call, ae_bi, ae_edge, ae_attr, ae_meth, ae_sub, ae_slice, ae_lstT, ae_lstF, ae_tup, ae_compT, ae_compF, ae_sumg, aes_nil, aes_cons, ait_e, ait_range, ait_zip, ait_ezip, att_nt, att_bo, att_var, att_cmp, att_sub, att_bin, att_comp, ax_asg, ax_asub, ax_aug, ax_appm, ax_app, ax_ite, ax_whl, ax_for, ax_brk, ax_cont, ax_ret, ax_asrt, ax_doc, axs_nil, axs_cons, upd_, bindT_var, bindT_2, bindT_3, items_lst, items_ref, tr_none, tr_bool, tr_int, tr_lst, tr_ref, b_add, b_sub, b_and, c_is, c_isnot, c_lt, c_le, c_gt, c_ge, c_eq, c_ne, nn_none, nn_int, nn_lst, nn_ref, Option.bind_some, Option.map_some, if_true, if_false, Bool.false_eq_true, reduceIte, Nat.reduceEqDiff, Nat.reduceAdd, List.length_cons, List.length_nil, Nat.reduceLT, Nat.add_zero, Nat.zero_add, b_fdiv hd0 hds, b_mul hs, b_mul hs2, b_and, e]
  by_cases c1 : 2 * u.fmod d > d
  · have en : near u d = u.fdiv d + 1 := by unfold near; rw [if_pos (Or.inl c1)]
    simp only [ae_none, ae_bool, ae_int, ae_var, ae_bin, ae_neg, ae_cmp, ae_bo, ae_ife, ae_call, ae_bi, ae_edge, ae_attr, ae_meth, ae_sub, ae_slice, ae_lstT, ae_lstF, ae_tup, ae_compT, ae_compF, ae_sumg, aes_nil, aes_cons, ait_e, ait_range, ait_zip, ait_ezip, att_nt, att_bo, att_var, att_cmp, att_sub, att_bin, att_comp, ax_asg, ax_asub, ax_aug, ax_appm, ax_app, ax_ite, ax_whl, ax_for, ax_brk, ax_cont, ax_ret, ax_asrt, ax_doc, axs_nil, axs_cons, upd_, bindT_var, bindT_2, bindT_3, items_lst, items_ref, tr_none, tr_bool, tr_int, tr_lst, tr_ref, b_add, b_sub, b_and, c_is, c_isnot, c_lt, c_le, c_gt, c_ge, c_eq, c_ne, nn_none, nn_int, nn_lst, nn_ref, Option.bind_some, Option.map_some, if_true, if_false, Bool.false_eq_true, reduceIte, Nat.reduceEqDiff, Nat.reduceAdd, List.length_cons, List.length_nil, Nat.reduceLT, Nat.add_zero, Nat.zero_add, c1, decide_true, en]
  · by_cases c2 : 2 * u.fmod d = d
    · have e2 : (2 * u.fmod d == d) = true := beq_iff_eq.mpr c2
      by_cases c3 : (u.fdiv d).fmod 2 ≠ 0
      · have en : near u d = u.fdiv d + 1 := by unfold near; rw [if_pos (Or.inr ⟨c2, c3⟩)]
        rw [decide_eq_true c3] at hb
        simp only [ae_none, ae_bool, ae_int, ae_var, ae_bin, ae_neg, ae_cmp, ae_bo, ae_ife, ae_call, ae_bi, ae_edge, ae_attr, ae_meth, ae_sub, ae_slice, ae_lstT, ae_lstF, ae_tup, ae_compT, ae_compF, ae_sumg, aes_nil, aes_cons, ait_e, ait_range, ait_zip, ait_ezip, att_nt, att_bo, att_var, att_cmp, att_sub, att_bin, att_comp, ax_asg, ax_asub, ax_aug, ax_appm, ax_app, ax_ite, ax_whl, ax_for, ax_brk, ax_cont, ax_ret, ax_asrt, ax_doc, axs_nil, axs_cons, upd_, bindT_var, bindT_2, bindT_3, items_lst, items_ref, tr_none, tr_bool, tr_int, tr_lst, tr_ref, b_add, b_sub, b_and, c_is, c_isnot, c_lt, c_le, c_gt, c_ge, c_eq, c_ne, nn_none, nn_int, nn_lst, nn_ref, Option.bind_some, Option.map_some, if_true, if_false, Bool.false_eq_true, reduceIte, Nat.reduceEqDiff, Nat.reduceAdd, List.length_cons, List.length_nil, Nat.reduceLT, Nat.add_zero, Nat.zero_add, c1, e2, hb, decide_true, decide_false, en, Bool.true_eq_false]
      · have en : near u d = u.fdiv d := by unfold near; rw [if_neg]; rintro (h | h); exact c1 h; exact c3 h.2
        rw [decide_eq_false c3] at hb
        simp only [ae_none, ae_bool, ae_int, ae_var, ae_bin, ae_neg, ae_cmp, ae_bo, ae_ife, ae_call, ae_bi, ae_edge, ae_attr, ae_meth, ae_sub, ae_slice, ae_lstT, ae_lstF, ae_tup, ae_compT, ae_compF, ae_sumg, aes_nil, aes_cons, ait_e, ait_range, ait_zip, ait_ezip, att_nt, att_bo, att_var, att_cmp, att_sub, att_bin, att_comp, ax_asg, ax_asub, ax_aug, ax_appm, ax_app, ax_ite, ax_whl, ax_for, ax_brk, ax_cont, ax_ret, ax_asrt, ax_doc, axs_nil, axs_cons, upd_, bindT_var, bindT_2, bindT_3, items_lst, items_ref, tr_none, tr_bool, tr_int, tr_lst, tr_ref, b_add, b_sub, b_and, c_is, c_isnot, c_lt, c_le, c_gt, c_ge, c_eq, c_ne, nn_none, nn_int, nn_lst, nn_ref, Option.bind_some, Option.map_some, if_true, if_false, Bool.false_eq_true, reduceIte, Nat.reduceEqDiff, Nat.reduceAdd, List.length_cons, List.length_nil, Nat.reduceLT, Nat.add_zero, Nat.zero_add, c1, e2, hb, decide_true, decide_false, en, Bool.true_eq_false]
    · have e2 : (2 * u.fmod d == d) = false := beq_eq_false_iff_ne.mpr c2
      have en : near u d = u.fdiv d := by unfold near; rw [if_neg]; rintro (h | h); exact c1 h; exact c2 h.1
      simp only [ae_none, ae_bool, ae_int, ae_var, ae_bin, ae_neg, ae_cmp, ae_bo, ae_ife, ae_call, ae_bi, ae_edge, ae_attr, ae_meth, ae_sub, ae_slice, ae_lstT, ae_lstF, ae_tup, ae_compT, ae_compF, ae_sumg, aes_nil, aes_cons, ait_e, ait_range, ait_zip, ait_ezip, att_nt, att_bo, att_var, att_cmp, att_sub, att_bin, att_comp, ax_asg, ax_asub, ax_aug, ax_appm, ax_app, ax_ite, ax_whl, ax_for, ax_brk, ax_cont, ax_ret, ax_asrt, ax_doc, axs_nil, axs_cons, upd_, bindT_var, bindT_2, bindT_3, items_lst, items_ref, tr_none, tr_bool, tr_int, tr_lst, tr_ref, b_add, b_sub, b_and, c_is, c_isnot, c_lt, c_le, c_gt, c_ge, c_eq, c_ne, nn_none, nn_int, nn_lst, nn_ref, Option.bind_some, Option.map_some, if_true, if_false, Bool.false_eq_true, reduceIte, Nat.reduceEqDiff, Nat.reduceAdd, List.length_cons, List.length_nil, Nat.reduceLT, Nat.add_zero, Nat.zero_add, c1, e2, decide_true, decide_false, en, Bool.true_eq_false]
end Mine

end

section
open PySem
set_option autoImplicit false
set_option linter.unusedSimpArgs false
set_option linter.unusedVariables false
set_option maxRecDepth 100000
namespace Mine

abbrev T3 := Int × Int × Int
def own (z : T3) : Int := if (z.2.1 != 0) = true then z.1 else 0
def osum (zs : List T3) : Int := (zs.map own).sum
def red : List T3 → Int → Int → List Int
  | [], _, _ => []
  | z :: r, p, l => if own z ≠ 0 then (z.2.2 - mn z.2.1 (near (own z * l) p)) :: red r (p - own z) (l - mn z.2.1 (near (own z * l) p)) else z.2.2 :: red r p l
theorem red_len : ∀ (zs : List T3) (p l : Int), (red zs p l).length = zs.length
  | [], _, _ => rfl
  | z :: r, p, l => by
    unfold red; split <;> simp [red_len r]
def Ok3 (zs : List T3) : Prop := ∀ z ∈ zs, 0 ≤ z.1 ∧ z.1 ≤ 2 ∧ 0 ≤ z.2.1
theorem own_bd {z : T3} (h : 0 ≤ z.1 ∧ z.1 ≤ 2 ∧ 0 ≤ z.2.1) : 0 ≤ own z ∧ own z ≤ 2 := by unfold own; split <;> omega
theorem osum_bd {zs : List T3} (h : Ok3 zs) : 0 ≤ osum zs ∧ osum zs ≤ 2 * zs.length := by
  induction zs with
  | nil => simp [osum]
  | cons z r ih =>
    have := ih fun y hy => h y (.tail _ hy)
    have hz := own_bd (h z (.head _))
    simp only [osum, List.map_cons, List.sum_cons, List.length_cons] at *
    omega
theorem osum_cons (z : T3) (r : List T3) : osum (z :: r) = own z + osum r := by simp [osum]

theorem round_ok {ρ : AE} {ah : AH} {u d : Int} (h19 : ρ 19 = some (.int (u.fdiv d))) (h20 : ρ 20 = some (.int (u.fmod d))) (h35 : ρ 35 = some (.int d)) :
    ∃ ρ', ρ' 19 = some (.int (near u d)) ∧ (∀ y, y ≠ 19 → ρ' y = ρ y) ∧ ∀ n, 20 ≤ n → ax fns n (.ite (.bo true (.cmp .Gt (.bin .Mult (.int 2) (.var 20)) (.var 35)) (.bo false (.cmp .Eq (.bin .Mult (.int 2) (.var 20)) (.var 35)) (.bin .Mod (.var 19) (.int 2)))) (.cons (.aug 19 .Add (.int 1)) .nil) .nil) ρ ah = some (.nx, ρ', ah) := by
  have hs2 : small 2 = true := by decide
  have hm2 : (2 : Int) ≠ 0 := by decide
  have upz : ∀ v y, y ≠ 19 → upd ρ 19 v y = ρ y := fun v y h => by simp only [upd_, h, if_false]
  by_cases c1 : 2 * u.fmod d > d
  · have en : near u d = u.fdiv d + 1 := by unfold near; rw [if_pos (Or.inl c1)]
    refine ⟨upd ρ 19 (.int (u.fdiv d + 1)), by rw [en]; rfl, upz _, fun n hn => ?_⟩
    obtain ⟨m, rfl⟩ : ∃ m, n = m + 20 := ⟨n - 20, by omega⟩
    simp only [ae_none, ae_bool, ae_int, ae_var, ae_bin, ae_neg, ae_cmp, ae_bo, ae_ife, ae_call, ae_bi, ae_edge, ae_attr, ae_meth, ae_sub, ae_slice, ae_lstT, ae_lstF, ae_tup, ae_compT, ae_compF, ae_sumg, aes_nil, aes_cons, ait_e, ait_range, ait_zip, ait_ezip, att_nt, att_bo, att_var, att_cmp, att_sub, att_bin, att_comp, ax_asg, ax_asub, ax_aug, ax_appm, ax_app, ax_ite, ax_whl, ax_for, ax_brk, ax_cont, ax_ret, ax_asrt, ax_doc, axs_nil, axs_cons, upd_, bindT_var, bindT_2, bindT_3, items_lst, items_ref, tr_none, tr_bool, tr_int, tr_lst, tr_ref, b_add, b_sub, b_and, c_is, c_isnot, c_lt, c_le, c_gt, c_ge, c_eq, c_ne, nn_none, nn_int, nn_lst, nn_ref, Option.bind_some, Option.map_some, if_true, if_false, Bool.false_eq_true, reduceIte, Nat.reduceEqDiff, Nat.reduceAdd, List.length_cons, List.length_nil, Nat.reduceLT, Nat.add_zero, Nat.zero_add, h19, h20, h35, b_mul hs2, c1, decide_true]
  · by_cases c2 : 2 * u.fmod d = d
    · have e2 : (2 * u.fmod d == d) = true := beq_iff_eq.mpr c2
      by_cases c3 : (u.fdiv d).fmod 2 ≠ 0
      · have en : near u d = u.fdiv d + 1 := by unfold near; rw [if_pos (Or.inr ⟨c2, c3⟩)]
        have e3 : ((u.fdiv d).fmod 2 != 0) = true := by simpa using c3
        refine ⟨upd ρ 19 (.int (u.fdiv d + 1)), by rw [en]; rfl, upz _, fun n hn => ?_⟩
        obtain ⟨m, rfl⟩ : ∃ m, n = m + 20 := ⟨n - 20, by omega⟩
        simp only [ae_none, ae_bool, ae_int, ae_var, ae_bin, ae_neg, ae_cmp, ae_bo, ae_ife, ae_call, ae_bi, ae_edge, ae_attr, ae_meth, ae_sub, ae_slice, ae_lstT, ae_lstF, ae_tup, ae_compT, ae_compF, ae_sumg, aes_nil, aes_cons, ait_e, ait_range, ait_zip, ait_ezip, att_nt, att_bo, att_var, att_cmp, att_sub, att_bin, att_comp, ax_asg, ax_asub, ax_aug, ax_appm, ax_app, ax_ite, ax_whl, ax_for, ax_brk, ax_cont, ax_ret, ax_asrt, ax_doc, axs_nil, axs_cons, upd_, bindT_var, bindT_2, bindT_3, items_lst, items_ref, tr_none, tr_bool, tr_int, tr_lst, tr_ref, b_add, b_sub, b_and, c_is, c_isnot, c_lt, c_le, c_gt, c_ge, c_eq, c_ne, nn_none, nn_int, nn_lst, nn_ref, Option.bind_some, Option.map_some, if_true, if_false, Bool.false_eq_true, reduceIte, Nat.reduceEqDiff, Nat.reduceAdd, List.length_cons, List.length_nil, Nat.reduceLT, Nat.add_zero, Nat.zero_add, h19, h20, h35, b_mul hs2, b_mod hm2, c1, e2, e3, decide_true, decide_false, Bool.true_eq_false]
      · have en : near u d = u.fdiv d := by unfold near; rw [if_neg]; rintro (h | h); exact c1 h; exact c3 h.2
        have e3 : ((u.fdiv d).fmod 2 != 0) = false := by simpa using c3
        refine ⟨ρ, by rw [en]; exact h19, fun _ _ => rfl, fun n hn => ?_⟩
        obtain ⟨m, rfl⟩ : ∃ m, n = m + 20 := ⟨n - 20, by omega⟩
        simp only [ae_none, ae_bool, ae_int, ae_var, ae_bin, ae_neg, ae_cmp, ae_bo, ae_ife, ae_call, ae_bi, ae_edge, ae_attr, ae_meth, ae_sub, ae_slice, ae_lstT, ae_lstF, ae_tup, ae_compT, ae_compF, ae_sumg, aes_nil, aes_cons, ait_e, ait_range, ait_zip, ait_ezip, att_nt, att_bo, att_var, att_cmp, att_sub, att_bin, att_comp, ax_asg, ax_asub, ax_aug, ax_appm, ax_app, ax_ite, ax_whl, ax_for, ax_brk, ax_cont, ax_ret, ax_asrt, ax_doc, axs_nil, axs_cons, upd_, bindT_var, bindT_2, bindT_3, items_lst, items_ref, tr_none, tr_bool, tr_int, tr_lst, tr_ref, b_add, b_sub, b_and, c_is, c_isnot, c_lt, c_le, c_gt, c_ge, c_eq, c_ne, nn_none, nn_int, nn_lst, nn_ref, Option.bind_some, Option.map_some, if_true, if_false, Bool.false_eq_true, reduceIte, Nat.reduceEqDiff, Nat.reduceAdd, List.length_cons, List.length_nil, Nat.reduceLT, Nat.add_zero, Nat.zero_add, h19, h20, h35, b_mul hs2, b_mod hm2, c1, e2, e3, decide_true, decide_false, Bool.true_eq_false]
    · have e2 : (2 * u.fmod d == d) = false := beq_eq_false_iff_ne.mpr c2
      have en : near u d = u.fdiv d := by unfold near; rw [if_neg]; rintro (h | h); exact c1 h; exact c2 h.1
      refine ⟨ρ, by rw [en]; exact h19, fun _ _ => rfl, fun n hn => ?_⟩
      obtain ⟨m, rfl⟩ : ∃ m, n = m + 20 := ⟨n - 20, by omega⟩
      simp only [ae_none, ae_bool, ae_int, ae_var, ae_bin, ae_neg, ae_cmp, ae_bo, ae_ife, ae_call, ae_bi, ae_edge, ae_attr, ae_meth, ae_sub, ae_slice, ae_lstT, ae_lstF, ae_tup, ae_compT, ae_compF, ae_sumg, aes_nil, aes_cons, ait_e, ait_range, ait_zip, ait_ezip, att_nt, att_bo, att_var, att_cmp, att_sub, att_bin, att_comp, ax_asg, ax_asub, ax_aug, ax_appm, ax_app, ax_ite, ax_whl, ax_for, ax_brk, ax_cont, ax_ret, ax_asrt, ax_doc, axs_nil, axs_cons, upd_, bindT_var, bindT_2, bindT_3, items_lst, items_ref, tr_none, tr_bool, tr_int, tr_lst, tr_ref, b_add, b_sub, b_and, c_is, c_isnot, c_lt, c_le, c_gt, c_ge, c_eq, c_ne, nn_none, nn_int, nn_lst, nn_ref, Option.bind_some, Option.map_some, if_true, if_false, Bool.false_eq_true, reduceIte, Nat.reduceEqDiff, Nat.reduceAdd, List.length_cons, List.length_nil, Nat.reduceLT, Nat.add_zero, Nat.zero_add, h19, h20, h35, b_mul hs2, c1, e2, decide_true, decide_false, Bool.true_eq_false]

theorem red_step {z : T3} {r : List T3} {l : Int} (hz : 0 ≤ z.1 ∧ z.1 ≤ 2 ∧ 0 ≤ z.2.1) (hr : Ok3 r) (hl : r.length ≤ 4) (h0 : 0 ≤ l) (h1 : l < 20) (ho : own z ≠ 0) :
    0 < osum (z :: r) ∧ osum (z :: r) < 11 ∧ 0 ≤ (own z * l).fdiv (osum (z :: r)) ∧ (own z * l).fdiv (osum (z :: r)) < 20 ∧ 0 ≤ l - mn z.2.1 (near (own z * l) (osum (z :: r))) ∧ l - mn z.2.1 (near (own z * l) (osum (z :: r))) < 20 := by
  have b := own_bd hz
  have c := osum_bd hr
  rw [osum_cons]
  have d := near_bd (o := own z) (p := own z + osum r) (l := l) b.1 (by omega) (by omega) (by omega) (by omega) h0 h1
  unfold mn
  refine ⟨by omega, by omega, d.2.2.1, d.2.2.2, ?_, ?_⟩ <;> split <;> omega

theorem reduce_loop {ah : AH} {zs : List T3} {total : Int} {ρ : AE} (hz : Ok3 zs) (hl : zs.length ≤ 5) (ht : 0 ≤ total) (ht2 : total < 20) (h35 : ρ 35 = some (.int (osum zs))) (h36 : ρ 36 = some (.int total)) (h38 : ρ 38 = some (.app ah.length)) (h37 : ρ 37 = some (.ref ah.length))
    (h21 : ρ 21 = some (.lst (zs.map fun z => .int (own z)))) (h33 : ρ 33 = some (.lst (zs.map fun z => .int z.2.1))) (h23 : ρ 23 = some (.lst (zs.map fun z => .int z.2.2))) :
    ∃ ρ', ρ' 37 = some (.ref ah.length) ∧ ∀ n, 80 ≤ n → ax fns n st_ratio_reduce_7 ρ (ah ++ [[]]) = some (.nx, ρ', ah ++ [(red zs (osum zs) total).map .int]) := by
  obtain ⟨ρ', ah', ⟨acc, p, l, h1, h2, h3, h4, h5, h5a, h5b, h6, rfl⟩, h7⟩ := afor_run (F := fns) (tg := .t3 (.var 9) (.var 39) (.var 2)) (src := .Z3 (.lst (zs.map fun z => .int (own z))) (.lst (zs.map fun z => .int z.2.1)) (.lst (zs.map fun z => .int z.2.2)))
    (b := .cons (.ite (.bo false (.var 9) (.cmp .Gt (.var 35) (.int 0))) (.cons (.asg (.t2 (.var 19) (.var 20)) (.bi .divmod (.cons (.bin .Mult (.var 9) (.var 36)) (.cons (.var 35) .nil)))) (.cons (.ite (.bo true (.cmp .Gt (.bin .Mult (.int 2) (.var 20)) (.var 35)) (.bo false (.cmp .Eq (.bin .Mult (.int 2) (.var 20)) (.var 35)) (.bin .Mod (.var 19) (.int 2)))) (.cons (.aug 19 .Add (.int 1)) .nil) .nil) (.cons (.asg (.var 40) (.bi .min (.cons (.var 39) (.cons (.var 19) .nil)))) (.cons (.app 38 (.bin .Sub (.var 2) (.var 40))) (.cons (.aug 36 .Sub (.var 40)) (.cons (.aug 35 .Sub (.var 9)) .nil)))))) (.cons (.app 38 (.var 2)) .nil)) .nil)
    (fun k ρ a => ∃ acc p l, ρ 35 = some (.int p) ∧ ρ 36 = some (.int l) ∧ ρ 38 = some (.app ah.length) ∧ ρ 37 = some (.ref ah.length) ∧ p = osum (zs.drop k) ∧ 0 ≤ l ∧ l < 20 ∧ acc ++ red (zs.drop k) p l = red zs (osum zs) total ∧ a = ah ++ [acc.map .int]) zs.length 40
    (fun k ρ a hk h => by
      obtain ⟨acc, p, l, h1, h2, h3, h4, hp, hl0, hl1, h6, rfl⟩ := h
      have hd : zs.drop k = zs[k] :: zs.drop (k + 1) := List.drop_eq_getElem_cons hk
      have hzk := hz zs[k] (List.getElem_mem hk)
      have hzr : Ok3 (zs.drop (k + 1)) := fun z hz' => hz z (List.mem_of_mem_drop hz')
      have hlr : (zs.drop (k + 1)).length ≤ 4 := by rw [List.length_drop]; omega
      have hacc : acc.length + (zs.length - k) = zs.length := by
        have := congrArg List.length h6
        rw [List.length_append, red_len, red_len, List.length_drop] at this; exact this
      have hal : (acc.map AV.int).length < 1000 := by rw [List.length_map]; omega
      rw [hd] at h6 hp
      have hpp : p - own zs[k] = osum (zs.drop (k + 1)) := by rw [hp, osum_cons]; omega
      rw [red] at h6
      have hsrc : srcGet (ah ++ [acc.map .int]) k (.Z3 (.lst (zs.map fun z => .int (own z))) (.lst (zs.map fun z => .int z.2.1)) (.lst (zs.map fun z => .int z.2.2))) = some (.tup [.int (own zs[k]), .int zs[k].2.1, .int zs[k].2.2]) :=
        src_Z3 items_lst items_lst items_lst (by simp [hk]) (by simp [hk]) (by simp [hk])
      by_cases ho : own zs[k] ≠ 0
      · rw [if_pos ho] at h6
        have st := red_step hzk hzr hlr hl0 hl1 ho
        rw [← hp] at st
        obtain ⟨g1, g2, g3, g4, g5, g6⟩ := st
        have hp0 : p ≠ 0 := by omega
        have hps : small30 p = true := small30_of (by omega) (by omega)
        have hpg : p > 0 := g1
        have ob := own_bd hzk
        have hsm : small (own zs[k]) = true := small_of (by omega) (by omega)
        have hot : (own zs[k] != 0) = true := by simpa using ho
        generalize own zs[k] = o at *
        generalize hzm : zs[k].2.1 = mo at *
        generalize hzv : zs[k].2.2 = vl at *
        obtain ⟨ρ', r1, r2, r3⟩ := round_ok (ρ := upd (upd (upd (upd (upd ρ 9 (.int o)) 39 (.int mo)) 2 (.int vl)) 19 (.int ((o * l).fdiv p))) 20 (.int ((o * l).fmod p))) (ah := ah ++ [acc.map .int]) (u := o * l) (d := p) rfl rfl h1
        have q39 : ρ' 39 = some (.int mo) := r2 39 (by decide)
        have q2 : ρ' 2 = some (.int vl) := r2 2 (by decide)
        have q9 : ρ' 9 = some (.int o) := r2 9 (by decide)
        have q38 : ρ' 38 = some (.app ah.length) := (r2 38 (by decide)).trans h3
        have q36 : ρ' 36 = some (.int l) := (r2 36 (by decide)).trans h2
        have q35 : ρ' 35 = some (.int p) := (r2 35 (by decide)).trans h1
        have q37 : ρ' 37 = some (.ref ah.length) := (r2 37 (by decide)).trans h4
        refine ⟨_, _, upd (upd (upd ρ' 40 (.int (mn mo (near (o * l) p)))) 36 (.int (l - mn mo (near (o * l) p)))) 35 (.int (p - o)), ah ++ [(acc ++ [vl - mn mo (near (o * l) p)]).map .int], hsrc, rfl, fun n hn => ?_,
          acc ++ [vl - mn mo (near (o * l) p)], p - o, l - mn mo (near (o * l) p), rfl, rfl, ?_, ?_, hpp, g5, g6, ?_, rfl⟩
        · obtain ⟨m, rfl⟩ : ∃ m, n = m + 40 := ⟨n - 40, by omega⟩
          rw [axs_cons, ax_ite]
          simp only [ae_none, ae_bool, ae_int, ae_var, ae_bin, ae_neg, ae_cmp, ae_bo, ae_ife, ae_call, ae_bi, ae_edge, ae_attr, ae_meth, ae_sub, ae_slice, ae_lstT, ae_lstF, ae_tup, ae_compT, ae_compF, ae_sumg, aes_nil, aes_cons, ait_e, ait_range, ait_zip, ait_ezip, att_nt, att_bo, att_var, att_cmp, att_sub, att_bin, att_comp, ax_asg, ax_asub, ax_aug, ax_appm, ax_app, ax_whl, ax_for, ax_brk, ax_cont, ax_ret, ax_asrt, ax_doc, axs_nil, axs_cons, upd_, bindT_var, bindT_2, bindT_3, items_lst, items_ref, tr_none, tr_bool, tr_int, tr_lst, tr_ref, b_add, b_sub, b_and, c_is, c_isnot, c_lt, c_le, c_gt, c_ge, c_eq, c_ne, nn_none, nn_int, nn_lst, nn_ref, Option.bind_some, Option.map_some, if_true, if_false, Bool.false_eq_true, reduceIte, Nat.reduceEqDiff, Nat.reduceAdd, List.length_cons, List.length_nil, Nat.reduceLT, Nat.add_zero, Nat.zero_add, h1, h2, h3, h4, b_mul hsm, i_divmod hp0 hps, hot, hpg, decide_true, Bool.true_eq_false]
          rw [r3 _ (by omega)]
          simp only [ae_none, ae_bool, ae_int, ae_var, ae_bin, ae_neg, ae_cmp, ae_bo, ae_ife, ae_call, ae_bi, ae_edge, ae_attr, ae_meth, ae_sub, ae_slice, ae_lstT, ae_lstF, ae_tup, ae_compT, ae_compF, ae_sumg, aes_nil, aes_cons, ait_e, ait_range, ait_zip, ait_ezip, att_nt, att_bo, att_var, att_cmp, att_sub, att_bin, att_comp, ax_asg, ax_asub, ax_aug, ax_appm, ax_app, ax_ite, ax_whl, ax_for, ax_brk, ax_cont, ax_ret, ax_asrt, ax_doc, axs_nil, axs_cons, upd_, bindT_var, bindT_2, bindT_3, items_lst, items_ref, tr_none, tr_bool, tr_int, tr_lst, tr_ref, b_add, b_sub, b_and, c_is, c_isnot, c_lt, c_le, c_gt, c_ge, c_eq, c_ne, nn_none, nn_int, nn_lst, nn_ref, Option.bind_some, Option.map_some, if_true, if_false, Bool.false_eq_true, reduceIte, Nat.reduceEqDiff, Nat.reduceAdd, List.length_cons, List.length_nil, Nat.reduceLT, Nat.add_zero, Nat.zero_add, r1, q39, q2, q9, q38, q36, q35, i_min, get_last, set_last, hal, List.map_append, List.map_cons, List.map_nil]
        · simp only [upd_, Nat.reduceEqDiff, if_false]; exact q38
        · simp only [upd_, Nat.reduceEqDiff, if_false]; exact q37
        · rw [List.append_assoc]; exact h6
      · rw [if_neg ho] at h6
        have ho' : own zs[k] = 0 := by simpa using ho
        have hot : (own zs[k] != 0) = false := by simpa using ho
        refine ⟨_, _, upd (upd (upd ρ 9 (.int (own zs[k]))) 39 (.int zs[k].2.1)) 2 (.int zs[k].2.2), ah ++ [(acc ++ [zs[k].2.2]).map .int], hsrc, rfl, fun n hn => ?_,
          acc ++ [zs[k].2.2], p, l, h1, h2, h3, h4, by omega, hl0, hl1, ?_, rfl⟩
        · obtain ⟨m, rfl⟩ : ∃ m, n = m + 40 := ⟨n - 40, by omega⟩
          simp only [ae_none, ae_bool, ae_int, ae_var, ae_bin, ae_neg, ae_cmp, ae_bo, ae_ife, ae_call, ae_bi, ae_edge, ae_attr, ae_meth, ae_sub, ae_slice, ae_lstT, ae_lstF, ae_tup, ae_compT, ae_compF, ae_sumg, aes_nil, aes_cons, ait_e, ait_range, ait_zip, ait_ezip, att_nt, att_bo, att_var, att_cmp, att_sub, att_bin, att_comp, ax_asg, ax_asub, ax_aug, ax_appm, ax_app, ax_ite, ax_whl, ax_for, ax_brk, ax_cont, ax_ret, ax_asrt, ax_doc, axs_nil, axs_cons, upd_, bindT_var, bindT_2, bindT_3, items_lst, items_ref, tr_none, tr_bool, tr_int, tr_lst, tr_ref, b_add, b_sub, b_and, c_is, c_isnot, c_lt, c_le, c_gt, c_ge, c_eq, c_ne, nn_none, nn_int, nn_lst, nn_ref, Option.bind_some, Option.map_some, if_true, if_false, Bool.false_eq_true, reduceIte, Nat.reduceEqDiff, Nat.reduceAdd, List.length_cons, List.length_nil, Nat.reduceLT, Nat.add_zero, Nat.zero_add, h1, h2, h3, h4, hot, get_last, set_last, hal, List.map_append, List.map_cons, List.map_nil]
        · rw [List.append_assoc]; exact h6)
    (fun ρ a h => src_Z3n items_lst (by simp))
    zs.length 0 ρ (ah ++ [[]]) (by omega) ⟨[], osum zs, total, h35, h36, h38, h37, rfl, ht, ht2, rfl, rfl⟩
  refine ⟨ρ', h4, fun n hn => ?_⟩
  obtain ⟨m, rfl⟩ : ∃ m, n = m + 10 := ⟨n - 10, by omega⟩
  have hok : srcOk (ah ++ [[]]) (.Z3 (.lst (zs.map fun z => .int (own z))) (.lst (zs.map fun z => .int z.2.1)) (.lst (zs.map fun z => .int z.2.2))) = true := ok_Z3 items_lst items_lst items_lst (by rw [List.length_map]; omega) (by rw [List.length_map]; omega) (by rw [List.length_map]; omega)
  simp only [st_ratio_reduce_7, ae_none, ae_bool, ae_int, ae_var, ae_bin, ae_neg, ae_cmp, ae_bo, ae_ife, ae_call, ae_bi, ae_edge, ae_attr, ae_meth, ae_sub, ae_slice, ae_lstT, ae_lstF, ae_tup, ae_compT, ae_compF, ae_sumg, aes_nil, aes_cons, ait_e, ait_range, ait_zip, ait_ezip, att_nt, att_bo, att_var, att_cmp, att_sub, att_bin, att_comp, ax_asg, ax_asub, ax_aug, ax_appm, ax_app, ax_ite, ax_whl, ax_for, ax_brk, ax_cont, ax_ret, ax_asrt, ax_doc, axs_nil, axs_cons, upd_, bindT_var, bindT_2, bindT_3, items_lst, items_ref, tr_none, tr_bool, tr_int, tr_lst, tr_ref, b_add, b_sub, b_and, c_is, c_isnot, c_lt, c_le, c_gt, c_ge, c_eq, c_ne, nn_none, nn_int, nn_lst, nn_ref, Option.bind_some, Option.map_some, if_true, if_false, Bool.false_eq_true, reduceIte, Nat.reduceEqDiff, Nat.reduceAdd, List.length_cons, List.length_nil, Nat.reduceLT, Nat.add_zero, Nat.zero_add, h21, h33, h23, hok]
  rw [h7 _ (by omega)]
  rw [List.drop_length] at h6
  simp only [red, List.append_nil] at h6
  rw [h6]
end Mine

end

section
open PySem
set_option autoImplicit false
set_option linter.unusedSimpArgs false
set_option linter.unusedVariables false
set_option maxRecDepth 100000
namespace Mine

/-- what is kept of the lists that change -/
def Keep (ah ah' : AH) : Prop := ∀ (q : Nat) xs, ah[q]? = some xs → ah'[q]? = some xs
theorem Keep.refl (ah : AH) : Keep ah ah := fun _ _ e => e
theorem Keep.trans {a b c : AH} (x : Keep a b) (y : Keep b c) : Keep a c := fun q xs e => y q xs (x q xs e)
theorem get_lt {ah : AH} {q : Nat} {xs : List AV} (e : ah[q]? = some xs) : q < ah.length := by
  rcases Nat.lt_or_ge q ah.length with h | h
  · exact h
  · rw [List.getElem?_eq_none h] at e; cases e
theorem Keep.app (ah b : AH) : Keep ah (ah ++ b) := fun q xs e => by rw [List.getElem?_append_left (get_lt e)]; exact e
theorem Keep.set {a b : AH} {r : Nat} {y : List AV} (x : Keep a b) (h : a.length ≤ r) : Keep a (b.set r y) := fun q xs e => by
  have := get_lt e
  rw [List.getElem?_set_ne (by omega)]; exact x q xs e

def redOut (zs : List T3) (total : Int) : List Int := if osum zs = 0 then zs.map (·.2.2) else red zs (osum zs) total

theorem sum_own {ah : AH} {zs : List T3} (hz : Ok3 zs) (hl : zs.length ≤ 5) : abi .sum ah [.lst (zs.map fun z => .int (own z))] = some (.int (osum zs)) := by
  rw [i_sum (xs := zs.map own) (by rw [items_lst, List.map_map]; rfl) (by rw [List.length_map]; omega)]; rfl
  intro i hi
  obtain ⟨z, h1, rfl⟩ := List.mem_map.mp hi
  have := own_bd (hz z h1)
  exact small30_of (by omega) (by omega)

theorem reduce_ok {ah : AH} {zs : List T3} {total : Int} (hz : Ok3 zs) (hl : zs.length ≤ 5) (ht : 0 ≤ total) (ht2 : total < 20) :
    ∃ v ah', (∀ n, 120 ≤ n → acall fns n 6 [.int total, .lst (zs.map fun z => .int z.1), .lst (zs.map fun z => .int z.2.1), .lst (zs.map fun z => .int z.2.2)] ah = some (v, ah')) ∧ items ah' v = some ((redOut zs total).map .int) ∧ Keep ah ah' := by
  have hok : srcOk ah (.Z2 (.lst (zs.map fun z => .int z.1)) (.lst (zs.map fun z => .int z.2.1))) = true := ok_Z2 items_lst items_lst (by rw [List.length_map]; omega) (by rw [List.length_map]; omega)
  obtain ⟨acc', ah', ⟨rfl, rfl⟩, h2⟩ := acomp_run (F := fns) (elt := .ife (.var 34) (.var 9) (.int 0)) (tg := .t2 (.var 9) (.var 34)) (ρ := capt (upd (upd (upd (upd (fun _ => none) 5 (.int total)) 21 (.lst (zs.map fun z => .int z.1))) 33 (.lst (zs.map fun z => .int z.2.1))) 23 (.lst (zs.map fun z => .int z.2.2))) []) (src := .Z2 (.lst (zs.map fun z => .int z.1)) (.lst (zs.map fun z => .int z.2.1)))
    (fun k acc a => acc = (zs.take k).map (fun z => .int (own z)) ∧ a = ah) zs.length 10
    (fun k acc a hk h => by
      obtain ⟨rfl, rfl⟩ := h
      refine ⟨by simp only [List.length_map, List.length_take]; omega, .tup [.int zs[k].1, .int zs[k].2.1], _, .int (own zs[k]), a, src_Z2 items_lst items_lst (by simp [hk]) (by simp [hk]), rfl, fun n hn => ?_, ?_, rfl⟩
      · obtain ⟨m, rfl⟩ : ∃ m, n = m + 10 := ⟨n - 10, by omega⟩
        by_cases hc : (zs[k].2.1 != 0) = true
        · simp only [ae_none, ae_bool, ae_int, ae_var, ae_bin, ae_neg, ae_cmp, ae_bo, ae_ife, ae_call, ae_bi, ae_edge, ae_attr, ae_meth, ae_sub, ae_slice, ae_lstT, ae_lstF, ae_tup, ae_compT, ae_compF, ae_sumg, aes_nil, aes_cons, ait_e, ait_range, ait_zip, ait_ezip, att_nt, att_bo, att_var, att_cmp, att_sub, att_bin, att_comp, ax_asg, ax_asub, ax_aug, ax_appm, ax_app, ax_ite, ax_whl, ax_for, ax_brk, ax_cont, ax_ret, ax_asrt, ax_doc, axs_nil, axs_cons, upd_, bindT_var, bindT_2, bindT_3, items_lst, items_ref, tr_none, tr_bool, tr_int, tr_lst, tr_ref, b_add, b_sub, b_and, c_is, c_isnot, c_lt, c_le, c_gt, c_ge, c_eq, c_ne, nn_none, nn_int, nn_lst, nn_ref, Option.bind_some, Option.map_some, if_true, if_false, Bool.false_eq_true, reduceIte, Nat.reduceEqDiff, Nat.reduceAdd, List.length_cons, List.length_nil, Nat.reduceLT, Nat.add_zero, Nat.zero_add, hc, own]
        · simp only [ae_none, ae_bool, ae_int, ae_var, ae_bin, ae_neg, ae_cmp, ae_bo, ae_ife, ae_call, ae_bi, ae_edge, ae_attr, ae_meth, ae_sub, ae_slice, ae_lstT, ae_lstF, ae_tup, ae_compT, ae_compF, ae_sumg, aes_nil, aes_cons, ait_e, ait_range, ait_zip, ait_ezip, att_nt, att_bo, att_var, att_cmp, att_sub, att_bin, att_comp, ax_asg, ax_asub, ax_aug, ax_appm, ax_app, ax_ite, ax_whl, ax_for, ax_brk, ax_cont, ax_ret, ax_asrt, ax_doc, axs_nil, axs_cons, upd_, bindT_var, bindT_2, bindT_3, items_lst, items_ref, tr_none, tr_bool, tr_int, tr_lst, tr_ref, b_add, b_sub, b_and, c_is, c_isnot, c_lt, c_le, c_gt, c_ge, c_eq, c_ne, nn_none, nn_int, nn_lst, nn_ref, Option.bind_some, Option.map_some, if_true, if_false, Bool.false_eq_true, reduceIte, Nat.reduceEqDiff, Nat.reduceAdd, List.length_cons, List.length_nil, Nat.reduceLT, Nat.add_zero, Nat.zero_add, hc, own]
      · simp only [List.take_succ, List.getElem?_eq_getElem hk, Option.toList, List.map_append, List.map_cons, List.map_nil])
    (fun acc a h => src_Z2n items_lst (by simp))
    zs.length 0 [] ah (by omega) ⟨rfl, rfl⟩
  rw [List.take_length] at h2
  have hsum := fun a : AH => sum_own (ah := a) hz hl
  have hal : (zs.map fun z => AV.int z.2.2).length < 1000 := by rw [List.length_map]; omega
  by_cases h0 : osum zs = 0
  · have e0 : (osum zs != 0) = false := by simpa using h0
    refine ⟨.lst (zs.map fun z => .int z.2.2), ah', fun n hn => ?_, by rw [items_lst, redOut, if_pos h0, List.map_map]; rfl, Keep.refl _⟩
    obtain ⟨m, rfl⟩ : ∃ m, n = m + 120 := ⟨n - 120, by omega⟩
    rw [acall_]
    simp only [fns, bd_ratio_reduce, st_ratio_reduce_0, st_ratio_reduce_1, st_ratio_reduce_2, st_ratio_reduce_3, st_ratio_reduce_4, st_ratio_reduce_5, st_ratio_reduce_6, st_ratio_reduce_8, List.drop_nil, List.append_nil, List.zip_cons_cons, List.zip_nil_right, List.foldl_cons, List.foldl_nil, Nat.sub_self, ae_none, ae_bool, ae_int, ae_var, ae_bin, ae_neg, ae_cmp, ae_bo, ae_ife, ae_call, ae_bi, ae_edge, ae_attr, ae_meth, ae_sub, ae_slice, ae_lstT, ae_lstF, ae_tup, ae_compT, ae_compF, ae_sumg, aes_nil, aes_cons, ait_e, ait_range, ait_zip, ait_ezip, att_nt, att_bo, att_var, att_cmp, att_sub, att_bin, att_comp, ax_asg, ax_asub, ax_aug, ax_appm, ax_app, ax_ite, ax_whl, ax_for, ax_brk, ax_cont, ax_ret, ax_asrt, ax_doc, axs_nil, axs_cons, upd_, bindT_var, bindT_2, bindT_3, items_lst, items_ref, tr_none, tr_bool, tr_int, tr_lst, tr_ref, b_add, b_sub, b_and, c_is, c_isnot, c_lt, c_le, c_gt, c_ge, c_eq, c_ne, nn_none, nn_int, nn_lst, nn_ref, Option.bind_some, Option.map_some, if_true, if_false, Bool.false_eq_true, reduceIte, Nat.reduceEqDiff, Nat.reduceAdd, List.length_cons, List.length_nil, Nat.reduceLT, Nat.add_zero, Nat.zero_add, hok]
    rw [h2 _ (by omega)]
    simp only [ae_none, ae_bool, ae_int, ae_var, ae_bin, ae_neg, ae_cmp, ae_bo, ae_ife, ae_call, ae_bi, ae_edge, ae_attr, ae_meth, ae_sub, ae_slice, ae_lstT, ae_lstF, ae_tup, ae_compT, ae_compF, ae_sumg, aes_nil, aes_cons, ait_e, ait_range, ait_zip, ait_ezip, att_nt, att_bo, att_var, att_cmp, att_sub, att_bin, att_comp, ax_asg, ax_asub, ax_aug, ax_appm, ax_app, ax_ite, ax_whl, ax_for, ax_brk, ax_cont, ax_ret, ax_asrt, ax_doc, axs_nil, axs_cons, upd_, bindT_var, bindT_2, bindT_3, items_lst, items_ref, tr_none, tr_bool, tr_int, tr_lst, tr_ref, b_add, b_sub, b_and, c_is, c_isnot, c_lt, c_le, c_gt, c_ge, c_eq, c_ne, nn_none, nn_int, nn_lst, nn_ref, Option.bind_some, Option.map_some, if_true, if_false, Bool.false_eq_true, reduceIte, Nat.reduceEqDiff, Nat.reduceAdd, List.length_cons, List.length_nil, Nat.reduceLT, Nat.add_zero, Nat.zero_add, hsum, e0, Bool.not_false, hal, takeO]
  · have e0 : (osum zs != 0) = true := by simpa using h0
    obtain ⟨ρ', h3, h4⟩ := reduce_loop (ah := ah') (zs := zs) (total := total) (ρ := upd (upd (upd (upd (upd (upd (upd (upd (upd (fun _ => none) 5 (.int total)) 21 (.lst (zs.map fun z => .int z.1))) 33 (.lst (zs.map fun z => .int z.2.1))) 23 (.lst (zs.map fun z => .int z.2.2))) 21 (.lst (zs.map fun z => .int (own z)))) 35 (.int (osum zs))) 36 (.int total)) 37 (.ref ah'.length)) 38 (.app ah'.length)) hz hl ht ht2 rfl rfl rfl rfl rfl rfl rfl
    refine ⟨.ref ah'.length, ah' ++ [(red zs (osum zs) total).map .int], fun n hn => ?_, by rw [items_ref, get_last, redOut, if_neg h0], Keep.app _ _⟩
    obtain ⟨m, rfl⟩ : ∃ m, n = m + 120 := ⟨n - 120, by omega⟩
    rw [acall_]
    simp only [fns, bd_ratio_reduce, st_ratio_reduce_0, st_ratio_reduce_1, st_ratio_reduce_2, st_ratio_reduce_3, st_ratio_reduce_4, st_ratio_reduce_5, st_ratio_reduce_6, st_ratio_reduce_8, List.drop_nil, List.append_nil, List.zip_cons_cons, List.zip_nil_right, List.foldl_cons, List.foldl_nil, Nat.sub_self, ae_none, ae_bool, ae_int, ae_var, ae_bin, ae_neg, ae_cmp, ae_bo, ae_ife, ae_call, ae_bi, ae_edge, ae_attr, ae_meth, ae_sub, ae_slice, ae_lstT, ae_lstF, ae_tup, ae_compT, ae_compF, ae_sumg, aes_nil, aes_cons, ait_e, ait_range, ait_zip, ait_ezip, att_nt, att_bo, att_var, att_cmp, att_sub, att_bin, att_comp, ax_asg, ax_asub, ax_aug, ax_appm, ax_app, ax_ite, ax_whl, ax_for, ax_brk, ax_cont, ax_ret, ax_asrt, ax_doc, axs_nil, axs_cons, upd_, bindT_var, bindT_2, bindT_3, items_lst, items_ref, tr_none, tr_bool, tr_int, tr_lst, tr_ref, b_add, b_sub, b_and, c_is, c_isnot, c_lt, c_le, c_gt, c_ge, c_eq, c_ne, nn_none, nn_int, nn_lst, nn_ref, Option.bind_some, Option.map_some, if_true, if_false, Bool.false_eq_true, reduceIte, Nat.reduceEqDiff, Nat.reduceAdd, List.length_cons, List.length_nil, Nat.reduceLT, Nat.add_zero, Nat.zero_add, hok]
    rw [h2 _ (by omega)]
    simp only [ae_none, ae_bool, ae_int, ae_var, ae_bin, ae_neg, ae_cmp, ae_bo, ae_ife, ae_call, ae_bi, ae_edge, ae_attr, ae_meth, ae_sub, ae_slice, ae_lstT, ae_lstF, ae_tup, ae_compT, ae_compF, ae_sumg, aes_nil, aes_cons, ait_e, ait_range, ait_zip, ait_ezip, att_nt, att_bo, att_var, att_cmp, att_sub, att_bin, att_comp, ax_asg, ax_asub, ax_aug, ax_appm, ax_app, ax_ite, ax_whl, ax_for, ax_brk, ax_cont, ax_ret, ax_asrt, ax_doc, axs_nil, axs_cons, upd_, bindT_var, bindT_2, bindT_3, items_lst, items_ref, tr_none, tr_bool, tr_int, tr_lst, tr_ref, b_add, b_sub, b_and, c_is, c_isnot, c_lt, c_le, c_gt, c_ge, c_eq, c_ne, nn_none, nn_int, nn_lst, nn_ref, Option.bind_some, Option.map_some, if_true, if_false, Bool.false_eq_true, reduceIte, Nat.reduceEqDiff, Nat.reduceAdd, List.length_cons, List.length_nil, Nat.reduceLT, Nat.add_zero, Nat.zero_add, hsum, e0, Bool.not_true]
    rw [h4 _ (by omega)]
    simp only [ae_none, ae_bool, ae_int, ae_var, ae_bin, ae_neg, ae_cmp, ae_bo, ae_ife, ae_call, ae_bi, ae_edge, ae_attr, ae_meth, ae_sub, ae_slice, ae_lstT, ae_lstF, ae_tup, ae_compT, ae_compF, ae_sumg, aes_nil, aes_cons, ait_e, ait_range, ait_zip, ait_ezip, att_nt, att_bo, att_var, att_cmp, att_sub, att_bin, att_comp, ax_asg, ax_asub, ax_aug, ax_appm, ax_app, ax_ite, ax_whl, ax_for, ax_brk, ax_cont, ax_ret, ax_asrt, ax_doc, axs_nil, axs_cons, upd_, bindT_var, bindT_2, bindT_3, items_lst, items_ref, tr_none, tr_bool, tr_int, tr_lst, tr_ref, b_add, b_sub, b_and, c_is, c_isnot, c_lt, c_le, c_gt, c_ge, c_eq, c_ne, nn_none, nn_int, nn_lst, nn_ref, Option.bind_some, Option.map_some, if_true, if_false, Bool.false_eq_true, reduceIte, Nat.reduceEqDiff, Nat.reduceAdd, List.length_cons, List.length_nil, Nat.reduceLT, Nat.add_zero, Nat.zero_add, h3]
end Mine

end

section
open PySem
set_option autoImplicit false
set_option linter.unusedSimpArgs false
set_option linter.unusedVariables false
set_option maxRecDepth 100000
namespace Mine

theorem b_cat {ah : AH} {r : Nat} {xs ys : List AV} (h : ah[r]? = some xs) (hl : xs.length + ys.length < 1000) : abin .Add ah (.ref r) (.lst ys) = some (.ref ah.length, ah ++ [xs ++ ys]) := by
  simp only [abin, items, h, if_pos hl]
theorem i_list {ah : AH} {xs : List AV} (hl : xs.length < 1000) : abi .list ah [.lst xs] = some (.lst xs) := by simp only [abi, items, if_pos hl]
theorem sub_at {α : Type} {ah : AH} {zs : List α} {f : α → AV} {k : Nat} (hk : k < zs.length) (hl : zs.length < 1000) : asub ah (.lst (zs.map f)) (.int k) = some (f zs[k]) := by
  rw [sub_lst (by omega), Int.toNat_natCast, List.getElem?_map, List.getElem?_eq_getElem hk]; rfl

theorem taken_loop {ah : AH} {zs : List T3} {total : Int} {ρ : AE} (hz : Ok3 zs) (hl : zs.length ≤ 5) (ht : 0 ≤ total) (ht2 : total < 20) (h15 : ρ 15 = some (.int (osum zs))) (h24 : ρ 24 = some (.int total)) (h25 : ρ 25 = some (.ref ah.length))
    (h21 : ρ 21 = some (.lst (zs.map fun z => .int z.1))) (h22 : ρ 22 = some (.lst (zs.map fun z => .int z.2.1))) (h23 : ρ 23 = some (.lst (zs.map fun z => .int z.2.2))) :
    ∃ ρ' r a', ρ' 25 = some (.ref r) ∧ a'[r]? = some ((red zs (osum zs) total).map .int) ∧ Keep ah a' ∧ ∀ n, 90 ≤ n → ax fns n st_law_taken_2 ρ (ah ++ [[]]) = some (.nx, ρ', a') := by
  obtain ⟨ρ', a', ⟨acc, p, l, r, h1, h2, h3, g1, g2, g3, hr, hrl, hkp, h5, h5a, h5b, h6⟩, h7⟩ := afor_run (F := fns) (tg := .var 11) (src := .R zs.length)
    (b := .cons (.asg (.var 26) (.ife (.sub (.var 22) (.var 11)) (.sub (.var 21) (.var 11)) (.int 0))) (.cons (.ite (.bo false (.var 26) (.cmp .Gt (.var 15) (.int 0))) (.cons (.asg (.var 1) (.bi .min (.cons (.lst false (.cons (.sub (.var 22) (.var 11)) (.cons (.call 3 (.cons (.bin .Mult (.var 26) (.var 24)) (.cons (.var 15) .nil))) .nil))) .nil))) (.cons (.asg (.t3 (.var 25) (.var 24) (.var 15)) (.tup (.cons (.bin .Add (.var 25) (.lst false (.cons (.bin .Sub (.sub (.var 23) (.var 11)) (.var 1)) .nil))) (.cons (.bin .Sub (.var 24) (.var 1)) (.cons (.bin .Sub (.var 15) (.var 26)) .nil))))) .nil)) (.cons (.appm 25 (.sub (.var 23) (.var 11))) .nil)) .nil))
    (fun k ρ a => ∃ acc p l r, ρ 15 = some (.int p) ∧ ρ 24 = some (.int l) ∧ ρ 25 = some (.ref r) ∧ ρ 21 = some (.lst (zs.map fun z => .int z.1)) ∧ ρ 22 = some (.lst (zs.map fun z => .int z.2.1)) ∧ ρ 23 = some (.lst (zs.map fun z => .int z.2.2)) ∧
      a[r]? = some (acc.map .int) ∧ ah.length ≤ r ∧ Keep ah a ∧ p = osum (zs.drop k) ∧ 0 ≤ l ∧ l < 20 ∧ acc ++ red (zs.drop k) p l = red zs (osum zs) total) zs.length 50
    (fun k ρ a hk h => by
      obtain ⟨acc, p, l, r, h1, h2, h3, h21, h22, h23, hr, hrl, hkp, hp, hl0, hl1, h6⟩ := h
      have hd : zs.drop k = zs[k] :: zs.drop (k + 1) := List.drop_eq_getElem_cons hk
      have hzk := hz zs[k] (List.getElem_mem hk)
      have hzr : Ok3 (zs.drop (k + 1)) := fun z hz' => hz z (List.mem_of_mem_drop hz')
      have hlr : (zs.drop (k + 1)).length ≤ 4 := by rw [List.length_drop]; omega
      have hacc : acc.length + (zs.length - k) = zs.length := by
        have := congrArg List.length h6
        rw [List.length_append, red_len, red_len, List.length_drop] at this; exact this
      have hal : (acc.map AV.int).length < 1000 := by rw [List.length_map]; omega
      have hal2 : (acc.map AV.int).length + 1 < 1000 := by rw [List.length_map]; omega
      rw [hd] at h6 hp
      have hpp : p - own zs[k] = osum (zs.drop (k + 1)) := by rw [hp, osum_cons]; omega
      rw [red] at h6
      have s1 := fun a : AH => sub_at (ah := a) (f := fun z : T3 => AV.int z.1) hk (by omega)
      have s2 := fun a : AH => sub_at (ah := a) (f := fun z : T3 => AV.int z.2.1) hk (by omega)
      have s3 := fun a : AH => sub_at (ah := a) (f := fun z : T3 => AV.int z.2.2) hk (by omega)
      have hsrc : srcGet a k (.R zs.length) = some (.int k) := by rw [src_R, if_pos hk]
      by_cases ho : own zs[k] ≠ 0
      · rw [if_pos ho] at h6
        have st := red_step hzk hzr hlr hl0 hl1 ho
        rw [← hp] at st
        obtain ⟨g1, g2, g3, g4, g5, g6⟩ := st
        have hpg : p > 0 := g1
        have hmz : (zs[k].2.1 != 0) = true := by
          cases e : (zs[k].2.1 != 0) with
          | true => rfl
          | false => exact absurd (by unfold own; rw [e]; rfl) ho
        have hoz : own zs[k] = zs[k].1 := by unfold own; rw [if_pos hmz]
        rw [hoz] at ho hpp g3 g4 g5 g6 h6
        have hsm : small zs[k].1 = true := small_of (by omega) (by omega)
        have hot : (zs[k].1 != 0) = true := by simpa using ho
        have nr := near_ok (ah := a) (u := zs[k].1 * l) (d := p) g1 (by omega) g3 g4
        generalize hz1 : zs[k].1 = o at *
        generalize hzm : zs[k].2.1 = mo at *
        generalize hzv : zs[k].2.2 = vl at *
        refine ⟨_, _, upd (upd (upd (upd (upd (upd ρ 11 (.int k)) 26 (.int o)) 1 (.int (mn mo (near (o * l) p)))) 25 (.ref a.length)) 24 (.int (l - mn mo (near (o * l) p)))) 15 (.int (p - o)), a ++ [acc.map .int ++ [.int (vl - mn mo (near (o * l) p))]], hsrc, rfl, fun n hn => ?_,
          acc ++ [vl - mn mo (near (o * l) p)], p - o, l - mn mo (near (o * l) p), a.length, rfl, rfl, rfl, ?_, ?_, ?_, ?_, ?_, ?_, hpp, g5, g6, ?_⟩
        · obtain ⟨m, rfl⟩ : ∃ m, n = m + 50 := ⟨n - 50, by omega⟩
          simp only [ae_none, ae_bool, ae_int, ae_var, ae_bin, ae_neg, ae_cmp, ae_bo, ae_ife, ae_call, ae_bi, ae_edge, ae_attr, ae_meth, ae_sub, ae_slice, ae_lstT, ae_lstF, ae_tup, ae_compT, ae_compF, ae_sumg, aes_nil, aes_cons, ait_e, ait_range, ait_zip, ait_ezip, att_nt, att_bo, att_var, att_cmp, att_sub, att_bin, att_comp, ax_asg, ax_asub, ax_aug, ax_appm, ax_app, ax_ite, ax_whl, ax_for, ax_brk, ax_cont, ax_ret, ax_asrt, ax_doc, axs_nil, axs_cons, upd_, bindT_var, bindT_2, bindT_3, items_lst, items_ref, tr_none, tr_bool, tr_int, tr_lst, tr_ref, b_add, b_sub, b_and, c_is, c_isnot, c_lt, c_le, c_gt, c_ge, c_eq, c_ne, nn_none, nn_int, nn_lst, nn_ref, Option.bind_some, Option.map_some, if_true, if_false, Bool.false_eq_true, reduceIte, Nat.reduceEqDiff, Nat.reduceAdd, List.length_cons, List.length_nil, Nat.reduceLT, Nat.add_zero, Nat.zero_add, h1, h2, h3, h21, h22, h23, s1, s2, s3, hz1, hzm, hzv, hmz, b_mul hsm, hot, hpg, decide_true, Bool.true_eq_false]
          rw [nr _ (by omega)]
          simp only [ae_none, ae_bool, ae_int, ae_var, ae_bin, ae_neg, ae_cmp, ae_bo, ae_ife, ae_call, ae_bi, ae_edge, ae_attr, ae_meth, ae_sub, ae_slice, ae_lstT, ae_lstF, ae_tup, ae_compT, ae_compF, ae_sumg, aes_nil, aes_cons, ait_e, ait_range, ait_zip, ait_ezip, att_nt, att_bo, att_var, att_cmp, att_sub, att_bin, att_comp, ax_asg, ax_asub, ax_aug, ax_appm, ax_app, ax_ite, ax_whl, ax_for, ax_brk, ax_cont, ax_ret, ax_asrt, ax_doc, axs_nil, axs_cons, upd_, bindT_var, bindT_2, bindT_3, items_lst, items_ref, tr_none, tr_bool, tr_int, tr_lst, tr_ref, b_add, b_sub, b_and, c_is, c_isnot, c_lt, c_le, c_gt, c_ge, c_eq, c_ne, nn_none, nn_int, nn_lst, nn_ref, Option.bind_some, Option.map_some, if_true, if_false, Bool.false_eq_true, reduceIte, Nat.reduceEqDiff, Nat.reduceAdd, List.length_cons, List.length_nil, Nat.reduceLT, Nat.add_zero, Nat.zero_add, h1, h2, h3, h21, h22, h23, s1, s2, s3, hz1, hzm, hzv, i_minL, b_cat (ah := a) (ys := [.int (vl - mn mo (near (o * l) p))]) hr hal2]
        · simp only [upd_, Nat.reduceEqDiff, if_false]; exact h21
        · simp only [upd_, Nat.reduceEqDiff, if_false]; exact h22
        · simp only [upd_, Nat.reduceEqDiff, if_false]; exact h23
        · rw [List.map_append]; exact get_last
        · have := get_lt hr; omega
        · exact hkp.trans (Keep.app _ _)
        · rw [List.append_assoc]; exact h6
      · rw [if_neg ho] at h6
        have ho' : own zs[k] = 0 := by simpa using ho
        refine ⟨_, _, upd (upd ρ 11 (.int k)) 26 (.int 0), a.set r (acc.map .int ++ [.int zs[k].2.2]), hsrc, rfl, fun n hn => ?_,
          acc ++ [zs[k].2.2], p, l, r, h1, h2, h3, h21, h22, h23, ?_, hrl, hkp.set hrl, by omega, hl0, hl1, ?_⟩
        · obtain ⟨m, rfl⟩ : ∃ m, n = m + 50 := ⟨n - 50, by omega⟩
          have z0 : ((0 : Int) != 0) = false := rfl
          by_cases hmz : (zs[k].2.1 != 0) = true
          · have hoz : zs[k].1 = 0 := by rw [← ho']; unfold own; rw [if_pos hmz]
            simp only [ae_none, ae_bool, ae_int, ae_var, ae_bin, ae_neg, ae_cmp, ae_bo, ae_ife, ae_call, ae_bi, ae_edge, ae_attr, ae_meth, ae_sub, ae_slice, ae_lstT, ae_lstF, ae_tup, ae_compT, ae_compF, ae_sumg, aes_nil, aes_cons, ait_e, ait_range, ait_zip, ait_ezip, att_nt, att_bo, att_var, att_cmp, att_sub, att_bin, att_comp, ax_asg, ax_asub, ax_aug, ax_appm, ax_app, ax_ite, ax_whl, ax_for, ax_brk, ax_cont, ax_ret, ax_asrt, ax_doc, axs_nil, axs_cons, upd_, bindT_var, bindT_2, bindT_3, items_lst, items_ref, tr_none, tr_bool, tr_int, tr_lst, tr_ref, b_add, b_sub, b_and, c_is, c_isnot, c_lt, c_le, c_gt, c_ge, c_eq, c_ne, nn_none, nn_int, nn_lst, nn_ref, Option.bind_some, Option.map_some, if_true, if_false, Bool.false_eq_true, reduceIte, Nat.reduceEqDiff, Nat.reduceAdd, List.length_cons, List.length_nil, Nat.reduceLT, Nat.add_zero, Nat.zero_add, h1, h2, h3, h21, h22, h23, s1, s2, s3, hmz, hoz, z0, hr, hal]
          · have hmz' : (zs[k].2.1 != 0) = false := by simpa using hmz
            simp only [ae_none, ae_bool, ae_int, ae_var, ae_bin, ae_neg, ae_cmp, ae_bo, ae_ife, ae_call, ae_bi, ae_edge, ae_attr, ae_meth, ae_sub, ae_slice, ae_lstT, ae_lstF, ae_tup, ae_compT, ae_compF, ae_sumg, aes_nil, aes_cons, ait_e, ait_range, ait_zip, ait_ezip, att_nt, att_bo, att_var, att_cmp, att_sub, att_bin, att_comp, ax_asg, ax_asub, ax_aug, ax_appm, ax_app, ax_ite, ax_whl, ax_for, ax_brk, ax_cont, ax_ret, ax_asrt, ax_doc, axs_nil, axs_cons, upd_, bindT_var, bindT_2, bindT_3, items_lst, items_ref, tr_none, tr_bool, tr_int, tr_lst, tr_ref, b_add, b_sub, b_and, c_is, c_isnot, c_lt, c_le, c_gt, c_ge, c_eq, c_ne, nn_none, nn_int, nn_lst, nn_ref, Option.bind_some, Option.map_some, if_true, if_false, Bool.false_eq_true, reduceIte, Nat.reduceEqDiff, Nat.reduceAdd, List.length_cons, List.length_nil, Nat.reduceLT, Nat.add_zero, Nat.zero_add, h1, h2, h3, h21, h22, h23, s1, s2, s3, hmz', z0, hr, hal]
        · rw [List.getElem?_set_self (get_lt hr), List.map_append]; rfl
        · rw [List.append_assoc]; exact h6)
    (fun ρ a h => by rw [src_R, if_neg (by omega)])
    zs.length 0 ρ (ah ++ [[]]) (by omega) ⟨[], osum zs, total, ah.length, h15, h24, h25, h21, h22, h23, get_last, Nat.le_refl _, Keep.app _ _, rfl, ht, ht2, rfl⟩
  rw [List.drop_length] at h6
  simp only [red, List.append_nil] at h6
  subst h6
  refine ⟨ρ', r, a', h3, hr, hkp, fun n hn => ?_⟩
  obtain ⟨m, rfl⟩ : ∃ m, n = m + 10 := ⟨n - 10, by omega⟩
  have hlen : abi .len (ah ++ [[]]) [.lst (zs.map fun z => .int z.1)] = some (.int zs.length) := by rw [i_len items_lst (by rw [List.length_map]; omega), List.length_map]
  have hrg : (0 : Int) ≤ zs.length ∧ (zs.length : Int) < 1000 := by omega
  simp only [st_law_taken_2, ae_none, ae_bool, ae_int, ae_var, ae_bin, ae_neg, ae_cmp, ae_bo, ae_ife, ae_call, ae_bi, ae_edge, ae_attr, ae_meth, ae_sub, ae_slice, ae_lstT, ae_lstF, ae_tup, ae_compT, ae_compF, ae_sumg, aes_nil, aes_cons, ait_e, ait_range, ait_zip, ait_ezip, att_nt, att_bo, att_var, att_cmp, att_sub, att_bin, att_comp, ax_asg, ax_asub, ax_aug, ax_appm, ax_app, ax_ite, ax_whl, ax_for, ax_brk, ax_cont, ax_ret, ax_asrt, ax_doc, axs_nil, axs_cons, upd_, bindT_var, bindT_2, bindT_3, items_lst, items_ref, tr_none, tr_bool, tr_int, tr_lst, tr_ref, b_add, b_sub, b_and, c_is, c_isnot, c_lt, c_le, c_gt, c_ge, c_eq, c_ne, nn_none, nn_int, nn_lst, nn_ref, Option.bind_some, Option.map_some, if_true, if_false, Bool.false_eq_true, reduceIte, Nat.reduceEqDiff, Nat.reduceAdd, List.length_cons, List.length_nil, Nat.reduceLT, Nat.add_zero, Nat.zero_add, ‹ρ 21 = _›, hlen, hrg, and_self, Int.toNat_natCast]
  exact h7 _ (by omega)
end Mine

end

section
open PySem
set_option autoImplicit false
set_option linter.unusedSimpArgs false
set_option linter.unusedVariables false
set_option maxRecDepth 100000
namespace Mine

theorem taken_ok {ah : AH} {zs : List T3} {total : Int} (hz : Ok3 zs) (hl : zs.length ≤ 5) (ht : 0 ≤ total) (ht2 : total < 20) :
    ∃ v ah', (∀ n, 150 ≤ n → acall fns n 4 [.int total, .lst (zs.map fun z => .int z.1), .lst (zs.map fun z => .int z.2.1), .lst (zs.map fun z => .int z.2.2)] ah = some (v, ah')) ∧ items ah' v = some ((redOut zs total).map .int) ∧ Keep ah ah' := by
  have hlen : ∀ a : AH, abi .len a [.lst (zs.map fun z => .int z.1)] = some (.int zs.length) := fun a => by rw [i_len items_lst (by rw [List.length_map]; omega), List.length_map]
  have hrg : (0 : Int) ≤ zs.length ∧ (zs.length : Int) < 1000 := by omega
  obtain ⟨acc', ah', ⟨rfl, rfl⟩, h2⟩ := acomp_run (F := fns) (elt := .ife (.sub (.var 22) (.var 11)) (.sub (.var 21) (.var 11)) (.int 0)) (tg := .var 11) (ρ := capt (upd (upd (upd (upd (fun _ => none) 5 (.int total)) 21 (.lst (zs.map fun z => .int z.1))) 22 (.lst (zs.map fun z => .int z.2.1))) 23 (.lst (zs.map fun z => .int z.2.2))) [22, 21]) (src := .R zs.length)
    (fun k acc a => acc = (zs.take k).map (fun z => .int (own z)) ∧ a = ah) zs.length 10
    (fun k acc a hk h => by
      obtain ⟨rfl, rfl⟩ := h
      have s1 := sub_at (ah := a) (f := fun z : T3 => AV.int z.1) hk (by omega)
      have s2 := sub_at (ah := a) (f := fun z : T3 => AV.int z.2.1) hk (by omega)
      have c1 : ∀ ρ : AE, capt ρ [22, 21] 22 = ρ 22 := fun _ => rfl
      have c2 : ∀ ρ : AE, capt ρ [22, 21] 21 = ρ 21 := fun _ => rfl
      refine ⟨by simp only [List.length_map, List.length_take]; omega, .int k, _, .int (own zs[k]), a, by rw [src_R, if_pos hk], rfl, fun n hn => ?_, ?_, rfl⟩
      · obtain ⟨m, rfl⟩ : ∃ m, n = m + 10 := ⟨n - 10, by omega⟩
        by_cases hc : (zs[k].2.1 != 0) = true
        · simp only [ae_none, ae_bool, ae_int, ae_var, ae_bin, ae_neg, ae_cmp, ae_bo, ae_ife, ae_call, ae_bi, ae_edge, ae_attr, ae_meth, ae_sub, ae_slice, ae_lstT, ae_lstF, ae_tup, ae_compT, ae_compF, ae_sumg, aes_nil, aes_cons, ait_e, ait_range, ait_zip, ait_ezip, att_nt, att_bo, att_var, att_cmp, att_sub, att_bin, att_comp, ax_asg, ax_asub, ax_aug, ax_appm, ax_app, ax_ite, ax_whl, ax_for, ax_brk, ax_cont, ax_ret, ax_asrt, ax_doc, axs_nil, axs_cons, upd_, bindT_var, bindT_2, bindT_3, items_lst, items_ref, tr_none, tr_bool, tr_int, tr_lst, tr_ref, b_add, b_sub, b_and, c_is, c_isnot, c_lt, c_le, c_gt, c_ge, c_eq, c_ne, nn_none, nn_int, nn_lst, nn_ref, Option.bind_some, Option.map_some, if_true, if_false, Bool.false_eq_true, reduceIte, Nat.reduceEqDiff, Nat.reduceAdd, List.length_cons, List.length_nil, Nat.reduceLT, Nat.add_zero, Nat.zero_add, c1, c2, s1, s2, hc, own]
        · simp only [ae_none, ae_bool, ae_int, ae_var, ae_bin, ae_neg, ae_cmp, ae_bo, ae_ife, ae_call, ae_bi, ae_edge, ae_attr, ae_meth, ae_sub, ae_slice, ae_lstT, ae_lstF, ae_tup, ae_compT, ae_compF, ae_sumg, aes_nil, aes_cons, ait_e, ait_range, ait_zip, ait_ezip, att_nt, att_bo, att_var, att_cmp, att_sub, att_bin, att_comp, ax_asg, ax_asub, ax_aug, ax_appm, ax_app, ax_ite, ax_whl, ax_for, ax_brk, ax_cont, ax_ret, ax_asrt, ax_doc, axs_nil, axs_cons, upd_, bindT_var, bindT_2, bindT_3, items_lst, items_ref, tr_none, tr_bool, tr_int, tr_lst, tr_ref, b_add, b_sub, b_and, c_is, c_isnot, c_lt, c_le, c_gt, c_ge, c_eq, c_ne, nn_none, nn_int, nn_lst, nn_ref, Option.bind_some, Option.map_some, if_true, if_false, Bool.false_eq_true, reduceIte, Nat.reduceEqDiff, Nat.reduceAdd, List.length_cons, List.length_nil, Nat.reduceLT, Nat.add_zero, Nat.zero_add, c1, c2, s1, s2, hc, own]
      · simp only [List.take_succ, List.getElem?_eq_getElem hk, Option.toList, List.map_append, List.map_cons, List.map_nil])
    (fun acc a h => by rw [src_R, if_neg (by omega)])
    zs.length 0 [] ah (by omega) ⟨rfl, rfl⟩
  rw [List.take_length] at h2
  have hsum := fun a : AH => sum_own (ah := a) hz hl
  have hal : (zs.map fun z => AV.int z.2.2).length < 1000 := by rw [List.length_map]; omega
  by_cases h0 : osum zs = 0
  · have e0 : (osum zs == 0) = true := by simpa using h0
    refine ⟨.lst (zs.map fun z => .int z.2.2), ah' ++ [[]], fun n hn => ?_, by rw [items_lst, redOut, if_pos h0, List.map_map]; rfl, Keep.app _ _⟩
    obtain ⟨m, rfl⟩ : ∃ m, n = m + 150 := ⟨n - 150, by omega⟩
    rw [acall_]
    simp only [fns, bd_law_taken, st_law_taken_0, st_law_taken_1, st_law_taken_3, List.drop_nil, List.append_nil, List.zip_cons_cons, List.zip_nil_right, List.foldl_cons, List.foldl_nil, Nat.sub_self, ae_none, ae_bool, ae_int, ae_var, ae_bin, ae_neg, ae_cmp, ae_bo, ae_ife, ae_call, ae_bi, ae_edge, ae_attr, ae_meth, ae_sub, ae_slice, ae_lstT, ae_lstF, ae_tup, ae_compT, ae_compF, ae_sumg, aes_nil, aes_cons, ait_e, ait_range, ait_zip, ait_ezip, att_nt, att_bo, att_var, att_cmp, att_sub, att_bin, att_comp, ax_asg, ax_asub, ax_aug, ax_appm, ax_app, ax_ite, ax_whl, ax_for, ax_brk, ax_cont, ax_ret, ax_asrt, ax_doc, axs_nil, axs_cons, upd_, bindT_var, bindT_2, bindT_3, items_lst, items_ref, tr_none, tr_bool, tr_int, tr_lst, tr_ref, b_add, b_sub, b_and, c_is, c_isnot, c_lt, c_le, c_gt, c_ge, c_eq, c_ne, nn_none, nn_int, nn_lst, nn_ref, Option.bind_some, Option.map_some, if_true, if_false, Bool.false_eq_true, reduceIte, Nat.reduceEqDiff, Nat.reduceAdd, List.length_cons, List.length_nil, Nat.reduceLT, Nat.add_zero, Nat.zero_add, hlen, hrg, and_self, Int.toNat_natCast]
    rw [h2 _ (by omega)]
    simp only [ae_none, ae_bool, ae_int, ae_var, ae_bin, ae_neg, ae_cmp, ae_bo, ae_ife, ae_call, ae_bi, ae_edge, ae_attr, ae_meth, ae_sub, ae_slice, ae_lstT, ae_lstF, ae_tup, ae_compT, ae_compF, ae_sumg, aes_nil, aes_cons, ait_e, ait_range, ait_zip, ait_ezip, att_nt, att_bo, att_var, att_cmp, att_sub, att_bin, att_comp, ax_asg, ax_asub, ax_aug, ax_appm, ax_app, ax_ite, ax_whl, ax_for, ax_brk, ax_cont, ax_ret, ax_asrt, ax_doc, axs_nil, axs_cons, upd_, bindT_var, bindT_2, bindT_3, items_lst, items_ref, tr_none, tr_bool, tr_int, tr_lst, tr_ref, b_add, b_sub, b_and, c_is, c_isnot, c_lt, c_le, c_gt, c_ge, c_eq, c_ne, nn_none, nn_int, nn_lst, nn_ref, Option.bind_some, Option.map_some, if_true, if_false, Bool.false_eq_true, reduceIte, Nat.reduceEqDiff, Nat.reduceAdd, List.length_cons, List.length_nil, Nat.reduceLT, Nat.add_zero, Nat.zero_add, hsum, e0, i_list hal]
  · have e0 : (osum zs == 0) = false := by simpa using h0
    obtain ⟨ρ', r, a', h3, h4, h5, h6⟩ := taken_loop (ah := ah') (zs := zs) (total := total) (ρ := upd (upd (upd (upd (upd (upd (upd (fun _ => none) 5 (.int total)) 21 (.lst (zs.map fun z => .int z.1))) 22 (.lst (zs.map fun z => .int z.2.1))) 23 (.lst (zs.map fun z => .int z.2.2))) 24 (.int total)) 15 (.int (osum zs))) 25 (.ref ah'.length)) hz hl ht ht2 rfl rfl rfl rfl rfl rfl
    refine ⟨.ref r, a', fun n hn => ?_, by rw [items_ref, h4, redOut, if_neg h0], h5⟩
    obtain ⟨m, rfl⟩ : ∃ m, n = m + 150 := ⟨n - 150, by omega⟩
    rw [acall_]
    simp only [fns, bd_law_taken, st_law_taken_0, st_law_taken_1, st_law_taken_3, List.drop_nil, List.append_nil, List.zip_cons_cons, List.zip_nil_right, List.foldl_cons, List.foldl_nil, Nat.sub_self, ae_none, ae_bool, ae_int, ae_var, ae_bin, ae_neg, ae_cmp, ae_bo, ae_ife, ae_call, ae_bi, ae_edge, ae_attr, ae_meth, ae_sub, ae_slice, ae_lstT, ae_lstF, ae_tup, ae_compT, ae_compF, ae_sumg, aes_nil, aes_cons, ait_e, ait_range, ait_zip, ait_ezip, att_nt, att_bo, att_var, att_cmp, att_sub, att_bin, att_comp, ax_asg, ax_asub, ax_aug, ax_appm, ax_app, ax_ite, ax_whl, ax_for, ax_brk, ax_cont, ax_ret, ax_asrt, ax_doc, axs_nil, axs_cons, upd_, bindT_var, bindT_2, bindT_3, items_lst, items_ref, tr_none, tr_bool, tr_int, tr_lst, tr_ref, b_add, b_sub, b_and, c_is, c_isnot, c_lt, c_le, c_gt, c_ge, c_eq, c_ne, nn_none, nn_int, nn_lst, nn_ref, Option.bind_some, Option.map_some, if_true, if_false, Bool.false_eq_true, reduceIte, Nat.reduceEqDiff, Nat.reduceAdd, List.length_cons, List.length_nil, Nat.reduceLT, Nat.add_zero, Nat.zero_add, hlen, hrg, and_self, Int.toNat_natCast]
    rw [h2 _ (by omega)]
    simp only [ae_none, ae_bool, ae_int, ae_var, ae_bin, ae_neg, ae_cmp, ae_bo, ae_ife, ae_call, ae_bi, ae_edge, ae_attr, ae_meth, ae_sub, ae_slice, ae_lstT, ae_lstF, ae_tup, ae_compT, ae_compF, ae_sumg, aes_nil, aes_cons, ait_e, ait_range, ait_zip, ait_ezip, att_nt, att_bo, att_var, att_cmp, att_sub, att_bin, att_comp, ax_asg, ax_asub, ax_aug, ax_appm, ax_app, ax_ite, ax_whl, ax_for, ax_brk, ax_cont, ax_ret, ax_asrt, ax_doc, axs_nil, axs_cons, upd_, bindT_var, bindT_2, bindT_3, items_lst, items_ref, tr_none, tr_bool, tr_int, tr_lst, tr_ref, b_add, b_sub, b_and, c_is, c_isnot, c_lt, c_le, c_gt, c_ge, c_eq, c_ne, nn_none, nn_int, nn_lst, nn_ref, Option.bind_some, Option.map_some, if_true, if_false, Bool.false_eq_true, reduceIte, Nat.reduceEqDiff, Nat.reduceAdd, List.length_cons, List.length_nil, Nat.reduceLT, Nat.add_zero, Nat.zero_add, hsum, e0]
    rw [h6 _ (by omega)]
    simp only [ae_none, ae_bool, ae_int, ae_var, ae_bin, ae_neg, ae_cmp, ae_bo, ae_ife, ae_call, ae_bi, ae_edge, ae_attr, ae_meth, ae_sub, ae_slice, ae_lstT, ae_lstF, ae_tup, ae_compT, ae_compF, ae_sumg, aes_nil, aes_cons, ait_e, ait_range, ait_zip, ait_ezip, att_nt, att_bo, att_var, att_cmp, att_sub, att_bin, att_comp, ax_asg, ax_asub, ax_aug, ax_appm, ax_app, ax_ite, ax_whl, ax_for, ax_brk, ax_cont, ax_ret, ax_asrt, ax_doc, axs_nil, axs_cons, upd_, bindT_var, bindT_2, bindT_3, items_lst, items_ref, tr_none, tr_bool, tr_int, tr_lst, tr_ref, b_add, b_sub, b_and, c_is, c_isnot, c_lt, c_le, c_gt, c_ge, c_eq, c_ne, nn_none, nn_int, nn_lst, nn_ref, Option.bind_some, Option.map_some, if_true, if_false, Bool.false_eq_true, reduceIte, Nat.reduceEqDiff, Nat.reduceAdd, List.length_cons, List.length_nil, Nat.reduceLT, Nat.add_zero, Nat.zero_add, h3]
end Mine

end

section
open PySem
set_option autoImplicit false
set_option linter.unusedSimpArgs false
set_option linter.unusedVariables false
set_option maxRecDepth 100000
namespace Mine

abbrev E3 := Option Int × Int × Int
def ov : Option Int → AV
  | none => .none
  | some i => .int i
def isN (ss : List (Option Int)) (k : Nat) : Bool := match ss[k]? with
  | some none => true
  | _ => false
def flexTo (ss : List (Option Int)) (k : Nat) : List Nat := (List.range k).filter (isN ss)
abbrev flex (ss : List (Option Int)) : List Nat := flexTo ss ss.length
def rat (es : List E3) (k : Nat) : Int := (es[k]?.map (·.2.1)).getD 0
def lea (es : List E3) (k : Nat) : Int := (es[k]?.map (·.2.2)).getD 0
def rem (t : Int) (ss : List (Option Int)) : Int := t - (ss.map (·.getD 0)).sum
def parts (es : List E3) (ss : List (Option Int)) : Int := ((flex ss).map (rat es)).sum
def sh (es : List E3) (rm p : Int) (k : Nat) : Bool := decide (rm * rat es k ≤ lea es k * p)
def piece (rm p s r : Int) : Int := (rm * (s + r)).fdiv p - (rm * s).fdiv p
def fillL (es : List E3) (rm p : Int) : List Nat → Int → List (Option Int) → List (Option Int)
  | [], _, ss => ss
  | k :: r, s, ss => fillL es rm p r (s + rat es k) (ss.set k (some (piece rm p s (rat es k))))
def spec : Nat → Int → List E3 → List (Option Int) → List Int
  | 0, _, _, _ => []
  | n + 1, t, es, ss => if ss.any Option.isNone = false then ss.map (·.getD 0)
    else if rem t ss ≤ 0 then (ss.zip es).map fun p => p.1.getD p.2.2.2
    else match (flex ss).find? (sh es (rem t ss) (parts es ss)) with
      | some i => spec n t es (ss.set i (some (lea es i)))
      | none => (fillL es (rem t ss) (parts es ss) (flex ss) 0 ss).map (·.getD 0)

def OkE (es : List E3) : Prop := ∀ e ∈ es, 1 ≤ e.2.1 ∧ e.2.1 ≤ 4 ∧ 1 ≤ e.2.2 ∧ e.2.2 ≤ 6
def OkS (ss : List (Option Int)) : Prop := ∀ s ∈ ss, ∀ v, s = some v → 1 ≤ v ∧ v ≤ 20

theorem rat_at {es : List E3} {k : Nat} (hk : k < es.length) : rat es k = es[k].2.1 := by simp [rat, hk]
theorem lea_at {es : List E3} {k : Nat} (hk : k < es.length) : lea es k = es[k].2.2 := by simp [lea, hk]
theorem rat_bd {es : List E3} {k : Nat} (h : OkE es) (hk : k < es.length) : 1 ≤ rat es k ∧ rat es k ≤ 4 ∧ 1 ≤ lea es k ∧ lea es k ≤ 6 := by
  rw [rat_at hk, lea_at hk]; exact h _ (List.getElem_mem hk)
theorem isN_iff {ss : List (Option Int)} {k : Nat} : isN ss k = true ↔ ss[k]? = some none := by
  unfold isN
  cases ss[k]? with
  | none => simp
  | some x => cases x <;> simp
theorem mem_flexTo {ss : List (Option Int)} {k j : Nat} : k ∈ flexTo ss j ↔ k < j ∧ ss[k]? = some none := by
  simp [flexTo, isN_iff]
theorem flexTo_succ (ss : List (Option Int)) (k : Nat) : flexTo ss (k + 1) = flexTo ss k ++ (if isN ss k = true then [k] else []) := by
  rw [flexTo, List.range_succ, List.filter_append]
  by_cases h : isN ss k = true
  · rw [if_pos h, List.filter_cons_of_pos h]; rfl
  · rw [if_neg h, List.filter_cons_of_neg h]; rfl
theorem flexTo_len (ss : List (Option Int)) (k : Nat) : (flexTo ss k).length ≤ k := by
  have := List.length_filter_le (isN ss) (List.range k)
  rw [List.length_range] at this; exact this
theorem flex_nodup (ss : List (Option Int)) (k : Nat) : (flexTo ss k).Nodup := List.Nodup.sublist List.filter_sublist List.nodup_range
theorem sums_bd {l : List Nat} {f : Nat → Int} (h : ∀ k ∈ l, 1 ≤ f k ∧ f k ≤ 4) : (l.length : Int) ≤ (l.map f).sum ∧ (l.map f).sum ≤ 4 * l.length := by
  induction l with
  | nil => simp
  | cons z r ih =>
    have := ih fun y hy => h y (.tail _ hy)
    have hz := h z (.head _)
    simp only [List.map_cons, List.sum_cons, List.length_cons] at *
    omega
theorem any_flex {ss : List (Option Int)} (h : ss.any Option.isNone = true) : 1 ≤ (flex ss).length := by
  obtain ⟨s, h1, h2⟩ := List.any_eq_true.mp h
  obtain ⟨k, hk, e⟩ := List.mem_iff_getElem.mp h1
  have : k ∈ flex ss := mem_flexTo.mpr ⟨hk, by rw [List.getElem?_eq_getElem hk, e]; cases s <;> simp_all⟩
  exact List.length_pos_of_mem this
theorem parts_bd {es : List E3} {ss : List (Option Int)} (he : OkE es) (hl : ss.length = es.length) (h5 : es.length ≤ 5) (h : ss.any Option.isNone = true) : 0 < parts es ss ∧ parts es ss < 100 := by
  have a := sums_bd (l := flex ss) (f := rat es) fun k hk => by
    have := (mem_flexTo.mp hk).1
    have := rat_bd he (by omega : k < es.length)
    omega
  have b := any_flex h
  have c : (flex ss).length ≤ ss.length := flexTo_len ss ss.length
  unfold parts
  omega
theorem rem_bd {t : Int} {ss : List (Option Int)} (h : OkS ss) : rem t ss ≤ t ∧ t - 20 * ss.length ≤ rem t ss := by
  have : 0 ≤ (ss.map (·.getD 0)).sum ∧ (ss.map (·.getD 0)).sum ≤ 20 * ss.length := by
    induction ss with
    | nil => simp
    | cons s r ih =>
      have a := ih fun x hx => h x (.tail _ hx)
      have b := h s (.head _)
      cases s with
      | none => simp only [List.map_cons, List.sum_cons, List.length_cons, Option.getD_none] at *; omega
      | some v =>
        have b := b v rfl
        simp only [List.map_cons, List.sum_cons, List.length_cons, Option.getD_some] at *; omega
  unfold rem
  omega
theorem count_set {ss : List (Option Int)} {i : Nat} {v : Int} (h : ss[i]? = some none) : (ss.set i (some v)).countP Option.isNone + 1 = ss.countP Option.isNone := by
  induction ss generalizing i with
  | nil => simp at h
  | cons s r ih =>
    cases i with
    | zero => simp at h; subst h; simp
    | succ i =>
      have := ih (i := i) (by simpa using h)
      rw [List.set_cons_succ, List.countP_cons, List.countP_cons]; omega
theorem okS_set {ss : List (Option Int)} {i : Nat} {v : Int} (h : OkS ss) (hv : 1 ≤ v ∧ v ≤ 20) : OkS (ss.set i (some v)) := fun s hs w e => by
  rcases List.mem_or_eq_of_mem_set hs with q | q
  · exact h s q w e
  · rw [e] at q; cases q; exact hv
theorem map_set_ov {ss : List (Option Int)} {i : Nat} {v : Int} : (ss.map ov).set i (.int v) = (ss.set i (some v)).map ov := by rw [List.map_set]; rfl
theorem ints_ov {ss : List (Option Int)} (h : ss.any Option.isNone = false) : ss.map ov = (ss.map (·.getD 0)).map .int := by
  induction ss with
  | nil => rfl
  | cons s r ih =>
    rw [List.any_cons, Bool.or_eq_false_iff] at h
    rw [List.map_cons, List.map_cons, List.map_cons, ih h.2]
    cases s with
    | none => cases h.1
    | some v => rfl
theorem opt_ov (ss : List (Option Int)) : optInts (ss.map ov) = true := by
  induction ss with
  | nil => rfl
  | cons s r ih => cases s <;> exact ih
theorem any_ov (ss : List (Option Int)) : (ss.map ov).any isNone = ss.any Option.isNone := by
  induction ss with
  | nil => rfl
  | cons s r ih => rw [List.map_cons, List.any_cons, List.any_cons, ih]; cases s <;> rfl
theorem fillL_len (es : List E3) (rm p : Int) : ∀ (l : List Nat) (s : Int) (ss : List (Option Int)), (fillL es rm p l s ss).length = ss.length
  | [], _, _ => rfl
  | k :: r, s, ss => by rw [fillL, fillL_len, List.length_set]
theorem fillL_out {es : List E3} {rm p : Int} : ∀ {l : List Nat} {s : Int} {ss : List (Option Int)} {k : Nat}, k ∉ l → (fillL es rm p l s ss)[k]? = ss[k]?
  | [], _, _, _, _ => rfl
  | j :: r, s, ss, k, h => by
    rw [fillL, fillL_out (fun q => h (.tail _ q)), List.getElem?_set_ne (fun q => h (by rw [q]; exact .head _))]
theorem fillL_in {es : List E3} {rm p : Int} : ∀ {l : List Nat} {s : Int} {ss : List (Option Int)} {k : Nat}, l.Nodup → k ∈ l → k < ss.length → ∃ s', (fillL es rm p l s ss)[k]? = some (some (piece rm p s' (rat es k)))
  | j :: r, s, ss, k, hn, h, hk => by
    rw [fillL]
    by_cases q : k ∈ r
    · exact fillL_in (List.nodup_cons.mp hn).2 q (by rw [List.length_set]; exact hk)
    · have e : k = j := by
        cases h with
        | head => rfl
        | tail _ x => exact absurd x q
      subst e
      exact ⟨s, by rw [fillL_out q, List.getElem?_set_self hk]⟩
theorem fillL_any {es : List E3} {rm p s : Int} {ss : List (Option Int)} : (fillL es rm p (flex ss) s ss).any Option.isNone = false := by
  cases e : (fillL es rm p (flex ss) s ss).any Option.isNone with
  | false => rfl
  | true =>
    obtain ⟨x, h1, h2⟩ := List.any_eq_true.mp e
    obtain ⟨k, hk, ex⟩ := List.mem_iff_getElem.mp h1
    have ex : (fillL es rm p (flex ss) s ss)[k]? = some x := by rw [List.getElem?_eq_getElem hk, ex]
    rw [fillL_len] at hk
    by_cases q : k ∈ flex ss
    · obtain ⟨s', h3⟩ := fillL_in (es := es) (rm := rm) (p := p) (s := s) (flex_nodup ss _) q hk
      rw [h3] at ex; cases ex; cases h2
    · rw [fillL_out q] at ex
      cases x with
      | none => exact absurd (mem_flexTo.mpr ⟨hk, ex⟩) q
      | some v => cases h2

theorem piece_ge {rm p s r l : Int} (hp : 0 < p) (h : ¬ rm * r ≤ l * p) : l ≤ piece rm p s r := by
  unfold piece
  have e : rm * (s + r) = rm * s + rm * r := by rw [Int.mul_add]
  have h1 : (rm * s + l * p).fdiv p = (rm * s).fdiv p + l := Int.add_mul_fdiv_right _ _ (by omega)
  have h2 : (rm * s + l * p).fdiv p ≤ (rm * (s + r)).fdiv p := by
    rw [e, Int.fdiv_eq_ediv_of_nonneg _ (by omega), Int.fdiv_eq_ediv_of_nonneg _ (by omega)]
    exact Int.ediv_le_ediv hp (by omega)
  omega

theorem spec_good : ∀ (n : Nat) (t : Int) (es : List E3) (ss : List (Option Int)), ss.countP Option.isNone < n → OkE es → OkS ss → ss.length = es.length → es.length ≤ 5 →
    (spec n t es ss).length = ss.length ∧ ∀ k, k < ss.length → (∀ v, ss[k]? = some (some v) → (spec n t es ss)[k]? = some v) ∧ (ss[k]? = some none → ∃ v, (spec n t es ss)[k]? = some v ∧ lea es k ≤ v)
  | 0, _, _, _, h, _, _, _, _ => by omega
  | n + 1, t, es, ss, hc, he, hs, hl, h5 => by
    unfold spec
    split
    · rename_i ha
      refine ⟨by simp, fun k hk => ⟨fun v e => by simp [e], fun e => ?_⟩⟩
      have := List.any_eq_false.mp ha none (List.mem_of_getElem? e)
      exact absurd rfl this
    · rename_i ha
      have ha : ss.any Option.isNone = true := by simpa using ha
      split
      · refine ⟨by simp [hl], fun k hk => ?_⟩
        have hk2 : k < es.length := by omega
        have e2 : es[k]? = some es[k] := List.getElem?_eq_getElem hk2
        refine ⟨fun v e => by simp [List.getElem?_zip_eq_some, e, e2, List.zip, List.getElem?_zipWith], fun e => ⟨lea es k, ?_, Int.le_refl _⟩⟩
        rw [lea_at hk2]; simp [e, e2, List.zip, List.getElem?_zipWith]
      · split
        · rename_i i hf
          have hi := List.find?_some hf
          obtain ⟨him, hin⟩ := mem_flexTo.mp (List.mem_of_find?_eq_some hf)
          have hb := rat_bd he (by omega : i < es.length)
          have hcs := count_set (v := lea es i) hin
          obtain ⟨g1, g2⟩ := spec_good n t es (ss.set i (some (lea es i))) (by omega) he (okS_set hs (by omega)) (by rw [List.length_set]; exact hl) h5
          rw [List.length_set] at g1
          refine ⟨g1, fun k hk => ?_⟩
          obtain ⟨g3, g4⟩ := g2 k (by rw [List.length_set]; exact hk)
          by_cases q : i = k
          · subst q
            refine ⟨fun v e => (by rw [hin] at e; cases e), fun _ => ⟨_, g3 _ (List.getElem?_set_self hk), Int.le_refl _⟩⟩
          · rw [List.getElem?_set_ne q] at g3 g4
            exact ⟨g3, g4⟩
        · rename_i hf
          refine ⟨by rw [List.length_map, fillL_len], fun k hk => ⟨fun v e => ?_, fun e => ?_⟩⟩
          · rw [List.getElem?_map, fillL_out (fun q => by rw [(mem_flexTo.mp q).2] at e; cases e), e]; rfl
          · have hm : k ∈ flex ss := mem_flexTo.mpr ⟨hk, e⟩
            obtain ⟨s', h3⟩ := fillL_in (es := es) (rm := rem t ss) (p := parts es ss) (s := 0) (flex_nodup ss _) hm hk
            have hno := List.find?_eq_none.mp hf k hm
            refine ⟨_, by rw [List.getElem?_map, h3]; rfl, ?_⟩
            exact piece_ge (parts_bd he hl h5 ha).1 (by simpa [sh] using hno)
end Mine

end

section
open PySem
set_option autoImplicit false
set_option linter.unusedSimpArgs false
set_option linter.unusedVariables false
set_option maxRecDepth 100000
namespace Mine

def ev (e : E3) : AV := .edge [ov e.1, .int e.2.1, .int e.2.2]
def evk (es : List E3) (k : Nat) : AV := ((es[k]?).map ev).getD .none
def flv (es : List E3) (k : Nat) : AV := .tup [.int k, evk es k]
def FL (es : List E3) (ss : List (Option Int)) : List AV := (flex ss).map (flv es)
theorem evk_at {es : List E3} {k : Nat} (hk : k < es.length) : evk es k = .edge [ov es[k].1, .int (rat es k), .int (lea es k)] := by
  rw [rat_at hk, lea_at hk]; simp [evk, hk, ev]

def r1 : SS := (.asg (.var 29) (.comp (.tup (.cons (.var 28) (.cons (.var 27) .nil))) (.t2 (.var 28) (.t2 (.var 8) (.var 27))) (.ezip (.cons (.var 7) (.cons (.var 6) .nil))) (.some (.cmp .Is (.var 8) .none)) false []))
def r2 : SS := (.asg (.var 30) (.bin .Sub (.var 5) (.sumg none 0 8 (.var 8) (.var 7))))
def r3 : SS := (.ite (.cmp .LtE (.var 30) (.int 0)) (.cons (.ret (.comp (.ife (.cmp .Is (.var 8) .none) (.bo true (.attr 2 (.var 27)) (.int 1)) (.var 8)) (.t2 (.var 8) (.var 27)) (.zip (.cons (.var 7) (.cons (.var 6) .nil))) .none false [])) .nil) .nil)
def r4 : SS := (.asg (.var 15) (.sumg (some 1) 1 27 (.t2 (.var 32) (.var 27)) (.var 29)))
def F1 : SL := (.cons (.ite (.cmp .LtE (.bin .Mult (.var 30) (.attr 1 (.var 27))) (.bin .Mult (.attr 2 (.var 27)) (.var 15))) (.cons (.asub 7 (.var 28) (.attr 2 (.var 27))) (.cons .brk .nil)) .nil) .nil)
def F2 : SL := (.cons (.asg (.t2 (.var 8) (.var 31)) (.bi .divmod (.cons (.bin .Add (.bin .Mult (.var 30) (.attr 1 (.var 27))) (.var 31)) (.cons (.var 15) .nil)))) (.cons (.asub 7 (.var 28) (.var 8)) .nil))
def E1 : SL := (.cons (.asg (.var 31) (.int 0)) (.cons (.for_ (.t2 (.var 28) (.var 27)) (.e (.var 29)) F2 .nil) (.cons .brk .nil)))
def r5 : SS := (.for_ (.t2 (.var 28) (.var 27)) (.e (.var 29)) F1 E1)
def rB : SL := (.cons r1 (.cons r2 (.cons r3 (.cons r4 (.cons r5 .nil)))))
theorem resolve_2 : st_ratio_resolve_2 = .whl (.cmp .In .none (.var 7)) rB := rfl

theorem c_in {ah : AH} {r : Nat} {ss : List (Option Int)} (h : ah[r]? = some (ss.map ov)) (hl : ss.length < 1000) : acmp .In ah .none (.ref r) = some (ss.any Option.isNone) := by
  have hl2 : (ss.map ov).length < 1000 := by rw [List.length_map]; exact hl
  simp only [acmp, items, h, opt_ov, hl2, decide_true, Bool.and_self, if_true, any_ov]
theorem p3_0 {a b c : AV} : pick3 [a, b, c] 0 = some a := rfl
theorem p3_1 {a b c : AV} : pick3 [a, b, c] 1 = some b := rfl
theorem p3_2 {a b c : AV} : pick3 [a, b, c] 2 = some c := rfl

theorem r1_ok {ρ : AE} {ah : AH} {r : Nat} {es : List E3} {ss : List (Option Int)} (h6 : ρ 6 = some (.lst (es.map ev))) (h7 : ρ 7 = some (.ref r)) (hr : ah[r]? = some (ss.map ov)) (hl : ss.length = es.length) (h5 : es.length ≤ 5) :
    ∀ n, 40 ≤ n → ax fns n r1 ρ ah = some (.nx, upd ρ 29 (.lst (FL es ss)), ah) := by
  intro n hn
  obtain ⟨m, rfl⟩ : ∃ m, n = m + 40 := ⟨n - 40, by omega⟩
  have hok : srcOk ah (.EZ (.ref r) (.lst (es.map ev))) = true := ok_EZ (items_ref.trans hr) items_lst (by rw [List.length_map]; omega) (by rw [List.length_map]; omega)
  obtain ⟨acc', ah', ⟨rfl, rfl⟩, h2⟩ := acomp_runF (F := fns) (elt := .tup (.cons (.var 28) (.cons (.var 27) .nil))) (cnd := .cmp .Is (.var 8) .none) (tg := .t2 (.var 28) (.t2 (.var 8) (.var 27))) (ρ := capt ρ []) (src := .EZ (.ref r) (.lst (es.map ev)))
    (fun k acc a => acc = (flexTo ss k).map (flv es) ∧ a = ah) ss.length 12
    (fun k acc a hk h => by
      obtain ⟨rfl, rfl⟩ := h
      have hk2 : k < es.length := by omega
      have hfl := flexTo_len ss k
      have hx : evk es k = ev es[k] := by simp [evk, hk2]
      refine ⟨by rw [List.length_map]; omega, .tup [.int k, .tup [ov ss[k], ev es[k]]], _, Option.isNone ss[k], a, src_EZ (items_ref.trans hr) items_lst (by simp [hk]) (by simp [hk2]), rfl, fun n hn => ?_, fun hb => ⟨.tup [.int k, ev es[k]], a, fun n hn => ?_, ?_, rfl⟩, fun hb => ⟨?_, rfl⟩⟩
      · obtain ⟨m, rfl⟩ : ∃ m, n = m + 12 := ⟨n - 12, by omega⟩
        simp only [ae_none, ae_bool, ae_int, ae_var, ae_bin, ae_neg, ae_cmp, ae_bo, ae_ife, ae_call, ae_bi, ae_edge, ae_attr, ae_meth, ae_sub, ae_slice, ae_lstT, ae_lstF, ae_tup, ae_compT, ae_compF, ae_sumg, aes_nil, aes_cons, ait_e, ait_range, ait_zip, ait_ezip, att_nt, att_bo, att_var, att_cmp, att_sub, att_bin, att_comp, ax_asg, ax_asub, ax_aug, ax_appm, ax_app, ax_ite, ax_whl, ax_for, ax_brk, ax_cont, ax_ret, ax_asrt, ax_doc, axs_nil, axs_cons, upd_, bindT_var, bindT_2, bindT_3, items_lst, items_ref, tr_none, tr_bool, tr_int, tr_lst, tr_ref, b_add, b_sub, b_and, c_is, c_isnot, c_lt, c_le, c_gt, c_ge, c_eq, c_ne, nn_none, nn_int, nn_lst, nn_ref, Option.bind_some, Option.map_some, if_true, if_false, Bool.false_eq_true, reduceIte, Nat.reduceEqDiff, Nat.reduceAdd, List.length_cons, List.length_nil, Nat.reduceLT, Nat.add_zero, Nat.zero_add]
        cases ss[k] <;> rfl
      · obtain ⟨m, rfl⟩ : ∃ m, n = m + 12 := ⟨n - 12, by omega⟩
        simp only [ae_none, ae_bool, ae_int, ae_var, ae_bin, ae_neg, ae_cmp, ae_bo, ae_ife, ae_call, ae_bi, ae_edge, ae_attr, ae_meth, ae_sub, ae_slice, ae_lstT, ae_lstF, ae_tup, ae_compT, ae_compF, ae_sumg, aes_nil, aes_cons, ait_e, ait_range, ait_zip, ait_ezip, att_nt, att_bo, att_var, att_cmp, att_sub, att_bin, att_comp, ax_asg, ax_asub, ax_aug, ax_appm, ax_app, ax_ite, ax_whl, ax_for, ax_brk, ax_cont, ax_ret, ax_asrt, ax_doc, axs_nil, axs_cons, upd_, bindT_var, bindT_2, bindT_3, items_lst, items_ref, tr_none, tr_bool, tr_int, tr_lst, tr_ref, b_add, b_sub, b_and, c_is, c_isnot, c_lt, c_le, c_gt, c_ge, c_eq, c_ne, nn_none, nn_int, nn_lst, nn_ref, Option.bind_some, Option.map_some, if_true, if_false, Bool.false_eq_true, reduceIte, Nat.reduceEqDiff, Nat.reduceAdd, List.length_cons, List.length_nil, Nat.reduceLT, Nat.add_zero, Nat.zero_add]
      · have : isN ss k = true := isN_iff.mpr (by rw [List.getElem?_eq_getElem hk]; cases e : ss[k] <;> simp_all)
        rw [flexTo_succ, if_pos this, List.map_append, ← hx]; rfl
      · have : ¬ isN ss k = true := fun q => by
          have := isN_iff.mp q
          rw [List.getElem?_eq_getElem hk] at this
          rw [Option.some.inj this] at hb; cases hb
        rw [flexTo_succ, if_neg this, List.append_nil])
    (fun acc a h => by obtain ⟨rfl, rfl⟩ := h; exact src_EZn (items_ref.trans hr) (by simp))
    ss.length 0 [] ah (by omega) ⟨rfl, rfl⟩
  simp only [r1, ae_none, ae_bool, ae_int, ae_var, ae_bin, ae_neg, ae_cmp, ae_bo, ae_ife, ae_call, ae_bi, ae_edge, ae_attr, ae_meth, ae_sub, ae_slice, ae_lstT, ae_lstF, ae_tup, ae_compT, ae_compF, ae_sumg, aes_nil, aes_cons, ait_e, ait_range, ait_zip, ait_ezip, att_nt, att_bo, att_var, att_cmp, att_sub, att_bin, att_comp, ax_asg, ax_asub, ax_aug, ax_appm, ax_app, ax_ite, ax_whl, ax_for, ax_brk, ax_cont, ax_ret, ax_asrt, ax_doc, axs_nil, axs_cons, upd_, bindT_var, bindT_2, bindT_3, items_lst, items_ref, tr_none, tr_bool, tr_int, tr_lst, tr_ref, b_add, b_sub, b_and, c_is, c_isnot, c_lt, c_le, c_gt, c_ge, c_eq, c_ne, nn_none, nn_int, nn_lst, nn_ref, Option.bind_some, Option.map_some, if_true, if_false, Bool.false_eq_true, reduceIte, Nat.reduceEqDiff, Nat.reduceAdd, List.length_cons, List.length_nil, Nat.reduceLT, Nat.add_zero, Nat.zero_add, h6, h7, hok]
  rw [h2 _ (by omega)]
  simp only [ae_none, ae_bool, ae_int, ae_var, ae_bin, ae_neg, ae_cmp, ae_bo, ae_ife, ae_call, ae_bi, ae_edge, ae_attr, ae_meth, ae_sub, ae_slice, ae_lstT, ae_lstF, ae_tup, ae_compT, ae_compF, ae_sumg, aes_nil, aes_cons, ait_e, ait_range, ait_zip, ait_ezip, att_nt, att_bo, att_var, att_cmp, att_sub, att_bin, att_comp, ax_asg, ax_asub, ax_aug, ax_appm, ax_app, ax_ite, ax_whl, ax_for, ax_brk, ax_cont, ax_ret, ax_asrt, ax_doc, axs_nil, axs_cons, upd_, bindT_var, bindT_2, bindT_3, items_lst, items_ref, tr_none, tr_bool, tr_int, tr_lst, tr_ref, b_add, b_sub, b_and, c_is, c_isnot, c_lt, c_le, c_gt, c_ge, c_eq, c_ne, nn_none, nn_int, nn_lst, nn_ref, Option.bind_some, Option.map_some, if_true, if_false, Bool.false_eq_true, reduceIte, Nat.reduceEqDiff, Nat.reduceAdd, List.length_cons, List.length_nil, Nat.reduceLT, Nat.add_zero, Nat.zero_add]
  rfl

theorem asum1_none {s : Option Int} : asum1 none 0 8 (.var 8) (ov s) = some (s.getD 0) := by
  cases s with
  | none => rfl
  | some i =>
    simp only [asum1, bindT, ov, Option.bind_some, upd_, if_true, Option.getD_some]
    split <;> simp_all
theorem asum_ov (ss : List (Option Int)) : asum none 0 8 (.var 8) (ss.map ov) = some (ss.map (·.getD 0)) := by
  induction ss with
  | nil => rfl
  | cons s r ih => rw [List.map_cons, asum, asum1_none, ih]; rfl
theorem small_getD {ss : List (Option Int)} (hs : OkS ss) : (ss.map (·.getD 0)).all (fun i => small30 i) = true := by
  rw [List.all_eq_true]
  intro i hi
  obtain ⟨s, h1, rfl⟩ := List.mem_map.mp hi
  cases s with
  | none => decide
  | some v => have := hs _ h1 v rfl; exact small30_of (by simp; omega) (by simp; omega)
theorem r2_ok {ρ : AE} {ah : AH} {r : Nat} {t : Int} {ss : List (Option Int)} (h5 : ρ 5 = some (.int t)) (h7 : ρ 7 = some (.ref r)) (hr : ah[r]? = some (ss.map ov)) (hl : ss.length ≤ 5) (hs : OkS ss) :
    ∀ n, 20 ≤ n → ax fns n r2 ρ ah = some (.nx, upd ρ 30 (.int (rem t ss)), ah) := by
  intro n hn
  obtain ⟨m, rfl⟩ : ∃ m, n = m + 20 := ⟨n - 20, by omega⟩
  have hc : (ss.map (·.getD 0)).length < 1000 ∧ (ss.map (·.getD 0)).all (fun i => small30 i) = true := ⟨by rw [List.length_map]; omega, small_getD hs⟩
  simp only [r2, ae_none, ae_bool, ae_int, ae_var, ae_bin, ae_neg, ae_cmp, ae_bo, ae_ife, ae_call, ae_bi, ae_edge, ae_attr, ae_meth, ae_sub, ae_slice, ae_lstT, ae_lstF, ae_tup, ae_compT, ae_compF, ae_sumg, aes_nil, aes_cons, ait_e, ait_range, ait_zip, ait_ezip, att_nt, att_bo, att_var, att_cmp, att_sub, att_bin, att_comp, ax_asg, ax_asub, ax_aug, ax_appm, ax_app, ax_ite, ax_whl, ax_for, ax_brk, ax_cont, ax_ret, ax_asrt, ax_doc, axs_nil, axs_cons, upd_, bindT_var, bindT_2, bindT_3, items_lst, items_ref, tr_none, tr_bool, tr_int, tr_lst, tr_ref, b_add, b_sub, b_and, c_is, c_isnot, c_lt, c_le, c_gt, c_ge, c_eq, c_ne, nn_none, nn_int, nn_lst, nn_ref, Option.bind_some, Option.map_some, if_true, if_false, Bool.false_eq_true, reduceIte, Nat.reduceEqDiff, Nat.reduceAdd, List.length_cons, List.length_nil, Nat.reduceLT, Nat.add_zero, Nat.zero_add, h5, h7, hr, asum_ov, hc, and_self, rem]
theorem asum1_fl {es : List E3} {k : Nat} (hk : k < es.length) (h : 1 ≤ rat es k) : asum1 (some 1) 1 27 (.t2 (.var 32) (.var 27)) (flv es k) = some (rat es k) := by
  rw [flv, evk_at hk]
  simp only [asum1, bindT, Option.bind_some, upd_, if_true, p3_1]
  rw [if_neg (by omega)]
theorem asum_fl {es : List E3} : ∀ {l : List Nat}, (∀ k ∈ l, k < es.length ∧ 1 ≤ rat es k) → asum (some 1) 1 27 (.t2 (.var 32) (.var 27)) (l.map (flv es)) = some (l.map (rat es))
  | [], _ => rfl
  | k :: r, h => by
    rw [List.map_cons, asum, asum1_fl (h k (.head _)).1 (h k (.head _)).2, asum_fl fun y hy => h y (.tail _ hy)]; rfl
theorem flex_bd {es : List E3} {ss : List (Option Int)} (he : OkE es) (hl : ss.length = es.length) : ∀ k ∈ flex ss, k < es.length ∧ 1 ≤ rat es k ∧ rat es k ≤ 4 ∧ 1 ≤ lea es k ∧ lea es k ≤ 6 := fun k hk => by
  have := (mem_flexTo.mp hk).1
  exact ⟨by omega, rat_bd he (by omega)⟩
theorem r4_ok {ρ : AE} {ah : AH} {es : List E3} {ss : List (Option Int)} (h29 : ρ 29 = some (.lst (FL es ss))) (he : OkE es) (hl : ss.length = es.length) (h5 : es.length ≤ 5) :
    ∀ n, 20 ≤ n → ax fns n r4 ρ ah = some (.nx, upd ρ 15 (.int (parts es ss)), ah) := by
  intro n hn
  obtain ⟨m, rfl⟩ : ∃ m, n = m + 20 := ⟨n - 20, by omega⟩
  have hf := flex_bd he hl
  have e := asum_fl (l := flex ss) fun k hk => ⟨(hf k hk).1, (hf k hk).2.1⟩
  have hfl : (flex ss).length ≤ ss.length := flexTo_len ss ss.length
  have hc : ((flex ss).map (rat es)).length < 1000 ∧ ((flex ss).map (rat es)).all (fun i => small30 i) = true := by
    refine ⟨by rw [List.length_map]; omega, List.all_eq_true.mpr fun i hi => ?_⟩
    obtain ⟨k, h1, rfl⟩ := List.mem_map.mp hi
    have := hf k h1
    exact small30_of (by omega) (by omega)
  simp only [r4, ae_none, ae_bool, ae_int, ae_var, ae_bin, ae_neg, ae_cmp, ae_bo, ae_ife, ae_call, ae_bi, ae_edge, ae_attr, ae_meth, ae_sub, ae_slice, ae_lstT, ae_lstF, ae_tup, ae_compT, ae_compF, ae_sumg, aes_nil, aes_cons, ait_e, ait_range, ait_zip, ait_ezip, att_nt, att_bo, att_var, att_cmp, att_sub, att_bin, att_comp, ax_asg, ax_asub, ax_aug, ax_appm, ax_app, ax_ite, ax_whl, ax_for, ax_brk, ax_cont, ax_ret, ax_asrt, ax_doc, axs_nil, axs_cons, upd_, bindT_var, bindT_2, bindT_3, items_lst, items_ref, tr_none, tr_bool, tr_int, tr_lst, tr_ref, b_add, b_sub, b_and, c_is, c_isnot, c_lt, c_le, c_gt, c_ge, c_eq, c_ne, nn_none, nn_int, nn_lst, nn_ref, Option.bind_some, Option.map_some, if_true, if_false, Bool.false_eq_true, reduceIte, Nat.reduceEqDiff, Nat.reduceAdd, List.length_cons, List.length_nil, Nat.reduceLT, Nat.add_zero, Nat.zero_add, h29, FL, e, hc, and_self, parts]
end Mine

end

section
open PySem
set_option autoImplicit false
set_option linter.unusedSimpArgs false
set_option linter.unusedVariables false
set_option maxRecDepth 100000
namespace Mine

def outL (es : List E3) (ss : List (Option Int)) : List Int := (ss.zip es).map fun p => p.1.getD p.2.2.2
theorem r3_no {ρ : AE} {ah : AH} {rm : Int} (h30 : ρ 30 = some (.int rm)) (h : ¬ rm ≤ 0) : ∀ n, 20 ≤ n → ax fns n r3 ρ ah = some (.nx, ρ, ah) := by
  intro n hn
  obtain ⟨m, rfl⟩ : ∃ m, n = m + 20 := ⟨n - 20, by omega⟩
  simp only [r3, ae_none, ae_bool, ae_int, ae_var, ae_bin, ae_neg, ae_cmp, ae_bo, ae_ife, ae_call, ae_bi, ae_edge, ae_attr, ae_meth, ae_sub, ae_slice, ae_lstT, ae_lstF, ae_tup, ae_compT, ae_compF, ae_sumg, aes_nil, aes_cons, ait_e, ait_range, ait_zip, ait_ezip, att_nt, att_bo, att_var, att_cmp, att_sub, att_bin, att_comp, ax_asg, ax_asub, ax_aug, ax_appm, ax_app, ax_ite, ax_whl, ax_for, ax_brk, ax_cont, ax_ret, ax_asrt, ax_doc, axs_nil, axs_cons, upd_, bindT_var, bindT_2, bindT_3, items_lst, items_ref, tr_none, tr_bool, tr_int, tr_lst, tr_ref, b_add, b_sub, b_and, c_is, c_isnot, c_lt, c_le, c_gt, c_ge, c_eq, c_ne, nn_none, nn_int, nn_lst, nn_ref, Option.bind_some, Option.map_some, if_true, if_false, Bool.false_eq_true, reduceIte, Nat.reduceEqDiff, Nat.reduceAdd, List.length_cons, List.length_nil, Nat.reduceLT, Nat.add_zero, Nat.zero_add, h30, h, decide_false]
theorem r3_yes {ρ : AE} {ah : AH} {r : Nat} {rm : Int} {es : List E3} {ss : List (Option Int)} (h30 : ρ 30 = some (.int rm)) (h : rm ≤ 0) (h6 : ρ 6 = some (.lst (es.map ev))) (h7 : ρ 7 = some (.ref r)) (hr : ah[r]? = some (ss.map ov)) (hl : ss.length = es.length) (h5 : es.length ≤ 5) (he : OkE es) :
    ∀ n, 40 ≤ n → ax fns n r3 ρ ah = some (.ret (.lst ((outL es ss).map .int)), ρ, ah) := by
  intro n hn
  obtain ⟨m, rfl⟩ : ∃ m, n = m + 40 := ⟨n - 40, by omega⟩
  have hok : srcOk ah (.Z2 (.ref r) (.lst (es.map ev))) = true := ok_Z2 (items_ref.trans hr) items_lst (by rw [List.length_map]; omega) (by rw [List.length_map]; omega)
  obtain ⟨acc', ah', ⟨rfl, rfl⟩, h2⟩ := acomp_run (F := fns) (elt := .ife (.cmp .Is (.var 8) .none) (.bo true (.attr 2 (.var 27)) (.int 1)) (.var 8)) (tg := .t2 (.var 8) (.var 27)) (ρ := capt ρ []) (src := .Z2 (.ref r) (.lst (es.map ev)))
    (fun k acc a => acc = ((outL es ss).take k).map .int ∧ a = ah) ss.length 12
    (fun k acc a hk h => by
      obtain ⟨rfl, rfl⟩ := h
      have hk2 : k < es.length := by omega
      have ho : (outL es ss)[k]? = some (ss[k].getD es[k].2.2) := by simp [outL, List.zip, List.getElem?_zipWith, hk, hk2]
      have hez := he es[k] (List.getElem_mem hk2)
      have hne : (es[k].2.2 != 0) = true := by simp; omega
      refine ⟨by rw [List.length_map, List.length_take]; omega, .tup [ov ss[k], ev es[k]], _, .int (ss[k].getD es[k].2.2), a, src_Z2 (items_ref.trans hr) items_lst (by simp [hk]) (by simp [hk2]), rfl, fun n hn => ?_, ?_, rfl⟩
      · obtain ⟨m, rfl⟩ : ∃ m, n = m + 12 := ⟨n - 12, by omega⟩
        cases ss[k] with
        | none => simp only [ae_none, ae_bool, ae_int, ae_var, ae_bin, ae_neg, ae_cmp, ae_bo, ae_ife, ae_call, ae_bi, ae_edge, ae_attr, ae_meth, ae_sub, ae_slice, ae_lstT, ae_lstF, ae_tup, ae_compT, ae_compF, ae_sumg, aes_nil, aes_cons, ait_e, ait_range, ait_zip, ait_ezip, att_nt, att_bo, att_var, att_cmp, att_sub, att_bin, att_comp, ax_asg, ax_asub, ax_aug, ax_appm, ax_app, ax_ite, ax_whl, ax_for, ax_brk, ax_cont, ax_ret, ax_asrt, ax_doc, axs_nil, axs_cons, upd_, bindT_var, bindT_2, bindT_3, items_lst, items_ref, tr_none, tr_bool, tr_int, tr_lst, tr_ref, b_add, b_sub, b_and, c_is, c_isnot, c_lt, c_le, c_gt, c_ge, c_eq, c_ne, nn_none, nn_int, nn_lst, nn_ref, Option.bind_some, Option.map_some, if_true, if_false, Bool.false_eq_true, reduceIte, Nat.reduceEqDiff, Nat.reduceAdd, List.length_cons, List.length_nil, Nat.reduceLT, Nat.add_zero, Nat.zero_add, ov, ev, p3_2, hne, Option.getD_none]
        | some v => simp only [ae_none, ae_bool, ae_int, ae_var, ae_bin, ae_neg, ae_cmp, ae_bo, ae_ife, ae_call, ae_bi, ae_edge, ae_attr, ae_meth, ae_sub, ae_slice, ae_lstT, ae_lstF, ae_tup, ae_compT, ae_compF, ae_sumg, aes_nil, aes_cons, ait_e, ait_range, ait_zip, ait_ezip, att_nt, att_bo, att_var, att_cmp, att_sub, att_bin, att_comp, ax_asg, ax_asub, ax_aug, ax_appm, ax_app, ax_ite, ax_whl, ax_for, ax_brk, ax_cont, ax_ret, ax_asrt, ax_doc, axs_nil, axs_cons, upd_, bindT_var, bindT_2, bindT_3, items_lst, items_ref, tr_none, tr_bool, tr_int, tr_lst, tr_ref, b_add, b_sub, b_and, c_is, c_isnot, c_lt, c_le, c_gt, c_ge, c_eq, c_ne, nn_none, nn_int, nn_lst, nn_ref, Option.bind_some, Option.map_some, if_true, if_false, Bool.false_eq_true, reduceIte, Nat.reduceEqDiff, Nat.reduceAdd, List.length_cons, List.length_nil, Nat.reduceLT, Nat.add_zero, Nat.zero_add, ov, ev, p3_2, hne, Option.getD_some]
      · rw [List.take_succ, ho, List.map_append]; rfl)
    (fun acc a h => src_Z2n (by obtain ⟨rfl, rfl⟩ := h; exact items_ref.trans hr) (by simp))
    ss.length 0 [] ah (by omega) ⟨rfl, rfl⟩
  have hlo : (outL es ss).length = ss.length := by simp [outL, hl]
  rw [← hlo, List.take_length, hlo] at h2
  simp only [r3, ae_none, ae_bool, ae_int, ae_var, ae_bin, ae_neg, ae_cmp, ae_bo, ae_ife, ae_call, ae_bi, ae_edge, ae_attr, ae_meth, ae_sub, ae_slice, ae_lstT, ae_lstF, ae_tup, ae_compT, ae_compF, ae_sumg, aes_nil, aes_cons, ait_e, ait_range, ait_zip, ait_ezip, att_nt, att_bo, att_var, att_cmp, att_sub, att_bin, att_comp, ax_asg, ax_asub, ax_aug, ax_appm, ax_app, ax_ite, ax_whl, ax_for, ax_brk, ax_cont, ax_ret, ax_asrt, ax_doc, axs_nil, axs_cons, upd_, bindT_var, bindT_2, bindT_3, items_lst, items_ref, tr_none, tr_bool, tr_int, tr_lst, tr_ref, b_add, b_sub, b_and, c_is, c_isnot, c_lt, c_le, c_gt, c_ge, c_eq, c_ne, nn_none, nn_int, nn_lst, nn_ref, Option.bind_some, Option.map_some, if_true, if_false, Bool.false_eq_true, reduceIte, Nat.reduceEqDiff, Nat.reduceAdd, List.length_cons, List.length_nil, Nat.reduceLT, Nat.add_zero, Nat.zero_add, h30, h, decide_true, h6, h7, hok]
  rw [h2 _ (by omega)]
  simp only [ae_none, ae_bool, ae_int, ae_var, ae_bin, ae_neg, ae_cmp, ae_bo, ae_ife, ae_call, ae_bi, ae_edge, ae_attr, ae_meth, ae_sub, ae_slice, ae_lstT, ae_lstF, ae_tup, ae_compT, ae_compF, ae_sumg, aes_nil, aes_cons, ait_e, ait_range, ait_zip, ait_ezip, att_nt, att_bo, att_var, att_cmp, att_sub, att_bin, att_comp, ax_asg, ax_asub, ax_aug, ax_appm, ax_app, ax_ite, ax_whl, ax_for, ax_brk, ax_cont, ax_ret, ax_asrt, ax_doc, axs_nil, axs_cons, upd_, bindT_var, bindT_2, bindT_3, items_lst, items_ref, tr_none, tr_bool, tr_int, tr_lst, tr_ref, b_add, b_sub, b_and, c_is, c_isnot, c_lt, c_le, c_gt, c_ge, c_eq, c_ne, nn_none, nn_int, nn_lst, nn_ref, Option.bind_some, Option.map_some, if_true, if_false, Bool.false_eq_true, reduceIte, Nat.reduceEqDiff, Nat.reduceAdd, List.length_cons, List.length_nil, Nat.reduceLT, Nat.add_zero, Nat.zero_add]

def Same (ρ ρ' : AE) : Prop := ∀ y, y ≠ 27 → y ≠ 28 → ρ' y = ρ y

theorem r5_loop {es : List E3} {ss : List (Option Int)} {rm p : Int} {r : Nat} {ah : AH} (hr : ah[r]? = some (ss.map ov)) (he : OkE es) (hl : ss.length = es.length) (h5 : es.length ≤ 5) (hrm : small rm = true) :
    ∀ (l pre : List Nat) (ρ : AE), flex ss = pre ++ l → ρ 30 = some (.int rm) → ρ 15 = some (.int p) → ρ 7 = some (.ref r) →
      match l.find? (sh es rm p) with
      | some i => ∃ ρ', Same ρ ρ' ∧ ∀ n, 30 + l.length ≤ n → afor fns n (.t2 (.var 28) (.var 27)) (.L (.lst (FL es ss))) pre.length F1 E1 ρ ah = some (.nx, ρ', ah.set r ((ss.set i (some (lea es i))).map ov))
      | none => ∃ ρ', Same ρ ρ' ∧ ∀ n, 30 + l.length ≤ n → afor fns n (.t2 (.var 28) (.var 27)) (.L (.lst (FL es ss))) pre.length F1 E1 ρ ah = axs fns (n - l.length - 1) E1 ρ' ah
  | [], pre, ρ, e, h1, h2, h3 => by
    refine ⟨ρ, fun _ _ _ => rfl, fun n hn => ?_⟩
    obtain ⟨m, rfl⟩ : ∃ m, n = m + 1 := ⟨n - 1, by simp at hn; omega⟩
    rw [List.append_nil] at e
    rw [afor_end (by rw [src_L items_lst, FL, e]; simp)]
    rfl
  | k :: l, pre, ρ, e, h1, h2, h3 => by
    have hm : k ∈ flex ss := by rw [e]; simp
    have hb := flex_bd he hl k hm
    have hks : k < ss.length := by omega
    have hsrc : srcGet ah pre.length (.L (.lst (FL es ss))) = some (flv es k) := by rw [src_L items_lst, FL, e]; simp
    have hbind : bindT (.t2 (.var 28) (.var 27)) (flv es k) ρ = some (upd (upd ρ 28 (.int k)) 27 (.edge [ov es[k].1, .int (rat es k), .int (lea es k)])) := by rw [flv, evk_at hb.1]; rfl
    have hsl : small (lea es k) = true := small_of (by omega) (by omega)
    have hsm : Same ρ (upd (upd ρ 28 (.int k)) 27 (.edge [ov es[k].1, .int (rat es k), .int (lea es k)])) := fun y a b => by simp only [upd_, a, b, if_false]
    have hcond : (0 : Int) ≤ k ∧ (k : Int) < ss.length ∧ ss.length < 1000 := by omega
    by_cases hs : sh es rm p k = true
    · rw [List.find?_cons_of_pos hs]
      refine ⟨_, hsm, fun n hn => ?_⟩
      obtain ⟨m, rfl⟩ : ∃ m, n = m + 30 := ⟨n - 30, by omega⟩
      have hle : rm * rat es k ≤ lea es k * p := by simpa [sh] using hs
      rw [afor_step hsrc hbind]
      simp only [F1, ae_none, ae_bool, ae_int, ae_var, ae_bin, ae_neg, ae_cmp, ae_bo, ae_ife, ae_call, ae_bi, ae_edge, ae_attr, ae_meth, ae_sub, ae_slice, ae_lstT, ae_lstF, ae_tup, ae_compT, ae_compF, ae_sumg, aes_nil, aes_cons, ait_e, ait_range, ait_zip, ait_ezip, att_nt, att_bo, att_var, att_cmp, att_sub, att_bin, att_comp, ax_asg, ax_asub, ax_aug, ax_appm, ax_app, ax_ite, ax_whl, ax_for, ax_brk, ax_cont, ax_ret, ax_asrt, ax_doc, axs_nil, axs_cons, upd_, bindT_var, bindT_2, bindT_3, items_lst, items_ref, tr_none, tr_bool, tr_int, tr_lst, tr_ref, b_add, b_sub, b_and, c_is, c_isnot, c_lt, c_le, c_gt, c_ge, c_eq, c_ne, nn_none, nn_int, nn_lst, nn_ref, Option.bind_some, Option.map_some, if_true, if_false, Bool.false_eq_true, reduceIte, Nat.reduceEqDiff, Nat.reduceAdd, List.length_cons, List.length_nil, Nat.reduceLT, Nat.add_zero, Nat.zero_add, h1, h2, h3, p3_1, p3_2, b_mul hrm, b_mul hsl, hle, decide_true, hr, List.length_map, hcond, and_self, Int.toNat_natCast, map_set_ov]
    · rw [List.find?_cons_of_neg hs]
      have ih := r5_loop hr he hl h5 hrm l (pre ++ [k]) (upd (upd ρ 28 (.int k)) 27 (.edge [ov es[k].1, .int (rat es k), .int (lea es k)])) (by rw [e]; simp) h1 h2 h3
      have hle : ¬ rm * rat es k ≤ lea es k * p := by simpa [sh] using hs
      have step : ∀ m, afor fns (m + 30) (.t2 (.var 28) (.var 27)) (.L (.lst (FL es ss))) pre.length F1 E1 ρ ah = afor fns (m + 29) (.t2 (.var 28) (.var 27)) (.L (.lst (FL es ss))) (pre ++ [k]).length F1 E1 (upd (upd ρ 28 (.int k)) 27 (.edge [ov es[k].1, .int (rat es k), .int (lea es k)])) ah := fun m => by
        rw [afor_step hsrc hbind]
        simp only [F1, ae_none, ae_bool, ae_int, ae_var, ae_bin, ae_neg, ae_cmp, ae_bo, ae_ife, ae_call, ae_bi, ae_edge, ae_attr, ae_meth, ae_sub, ae_slice, ae_lstT, ae_lstF, ae_tup, ae_compT, ae_compF, ae_sumg, aes_nil, aes_cons, ait_e, ait_range, ait_zip, ait_ezip, att_nt, att_bo, att_var, att_cmp, att_sub, att_bin, att_comp, ax_asg, ax_asub, ax_aug, ax_appm, ax_app, ax_ite, ax_whl, ax_for, ax_brk, ax_cont, ax_ret, ax_asrt, ax_doc, axs_nil, axs_cons, upd_, bindT_var, bindT_2, bindT_3, items_lst, items_ref, tr_none, tr_bool, tr_int, tr_lst, tr_ref, b_add, b_sub, b_and, c_is, c_isnot, c_lt, c_le, c_gt, c_ge, c_eq, c_ne, nn_none, nn_int, nn_lst, nn_ref, Option.bind_some, Option.map_some, if_true, if_false, Bool.false_eq_true, reduceIte, Nat.reduceEqDiff, Nat.reduceAdd, List.length_cons, List.length_nil, Nat.reduceLT, Nat.add_zero, Nat.zero_add, h1, h2, h3, p3_1, p3_2, b_mul hrm, b_mul hsl, hle, decide_false, List.length_append]
      cases hf : l.find? (sh es rm p) with
      | some i =>
        rw [hf] at ih
        obtain ⟨ρ', g1, g2⟩ := ih
        refine ⟨ρ', fun y a b => (g1 y a b).trans (hsm y a b), fun n hn => ?_⟩
        rw [List.length_cons] at hn
        obtain ⟨m, rfl⟩ : ∃ m, n = m + 30 := ⟨n - 30, by omega⟩
        rw [step, g2 _ (by omega)]
      | none =>
        rw [hf] at ih
        obtain ⟨ρ', g1, g2⟩ := ih
        refine ⟨ρ', fun y a b => (g1 y a b).trans (hsm y a b), fun n hn => ?_⟩
        rw [List.length_cons] at hn
        obtain ⟨m, rfl⟩ : ∃ m, n = m + 30 := ⟨n - 30, by omega⟩
        rw [step, g2 _ (by omega), List.length_cons]
        congr 1
        omega
end Mine

end

section
open PySem
set_option autoImplicit false
set_option linter.unusedSimpArgs false
set_option linter.unusedVariables false
set_option maxRecDepth 100000
namespace Mine

theorem shift_fdiv {X R p : Int} (hp : 0 < p) : (R + X.fmod p).fdiv p = (X + R).fdiv p - X.fdiv p := by
  have e : R + X.fmod p = (X + R) + (-(X.fdiv p)) * p := by
    rw [Int.fmod_def, Int.neg_mul, Int.mul_comm (X.fdiv p) p]; omega
  rw [e, Int.add_mul_fdiv_right _ _ (by omega)]; omega
theorem shift_fmod {X R p : Int} (hp : 0 < p) : (R + X.fmod p).fmod p = (X + R).fmod p := by
  rw [Int.fmod_def (R + X.fmod p), shift_fdiv hp, Int.fmod_def X, Int.fmod_def (X + R), Int.mul_sub]; omega

theorem set_same {ah : AH} {r : Nat} {x : List AV} (h : ah[r]? = some x) : ah.set r x = ah := by
  apply List.ext_getElem?
  intro i
  by_cases q : r = i
  · subst q; rw [List.getElem?_set_self (get_lt h), h]
  · rw [List.getElem?_set_ne q]

theorem e1_ok {ρ : AE} {es : List E3} {ss : List (Option Int)} {rm p : Int} {r : Nat} {ah : AH} (hr : ah[r]? = some (ss.map ov)) (he : OkE es) (hl : ss.length = es.length) (h5 : es.length ≤ 5) (hrm : small rm = true) (hp : 0 < p) (hp2 : p < 100)
    (h29 : ρ 29 = some (.lst (FL es ss))) (h30 : ρ 30 = some (.int rm)) (h15 : ρ 15 = some (.int p)) (h7 : ρ 7 = some (.ref r)) :
    ∃ ρ', ρ' 7 = some (.ref r) ∧ ∀ n, 60 ≤ n → axs fns n E1 ρ ah = some (.brk, ρ', ah.set r ((fillL es rm p (flex ss) 0 ss).map ov)) := by
  have hfl : (flex ss).length ≤ ss.length := flexTo_len ss ss.length
  have hrl := get_lt hr
  obtain ⟨ρ', ah', ⟨g1, g2, g3, s, cur, g4, g5, g6, g7⟩, h2⟩ := afor_run (F := fns) (tg := .t2 (.var 28) (.var 27)) (src := .L (.lst (FL es ss))) (b := F2)
    (fun k ρ a => ρ 30 = some (.int rm) ∧ ρ 15 = some (.int p) ∧ ρ 7 = some (.ref r) ∧ ∃ s cur, ρ 31 = some (.int ((rm * s).fmod p)) ∧ a = ah.set r (cur.map ov) ∧ cur.length = ss.length ∧ fillL es rm p ((flex ss).drop k) s cur = fillL es rm p (flex ss) 0 ss) (flex ss).length 30
    (fun j ρ a hj h => by
      obtain ⟨h1, h2, h3, s, cur, h4, rfl, hc, h6⟩ := h
      have hd : (flex ss).drop j = (flex ss)[j] :: (flex ss).drop (j + 1) := List.drop_eq_getElem_cons hj
      have hm : (flex ss)[j] ∈ flex ss := List.getElem_mem hj
      generalize (flex ss)[j] = k at *
      have hb := flex_bd he hl k hm
      rw [hd, fillL] at h6
      have e1 : (rm * rat es k + (rm * s).fmod p).fdiv p = piece rm p s (rat es k) := by rw [shift_fdiv hp, piece, Int.mul_add]
      have e2 : (rm * rat es k + (rm * s).fmod p).fmod p = (rm * (s + rat es k)).fmod p := by rw [shift_fmod hp, Int.mul_add]
      have hp0 : p ≠ 0 := by omega
      have hps : small30 p = true := small30_of (by omega) (by omega)
      have hset : (ah.set r (cur.map ov))[r]? = some (cur.map ov) := List.getElem?_set_self hrl
      have hcond : (0 : Int) ≤ k ∧ (k : Int) < (cur.map ov).length ∧ (cur.map ov).length < 1000 := by rw [List.length_map]; omega
      refine ⟨flv es k, _, upd (upd (upd (upd ρ 28 (.int k)) 27 (.edge [ov es[k].1, .int (rat es k), .int (lea es k)])) 8 (.int (piece rm p s (rat es k)))) 31 (.int ((rm * (s + rat es k)).fmod p)), ah.set r ((cur.set k (some (piece rm p s (rat es k)))).map ov), ?_, by rw [flv, evk_at hb.1]; rfl, fun n hn => ?_, h1, h2, h3, s + rat es k, cur.set k (some (piece rm p s (rat es k))), rfl, rfl, by rw [List.length_set]; exact hc, h6⟩
      · rw [src_L items_lst, FL, List.getElem?_map]
        have : (flex ss)[j]? = some k := by
          have := congrArg List.head? hd
          rw [List.head?_drop] at this; exact this
        rw [this]; rfl
      · obtain ⟨m, rfl⟩ : ∃ m, n = m + 30 := ⟨n - 30, by omega⟩
        simp only [F2, ae_none, ae_bool, ae_int, ae_var, ae_bin, ae_neg, ae_cmp, ae_bo, ae_ife, ae_call, ae_bi, ae_edge, ae_attr, ae_meth, ae_sub, ae_slice, ae_lstT, ae_lstF, ae_tup, ae_compT, ae_compF, ae_sumg, aes_nil, aes_cons, ait_e, ait_range, ait_zip, ait_ezip, att_nt, att_bo, att_var, att_cmp, att_sub, att_bin, att_comp, ax_asg, ax_asub, ax_aug, ax_appm, ax_app, ax_ite, ax_whl, ax_for, ax_brk, ax_cont, ax_ret, ax_asrt, ax_doc, axs_nil, axs_cons, upd_, bindT_var, bindT_2, bindT_3, items_lst, items_ref, tr_none, tr_bool, tr_int, tr_lst, tr_ref, b_add, b_sub, b_and, c_is, c_isnot, c_lt, c_le, c_gt, c_ge, c_eq, c_ne, nn_none, nn_int, nn_lst, nn_ref, Option.bind_some, Option.map_some, if_true, if_false, Bool.false_eq_true, reduceIte, Nat.reduceEqDiff, Nat.reduceAdd, List.length_cons, List.length_nil, Nat.reduceLT, Nat.add_zero, Nat.zero_add, h1, h2, h3, h4, p3_1, b_mul hrm, i_divmod hp0 hps, e1, e2, hset, hcond, and_self, Int.toNat_natCast, map_set_ov, List.set_set])
    (fun ρ a h => by rw [src_L items_lst, FL]; simp)
    (flex ss).length 0 (upd ρ 31 (.int 0)) ah (by omega) ⟨h30, h15, h7, 0, ss, by rw [Int.mul_zero, Int.zero_fmod]; rfl, (set_same hr).symm, rfl, rfl⟩
  rw [List.drop_length, fillL] at g7
  subst g7
  refine ⟨ρ', g3, fun n hn => ?_⟩
  obtain ⟨m, rfl⟩ : ∃ m, n = m + 60 := ⟨n - 60, by omega⟩
  have hok : srcOk ah (.L (.lst (FL es ss))) = true := ok_L items_lst (by rw [FL, List.length_map]; omega)
  simp only [E1, ae_none, ae_bool, ae_int, ae_var, ae_bin, ae_neg, ae_cmp, ae_bo, ae_ife, ae_call, ae_bi, ae_edge, ae_attr, ae_meth, ae_sub, ae_slice, ae_lstT, ae_lstF, ae_tup, ae_compT, ae_compF, ae_sumg, aes_nil, aes_cons, ait_e, ait_range, ait_zip, ait_ezip, att_nt, att_bo, att_var, att_cmp, att_sub, att_bin, att_comp, ax_asg, ax_asub, ax_aug, ax_appm, ax_app, ax_ite, ax_whl, ax_for, ax_brk, ax_cont, ax_ret, ax_asrt, ax_doc, axs_nil, axs_cons, upd_, bindT_var, bindT_2, bindT_3, items_lst, items_ref, tr_none, tr_bool, tr_int, tr_lst, tr_ref, b_add, b_sub, b_and, c_is, c_isnot, c_lt, c_le, c_gt, c_ge, c_eq, c_ne, nn_none, nn_int, nn_lst, nn_ref, Option.bind_some, Option.map_some, if_true, if_false, Bool.false_eq_true, reduceIte, Nat.reduceEqDiff, Nat.reduceAdd, List.length_cons, List.length_nil, Nat.reduceLT, Nat.add_zero, Nat.zero_add, h29, hok]
  rw [h2 _ (by omega)]
  simp only [ae_none, ae_bool, ae_int, ae_var, ae_bin, ae_neg, ae_cmp, ae_bo, ae_ife, ae_call, ae_bi, ae_edge, ae_attr, ae_meth, ae_sub, ae_slice, ae_lstT, ae_lstF, ae_tup, ae_compT, ae_compF, ae_sumg, aes_nil, aes_cons, ait_e, ait_range, ait_zip, ait_ezip, att_nt, att_bo, att_var, att_cmp, att_sub, att_bin, att_comp, ax_asg, ax_asub, ax_aug, ax_appm, ax_app, ax_ite, ax_whl, ax_for, ax_brk, ax_cont, ax_ret, ax_asrt, ax_doc, axs_nil, axs_cons, upd_, bindT_var, bindT_2, bindT_3, items_lst, items_ref, tr_none, tr_bool, tr_int, tr_lst, tr_ref, b_add, b_sub, b_and, c_is, c_isnot, c_lt, c_le, c_gt, c_ge, c_eq, c_ne, nn_none, nn_int, nn_lst, nn_ref, Option.bind_some, Option.map_some, if_true, if_false, Bool.false_eq_true, reduceIte, Nat.reduceEqDiff, Nat.reduceAdd, List.length_cons, List.length_nil, Nat.reduceLT, Nat.add_zero, Nat.zero_add, g5]

def KeepBut (r : Nat) (ah ah' : AH) : Prop := ∀ (q : Nat) xs, q ≠ r → ah[q]? = some xs → ah'[q]? = some xs
theorem KeepBut.refl (r : Nat) (ah : AH) : KeepBut r ah ah := fun _ _ _ e => e
theorem KeepBut.set {r : Nat} {ah : AH} {x : List AV} : KeepBut r ah (ah.set r x) := fun q xs h e => by rw [List.getElem?_set_ne (Ne.symm h)]; exact e
theorem KeepBut.trans {r : Nat} {a b c : AH} (x : KeepBut r a b) (y : KeepBut r b c) : KeepBut r a c := fun q xs h e => y q xs h (x q xs h e)

end Mine

end

section
open PySem
set_option autoImplicit false
set_option linter.unusedSimpArgs false
set_option linter.unusedVariables false
set_option maxRecDepth 100000
namespace Mine

theorem rb_ret {ρ ρ1 ρ2 : AE} {ah : AH} {v : AV} {n : Nat} (h1 : ax fns (n + 3) r1 ρ ah = some (.nx, ρ1, ah)) (h2 : ax fns (n + 2) r2 ρ1 ah = some (.nx, ρ2, ah)) (h3 : ax fns (n + 1) r3 ρ2 ah = some (.ret v, ρ2, ah)) :
    axs fns (n + 4) rB ρ ah = some (.ret v, ρ2, ah) := by
  rw [rB, axs_cons, h1]
  simp only [Option.bind_some]
  rw [axs_cons, h2]
  simp only [Option.bind_some]
  rw [axs_cons, h3]
  simp only [Option.bind_some]
theorem rb_go {ρ ρ1 ρ2 ρ3 ρ4 : AE} {ah a' : AH} {fl : AFl} {n : Nat} (h1 : ax fns (n + 5) r1 ρ ah = some (.nx, ρ1, ah)) (h2 : ax fns (n + 4) r2 ρ1 ah = some (.nx, ρ2, ah)) (h3 : ax fns (n + 3) r3 ρ2 ah = some (.nx, ρ2, ah)) (h4 : ax fns (n + 2) r4 ρ2 ah = some (.nx, ρ3, ah))
    (h5 : ax fns (n + 1) r5 ρ3 ah = some (fl, ρ4, a')) (hf : fl = .nx ∨ fl = .brk) : axs fns (n + 6) rB ρ ah = some (fl, ρ4, a') := by
  rw [rB, axs_cons, h1]
  simp only [Option.bind_some]
  rw [axs_cons, h2]
  simp only [Option.bind_some]
  rw [axs_cons, h3]
  simp only [Option.bind_some]
  rw [axs_cons, h4]
  simp only [Option.bind_some]
  rw [axs_cons, h5]
  rcases hf with rfl | rfl
  · simp only [Option.bind_some, axs_nil]
  · simp only [Option.bind_some]
theorem r5_run {ρ ρ4 : AE} {ah a' : AH} {fl : AFl} {n : Nat} {es : List E3} {ss : List (Option Int)} (h29 : ρ 29 = some (.lst (FL es ss))) (hl : (flex ss).length < 1000)
    (h : afor fns (n + 3) (.t2 (.var 28) (.var 27)) (.L (.lst (FL es ss))) 0 F1 E1 ρ ah = some (fl, ρ4, a')) : ax fns (n + 4) r5 ρ ah = some (fl, ρ4, a') := by
  have hok : srcOk ah (.L (.lst (FL es ss))) = true := ok_L items_lst (by rw [FL, List.length_map]; exact hl)
  simp only [r5, ax_for, ait_e, ae_var, h29, Option.map_some, Option.bind_some, hok, if_true]
  exact h
end Mine

end

section
open PySem
set_option autoImplicit false
set_option linter.unusedSimpArgs false
set_option linter.unusedVariables false
set_option maxRecDepth 100000
namespace Mine

theorem r_test {ρ : AE} {ah : AH} {r : Nat} {ss : List (Option Int)} (g7 : ρ 7 = some (.ref r)) (hr : ah[r]? = some (ss.map ov)) (hl : ss.length ≤ 5) :
    ∀ m, 10 ≤ m → att fns m (.cmp .In .none (.var 7)) ρ ah = some (ss.any Option.isNone, ah) := fun m hm => by
  obtain ⟨k, rfl⟩ : ∃ k, m = k + 10 := ⟨m - 10, by omega⟩
  have hin := c_in hr (by omega)
  simp only [ae_none, ae_bool, ae_int, ae_var, ae_bin, ae_neg, ae_cmp, ae_bo, ae_ife, ae_call, ae_bi, ae_edge, ae_attr, ae_meth, ae_sub, ae_slice, ae_lstT, ae_lstF, ae_tup, ae_compT, ae_compF, ae_sumg, aes_nil, aes_cons, ait_e, ait_range, ait_zip, ait_ezip, att_nt, att_bo, att_var, att_cmp, att_sub, att_bin, att_comp, ax_asg, ax_asub, ax_aug, ax_appm, ax_app, ax_ite, ax_whl, ax_for, ax_brk, ax_cont, ax_ret, ax_asrt, ax_doc, axs_nil, axs_cons, upd_, bindT_var, bindT_2, bindT_3, items_lst, items_ref, tr_none, tr_bool, tr_int, tr_lst, tr_ref, b_add, b_sub, b_and, c_is, c_isnot, c_lt, c_le, c_gt, c_ge, c_eq, c_ne, nn_none, nn_int, nn_lst, nn_ref, Option.bind_some, Option.map_some, if_true, if_false, Bool.false_eq_true, reduceIte, Nat.reduceEqDiff, Nat.reduceAdd, List.length_cons, List.length_nil, Nat.reduceLT, Nat.add_zero, Nat.zero_add, g7, hin]

theorem r_done {ρ : AE} {ah : AH} {r : Nat} {t : Int} {es : List E3} {ss : List (Option Int)} (g5 : ρ 5 = some (.int t)) (g6 : ρ 6 = some (.lst (es.map ev))) (g7 : ρ 7 = some (.ref r)) (hr : ah[r]? = some (ss.map ov))
    (he : OkE es) (hs : OkS ss) (hl : ss.length = es.length) (h5 : es.length ≤ 5) (ha : ss.any Option.isNone = true) (h0 : rem t ss ≤ 0) :
    ∃ ρ', ∀ m, 100 ≤ m → awh fns m (.cmp .In .none (.var 7)) rB ρ ah = some (.ret (.lst ((outL es ss).map .int)), ρ', ah) := by
  have test := r_test g7 hr (by omega)
  rw [ha] at test
  have a1 := r1_ok g6 g7 hr hl h5
  have a2 := r2_ok (ρ := upd ρ 29 (.lst (FL es ss))) g5 g7 hr (by omega) hs
  have a3 := r3_yes (ρ := upd (upd ρ 29 (.lst (FL es ss))) 30 (.int (rem t ss))) (ah := ah) rfl h0 g6 g7 hr hl h5 he
  refine ⟨upd (upd ρ 29 (.lst (FL es ss))) 30 (.int (rem t ss)), fun m hm => ?_⟩
  obtain ⟨k, rfl⟩ : ∃ k, m = k + 5 := ⟨m - 5, by omega⟩
  refine Eq.trans (awh_yes (n := k + 4) (test _ (by omega))) ?_
  rw [rb_ret (n := k) (a1 _ (by omega)) (a2 _ (by omega)) (a3 _ (by omega))]
  simp only [Option.bind_some]

theorem r_found {ρ : AE} {ah : AH} {r i : Nat} {t : Int} {es : List E3} {ss : List (Option Int)} (g5 : ρ 5 = some (.int t)) (g6 : ρ 6 = some (.lst (es.map ev))) (g7 : ρ 7 = some (.ref r)) (hr : ah[r]? = some (ss.map ov))
    (he : OkE es) (hs : OkS ss) (hl : ss.length = es.length) (h5 : es.length ≤ 5) (ht2 : t < 1000) (ha : ss.any Option.isNone = true) (h0 : ¬ rem t ss ≤ 0) (hf : (flex ss).find? (sh es (rem t ss) (parts es ss)) = some i) :
    ∃ ρ', ρ' 5 = some (.int t) ∧ ρ' 6 = some (.lst (es.map ev)) ∧ ρ' 7 = some (.ref r) ∧ ∀ m, 100 ≤ m → awh fns (m + 1) (.cmp .In .none (.var 7)) rB ρ ah = awh fns m (.cmp .In .none (.var 7)) rB ρ' (ah.set r ((ss.set i (some (lea es i))).map ov)) := by
  have test := r_test g7 hr (by omega)
  rw [ha] at test
  have rb := rem_bd (t := t) hs
  have a1 := r1_ok g6 g7 hr hl h5
  have a2 := r2_ok (ρ := upd ρ 29 (.lst (FL es ss))) g5 g7 hr (by omega) hs
  have a3 := r3_no (ρ := upd (upd ρ 29 (.lst (FL es ss))) 30 (.int (rem t ss))) (ah := ah) rfl h0
  have a4 := r4_ok (ρ := upd (upd ρ 29 (.lst (FL es ss))) 30 (.int (rem t ss))) (ah := ah) (ss := ss) rfl he hl h5
  have hrm : small (rem t ss) = true := small_of (by omega) (by omega)
  have hfl : (flex ss).length ≤ ss.length := flexTo_len ss ss.length
  have lp := r5_loop (p := parts es ss) hr he hl h5 hrm (flex ss) [] (upd (upd (upd ρ 29 (.lst (FL es ss))) 30 (.int (rem t ss))) 15 (.int (parts es ss))) rfl rfl rfl g7
  rw [hf] at lp
  obtain ⟨ρ4, sm, lp⟩ := lp
  refine ⟨ρ4, (sm 5 (by decide) (by decide)).trans g5, (sm 6 (by decide) (by decide)).trans g6, (sm 7 (by decide) (by decide)).trans g7, fun m hm => ?_⟩
  obtain ⟨k, rfl⟩ : ∃ k, m = k + 6 := ⟨m - 6, by omega⟩
  refine Eq.trans (awh_yes (n := k + 6) (test _ (by omega))) ?_
  obtain ⟨j, rfl⟩ : ∃ j, k = j + 3 := ⟨k - 3, by omega⟩
  rw [rb_go (n := j + 3) (a1 _ (by omega)) (a2 _ (by omega)) (a3 _ (by omega)) (a4 _ (by omega)) (r5_run (n := j) rfl (by omega) (lp _ (by omega))) (.inl rfl)]
  simp only [Option.bind_some]
theorem r_none {ρ : AE} {ah : AH} {r : Nat} {t : Int} {es : List E3} {ss : List (Option Int)} (g5 : ρ 5 = some (.int t)) (g6 : ρ 6 = some (.lst (es.map ev))) (g7 : ρ 7 = some (.ref r)) (hr : ah[r]? = some (ss.map ov))
    (he : OkE es) (hs : OkS ss) (hl : ss.length = es.length) (h5 : es.length ≤ 5) (ht2 : t < 1000) (ha : ss.any Option.isNone = true) (h0 : ¬ rem t ss ≤ 0) (hf : (flex ss).find? (sh es (rem t ss) (parts es ss)) = none) :
    ∃ ρ', ρ' 7 = some (.ref r) ∧ ∀ m, 110 ≤ m → awh fns (m + 1) (.cmp .In .none (.var 7)) rB ρ ah = some (.nx, ρ', ah.set r ((fillL es (rem t ss) (parts es ss) (flex ss) 0 ss).map ov)) := by
  have test := r_test g7 hr (by omega)
  rw [ha] at test
  have rb := rem_bd (t := t) hs
  have a1 := r1_ok g6 g7 hr hl h5
  have a2 := r2_ok (ρ := upd ρ 29 (.lst (FL es ss))) g5 g7 hr (by omega) hs
  have a3 := r3_no (ρ := upd (upd ρ 29 (.lst (FL es ss))) 30 (.int (rem t ss))) (ah := ah) rfl h0
  have a4 := r4_ok (ρ := upd (upd ρ 29 (.lst (FL es ss))) 30 (.int (rem t ss))) (ah := ah) (ss := ss) rfl he hl h5
  have hrm : small (rem t ss) = true := small_of (by omega) (by omega)
  have hfl : (flex ss).length ≤ ss.length := flexTo_len ss ss.length
  have pb := parts_bd he hl h5 ha
  have lp := r5_loop (p := parts es ss) hr he hl h5 hrm (flex ss) [] (upd (upd (upd ρ 29 (.lst (FL es ss))) 30 (.int (rem t ss))) 15 (.int (parts es ss))) rfl rfl rfl g7
  rw [hf] at lp
  obtain ⟨ρ4, sm, lp⟩ := lp
  obtain ⟨ρ5, u1, u2⟩ := e1_ok (ρ := ρ4) hr he hl h5 hrm pb.1 pb.2 ((sm 29 (by decide) (by decide)).trans rfl) ((sm 30 (by decide) (by decide)).trans rfl) ((sm 15 (by decide) (by decide)).trans rfl) ((sm 7 (by decide) (by decide)).trans g7)
  refine ⟨ρ5, u1, fun m hm => ?_⟩
  obtain ⟨k, rfl⟩ : ∃ k, m = k + 6 := ⟨m - 6, by omega⟩
  refine Eq.trans (awh_yes (n := k + 6) (test _ (by omega))) ?_
  obtain ⟨j, rfl⟩ : ∃ j, k = j + 3 := ⟨k - 3, by omega⟩
  rw [rb_go (n := j + 3) (a1 _ (by omega)) (a2 _ (by omega)) (a3 _ (by omega)) (a4 _ (by omega)) (r5_run (n := j) rfl (by omega) ((lp _ (by omega)).trans (u2 _ (by omega)))) (.inr rfl)]
  simp only [Option.bind_some]
end Mine

end

section
open PySem
set_option autoImplicit false
set_option linter.unusedSimpArgs false
set_option linter.unusedVariables false
set_option maxRecDepth 100000
namespace Mine

theorem spec_done {n : Nat} {t : Int} {es : List E3} {ss : List (Option Int)} (h : ss.any Option.isNone = false) : spec (n + 1) t es ss = ss.map (·.getD 0) := by
  rw [spec, if_pos h]
theorem spec_out {n : Nat} {t : Int} {es : List E3} {ss : List (Option Int)} (h : ss.any Option.isNone = true) (h0 : rem t ss ≤ 0) : spec (n + 1) t es ss = outL es ss := by
  rw [spec, if_neg (by rw [h]; decide), if_pos h0]; rfl
theorem spec_found {n i : Nat} {t : Int} {es : List E3} {ss : List (Option Int)} (h : ss.any Option.isNone = true) (h0 : ¬ rem t ss ≤ 0) (hf : (flex ss).find? (sh es (rem t ss) (parts es ss)) = some i) : spec (n + 1) t es ss = spec n t es (ss.set i (some (lea es i))) := by
  rw [spec, if_neg (by rw [h]; decide), if_neg h0, hf]
theorem spec_none {n : Nat} {t : Int} {es : List E3} {ss : List (Option Int)} (h : ss.any Option.isNone = true) (h0 : ¬ rem t ss ≤ 0) (hf : (flex ss).find? (sh es (rem t ss) (parts es ss)) = none) : spec (n + 1) t es ss = (fillL es (rem t ss) (parts es ss) (flex ss) 0 ss).map (·.getD 0) := by
  rw [spec, if_neg (by rw [h]; decide), if_neg h0, hf]

def WOut (r : Nat) (ah : AH) (xs : List Int) (fl : AFl) (ρ' : AE) (ah' : AH) : Prop :=
  KeepBut r ah ah' ∧ (fl = .ret (.lst (xs.map .int)) ∨ (fl = .nx ∧ ρ' 7 = some (.ref r) ∧ ah'[r]? = some (xs.map .int)))

theorem r_while {t : Int} {es : List E3} {r : Nat} (he : OkE es) (h5 : es.length ≤ 5) (ht2 : t < 1000) :
    ∀ (n : Nat) (ss : List (Option Int)) (ρ : AE) (ah : AH), ss.countP Option.isNone < n → ρ 5 = some (.int t) → ρ 6 = some (.lst (es.map ev)) → ρ 7 = some (.ref r) → ah[r]? = some (ss.map ov) → OkS ss → ss.length = es.length →
      ∃ fl ρ' ah', (∀ m, 120 + n ≤ m → awh fns m (.cmp .In .none (.var 7)) rB ρ ah = some (fl, ρ', ah')) ∧ WOut r ah (spec n t es ss) fl ρ' ah' := by
  intro n
  induction n with
  | zero => intro ss ρ ah hc; exact absurd hc (Nat.not_lt_zero _)
  | succ n ih =>
    intro ss ρ ah hc g5 g6 g7 hr hs hl
    have hrl := get_lt hr
    cases ha : ss.any Option.isNone with
    | false =>
      have test := r_test g7 hr (by omega)
      rw [ha] at test
      refine ⟨.nx, ρ, ah, fun m hm => ?_, KeepBut.refl _ _, .inr ⟨rfl, g7, ?_⟩⟩
      · obtain ⟨k, rfl⟩ : ∃ k, m = k + 1 := ⟨m - 1, by omega⟩
        exact awh_no (test k (by omega))
      · rw [spec_done ha, hr, ints_ov ha]
    | true =>
      by_cases h0 : rem t ss ≤ 0
      · obtain ⟨ρ', h⟩ := r_done g5 g6 g7 hr he hs hl h5 ha h0
        exact ⟨_, ρ', ah, fun m hm => h m (by omega), KeepBut.refl _ _, .inl (by rw [spec_out ha h0])⟩
      · cases hf : (flex ss).find? (sh es (rem t ss) (parts es ss)) with
        | some i =>
          obtain ⟨ρ1, k5, k6, k7, h⟩ := r_found g5 g6 g7 hr he hs hl h5 ht2 ha h0 hf
          have him := mem_flexTo.mp (List.mem_of_find?_eq_some hf)
          have hb := rat_bd he (by omega : i < es.length)
          have hcs := count_set (v := lea es i) him.2
          obtain ⟨fl, ρ', ah', u1, u2, u3⟩ := ih (ss.set i (some (lea es i))) ρ1 (ah.set r ((ss.set i (some (lea es i))).map ov)) (by omega) k5 k6 k7 (List.getElem?_set_self hrl) (okS_set hs (by omega)) (by rw [List.length_set]; exact hl)
          refine ⟨fl, ρ', ah', fun m hm => ?_, KeepBut.set.trans u2, ?_⟩
          · obtain ⟨k, rfl⟩ : ∃ k, m = k + 1 := ⟨m - 1, by omega⟩
            rw [h k (by omega), u1 k (by omega)]
          · rw [spec_found ha h0 hf]; exact u3
        | none =>
          obtain ⟨ρ', k7, h⟩ := r_none g5 g6 g7 hr he hs hl h5 ht2 ha h0 hf
          refine ⟨.nx, ρ', ah.set r ((fillL es (rem t ss) (parts es ss) (flex ss) 0 ss).map ov), fun m hm => ?_, KeepBut.set, .inr ⟨rfl, k7, ?_⟩⟩
          · obtain ⟨k, rfl⟩ : ∃ k, m = k + 1 := ⟨m - 1, by omega⟩
            rw [h k (by omega)]
          · rw [List.getElem?_set_self hrl, spec_none ha h0 hf, ints_ov fillL_any]
end Mine

end

section
open PySem
set_option autoImplicit false
set_option linter.unusedSimpArgs false
set_option linter.unusedVariables false
set_option maxRecDepth 100000
namespace Mine

abbrev sz (es : List E3) : List (Option Int) := es.map (·.1)
theorem KeepBut.keep {ah a : AH} {x : List AV} (h : KeepBut ah.length (ah ++ [x]) a) : Keep ah a := fun q xs e => by
  have hq := get_lt e
  exact h q xs (by omega) (Keep.app ah [x] q xs e)

theorem count_le (l : List (Option Int)) : l.countP Option.isNone ≤ l.length := List.countP_le_length

theorem resolve_ok {t : Int} {es : List E3} {ah : AH} (he : OkE es) (hs : OkS (sz es)) (h5 : es.length ≤ 5) (ht2 : t < 1000) :
    ∃ v ah', (∀ n, 200 ≤ n → acall fns n 5 [.int t, .lst (es.map ev)] ah = some (v, ah')) ∧ items ah' v = some ((spec 10 t es (sz es)).map .int) ∧ Keep ah ah' := by
  have hok : srcOk ah (.L (.lst (es.map ev))) = true := ok_L items_lst (by rw [List.length_map]; omega)
  obtain ⟨acc', ah', ⟨e1, e2⟩, h2⟩ := acomp_run (F := fns) (elt := .bo true (.attr 0 (.var 27)) .none) (tg := .var 27) (ρ := capt (upd (upd (fun _ => none) 5 (.int t)) 6 (.lst (es.map ev))) []) (src := .L (.lst (es.map ev)))
    (fun k acc a => acc = ((sz es).take k).map ov ∧ a = ah) es.length 12
    (fun k acc a hk h => by
      obtain ⟨rfl, rfl⟩ := h
      have hk2 : (sz es)[k]? = some es[k].1 := by simp [sz, hk]
      refine ⟨by simp only [List.length_map, List.length_take]; omega, ev es[k], _, ov es[k].1, a, by rw [src_L items_lst]; simp [hk], rfl, fun n hn => ?_, ?_, rfl⟩
      · obtain ⟨m, rfl⟩ : ∃ m, n = m + 12 := ⟨n - 12, by omega⟩
        cases e : es[k].1 with
        | none => simp only [ae_none, ae_bool, ae_int, ae_var, ae_bin, ae_neg, ae_cmp, ae_bo, ae_ife, ae_call, ae_bi, ae_edge, ae_attr, ae_meth, ae_sub, ae_slice, ae_lstT, ae_lstF, ae_tup, ae_compT, ae_compF, ae_sumg, aes_nil, aes_cons, ait_e, ait_range, ait_zip, ait_ezip, att_nt, att_bo, att_var, att_cmp, att_sub, att_bin, att_comp, ax_asg, ax_asub, ax_aug, ax_appm, ax_app, ax_ite, ax_whl, ax_for, ax_brk, ax_cont, ax_ret, ax_asrt, ax_doc, axs_nil, axs_cons, upd_, bindT_var, bindT_2, bindT_3, items_lst, items_ref, tr_none, tr_bool, tr_int, tr_lst, tr_ref, b_add, b_sub, b_and, c_is, c_isnot, c_lt, c_le, c_gt, c_ge, c_eq, c_ne, nn_none, nn_int, nn_lst, nn_ref, Option.bind_some, Option.map_some, if_true, if_false, Bool.false_eq_true, reduceIte, Nat.reduceEqDiff, Nat.reduceAdd, List.length_cons, List.length_nil, Nat.reduceLT, Nat.add_zero, Nat.zero_add, ev, e, ov, p3_0]
        | some v =>
          have := hs (some v) (List.mem_of_getElem? (by rw [hk2, e])) v rfl
          have hne : (v != 0) = true := by simp; omega
          simp only [ae_none, ae_bool, ae_int, ae_var, ae_bin, ae_neg, ae_cmp, ae_bo, ae_ife, ae_call, ae_bi, ae_edge, ae_attr, ae_meth, ae_sub, ae_slice, ae_lstT, ae_lstF, ae_tup, ae_compT, ae_compF, ae_sumg, aes_nil, aes_cons, ait_e, ait_range, ait_zip, ait_ezip, att_nt, att_bo, att_var, att_cmp, att_sub, att_bin, att_comp, ax_asg, ax_asub, ax_aug, ax_appm, ax_app, ax_ite, ax_whl, ax_for, ax_brk, ax_cont, ax_ret, ax_asrt, ax_doc, axs_nil, axs_cons, upd_, bindT_var, bindT_2, bindT_3, items_lst, items_ref, tr_none, tr_bool, tr_int, tr_lst, tr_ref, b_add, b_sub, b_and, c_is, c_isnot, c_lt, c_le, c_gt, c_ge, c_eq, c_ne, nn_none, nn_int, nn_lst, nn_ref, Option.bind_some, Option.map_some, if_true, if_false, Bool.false_eq_true, reduceIte, Nat.reduceEqDiff, Nat.reduceAdd, List.length_cons, List.length_nil, Nat.reduceLT, Nat.add_zero, Nat.zero_add, ev, e, ov, p3_0, hne]
      · rw [List.take_succ, hk2, List.map_append]; rfl)
    (fun acc a h => by rw [src_L items_lst]; simp)
    es.length 0 [] ah (by omega) ⟨rfl, rfl⟩
  have hsl : (sz es).length = es.length := List.length_map ..
  rw [← hsl, List.take_length] at e1
  subst e1 e2
  have hcnt := count_le (sz es)
  obtain ⟨fl, ρ', a', w1, w2, w3⟩ := r_while (r := ah'.length) he h5 ht2 10 (sz es) (upd (upd (upd (fun _ => none) 5 (.int t)) 6 (.lst (es.map ev))) 7 (.ref ah'.length)) (ah' ++ [(sz es).map ov]) (by omega) rfl rfl rfl get_last hs hsl
  rcases w3 with rfl | ⟨rfl, w4, w5⟩
  · refine ⟨.lst ((spec 10 t es (sz es)).map .int), a', fun n hn => ?_, items_lst, KeepBut.keep w2⟩
    obtain ⟨m, rfl⟩ : ∃ m, n = m + 200 := ⟨n - 200, by omega⟩
    rw [acall_]
    simp only [fns, bd_ratio_resolve, st_ratio_resolve_0, st_ratio_resolve_1, resolve_2, st_ratio_resolve_3, List.drop_nil, List.append_nil, List.zip_cons_cons, List.zip_nil_right, List.foldl_cons, List.foldl_nil, Nat.sub_self, ae_none, ae_bool, ae_int, ae_var, ae_bin, ae_neg, ae_cmp, ae_bo, ae_ife, ae_call, ae_bi, ae_edge, ae_attr, ae_meth, ae_sub, ae_slice, ae_lstT, ae_lstF, ae_tup, ae_compT, ae_compF, ae_sumg, aes_nil, aes_cons, ait_e, ait_range, ait_zip, ait_ezip, att_nt, att_bo, att_var, att_cmp, att_sub, att_bin, att_comp, ax_asg, ax_asub, ax_aug, ax_appm, ax_app, ax_ite, ax_whl, ax_for, ax_brk, ax_cont, ax_ret, ax_asrt, ax_doc, axs_nil, axs_cons, upd_, bindT_var, bindT_2, bindT_3, items_lst, items_ref, tr_none, tr_bool, tr_int, tr_lst, tr_ref, b_add, b_sub, b_and, c_is, c_isnot, c_lt, c_le, c_gt, c_ge, c_eq, c_ne, nn_none, nn_int, nn_lst, nn_ref, Option.bind_some, Option.map_some, if_true, if_false, Bool.false_eq_true, reduceIte, Nat.reduceEqDiff, Nat.reduceAdd, List.length_cons, List.length_nil, Nat.reduceLT, Nat.add_zero, Nat.zero_add, hok]
    rw [h2 _ (by omega)]
    simp only [ae_none, ae_bool, ae_int, ae_var, ae_bin, ae_neg, ae_cmp, ae_bo, ae_ife, ae_call, ae_bi, ae_edge, ae_attr, ae_meth, ae_sub, ae_slice, ae_lstT, ae_lstF, ae_tup, ae_compT, ae_compF, ae_sumg, aes_nil, aes_cons, ait_e, ait_range, ait_zip, ait_ezip, att_nt, att_bo, att_var, att_cmp, att_sub, att_bin, att_comp, ax_asg, ax_asub, ax_aug, ax_appm, ax_app, ax_ite, ax_whl, ax_for, ax_brk, ax_cont, ax_ret, ax_asrt, ax_doc, axs_nil, axs_cons, upd_, bindT_var, bindT_2, bindT_3, items_lst, items_ref, tr_none, tr_bool, tr_int, tr_lst, tr_ref, b_add, b_sub, b_and, c_is, c_isnot, c_lt, c_le, c_gt, c_ge, c_eq, c_ne, nn_none, nn_int, nn_lst, nn_ref, Option.bind_some, Option.map_some, if_true, if_false, Bool.false_eq_true, reduceIte, Nat.reduceEqDiff, Nat.reduceAdd, List.length_cons, List.length_nil, Nat.reduceLT, Nat.add_zero, Nat.zero_add]
    rw [w1 _ (by omega)]
    simp only [ae_none, ae_bool, ae_int, ae_var, ae_bin, ae_neg, ae_cmp, ae_bo, ae_ife, ae_call, ae_bi, ae_edge, ae_attr, ae_meth, ae_sub, ae_slice, ae_lstT, ae_lstF, ae_tup, ae_compT, ae_compF, ae_sumg, aes_nil, aes_cons, ait_e, ait_range, ait_zip, ait_ezip, att_nt, att_bo, att_var, att_cmp, att_sub, att_bin, att_comp, ax_asg, ax_asub, ax_aug, ax_appm, ax_app, ax_ite, ax_whl, ax_for, ax_brk, ax_cont, ax_ret, ax_asrt, ax_doc, axs_nil, axs_cons, upd_, bindT_var, bindT_2, bindT_3, items_lst, items_ref, tr_none, tr_bool, tr_int, tr_lst, tr_ref, b_add, b_sub, b_and, c_is, c_isnot, c_lt, c_le, c_gt, c_ge, c_eq, c_ne, nn_none, nn_int, nn_lst, nn_ref, Option.bind_some, Option.map_some, if_true, if_false, Bool.false_eq_true, reduceIte, Nat.reduceEqDiff, Nat.reduceAdd, List.length_cons, List.length_nil, Nat.reduceLT, Nat.add_zero, Nat.zero_add]
  · refine ⟨.ref ah'.length, a', fun n hn => ?_, items_ref.trans w5, KeepBut.keep w2⟩
    obtain ⟨m, rfl⟩ : ∃ m, n = m + 200 := ⟨n - 200, by omega⟩
    rw [acall_]
    simp only [fns, bd_ratio_resolve, st_ratio_resolve_0, st_ratio_resolve_1, resolve_2, st_ratio_resolve_3, List.drop_nil, List.append_nil, List.zip_cons_cons, List.zip_nil_right, List.foldl_cons, List.foldl_nil, Nat.sub_self, ae_none, ae_bool, ae_int, ae_var, ae_bin, ae_neg, ae_cmp, ae_bo, ae_ife, ae_call, ae_bi, ae_edge, ae_attr, ae_meth, ae_sub, ae_slice, ae_lstT, ae_lstF, ae_tup, ae_compT, ae_compF, ae_sumg, aes_nil, aes_cons, ait_e, ait_range, ait_zip, ait_ezip, att_nt, att_bo, att_var, att_cmp, att_sub, att_bin, att_comp, ax_asg, ax_asub, ax_aug, ax_appm, ax_app, ax_ite, ax_whl, ax_for, ax_brk, ax_cont, ax_ret, ax_asrt, ax_doc, axs_nil, axs_cons, upd_, bindT_var, bindT_2, bindT_3, items_lst, items_ref, tr_none, tr_bool, tr_int, tr_lst, tr_ref, b_add, b_sub, b_and, c_is, c_isnot, c_lt, c_le, c_gt, c_ge, c_eq, c_ne, nn_none, nn_int, nn_lst, nn_ref, Option.bind_some, Option.map_some, if_true, if_false, Bool.false_eq_true, reduceIte, Nat.reduceEqDiff, Nat.reduceAdd, List.length_cons, List.length_nil, Nat.reduceLT, Nat.add_zero, Nat.zero_add, hok]
    rw [h2 _ (by omega)]
    simp only [ae_none, ae_bool, ae_int, ae_var, ae_bin, ae_neg, ae_cmp, ae_bo, ae_ife, ae_call, ae_bi, ae_edge, ae_attr, ae_meth, ae_sub, ae_slice, ae_lstT, ae_lstF, ae_tup, ae_compT, ae_compF, ae_sumg, aes_nil, aes_cons, ait_e, ait_range, ait_zip, ait_ezip, att_nt, att_bo, att_var, att_cmp, att_sub, att_bin, att_comp, ax_asg, ax_asub, ax_aug, ax_appm, ax_app, ax_ite, ax_whl, ax_for, ax_brk, ax_cont, ax_ret, ax_asrt, ax_doc, axs_nil, axs_cons, upd_, bindT_var, bindT_2, bindT_3, items_lst, items_ref, tr_none, tr_bool, tr_int, tr_lst, tr_ref, b_add, b_sub, b_and, c_is, c_isnot, c_lt, c_le, c_gt, c_ge, c_eq, c_ne, nn_none, nn_int, nn_lst, nn_ref, Option.bind_some, Option.map_some, if_true, if_false, Bool.false_eq_true, reduceIte, Nat.reduceEqDiff, Nat.reduceAdd, List.length_cons, List.length_nil, Nat.reduceLT, Nat.add_zero, Nat.zero_add]
    rw [w1 _ (by omega)]
    simp only [ae_none, ae_bool, ae_int, ae_var, ae_bin, ae_neg, ae_cmp, ae_bo, ae_ife, ae_call, ae_bi, ae_edge, ae_attr, ae_meth, ae_sub, ae_slice, ae_lstT, ae_lstF, ae_tup, ae_compT, ae_compF, ae_sumg, aes_nil, aes_cons, ait_e, ait_range, ait_zip, ait_ezip, att_nt, att_bo, att_var, att_cmp, att_sub, att_bin, att_comp, ax_asg, ax_asub, ax_aug, ax_appm, ax_app, ax_ite, ax_whl, ax_for, ax_brk, ax_cont, ax_ret, ax_asrt, ax_doc, axs_nil, axs_cons, upd_, bindT_var, bindT_2, bindT_3, items_lst, items_ref, tr_none, tr_bool, tr_int, tr_lst, tr_ref, b_add, b_sub, b_and, c_is, c_isnot, c_lt, c_le, c_gt, c_ge, c_eq, c_ne, nn_none, nn_int, nn_lst, nn_ref, Option.bind_some, Option.map_some, if_true, if_false, Bool.false_eq_true, reduceIte, Nat.reduceEqDiff, Nat.reduceAdd, List.length_cons, List.length_nil, Nat.reduceLT, Nat.add_zero, Nat.zero_add, w4]
end Mine

end

section
open PySem
set_option autoImplicit false
set_option linter.unusedSimpArgs false
set_option linter.unusedVariables false
set_option maxRecDepth 100000
namespace Mine

def et (e : E3) : AV := .tup [ov e.1, .int e.2.1, .int e.2.2]
def LK (l : List Nat) : List AV := l.map fun (k : Nat) => .int k
def l1 : SS := (.asg (.var 12) (.comp (.var 11) (.var 11) (.range (.bi .len (.cons (.var 6) .nil))) (.some (.cmp .Is (.sub (.var 7) (.var 11)) .none)) false [7]))
def l2 : SS := (.asg (.t2 (.var 14) (.var 15)) (.tup (.cons (.bin .Sub (.var 5) (.bi .sum (.cons (.comp (.var 8) (.var 8) (.e (.var 7)) (.some (.cmp .IsNot (.var 8) .none)) false []) .nil))) (.cons (.bi .sum (.cons (.comp (.sub (.sub (.var 6) (.var 11)) (.int 1)) (.var 11) (.e (.var 12)) .none false [6]) .nil)) .nil))))
def l3 : SS := (.ite (.cmp .LtE (.var 14) (.int 0)) (.cons (.ret (.comp (.ife (.cmp .Is (.sub (.var 7) (.var 11)) .none) (.sub (.sub (.var 6) (.var 11)) (.int 2)) (.sub (.var 7) (.var 11))) (.var 11) (.range (.bi .len (.cons (.var 6) .nil))) .none false [7, 6])) .nil) .nil)
def l4 : SS := (.asg (.var 16) (.comp (.var 11) (.var 11) (.e (.var 12)) (.some (.cmp .LtE (.bin .Mult (.var 14) (.sub (.sub (.var 6) (.var 11)) (.int 1))) (.bin .Mult (.sub (.sub (.var 6) (.var 11)) (.int 2)) (.var 15)))) false [14, 15, 6]))
def l5 : SS := (.ite (.var 16) (.cons (.asub 7 (.sub (.var 16) (.int 0)) (.sub (.sub (.var 6) (.sub (.var 16) (.int 0))) (.int 2))) (.cons .cont .nil)) .nil)
def l6 : SS := (.asg (.var 13) (.int 0))
def l7b : SL := (.cons (.asub 7 (.var 11) (.bin .Sub (.bin .FloorDiv (.bin .Mult (.var 14) (.bin .Add (.var 13) (.sub (.sub (.var 6) (.var 11)) (.int 1)))) (.var 15)) (.bin .FloorDiv (.bin .Mult (.var 14) (.var 13)) (.var 15)))) (.cons (.asg (.var 13) (.bin .Add (.var 13) (.sub (.sub (.var 6) (.var 11)) (.int 1)))) .nil))
def l7 : SS := (.for_ (.var 11) (.e (.var 12)) l7b .nil)
def lB : SL := (.cons l1 (.cons l2 (.cons l3 (.cons l4 (.cons l5 (.cons l6 (.cons l7 .nil)))))))
theorem sizes_2 : st_law_sizes_2 = .whl (.cmp .In .none (.var 7)) lB := rfl

theorem et_at {es : List E3} {ah : AH} {k : Nat} (hk : k < es.length) (hl : es.length < 1000) : asub ah (.lst (es.map et)) (.int k) = some (.tup [ov es[k].1, .int (rat es k), .int (lea es k)]) := by
  rw [sub_at hk hl, rat_at hk, lea_at hk]; rfl
theorem t3_0 {ah : AH} {a b c : AV} : asub ah (.tup [a, b, c]) (.int 0) = some a := by rw [sub_tup (by decide)]; rfl
theorem t3_1 {ah : AH} {a b c : AV} : asub ah (.tup [a, b, c]) (.int 1) = some b := by rw [sub_tup (by decide)]; rfl
theorem t3_2 {ah : AH} {a b c : AV} : asub ah (.tup [a, b, c]) (.int 2) = some c := by rw [sub_tup (by decide)]; rfl
theorem ss_at {ss : List (Option Int)} {ah : AH} {r k : Nat} (hr : ah[r]? = some (ss.map ov)) (hk : k < ss.length) (hl : ss.length < 1000) : asub ah (.ref r) (.int k) = some (ov ss[k]) := by
  rw [sub_ref (by omega) hr, Int.toNat_natCast, List.getElem?_map, List.getElem?_eq_getElem hk]; rfl
theorem nn_ov (s : Option Int) : isNone (ov s) = s.isNone := by cases s <;> rfl

theorem l1_ok {ρ : AE} {ah : AH} {r : Nat} {es : List E3} {ss : List (Option Int)} (h6 : ρ 6 = some (.lst (es.map et))) (h7 : ρ 7 = some (.ref r)) (hr : ah[r]? = some (ss.map ov)) (hl : ss.length = es.length) (h5 : es.length ≤ 5) :
    ∀ n, 40 ≤ n → ax fns n l1 ρ ah = some (.nx, upd ρ 12 (.lst (LK (flex ss))), ah) := by
  intro n hn
  obtain ⟨m, rfl⟩ : ∃ m, n = m + 40 := ⟨n - 40, by omega⟩
  have hlen : abi .len ah [.lst (es.map et)] = some (.int es.length) := by rw [i_len items_lst (by rw [List.length_map]; omega), List.length_map]
  have hrg : (0 : Int) ≤ es.length ∧ (es.length : Int) < 1000 := by omega
  have c7 : capt ρ [7] 7 = some (.ref r) := h7
  obtain ⟨acc', ah', ⟨rfl, rfl⟩, h2⟩ := acomp_runF (F := fns) (elt := .var 11) (cnd := .cmp .Is (.sub (.var 7) (.var 11)) .none) (tg := .var 11) (ρ := capt ρ [7]) (src := .R es.length)
    (fun k acc a => acc = LK (flexTo ss k) ∧ a = ah) es.length 12
    (fun k acc a hk h => by
      obtain ⟨rfl, rfl⟩ := h
      have hk2 : k < ss.length := by omega
      have hfl := flexTo_len ss k
      have hs := ss_at hr hk2 (by omega)
      refine ⟨by rw [LK, List.length_map]; omega, .int k, _, Option.isNone ss[k], a, by rw [src_R, if_pos hk], rfl, fun n hn => ?_, fun hb => ⟨.int k, a, fun n hn => ?_, ?_, rfl⟩, fun hb => ⟨?_, rfl⟩⟩
      · obtain ⟨m, rfl⟩ : ∃ m, n = m + 12 := ⟨n - 12, by omega⟩
        simp only [ae_none, ae_bool, ae_int, ae_var, ae_bin, ae_neg, ae_cmp, ae_bo, ae_ife, ae_call, ae_bi, ae_edge, ae_attr, ae_meth, ae_sub, ae_slice, ae_lstT, ae_lstF, ae_tup, ae_compT, ae_compF, ae_sumg, aes_nil, aes_cons, ait_e, ait_range, ait_zip, ait_ezip, att_nt, att_bo, att_var, att_cmp, att_sub, att_bin, att_comp, ax_asg, ax_asub, ax_aug, ax_appm, ax_app, ax_ite, ax_whl, ax_for, ax_brk, ax_cont, ax_ret, ax_asrt, ax_doc, axs_nil, axs_cons, upd_, bindT_var, bindT_2, bindT_3, items_lst, items_ref, tr_none, tr_bool, tr_int, tr_lst, tr_ref, b_add, b_sub, b_and, c_is, c_isnot, c_lt, c_le, c_gt, c_ge, c_eq, c_ne, nn_none, nn_int, nn_lst, nn_ref, Option.bind_some, Option.map_some, if_true, if_false, Bool.false_eq_true, reduceIte, Nat.reduceEqDiff, Nat.reduceAdd, List.length_cons, List.length_nil, Nat.reduceLT, Nat.add_zero, Nat.zero_add, c7, hs, nn_ov]
      · obtain ⟨m, rfl⟩ : ∃ m, n = m + 12 := ⟨n - 12, by omega⟩
        simp only [ae_none, ae_bool, ae_int, ae_var, ae_bin, ae_neg, ae_cmp, ae_bo, ae_ife, ae_call, ae_bi, ae_edge, ae_attr, ae_meth, ae_sub, ae_slice, ae_lstT, ae_lstF, ae_tup, ae_compT, ae_compF, ae_sumg, aes_nil, aes_cons, ait_e, ait_range, ait_zip, ait_ezip, att_nt, att_bo, att_var, att_cmp, att_sub, att_bin, att_comp, ax_asg, ax_asub, ax_aug, ax_appm, ax_app, ax_ite, ax_whl, ax_for, ax_brk, ax_cont, ax_ret, ax_asrt, ax_doc, axs_nil, axs_cons, upd_, bindT_var, bindT_2, bindT_3, items_lst, items_ref, tr_none, tr_bool, tr_int, tr_lst, tr_ref, b_add, b_sub, b_and, c_is, c_isnot, c_lt, c_le, c_gt, c_ge, c_eq, c_ne, nn_none, nn_int, nn_lst, nn_ref, Option.bind_some, Option.map_some, if_true, if_false, Bool.false_eq_true, reduceIte, Nat.reduceEqDiff, Nat.reduceAdd, List.length_cons, List.length_nil, Nat.reduceLT, Nat.add_zero, Nat.zero_add]
      · have : isN ss k = true := isN_iff.mpr (by rw [List.getElem?_eq_getElem hk2]; cases e : ss[k] <;> simp_all)
        rw [flexTo_succ, if_pos this, LK, LK, List.map_append]; rfl
      · have : ¬ isN ss k = true := fun q => by
          have := isN_iff.mp q
          rw [List.getElem?_eq_getElem hk2] at this
          rw [Option.some.inj this] at hb; cases hb
        rw [flexTo_succ, if_neg this, List.append_nil])
    (fun acc a h => by rw [src_R, if_neg (by omega)])
    es.length 0 [] ah (by omega) ⟨rfl, rfl⟩
  simp only [l1, ae_none, ae_bool, ae_int, ae_var, ae_bin, ae_neg, ae_cmp, ae_bo, ae_ife, ae_call, ae_bi, ae_edge, ae_attr, ae_meth, ae_sub, ae_slice, ae_lstT, ae_lstF, ae_tup, ae_compT, ae_compF, ae_sumg, aes_nil, aes_cons, ait_e, ait_range, ait_zip, ait_ezip, att_nt, att_bo, att_var, att_cmp, att_sub, att_bin, att_comp, ax_asg, ax_asub, ax_aug, ax_appm, ax_app, ax_ite, ax_whl, ax_for, ax_brk, ax_cont, ax_ret, ax_asrt, ax_doc, axs_nil, axs_cons, upd_, bindT_var, bindT_2, bindT_3, items_lst, items_ref, tr_none, tr_bool, tr_int, tr_lst, tr_ref, b_add, b_sub, b_and, c_is, c_isnot, c_lt, c_le, c_gt, c_ge, c_eq, c_ne, nn_none, nn_int, nn_lst, nn_ref, Option.bind_some, Option.map_some, if_true, if_false, Bool.false_eq_true, reduceIte, Nat.reduceEqDiff, Nat.reduceAdd, List.length_cons, List.length_nil, Nat.reduceLT, Nat.add_zero, Nat.zero_add, h6, h7, hlen, hrg, and_self, Int.toNat_natCast]
  rw [h2 _ (by omega)]
  simp only [ae_none, ae_bool, ae_int, ae_var, ae_bin, ae_neg, ae_cmp, ae_bo, ae_ife, ae_call, ae_bi, ae_edge, ae_attr, ae_meth, ae_sub, ae_slice, ae_lstT, ae_lstF, ae_tup, ae_compT, ae_compF, ae_sumg, aes_nil, aes_cons, ait_e, ait_range, ait_zip, ait_ezip, att_nt, att_bo, att_var, att_cmp, att_sub, att_bin, att_comp, ax_asg, ax_asub, ax_aug, ax_appm, ax_app, ax_ite, ax_whl, ax_for, ax_brk, ax_cont, ax_ret, ax_asrt, ax_doc, axs_nil, axs_cons, upd_, bindT_var, bindT_2, bindT_3, items_lst, items_ref, tr_none, tr_bool, tr_int, tr_lst, tr_ref, b_add, b_sub, b_and, c_is, c_isnot, c_lt, c_le, c_gt, c_ge, c_eq, c_ne, nn_none, nn_int, nn_lst, nn_ref, Option.bind_some, Option.map_some, if_true, if_false, Bool.false_eq_true, reduceIte, Nat.reduceEqDiff, Nat.reduceAdd, List.length_cons, List.length_nil, Nat.reduceLT, Nat.add_zero, Nat.zero_add, ← hl]

def vals (ss : List (Option Int)) : List Int := ss.filterMap id
theorem vals_sum (ss : List (Option Int)) : (vals ss).sum = (ss.map (·.getD 0)).sum := by
  induction ss with
  | nil => rfl
  | cons s r ih =>
    cases s with
    | none =>
      show (vals r).sum = _
      rw [List.map_cons, List.sum_cons, ← ih]; simp
    | some v =>
      show (v :: vals r).sum = _
      rw [List.map_cons, List.sum_cons, List.sum_cons, ← ih]; rfl
theorem vals_len (ss : List (Option Int)) : (vals ss).length ≤ ss.length := List.length_filterMap_le ..
theorem vals_mem {ss : List (Option Int)} {v : Int} (h : v ∈ vals ss) : some v ∈ ss := by
  obtain ⟨s, h1, h2⟩ := List.mem_filterMap.mp h
  have : s = some v := h2
  rw [← this]; exact h1

theorem l2_ok {ρ : AE} {ah : AH} {r : Nat} {t : Int} {es : List E3} {ss : List (Option Int)} (g5 : ρ 5 = some (.int t)) (h6 : ρ 6 = some (.lst (es.map et))) (h7 : ρ 7 = some (.ref r)) (h12 : ρ 12 = some (.lst (LK (flex ss)))) (hr : ah[r]? = some (ss.map ov)) (he : OkE es) (hs : OkS ss) (hl : ss.length = es.length) (h5 : es.length ≤ 5) :
    ∀ n, 40 ≤ n → ax fns n l2 ρ ah = some (.nx, upd (upd ρ 14 (.int (rem t ss))) 15 (.int (parts es ss)), ah) := by
  intro n hn
  obtain ⟨m, rfl⟩ : ∃ m, n = m + 40 := ⟨n - 40, by omega⟩
  have hf := flex_bd he hl
  have hfl : (flex ss).length ≤ ss.length := flexTo_len ss ss.length
  have hok : srcOk ah (.L (.ref r)) = true := ok_L (items_ref.trans hr) (by rw [List.length_map]; omega)
  have hok2 : srcOk ah (.L (.lst (LK (flex ss)))) = true := ok_L items_lst (by rw [LK, List.length_map]; omega)
  have c6 : capt ρ [6] 6 = some (.lst (es.map et)) := h6
  obtain ⟨acc', ah', ⟨rfl, rfl⟩, h2⟩ := acomp_runF (F := fns) (elt := .var 8) (cnd := .cmp .IsNot (.var 8) .none) (tg := .var 8) (ρ := capt ρ []) (src := .L (.ref r))
    (fun k acc a => acc = (vals (ss.take k)).map .int ∧ a = ah) ss.length 12
    (fun k acc a hk h => by
      obtain ⟨rfl, rfl⟩ := h
      have hvl := vals_len (ss.take k)
      rw [List.length_take] at hvl
      have hk3 := List.getElem?_eq_getElem hk
      refine ⟨by rw [List.length_map]; omega, ov ss[k], _, !Option.isNone ss[k], a, by rw [src_L (items_ref.trans hr)]; simp [hk], rfl, fun n hn => ?_, fun hb => ⟨ov ss[k], a, fun n hn => ?_, ?_, rfl⟩, fun hb => ⟨?_, rfl⟩⟩
      · obtain ⟨m, rfl⟩ : ∃ m, n = m + 12 := ⟨n - 12, by omega⟩
        simp only [ae_none, ae_bool, ae_int, ae_var, ae_bin, ae_neg, ae_cmp, ae_bo, ae_ife, ae_call, ae_bi, ae_edge, ae_attr, ae_meth, ae_sub, ae_slice, ae_lstT, ae_lstF, ae_tup, ae_compT, ae_compF, ae_sumg, aes_nil, aes_cons, ait_e, ait_range, ait_zip, ait_ezip, att_nt, att_bo, att_var, att_cmp, att_sub, att_bin, att_comp, ax_asg, ax_asub, ax_aug, ax_appm, ax_app, ax_ite, ax_whl, ax_for, ax_brk, ax_cont, ax_ret, ax_asrt, ax_doc, axs_nil, axs_cons, upd_, bindT_var, bindT_2, bindT_3, items_lst, items_ref, tr_none, tr_bool, tr_int, tr_lst, tr_ref, b_add, b_sub, b_and, c_is, c_isnot, c_lt, c_le, c_gt, c_ge, c_eq, c_ne, nn_none, nn_int, nn_lst, nn_ref, Option.bind_some, Option.map_some, if_true, if_false, Bool.false_eq_true, reduceIte, Nat.reduceEqDiff, Nat.reduceAdd, List.length_cons, List.length_nil, Nat.reduceLT, Nat.add_zero, Nat.zero_add, nn_ov]
      · obtain ⟨m, rfl⟩ : ∃ m, n = m + 12 := ⟨n - 12, by omega⟩
        simp only [ae_none, ae_bool, ae_int, ae_var, ae_bin, ae_neg, ae_cmp, ae_bo, ae_ife, ae_call, ae_bi, ae_edge, ae_attr, ae_meth, ae_sub, ae_slice, ae_lstT, ae_lstF, ae_tup, ae_compT, ae_compF, ae_sumg, aes_nil, aes_cons, ait_e, ait_range, ait_zip, ait_ezip, att_nt, att_bo, att_var, att_cmp, att_sub, att_bin, att_comp, ax_asg, ax_asub, ax_aug, ax_appm, ax_app, ax_ite, ax_whl, ax_for, ax_brk, ax_cont, ax_ret, ax_asrt, ax_doc, axs_nil, axs_cons, upd_, bindT_var, bindT_2, bindT_3, items_lst, items_ref, tr_none, tr_bool, tr_int, tr_lst, tr_ref, b_add, b_sub, b_and, c_is, c_isnot, c_lt, c_le, c_gt, c_ge, c_eq, c_ne, nn_none, nn_int, nn_lst, nn_ref, Option.bind_some, Option.map_some, if_true, if_false, Bool.false_eq_true, reduceIte, Nat.reduceEqDiff, Nat.reduceAdd, List.length_cons, List.length_nil, Nat.reduceLT, Nat.add_zero, Nat.zero_add]
      · cases e : ss[k] with
        | none => rw [e] at hb; cases hb
        | some v =>
          rw [e] at hk3
          rw [List.take_succ, hk3, vals, vals, List.filterMap_append, List.map_append]; rfl
      · cases e : ss[k] with
        | some v => rw [e] at hb; cases hb
        | none =>
          rw [e] at hk3
          rw [List.take_succ, hk3, vals, vals, List.filterMap_append, List.map_append]; simp)
    (fun acc a h => by rw [src_L (by obtain ⟨rfl, rfl⟩ := h; exact items_ref.trans hr)]; simp)
    ss.length 0 [] ah (by omega) ⟨rfl, rfl⟩
  obtain ⟨acc2, ah2, ⟨rfl, rfl⟩, h3⟩ := acomp_run (F := fns) (elt := .sub (.sub (.var 6) (.var 11)) (.int 1)) (tg := .var 11) (ρ := capt ρ [6]) (src := .L (.lst (LK (flex ss))))
    (fun j acc a => acc = (((flex ss).take j).map (rat es)).map .int ∧ a = ah') (flex ss).length 12
    (fun j acc a hj h => by
      obtain ⟨rfl, rfl⟩ := h
      have hj2 := List.getElem?_eq_getElem hj
      have hm : (flex ss)[j] ∈ flex ss := List.getElem_mem hj
      generalize (flex ss)[j] = k at *
      have hb := hf k hm
      have hs := et_at (ah := a) hb.1 (by omega)
      refine ⟨by rw [List.length_map, List.length_map, List.length_take]; omega, .int k, _, .int (rat es k), a, by rw [src_L items_lst, LK, List.getElem?_map, hj2]; rfl, rfl, fun n hn => ?_, ?_, rfl⟩
      · obtain ⟨m, rfl⟩ : ∃ m, n = m + 12 := ⟨n - 12, by omega⟩
        simp only [ae_none, ae_bool, ae_int, ae_var, ae_bin, ae_neg, ae_cmp, ae_bo, ae_ife, ae_call, ae_bi, ae_edge, ae_attr, ae_meth, ae_sub, ae_slice, ae_lstT, ae_lstF, ae_tup, ae_compT, ae_compF, ae_sumg, aes_nil, aes_cons, ait_e, ait_range, ait_zip, ait_ezip, att_nt, att_bo, att_var, att_cmp, att_sub, att_bin, att_comp, ax_asg, ax_asub, ax_aug, ax_appm, ax_app, ax_ite, ax_whl, ax_for, ax_brk, ax_cont, ax_ret, ax_asrt, ax_doc, axs_nil, axs_cons, upd_, bindT_var, bindT_2, bindT_3, items_lst, items_ref, tr_none, tr_bool, tr_int, tr_lst, tr_ref, b_add, b_sub, b_and, c_is, c_isnot, c_lt, c_le, c_gt, c_ge, c_eq, c_ne, nn_none, nn_int, nn_lst, nn_ref, Option.bind_some, Option.map_some, if_true, if_false, Bool.false_eq_true, reduceIte, Nat.reduceEqDiff, Nat.reduceAdd, List.length_cons, List.length_nil, Nat.reduceLT, Nat.add_zero, Nat.zero_add, c6, hs, t3_1]
      · rw [List.take_succ, hj2, List.map_append, List.map_append]; rfl)
    (fun acc a h => by rw [src_L items_lst]; simp [LK])
    (flex ss).length 0 [] ah' (by omega) ⟨rfl, rfl⟩
  rw [List.take_length] at h2 h3
  have hs1 : abi .sum ah2 [.lst ((vals ss).map .int)] = some (.int (vals ss).sum) := by
    have hvl := vals_len ss
    refine i_sum items_lst (by omega) fun i hi => ?_
    have := hs _ (vals_mem hi) i rfl
    exact small30_of (by omega) (by omega)
  have hs2 : abi .sum ah2 [.lst (((flex ss).map (rat es)).map .int)] = some (.int ((flex ss).map (rat es)).sum) := by
    refine i_sum items_lst (by rw [List.length_map]; omega) fun i hi => ?_
    obtain ⟨k, h1, rfl⟩ := List.mem_map.mp hi
    have := hf k h1
    exact small30_of (by omega) (by omega)
  simp only [l2, ae_none, ae_bool, ae_int, ae_var, ae_bin, ae_neg, ae_cmp, ae_bo, ae_ife, ae_call, ae_bi, ae_edge, ae_attr, ae_meth, ae_sub, ae_slice, ae_lstT, ae_lstF, ae_tup, ae_compT, ae_compF, ae_sumg, aes_nil, aes_cons, ait_e, ait_range, ait_zip, ait_ezip, att_nt, att_bo, att_var, att_cmp, att_sub, att_bin, att_comp, ax_asg, ax_asub, ax_aug, ax_appm, ax_app, ax_ite, ax_whl, ax_for, ax_brk, ax_cont, ax_ret, ax_asrt, ax_doc, axs_nil, axs_cons, upd_, bindT_var, bindT_2, bindT_3, items_lst, items_ref, tr_none, tr_bool, tr_int, tr_lst, tr_ref, b_add, b_sub, b_and, c_is, c_isnot, c_lt, c_le, c_gt, c_ge, c_eq, c_ne, nn_none, nn_int, nn_lst, nn_ref, Option.bind_some, Option.map_some, if_true, if_false, Bool.false_eq_true, reduceIte, Nat.reduceEqDiff, Nat.reduceAdd, List.length_cons, List.length_nil, Nat.reduceLT, Nat.add_zero, Nat.zero_add, g5, h6, h7, h12, hok, hok2]
  rw [h2 _ (by omega)]
  simp only [ae_none, ae_bool, ae_int, ae_var, ae_bin, ae_neg, ae_cmp, ae_bo, ae_ife, ae_call, ae_bi, ae_edge, ae_attr, ae_meth, ae_sub, ae_slice, ae_lstT, ae_lstF, ae_tup, ae_compT, ae_compF, ae_sumg, aes_nil, aes_cons, ait_e, ait_range, ait_zip, ait_ezip, att_nt, att_bo, att_var, att_cmp, att_sub, att_bin, att_comp, ax_asg, ax_asub, ax_aug, ax_appm, ax_app, ax_ite, ax_whl, ax_for, ax_brk, ax_cont, ax_ret, ax_asrt, ax_doc, axs_nil, axs_cons, upd_, bindT_var, bindT_2, bindT_3, items_lst, items_ref, tr_none, tr_bool, tr_int, tr_lst, tr_ref, b_add, b_sub, b_and, c_is, c_isnot, c_lt, c_le, c_gt, c_ge, c_eq, c_ne, nn_none, nn_int, nn_lst, nn_ref, Option.bind_some, Option.map_some, if_true, if_false, Bool.false_eq_true, reduceIte, Nat.reduceEqDiff, Nat.reduceAdd, List.length_cons, List.length_nil, Nat.reduceLT, Nat.add_zero, Nat.zero_add, hs1, h12, hok2]
  rw [h3 _ (by omega)]
  simp only [ae_none, ae_bool, ae_int, ae_var, ae_bin, ae_neg, ae_cmp, ae_bo, ae_ife, ae_call, ae_bi, ae_edge, ae_attr, ae_meth, ae_sub, ae_slice, ae_lstT, ae_lstF, ae_tup, ae_compT, ae_compF, ae_sumg, aes_nil, aes_cons, ait_e, ait_range, ait_zip, ait_ezip, att_nt, att_bo, att_var, att_cmp, att_sub, att_bin, att_comp, ax_asg, ax_asub, ax_aug, ax_appm, ax_app, ax_ite, ax_whl, ax_for, ax_brk, ax_cont, ax_ret, ax_asrt, ax_doc, axs_nil, axs_cons, upd_, bindT_var, bindT_2, bindT_3, items_lst, items_ref, tr_none, tr_bool, tr_int, tr_lst, tr_ref, b_add, b_sub, b_and, c_is, c_isnot, c_lt, c_le, c_gt, c_ge, c_eq, c_ne, nn_none, nn_int, nn_lst, nn_ref, Option.bind_some, Option.map_some, if_true, if_false, Bool.false_eq_true, reduceIte, Nat.reduceEqDiff, Nat.reduceAdd, List.length_cons, List.length_nil, Nat.reduceLT, Nat.add_zero, Nat.zero_add, hs2]
  rw [vals_sum]; rfl
end Mine

end

section
open PySem
set_option autoImplicit false
set_option linter.unusedSimpArgs false
set_option linter.unusedVariables false
set_option maxRecDepth 100000
namespace Mine

theorem l3_no {ρ : AE} {ah : AH} {rm : Int} (h14 : ρ 14 = some (.int rm)) (h : ¬ rm ≤ 0) : ∀ n, 20 ≤ n → ax fns n l3 ρ ah = some (.nx, ρ, ah) := by
  intro n hn
  obtain ⟨m, rfl⟩ : ∃ m, n = m + 20 := ⟨n - 20, by omega⟩
  simp only [l3, ae_none, ae_bool, ae_int, ae_var, ae_bin, ae_neg, ae_cmp, ae_bo, ae_ife, ae_call, ae_bi, ae_edge, ae_attr, ae_meth, ae_sub, ae_slice, ae_lstT, ae_lstF, ae_tup, ae_compT, ae_compF, ae_sumg, aes_nil, aes_cons, ait_e, ait_range, ait_zip, ait_ezip, att_nt, att_bo, att_var, att_cmp, att_sub, att_bin, att_comp, ax_asg, ax_asub, ax_aug, ax_appm, ax_app, ax_ite, ax_whl, ax_for, ax_brk, ax_cont, ax_ret, ax_asrt, ax_doc, axs_nil, axs_cons, upd_, bindT_var, bindT_2, bindT_3, items_lst, items_ref, tr_none, tr_bool, tr_int, tr_lst, tr_ref, b_add, b_sub, b_and, c_is, c_isnot, c_lt, c_le, c_gt, c_ge, c_eq, c_ne, nn_none, nn_int, nn_lst, nn_ref, Option.bind_some, Option.map_some, if_true, if_false, Bool.false_eq_true, reduceIte, Nat.reduceEqDiff, Nat.reduceAdd, List.length_cons, List.length_nil, Nat.reduceLT, Nat.add_zero, Nat.zero_add, h14, h, decide_false]
theorem l3_yes {ρ : AE} {ah : AH} {r : Nat} {rm : Int} {es : List E3} {ss : List (Option Int)} (h14 : ρ 14 = some (.int rm)) (h : rm ≤ 0) (h6 : ρ 6 = some (.lst (es.map et))) (h7 : ρ 7 = some (.ref r)) (hr : ah[r]? = some (ss.map ov)) (hl : ss.length = es.length) (h5 : es.length ≤ 5) :
    ∀ n, 40 ≤ n → ax fns n l3 ρ ah = some (.ret (.lst ((outL es ss).map .int)), ρ, ah) := by
  intro n hn
  obtain ⟨m, rfl⟩ : ∃ m, n = m + 40 := ⟨n - 40, by omega⟩
  have hlen : abi .len ah [.lst (es.map et)] = some (.int es.length) := by rw [i_len items_lst (by rw [List.length_map]; omega), List.length_map]
  have hrg : (0 : Int) ≤ es.length ∧ (es.length : Int) < 1000 := by omega
  have c7 : capt ρ [7, 6] 7 = some (.ref r) := h7
  have c6 : capt ρ [7, 6] 6 = some (.lst (es.map et)) := h6
  obtain ⟨acc', ah', ⟨rfl, rfl⟩, h2⟩ := acomp_run (F := fns) (elt := .ife (.cmp .Is (.sub (.var 7) (.var 11)) .none) (.sub (.sub (.var 6) (.var 11)) (.int 2)) (.sub (.var 7) (.var 11))) (tg := .var 11) (ρ := capt ρ [7, 6]) (src := .R es.length)
    (fun k acc a => acc = ((outL es ss).take k).map .int ∧ a = ah) es.length 12
    (fun k acc a hk h => by
      obtain ⟨rfl, rfl⟩ := h
      have hk2 : k < ss.length := by omega
      have ho : (outL es ss)[k]? = some (ss[k].getD (lea es k)) := by rw [lea_at hk]; simp [outL, List.zip, List.getElem?_zipWith, hk, hk2]
      have s1 := ss_at hr hk2 (by omega)
      have s2 := et_at (ah := a) hk (by omega)
      refine ⟨by rw [List.length_map, List.length_take]; omega, .int k, _, .int (ss[k].getD (lea es k)), a, by rw [src_R, if_pos hk], rfl, fun n hn => ?_, ?_, rfl⟩
      · obtain ⟨m, rfl⟩ : ∃ m, n = m + 12 := ⟨n - 12, by omega⟩
        cases e : ss[k] with
        | none => rw [e] at s1; simp only [ae_none, ae_bool, ae_int, ae_var, ae_bin, ae_neg, ae_cmp, ae_bo, ae_ife, ae_call, ae_bi, ae_edge, ae_attr, ae_meth, ae_sub, ae_slice, ae_lstT, ae_lstF, ae_tup, ae_compT, ae_compF, ae_sumg, aes_nil, aes_cons, ait_e, ait_range, ait_zip, ait_ezip, att_nt, att_bo, att_var, att_cmp, att_sub, att_bin, att_comp, ax_asg, ax_asub, ax_aug, ax_appm, ax_app, ax_ite, ax_whl, ax_for, ax_brk, ax_cont, ax_ret, ax_asrt, ax_doc, axs_nil, axs_cons, upd_, bindT_var, bindT_2, bindT_3, items_lst, items_ref, tr_none, tr_bool, tr_int, tr_lst, tr_ref, b_add, b_sub, b_and, c_is, c_isnot, c_lt, c_le, c_gt, c_ge, c_eq, c_ne, nn_none, nn_int, nn_lst, nn_ref, Option.bind_some, Option.map_some, if_true, if_false, Bool.false_eq_true, reduceIte, Nat.reduceEqDiff, Nat.reduceAdd, List.length_cons, List.length_nil, Nat.reduceLT, Nat.add_zero, Nat.zero_add, c7, c6, s1, s2, t3_2, ov, Option.getD_none]
        | some v => rw [e] at s1; simp only [ae_none, ae_bool, ae_int, ae_var, ae_bin, ae_neg, ae_cmp, ae_bo, ae_ife, ae_call, ae_bi, ae_edge, ae_attr, ae_meth, ae_sub, ae_slice, ae_lstT, ae_lstF, ae_tup, ae_compT, ae_compF, ae_sumg, aes_nil, aes_cons, ait_e, ait_range, ait_zip, ait_ezip, att_nt, att_bo, att_var, att_cmp, att_sub, att_bin, att_comp, ax_asg, ax_asub, ax_aug, ax_appm, ax_app, ax_ite, ax_whl, ax_for, ax_brk, ax_cont, ax_ret, ax_asrt, ax_doc, axs_nil, axs_cons, upd_, bindT_var, bindT_2, bindT_3, items_lst, items_ref, tr_none, tr_bool, tr_int, tr_lst, tr_ref, b_add, b_sub, b_and, c_is, c_isnot, c_lt, c_le, c_gt, c_ge, c_eq, c_ne, nn_none, nn_int, nn_lst, nn_ref, Option.bind_some, Option.map_some, if_true, if_false, Bool.false_eq_true, reduceIte, Nat.reduceEqDiff, Nat.reduceAdd, List.length_cons, List.length_nil, Nat.reduceLT, Nat.add_zero, Nat.zero_add, c7, c6, s1, s2, t3_2, ov, Option.getD_some]
      · rw [List.take_succ, ho, List.map_append]; rfl)
    (fun acc a h => by rw [src_R, if_neg (by omega)])
    es.length 0 [] ah (by omega) ⟨rfl, rfl⟩
  have hlo : (outL es ss).length = es.length := by simp [outL, hl]
  rw [← hlo, List.take_length, hlo] at h2
  simp only [l3, ae_none, ae_bool, ae_int, ae_var, ae_bin, ae_neg, ae_cmp, ae_bo, ae_ife, ae_call, ae_bi, ae_edge, ae_attr, ae_meth, ae_sub, ae_slice, ae_lstT, ae_lstF, ae_tup, ae_compT, ae_compF, ae_sumg, aes_nil, aes_cons, ait_e, ait_range, ait_zip, ait_ezip, att_nt, att_bo, att_var, att_cmp, att_sub, att_bin, att_comp, ax_asg, ax_asub, ax_aug, ax_appm, ax_app, ax_ite, ax_whl, ax_for, ax_brk, ax_cont, ax_ret, ax_asrt, ax_doc, axs_nil, axs_cons, upd_, bindT_var, bindT_2, bindT_3, items_lst, items_ref, tr_none, tr_bool, tr_int, tr_lst, tr_ref, b_add, b_sub, b_and, c_is, c_isnot, c_lt, c_le, c_gt, c_ge, c_eq, c_ne, nn_none, nn_int, nn_lst, nn_ref, Option.bind_some, Option.map_some, if_true, if_false, Bool.false_eq_true, reduceIte, Nat.reduceEqDiff, Nat.reduceAdd, List.length_cons, List.length_nil, Nat.reduceLT, Nat.add_zero, Nat.zero_add, h14, h, decide_true, h6, h7, hlen, hrg, and_self, Int.toNat_natCast]
  rw [h2 _ (by omega)]
  simp only [ae_none, ae_bool, ae_int, ae_var, ae_bin, ae_neg, ae_cmp, ae_bo, ae_ife, ae_call, ae_bi, ae_edge, ae_attr, ae_meth, ae_sub, ae_slice, ae_lstT, ae_lstF, ae_tup, ae_compT, ae_compF, ae_sumg, aes_nil, aes_cons, ait_e, ait_range, ait_zip, ait_ezip, att_nt, att_bo, att_var, att_cmp, att_sub, att_bin, att_comp, ax_asg, ax_asub, ax_aug, ax_appm, ax_app, ax_ite, ax_whl, ax_for, ax_brk, ax_cont, ax_ret, ax_asrt, ax_doc, axs_nil, axs_cons, upd_, bindT_var, bindT_2, bindT_3, items_lst, items_ref, tr_none, tr_bool, tr_int, tr_lst, tr_ref, b_add, b_sub, b_and, c_is, c_isnot, c_lt, c_le, c_gt, c_ge, c_eq, c_ne, nn_none, nn_int, nn_lst, nn_ref, Option.bind_some, Option.map_some, if_true, if_false, Bool.false_eq_true, reduceIte, Nat.reduceEqDiff, Nat.reduceAdd, List.length_cons, List.length_nil, Nat.reduceLT, Nat.add_zero, Nat.zero_add]

theorem l4_ok {ρ : AE} {ah : AH} {rm p : Int} {es : List E3} {ss : List (Option Int)} (h14 : ρ 14 = some (.int rm)) (h15 : ρ 15 = some (.int p)) (h6 : ρ 6 = some (.lst (es.map et))) (h12 : ρ 12 = some (.lst (LK (flex ss)))) (he : OkE es) (hl : ss.length = es.length) (h5 : es.length ≤ 5) (hrm : small rm = true) :
    ∀ n, 40 ≤ n → ax fns n l4 ρ ah = some (.nx, upd ρ 16 (.lst (LK ((flex ss).filter (sh es rm p)))), ah) := by
  intro n hn
  obtain ⟨m, rfl⟩ : ∃ m, n = m + 40 := ⟨n - 40, by omega⟩
  have hf := flex_bd he hl
  have hfl : (flex ss).length ≤ ss.length := flexTo_len ss ss.length
  have hok2 : srcOk ah (.L (.lst (LK (flex ss)))) = true := ok_L items_lst (by rw [LK, List.length_map]; omega)
  have c6 : capt ρ [14, 15, 6] 6 = some (.lst (es.map et)) := h6
  have c14 : capt ρ [14, 15, 6] 14 = some (.int rm) := h14
  have c15 : capt ρ [14, 15, 6] 15 = some (.int p) := h15
  obtain ⟨acc', ah', ⟨rfl, rfl⟩, h2⟩ := acomp_runF (F := fns) (elt := .var 11) (cnd := .cmp .LtE (.bin .Mult (.var 14) (.sub (.sub (.var 6) (.var 11)) (.int 1))) (.bin .Mult (.sub (.sub (.var 6) (.var 11)) (.int 2)) (.var 15))) (tg := .var 11) (ρ := capt ρ [14, 15, 6]) (src := .L (.lst (LK (flex ss))))
    (fun j acc a => acc = LK (((flex ss).take j).filter (sh es rm p)) ∧ a = ah) (flex ss).length 12
    (fun j acc a hj h => by
      obtain ⟨rfl, rfl⟩ := h
      have hj2 := List.getElem?_eq_getElem hj
      have hm : (flex ss)[j] ∈ flex ss := List.getElem_mem hj
      generalize (flex ss)[j] = k at *
      have hb := hf k hm
      have hs := et_at (ah := a) hb.1 (by omega)
      have hsl : small (lea es k) = true := small_of (by omega) (by omega)
      have hfi := List.length_filter_le (sh es rm p) ((flex ss).take j)
      rw [List.length_take] at hfi
      refine ⟨by rw [LK, List.length_map]; omega, .int k, _, sh es rm p k, a, by rw [src_L items_lst, LK, List.getElem?_map, hj2]; rfl, rfl, fun n hn => ?_, fun hb => ⟨.int k, a, fun n hn => ?_, ?_, rfl⟩, fun hb => ⟨?_, rfl⟩⟩
      · obtain ⟨m, rfl⟩ : ∃ m, n = m + 12 := ⟨n - 12, by omega⟩
        simp only [ae_none, ae_bool, ae_int, ae_var, ae_bin, ae_neg, ae_cmp, ae_bo, ae_ife, ae_call, ae_bi, ae_edge, ae_attr, ae_meth, ae_sub, ae_slice, ae_lstT, ae_lstF, ae_tup, ae_compT, ae_compF, ae_sumg, aes_nil, aes_cons, ait_e, ait_range, ait_zip, ait_ezip, att_nt, att_bo, att_var, att_cmp, att_sub, att_bin, att_comp, ax_asg, ax_asub, ax_aug, ax_appm, ax_app, ax_ite, ax_whl, ax_for, ax_brk, ax_cont, ax_ret, ax_asrt, ax_doc, axs_nil, axs_cons, upd_, bindT_var, bindT_2, bindT_3, items_lst, items_ref, tr_none, tr_bool, tr_int, tr_lst, tr_ref, b_add, b_sub, b_and, c_is, c_isnot, c_lt, c_le, c_gt, c_ge, c_eq, c_ne, nn_none, nn_int, nn_lst, nn_ref, Option.bind_some, Option.map_some, if_true, if_false, Bool.false_eq_true, reduceIte, Nat.reduceEqDiff, Nat.reduceAdd, List.length_cons, List.length_nil, Nat.reduceLT, Nat.add_zero, Nat.zero_add, c6, c14, c15, hs, t3_1, t3_2, b_mul hrm, b_mul hsl, sh]
      · obtain ⟨m, rfl⟩ : ∃ m, n = m + 12 := ⟨n - 12, by omega⟩
        simp only [ae_none, ae_bool, ae_int, ae_var, ae_bin, ae_neg, ae_cmp, ae_bo, ae_ife, ae_call, ae_bi, ae_edge, ae_attr, ae_meth, ae_sub, ae_slice, ae_lstT, ae_lstF, ae_tup, ae_compT, ae_compF, ae_sumg, aes_nil, aes_cons, ait_e, ait_range, ait_zip, ait_ezip, att_nt, att_bo, att_var, att_cmp, att_sub, att_bin, att_comp, ax_asg, ax_asub, ax_aug, ax_appm, ax_app, ax_ite, ax_whl, ax_for, ax_brk, ax_cont, ax_ret, ax_asrt, ax_doc, axs_nil, axs_cons, upd_, bindT_var, bindT_2, bindT_3, items_lst, items_ref, tr_none, tr_bool, tr_int, tr_lst, tr_ref, b_add, b_sub, b_and, c_is, c_isnot, c_lt, c_le, c_gt, c_ge, c_eq, c_ne, nn_none, nn_int, nn_lst, nn_ref, Option.bind_some, Option.map_some, if_true, if_false, Bool.false_eq_true, reduceIte, Nat.reduceEqDiff, Nat.reduceAdd, List.length_cons, List.length_nil, Nat.reduceLT, Nat.add_zero, Nat.zero_add]
      · rw [List.take_succ, hj2, List.filter_append, LK, LK, List.map_append, Option.toList, List.filter_cons_of_pos hb]; rfl
      · rw [List.take_succ, hj2, List.filter_append, LK, LK, List.map_append, Option.toList, List.filter_cons_of_neg (by rw [hb]; decide)]; simp)
    (fun acc a h => by rw [src_L items_lst]; simp [LK])
    (flex ss).length 0 [] ah (by omega) ⟨rfl, rfl⟩
  rw [List.take_length] at h2
  simp only [l4, ae_none, ae_bool, ae_int, ae_var, ae_bin, ae_neg, ae_cmp, ae_bo, ae_ife, ae_call, ae_bi, ae_edge, ae_attr, ae_meth, ae_sub, ae_slice, ae_lstT, ae_lstF, ae_tup, ae_compT, ae_compF, ae_sumg, aes_nil, aes_cons, ait_e, ait_range, ait_zip, ait_ezip, att_nt, att_bo, att_var, att_cmp, att_sub, att_bin, att_comp, ax_asg, ax_asub, ax_aug, ax_appm, ax_app, ax_ite, ax_whl, ax_for, ax_brk, ax_cont, ax_ret, ax_asrt, ax_doc, axs_nil, axs_cons, upd_, bindT_var, bindT_2, bindT_3, items_lst, items_ref, tr_none, tr_bool, tr_int, tr_lst, tr_ref, b_add, b_sub, b_and, c_is, c_isnot, c_lt, c_le, c_gt, c_ge, c_eq, c_ne, nn_none, nn_int, nn_lst, nn_ref, Option.bind_some, Option.map_some, if_true, if_false, Bool.false_eq_true, reduceIte, Nat.reduceEqDiff, Nat.reduceAdd, List.length_cons, List.length_nil, Nat.reduceLT, Nat.add_zero, Nat.zero_add, h6, h12, h14, h15, hok2]
  rw [h2 _ (by omega)]
  simp only [ae_none, ae_bool, ae_int, ae_var, ae_bin, ae_neg, ae_cmp, ae_bo, ae_ife, ae_call, ae_bi, ae_edge, ae_attr, ae_meth, ae_sub, ae_slice, ae_lstT, ae_lstF, ae_tup, ae_compT, ae_compF, ae_sumg, aes_nil, aes_cons, ait_e, ait_range, ait_zip, ait_ezip, att_nt, att_bo, att_var, att_cmp, att_sub, att_bin, att_comp, ax_asg, ax_asub, ax_aug, ax_appm, ax_app, ax_ite, ax_whl, ax_for, ax_brk, ax_cont, ax_ret, ax_asrt, ax_doc, axs_nil, axs_cons, upd_, bindT_var, bindT_2, bindT_3, items_lst, items_ref, tr_none, tr_bool, tr_int, tr_lst, tr_ref, b_add, b_sub, b_and, c_is, c_isnot, c_lt, c_le, c_gt, c_ge, c_eq, c_ne, nn_none, nn_int, nn_lst, nn_ref, Option.bind_some, Option.map_some, if_true, if_false, Bool.false_eq_true, reduceIte, Nat.reduceEqDiff, Nat.reduceAdd, List.length_cons, List.length_nil, Nat.reduceLT, Nat.add_zero, Nat.zero_add]

theorem l5_no {ρ : AE} {ah : AH} (h16 : ρ 16 = some (.lst [])) : ∀ n, 40 ≤ n → ax fns n l5 ρ ah = some (.nx, ρ, ah) := by
  intro n hn
  obtain ⟨m, rfl⟩ : ∃ m, n = m + 40 := ⟨n - 40, by omega⟩
  simp only [l5, ae_none, ae_bool, ae_int, ae_var, ae_bin, ae_neg, ae_cmp, ae_bo, ae_ife, ae_call, ae_bi, ae_edge, ae_attr, ae_meth, ae_sub, ae_slice, ae_lstT, ae_lstF, ae_tup, ae_compT, ae_compF, ae_sumg, aes_nil, aes_cons, ait_e, ait_range, ait_zip, ait_ezip, att_nt, att_bo, att_var, att_cmp, att_sub, att_bin, att_comp, ax_asg, ax_asub, ax_aug, ax_appm, ax_app, ax_ite, ax_whl, ax_for, ax_brk, ax_cont, ax_ret, ax_asrt, ax_doc, axs_nil, axs_cons, upd_, bindT_var, bindT_2, bindT_3, items_lst, items_ref, tr_none, tr_bool, tr_int, tr_lst, tr_ref, b_add, b_sub, b_and, c_is, c_isnot, c_lt, c_le, c_gt, c_ge, c_eq, c_ne, nn_none, nn_int, nn_lst, nn_ref, Option.bind_some, Option.map_some, if_true, if_false, Bool.false_eq_true, reduceIte, Nat.reduceEqDiff, Nat.reduceAdd, List.length_cons, List.length_nil, Nat.reduceLT, Nat.add_zero, Nat.zero_add, h16, List.isEmpty_nil, Bool.not_true]
theorem l5_yes {ρ : AE} {ah : AH} {r i : Nat} {rest : List Nat} {es : List E3} {ss : List (Option Int)} (h16 : ρ 16 = some (.lst (LK (i :: rest)))) (hre : rest.length < 900) (h6 : ρ 6 = some (.lst (es.map et))) (h7 : ρ 7 = some (.ref r)) (hr : ah[r]? = some (ss.map ov)) (hi : i < es.length) (hl : ss.length = es.length) (h5 : es.length ≤ 5) :
    ∀ n, 40 ≤ n → ax fns n l5 ρ ah = some (.cn, ρ, ah.set r ((ss.set i (some (lea es i))).map ov)) := by
  intro n hn
  obtain ⟨m, rfl⟩ : ∃ m, n = m + 40 := ⟨n - 40, by omega⟩
  have hll : (LK (i :: rest)).length < 1000 := by rw [LK, List.length_map, List.length_cons]; omega
  have s0 : asub ah (.lst (LK (i :: rest))) (.int 0) = some (.int i) := by rw [sub_lst (by decide)]; rfl
  have s1 := et_at (ah := ah) hi (by omega)
  have hne : (LK (i :: rest)).isEmpty = false := rfl
  have hcond : (0 : Int) ≤ i ∧ (i : Int) < ss.length ∧ ss.length < 1000 := by omega
  simp only [l5, ae_none, ae_bool, ae_int, ae_var, ae_bin, ae_neg, ae_cmp, ae_bo, ae_ife, ae_call, ae_bi, ae_edge, ae_attr, ae_meth, ae_sub, ae_slice, ae_lstT, ae_lstF, ae_tup, ae_compT, ae_compF, ae_sumg, aes_nil, aes_cons, ait_e, ait_range, ait_zip, ait_ezip, att_nt, att_bo, att_var, att_cmp, att_sub, att_bin, att_comp, ax_asg, ax_asub, ax_aug, ax_appm, ax_app, ax_ite, ax_whl, ax_for, ax_brk, ax_cont, ax_ret, ax_asrt, ax_doc, axs_nil, axs_cons, upd_, bindT_var, bindT_2, bindT_3, items_lst, items_ref, tr_none, tr_bool, tr_int, tr_lst, tr_ref, b_add, b_sub, b_and, c_is, c_isnot, c_lt, c_le, c_gt, c_ge, c_eq, c_ne, nn_none, nn_int, nn_lst, nn_ref, Option.bind_some, Option.map_some, if_true, if_false, Bool.false_eq_true, reduceIte, Nat.reduceEqDiff, Nat.reduceAdd, List.length_cons, List.length_nil, Nat.reduceLT, Nat.add_zero, Nat.zero_add, h16, tr_lst, hll, hne, Bool.not_false]
  simp only [ae_none, ae_bool, ae_int, ae_var, ae_bin, ae_neg, ae_cmp, ae_bo, ae_ife, ae_call, ae_bi, ae_edge, ae_attr, ae_meth, ae_sub, ae_slice, ae_lstT, ae_lstF, ae_tup, ae_compT, ae_compF, ae_sumg, aes_nil, aes_cons, ait_e, ait_range, ait_zip, ait_ezip, att_nt, att_bo, att_var, att_cmp, att_sub, att_bin, att_comp, ax_asg, ax_asub, ax_aug, ax_appm, ax_app, ax_ite, ax_whl, ax_for, ax_brk, ax_cont, ax_ret, ax_asrt, ax_doc, axs_nil, axs_cons, upd_, bindT_var, bindT_2, bindT_3, items_lst, items_ref, tr_none, tr_bool, tr_int, tr_lst, tr_ref, b_add, b_sub, b_and, c_is, c_isnot, c_lt, c_le, c_gt, c_ge, c_eq, c_ne, nn_none, nn_int, nn_lst, nn_ref, Option.bind_some, Option.map_some, if_true, if_false, Bool.false_eq_true, reduceIte, Nat.reduceEqDiff, Nat.reduceAdd, List.length_cons, List.length_nil, Nat.reduceLT, Nat.add_zero, Nat.zero_add, h6, h7, h16, s0, s1, t3_2, hr, List.length_map, hcond, and_self, Int.toNat_natCast, map_set_ov]
end Mine

end

section
open PySem
set_option autoImplicit false
set_option linter.unusedSimpArgs false
set_option linter.unusedVariables false
set_option maxRecDepth 100000
namespace Mine

theorem l7_ok {ρ : AE} {es : List E3} {ss : List (Option Int)} {rm p : Int} {r : Nat} {ah : AH} (hr : ah[r]? = some (ss.map ov)) (he : OkE es) (hl : ss.length = es.length) (h5 : es.length ≤ 5) (hrm : small rm = true) (hp : 0 < p) (hp2 : p < 100)
    (h6 : ρ 6 = some (.lst (es.map et))) (h12 : ρ 12 = some (.lst (LK (flex ss)))) (h13 : ρ 13 = some (.int 0)) (h14 : ρ 14 = some (.int rm)) (h15 : ρ 15 = some (.int p)) (h7 : ρ 7 = some (.ref r)) :
    ∃ ρ', ρ' 7 = some (.ref r) ∧ ∀ n, 60 ≤ n → ax fns n l7 ρ ah = some (.nx, ρ', ah.set r ((fillL es rm p (flex ss) 0 ss).map ov)) := by
  have hfl : (flex ss).length ≤ ss.length := flexTo_len ss ss.length
  have hrl := get_lt hr
  obtain ⟨ρ', ah', ⟨g1, g2, g3, g6, s, cur, g4, g5, g7, g8⟩, h2⟩ := afor_run (F := fns) (tg := .var 11) (src := .L (.lst (LK (flex ss)))) (b := l7b)
    (fun k ρ a => ρ 14 = some (.int rm) ∧ ρ 15 = some (.int p) ∧ ρ 7 = some (.ref r) ∧ ρ 6 = some (.lst (es.map et)) ∧ ∃ s cur, ρ 13 = some (.int s) ∧ a = ah.set r (cur.map ov) ∧ cur.length = ss.length ∧ fillL es rm p ((flex ss).drop k) s cur = fillL es rm p (flex ss) 0 ss) (flex ss).length 30
    (fun j ρ a hj h => by
      obtain ⟨h1, h2, h3, h6, s, cur, h4, rfl, hc, h8⟩ := h
      have hd : (flex ss).drop j = (flex ss)[j] :: (flex ss).drop (j + 1) := List.drop_eq_getElem_cons hj
      have hm : (flex ss)[j] ∈ flex ss := List.getElem_mem hj
      generalize (flex ss)[j] = k at *
      have hb := flex_bd he hl k hm
      rw [hd, fillL] at h8
      have hp0 : p ≠ 0 := by omega
      have hps : small30 p = true := small30_of (by omega) (by omega)
      have hset : (ah.set r (cur.map ov))[r]? = some (cur.map ov) := List.getElem?_set_self hrl
      have hcond : (0 : Int) ≤ k ∧ (k : Int) < (cur.map ov).length ∧ (cur.map ov).length < 1000 := by rw [List.length_map]; omega
      have s1 := fun a : AH => et_at (ah := a) hb.1 (by omega)
      refine ⟨.int k, _, upd (upd ρ 11 (.int k)) 13 (.int (s + rat es k)), ah.set r ((cur.set k (some (piece rm p s (rat es k)))).map ov), ?_, rfl, fun n hn => ?_, h1, h2, h3, h6, s + rat es k, cur.set k (some (piece rm p s (rat es k))), rfl, rfl, by rw [List.length_set]; exact hc, h8⟩
      · rw [src_L items_lst, LK, List.getElem?_map]
        have : (flex ss)[j]? = some k := by
          have := congrArg List.head? hd
          rw [List.head?_drop] at this; exact this
        rw [this]; rfl
      · obtain ⟨m, rfl⟩ : ∃ m, n = m + 30 := ⟨n - 30, by omega⟩
        simp only [l7b, ae_none, ae_bool, ae_int, ae_var, ae_bin, ae_neg, ae_cmp, ae_bo, ae_ife, ae_call, ae_bi, ae_edge, ae_attr, ae_meth, ae_sub, ae_slice, ae_lstT, ae_lstF, ae_tup, ae_compT, ae_compF, ae_sumg, aes_nil, aes_cons, ait_e, ait_range, ait_zip, ait_ezip, att_nt, att_bo, att_var, att_cmp, att_sub, att_bin, att_comp, ax_asg, ax_asub, ax_aug, ax_appm, ax_app, ax_ite, ax_whl, ax_for, ax_brk, ax_cont, ax_ret, ax_asrt, ax_doc, axs_nil, axs_cons, upd_, bindT_var, bindT_2, bindT_3, items_lst, items_ref, tr_none, tr_bool, tr_int, tr_lst, tr_ref, b_add, b_sub, b_and, c_is, c_isnot, c_lt, c_le, c_gt, c_ge, c_eq, c_ne, nn_none, nn_int, nn_lst, nn_ref, Option.bind_some, Option.map_some, if_true, if_false, Bool.false_eq_true, reduceIte, Nat.reduceEqDiff, Nat.reduceAdd, List.length_cons, List.length_nil, Nat.reduceLT, Nat.add_zero, Nat.zero_add, h1, h2, h3, h4, h6, s1, t3_1, b_mul hrm, b_fdiv hp0 hps, hset, hcond, and_self, Int.toNat_natCast]
        rw [← map_set_ov, List.set_set]; rfl)
    (fun ρ a h => by rw [src_L items_lst]; simp [LK])
    (flex ss).length 0 ρ ah (by omega) ⟨h14, h15, h7, h6, 0, ss, h13, (set_same hr).symm, rfl, rfl⟩
  rw [List.drop_length, fillL] at g8
  subst g8
  refine ⟨ρ', g3, fun n hn => ?_⟩
  obtain ⟨m, rfl⟩ : ∃ m, n = m + 60 := ⟨n - 60, by omega⟩
  have hok : srcOk ah (.L (.lst (LK (flex ss)))) = true := ok_L items_lst (by rw [LK, List.length_map]; omega)
  simp only [l7, ae_none, ae_bool, ae_int, ae_var, ae_bin, ae_neg, ae_cmp, ae_bo, ae_ife, ae_call, ae_bi, ae_edge, ae_attr, ae_meth, ae_sub, ae_slice, ae_lstT, ae_lstF, ae_tup, ae_compT, ae_compF, ae_sumg, aes_nil, aes_cons, ait_e, ait_range, ait_zip, ait_ezip, att_nt, att_bo, att_var, att_cmp, att_sub, att_bin, att_comp, ax_asg, ax_asub, ax_aug, ax_appm, ax_app, ax_ite, ax_whl, ax_for, ax_brk, ax_cont, ax_ret, ax_asrt, ax_doc, axs_nil, axs_cons, upd_, bindT_var, bindT_2, bindT_3, items_lst, items_ref, tr_none, tr_bool, tr_int, tr_lst, tr_ref, b_add, b_sub, b_and, c_is, c_isnot, c_lt, c_le, c_gt, c_ge, c_eq, c_ne, nn_none, nn_int, nn_lst, nn_ref, Option.bind_some, Option.map_some, if_true, if_false, Bool.false_eq_true, reduceIte, Nat.reduceEqDiff, Nat.reduceAdd, List.length_cons, List.length_nil, Nat.reduceLT, Nat.add_zero, Nat.zero_add, h12, hok]
  rw [h2 _ (by omega)]
  rw [g5]

theorem lb_ret {ρ ρ1 ρ2 : AE} {ah : AH} {v : AV} {n : Nat} (h1 : ax fns (n + 3) l1 ρ ah = some (.nx, ρ1, ah)) (h2 : ax fns (n + 2) l2 ρ1 ah = some (.nx, ρ2, ah)) (h3 : ax fns (n + 1) l3 ρ2 ah = some (.ret v, ρ2, ah)) :
    axs fns (n + 4) lB ρ ah = some (.ret v, ρ2, ah) := by
  rw [lB, axs_cons, h1]
  simp only [Option.bind_some]
  rw [axs_cons, h2]
  simp only [Option.bind_some]
  rw [axs_cons, h3]
  simp only [Option.bind_some]
theorem lb_cn {ρ ρ1 ρ2 ρ3 : AE} {ah a' : AH} {n : Nat} (h1 : ax fns (n + 5) l1 ρ ah = some (.nx, ρ1, ah)) (h2 : ax fns (n + 4) l2 ρ1 ah = some (.nx, ρ2, ah)) (h3 : ax fns (n + 3) l3 ρ2 ah = some (.nx, ρ2, ah)) (h4 : ax fns (n + 2) l4 ρ2 ah = some (.nx, ρ3, ah))
    (h5 : ax fns (n + 1) l5 ρ3 ah = some (.cn, ρ3, a')) : axs fns (n + 6) lB ρ ah = some (.cn, ρ3, a') := by
  rw [lB, axs_cons, h1]
  simp only [Option.bind_some]
  rw [axs_cons, h2]
  simp only [Option.bind_some]
  rw [axs_cons, h3]
  simp only [Option.bind_some]
  rw [axs_cons, h4]
  simp only [Option.bind_some]
  rw [axs_cons, h5]
  simp only [Option.bind_some]
theorem lb_go {ρ ρ1 ρ2 ρ3 ρ4 : AE} {ah a' : AH} {n : Nat} (h1 : ax fns (n + 7) l1 ρ ah = some (.nx, ρ1, ah)) (h2 : ax fns (n + 6) l2 ρ1 ah = some (.nx, ρ2, ah)) (h3 : ax fns (n + 5) l3 ρ2 ah = some (.nx, ρ2, ah)) (h4 : ax fns (n + 4) l4 ρ2 ah = some (.nx, ρ3, ah))
    (h5 : ax fns (n + 3) l5 ρ3 ah = some (.nx, ρ3, ah)) (h7 : ax fns (n + 1) l7 (upd ρ3 13 (.int 0)) ah = some (.nx, ρ4, a')) : axs fns (n + 8) lB ρ ah = some (.nx, ρ4, a') := by
  rw [lB, axs_cons, h1]
  simp only [Option.bind_some]
  rw [axs_cons, h2]
  simp only [Option.bind_some]
  rw [axs_cons, h3]
  simp only [Option.bind_some]
  rw [axs_cons, h4]
  simp only [Option.bind_some]
  rw [axs_cons, h5]
  simp only [Option.bind_some]
  rw [axs_cons, l6, ax_asg, ae_int]
  simp only [Option.bind_some, bindT_var, Option.map_some]
  rw [axs_cons, h7]
  simp only [Option.bind_some, axs_nil]
end Mine

end

section
open PySem
set_option autoImplicit false
set_option linter.unusedSimpArgs false
set_option linter.unusedVariables false
set_option maxRecDepth 100000
namespace Mine

theorem filt_some {p : Nat → Bool} {l : List Nat} {i : Nat} (h : l.find? p = some i) : ∃ rest, l.filter p = i :: rest ∧ rest.length < l.length := by
  have e := List.head?_filter (p := p) (l := l)
  rw [h] at e
  have hl := List.length_filter_le p l
  cases hf : l.filter p with
  | nil => rw [hf] at e; cases e
  | cons j rest =>
    rw [hf] at e hl
    rw [List.length_cons] at hl
    exact ⟨rest, by rw [Option.some.inj e], by omega⟩
theorem filt_none {p : Nat → Bool} {l : List Nat} (h : l.find? p = none) : l.filter p = [] := by
  have e := List.head?_filter (p := p) (l := l)
  rw [h] at e
  cases hf : l.filter p with
  | nil => rfl
  | cons j rest => rw [hf] at e; cases e

theorem l_done {ρ : AE} {ah : AH} {r : Nat} {t : Int} {es : List E3} {ss : List (Option Int)} (g5 : ρ 5 = some (.int t)) (g6 : ρ 6 = some (.lst (es.map et))) (g7 : ρ 7 = some (.ref r)) (hr : ah[r]? = some (ss.map ov))
    (he : OkE es) (hs : OkS ss) (hl : ss.length = es.length) (h5 : es.length ≤ 5) (ha : ss.any Option.isNone = true) (h0 : rem t ss ≤ 0) :
    ∃ ρ', ∀ m, 100 ≤ m → awh fns m (.cmp .In .none (.var 7)) lB ρ ah = some (.ret (.lst ((outL es ss).map .int)), ρ', ah) := by
  have test := r_test g7 hr (by omega)
  rw [ha] at test
  have a1 := l1_ok g6 g7 hr hl h5
  have a2 := l2_ok (ρ := upd ρ 12 (.lst (LK (flex ss)))) g5 g6 g7 rfl hr he hs hl h5
  have a3 := l3_yes (ρ := upd (upd (upd ρ 12 (.lst (LK (flex ss)))) 14 (.int (rem t ss))) 15 (.int (parts es ss))) (ah := ah) rfl h0 g6 g7 hr hl h5
  refine ⟨upd (upd (upd ρ 12 (.lst (LK (flex ss)))) 14 (.int (rem t ss))) 15 (.int (parts es ss)), fun m hm => ?_⟩
  obtain ⟨k, rfl⟩ : ∃ k, m = k + 5 := ⟨m - 5, by omega⟩
  refine Eq.trans (awh_yes (n := k + 4) (test _ (by omega))) ?_
  rw [lb_ret (n := k) (a1 _ (by omega)) (a2 _ (by omega)) (a3 _ (by omega))]
  simp only [Option.bind_some]

theorem l_found {ρ : AE} {ah : AH} {r i : Nat} {t : Int} {es : List E3} {ss : List (Option Int)} (g5 : ρ 5 = some (.int t)) (g6 : ρ 6 = some (.lst (es.map et))) (g7 : ρ 7 = some (.ref r)) (hr : ah[r]? = some (ss.map ov))
    (he : OkE es) (hs : OkS ss) (hl : ss.length = es.length) (h5 : es.length ≤ 5) (ht2 : t < 1000) (ha : ss.any Option.isNone = true) (h0 : ¬ rem t ss ≤ 0) (hf : (flex ss).find? (sh es (rem t ss) (parts es ss)) = some i) :
    ∃ ρ', ρ' 5 = some (.int t) ∧ ρ' 6 = some (.lst (es.map et)) ∧ ρ' 7 = some (.ref r) ∧ ∀ m, 100 ≤ m → awh fns (m + 1) (.cmp .In .none (.var 7)) lB ρ ah = awh fns m (.cmp .In .none (.var 7)) lB ρ' (ah.set r ((ss.set i (some (lea es i))).map ov)) := by
  have test := r_test g7 hr (by omega)
  rw [ha] at test
  have rb := rem_bd (t := t) hs
  have hrm : small (rem t ss) = true := small_of (by omega) (by omega)
  have hfl : (flex ss).length ≤ ss.length := flexTo_len ss ss.length
  have him := flex_bd he hl i (List.mem_of_find?_eq_some hf)
  obtain ⟨rest, hfi, hre⟩ := filt_some hf
  have a1 := l1_ok g6 g7 hr hl h5
  have a2 := l2_ok (ρ := upd ρ 12 (.lst (LK (flex ss)))) g5 g6 g7 rfl hr he hs hl h5
  have a3 := l3_no (ρ := upd (upd (upd ρ 12 (.lst (LK (flex ss)))) 14 (.int (rem t ss))) 15 (.int (parts es ss))) (ah := ah) rfl h0
  have a4 := l4_ok (ρ := upd (upd (upd ρ 12 (.lst (LK (flex ss)))) 14 (.int (rem t ss))) 15 (.int (parts es ss))) (ah := ah) rfl rfl g6 rfl he hl h5 hrm
  rw [hfi] at a4
  have a5 := l5_yes (ρ := upd (upd (upd (upd ρ 12 (.lst (LK (flex ss)))) 14 (.int (rem t ss))) 15 (.int (parts es ss))) 16 (.lst (LK (i :: rest)))) rfl (by omega) g6 g7 hr him.1 hl h5
  refine ⟨upd (upd (upd (upd ρ 12 (.lst (LK (flex ss)))) 14 (.int (rem t ss))) 15 (.int (parts es ss))) 16 (.lst (LK (i :: rest))), g5, g6, g7, fun m hm => ?_⟩
  obtain ⟨k, rfl⟩ : ∃ k, m = k + 6 := ⟨m - 6, by omega⟩
  refine Eq.trans (awh_yes (n := k + 6) (test _ (by omega))) ?_
  rw [lb_cn (n := k) (a1 _ (by omega)) (a2 _ (by omega)) (a3 _ (by omega)) (a4 _ (by omega)) (a5 _ (by omega))]
  simp only [Option.bind_some]

theorem l_none {ρ : AE} {ah : AH} {r : Nat} {t : Int} {es : List E3} {ss : List (Option Int)} (g5 : ρ 5 = some (.int t)) (g6 : ρ 6 = some (.lst (es.map et))) (g7 : ρ 7 = some (.ref r)) (hr : ah[r]? = some (ss.map ov))
    (he : OkE es) (hs : OkS ss) (hl : ss.length = es.length) (h5 : es.length ≤ 5) (ht2 : t < 1000) (ha : ss.any Option.isNone = true) (h0 : ¬ rem t ss ≤ 0) (hf : (flex ss).find? (sh es (rem t ss) (parts es ss)) = none) :
    ∃ ρ', ρ' 7 = some (.ref r) ∧ ∀ m, 110 ≤ m → awh fns (m + 1) (.cmp .In .none (.var 7)) lB ρ ah = some (.nx, ρ', ah.set r ((fillL es (rem t ss) (parts es ss) (flex ss) 0 ss).map ov)) := by
  have test := r_test g7 hr (by omega)
  rw [ha] at test
  have rb := rem_bd (t := t) hs
  have hrm : small (rem t ss) = true := small_of (by omega) (by omega)
  have hfl : (flex ss).length ≤ ss.length := flexTo_len ss ss.length
  have pb := parts_bd he hl h5 ha
  have hfi := filt_none hf
  have hrl := get_lt hr
  have a1 := l1_ok g6 g7 hr hl h5
  have a2 := l2_ok (ρ := upd ρ 12 (.lst (LK (flex ss)))) g5 g6 g7 rfl hr he hs hl h5
  have a3 := l3_no (ρ := upd (upd (upd ρ 12 (.lst (LK (flex ss)))) 14 (.int (rem t ss))) 15 (.int (parts es ss))) (ah := ah) rfl h0
  have a4 := l4_ok (ρ := upd (upd (upd ρ 12 (.lst (LK (flex ss)))) 14 (.int (rem t ss))) 15 (.int (parts es ss))) (ah := ah) rfl rfl g6 rfl he hl h5 hrm
  rw [hfi] at a4
  have a5 := l5_no (ρ := upd (upd (upd (upd ρ 12 (.lst (LK (flex ss)))) 14 (.int (rem t ss))) 15 (.int (parts es ss))) 16 (.lst (LK []))) (ah := ah) rfl
  obtain ⟨ρ5, u1, u2⟩ := l7_ok (ρ := upd (upd (upd (upd (upd ρ 12 (.lst (LK (flex ss)))) 14 (.int (rem t ss))) 15 (.int (parts es ss))) 16 (.lst (LK []))) 13 (.int 0)) hr he hl h5 hrm pb.1 pb.2 g6 rfl rfl rfl rfl g7
  have tst := r_test (ρ := ρ5) (ss := fillL es (rem t ss) (parts es ss) (flex ss) 0 ss) (ah := ah.set r ((fillL es (rem t ss) (parts es ss) (flex ss) 0 ss).map ov)) u1 (List.getElem?_set_self hrl) (by rw [fillL_len]; omega)
  rw [fillL_any] at tst
  refine ⟨ρ5, u1, fun m hm => ?_⟩
  obtain ⟨k, rfl⟩ : ∃ k, m = k + 8 := ⟨m - 8, by omega⟩
  refine Eq.trans (awh_yes (n := k + 8) (test _ (by omega))) ?_
  rw [lb_go (n := k) (a1 _ (by omega)) (a2 _ (by omega)) (a3 _ (by omega)) (a4 _ (by omega)) (a5 _ (by omega)) (u2 _ (by omega))]
  simp only [Option.bind_some]
  exact awh_no (n := k + 7) (tst _ (by omega))

theorem l_while {t : Int} {es : List E3} {r : Nat} (he : OkE es) (h5 : es.length ≤ 5) (ht2 : t < 1000) :
    ∀ (n : Nat) (ss : List (Option Int)) (ρ : AE) (ah : AH), ss.countP Option.isNone < n → ρ 5 = some (.int t) → ρ 6 = some (.lst (es.map et)) → ρ 7 = some (.ref r) → ah[r]? = some (ss.map ov) → OkS ss → ss.length = es.length →
      ∃ fl ρ' ah', (∀ m, 120 + n ≤ m → awh fns m (.cmp .In .none (.var 7)) lB ρ ah = some (fl, ρ', ah')) ∧ WOut r ah (spec n t es ss) fl ρ' ah' := by
  intro n
  induction n with
  | zero => intro ss ρ ah hc; exact absurd hc (Nat.not_lt_zero _)
  | succ n ih =>
    intro ss ρ ah hc g5 g6 g7 hr hs hl
    have hrl := get_lt hr
    cases ha : ss.any Option.isNone with
    | false =>
      have test := r_test g7 hr (by omega)
      rw [ha] at test
      refine ⟨.nx, ρ, ah, fun m hm => ?_, KeepBut.refl _ _, .inr ⟨rfl, g7, ?_⟩⟩
      · obtain ⟨k, rfl⟩ : ∃ k, m = k + 1 := ⟨m - 1, by omega⟩
        exact awh_no (test k (by omega))
      · rw [spec_done ha, hr, ints_ov ha]
    | true =>
      by_cases h0 : rem t ss ≤ 0
      · obtain ⟨ρ', h⟩ := l_done g5 g6 g7 hr he hs hl h5 ha h0
        exact ⟨_, ρ', ah, fun m hm => h m (by omega), KeepBut.refl _ _, .inl (by rw [spec_out ha h0])⟩
      · cases hf : (flex ss).find? (sh es (rem t ss) (parts es ss)) with
        | some i =>
          obtain ⟨ρ1, k5, k6, k7, h⟩ := l_found g5 g6 g7 hr he hs hl h5 ht2 ha h0 hf
          have him := mem_flexTo.mp (List.mem_of_find?_eq_some hf)
          have hb := rat_bd he (by omega : i < es.length)
          have hcs := count_set (v := lea es i) him.2
          obtain ⟨fl, ρ', ah', u1, u2, u3⟩ := ih (ss.set i (some (lea es i))) ρ1 (ah.set r ((ss.set i (some (lea es i))).map ov)) (by omega) k5 k6 k7 (List.getElem?_set_self hrl) (okS_set hs (by omega)) (by rw [List.length_set]; exact hl)
          refine ⟨fl, ρ', ah', fun m hm => ?_, KeepBut.set.trans u2, ?_⟩
          · obtain ⟨k, rfl⟩ : ∃ k, m = k + 1 := ⟨m - 1, by omega⟩
            rw [h k (by omega), u1 k (by omega)]
          · rw [spec_found ha h0 hf]; exact u3
        | none =>
          obtain ⟨ρ', k7, h⟩ := l_none g5 g6 g7 hr he hs hl h5 ht2 ha h0 hf
          refine ⟨.nx, ρ', ah.set r ((fillL es (rem t ss) (parts es ss) (flex ss) 0 ss).map ov), fun m hm => ?_, KeepBut.set, .inr ⟨rfl, k7, ?_⟩⟩
          · obtain ⟨k, rfl⟩ : ∃ k, m = k + 1 := ⟨m - 1, by omega⟩
            rw [h k (by omega)]
          · rw [List.getElem?_set_self hrl, spec_none ha h0 hf, ints_ov fillL_any]

theorem sizes_ok {t : Int} {es : List E3} {ah : AH} (he : OkE es) (hs : OkS (sz es)) (h5 : es.length ≤ 5) (ht2 : t < 1000) :
    ∃ v ah', (∀ n, 200 ≤ n → acall fns n 2 [.int t, .lst (es.map et)] ah = some (v, ah')) ∧ items ah' v = some ((spec 10 t es (sz es)).map .int) ∧ Keep ah ah' := by
  have hok : srcOk ah (.L (.lst (es.map et))) = true := ok_L items_lst (by rw [List.length_map]; omega)
  obtain ⟨acc', ah', ⟨e1, e2⟩, h2⟩ := acomp_run (F := fns) (elt := .var 8) (tg := .t3 (.var 8) (.var 9) (.var 10)) (ρ := capt (upd (upd (fun _ => none) 5 (.int t)) 6 (.lst (es.map et))) []) (src := .L (.lst (es.map et)))
    (fun k acc a => acc = ((sz es).take k).map ov ∧ a = ah) es.length 12
    (fun k acc a hk h => by
      obtain ⟨rfl, rfl⟩ := h
      have hk2 : (sz es)[k]? = some es[k].1 := by simp [sz, hk]
      refine ⟨by simp only [List.length_map, List.length_take]; omega, et es[k], _, ov es[k].1, a, by rw [src_L items_lst]; simp [hk], rfl, fun n hn => ?_, ?_, rfl⟩
      · obtain ⟨m, rfl⟩ : ∃ m, n = m + 12 := ⟨n - 12, by omega⟩
        simp only [ae_none, ae_bool, ae_int, ae_var, ae_bin, ae_neg, ae_cmp, ae_bo, ae_ife, ae_call, ae_bi, ae_edge, ae_attr, ae_meth, ae_sub, ae_slice, ae_lstT, ae_lstF, ae_tup, ae_compT, ae_compF, ae_sumg, aes_nil, aes_cons, ait_e, ait_range, ait_zip, ait_ezip, att_nt, att_bo, att_var, att_cmp, att_sub, att_bin, att_comp, ax_asg, ax_asub, ax_aug, ax_appm, ax_app, ax_ite, ax_whl, ax_for, ax_brk, ax_cont, ax_ret, ax_asrt, ax_doc, axs_nil, axs_cons, upd_, bindT_var, bindT_2, bindT_3, items_lst, items_ref, tr_none, tr_bool, tr_int, tr_lst, tr_ref, b_add, b_sub, b_and, c_is, c_isnot, c_lt, c_le, c_gt, c_ge, c_eq, c_ne, nn_none, nn_int, nn_lst, nn_ref, Option.bind_some, Option.map_some, if_true, if_false, Bool.false_eq_true, reduceIte, Nat.reduceEqDiff, Nat.reduceAdd, List.length_cons, List.length_nil, Nat.reduceLT, Nat.add_zero, Nat.zero_add]
      · rw [List.take_succ, hk2, List.map_append]; rfl)
    (fun acc a h => by rw [src_L items_lst]; simp)
    es.length 0 [] ah (by omega) ⟨rfl, rfl⟩
  have hsl : (sz es).length = es.length := List.length_map ..
  rw [← hsl, List.take_length] at e1
  subst e1 e2
  have hcnt := count_le (sz es)
  obtain ⟨fl, ρ', a', w1, w2, w3⟩ := l_while (r := ah'.length) he h5 ht2 10 (sz es) (upd (upd (upd (fun _ => none) 5 (.int t)) 6 (.lst (es.map et))) 7 (.ref ah'.length)) (ah' ++ [(sz es).map ov]) (by omega) rfl rfl rfl get_last hs hsl
  rcases w3 with rfl | ⟨rfl, w4, w5⟩
  · refine ⟨.lst ((spec 10 t es (sz es)).map .int), a', fun n hn => ?_, items_lst, KeepBut.keep w2⟩
    obtain ⟨m, rfl⟩ : ∃ m, n = m + 200 := ⟨n - 200, by omega⟩
    rw [acall_]
    simp only [fns, bd_law_sizes, st_law_sizes_0, st_law_sizes_1, sizes_2, st_law_sizes_3, List.drop_nil, List.append_nil, List.zip_cons_cons, List.zip_nil_right, List.foldl_cons, List.foldl_nil, Nat.sub_self, ae_none, ae_bool, ae_int, ae_var, ae_bin, ae_neg, ae_cmp, ae_bo, ae_ife, ae_call, ae_bi, ae_edge, ae_attr, ae_meth, ae_sub, ae_slice, ae_lstT, ae_lstF, ae_tup, ae_compT, ae_compF, ae_sumg, aes_nil, aes_cons, ait_e, ait_range, ait_zip, ait_ezip, att_nt, att_bo, att_var, att_cmp, att_sub, att_bin, att_comp, ax_asg, ax_asub, ax_aug, ax_appm, ax_app, ax_ite, ax_whl, ax_for, ax_brk, ax_cont, ax_ret, ax_asrt, ax_doc, axs_nil, axs_cons, upd_, bindT_var, bindT_2, bindT_3, items_lst, items_ref, tr_none, tr_bool, tr_int, tr_lst, tr_ref, b_add, b_sub, b_and, c_is, c_isnot, c_lt, c_le, c_gt, c_ge, c_eq, c_ne, nn_none, nn_int, nn_lst, nn_ref, Option.bind_some, Option.map_some, if_true, if_false, Bool.false_eq_true, reduceIte, Nat.reduceEqDiff, Nat.reduceAdd, List.length_cons, List.length_nil, Nat.reduceLT, Nat.add_zero, Nat.zero_add, hok]
    rw [h2 _ (by omega)]
    simp only [ae_none, ae_bool, ae_int, ae_var, ae_bin, ae_neg, ae_cmp, ae_bo, ae_ife, ae_call, ae_bi, ae_edge, ae_attr, ae_meth, ae_sub, ae_slice, ae_lstT, ae_lstF, ae_tup, ae_compT, ae_compF, ae_sumg, aes_nil, aes_cons, ait_e, ait_range, ait_zip, ait_ezip, att_nt, att_bo, att_var, att_cmp, att_sub, att_bin, att_comp, ax_asg, ax_asub, ax_aug, ax_appm, ax_app, ax_ite, ax_whl, ax_for, ax_brk, ax_cont, ax_ret, ax_asrt, ax_doc, axs_nil, axs_cons, upd_, bindT_var, bindT_2, bindT_3, items_lst, items_ref, tr_none, tr_bool, tr_int, tr_lst, tr_ref, b_add, b_sub, b_and, c_is, c_isnot, c_lt, c_le, c_gt, c_ge, c_eq, c_ne, nn_none, nn_int, nn_lst, nn_ref, Option.bind_some, Option.map_some, if_true, if_false, Bool.false_eq_true, reduceIte, Nat.reduceEqDiff, Nat.reduceAdd, List.length_cons, List.length_nil, Nat.reduceLT, Nat.add_zero, Nat.zero_add]
    rw [w1 _ (by omega)]
    simp only [ae_none, ae_bool, ae_int, ae_var, ae_bin, ae_neg, ae_cmp, ae_bo, ae_ife, ae_call, ae_bi, ae_edge, ae_attr, ae_meth, ae_sub, ae_slice, ae_lstT, ae_lstF, ae_tup, ae_compT, ae_compF, ae_sumg, aes_nil, aes_cons, ait_e, ait_range, ait_zip, ait_ezip, att_nt, att_bo, att_var, att_cmp, att_sub, att_bin, att_comp, ax_asg, ax_asub, ax_aug, ax_appm, ax_app, ax_ite, ax_whl, ax_for, ax_brk, ax_cont, ax_ret, ax_asrt, ax_doc, axs_nil, axs_cons, upd_, bindT_var, bindT_2, bindT_3, items_lst, items_ref, tr_none, tr_bool, tr_int, tr_lst, tr_ref, b_add, b_sub, b_and, c_is, c_isnot, c_lt, c_le, c_gt, c_ge, c_eq, c_ne, nn_none, nn_int, nn_lst, nn_ref, Option.bind_some, Option.map_some, if_true, if_false, Bool.false_eq_true, reduceIte, Nat.reduceEqDiff, Nat.reduceAdd, List.length_cons, List.length_nil, Nat.reduceLT, Nat.add_zero, Nat.zero_add]
  · refine ⟨.ref ah'.length, a', fun n hn => ?_, items_ref.trans w5, KeepBut.keep w2⟩
    obtain ⟨m, rfl⟩ : ∃ m, n = m + 200 := ⟨n - 200, by omega⟩
    rw [acall_]
    simp only [fns, bd_law_sizes, st_law_sizes_0, st_law_sizes_1, sizes_2, st_law_sizes_3, List.drop_nil, List.append_nil, List.zip_cons_cons, List.zip_nil_right, List.foldl_cons, List.foldl_nil, Nat.sub_self, ae_none, ae_bool, ae_int, ae_var, ae_bin, ae_neg, ae_cmp, ae_bo, ae_ife, ae_call, ae_bi, ae_edge, ae_attr, ae_meth, ae_sub, ae_slice, ae_lstT, ae_lstF, ae_tup, ae_compT, ae_compF, ae_sumg, aes_nil, aes_cons, ait_e, ait_range, ait_zip, ait_ezip, att_nt, att_bo, att_var, att_cmp, att_sub, att_bin, att_comp, ax_asg, ax_asub, ax_aug, ax_appm, ax_app, ax_ite, ax_whl, ax_for, ax_brk, ax_cont, ax_ret, ax_asrt, ax_doc, axs_nil, axs_cons, upd_, bindT_var, bindT_2, bindT_3, items_lst, items_ref, tr_none, tr_bool, tr_int, tr_lst, tr_ref, b_add, b_sub, b_and, c_is, c_isnot, c_lt, c_le, c_gt, c_ge, c_eq, c_ne, nn_none, nn_int, nn_lst, nn_ref, Option.bind_some, Option.map_some, if_true, if_false, Bool.false_eq_true, reduceIte, Nat.reduceEqDiff, Nat.reduceAdd, List.length_cons, List.length_nil, Nat.reduceLT, Nat.add_zero, Nat.zero_add, hok]
    rw [h2 _ (by omega)]
    simp only [ae_none, ae_bool, ae_int, ae_var, ae_bin, ae_neg, ae_cmp, ae_bo, ae_ife, ae_call, ae_bi, ae_edge, ae_attr, ae_meth, ae_sub, ae_slice, ae_lstT, ae_lstF, ae_tup, ae_compT, ae_compF, ae_sumg, aes_nil, aes_cons, ait_e, ait_range, ait_zip, ait_ezip, att_nt, att_bo, att_var, att_cmp, att_sub, att_bin, att_comp, ax_asg, ax_asub, ax_aug, ax_appm, ax_app, ax_ite, ax_whl, ax_for, ax_brk, ax_cont, ax_ret, ax_asrt, ax_doc, axs_nil, axs_cons, upd_, bindT_var, bindT_2, bindT_3, items_lst, items_ref, tr_none, tr_bool, tr_int, tr_lst, tr_ref, b_add, b_sub, b_and, c_is, c_isnot, c_lt, c_le, c_gt, c_ge, c_eq, c_ne, nn_none, nn_int, nn_lst, nn_ref, Option.bind_some, Option.map_some, if_true, if_false, Bool.false_eq_true, reduceIte, Nat.reduceEqDiff, Nat.reduceAdd, List.length_cons, List.length_nil, Nat.reduceLT, Nat.add_zero, Nat.zero_add]
    rw [w1 _ (by omega)]
    simp only [ae_none, ae_bool, ae_int, ae_var, ae_bin, ae_neg, ae_cmp, ae_bo, ae_ife, ae_call, ae_bi, ae_edge, ae_attr, ae_meth, ae_sub, ae_slice, ae_lstT, ae_lstF, ae_tup, ae_compT, ae_compF, ae_sumg, aes_nil, aes_cons, ait_e, ait_range, ait_zip, ait_ezip, att_nt, att_bo, att_var, att_cmp, att_sub, att_bin, att_comp, ax_asg, ax_asub, ax_aug, ax_appm, ax_app, ax_ite, ax_whl, ax_for, ax_brk, ax_cont, ax_ret, ax_asrt, ax_doc, axs_nil, axs_cons, upd_, bindT_var, bindT_2, bindT_3, items_lst, items_ref, tr_none, tr_bool, tr_int, tr_lst, tr_ref, b_add, b_sub, b_and, c_is, c_isnot, c_lt, c_le, c_gt, c_ge, c_eq, c_ne, nn_none, nn_int, nn_lst, nn_ref, Option.bind_some, Option.map_some, if_true, if_false, Bool.false_eq_true, reduceIte, Nat.reduceEqDiff, Nat.reduceAdd, List.length_cons, List.length_nil, Nat.reduceLT, Nat.add_zero, Nat.zero_add, w4]
end Mine

end

section
open PySem
set_option autoImplicit false
set_option linter.unusedSimpArgs false
set_option linter.unusedVariables false
set_option maxRecDepth 100000
namespace Mine

theorem St.keep {cells : List Int} {s : Nat} {a b : AH} (h : St cells s a) (k : Keep a b) : St cells s b := by
  obtain ⟨i, h1, h2⟩ := h
  exact ⟨i, h1, k _ _ h2⟩
theorem items_keep {a b : AH} {v : AV} {xs : List AV} (k : Keep a b) (h : items a v = some xs) : items b v = some xs := by
  cases v <;> first | (cases h; done) | exact h | exact k _ _ h
theorem sub_items {a : AH} {v : AV} {xs : List AV} {k : Nat} (h : items a v = some xs) (hk : k < 1000) : asub a v (.int k) = xs[k]? := by
  have hc : (0 : Int) ≤ k ∧ (k : Int) < 1000 := by omega
  cases v with
  | lst ys => rw [sub_lst hc, Int.toNat_natCast]; cases h; rfl
  | ref r => rw [sub_ref hc h, Int.toNat_natCast]
  | _ => cases h

theorem draws_comp {α : Type} {cells : List Int} {s : Nat} (f : α → AV) (Q : α → Prop) {elt : EE}
    (h : ∀ (ρ : AE) a, ρ 0 = some (.ref s) → St cells s a → ∃ x a', (∀ n, 40 ≤ n → ae fns n elt ρ a = some (f x, a')) ∧ Q x ∧ St cells s a')
    {ρ : AE} {ah : AH} {N : Nat} (h0 : ρ 0 = some (.ref s)) (h1 : ρ 1 = some (.int N)) (hN : N < 900) (S : St cells s ah) :
    ∃ (xs : List α) (a' : AH), (∀ n, 50 + N ≤ n → ae fns n (.comp elt (.var 11) (.range (.var 1)) .none false [0]) ρ ah = some (.lst (xs.map f), a')) ∧ xs.length = N ∧ (∀ x ∈ xs, Q x) ∧ St cells s a' := by
  have hrg : (0 : Int) ≤ N ∧ (N : Int) < 1000 := by omega
  obtain ⟨acc', ah', ⟨xs, rfl, e2, e3, e4⟩, h2⟩ := acomp_run (F := fns) (elt := elt) (tg := .var 11) (ρ := capt ρ [0]) (src := .R N)
    (fun k acc a => ∃ xs : List α, acc = xs.map f ∧ xs.length = k ∧ (∀ x ∈ xs, Q x) ∧ St cells s a) N 40
    (fun k acc a hk hh => by
      obtain ⟨xs, rfl, e2, e3, e4⟩ := hh
      obtain ⟨x, a', g1, g2, g3⟩ := h (upd (capt ρ [0]) 11 (.int k)) a h0 e4
      refine ⟨by rw [List.length_map]; omega, .int k, _, f x, a', by rw [src_R, if_pos hk], rfl, g1, xs ++ [x], ?_, ?_, ?_, g3⟩
      · rw [List.map_append]; rfl
      · rw [List.length_append, e2]; rfl
      · intro y hy
        rcases List.mem_append.mp hy with q | q
        · exact e3 y q
        · rw [List.mem_singleton.mp q]; exact g2)
    (fun acc a hh => by rw [src_R, if_neg (by omega)])
    N 0 [] ah (by omega) ⟨[], rfl, rfl, fun _ hx => (nomatch hx), S⟩
  refine ⟨xs, ah', fun n hn => ?_, e2, e3, e4⟩
  obtain ⟨m, rfl⟩ : ∃ m, n = m + 6 := ⟨n - 6, by omega⟩
  simp only [ae_none, ae_bool, ae_int, ae_var, ae_bin, ae_neg, ae_cmp, ae_bo, ae_ife, ae_call, ae_bi, ae_edge, ae_attr, ae_meth, ae_sub, ae_slice, ae_lstT, ae_lstF, ae_tup, ae_compT, ae_compF, ae_sumg, aes_nil, aes_cons, ait_e, ait_range, ait_zip, ait_ezip, att_nt, att_bo, att_var, att_cmp, att_sub, att_bin, att_comp, ax_asg, ax_asub, ax_aug, ax_appm, ax_app, ax_ite, ax_whl, ax_for, ax_brk, ax_cont, ax_ret, ax_asrt, ax_doc, axs_nil, axs_cons, upd_, bindT_var, bindT_2, bindT_3, items_lst, items_ref, tr_none, tr_bool, tr_int, tr_lst, tr_ref, b_add, b_sub, b_and, c_is, c_isnot, c_lt, c_le, c_gt, c_ge, c_eq, c_ne, nn_none, nn_int, nn_lst, nn_ref, Option.bind_some, Option.map_some, if_true, if_false, Bool.false_eq_true, reduceIte, Nat.reduceEqDiff, Nat.reduceAdd, List.length_cons, List.length_nil, Nat.reduceLT, Nat.add_zero, Nat.zero_add, h1, hrg, and_self, Int.toNat_natCast]
  rw [h2 _ (by omega)]
  simp only [ae_none, ae_bool, ae_int, ae_var, ae_bin, ae_neg, ae_cmp, ae_bo, ae_ife, ae_call, ae_bi, ae_edge, ae_attr, ae_meth, ae_sub, ae_slice, ae_lstT, ae_lstF, ae_tup, ae_compT, ae_compF, ae_sumg, aes_nil, aes_cons, ait_e, ait_range, ait_zip, ait_ezip, att_nt, att_bo, att_var, att_cmp, att_sub, att_bin, att_comp, ax_asg, ax_asub, ax_aug, ax_appm, ax_app, ax_ite, ax_whl, ax_for, ax_brk, ax_cont, ax_ret, ax_asrt, ax_doc, axs_nil, axs_cons, upd_, bindT_var, bindT_2, bindT_3, items_lst, items_ref, tr_none, tr_bool, tr_int, tr_lst, tr_ref, b_add, b_sub, b_and, c_is, c_isnot, c_lt, c_le, c_gt, c_ge, c_eq, c_ne, nn_none, nn_int, nn_lst, nn_ref, Option.bind_some, Option.map_some, if_true, if_false, Bool.false_eq_true, reduceIte, Nat.reduceEqDiff, Nat.reduceAdd, List.length_cons, List.length_nil, Nat.reduceLT, Nat.add_zero, Nat.zero_add]

def dr (many : Int) : EE := .call 0 (.cons (.var 0) (.cons (.int many) .nil))
def drp (c many : Int) : EE := .bin .Add (.int c) (.call 0 (.cons (.var 0) (.cons (.int many) .nil)))
theorem dr_ok {cells : List Int} {s : Nat} {many : Int} (hl : cells.length ≤ 40) (hm : 0 < many) {ρ : AE} {a : AH} (h0 : ρ 0 = some (.ref s)) (S : St cells s a) :
    ∃ x a', (∀ n, 20 ≤ n → ae fns n (dr many) ρ a = some (.int x, a')) ∧ (0 ≤ x ∧ x < many) ∧ St cells s a' := by
  obtain ⟨v, a', g1, g2, g3, g4⟩ := draw hl hm S
  refine ⟨v, a', fun n hn => ?_, ⟨g2, g3⟩, g4⟩
  obtain ⟨m, rfl⟩ : ∃ m, n = m + 6 := ⟨n - 6, by omega⟩
  simp only [dr, ae_none, ae_bool, ae_int, ae_var, ae_bin, ae_neg, ae_cmp, ae_bo, ae_ife, ae_call, ae_bi, ae_edge, ae_attr, ae_meth, ae_sub, ae_slice, ae_lstT, ae_lstF, ae_tup, ae_compT, ae_compF, ae_sumg, aes_nil, aes_cons, ait_e, ait_range, ait_zip, ait_ezip, att_nt, att_bo, att_var, att_cmp, att_sub, att_bin, att_comp, ax_asg, ax_asub, ax_aug, ax_appm, ax_app, ax_ite, ax_whl, ax_for, ax_brk, ax_cont, ax_ret, ax_asrt, ax_doc, axs_nil, axs_cons, upd_, bindT_var, bindT_2, bindT_3, items_lst, items_ref, tr_none, tr_bool, tr_int, tr_lst, tr_ref, b_add, b_sub, b_and, c_is, c_isnot, c_lt, c_le, c_gt, c_ge, c_eq, c_ne, nn_none, nn_int, nn_lst, nn_ref, Option.bind_some, Option.map_some, if_true, if_false, Bool.false_eq_true, reduceIte, Nat.reduceEqDiff, Nat.reduceAdd, List.length_cons, List.length_nil, Nat.reduceLT, Nat.add_zero, Nat.zero_add, h0]
  exact g1 _ (by omega)
theorem drp_ok {cells : List Int} {s : Nat} {c many : Int} (hl : cells.length ≤ 40) (hm : 0 < many) {ρ : AE} {a : AH} (h0 : ρ 0 = some (.ref s)) (S : St cells s a) :
    ∃ x a', (∀ n, 30 ≤ n → ae fns n (drp c many) ρ a = some (.int x, a')) ∧ (c ≤ x ∧ x < c + many) ∧ St cells s a' := by
  obtain ⟨v, a', g1, g2, g4⟩ := dr_ok hl hm h0 S
  refine ⟨c + v, a', fun n hn => ?_, by omega, g4⟩
  obtain ⟨m, rfl⟩ : ∃ m, n = m + 2 := ⟨n - 2, by omega⟩
  have g := g1 (m + 1) (by omega)
  rw [dr] at g
  simp only [drp, ae_bin, ae_int, Option.bind_some, g, b_add]

def edr : EE := .tup (.cons (.sub (.lst false (.cons .none (.cons .none (.cons (drp 1 20) .nil)))) (dr 3)) (.cons (drp 1 4) (.cons (drp 1 6) .nil)))
def QE (e : E3) : Prop := (1 ≤ e.2.1 ∧ e.2.1 ≤ 4 ∧ 1 ≤ e.2.2 ∧ e.2.2 ≤ 6) ∧ ∀ v, e.1 = some v → 1 ≤ v ∧ v ≤ 20
theorem edr_ok {cells : List Int} {s : Nat} (hl : cells.length ≤ 40) (ρ : AE) (a : AH) (h0 : ρ 0 = some (.ref s)) (S : St cells s a) :
    ∃ x a', (∀ n, 40 ≤ n → ae fns n edr ρ a = some (et x, a')) ∧ QE x ∧ St cells s a' := by
  obtain ⟨v, a1, g1, b1, S1⟩ := drp_ok (c := 1) (many := 20) hl (by decide) h0 S
  obtain ⟨d, a2, g2, b2, S2⟩ := dr_ok (many := 3) hl (by decide) h0 S1
  obtain ⟨r, a3, g3, b3, S3⟩ := drp_ok (c := 1) (many := 4) hl (by decide) h0 S2
  obtain ⟨l, a4, g4, b4, S4⟩ := drp_ok (c := 1) (many := 6) hl (by decide) h0 S3
  have hd : d = 0 ∨ d = 1 ∨ d = 2 := by omega
  have hsub : asub a2 (.lst [.none, .none, .int v]) (.int d) = some (ov (if d = 2 then some v else none)) := by
    rcases hd with rfl | rfl | rfl <;> (rw [sub_lst (by decide)]; rfl)
  refine ⟨(if d = 2 then some v else none, r, l), a4, fun n hn => ?_, ⟨⟨b3.1, by show r ≤ 4; omega, b4.1, by show l ≤ 6; omega⟩, ?_⟩, S4⟩
  · obtain ⟨m, rfl⟩ : ∃ m, n = m + 40 := ⟨n - 40, by omega⟩
    simp only [edr, ae_tup, aes_cons, aes_nil, ae_sub, ae_lstF, ae_none, Option.bind_some, g1 (m + 33) (by omega), g2 (m + 37) (by omega), g3 (m + 37) (by omega), g4 (m + 36) (by omega), hsub, Option.map_some, List.length_cons, List.length_nil, Nat.reduceAdd, Nat.reduceLT, if_true]
    rfl
  · intro w e
    dsimp only at e
    split at e
    · cases e; omega
    · cases e
end Mine

end

section
open PySem
set_option autoImplicit false
set_option linter.unusedSimpArgs false
set_option linter.unusedVariables false
set_option maxRecDepth 100000
namespace Mine

theorem chk5_ok {ρ : AE} {ah : AH} {v : AV} {N : Nat} {es : List E3} {xs : List Int} (h1 : ρ 1 = some (.int N)) (h6 : ρ 6 = some (.lst (es.map et))) (h7 : ρ 7 = some v) (hv : items ah v = some (xs.map .int)) (hes : es.length = N) (hN : N < 900)
    (hg : ∀ k (hk : k < es.length), (∀ w, es[k].1 = some w → xs[k]? = some w) ∧ (es[k].1 = none → ∃ w, xs[k]? = some w ∧ lea es k ≤ w)) :
    ∀ n, 60 + N ≤ n → ax fns n st_law_5 ρ ah = some (.nx, ρ, ah) := by
  intro n hn
  obtain ⟨m, rfl⟩ : ∃ m, n = m + 6 := ⟨n - 6, by omega⟩
  have hrg : (0 : Int) ≤ N ∧ (N : Int) < 1000 := by omega
  have c7 : capt ρ [7, 6] 7 = some v := h7
  have c6 : capt ρ [7, 6] 6 = some (.lst (es.map et)) := h6
  obtain ⟨acc', ah', ⟨rfl, rfl⟩, h2⟩ := acomp_runF (F := fns) (elt := .var 11) (cnd := .bo true (.bo false (.cmp .IsNot (.sub (.sub (.var 6) (.var 11)) (.int 0)) .none) (.cmp .NotEq (.sub (.var 7) (.var 11)) (.sub (.sub (.var 6) (.var 11)) (.int 0)))) (.bo false (.cmp .Is (.sub (.sub (.var 6) (.var 11)) (.int 0)) .none) (.cmp .Lt (.sub (.var 7) (.var 11)) (.sub (.sub (.var 6) (.var 11)) (.int 2))))) (tg := .var 11) (ρ := capt ρ [7, 6]) (src := .R N)
    (fun k acc a => acc = [] ∧ a = ah) N 30
    (fun k acc a hk hh => by
      obtain ⟨rfl, rfl⟩ := hh
      have hk2 : k < es.length := by omega
      have s1 := et_at (ah := a) hk2 (by omega)
      have s2 : asub a v (.int k) = xs[k]?.map .int := by rw [sub_items hv (by omega), List.getElem?_map]
      obtain ⟨q1, q2⟩ := hg k hk2
      refine ⟨by simp, .int k, _, false, a, by rw [src_R, if_pos hk], rfl, fun n hn => ?_, fun hb => (nomatch hb), fun _ => ⟨rfl, rfl⟩⟩
      obtain ⟨m, rfl⟩ : ∃ m, n = m + 30 := ⟨n - 30, by omega⟩
      cases e : es[k].1 with
      | none =>
        obtain ⟨w, q3, q4⟩ := q2 e
        rw [q3] at s2
        rw [e] at s1
        have q5 : ¬ w < lea es k := by omega
        simp only [ae_none, ae_bool, ae_int, ae_var, ae_bin, ae_neg, ae_cmp, ae_bo, ae_ife, ae_call, ae_bi, ae_edge, ae_attr, ae_meth, ae_sub, ae_slice, ae_lstT, ae_lstF, ae_tup, ae_compT, ae_compF, ae_sumg, aes_nil, aes_cons, ait_e, ait_range, ait_zip, ait_ezip, att_nt, att_bo, att_var, att_cmp, att_sub, att_bin, att_comp, ax_asg, ax_asub, ax_aug, ax_appm, ax_app, ax_ite, ax_whl, ax_for, ax_brk, ax_cont, ax_ret, ax_asrt, ax_doc, axs_nil, axs_cons, upd_, bindT_var, bindT_2, bindT_3, items_lst, items_ref, tr_none, tr_bool, tr_int, tr_lst, tr_ref, b_add, b_sub, b_and, c_is, c_isnot, c_lt, c_le, c_gt, c_ge, c_eq, c_ne, nn_none, nn_int, nn_lst, nn_ref, Option.bind_some, Option.map_some, if_true, if_false, Bool.false_eq_true, reduceIte, Nat.reduceEqDiff, Nat.reduceAdd, List.length_cons, List.length_nil, Nat.reduceLT, Nat.add_zero, Nat.zero_add, c6, c7, s1, s2, t3_0, t3_2, ov, q5, decide_false, Bool.not_true, Bool.not_false, reduceCtorEq]
      | some w =>
        rw [q1 w e] at s2
        rw [e] at s1
        simp only [ae_none, ae_bool, ae_int, ae_var, ae_bin, ae_neg, ae_cmp, ae_bo, ae_ife, ae_call, ae_bi, ae_edge, ae_attr, ae_meth, ae_sub, ae_slice, ae_lstT, ae_lstF, ae_tup, ae_compT, ae_compF, ae_sumg, aes_nil, aes_cons, ait_e, ait_range, ait_zip, ait_ezip, att_nt, att_bo, att_var, att_cmp, att_sub, att_bin, att_comp, ax_asg, ax_asub, ax_aug, ax_appm, ax_app, ax_ite, ax_whl, ax_for, ax_brk, ax_cont, ax_ret, ax_asrt, ax_doc, axs_nil, axs_cons, upd_, bindT_var, bindT_2, bindT_3, items_lst, items_ref, tr_none, tr_bool, tr_int, tr_lst, tr_ref, b_add, b_sub, b_and, c_is, c_isnot, c_lt, c_le, c_gt, c_ge, c_eq, c_ne, nn_none, nn_int, nn_lst, nn_ref, Option.bind_some, Option.map_some, if_true, if_false, Bool.false_eq_true, reduceIte, Nat.reduceEqDiff, Nat.reduceAdd, List.length_cons, List.length_nil, Nat.reduceLT, Nat.add_zero, Nat.zero_add, c6, c7, s1, s2, t3_0, t3_2, ov, bne_self_eq_false, Bool.not_true, Bool.not_false, reduceCtorEq])
    (fun acc a hh => by rw [src_R, if_neg (by omega)])
    N 0 [] ah (by omega) ⟨rfl, rfl⟩
  simp only [st_law_5, ae_none, ae_bool, ae_int, ae_var, ae_bin, ae_neg, ae_cmp, ae_bo, ae_ife, ae_call, ae_bi, ae_edge, ae_attr, ae_meth, ae_sub, ae_slice, ae_lstT, ae_lstF, ae_tup, ae_compT, ae_compF, ae_sumg, aes_nil, aes_cons, ait_e, ait_range, ait_zip, ait_ezip, att_nt, att_bo, att_var, att_cmp, att_sub, att_bin, att_comp, ax_asg, ax_asub, ax_aug, ax_appm, ax_app, ax_ite, ax_whl, ax_for, ax_brk, ax_cont, ax_ret, ax_asrt, ax_doc, axs_nil, axs_cons, upd_, bindT_var, bindT_2, bindT_3, items_lst, items_ref, tr_none, tr_bool, tr_int, tr_lst, tr_ref, b_add, b_sub, b_and, c_is, c_isnot, c_lt, c_le, c_gt, c_ge, c_eq, c_ne, nn_none, nn_int, nn_lst, nn_ref, Option.bind_some, Option.map_some, if_true, if_false, Bool.false_eq_true, reduceIte, Nat.reduceEqDiff, Nat.reduceAdd, List.length_cons, List.length_nil, Nat.reduceLT, Nat.add_zero, Nat.zero_add, h1, hrg, and_self, Int.toNat_natCast]
  rw [h2 _ (by omega)]
  simp only [ae_none, ae_bool, ae_int, ae_var, ae_bin, ae_neg, ae_cmp, ae_bo, ae_ife, ae_call, ae_bi, ae_edge, ae_attr, ae_meth, ae_sub, ae_slice, ae_lstT, ae_lstF, ae_tup, ae_compT, ae_compF, ae_sumg, aes_nil, aes_cons, ait_e, ait_range, ait_zip, ait_ezip, att_nt, att_bo, att_var, att_cmp, att_sub, att_bin, att_comp, ax_asg, ax_asub, ax_aug, ax_appm, ax_app, ax_ite, ax_whl, ax_for, ax_brk, ax_cont, ax_ret, ax_asrt, ax_doc, axs_nil, axs_cons, upd_, bindT_var, bindT_2, bindT_3, items_lst, items_ref, tr_none, tr_bool, tr_int, tr_lst, tr_ref, b_add, b_sub, b_and, c_is, c_isnot, c_lt, c_le, c_gt, c_ge, c_eq, c_ne, nn_none, nn_int, nn_lst, nn_ref, Option.bind_some, Option.map_some, if_true, if_false, Bool.false_eq_true, reduceIte, Nat.reduceEqDiff, Nat.reduceAdd, List.length_cons, List.length_nil, Nat.reduceLT, Nat.add_zero, Nat.zero_add, List.isEmpty_nil, Bool.not_true]

def F8 : SL := (.cons (.ite (.cmp .NotEq (.sub (.var 46) (.var 11)) (.bi .max (.cons (.lst false (.cons (.sub (.var 10) (.var 11)) (.cons (.bin .Sub (.int 0) (.bin .FloorDiv (.bin .Sub (.int 0) (.bin .Mult (.sub (.var 21) (.var 11)) (.var 24))) (.var 15))) .nil))) .nil))) (.cons (.ret (.bool false)) .nil) .nil) (.cons (.asg (.t2 (.var 24) (.var 15)) (.tup (.cons (.bin .Sub (.var 24) (.sub (.var 46) (.var 11))) (.cons (.bin .Sub (.var 15) (.sub (.var 21) (.var 11))) .nil)))) .nil))
theorem law_8 : st_law_8 = .for_ (.var 11) (.range (.var 1)) F8 .nil := rfl

theorem dist_at (zs : List (Int × Int)) (p l : Int) (acc full : List Int) (h : acc ++ dist zs p l = full) (z : Int × Int) (r : List (Int × Int)) (e : zs = z :: r) : full[acc.length]? = some (mx z.2 (-((-z.1 * l).fdiv p))) := by
  subst e
  rw [← h, dist, List.getElem?_append_right (Nat.le_refl _), Nat.sub_self]; rfl

theorem chk8_ok {ρ : AE} {ah : AH} {sr : Nat} {N : Nat} {zs : List (Int × Int)} {total : Int} (hz : ∀ z ∈ zs, 1 ≤ z.1 ∧ z.1 ≤ 4) (hl : zs.length = N) (hN : N ≤ 5)
    (h1 : ρ 1 = some (.int N)) (h21 : ρ 21 = some (.lst (zs.map fun z => .int z.1))) (h10 : ρ 10 = some (.lst (zs.map fun z => .int z.2))) (h46 : ρ 46 = some (.ref sr)) (h24 : ρ 24 = some (.int total)) (h15 : ρ 15 = some (.int (psum zs))) (hr : ah[sr]? = some ((dist zs (psum zs) total).map .int)) :
    ∃ ρ', (∀ y, y ≠ 11 → y ≠ 24 → y ≠ 15 → ρ' y = ρ y) ∧ ∀ n, 60 ≤ n → ax fns n st_law_8 ρ ah = some (.nx, ρ', ah) := by
  have hrg : (0 : Int) ≤ N ∧ (N : Int) < 1000 := by omega
  obtain ⟨ρ', ah', ⟨rfl, g1, _⟩, h2⟩ := afor_run (F := fns) (tg := .var 11) (src := .R N) (b := F8)
    (fun k ρ' a => a = ah ∧ (∀ y, y ≠ 11 → y ≠ 24 → y ≠ 15 → ρ' y = ρ y) ∧ ∃ acc p l, ρ' 24 = some (.int l) ∧ ρ' 15 = some (.int p) ∧ p = psum (zs.drop k) ∧ acc.length = k ∧ acc ++ dist (zs.drop k) p l = dist zs (psum zs) total) N 40
    (fun k ρ' a hk hh => by
      obtain ⟨rfl, g1, acc, p, l, q24, q15, hp, ha, hd2⟩ := hh
      have hk2 : k < zs.length := by omega
      have hd : zs.drop k = zs[k] :: zs.drop (k + 1) := List.drop_eq_getElem_cons hk2
      have hzk := hz zs[k] (List.getElem_mem hk2)
      have hb := psum_bounds (zs := zs.drop k) fun z hz' => hz z (List.mem_of_mem_drop hz')
      have hlen : (zs.drop k).length = zs.length - k := List.length_drop
      have hp0 : p ≠ 0 := by omega
      have hps : small30 p = true := small30_of (by omega) (by omega)
      have hsm : small zs[k].1 = true := small_of (by omega) (by omega)
      have hat := dist_at _ _ _ _ _ hd2 _ _ hd
      rw [ha] at hat
      have e0 : -zs[k].1 * l = 0 - zs[k].1 * l := by rw [Int.neg_mul]; omega
      rw [e0] at hat
      have e1 : -((0 - zs[k].1 * l).fdiv p) = 0 - (0 - zs[k].1 * l).fdiv p := by omega
      rw [e1] at hat
      have s1 := sub_at (ah := a) (f := fun z : Int × Int => AV.int z.1) hk2 (by omega)
      have s2 := sub_at (ah := a) (f := fun z : Int × Int => AV.int z.2) hk2 (by omega)
      have s3 : asub a (.ref sr) (.int k) = some (.int (mx zs[k].2 (0 - (0 - zs[k].1 * l).fdiv p))) := by
        rw [sub_items (items_ref.trans hr) (by omega), List.getElem?_map, hat]; rfl
      have k46 : ρ' 46 = some (.ref sr) := (g1 46 (by decide) (by decide) (by decide)).trans h46
      have k21 := (g1 21 (by decide) (by decide) (by decide)).trans h21
      have k10 := (g1 10 (by decide) (by decide) (by decide)).trans h10
      rw [hd, dist, e0, e1] at hd2
      refine ⟨.int k, _, upd (upd (upd ρ' 11 (.int k)) 24 (.int (l - mx zs[k].2 (0 - (0 - zs[k].1 * l).fdiv p)))) 15 (.int (p - zs[k].1)), a, by rw [src_R, if_pos hk], rfl, fun n hn => ?_, rfl, fun y a b c => ?_, acc ++ [mx zs[k].2 (0 - (0 - zs[k].1 * l).fdiv p)], p - zs[k].1, l - mx zs[k].2 (0 - (0 - zs[k].1 * l).fdiv p), rfl, rfl, ?_, by rw [List.length_append, ha]; rfl, ?_⟩
      · obtain ⟨m, rfl⟩ : ∃ m, n = m + 40 := ⟨n - 40, by omega⟩
        simp only [F8, ae_none, ae_bool, ae_int, ae_var, ae_bin, ae_neg, ae_cmp, ae_bo, ae_ife, ae_call, ae_bi, ae_edge, ae_attr, ae_meth, ae_sub, ae_slice, ae_lstT, ae_lstF, ae_tup, ae_compT, ae_compF, ae_sumg, aes_nil, aes_cons, ait_e, ait_range, ait_zip, ait_ezip, att_nt, att_bo, att_var, att_cmp, att_sub, att_bin, att_comp, ax_asg, ax_asub, ax_aug, ax_appm, ax_app, ax_ite, ax_whl, ax_for, ax_brk, ax_cont, ax_ret, ax_asrt, ax_doc, axs_nil, axs_cons, upd_, bindT_var, bindT_2, bindT_3, items_lst, items_ref, tr_none, tr_bool, tr_int, tr_lst, tr_ref, b_add, b_sub, b_and, c_is, c_isnot, c_lt, c_le, c_gt, c_ge, c_eq, c_ne, nn_none, nn_int, nn_lst, nn_ref, Option.bind_some, Option.map_some, if_true, if_false, Bool.false_eq_true, reduceIte, Nat.reduceEqDiff, Nat.reduceAdd, List.length_cons, List.length_nil, Nat.reduceLT, Nat.add_zero, Nat.zero_add, k46, k21, k10, q24, q15, s1, s2, s3, b_mul hsm, b_fdiv hp0 hps, i_maxL, bne_self_eq_false]
      · simp only [upd_, a, b, c, if_false]; exact g1 y a b c
      · rw [hp, hd]; simp only [psum, List.map_cons, List.sum_cons]; omega
      · rw [List.append_assoc]; exact hd2)
    (fun ρ a h => by rw [src_R, if_neg (by omega)])
    N 0 ρ ah (by omega) ⟨rfl, fun _ _ _ _ => rfl, [], psum zs, total, h24, h15, rfl, rfl, rfl⟩
  refine ⟨ρ', g1, fun n hn => ?_⟩
  obtain ⟨m, rfl⟩ : ∃ m, n = m + 6 := ⟨n - 6, by omega⟩
  rw [law_8]
  simp only [ax_for, ait_range, ae_var, Option.bind_some, Option.map_some, h1, hrg, and_self, if_true, Int.toNat_natCast]
  rw [h2 _ (by omega)]
end Mine

end

section
open PySem
set_option autoImplicit false
set_option linter.unusedSimpArgs false
set_option linter.unusedVariables false
set_option maxRecDepth 100000
namespace Mine

theorem ceil_bd {r p l : Int} (h0 : 0 ≤ r) (h : r ≤ p) (hp : 0 < p) (hl : 0 ≤ l) : 0 ≤ -((-r * l).fdiv p) ∧ -((-r * l).fdiv p) ≤ l := by
  have e : -r * l = -(r * l) := Int.neg_mul ..
  have h1 : 0 ≤ r * l := Int.mul_nonneg h0 hl
  have h2 : r * l ≤ p * l := Int.mul_le_mul_of_nonneg_right h hl
  rw [e, Int.fdiv_eq_ediv_of_nonneg _ (by omega)]
  have h3 : -(r * l) / p ≤ 0 / p := Int.ediv_le_ediv hp (by omega)
  rw [Int.zero_ediv] at h3
  have h4 : -l ≤ -(r * l) / p := (Int.le_ediv_iff_mul_le hp).mpr (by rw [Int.neg_mul, Int.mul_comm l p]; omega)
  omega
theorem ceil_self {r l : Int} (h : 1 ≤ r) : -((-r * l).fdiv r) = l := by
  have e : -r * l = r * -l := by rw [Int.neg_mul, Int.mul_neg]
  rw [e, Int.mul_fdiv_cancel_left _ (by omega)]; omega
theorem mx0 {c : Int} (h : 0 ≤ c) : mx 0 c = c := by unfold mx; split <;> omega

theorem dist0 : ∀ (zs : List (Int × Int)) (l : Int), (∀ z ∈ zs, 1 ≤ z.1 ∧ z.1 ≤ 4) → (∀ z ∈ zs, z.2 = 0) → 1 ≤ zs.length → 0 ≤ l →
    (dist zs (psum zs) l).sum = l ∧ ∀ v ∈ dist zs (psum zs) l, 0 ≤ v ∧ v ≤ l := by
  intro zs
  induction zs with
  | nil => intro l _ _ h; simp at h
  | cons z r ih =>
    intro l hz hm h hl
    have hz1 := hz z (.head _)
    have hm1 := hm z (.head _)
    have hp : psum (z :: r) = z.1 + psum r := by simp [psum]
    have hb := psum_bounds (zs := r) fun y hy => hz y (.tail _ hy)
    cases r with
    | nil =>
      have e : psum [z] = z.1 := by simp [psum]
      rw [dist, e, hm1, ceil_self hz1.1, mx0 hl, dist]
      refine ⟨by simp, fun v hv => ?_⟩
      rw [List.mem_singleton.mp hv]; omega
    | cons y r' =>
      have cb := ceil_bd (r := z.1) (p := psum (z :: y :: r')) (l := l) (by omega) (by omega) (by omega) hl
      rw [dist, hm1, mx0 cb.1]
      generalize -((-z.1 * l).fdiv (psum (z :: y :: r'))) = c at cb
      have e : psum (z :: y :: r') - z.1 = psum (y :: r') := by omega
      rw [e]
      obtain ⟨i1, i2⟩ := ih (l - c) (fun w hw => hz w (.tail _ hw)) (fun w hw => hm w (.tail _ hw)) (by simp) (by omega)
      refine ⟨by rw [List.sum_cons, i1]; omega, fun v hv => ?_⟩
      rcases List.mem_cons.mp hv with q | q
      · rw [q]; omega
      · have := i2 v q; omega

theorem chk9_ok {ρ : AE} {ah : AH} {rs : List Int} {total : Int} (h5 : ρ 5 = some (.int total)) (h21 : ρ 21 = some (.lst (rs.map .int))) (hz : ∀ r ∈ rs, 1 ≤ r ∧ r ≤ 4) (hl : rs.length ≤ 5) (h0 : 1 ≤ rs.length) (ht : 0 ≤ total) (ht2 : total < 100) :
    ∃ ah', Keep ah ah' ∧ ∀ n, 120 ≤ n → ax fns n st_law_9 ρ ah = some (.nx, ρ, ah') := by
  have em : rs.map AV.int = (rs.map fun r => (r, (0 : Int))).map fun z => AV.int z.1 := by rw [List.map_map]; rfl
  have hz2 : ∀ z ∈ (rs.map fun r => (r, (0 : Int))), 1 ≤ z.1 ∧ z.1 ≤ 4 := fun z hz' => by
    obtain ⟨r, h1, rfl⟩ := List.mem_map.mp hz'; exact hz r h1
  have hm2 : ∀ z ∈ (rs.map fun r => (r, (0 : Int))), z.2 = 0 := fun z hz' => by
    obtain ⟨r, h1, rfl⟩ := List.mem_map.mp hz'; rfl
  rw [em] at h21
  have hl2 : (rs.map fun r => (r, (0 : Int))).length = rs.length := List.length_map ..
  generalize (rs.map fun r => (r, (0 : Int))) = zs at *
  have d := dist_ok0 (ah := ah) (total := total) hz2 hm2 (by omega) (by omega)
  obtain ⟨d1, d2⟩ := dist0 zs total hz2 hm2 (by omega) ht
  have hsum : abi .sum (ah ++ [(dist zs (psum zs) total).map .int]) [.ref ah.length] = some (.int total) := by
    rw [i_sum (xs := dist zs (psum zs) total) (items_ref.trans get_last) (by rw [dist_len]; omega), d1]
    intro i hi
    have := d2 i hi
    exact small30_of (by omega) (by omega)
  refine ⟨ah ++ [(dist zs (psum zs) total).map .int], Keep.app _ _, fun n hn => ?_⟩
  obtain ⟨m, rfl⟩ : ∃ m, n = m + 20 := ⟨n - 20, by omega⟩
  simp only [st_law_9, ae_none, ae_bool, ae_int, ae_var, ae_bin, ae_neg, ae_cmp, ae_bo, ae_ife, ae_call, ae_bi, ae_edge, ae_attr, ae_meth, ae_sub, ae_slice, ae_lstT, ae_lstF, ae_tup, ae_compT, ae_compF, ae_sumg, aes_nil, aes_cons, ait_e, ait_range, ait_zip, ait_ezip, att_nt, att_bo, att_var, att_cmp, att_sub, att_bin, att_comp, ax_asg, ax_asub, ax_aug, ax_appm, ax_app, ax_ite, ax_whl, ax_for, ax_brk, ax_cont, ax_ret, ax_asrt, ax_doc, axs_nil, axs_cons, upd_, bindT_var, bindT_2, bindT_3, items_lst, items_ref, tr_none, tr_bool, tr_int, tr_lst, tr_ref, b_add, b_sub, b_and, c_is, c_isnot, c_lt, c_le, c_gt, c_ge, c_eq, c_ne, nn_none, nn_int, nn_lst, nn_ref, Option.bind_some, Option.map_some, if_true, if_false, Bool.false_eq_true, reduceIte, Nat.reduceEqDiff, Nat.reduceAdd, List.length_cons, List.length_nil, Nat.reduceLT, Nat.add_zero, Nat.zero_add, h5, h21]
  rw [d _ (by omega)]
  simp only [ae_none, ae_bool, ae_int, ae_var, ae_bin, ae_neg, ae_cmp, ae_bo, ae_ife, ae_call, ae_bi, ae_edge, ae_attr, ae_meth, ae_sub, ae_slice, ae_lstT, ae_lstF, ae_tup, ae_compT, ae_compF, ae_sumg, aes_nil, aes_cons, ait_e, ait_range, ait_zip, ait_ezip, att_nt, att_bo, att_var, att_cmp, att_sub, att_bin, att_comp, ax_asg, ax_asub, ax_aug, ax_appm, ax_app, ax_ite, ax_whl, ax_for, ax_brk, ax_cont, ax_ret, ax_asrt, ax_doc, axs_nil, axs_cons, upd_, bindT_var, bindT_2, bindT_3, items_lst, items_ref, tr_none, tr_bool, tr_int, tr_lst, tr_ref, b_add, b_sub, b_and, c_is, c_isnot, c_lt, c_le, c_gt, c_ge, c_eq, c_ne, nn_none, nn_int, nn_lst, nn_ref, Option.bind_some, Option.map_some, if_true, if_false, Bool.false_eq_true, reduceIte, Nat.reduceEqDiff, Nat.reduceAdd, List.length_cons, List.length_nil, Nat.reduceLT, Nat.add_zero, Nat.zero_add, hsum, bne_self_eq_false]

theorem okE_1 : OkE [(none, 1, 1), (none, 1, 1), (none, 1, 1)] := fun e he => by
  simp only [List.mem_cons, List.not_mem_nil, or_false] at he
  rcases he with rfl | rfl | rfl <;> decide
theorem okE_2 : OkE [(none, 1, 3), (none, 1, 4), (none, 1, 1)] := fun e he => by
  simp only [List.mem_cons, List.not_mem_nil, or_false] at he
  rcases he with rfl | rfl | rfl <;> decide
theorem okS_n {es : List E3} (h : ∀ e ∈ es, e.1 = none) : OkS (sz es) := fun s hs v e => by
  obtain ⟨x, h1, rfl⟩ := List.mem_map.mp hs
  rw [h x h1] at e; cases e
theorem spec_1 : spec 10 10 [(none, 1, 1), (none, 1, 1), (none, 1, 1)] (sz [(none, 1, 1), (none, 1, 1), (none, 1, 1)]) = [3, 3, 4] := by decide +kernel
theorem spec_2 : spec 10 7 [(none, 1, 3), (none, 1, 4), (none, 1, 1)] (sz [(none, 1, 3), (none, 1, 4), (none, 1, 1)]) = [3, 4, 1] := by decide +kernel

theorem b_rep3 {ah : AH} {v : AV} : abin .Mult ah (.lst [v]) (.int 3) = some (.lst [v, v, v], ah) := rfl

theorem chk13_ok {ρ : AE} {ah : AH} : ∃ ah', ∀ n, 220 ≤ n → ax fns n st_law_13 ρ ah = some (.ret (.bool true), ρ, ah') := by
  obtain ⟨v1, a1, c1, i1, k1⟩ := resolve_ok (ah := ah) (t := 10) okE_1 (okS_n (by simp)) (by decide) (by decide)
  obtain ⟨v2, a2, c2, i2, k2⟩ := resolve_ok (ah := a1) (t := 7) okE_2 (okS_n (by simp)) (by decide) (by decide)
  rw [spec_1] at i1
  rw [spec_2] at i2
  have q1 := c_eqL (u := v1) (v := .lst [.int 3, .int 3, .int 4]) (ys := [3, 3, 4]) i1 rfl
  have q2 := c_eqL (u := v2) (v := .lst [.int 3, .int 4, .int 1]) (ys := [3, 4, 1]) i2 rfl
  refine ⟨a2, fun n hn => ?_⟩
  obtain ⟨m, rfl⟩ : ∃ m, n = m + 20 := ⟨n - 20, by omega⟩
  have c1 := c1 (m + 16) (by omega)
  have c2 := c2 (m + 16) (by omega)
  simp only [List.map_cons, List.map_nil, ev, ov] at c1 c2
  simp only [st_law_13, ae_none, ae_bool, ae_int, ae_var, ae_bin, ae_neg, ae_cmp, ae_bo, ae_ife, ae_call, ae_bi, ae_edge, ae_attr, ae_meth, ae_sub, ae_slice, ae_lstT, ae_lstF, ae_tup, ae_compT, ae_compF, ae_sumg, aes_nil, aes_cons, ait_e, ait_range, ait_zip, ait_ezip, att_nt, att_bo, att_var, att_cmp, att_sub, att_bin, att_comp, ax_asg, ax_asub, ax_aug, ax_appm, ax_app, ax_ite, ax_whl, ax_for, ax_brk, ax_cont, ax_ret, ax_asrt, ax_doc, axs_nil, axs_cons, upd_, bindT_var, bindT_2, bindT_3, items_lst, items_ref, tr_none, tr_bool, tr_int, tr_lst, tr_ref, b_add, b_sub, b_and, c_is, c_isnot, c_lt, c_le, c_gt, c_ge, c_eq, c_ne, nn_none, nn_int, nn_lst, nn_ref, Option.bind_some, Option.map_some, if_true, if_false, Bool.false_eq_true, reduceIte, Nat.reduceEqDiff, Nat.reduceAdd, List.length_cons, List.length_nil, Nat.reduceLT, Nat.add_zero, Nat.zero_add, b_rep3, c1, q1, decide_true, reduceCtorEq]
  simp only [ae_none, ae_bool, ae_int, ae_var, ae_bin, ae_neg, ae_cmp, ae_bo, ae_ife, ae_call, ae_bi, ae_edge, ae_attr, ae_meth, ae_sub, ae_slice, ae_lstT, ae_lstF, ae_tup, ae_compT, ae_compF, ae_sumg, aes_nil, aes_cons, ait_e, ait_range, ait_zip, ait_ezip, att_nt, att_bo, att_var, att_cmp, att_sub, att_bin, att_comp, ax_asg, ax_asub, ax_aug, ax_appm, ax_app, ax_ite, ax_whl, ax_for, ax_brk, ax_cont, ax_ret, ax_asrt, ax_doc, axs_nil, axs_cons, upd_, bindT_var, bindT_2, bindT_3, items_lst, items_ref, tr_none, tr_bool, tr_int, tr_lst, tr_ref, b_add, b_sub, b_and, c_is, c_isnot, c_lt, c_le, c_gt, c_ge, c_eq, c_ne, nn_none, nn_int, nn_lst, nn_ref, Option.bind_some, Option.map_some, if_true, if_false, Bool.false_eq_true, reduceIte, Nat.reduceEqDiff, Nat.reduceAdd, List.length_cons, List.length_nil, Nat.reduceLT, Nat.add_zero, Nat.zero_add, c2, q2, decide_true]
end Mine

end

section
open PySem
set_option autoImplicit false
set_option linter.unusedSimpArgs false
set_option linter.unusedVariables false
set_option maxRecDepth 100000
namespace Mine

theorem law_1 : st_law_1 = .asg (.t2 (.var 5) (.var 1)) (.tup (.cons (dr 61) (.cons (drp 1 5) .nil))) := rfl
theorem law_2 : st_law_2 = .asg (.var 6) (.comp edr (.var 11) (.range (.var 1)) .none false [0]) := rfl
theorem law_6 : st_law_6 = .asg (.t2 (.var 21) (.var 10)) (.tup (.cons (.comp (drp 1 4) (.var 11) (.range (.var 1)) .none false [0]) (.cons (.comp (drp 1 3) (.var 11) (.range (.var 1)) .none false [0]) .nil))) := rfl
theorem law_10 : st_law_10 = .asg (.t2 (.var 23) (.var 47)) (.tup (.cons (.comp (drp 10 20) (.var 11) (.range (.var 1)) .none false [0]) (.cons (.comp (dr 3) (.var 11) (.range (.var 1)) .none false [0]) .nil))) := rfl
theorem law_11 : st_law_11 = .asg (.t2 (.var 22) (.var 48)) (.tup (.cons (.comp (dr 10) (.var 11) (.range (.var 1)) .none false [0]) (.cons (dr 20) .nil))) := rfl

section
variable {cells : List Int} {s : Nat} {ρ : AE} {ah : AH}
theorem k1_ok (hl : cells.length ≤ 40) (h0 : ρ 0 = some (.ref s)) (S : St cells s ah) :
    ∃ (t : Int) (N : Nat) (ah' : AH), 0 ≤ t ∧ t < 61 ∧ 1 ≤ N ∧ N ≤ 5 ∧ St cells s ah' ∧ ∀ n, 60 ≤ n → ax fns n st_law_1 ρ ah = some (.nx, upd (upd ρ 5 (.int t)) 1 (.int N), ah') := by
  obtain ⟨t, a1, g1, b1, S1⟩ := dr_ok (many := 61) hl (by decide) h0 S
  obtain ⟨v, a2, g2, b2, S2⟩ := drp_ok (c := 1) (many := 5) hl (by decide) h0 S1
  obtain ⟨N, rfl⟩ : ∃ N : Nat, v = N := ⟨v.toNat, by omega⟩
  refine ⟨t, N, a2, b1.1, b1.2, by omega, by omega, S2, fun n hn => ?_⟩
  obtain ⟨m, rfl⟩ : ∃ m, n = m + 60 := ⟨n - 60, by omega⟩
  simp only [law_1, ax_asg, ae_tup, aes_cons, aes_nil, g1 (m + 57) (by omega), g2 (m + 56) (by omega), Option.bind_some, List.length_cons, List.length_nil, Nat.reduceAdd, Nat.reduceLT, if_true, bindT_2, bindT_var, Option.map_some]

theorem k2_ok {N : Nat} (hl : cells.length ≤ 40) (h0 : ρ 0 = some (.ref s)) (h1 : ρ 1 = some (.int N)) (hN : N ≤ 5) (S : St cells s ah) :
    ∃ (es : List E3) (ah' : AH), es.length = N ∧ (∀ e ∈ es, QE e) ∧ St cells s ah' ∧ ∀ n, 70 ≤ n → ax fns n st_law_2 ρ ah = some (.nx, upd ρ 6 (.lst (es.map et)), ah') := by
  obtain ⟨es, a1, g1, b1, b2, S1⟩ := draws_comp (cells := cells) (s := s) et QE (elt := edr) (fun ρ a => edr_ok hl ρ a) h0 h1 (by omega) S
  refine ⟨es, a1, b1, b2, S1, fun n hn => ?_⟩
  obtain ⟨m, rfl⟩ : ∃ m, n = m + 1 := ⟨n - 1, by omega⟩
  simp only [law_2, ax_asg, g1 m (by omega), Option.bind_some, bindT_var, Option.map_some]

theorem k3_ok {t : Int} {es : List E3} (h5 : ρ 5 = some (.int t)) (h6 : ρ 6 = some (.lst (es.map et))) (he : OkE es) (hs : OkS (sz es)) (hl : es.length ≤ 5) (ht : t < 1000) :
    ∃ v ah', items ah' v = some ((spec 10 t es (sz es)).map .int) ∧ Keep ah ah' ∧ ∀ n, 220 ≤ n → ax fns n st_law_3 ρ ah = some (.nx, upd ρ 7 v, ah') := by
  have hok : srcOk ah (.L (.lst (es.map et))) = true := ok_L items_lst (by rw [List.length_map]; omega)
  obtain ⟨acc', ah', ⟨e1, e2⟩, h2⟩ := acomp_run (F := fns) (elt := .edge (.cons (.var 8) (.cons (.var 9) (.cons (.var 10) .nil)))) (tg := .t3 (.var 8) (.var 9) (.var 10)) (ρ := capt ρ []) (src := .L (.lst (es.map et)))
    (fun k acc a => acc = (es.take k).map ev ∧ a = ah) es.length 12
    (fun k acc a hk h => by
      obtain ⟨rfl, rfl⟩ := h
      refine ⟨by simp only [List.length_map, List.length_take]; omega, et es[k], _, ev es[k], a, by rw [src_L items_lst]; simp [hk], rfl, fun n hn => ?_, ?_, rfl⟩
      · obtain ⟨m, rfl⟩ : ∃ m, n = m + 12 := ⟨n - 12, by omega⟩
        simp only [ae_none, ae_bool, ae_int, ae_var, ae_bin, ae_neg, ae_cmp, ae_bo, ae_ife, ae_call, ae_bi, ae_edge, ae_attr, ae_meth, ae_sub, ae_slice, ae_lstT, ae_lstF, ae_tup, ae_compT, ae_compF, ae_sumg, aes_nil, aes_cons, ait_e, ait_range, ait_zip, ait_ezip, att_nt, att_bo, att_var, att_cmp, att_sub, att_bin, att_comp, ax_asg, ax_asub, ax_aug, ax_appm, ax_app, ax_ite, ax_whl, ax_for, ax_brk, ax_cont, ax_ret, ax_asrt, ax_doc, axs_nil, axs_cons, upd_, bindT_var, bindT_2, bindT_3, items_lst, items_ref, tr_none, tr_bool, tr_int, tr_lst, tr_ref, b_add, b_sub, b_and, c_is, c_isnot, c_lt, c_le, c_gt, c_ge, c_eq, c_ne, nn_none, nn_int, nn_lst, nn_ref, Option.bind_some, Option.map_some, if_true, if_false, Bool.false_eq_true, reduceIte, Nat.reduceEqDiff, Nat.reduceAdd, List.length_cons, List.length_nil, Nat.reduceLT, Nat.add_zero, Nat.zero_add]
        rfl
      · rw [List.take_succ, List.getElem?_eq_getElem hk, List.map_append]; rfl)
    (fun acc a h => by rw [src_L items_lst]; simp)
    es.length 0 [] ah (by omega) ⟨rfl, rfl⟩
  rw [List.take_length] at e1
  subst e1 e2
  obtain ⟨v, a', g1, g2, g3⟩ := resolve_ok (ah := ah') he hs hl ht
  refine ⟨v, a', g2, g3, fun n hn => ?_⟩
  obtain ⟨m, rfl⟩ : ∃ m, n = m + 20 := ⟨n - 20, by omega⟩
  simp only [st_law_3, ae_none, ae_bool, ae_int, ae_var, ae_bin, ae_neg, ae_cmp, ae_bo, ae_ife, ae_call, ae_bi, ae_edge, ae_attr, ae_meth, ae_sub, ae_slice, ae_lstT, ae_lstF, ae_tup, ae_compT, ae_compF, ae_sumg, aes_nil, aes_cons, ait_e, ait_range, ait_zip, ait_ezip, att_nt, att_bo, att_var, att_cmp, att_sub, att_bin, att_comp, ax_asg, ax_asub, ax_aug, ax_appm, ax_app, ax_ite, ax_whl, ax_for, ax_brk, ax_cont, ax_ret, ax_asrt, ax_doc, axs_nil, axs_cons, upd_, bindT_var, bindT_2, bindT_3, items_lst, items_ref, tr_none, tr_bool, tr_int, tr_lst, tr_ref, b_add, b_sub, b_and, c_is, c_isnot, c_lt, c_le, c_gt, c_ge, c_eq, c_ne, nn_none, nn_int, nn_lst, nn_ref, Option.bind_some, Option.map_some, if_true, if_false, Bool.false_eq_true, reduceIte, Nat.reduceEqDiff, Nat.reduceAdd, List.length_cons, List.length_nil, Nat.reduceLT, Nat.add_zero, Nat.zero_add, h5, h6, hok]
  rw [h2 _ (by omega)]
  simp only [ae_none, ae_bool, ae_int, ae_var, ae_bin, ae_neg, ae_cmp, ae_bo, ae_ife, ae_call, ae_bi, ae_edge, ae_attr, ae_meth, ae_sub, ae_slice, ae_lstT, ae_lstF, ae_tup, ae_compT, ae_compF, ae_sumg, aes_nil, aes_cons, ait_e, ait_range, ait_zip, ait_ezip, att_nt, att_bo, att_var, att_cmp, att_sub, att_bin, att_comp, ax_asg, ax_asub, ax_aug, ax_appm, ax_app, ax_ite, ax_whl, ax_for, ax_brk, ax_cont, ax_ret, ax_asrt, ax_doc, axs_nil, axs_cons, upd_, bindT_var, bindT_2, bindT_3, items_lst, items_ref, tr_none, tr_bool, tr_int, tr_lst, tr_ref, b_add, b_sub, b_and, c_is, c_isnot, c_lt, c_le, c_gt, c_ge, c_eq, c_ne, nn_none, nn_int, nn_lst, nn_ref, Option.bind_some, Option.map_some, if_true, if_false, Bool.false_eq_true, reduceIte, Nat.reduceEqDiff, Nat.reduceAdd, List.length_cons, List.length_nil, Nat.reduceLT, Nat.add_zero, Nat.zero_add]
  rw [g1 _ (by omega)]
  simp only [ae_none, ae_bool, ae_int, ae_var, ae_bin, ae_neg, ae_cmp, ae_bo, ae_ife, ae_call, ae_bi, ae_edge, ae_attr, ae_meth, ae_sub, ae_slice, ae_lstT, ae_lstF, ae_tup, ae_compT, ae_compF, ae_sumg, aes_nil, aes_cons, ait_e, ait_range, ait_zip, ait_ezip, att_nt, att_bo, att_var, att_cmp, att_sub, att_bin, att_comp, ax_asg, ax_asub, ax_aug, ax_appm, ax_app, ax_ite, ax_whl, ax_for, ax_brk, ax_cont, ax_ret, ax_asrt, ax_doc, axs_nil, axs_cons, upd_, bindT_var, bindT_2, bindT_3, items_lst, items_ref, tr_none, tr_bool, tr_int, tr_lst, tr_ref, b_add, b_sub, b_and, c_is, c_isnot, c_lt, c_le, c_gt, c_ge, c_eq, c_ne, nn_none, nn_int, nn_lst, nn_ref, Option.bind_some, Option.map_some, if_true, if_false, Bool.false_eq_true, reduceIte, Nat.reduceEqDiff, Nat.reduceAdd, List.length_cons, List.length_nil, Nat.reduceLT, Nat.add_zero, Nat.zero_add]

theorem k4_ok {t : Int} {es : List E3} {v : AV} (h5 : ρ 5 = some (.int t)) (h6 : ρ 6 = some (.lst (es.map et))) (h7 : ρ 7 = some v) (hv : items ah v = some ((spec 10 t es (sz es)).map .int)) (he : OkE es) (hs : OkS (sz es)) (hl : es.length ≤ 5) (ht : t < 1000) :
    ∃ ah', Keep ah ah' ∧ ∀ n, 220 ≤ n → ax fns n st_law_4 ρ ah = some (.nx, ρ, ah') := by
  obtain ⟨w, a', g1, g2, g3⟩ := sizes_ok (ah := ah) he hs hl ht
  have q := c_neL (items_keep g3 hv) g2
  rw [decide_eq_true rfl, Bool.not_true] at q
  refine ⟨a', g3, fun n hn => ?_⟩
  obtain ⟨m, rfl⟩ : ∃ m, n = m + 20 := ⟨n - 20, by omega⟩
  simp only [st_law_4, ae_none, ae_bool, ae_int, ae_var, ae_bin, ae_neg, ae_cmp, ae_bo, ae_ife, ae_call, ae_bi, ae_edge, ae_attr, ae_meth, ae_sub, ae_slice, ae_lstT, ae_lstF, ae_tup, ae_compT, ae_compF, ae_sumg, aes_nil, aes_cons, ait_e, ait_range, ait_zip, ait_ezip, att_nt, att_bo, att_var, att_cmp, att_sub, att_bin, att_comp, ax_asg, ax_asub, ax_aug, ax_appm, ax_app, ax_ite, ax_whl, ax_for, ax_brk, ax_cont, ax_ret, ax_asrt, ax_doc, axs_nil, axs_cons, upd_, bindT_var, bindT_2, bindT_3, items_lst, items_ref, tr_none, tr_bool, tr_int, tr_lst, tr_ref, b_add, b_sub, b_and, c_is, c_isnot, c_lt, c_le, c_gt, c_ge, c_eq, c_ne, nn_none, nn_int, nn_lst, nn_ref, Option.bind_some, Option.map_some, if_true, if_false, Bool.false_eq_true, reduceIte, Nat.reduceEqDiff, Nat.reduceAdd, List.length_cons, List.length_nil, Nat.reduceLT, Nat.add_zero, Nat.zero_add, h5, h6, h7]
  rw [g1 _ (by omega)]
  simp only [ae_none, ae_bool, ae_int, ae_var, ae_bin, ae_neg, ae_cmp, ae_bo, ae_ife, ae_call, ae_bi, ae_edge, ae_attr, ae_meth, ae_sub, ae_slice, ae_lstT, ae_lstF, ae_tup, ae_compT, ae_compF, ae_sumg, aes_nil, aes_cons, ait_e, ait_range, ait_zip, ait_ezip, att_nt, att_bo, att_var, att_cmp, att_sub, att_bin, att_comp, ax_asg, ax_asub, ax_aug, ax_appm, ax_app, ax_ite, ax_whl, ax_for, ax_brk, ax_cont, ax_ret, ax_asrt, ax_doc, axs_nil, axs_cons, upd_, bindT_var, bindT_2, bindT_3, items_lst, items_ref, tr_none, tr_bool, tr_int, tr_lst, tr_ref, b_add, b_sub, b_and, c_is, c_isnot, c_lt, c_le, c_gt, c_ge, c_eq, c_ne, nn_none, nn_int, nn_lst, nn_ref, Option.bind_some, Option.map_some, if_true, if_false, Bool.false_eq_true, reduceIte, Nat.reduceEqDiff, Nat.reduceAdd, List.length_cons, List.length_nil, Nat.reduceLT, Nat.add_zero, Nat.zero_add, q]

theorem k6_ok {N : Nat} (hl : cells.length ≤ 40) (h0 : ρ 0 = some (.ref s)) (h1 : ρ 1 = some (.int N)) (hN : N ≤ 5) (S : St cells s ah) :
    ∃ (rs ls : List Int) (ah' : AH), rs.length = N ∧ ls.length = N ∧ (∀ r ∈ rs, 1 ≤ r ∧ r ≤ 4) ∧ (∀ l ∈ ls, 1 ≤ l) ∧ St cells s ah' ∧ ∀ n, 70 ≤ n → ax fns n st_law_6 ρ ah = some (.nx, upd (upd ρ 21 (.lst (rs.map .int))) 10 (.lst (ls.map .int)), ah') := by
  obtain ⟨rs, a1, g1, b1, b2, S1⟩ := draws_comp (cells := cells) (s := s) .int (fun x => 1 ≤ x ∧ x < 1 + 4) (elt := drp 1 4) (fun ρ a h0 S => by
    obtain ⟨x, a', q1, q2, q3⟩ := drp_ok (c := 1) (many := 4) hl (by decide) h0 S
    exact ⟨x, a', fun n hn => q1 n (by omega), q2, q3⟩) h0 h1 (by omega) S
  obtain ⟨ls, a2, g2, c1, c2, S2⟩ := draws_comp (cells := cells) (s := s) .int (fun x => 1 ≤ x ∧ x < 1 + 3) (elt := drp 1 3) (fun ρ a h0 S => by
    obtain ⟨x, a', q1, q2, q3⟩ := drp_ok (c := 1) (many := 3) hl (by decide) h0 S
    exact ⟨x, a', fun n hn => q1 n (by omega), q2, q3⟩) h0 h1 (by omega) S1
  refine ⟨rs, ls, a2, b1, c1, fun r hr => by have := b2 r hr; omega, fun l hl => (c2 l hl).1, S2, fun n hn => ?_⟩
  obtain ⟨m, rfl⟩ : ∃ m, n = m + 70 := ⟨n - 70, by omega⟩
  simp only [law_6, ax_asg, ae_tup, aes_cons, aes_nil, g1 (m + 67) (by omega), g2 (m + 66) (by omega), Option.bind_some, List.length_cons, List.length_nil, Nat.reduceAdd, Nat.reduceLT, if_true, bindT_2, bindT_var, Option.map_some]

theorem k10_ok {N : Nat} (hl : cells.length ≤ 40) (h0 : ρ 0 = some (.ref s)) (h1 : ρ 1 = some (.int N)) (hN : N ≤ 5) (S : St cells s ah) :
    ∃ (vs ws : List Int) (ah' : AH), vs.length = N ∧ ws.length = N ∧ (∀ r ∈ ws, 0 ≤ r ∧ r ≤ 2) ∧ St cells s ah' ∧ ∀ n, 70 ≤ n → ax fns n st_law_10 ρ ah = some (.nx, upd (upd ρ 23 (.lst (vs.map .int))) 47 (.lst (ws.map .int)), ah') := by
  obtain ⟨rs, a1, g1, b1, b2, S1⟩ := draws_comp (cells := cells) (s := s) .int (fun x => 10 ≤ x ∧ x < 10 + 20) (elt := drp 10 20) (fun ρ a h0 S => by
    obtain ⟨x, a', q1, q2, q3⟩ := drp_ok (c := 10) (many := 20) hl (by decide) h0 S
    exact ⟨x, a', fun n hn => q1 n (by omega), q2, q3⟩) h0 h1 (by omega) S
  obtain ⟨ls, a2, g2, c1, c2, S2⟩ := draws_comp (cells := cells) (s := s) .int (fun x => 0 ≤ x ∧ x < 3) (elt := dr 3) (fun ρ a h0 S => by
    obtain ⟨x, a', q1, q2, q3⟩ := dr_ok (many := 3) hl (by decide) h0 S
    exact ⟨x, a', fun n hn => q1 n (by omega), q2, q3⟩) h0 h1 (by omega) S1
  refine ⟨rs, ls, a2, b1, c1, fun r hr => by have := c2 r hr; omega, S2, fun n hn => ?_⟩
  obtain ⟨m, rfl⟩ : ∃ m, n = m + 70 := ⟨n - 70, by omega⟩
  simp only [law_10, ax_asg, ae_tup, aes_cons, aes_nil, g1 (m + 67) (by omega), g2 (m + 66) (by omega), Option.bind_some, List.length_cons, List.length_nil, Nat.reduceAdd, Nat.reduceLT, if_true, bindT_2, bindT_var, Option.map_some]

theorem k11_ok {N : Nat} (hl : cells.length ≤ 40) (h0 : ρ 0 = some (.ref s)) (h1 : ρ 1 = some (.int N)) (hN : N ≤ 5) (S : St cells s ah) :
    ∃ (ms : List Int) (t : Int) (ah' : AH), ms.length = N ∧ (∀ r ∈ ms, 0 ≤ r) ∧ 0 ≤ t ∧ t < 20 ∧ St cells s ah' ∧ ∀ n, 70 ≤ n → ax fns n st_law_11 ρ ah = some (.nx, upd (upd ρ 22 (.lst (ms.map .int))) 48 (.int t), ah') := by
  obtain ⟨rs, a1, g1, b1, b2, S1⟩ := draws_comp (cells := cells) (s := s) .int (fun x => 0 ≤ x ∧ x < 10) (elt := dr 10) (fun ρ a h0 S => by
    obtain ⟨x, a', q1, q2, q3⟩ := dr_ok (many := 10) hl (by decide) h0 S
    exact ⟨x, a', fun n hn => q1 n (by omega), q2, q3⟩) h0 h1 (by omega) S
  obtain ⟨t, a2, g2, c1, S2⟩ := dr_ok (many := 20) hl (by decide) h0 S1
  refine ⟨rs, t, a2, b1, fun r hr => (b2 r hr).1, c1.1, c1.2, S2, fun n hn => ?_⟩
  obtain ⟨m, rfl⟩ : ∃ m, n = m + 70 := ⟨n - 70, by omega⟩
  simp only [law_11, ax_asg, ae_tup, aes_cons, aes_nil, g1 (m + 67) (by omega), g2 (m + 66) (by omega), Option.bind_some, List.length_cons, List.length_nil, Nat.reduceAdd, Nat.reduceLT, if_true, bindT_2, bindT_var, Option.map_some]

theorem k7_ok {rs : List Int} {zs : List (Int × Int)} {t : Int} (h5 : ρ 5 = some (.int t)) (h21 : ρ 21 = some (.lst (zs.map fun z => .int z.1))) (h10 : ρ 10 = some (.lst (zs.map fun z => .int z.2))) (hz : ∀ z ∈ zs, 1 ≤ z.1 ∧ z.1 ≤ 4) (hm : ∀ z ∈ zs, 1 ≤ z.2) (hl : zs.length ≤ 5) (h0 : 1 ≤ zs.length) :
    ∀ n, 120 ≤ n → ax fns n st_law_7 ρ ah = some (.nx, upd (upd (upd ρ 46 (.ref ah.length)) 24 (.int t)) 15 (.int (psum zs)), ah ++ [(dist zs (psum zs) t).map .int]) := by
  have d := dist_ok1 (ah := ah) (total := t) hz hm hl h0
  have hb := psum_bounds hz
  have hsum : ∀ a : AH, abi .sum a [.lst (zs.map fun z => .int z.1)] = some (.int (psum zs)) := fun a => by
    rw [i_sum (xs := zs.map (·.1)) (by rw [items_lst, List.map_map]; rfl) (by rw [List.length_map]; omega)]; rfl
    intro i hi
    obtain ⟨z, h1, rfl⟩ := List.mem_map.mp hi
    have := hz z h1
    exact small30_of (by omega) (by omega)
  intro n hn
  obtain ⟨m, rfl⟩ : ∃ m, n = m + 20 := ⟨n - 20, by omega⟩
  simp only [st_law_7, ae_none, ae_bool, ae_int, ae_var, ae_bin, ae_neg, ae_cmp, ae_bo, ae_ife, ae_call, ae_bi, ae_edge, ae_attr, ae_meth, ae_sub, ae_slice, ae_lstT, ae_lstF, ae_tup, ae_compT, ae_compF, ae_sumg, aes_nil, aes_cons, ait_e, ait_range, ait_zip, ait_ezip, att_nt, att_bo, att_var, att_cmp, att_sub, att_bin, att_comp, ax_asg, ax_asub, ax_aug, ax_appm, ax_app, ax_ite, ax_whl, ax_for, ax_brk, ax_cont, ax_ret, ax_asrt, ax_doc, axs_nil, axs_cons, upd_, bindT_var, bindT_2, bindT_3, items_lst, items_ref, tr_none, tr_bool, tr_int, tr_lst, tr_ref, b_add, b_sub, b_and, c_is, c_isnot, c_lt, c_le, c_gt, c_ge, c_eq, c_ne, nn_none, nn_int, nn_lst, nn_ref, Option.bind_some, Option.map_some, if_true, if_false, Bool.false_eq_true, reduceIte, Nat.reduceEqDiff, Nat.reduceAdd, List.length_cons, List.length_nil, Nat.reduceLT, Nat.add_zero, Nat.zero_add, h5, h21, h10]
  rw [d _ (by omega)]
  simp only [ae_none, ae_bool, ae_int, ae_var, ae_bin, ae_neg, ae_cmp, ae_bo, ae_ife, ae_call, ae_bi, ae_edge, ae_attr, ae_meth, ae_sub, ae_slice, ae_lstT, ae_lstF, ae_tup, ae_compT, ae_compF, ae_sumg, aes_nil, aes_cons, ait_e, ait_range, ait_zip, ait_ezip, att_nt, att_bo, att_var, att_cmp, att_sub, att_bin, att_comp, ax_asg, ax_asub, ax_aug, ax_appm, ax_app, ax_ite, ax_whl, ax_for, ax_brk, ax_cont, ax_ret, ax_asrt, ax_doc, axs_nil, axs_cons, upd_, bindT_var, bindT_2, bindT_3, items_lst, items_ref, tr_none, tr_bool, tr_int, tr_lst, tr_ref, b_add, b_sub, b_and, c_is, c_isnot, c_lt, c_le, c_gt, c_ge, c_eq, c_ne, nn_none, nn_int, nn_lst, nn_ref, Option.bind_some, Option.map_some, if_true, if_false, Bool.false_eq_true, reduceIte, Nat.reduceEqDiff, Nat.reduceAdd, List.length_cons, List.length_nil, Nat.reduceLT, Nat.add_zero, Nat.zero_add, h5, h21, hsum]

theorem k12_ok {zs : List T3} {t : Int} (h48 : ρ 48 = some (.int t)) (h47 : ρ 47 = some (.lst (zs.map fun z => .int z.1))) (h22 : ρ 22 = some (.lst (zs.map fun z => .int z.2.1))) (h23 : ρ 23 = some (.lst (zs.map fun z => .int z.2.2))) (hz : Ok3 zs) (hl : zs.length ≤ 5) (ht : 0 ≤ t) (ht2 : t < 20) :
    ∃ ah', ∀ n, 180 ≤ n → ax fns n st_law_12 ρ ah = some (.nx, ρ, ah') := by
  obtain ⟨v, a1, g1, i1, kp1⟩ := reduce_ok (ah := ah) hz hl ht ht2
  obtain ⟨w, a2, g2, i2, kp2⟩ := taken_ok (ah := a1) hz hl ht ht2
  have q := c_neL (items_keep kp2 i1) i2
  rw [decide_eq_true rfl, Bool.not_true] at q
  refine ⟨a2, fun n hn => ?_⟩
  obtain ⟨m, rfl⟩ : ∃ m, n = m + 20 := ⟨n - 20, by omega⟩
  simp only [st_law_12, ae_none, ae_bool, ae_int, ae_var, ae_bin, ae_neg, ae_cmp, ae_bo, ae_ife, ae_call, ae_bi, ae_edge, ae_attr, ae_meth, ae_sub, ae_slice, ae_lstT, ae_lstF, ae_tup, ae_compT, ae_compF, ae_sumg, aes_nil, aes_cons, ait_e, ait_range, ait_zip, ait_ezip, att_nt, att_bo, att_var, att_cmp, att_sub, att_bin, att_comp, ax_asg, ax_asub, ax_aug, ax_appm, ax_app, ax_ite, ax_whl, ax_for, ax_brk, ax_cont, ax_ret, ax_asrt, ax_doc, axs_nil, axs_cons, upd_, bindT_var, bindT_2, bindT_3, items_lst, items_ref, tr_none, tr_bool, tr_int, tr_lst, tr_ref, b_add, b_sub, b_and, c_is, c_isnot, c_lt, c_le, c_gt, c_ge, c_eq, c_ne, nn_none, nn_int, nn_lst, nn_ref, Option.bind_some, Option.map_some, if_true, if_false, Bool.false_eq_true, reduceIte, Nat.reduceEqDiff, Nat.reduceAdd, List.length_cons, List.length_nil, Nat.reduceLT, Nat.add_zero, Nat.zero_add, h48, h47, h22, h23]
  rw [g1 _ (by omega)]
  simp only [ae_none, ae_bool, ae_int, ae_var, ae_bin, ae_neg, ae_cmp, ae_bo, ae_ife, ae_call, ae_bi, ae_edge, ae_attr, ae_meth, ae_sub, ae_slice, ae_lstT, ae_lstF, ae_tup, ae_compT, ae_compF, ae_sumg, aes_nil, aes_cons, ait_e, ait_range, ait_zip, ait_ezip, att_nt, att_bo, att_var, att_cmp, att_sub, att_bin, att_comp, ax_asg, ax_asub, ax_aug, ax_appm, ax_app, ax_ite, ax_whl, ax_for, ax_brk, ax_cont, ax_ret, ax_asrt, ax_doc, axs_nil, axs_cons, upd_, bindT_var, bindT_2, bindT_3, items_lst, items_ref, tr_none, tr_bool, tr_int, tr_lst, tr_ref, b_add, b_sub, b_and, c_is, c_isnot, c_lt, c_le, c_gt, c_ge, c_eq, c_ne, nn_none, nn_int, nn_lst, nn_ref, Option.bind_some, Option.map_some, if_true, if_false, Bool.false_eq_true, reduceIte, Nat.reduceEqDiff, Nat.reduceAdd, List.length_cons, List.length_nil, Nat.reduceLT, Nat.add_zero, Nat.zero_add, h48, h47, h22, h23]
  rw [g2 _ (by omega)]
  simp only [ae_none, ae_bool, ae_int, ae_var, ae_bin, ae_neg, ae_cmp, ae_bo, ae_ife, ae_call, ae_bi, ae_edge, ae_attr, ae_meth, ae_sub, ae_slice, ae_lstT, ae_lstF, ae_tup, ae_compT, ae_compF, ae_sumg, aes_nil, aes_cons, ait_e, ait_range, ait_zip, ait_ezip, att_nt, att_bo, att_var, att_cmp, att_sub, att_bin, att_comp, ax_asg, ax_asub, ax_aug, ax_appm, ax_app, ax_ite, ax_whl, ax_for, ax_brk, ax_cont, ax_ret, ax_asrt, ax_doc, axs_nil, axs_cons, upd_, bindT_var, bindT_2, bindT_3, items_lst, items_ref, tr_none, tr_bool, tr_int, tr_lst, tr_ref, b_add, b_sub, b_and, c_is, c_isnot, c_lt, c_le, c_gt, c_ge, c_eq, c_ne, nn_none, nn_int, nn_lst, nn_ref, Option.bind_some, Option.map_some, if_true, if_false, Bool.false_eq_true, reduceIte, Nat.reduceEqDiff, Nat.reduceAdd, List.length_cons, List.length_nil, Nat.reduceLT, Nat.add_zero, Nat.zero_add, q]
end
end Mine

end

section
open PySem
set_option autoImplicit false
set_option linter.unusedSimpArgs false
set_option linter.unusedVariables false
set_option maxRecDepth 100000
namespace Mine

theorem axs_nx {n : Nat} {s : SS} {r : SL} {ρ ρ' : AE} {ah a' : AH} (h : ax fns n s ρ ah = some (.nx, ρ', a')) : axs fns (n + 1) (.cons s r) ρ ah = axs fns n r ρ' a' := by
  rw [axs_cons, h]; simp only [Option.bind_some]
theorem axs_rt {n : Nat} {s : SS} {r : SL} {ρ ρ' : AE} {ah a' : AH} {v : AV} (h : ax fns n s ρ ah = some (.ret v, ρ', a')) : axs fns (n + 1) (.cons s r) ρ ah = some (.ret v, ρ', a') := by
  rw [axs_cons, h]; simp only [Option.bind_some]

theorem zip_1 {as bs : List Int} (h : as.length = bs.length) : (as.zip bs).map (fun z => AV.int z.1) = as.map .int := by
  have : (as.zip bs).map (fun z => AV.int z.1) = ((as.zip bs).map Prod.fst).map .int := by rw [List.map_map]; rfl
  rw [this, List.map_fst_zip (by omega)]
theorem zip_2 {as bs : List Int} (h : as.length = bs.length) : (as.zip bs).map (fun z => AV.int z.2) = bs.map .int := by
  have : (as.zip bs).map (fun z => AV.int z.2) = ((as.zip bs).map Prod.snd).map .int := by rw [List.map_map]; rfl
  rw [this, List.map_snd_zip (by omega)]
theorem zip3_1 {as bs cs : List Int} (h : as.length = bs.length) (h2 : bs.length = cs.length) : (as.zip (bs.zip cs)).map (fun z => AV.int z.1) = as.map .int := by
  have : (as.zip (bs.zip cs)).map (fun z => AV.int z.1) = ((as.zip (bs.zip cs)).map Prod.fst).map .int := by rw [List.map_map]; rfl
  rw [this, List.map_fst_zip (by rw [List.length_zip]; omega)]
theorem zip3_2 {as bs cs : List Int} (h : as.length = bs.length) (h2 : bs.length = cs.length) : (as.zip (bs.zip cs)).map (fun z => AV.int z.2.1) = bs.map .int := by
  have : (as.zip (bs.zip cs)).map (fun z => AV.int z.2.1) = ((as.zip (bs.zip cs)).map Prod.snd).map (fun z => AV.int z.1) := by rw [List.map_map]; rfl
  rw [this, List.map_snd_zip (by rw [List.length_zip]; omega), zip_1 h2]
theorem zip3_3 {as bs cs : List Int} (h : as.length = bs.length) (h2 : bs.length = cs.length) : (as.zip (bs.zip cs)).map (fun z => AV.int z.2.2) = cs.map .int := by
  have : (as.zip (bs.zip cs)).map (fun z => AV.int z.2.2) = ((as.zip (bs.zip cs)).map Prod.snd).map (fun z => AV.int z.2) := by rw [List.map_map]; rfl
  rw [this, List.map_snd_zip (by rw [List.length_zip]; omega), zip_2 h2]

theorem spec_chk {t : Int} {es : List E3} (he : OkE es) (hs : OkS (sz es)) (h5 : es.length ≤ 5) : ∀ k (hk : k < es.length), (∀ w, es[k].1 = some w → (spec 10 t es (sz es))[k]? = some w) ∧ (es[k].1 = none → ∃ w, (spec 10 t es (sz es))[k]? = some w ∧ lea es k ≤ w) := by
  intro k hk
  have hsl : (sz es).length = es.length := List.length_map ..
  have hcnt := count_le (sz es)
  obtain ⟨_, g⟩ := spec_good 10 t es (sz es) (by omega) he hs hsl h5
  obtain ⟨g1, g2⟩ := g k (by omega)
  have e : (sz es)[k]? = some es[k].1 := by simp [sz, hk]
  rw [e] at g1 g2
  exact ⟨fun w h => g1 w (by rw [h]), fun h => g2 (by rw [h])⟩

theorem steps2 {s1 s2 : SS} {ρ ρ1 ρ2 : AE} {a a1 a2 : AH} (h1 : ∀ n, 300 ≤ n → ax fns n s1 ρ a = some (.nx, ρ1, a1)) (h2 : ∀ n, 300 ≤ n → ax fns n s2 ρ1 a1 = some (.nx, ρ2, a2)) :
    ∀ n R, 300 ≤ n → axs fns (n + 2) (.cons s1 (.cons s2 R)) ρ a = axs fns n R ρ2 a2 := fun n R hn => by
  rw [axs_nx (n := n + 1) (h1 _ (by omega)), axs_nx (n := n) (h2 _ (by omega))]
theorem steps3 {s1 s2 s3 : SS} {ρ ρ1 ρ2 ρ3 : AE} {a a1 a2 a3 : AH} (h1 : ∀ n, 300 ≤ n → ax fns n s1 ρ a = some (.nx, ρ1, a1)) (h2 : ∀ n, 300 ≤ n → ax fns n s2 ρ1 a1 = some (.nx, ρ2, a2)) (h3 : ∀ n, 300 ≤ n → ax fns n s3 ρ2 a2 = some (.nx, ρ3, a3)) :
    ∀ n R, 300 ≤ n → axs fns (n + 3) (.cons s1 (.cons s2 (.cons s3 R))) ρ a = axs fns n R ρ3 a3 := fun n R hn => by
  rw [axs_nx (n := n + 2) (h1 _ (by omega)), axs_nx (n := n + 1) (h2 _ (by omega)), axs_nx (n := n) (h3 _ (by omega))]
theorem steps4 {s1 s2 s3 s4 : SS} {ρ ρ1 ρ2 ρ3 ρ4 : AE} {a a1 a2 a3 a4 : AH} (h1 : ∀ n, 300 ≤ n → ax fns n s1 ρ a = some (.nx, ρ1, a1)) (h2 : ∀ n, 300 ≤ n → ax fns n s2 ρ1 a1 = some (.nx, ρ2, a2)) (h3 : ∀ n, 300 ≤ n → ax fns n s3 ρ2 a2 = some (.nx, ρ3, a3)) (h4 : ∀ n, 300 ≤ n → ax fns n s4 ρ3 a3 = some (.nx, ρ4, a4)) :
    ∀ n R, 300 ≤ n → axs fns (n + 4) (.cons s1 (.cons s2 (.cons s3 (.cons s4 R)))) ρ a = axs fns n R ρ4 a4 := fun n R hn => by
  rw [axs_nx (n := n + 3) (h1 _ (by omega)), axs_nx (n := n + 2) (h2 _ (by omega)), axs_nx (n := n + 1) (h3 _ (by omega)), axs_nx (n := n) (h4 _ (by omega))]

theorem ph0 (xs : List Int) (hx : xs.length ≤ 63) : ∃ (cells : List Int) (a0 : AH), cells.length ≤ 40 ∧ St cells 1 a0 ∧ ∀ n, 300 ≤ n → ax fns n st_law_0 (upd (fun _ => none) 3 (.lst (xs.map .int))) [[]] = some (.nx, upd (upd (fun _ => none) 3 (.lst (xs.map .int))) 0 (.ref 1), a0) := by
  obtain ⟨cells, hc, c0⟩ := state_ok (xs := xs) (by omega) (ah := [[]])
  refine ⟨cells, [[]] ++ [[.lst (cells.map .int), .int 0]], hc, ⟨0, by omega, rfl⟩, fun n hn => ?_⟩
  obtain ⟨m, rfl⟩ : ∃ m, n = m + 6 := ⟨n - 6, by omega⟩
  simp only [st_law_0, ae_none, ae_bool, ae_int, ae_var, ae_bin, ae_neg, ae_cmp, ae_bo, ae_ife, ae_call, ae_bi, ae_edge, ae_attr, ae_meth, ae_sub, ae_slice, ae_lstT, ae_lstF, ae_tup, ae_compT, ae_compF, ae_sumg, aes_nil, aes_cons, ait_e, ait_range, ait_zip, ait_ezip, att_nt, att_bo, att_var, att_cmp, att_sub, att_bin, att_comp, ax_asg, ax_asub, ax_aug, ax_appm, ax_app, ax_ite, ax_whl, ax_for, ax_brk, ax_cont, ax_ret, ax_asrt, ax_doc, axs_nil, axs_cons, upd_, bindT_var, bindT_2, bindT_3, items_lst, items_ref, tr_none, tr_bool, tr_int, tr_lst, tr_ref, b_add, b_sub, b_and, c_is, c_isnot, c_lt, c_le, c_gt, c_ge, c_eq, c_ne, nn_none, nn_int, nn_lst, nn_ref, Option.bind_some, Option.map_some, if_true, if_false, Bool.false_eq_true, reduceIte, Nat.reduceEqDiff, Nat.reduceAdd, List.length_cons, List.length_nil, Nat.reduceLT, Nat.add_zero, Nat.zero_add]
  rw [c0 _ (by omega)]
  rfl

theorem phA {cells : List Int} {s : Nat} {ρ : AE} {ah : AH} (hc : cells.length ≤ 40) (h0 : ρ 0 = some (.ref s)) (S : St cells s ah) :
    ∃ (ρ' : AE) (a' : AH) (t : Int) (N : Nat) (es : List E3), ρ' 0 = some (.ref s) ∧ ρ' 1 = some (.int N) ∧ ρ' 5 = some (.int t) ∧ ρ' 6 = some (.lst (es.map et)) ∧ 0 ≤ t ∧ t < 61 ∧ 1 ≤ N ∧ N ≤ 5 ∧ es.length = N ∧ OkE es ∧ OkS (sz es) ∧ St cells s a' ∧
      ∀ n R, 300 ≤ n → axs fns (n + 2) (.cons st_law_1 (.cons st_law_2 R)) ρ ah = axs fns n R ρ' a' := by
  obtain ⟨t, N, a1, ht0, ht1, hN0, hN1, S1, w1⟩ := k1_ok hc h0 S
  obtain ⟨es, a2, hes, hQ, S2, w2⟩ := k2_ok (ρ := upd (upd ρ 5 (.int t)) 1 (.int N)) hc h0 rfl hN1 S1
  have he : OkE es := fun e h => (hQ e h).1
  have hs : OkS (sz es) := fun s h v e => by
    obtain ⟨x, h1, rfl⟩ := List.mem_map.mp h
    exact (hQ x h1).2 v e
  exact ⟨upd (upd (upd ρ 5 (.int t)) 1 (.int N)) 6 (.lst (es.map et)), a2, t, N, es, h0, rfl, rfl, rfl, ht0, ht1, hN0, hN1, hes, he, hs, S2, steps2 (fun n hn => w1 n (by omega)) (fun n hn => w2 n (by omega))⟩

theorem phB {cells : List Int} {s N : Nat} {t : Int} {es : List E3} {ρ : AE} {ah : AH} (h0 : ρ 0 = some (.ref s)) (h1 : ρ 1 = some (.int N)) (h5 : ρ 5 = some (.int t)) (h6 : ρ 6 = some (.lst (es.map et))) (ht : t < 61) (hN : N ≤ 5) (hes : es.length = N) (he : OkE es) (hs : OkS (sz es)) (S : St cells s ah) :
    ∃ (ρ' : AE) (a' : AH), ρ' 0 = some (.ref s) ∧ ρ' 1 = some (.int N) ∧ ρ' 5 = some (.int t) ∧ St cells s a' ∧ ∀ n R, 300 ≤ n → axs fns (n + 3) (.cons st_law_3 (.cons st_law_4 (.cons st_law_5 R))) ρ ah = axs fns n R ρ' a' := by
  obtain ⟨v, a3, hv, kp3, w3⟩ := k3_ok (ah := ah) h5 h6 he hs (by omega) (by omega)
  obtain ⟨a4, kp4, w4⟩ := k4_ok (ρ := upd ρ 7 v) (ah := a3) h5 h6 rfl hv he hs (by omega) (by omega)
  have w5 := chk5_ok (ρ := upd ρ 7 v) (ah := a4) h1 h6 rfl (items_keep kp4 hv) hes (by omega) (spec_chk he hs (by omega))
  exact ⟨upd ρ 7 v, a4, h0, h1, h5, (S.keep kp3).keep kp4, steps3 (fun n hn => w3 n (by omega)) (fun n hn => w4 n (by omega)) (fun n hn => w5 n (by omega))⟩

theorem phC {cells : List Int} {s N : Nat} {t : Int} {ρ : AE} {ah : AH} (hc : cells.length ≤ 40) (h0 : ρ 0 = some (.ref s)) (h1 : ρ 1 = some (.int N)) (h5 : ρ 5 = some (.int t)) (ht0 : 0 ≤ t) (ht : t < 61) (hN0 : 1 ≤ N) (hN : N ≤ 5) (S : St cells s ah) :
    ∃ (ρ' : AE) (a' : AH), ρ' 0 = some (.ref s) ∧ ρ' 1 = some (.int N) ∧ St cells s a' ∧ ∀ n R, 300 ≤ n → axs fns (n + 4) (.cons st_law_6 (.cons st_law_7 (.cons st_law_8 (.cons st_law_9 R)))) ρ ah = axs fns n R ρ' a' := by
  obtain ⟨rs, ls, a6, hrl, hll, hr, hle, S6, w6⟩ := k6_ok hc h0 h1 hN S
  have z1 := zip_1 (as := rs) (bs := ls) (by omega)
  have z2 := zip_2 (as := rs) (bs := ls) (by omega)
  have zl : (rs.zip ls).length = N := by rw [List.length_zip]; omega
  have zr : ∀ z ∈ rs.zip ls, (1 ≤ z.1 ∧ z.1 ≤ 4) := fun z h => hr _ (List.of_mem_zip (a := z.1) (b := z.2) h).1
  have zm : ∀ z ∈ rs.zip ls, 1 ≤ z.2 := fun z h => hle _ (List.of_mem_zip (a := z.1) (b := z.2) h).2
  rw [← z1, ← z2] at w6
  have k21 : rs.map AV.int = (rs.zip ls).map fun z => AV.int z.1 := z1.symm
  generalize rs.zip ls = zs at *
  have w7 := k7_ok (rs := rs) (ρ := upd (upd ρ 21 (.lst (zs.map fun z => .int z.1))) 10 (.lst (zs.map fun z => .int z.2))) (ah := a6) h5 rfl rfl zr zm (by omega) (by omega)
  obtain ⟨ρ8, r8, w8⟩ := chk8_ok (ρ := upd (upd (upd (upd (upd ρ 21 (.lst (zs.map fun z => .int z.1))) 10 (.lst (zs.map fun z => .int z.2))) 46 (.ref a6.length)) 24 (.int t)) 15 (.int (psum zs))) (ah := a6 ++ [(dist zs (psum zs) t).map .int]) (sr := a6.length) (zs := zs) (total := t) zr zl hN h1 rfl rfl rfl rfl rfl get_last
  have q0 := (r8 0 (by decide) (by decide) (by decide)).trans h0
  have q1 := (r8 1 (by decide) (by decide) (by decide)).trans h1
  have q5 := (r8 5 (by decide) (by decide) (by decide)).trans h5
  have q21 : ρ8 21 = some (.lst (zs.map fun z => .int z.1)) := (r8 21 (by decide) (by decide) (by decide)).trans rfl
  rw [← k21] at q21
  obtain ⟨a9, kp9, w9⟩ := chk9_ok (ρ := ρ8) (ah := a6 ++ [(dist zs (psum zs) t).map .int]) (rs := rs) (total := t) q5 q21 hr (by omega) (by omega) ht0 (by omega)
  exact ⟨ρ8, a9, q0, q1, (S6.keep (Keep.app a6 [(dist zs (psum zs) t).map .int])).keep kp9, steps4 (fun n hn => w6 n (by omega)) (fun n hn => w7 n (by omega)) (fun n hn => w8 n (by omega)) (fun n hn => w9 n (by omega))⟩

theorem phD {cells : List Int} {s N : Nat} {ρ : AE} {ah : AH} (hc : cells.length ≤ 40) (h0 : ρ 0 = some (.ref s)) (h1 : ρ 1 = some (.int N)) (hN : N ≤ 5) (S : St cells s ah) :
    ∃ (ρ' : AE) (a' : AH), ∀ n R, 300 ≤ n → axs fns (n + 3) (.cons st_law_10 (.cons st_law_11 (.cons st_law_12 R))) ρ ah = axs fns n R ρ' a' := by
  obtain ⟨vs, ws, a10, hvl, hwl, hw, S10, w10⟩ := k10_ok hc h0 h1 hN S
  obtain ⟨ms, tk, a11, hml, hm, hk0, hk1, S11, w11⟩ := k11_ok (ρ := upd (upd ρ 23 (.lst (vs.map .int))) 47 (.lst (ws.map .int))) hc h0 h1 hN S10
  have y1 := zip3_1 (as := ws) (bs := ms) (cs := vs) (by omega) (by omega)
  have y2 := zip3_2 (as := ws) (bs := ms) (cs := vs) (by omega) (by omega)
  have y3 := zip3_3 (as := ws) (bs := ms) (cs := vs) (by omega) (by omega)
  have yk : Ok3 (ws.zip (ms.zip vs)) := fun z h => by
    have q := List.of_mem_zip (a := z.1) (b := z.2) h
    have q2 := List.of_mem_zip (a := z.2.1) (b := z.2.2) q.2
    have := hw _ q.1
    have := hm _ q2.1
    omega
  have yl : (ws.zip (ms.zip vs)).length ≤ 5 := by rw [List.length_zip, List.length_zip]; omega
  rw [← y1, ← y3] at w10
  rw [← y1, ← y2, ← y3] at w11
  generalize ws.zip (ms.zip vs) = zs at *
  obtain ⟨a12, w12⟩ := k12_ok (ρ := upd (upd (upd (upd ρ 23 (.lst (zs.map fun z => .int z.2.2))) 47 (.lst (zs.map fun z => .int z.1))) 22 (.lst (zs.map fun z => .int z.2.1))) 48 (.int tk)) (ah := a11) (zs := zs) (t := tk) rfl rfl rfl rfl yk yl hk0 hk1
  exact ⟨_, a12, steps3 (fun n hn => w10 n (by omega)) (fun n hn => w11 n (by omega)) (fun n hn => w12 n (by omega))⟩

theorem law_ok (xs : List Int) (hx : xs.length ≤ 63) : ∃ ah', ∀ n, 400 ≤ n → acall fns n 8 [.lst (xs.map .int)] [[]] = some (.bool true, ah') := by
  obtain ⟨cells, a0, hc, S0, w0⟩ := ph0 xs hx
  obtain ⟨ρA, aA, t, N, es, p0, p1, p5, p6, ht0, ht1, hN0, hN1, hes, he, hs, SA, wA⟩ := phA (ρ := upd (upd (fun _ => none) 3 (.lst (xs.map .int))) 0 (.ref 1)) hc rfl S0
  obtain ⟨ρB, aB, q0, q1, q5, SB, wB⟩ := phB p0 p1 p5 p6 ht1 hN1 hes he hs SA
  obtain ⟨ρC, aC, r0, r1, SC, wC⟩ := phC hc q0 q1 q5 ht0 ht1 hN0 hN1 SB
  obtain ⟨ρD, aD, wD⟩ := phD hc r0 r1 hN1 SC
  obtain ⟨aE, wE⟩ := chk13_ok (ρ := ρD) (ah := aD)
  refine ⟨aE, fun n hn => ?_⟩
  obtain ⟨m, rfl⟩ : ∃ m, n = ((((((m + 1) + 3) + 4) + 3) + 2) + 1) + 1 := ⟨n - 15, by omega⟩
  have fin : axs fns ((((((m + 1) + 3) + 4) + 3) + 2) + 1) bd_law (upd (fun _ => none) 3 (.lst (xs.map .int))) [[]] = some (.ret (.bool true), ρD, aE) := by
    rw [bd_law, axs_nx (w0 _ (by omega)), wA _ _ (by omega), wB _ _ (by omega), wC _ _ (by omega), wD _ _ (by omega), axs_rt (wE _ (by omega))]
  rw [acall_]
  simp only [fns, List.drop_nil, List.append_nil, List.zip_cons_cons, List.zip_nil_right, List.foldl_cons, List.foldl_nil, List.length_cons, List.length_nil, if_true, Option.bind_some, fin]
end Mine

end

theorem Mine.pl : Mine.PL := fun xs hx => by
  obtain ⟨ah', h⟩ := Mine.law_ok xs hx
  exact ⟨500, ah', by omega, h 500 (by omega)⟩

theorem PySem.Challenge.cw_ey0018_01_holds : PySem.Challenge.rw_ey0018_01.Holds :=
  Mine.holds_of Mine.pl
