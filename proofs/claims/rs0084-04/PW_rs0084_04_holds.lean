import PyProof.Rows.All
import Wide.All
import OpenK.AllK
import Wide.FinOn
import PySem.Challenge.RW_rs0084_04
set_option Elab.async false
set_option maxRecDepth 100000
set_option linter.all false
open PySem PySem.W PyProof.Rows PySem.Calls
section

namespace Mine

/-- plain values -/
inductive PV where
  | none
  | bool (b : Bool)
  | int (i : Int)
  | str (s : Str)
  | bytes (b : List UInt8)
  | list (xs : List PV)
  | tuple (xs : List PV)
  | range (lo hi : Int)
  | dict (ks : List Int) (xs : List PV)
  deriving Inhabited

mutual
noncomputable def toPy : PV → Option PyData
  | .none => some .none
  | .bool b => some (.bool b)
  | .int i => some (.int i)
  | .str s => some (.str s)
  | .bytes _ => Option.none
  | .list xs => (toPys xs).map .list
  | .tuple xs => (toPys xs).map .tuple
  | .range _ _ => Option.none
  | .dict _ _ => Option.none
noncomputable def toPys : List PV → Option (List PyData)
  | [] => some []
  | x :: xs => match toPy x, toPys xs with
    | some a, some b => some (a :: b)
    | _, _ => Option.none
end

/-- data that Python's == is told of -/
noncomputable def cmpOk (d : PyData) : Bool := d.canLay0 && decide (d.depth ≤ 50)

noncomputable def eqPV (t u : PV) : Option Bool := match toPy t, toPy u with
  | some a, some b => if cmpOk a && cmpOk b then some (PyData.eqv a b) else Option.none
  | _, _ => Option.none

noncomputable def inPV (x : PV) : PV → Option Bool
  | .list xs => match toPys xs, toPy x with
    | some bs, some a => if cmpOk (.list bs) && cmpOk a then some (bs.any fun y => PyData.eqv y a) else Option.none
    | _, _ => Option.none
  | _ => Option.none

inductive Fl where
  | new | frz | bor
  deriving DecidableEq

noncomputable abbrev R := PV × Fl

noncomputable def bigL : Nat := 1048576
noncomputable def bigI : Nat := 1152921504606846976

noncomputable def mkL (xs : List PV) : Option R := if xs.length ≤ bigL then some (.list xs, .new) else Option.none
noncomputable def mkI (i : Int) : Option R := some (.int i, .frz)
noncomputable def mkB (b : Bool) : Option R := some (.bool b, .frz)

noncomputable def smallI (i : Int) : Bool := decide (i.natAbs < bigI)

noncomputable def binPV (op : Operator) (t u : PV) : Option R := match op with
  | .Add => match t, u with
    | .int a, .int b => mkI (a + b)
    | .list xs, .list ys => mkL (xs ++ ys)
    | .str x, .str y => if x.length + y.length ≤ bigL then some (.str (x ++ y), .frz) else Option.none
    | _, _ => Option.none
  | .Sub => match t, u with
    | .int a, .int b => mkI (a - b)
    | _, _ => Option.none
  | .Mult => match t, u with
    | .int a, .int b => if smallI a && smallI b then mkI (a * b) else Option.none
    | .list xs, .int n => if decide (0 ≤ n) && decide (n ≤ 1048576) && decide (xs.length ≤ bigL) then mkL (List.replicate n.toNat xs).flatten else Option.none
    | _, _ => Option.none
  | .FloorDiv => match t, u with
    | .int a, .int b => if decide (b ≠ 0) && decide (b.natAbs < 1073741824) then mkI (a.fdiv b) else Option.none
    | _, _ => Option.none
  | .Mod => match t, u with
    | .int a, .int b => if decide (b ≠ 0) then mkI (a.fmod b) else Option.none
    | _, _ => Option.none
  | .Pow => match t, u with
    | .int a, .int b => if decide (0 ≤ b) && decide (b ≤ 1000) && smallI a then mkI (a ^ b.toNat) else Option.none
    | _, _ => Option.none
  | _ => Option.none

noncomputable def isPV : PV → PV → Option Bool
  | .bool a, .bool b => some (a == b)
  | .none, .none => some true
  | .int _, .bool _ => some false
  | .list _, .none => some false
  | _, _ => Option.none

noncomputable def cmpPV : CmpOp → PV → PV → Option Bool
  | .Eq, a, b => eqPV a b
  | .NotEq, a, b => (eqPV a b).map (!·)
  | .Lt, .int a, .int b => some (decide (a < b))
  | .LtE, .int a, .int b => some (decide (a ≤ b))
  | .Gt, .int a, .int b => some (decide (a > b))
  | .GtE, .int a, .int b => some (decide (a ≥ b))
  | .Is, a, b => isPV a b
  | .IsNot, a, b => (isPV a b).map (!·)
  | .In, a, b => inPV a b
  | .NotIn, a, b => (inPV a b).map (!·)
  | _, _, _ => Option.none

/-- the items of a sequence -/
noncomputable def seqItems : PV → Option (List PV)
  | .list xs => some xs
  | .tuple xs => some xs
  | .bytes b => some (b.map fun x => .int (x.toNat : Int))
  | .str s => some (s.cps.toList.map fun c => .str ⟨#[c]⟩)
  | _ => Option.none

noncomputable def idxPV (t : PV) (i : PV) : Option PV := match t, i with
  | .dict ks xs, .int k => (ks.zip xs).lookup k
  | .list xs, .int k => if 0 ≤ k then (if k < 1048576 then xs[k.toNat]? else Option.none) else if k = -1 then xs.getLast? else Option.none
  | .tuple xs, .int k => if decide (0 ≤ k) && decide (k < 1048576) then xs[k.toNat]? else Option.none
  | .bytes b, .int k => if decide (0 ≤ k) && decide (b.length ≤ 1048576) then (b[k.toNat]?).map fun x => .int (x.toNat : Int) else Option.none
  | .str s, .int k => if decide (0 ≤ k) && decide (k < 1048576) then (s.cps[k.toNat]?).map fun c => .str ⟨#[c]⟩ else Option.none
  | _, _ => Option.none

noncomputable def rangeL (lo hi : Int) : List Int := (List.range (hi - lo).toNat).map fun (j : Nat) => lo + (j : Int)

noncomputable def itemsOf : PV → Option (List PV)
  | .list xs => some xs
  | .tuple xs => some xs
  | .range lo hi => some ((rangeL lo hi).map .int)
  | .dict ks _ => some (ks.map .int)
  | _ => Option.none

noncomputable def itemsC : PV → Option (List PV)
  | .dict _ _ => Option.none
  | t => itemsOf t

noncomputable def slicePV (t : PV) (lo : Option Int) (hi : Option Int) : Option R := match t with
  | .list xs =>
    if decide (0 ≤ lo.getD 0) && decide (0 ≤ hi.getD 0) && decide (xs.length ≤ bigL) then
      mkL (match hi with
        | some b => ((xs.take b.toNat).drop (lo.getD 0).toNat)
        | Option.none => xs.drop (lo.getD 0).toNat)
    else Option.none
  | _ => Option.none

inductive BI where
  | len | range1 | range2 | min2 | max1 | sum1 | isStr | isList | tuple1 | bytes1 | chr1
  deriving DecidableEq

noncomputable def intsOf : List PV → Option (List Int)
  | [] => some []
  | .int i :: r => (intsOf r).map (i :: ·)
  | _ :: _ => Option.none

noncomputable def maxL : List Int → Option Int
  | [] => Option.none
  | x :: r => some (r.foldl max x)

noncomputable def strsOf : List PV → Option (List Str)
  | [] => some []
  | .str i :: r => (strsOf r).map (i :: ·)
  | _ :: _ => Option.none

noncomputable def lenPV (t : PV) : Option Int := match t with
  | .dict ks _ => some (ks.length : Int)
  | t => (seqItems t).map fun xs => (xs.length : Int)

noncomputable def isStrPV : PV → Option Bool
  | .str _ => some true
  | .bytes _ => some true
  | .int _ => some false
  | .list _ => some false
  | .tuple _ => some false
  | _ => Option.none
noncomputable def isListPV : PV → Option Bool
  | .list _ => some true
  | _ => Option.none

noncomputable def biPV (b : BI) (ts : List PV) : Option R := match b with
  | .len => match ts with
    | [t] => match lenPV t with
      | some n => if n ≤ 1048576 then mkI n else Option.none
      | Option.none => Option.none
    | _ => Option.none
  | .range1 => match ts with
    | [.int b] => if smallI b then some (.range 0 b, .frz) else Option.none
    | _ => Option.none
  | .range2 => match ts with
    | [.int a, .int b] => if smallI a && smallI b then some (.range a b, .frz) else Option.none
    | _ => Option.none
  | .min2 => match ts with
    | [.int a, .int b] => mkI (if b < a then b else a)
    | _ => Option.none
  | .max1 => match ts with
    | [.list xs] => match intsOf xs with
      | some is => (maxL is).map fun m => (.int m, .frz)
      | Option.none => Option.none
    | _ => Option.none
  | .sum1 => match ts with
    | [.list xs] => match intsOf xs with
      | some is => mkI is.sum
      | Option.none => Option.none
    | _ => Option.none
  | .isStr => match ts with
    | [t] => (isStrPV t).map fun b => (.bool b, .frz)
    | _ => Option.none
  | .isList => match ts with
    | [t] => (isListPV t).map fun b => (.bool b, .frz)
    | _ => Option.none
  | .tuple1 => match ts with
    | [.list xs] => if xs.length ≤ bigL then some (.tuple xs, .frz) else Option.none
    | _ => Option.none
  | .bytes1 => match ts with
    | [.list xs] => match intsOf xs with
      | some is => if (is.all fun i => decide (0 ≤ i) && decide (i < 256)) && decide (xs.length ≤ 1048576) then some (.bytes (is.map fun i => UInt8.ofNat i.toNat), .frz) else Option.none
      | Option.none => Option.none
    | _ => Option.none
  | .chr1 => match ts with
    | [.int i] => if decide (0 ≤ i) && decide (i < 55296) then some (.str ⟨#[i.toNat]⟩, .frz) else Option.none
    | _ => Option.none

noncomputable def joinPV : PV → Option R
  | .list xs => match strsOf xs with
    | some ss => if (ss.map Str.length).sum + ss.length ≤ bigL then some (.str (Txt.join (Str.ofString "") ss), .frz) else Option.none
    | Option.none => Option.none
  | _ => Option.none

noncomputable def indexPV (t x : PV) : Option R := match t, x with
  | .list xs, .int i => match intsOf xs with
    | some is => if xs.length ≤ bigL then (is.idxOf? i).map fun (j : Nat) => (.int (j : Int), .frz) else Option.none
    | Option.none => Option.none
  | .list xs, .str i => match strsOf xs with
    | some ss => if xs.length ≤ bigL then (ss.idxOf? i).map fun (j : Nat) => (.int (j : Int), .frz) else Option.none
    | Option.none => Option.none
  | _, _ => Option.none

inductive Tgt where
  | one (x : Nat)
  | two (x y : Nat)

mutual
inductive CE where
  | lit (c : PV)
  | var (x : Nat)
  | gint (n : Str) (i : Int)
  | bin (op : Operator) (a b : CE)
  | neg (a : CE)
  | not (a : CE)
  | bop (op : BoolOp) (es : CEs)
  | cmp (op : CmpOp) (a b : CE)
  | chain (a : CE) (o1 : CmpOp) (b : CE) (o2 : CmpOp) (c : CE)
  | ite (c a b : CE)
  | list (es : CEs)
  | tuple (es : CEs)
  | dict (ks : List Int) (es : CEs)
  | idx (a i : CE)
  | tok (a : CE)
  | sliceL (a lo : CE)
  | sliceH (a hi : CE)
  | sliceB (a lo hi : CE)
  | call (f : Nat) (es : CEs)
  | bi (b : BI) (es : CEs)
  | join (a : CE)
  | index (a x : CE)
  | comp (g : CG)
inductive CEs where
  | nil
  | cons (e : CE) (es : CEs)
inductive CG where
  | elt (e : CE)
  | gen (t : Tgt) (it : CE) (ifs : CEs) (rest : CG)
end

noncomputable abbrev Sig := Nat → Option (PV × Bool)
noncomputable def upd (σ : Sig) (x : Nat) (t : PV) (o : Bool) : Sig := fun y => if y = x then some (t, o) else σ y
noncomputable def drp (σ : Sig) (x : Nat) : Sig := fun y => if y = x then Option.none else σ y

noncomputable def Tgt.vars : Tgt → List Nat
  | .one x => [x]
  | .two x y => [x, y]
noncomputable def CG.vars : CG → List Nat
  | .elt _ => []
  | .gen t _ _ r => t.vars ++ r.vars
noncomputable def clr (l : List Nat) (σ : Sig) : Sig := fun y => if y ∈ l then Option.none else σ y

noncomputable def bindT (σ : Sig) : Tgt → PV → Option Sig
  | .one x, t => some (upd σ x t false)
  | .two x y, .tuple [a, b] => some (upd (upd σ x a false) y b false)
  | .two x y, .list [a, b] => some (upd (upd σ x a false) y b false)
  | .two _ _, _ => Option.none

theorem bindT_two {σ σ' : Sig} {x y : Nat} {t : PV} (h : bindT σ (.two x y) t = some σ') : ∃ a b, (t = .tuple [a, b] ∨ t = .list [a, b]) ∧ σ' = upd (upd σ x a false) y b false := by
  cases t with
  | tuple l =>
    rcases l with _ | ⟨a, _ | ⟨b, _ | ⟨c, l⟩⟩⟩
    · cases h
    · cases h
    · cases h; exact ⟨a, b, .inl rfl, rfl⟩
    · cases h
  | list l =>
    rcases l with _ | ⟨a, _ | ⟨b, _ | ⟨c, l⟩⟩⟩
    · cases h
    · cases h
    · cases h; exact ⟨a, b, .inr rfl, rfl⟩
    · cases h
  | _ => cases h

noncomputable def concatM (f : PV → Option (List PV)) : List PV → Option (List PV)
  | [] => some []
  | x :: r => match f x with
    | some a => match concatM f r with
      | some b => some (a ++ b)
      | Option.none => Option.none
    | Option.none => Option.none

/-- the value, if it may be kept -/
noncomputable def kept : R → Option PV
  | (_, .bor) => Option.none
  | (t, _) => some t

noncomputable def scal : PV → Bool
  | .none => true
  | .bool _ => true
  | .int _ => true
  | .str _ => true
  | .bytes _ => true
  | _ => false
/-- a new list that holds no list: what a def may hand back that has but looked at an owned list -/
noncomputable def flatR (r : Option R) : Option R := match r with
  | some (.list xs, .new) => if xs.all scal = true then some (.list xs, .new) else Option.none
  | _ => Option.none
theorem flatR_says {r : Option R} {q : R} (h : flatR r = some q) : r = some q ∧ ∃ xs, q = (.list xs, .new) ∧ xs.all scal = true := by
  cases r with
  | none => cases h
  | some r =>
    obtain ⟨t, f⟩ := r
    cases t with
    | list xs =>
      cases f with
      | new =>
        have h' : (if xs.all scal = true then some (PV.list xs, Fl.new) else Option.none) = some q := h
        by_cases hq : xs.all scal = true
        · rw [if_pos hq] at h'
          cases h'
          exact ⟨rfl, xs, rfl, hq⟩
        · rw [if_neg hq] at h'; cases h'
      | _ => cases h
    | _ => cases h

noncomputable abbrev FT := Nat → List PV → Option R
noncomputable abbrev TT := Str → Option Int

mutual
noncomputable def evalE (F : FT) (T : TT) : CE → Sig → Option R
  | .lit c, _ => some (c, .frz)
  | .var x, σ => (σ x).map fun p => (p.1, if p.2 then .bor else .frz)
  | .gint _ i, _ => mkI i
  | .bin op a b, σ => match evalE F T a σ with
    | some (t, _) => match evalE F T b σ with
      | some (u, _) => binPV op t u
      | Option.none => Option.none
    | Option.none => Option.none
  | .neg a, σ => match evalE F T a σ with
    | some (.int i, _) => mkI (-i)
    | _ => Option.none
  | .not a, σ => match evalE F T a σ with
    | some (.bool b, _) => mkB (!b)
    | _ => Option.none
  | .bop op es, σ => (evalB F T op es σ).map fun b => (.bool b, .frz)
  | .cmp op a b, σ => match evalE F T a σ with
    | some (t, _) => match evalE F T b σ with
      | some (u, _) => (cmpPV op t u).map fun b => (.bool b, .frz)
      | Option.none => Option.none
    | Option.none => Option.none
  | .chain a o1 b o2 c, σ => match evalE F T a σ with
    | some (.int t, _) => match evalE F T b σ with
      | some (.int u, _) => match cmpPV o1 (.int t) (.int u) with
        | some true => match evalE F T c σ with
          | some (.int v, _) => (cmpPV o2 (.int u) (.int v)).map fun b => (.bool b, .frz)
          | _ => Option.none
        | some false => some (.bool false, .frz)
        | Option.none => Option.none
      | _ => Option.none
    | _ => Option.none
  | .ite c a b, σ => match evalE F T c σ with
    | some (.bool true, _) => evalE F T a σ
    | some (.bool false, _) => evalE F T b σ
    | _ => Option.none
  | .list es, σ => match evalEs F T es σ with
    | some xs => mkL xs
    | Option.none => Option.none
  | .tuple es, σ => match evalEs F T es σ with
    | some xs => if xs.length ≤ bigL then some (.tuple xs, .frz) else Option.none
    | Option.none => Option.none
  | .dict ks es, σ => match evalEs F T es σ with
    | some xs => if decide (ks.length = xs.length) && decide (ks.length ≤ 15) && decide ks.Nodup then some (.dict ks xs, .new) else Option.none
    | Option.none => Option.none
  | .idx a i, σ => match evalE F T a σ with
    | some (t, _) => match evalE F T i σ with
      | some (u, _) => (idxPV t u).map fun v => (v, .frz)
      | Option.none => Option.none
    | Option.none => Option.none
  | .tok a, σ => match evalE F T a σ with
    | some (.str s, _) => (T s).map fun i => (.int i, .frz)
    | _ => Option.none
  | .sliceL a lo, σ => match evalE F T a σ with
    | some (t, _) => match evalE F T lo σ with
      | some (.int i, _) => slicePV t (some i) Option.none
      | _ => Option.none
    | Option.none => Option.none
  | .sliceH a hi, σ => match evalE F T a σ with
    | some (t, _) => match evalE F T hi σ with
      | some (.int i, _) => slicePV t Option.none (some i)
      | _ => Option.none
    | Option.none => Option.none
  | .sliceB a lo hi, σ => match evalE F T a σ with
    | some (t, _) => match evalE F T lo σ with
      | some (.int i, _) => match evalE F T hi σ with
        | some (.int j, _) => slicePV t (some i) (some j)
        | _ => Option.none
      | _ => Option.none
    | Option.none => Option.none
  | .call f es, σ => match evalEs F T es σ with
    | some xs => F f xs
    | Option.none => match evalRs F T es σ with
      | some xs => flatR (F f xs)
      | Option.none => Option.none
  | .bi b es, σ => match evalRs F T es σ with
    | some xs => biPV b xs
    | Option.none => Option.none
  | .join a, σ => match evalE F T a σ with
    | some (t, _) => joinPV t
    | Option.none => Option.none
  | .index a x, σ => match evalE F T a σ with
    | some (t, _) => match evalE F T x σ with
      | some (u, _) => indexPV t u
      | Option.none => Option.none
    | Option.none => Option.none
  | .comp g, σ => match evalG F T true g (clr g.vars σ) with
    | some xs => mkL xs
    | Option.none => Option.none
/-- values that are kept -/
noncomputable def evalEs (F : FT) (T : TT) : CEs → Sig → Option (List PV)
  | .nil, _ => some []
  | .cons e es, σ => match evalE F T e σ with
    | some r => match kept r with
      | some t => match evalEs F T es σ with
        | some ts => some (t :: ts)
        | Option.none => Option.none
      | Option.none => Option.none
    | Option.none => Option.none
/-- values that are looked at -/
noncomputable def evalRs (F : FT) (T : TT) : CEs → Sig → Option (List PV)
  | .nil, _ => some []
  | .cons e es, σ => match evalE F T e σ with
    | some (t, _) => match evalRs F T es σ with
      | some ts => some (t :: ts)
      | Option.none => Option.none
    | Option.none => Option.none
noncomputable def evalB (F : FT) (T : TT) (op : BoolOp) : CEs → Sig → Option Bool
  | .nil, _ => Option.none
  | .cons e .nil, σ => match evalE F T e σ with
    | some (.bool b, _) => some b
    | _ => Option.none
  | .cons e es, σ => match evalE F T e σ with
    | some (.bool b, _) => match op, b with
      | .And, false => some false
      | .Or, true => some true
      | _, _ => evalB F T op es σ
    | _ => Option.none
noncomputable def evalG (F : FT) (T : TT) : Bool → CG → Sig → Option (List PV)
  | _, .elt e, σ => match evalE F T e σ with
    | some r => (kept r).map fun t => [t]
    | Option.none => Option.none
  | top, .gen t it ifs rest, σ => match evalE F T it σ with
    | some r => if top || decide (r.2 ≠ .bor) then (match itemsC r.1 with
      | some xs => concatM (fun x => match bindT σ t x with
          | some σ' => match evalI F T ifs σ' with
            | some true => evalG F T false rest σ'
            | some false => some []
            | Option.none => Option.none
          | Option.none => Option.none) xs
      | Option.none => Option.none) else Option.none
    | Option.none => Option.none
noncomputable def evalI (F : FT) (T : TT) : CEs → Sig → Option Bool
  | .nil, _ => some true
  | .cons e es, σ => match evalE F T e σ with
    | some (.bool true, _) => evalI F T es σ
    | some (.bool false, _) => some false
    | _ => Option.none
end
/-! the equations -/
theorem evE_lit {F : FT} {T : TT} {c σ} : evalE F T (.lit c) σ = some (c, .frz) := rfl
theorem evE_var {F : FT} {T : TT} {x σ} : evalE F T (.var x) σ = (σ x).map fun p => (p.1, if p.2 then .bor else .frz) := rfl
theorem evE_gint {F : FT} {T : TT} {z1 i σ} : evalE F T (.gint z1 i) σ = mkI i := rfl
theorem evE_bin {F : FT} {T : TT} {op a b σ} : evalE F T (.bin op a b) σ = match evalE F T a σ with
    | some (t, _) => match evalE F T b σ with
      | some (u, _) => binPV op t u
      | Option.none => Option.none
    | Option.none => Option.none := rfl
theorem evE_neg {F : FT} {T : TT} {a σ} : evalE F T (.neg a) σ = match evalE F T a σ with
    | some (.int i, _) => mkI (-i)
    | _ => Option.none := rfl
theorem evE_not {F : FT} {T : TT} {a σ} : evalE F T (.not a) σ = match evalE F T a σ with
    | some (.bool b, _) => mkB (!b)
    | _ => Option.none := rfl
theorem evE_bop {F : FT} {T : TT} {op es σ} : evalE F T (.bop op es) σ = (evalB F T op es σ).map fun b => (.bool b, .frz) := rfl
theorem evE_cmp {F : FT} {T : TT} {op a b σ} : evalE F T (.cmp op a b) σ = match evalE F T a σ with
    | some (t, _) => match evalE F T b σ with
      | some (u, _) => (cmpPV op t u).map fun b => (.bool b, .frz)
      | Option.none => Option.none
    | Option.none => Option.none := rfl
theorem evE_chain {F : FT} {T : TT} {a o1 b o2 c σ} : evalE F T (.chain a o1 b o2 c) σ = match evalE F T a σ with
    | some (.int t, _) => match evalE F T b σ with
      | some (.int u, _) => match cmpPV o1 (.int t) (.int u) with
        | some true => match evalE F T c σ with
          | some (.int v, _) => (cmpPV o2 (.int u) (.int v)).map fun b => (.bool b, .frz)
          | _ => Option.none
        | some false => some (.bool false, .frz)
        | Option.none => Option.none
      | _ => Option.none
    | _ => Option.none := rfl
theorem evE_ite {F : FT} {T : TT} {c a b σ} : evalE F T (.ite c a b) σ = match evalE F T c σ with
    | some (.bool true, _) => evalE F T a σ
    | some (.bool false, _) => evalE F T b σ
    | _ => Option.none := rfl
theorem evE_list {F : FT} {T : TT} {es σ} : evalE F T (.list es) σ = match evalEs F T es σ with
    | some xs => mkL xs
    | Option.none => Option.none := rfl
theorem evE_tuple {F : FT} {T : TT} {es σ} : evalE F T (.tuple es) σ = match evalEs F T es σ with
    | some xs => if xs.length ≤ bigL then some (.tuple xs, .frz) else Option.none
    | Option.none => Option.none := rfl
theorem evE_dict {F : FT} {T : TT} {ks es σ} : evalE F T (.dict ks es) σ = match evalEs F T es σ with
    | some xs => if decide (ks.length = xs.length) && decide (ks.length ≤ 15) && decide ks.Nodup then some (.dict ks xs, .new) else Option.none
    | Option.none => Option.none := rfl
theorem evE_idx {F : FT} {T : TT} {a i σ} : evalE F T (.idx a i) σ = match evalE F T a σ with
    | some (t, _) => match evalE F T i σ with
      | some (u, _) => (idxPV t u).map fun v => (v, .frz)
      | Option.none => Option.none
    | Option.none => Option.none := rfl
theorem evE_tok {F : FT} {T : TT} {a σ} : evalE F T (.tok a) σ = match evalE F T a σ with
    | some (.str s, _) => (T s).map fun i => (.int i, .frz)
    | _ => Option.none := rfl
theorem evE_sliceL {F : FT} {T : TT} {a lo σ} : evalE F T (.sliceL a lo) σ = match evalE F T a σ with
    | some (t, _) => match evalE F T lo σ with
      | some (.int i, _) => slicePV t (some i) Option.none
      | _ => Option.none
    | Option.none => Option.none := rfl
theorem evE_sliceH {F : FT} {T : TT} {a hi σ} : evalE F T (.sliceH a hi) σ = match evalE F T a σ with
    | some (t, _) => match evalE F T hi σ with
      | some (.int i, _) => slicePV t Option.none (some i)
      | _ => Option.none
    | Option.none => Option.none := rfl
theorem evE_sliceB {F : FT} {T : TT} {a lo hi σ} : evalE F T (.sliceB a lo hi) σ = match evalE F T a σ with
    | some (t, _) => match evalE F T lo σ with
      | some (.int i, _) => match evalE F T hi σ with
        | some (.int j, _) => slicePV t (some i) (some j)
        | _ => Option.none
      | _ => Option.none
    | Option.none => Option.none := rfl
theorem evE_call {F : FT} {T : TT} {f es σ} : evalE F T (.call f es) σ = match evalEs F T es σ with
    | some xs => F f xs
    | Option.none => match evalRs F T es σ with
      | some xs => flatR (F f xs)
      | Option.none => Option.none := rfl
theorem evE_bi {F : FT} {T : TT} {b es σ} : evalE F T (.bi b es) σ = match evalRs F T es σ with
    | some xs => biPV b xs
    | Option.none => Option.none := rfl
theorem evE_join {F : FT} {T : TT} {a σ} : evalE F T (.join a) σ = match evalE F T a σ with
    | some (t, _) => joinPV t
    | Option.none => Option.none := rfl
theorem evE_index {F : FT} {T : TT} {a x σ} : evalE F T (.index a x) σ = match evalE F T a σ with
    | some (t, _) => match evalE F T x σ with
      | some (u, _) => indexPV t u
      | Option.none => Option.none
    | Option.none => Option.none := rfl
theorem evE_comp {F : FT} {T : TT} {g σ} : evalE F T (.comp g) σ = match evalG F T true g (clr g.vars σ) with
    | some xs => mkL xs
    | Option.none => Option.none := rfl
theorem evEs_nil {F : FT} {T : TT} {σ} : evalEs F T .nil σ = some [] := rfl
theorem evEs_cons {F : FT} {T : TT} {e es σ} : evalEs F T (.cons e es) σ = match evalE F T e σ with
    | some r => match kept r with
      | some t => match evalEs F T es σ with
        | some ts => some (t :: ts)
        | Option.none => Option.none
      | Option.none => Option.none
    | Option.none => Option.none := rfl
theorem evRs_nil {F : FT} {T : TT} {σ} : evalRs F T .nil σ = some [] := rfl
theorem evRs_cons {F : FT} {T : TT} {e es σ} : evalRs F T (.cons e es) σ = match evalE F T e σ with
    | some (t, _) => match evalRs F T es σ with
      | some ts => some (t :: ts)
      | Option.none => Option.none
    | Option.none => Option.none := rfl
theorem evB_nil {F : FT} {T : TT} {op : BoolOp} {σ} : evalB F T op .nil σ = Option.none := rfl
theorem evB_one {F : FT} {T : TT} {op : BoolOp} {e σ} : evalB F T op (.cons e .nil) σ = match evalE F T e σ with
    | some (.bool b, _) => some b
    | _ => Option.none := rfl
theorem evB_more {F : FT} {T : TT} {op : BoolOp} {e e2 es σ} : evalB F T op (.cons e (.cons e2 es)) σ = match evalE F T e σ with
    | some (.bool b, _) => match op, b with
      | .And, false => some false
      | .Or, true => some true
      | _, _ => evalB F T op (.cons e2 es) σ
    | _ => Option.none := rfl
theorem evG_elt {F : FT} {T : TT} {top e σ} : evalG F T top (.elt e) σ = match evalE F T e σ with
    | some r => (kept r).map fun t => [t]
    | Option.none => Option.none := rfl
theorem evG_gen {F : FT} {T : TT} {top t it ifs rest σ} : evalG F T top (.gen t it ifs rest) σ = match evalE F T it σ with
    | some r => if top || decide (r.2 ≠ .bor) then (match itemsC r.1 with
      | some xs => concatM (fun x => match bindT σ t x with
          | some σ' => match evalI F T ifs σ' with
            | some true => evalG F T false rest σ'
            | some false => some []
            | Option.none => Option.none
          | Option.none => Option.none) xs
      | Option.none => Option.none) else Option.none
    | Option.none => Option.none := rfl
theorem evI_nil {F : FT} {T : TT} {σ} : evalI F T .nil σ = some true := rfl
theorem evI_cons {F : FT} {T : TT} {e es σ} : evalI F T (.cons e es) σ = match evalE F T e σ with
    | some (.bool true, _) => evalI F T es σ
    | some (.bool false, _) => some false
    | _ => Option.none := rfl

inductive Out where
  | next (σ : Sig)
  | brk (σ : Sig)
  | ret (r : R)

noncomputable def setPV (t : PV) (i : PV) (v : PV) : Option PV := match t, i with
  | .list xs, .int k => if decide (0 ≤ k) && decide (k.toNat < xs.length) && decide (xs.length ≤ bigL) then some (.list (xs.set k.toNat v)) else Option.none
  | .dict ks xs, .int k => if decide (ks.length ≤ 1000) && decide (ks.length = xs.length) then
      (match ks.idxOf? k with
        | some j => some (.dict ks (xs.set j v))
        | Option.none => some (.dict (ks ++ [k]) (xs ++ [v])))
    else Option.none
  | _, _ => Option.none

/-- what a def hands back: an own list becomes a new one -/
noncomputable def handed : R → R
  | (t, .bor) => (t, .new)
  | r => r

noncomputable def whileS (c : Sig → Option Bool) (b o : Sig → Option Out) : Nat → Sig → Option Out
  | 0, _ => Option.none
  | n + 1, σ => match c σ with
    | some true => match b σ with
      | some (.next σ') => whileS c b o n σ'
      | some (.brk σ') => some (.next σ')
      | r => r
    | some false => o σ
    | Option.none => Option.none
noncomputable def forS (t : Tgt) (b : Sig → Option Out) : List PV → Sig → Option Out
  | [], σ => some (.next σ)
  | x :: xs, σ => match bindT σ t x with
    | some σ' => match b σ' with
      | some (.next σ'') => forS t b xs σ''
      | some (.brk σ'') => some (.next σ'')
      | r => r
    | Option.none => Option.none

end Mine


namespace Mine
variable (prog : Program) (w : World)

noncomputable abbrev View := Addr → Option Obj
noncomputable def view (h : Heap) (P : List Addr) : View := fun a => if a ∈ P then none else h.get? a
noncomputable def Sub (H H' : View) : Prop := ∀ a o, H a = some o → H' a = some o
noncomputable def Keeps (h h' : Heap) : Prop := ∀ a o, h.get? a = some o → h'.get? a = some o
noncomputable def KeepsOff (P : List Addr) (h h' : Heap) : Prop := ∀ a o, a ∉ P → h.get? a = some o → h'.get? a = some o

noncomputable abbrev listO (vs : Array Value) (n : Nat) : Obj := { cls := .type "list", dict := none, data := .seq vs n, slots := #[] }
noncomputable abbrev tupO (vs : Array Value) (n : Nat) : Obj := { cls := .type "tuple", dict := none, data := .seq vs n, slots := #[] }
noncomputable abbrev rangeO (lo hi : Int) (t u v : Tok) : Obj := { cls := .type "range", dict := none, data := .fields #[.int lo t, .int hi u, .int 1 v], slots := #[] }

mutual
noncomputable def Rep (H : View) : Value → PV → Prop
  | v, .none => v = .none
  | v, .bool b => v = .bool b
  | v, .int i => ∃ k, v = .int i k
  | v, .str s => ∃ k, v = .str s k
  | v, .bytes b => ∃ k, v = .bytes b.toArray k
  | v, .list xs => ∃ a vs n, v = .ref a ∧ H a = some (listO vs n) ∧ Reps H vs.toList xs
  | v, .tuple xs => ∃ a vs n, v = .ref a ∧ H a = some (tupO vs n) ∧ Reps H vs.toList xs
  | v, .range lo hi => ∃ a t u k, v = .ref a ∧ H a = some (rangeO lo hi t u k) ∧ smallI lo = true ∧ smallI hi = true
  | v, .dict ks xs => ∃ a o kvs, v = .ref a ∧ (a == sysModules) = false ∧ H a = some o ∧ o.IsDictOf (intKind prog w) kvs ∧ kvs.map (·.1) = ks ∧ Reps H (kvs.map (·.2)) xs
noncomputable def Reps (H : View) : List Value → List PV → Prop
  | vs, [] => vs = []
  | vs, x :: xs => ∃ v r, vs = v :: r ∧ Rep H v x ∧ Reps H r xs
end

/-- the object at a stands for t, the rest lies in H -/
noncomputable def ORep (H : View) (h : Heap) (a : Addr) : PV → Prop
  | .list xs => ∃ vs n, h.get? a = some (listO vs n) ∧ Reps prog w H vs.toList xs
  | .dict ks xs => ∃ o kvs, (a == sysModules) = false ∧ h.get? a = some o ∧ o.IsDictOf (intKind prog w) kvs ∧ kvs.map (·.1) = ks ∧ Reps prog w H (kvs.map (·.2)) xs
  | _ => False

noncomputable def Res (h : Heap) (P : List Addr) (h' : Heap) (v : Value) (t : PV) : Fl → Prop
  | .frz => Rep prog w (view h' P) v t
  | .bor => ∃ a, v = .ref a ∧ ORep prog w (view h' P) h' a t
  | .new => ∃ a, v = .ref a ∧ h.get? a = none ∧ ORep prog w (view h' (a :: P)) h' a t

/-- readable: top object in h, the rest in the view -/
noncomputable def Read (P : List Addr) (h : Heap) (v : Value) (t : PV) : Prop := Rep prog w (view h P) v t ∨ ∃ a, v = .ref a ∧ ORep prog w (view h P) h a t

theorem Sub.trans {H H' H'' : View} (x : Sub H H') (y : Sub H' H'') : Sub H H'' := fun a o e => y a o (x a o e)
theorem Keeps.refl (h : Heap) : Keeps h h := fun _ _ e => e
theorem Keeps.trans {h h' h'' : Heap} (x : Keeps h h') (y : Keeps h' h'') : Keeps h h'' := fun a o e => y a o (x a o e)
theorem Keeps.off {h h' : Heap} (x : Keeps h h') (P : List Addr) : KeepsOff P h h' := fun a o _ e => x a o e
theorem KeepsOff.trans {P : List Addr} {h h' h'' : Heap} (x : KeepsOff P h h') (y : KeepsOff P h' h'') : KeepsOff P h h'' := fun a o n e => y a o n (x a o n e)
theorem KeepsOff.sub {P : List Addr} {h h' : Heap} (x : KeepsOff P h h') : Sub (view h P) (view h' P) := by
  intro a o e
  unfold view at e ⊢
  split at e
  · cases e
  · rename_i hn; rw [if_neg hn]; exact x a o hn e
theorem Keeps.sub {h h' : Heap} (x : Keeps h h') (P : List Addr) : Sub (view h P) (view h' P) := (x.off P).sub
theorem view_sub {h : Heap} {P P' : List Addr} (x : ∀ a ∈ P, a ∈ P') : Sub (view h P') (view h P) := by
  intro a o e
  unfold view at e ⊢
  split at e
  · cases e
  · rename_i hn; rw [if_neg fun q => hn (x a q)]; exact e
theorem view_get {h : Heap} {P : List Addr} {a : Addr} {o : Obj} (e : view h P a = some o) : h.get? a = some o := by
  unfold view at e
  split at e
  · cases e
  · exact e
theorem view_not {h : Heap} {P : List Addr} {a : Addr} {o : Obj} (e : view h P a = some o) : a ∉ P := by
  unfold view at e
  split at e
  · cases e
  · assumption
theorem view_of {h : Heap} {P : List Addr} {a : Addr} {o : Obj} (e : h.get? a = some o) (n : a ∉ P) : view h P a = some o := by
  unfold view; rw [if_neg n]; exact e
theorem Keeps.push (h : Heap) (o : Obj) : Keeps h (h.push o) := fun _ _ e => Heap.get?_push_of_some _ e
theorem Keeps.fresh {h h' : Heap} (x : Keeps h h') : h.get? h'.objs.size = none := by
  cases q : h.get? h'.objs.size with
  | none => rfl
  | some o => exact absurd (Heap.lt_size (x _ _ q)) (Nat.lt_irrefl _)
theorem keepsOff_same {P : List Addr} {h h' : Heap} {a : Addr} (x : Heap.SameBut a h h') (ha : a ∈ P) : KeepsOff P h h' :=
  fun b o n e => (x.2 b fun q => n (q ▸ ha)).trans e
theorem keeps_ext_new {h h₁ h' : Heap} {a : Addr} (x : Keeps h h₁) (y : Heap.ExtBut a h₁ h') (ha : h.get? a = none) : Keeps h h' :=
  fun b o e => y b o (fun q => by rw [q, ha] at e; cases e) (x b o e)
theorem keeps_same_new {h h₁ h' : Heap} {a : Addr} (x : Keeps h h₁) (y : Heap.SameBut a h₁ h') (ha : h.get? a = none) : Keeps h h' :=
  fun b o e => (y.2 b fun q => by rw [q, ha] at e; cases e).trans (x b o e)

section
variable {prog : Program} {w : World}
mutual
theorem Rep.mono {H H' : View} (s : Sub H H') : ∀ {v : Value} (t : PV), Rep prog w H v t → Rep prog w H' v t
  | _, .none, h => by unfold Rep at h ⊢; exact h
  | _, .bool _, h => by unfold Rep at h ⊢; exact h
  | _, .int _, h => by unfold Rep at h ⊢; exact h
  | _, .str _, h => by unfold Rep at h ⊢; exact h
  | _, .bytes _, h => by unfold Rep at h ⊢; exact h
  | _, .list xs, h => by unfold Rep at h ⊢; obtain ⟨a, vs, n, rfl, h1, h2⟩ := h; exact ⟨a, vs, n, rfl, s _ _ h1, Reps.mono s xs h2⟩
  | _, .tuple xs, h => by unfold Rep at h ⊢; obtain ⟨a, vs, n, rfl, h1, h2⟩ := h; exact ⟨a, vs, n, rfl, s _ _ h1, Reps.mono s xs h2⟩
  | _, .range _ _, h => by unfold Rep at h ⊢; obtain ⟨a, t, u, k, rfl, h1, h2⟩ := h; exact ⟨a, t, u, k, rfl, s _ _ h1, h2⟩
  | _, .dict _ xs, h => by unfold Rep at h ⊢; obtain ⟨a, o, kvs, rfl, hs, h1, h2, h3, h4⟩ := h; exact ⟨a, o, kvs, rfl, hs, s _ _ h1, h2, h3, Reps.mono s xs h4⟩
theorem Reps.mono {H H' : View} (s : Sub H H') : ∀ {vs : List Value} (ts : List PV), Reps prog w H vs ts → Reps prog w H' vs ts
  | _, [], h => by unfold Reps at h ⊢; exact h
  | _, t :: ts, h => by unfold Reps at h ⊢; obtain ⟨v, r, rfl, h1, h2⟩ := h; exact ⟨v, r, rfl, Rep.mono s t h1, Reps.mono s ts h2⟩
end

theorem ORep.mono {H H' : View} {h h' : Heap} {a : Addr} {t : PV} (s : Sub H H') (e : ∀ o, h.get? a = some o → h'.get? a = some o) (x : ORep prog w H h a t) : ORep prog w H' h' a t := by
  cases t with
  | list xs => unfold ORep at x ⊢; obtain ⟨vs, n, h1, h2⟩ := x; exact ⟨vs, n, e _ h1, Reps.mono s xs h2⟩
  | dict ks xs => unfold ORep at x ⊢; obtain ⟨o, kvs, hs, h1, h2, h3, h4⟩ := x; exact ⟨o, kvs, hs, e _ h1, h2, h3, Reps.mono s xs h4⟩
  | _ => unfold ORep at x; exact x.elim

theorem ORep.rep {H : View} {h : Heap} {a : Addr} {t : PV} (x : ORep prog w H h a t) (e : ∀ o, h.get? a = some o → H a = some o) : Rep prog w H (.ref a) t := by
  cases t with
  | list xs => unfold ORep at x; unfold Rep; obtain ⟨vs, n, h1, h2⟩ := x; exact ⟨a, vs, n, rfl, e _ h1, h2⟩
  | dict ks xs => unfold ORep at x; unfold Rep; obtain ⟨o, kvs, hs, h1, h2, h3, h4⟩ := x; exact ⟨a, o, kvs, rfl, hs, e _ h1, h2, h3, h4⟩
  | _ => unfold ORep at x; exact x.elim

/-- every result is readable -/
theorem Res.read {h : Heap} {P : List Addr} {h' : Heap} {v : Value} {t : PV} {f : Fl} (x : Res prog w h P h' v t f) : Read prog w P h' v t := by
  cases f with
  | frz => exact .inl x
  | bor => exact .inr x
  | new =>
    obtain ⟨a, rfl, _, h2⟩ := x
    exact .inr ⟨a, rfl, h2.mono (view_sub fun b hb => .tail _ hb) fun _ e => e⟩

theorem Read.mono {P : List Addr} {h h' : Heap} {v : Value} {t : PV} (k : Keeps h h') (x : Read prog w P h v t) : Read prog w P h' v t := by
  rcases x with x | ⟨a, rfl, x⟩
  · exact .inl (Rep.mono (k.sub P) _ x)
  · exact .inr ⟨a, rfl, x.mono (k.sub P) fun o e => k _ o e⟩

/-- a result that may be kept is frozen; P lies in the old heap -/
theorem Res.freeze {h : Heap} {P : List Addr} {h' : Heap} {v : Value} {t : PV} {f : Fl} (hf : f ≠ .bor) (hP : ∀ a ∈ P, ∃ o, h.get? a = some o) (x : Res prog w h P h' v t f) : Rep prog w (view h' P) v t := by
  cases f with
  | frz => exact x
  | bor => exact absurd rfl hf
  | new =>
    obtain ⟨a, rfl, h1, h2⟩ := x
    have hn : a ∉ P := fun q => by obtain ⟨o, e⟩ := hP a q; rw [h1] at e; cases e
    exact (h2.mono (view_sub fun b hb => .tail _ hb) fun _ e => e).rep fun o e => view_of e hn

theorem Reps.length {H : View} : ∀ {vs : List Value} {ts : List PV}, Reps prog w H vs ts → vs.length = ts.length
  | _, [], h => by unfold Reps at h; subst h; rfl
  | _, t :: ts, h => by unfold Reps at h; obtain ⟨v, r, rfl, _, h2⟩ := h; simp [Reps.length h2]
theorem Reps.append {H : View} : ∀ {vs us : List Value} {ts xs : List PV}, Reps prog w H vs ts → Reps prog w H us xs → Reps prog w H (vs ++ us) (ts ++ xs)
  | _, _, [], _, h, h' => by unfold Reps at h; subst h; exact h'
  | _, _, t :: ts, _, h, h' => by unfold Reps at h; obtain ⟨v, r, rfl, h1, h2⟩ := h; show Reps prog w H (v :: (r ++ _)) (t :: (ts ++ _)); unfold Reps; exact ⟨v, _, rfl, h1, Reps.append h2 h'⟩
theorem Reps.nil {H : View} : Reps prog w H [] [] := by unfold Reps; rfl
theorem Reps.cons {H : View} {v : Value} {vs : List Value} {t : PV} {ts : List PV} (h : Rep prog w H v t) (h' : Reps prog w H vs ts) : Reps prog w H (v :: vs) (t :: ts) := by unfold Reps; exact ⟨v, vs, rfl, h, h'⟩
theorem Reps.get {H : View} : ∀ {vs : List Value} {ts : List PV}, Reps prog w H vs ts → ∀ {i : Nat} {t : PV}, ts[i]? = some t → ∃ v, vs[i]? = some v ∧ Rep prog w H v t
  | _, [], _, i, t, e => by simp at e
  | _, t :: ts, h, 0, u, e => by unfold Reps at h; obtain ⟨v, r, rfl, h1, h2⟩ := h; simp at e; subst e; exact ⟨v, rfl, h1⟩
  | _, t :: ts, h, i + 1, u, e => by unfold Reps at h; obtain ⟨v, r, rfl, h1, h2⟩ := h; simp at e; obtain ⟨v', e', h'⟩ := Reps.get h2 e; exact ⟨v', by simpa using e', h'⟩
theorem Reps.drop {H : View} : ∀ {vs : List Value} {ts : List PV} (n : Nat), Reps prog w H vs ts → Reps prog w H (vs.drop n) (ts.drop n)
  | _, _, 0, h => by simpa using h
  | _, [], n + 1, h => by unfold Reps at h; subst h; simp; exact Reps.nil
  | _, t :: ts, n + 1, h => by unfold Reps at h; obtain ⟨v, r, rfl, h1, h2⟩ := h; simpa using Reps.drop n h2
theorem Reps.take {H : View} : ∀ {vs : List Value} {ts : List PV} (n : Nat), Reps prog w H vs ts → Reps prog w H (vs.take n) (ts.take n)
  | _, _, 0, h => by simpa using Reps.nil
  | _, [], n + 1, h => by unfold Reps at h; subst h; simp; exact Reps.nil
  | _, t :: ts, n + 1, h => by unfold Reps at h; obtain ⟨v, r, rfl, h1, h2⟩ := h; simpa using Reps.cons h1 (Reps.take n h2)
theorem Reps.set {H : View} {v : Value} {t : PV} (hv : Rep prog w H v t) : ∀ {vs : List Value} {ts : List PV} (n : Nat), Reps prog w H vs ts → Reps prog w H (vs.set n v) (ts.set n t)
  | _, [], n, h => by unfold Reps at h; subst h; simpa using Reps.nil
  | _, t :: ts, 0, h => by unfold Reps at h; obtain ⟨v, r, rfl, h1, h2⟩ := h; simpa using Reps.cons hv h2
  | _, t :: ts, n + 1, h => by unfold Reps at h; obtain ⟨v, r, rfl, h1, h2⟩ := h; simpa using Reps.cons h1 (Reps.set hv n h2)
theorem Reps.replicate {H : View} {vs : List Value} {ts : List PV} (h : Reps prog w H vs ts) : ∀ n : Nat, Reps prog w H (List.replicate n vs).flatten (List.replicate n ts).flatten
  | 0 => by simpa using Reps.nil
  | n + 1 => by simp only [List.replicate_succ, List.flatten_cons]; exact Reps.append h (Reps.replicate h n)

theorem toPys_cons {x : PV} {xs : List PV} {bs : List PyData} (h : toPys (x :: xs) = some bs) : ∃ a b, bs = a :: b ∧ toPy x = some a ∧ toPys xs = some b := by
  unfold toPys at h
  split at h
  · rename_i a b e1 e2; cases h; exact ⟨a, b, rfl, e1, e2⟩
  · cases h

mutual
theorem Rep.reads {H : View} {h : Heap} (s : ∀ a o, H a = some o → h.get? a = some o) : ∀ (t : PV) {v : Value} {d : PyData}, Rep prog w H v t → toPy t = some d → ∃ as, Reads h v d as
  | .none, _, _, r, e => by unfold Rep at r; unfold toPy at e; cases e; subst r; exact ⟨_, .none⟩
  | .bool b, _, _, r, e => by unfold Rep at r; unfold toPy at e; cases e; subst r; exact ⟨_, .bool b⟩
  | .int i, _, _, r, e => by unfold Rep at r; unfold toPy at e; cases e; obtain ⟨k, rfl⟩ := r; exact ⟨_, .int i k⟩
  | .str i, _, _, r, e => by unfold Rep at r; unfold toPy at e; cases e; obtain ⟨k, rfl⟩ := r; exact ⟨_, .str i k⟩
  | .bytes _, _, _, _, e => by unfold toPy at e; cases e
  | .list xs, _, _, r, e => by
    unfold Rep at r; unfold toPy at e
    obtain ⟨a, vs, n, rfl, h1, h2⟩ := r
    obtain ⟨bs, e1, rfl⟩ := Option.map_eq_some_iff.mp e
    obtain ⟨as, ra⟩ := Reps.reads s xs h2 e1
    exact ⟨_, .list (s _ _ h1) rfl rfl ra⟩
  | .tuple xs, _, _, r, e => by
    unfold Rep at r; unfold toPy at e
    obtain ⟨a, vs, n, rfl, h1, h2⟩ := r
    obtain ⟨bs, e1, rfl⟩ := Option.map_eq_some_iff.mp e
    obtain ⟨as, ra⟩ := Reps.reads s xs h2 e1
    exact ⟨_, .tuple (s _ _ h1) rfl rfl ra⟩
  | .range _ _, _, _, _, e => by unfold toPy at e; cases e
  | .dict _ _, _, _, _, e => by unfold toPy at e; cases e
theorem Reps.reads {H : View} {h : Heap} (s : ∀ a o, H a = some o → h.get? a = some o) : ∀ (ts : List PV) {vs : List Value} {ds : List PyData}, Reps prog w H vs ts → toPys ts = some ds → ∃ as, ReadsAll h vs ds as
  | [], _, _, r, e => by unfold Reps at r; unfold toPys at e; cases e; subst r; exact ⟨_, .nil⟩
  | t :: ts, _, _, r, e => by
    unfold Reps at r
    obtain ⟨v, vs, rfl, h1, h2⟩ := r
    obtain ⟨a, b, rfl, e1, e2⟩ := toPys_cons e
    obtain ⟨as, r1⟩ := Rep.reads s t h1 e1
    obtain ⟨bs, r2⟩ := Reps.reads s ts h2 e2
    exact ⟨_, .cons r1 r2⟩
end

theorem Read.reads {P : List Addr} {h : Heap} {v : Value} {t : PV} {d : PyData} (r : Read prog w P h v t) (e : toPy t = some d) : ∃ as, Reads h v d as := by
  rcases r with r | ⟨a, rfl, r⟩
  · exact Rep.reads (fun _ _ x => view_get x) t r e
  · cases t with
    | list xs =>
      unfold ORep at r
      obtain ⟨vs, n, h1, h2⟩ := r
      unfold toPy at e
      obtain ⟨bs, e1, rfl⟩ := Option.map_eq_some_iff.mp e
      obtain ⟨as, ra⟩ := Reps.reads (fun _ _ x => view_get x) xs h2 e1
      exact ⟨_, .list h1 rfl rfl ra⟩
    | _ => first | (unfold ORep at r; exact r.elim) | (unfold toPy at e; cases e)

/-- a readable list -/
theorem Read.list {P : List Addr} {h : Heap} {v : Value} {xs : List PV} (r : Read prog w P h v (.list xs)) : ∃ a vs n, v = .ref a ∧ h.get? a = some (listO vs n) ∧ Reps prog w (view h P) vs.toList xs := by
  rcases r with r | ⟨a, rfl, r⟩
  · unfold Rep at r; obtain ⟨a, vs, n, rfl, h1, h2⟩ := r; exact ⟨a, vs, n, rfl, view_get h1, h2⟩
  · unfold ORep at r; obtain ⟨vs, n, h1, h2⟩ := r; exact ⟨a, vs, n, rfl, h1, h2⟩
theorem Read.tuple {P : List Addr} {h : Heap} {v : Value} {xs : List PV} (r : Read prog w P h v (.tuple xs)) : ∃ a vs n, v = .ref a ∧ h.get? a = some (tupO vs n) ∧ Reps prog w (view h P) vs.toList xs := by
  rcases r with r | ⟨a, rfl, r⟩
  · unfold Rep at r; obtain ⟨a, vs, n, rfl, h1, h2⟩ := r; exact ⟨a, vs, n, rfl, view_get h1, h2⟩
  · unfold ORep at r; exact r.elim
theorem Read.dict {P : List Addr} {h : Heap} {v : Value} {ks : List Int} {xs : List PV} (r : Read prog w P h v (.dict ks xs)) : ∃ a kvs, v = .ref a ∧ (a == sysModules) = false ∧ h.DictOf (intKind prog w) a kvs ∧ kvs.map (·.1) = ks ∧ Reps prog w (view h P) (kvs.map (·.2)) xs := by
  rcases r with r | ⟨a, rfl, r⟩
  · unfold Rep at r; obtain ⟨a, o, kvs, rfl, hs, h1, h2, h3, h4⟩ := r; exact ⟨a, kvs, rfl, hs, Heap.dictOf_iff.mpr ⟨o, view_get h1, h2⟩, h3, h4⟩
  · unfold ORep at r; obtain ⟨o, kvs, hs, h1, h2, h3, h4⟩ := r; exact ⟨a, kvs, rfl, hs, Heap.dictOf_iff.mpr ⟨o, h1, h2⟩, h3, h4⟩
theorem Read.int {P : List Addr} {h : Heap} {v : Value} {i : Int} (r : Read prog w P h v (.int i)) : ∃ k, v = .int i k := by
  rcases r with r | ⟨a, rfl, r⟩
  · unfold Rep at r; exact r
  · unfold ORep at r; exact r.elim
theorem Read.str {P : List Addr} {h : Heap} {v : Value} {i : Str} (r : Read prog w P h v (.str i)) : ∃ k, v = .str i k := by
  rcases r with r | ⟨a, rfl, r⟩
  · unfold Rep at r; exact r
  · unfold ORep at r; exact r.elim
theorem Read.bool {P : List Addr} {h : Heap} {v : Value} {i : Bool} (r : Read prog w P h v (.bool i)) : v = .bool i := by
  rcases r with r | ⟨a, rfl, r⟩
  · unfold Rep at r; exact r
  · unfold ORep at r; exact r.elim
theorem Read.none {P : List Addr} {h : Heap} {v : Value} (r : Read prog w P h v .none) : v = .none := by
  rcases r with r | ⟨a, rfl, r⟩
  · unfold Rep at r; exact r
  · unfold ORep at r; exact r.elim
theorem Read.bytes {P : List Addr} {h : Heap} {v : Value} {b : List UInt8} (r : Read prog w P h v (.bytes b)) : ∃ k, v = .bytes b.toArray k := by
  rcases r with r | ⟨a, rfl, r⟩
  · unfold Rep at r; exact r
  · unfold ORep at r; exact r.elim
theorem Read.range {P : List Addr} {h : Heap} {v : Value} {lo hi : Int} (r : Read prog w P h v (.range lo hi)) : ∃ a t u k, v = .ref a ∧ h.get? a = some (rangeO lo hi t u k) ∧ smallI lo = true ∧ smallI hi = true := by
  rcases r with r | ⟨a, rfl, r⟩
  · unfold Rep at r; obtain ⟨a, t, u, k, rfl, h1, h2⟩ := r; exact ⟨a, t, u, k, rfl, view_get h1, h2⟩
  · unfold ORep at r; exact r.elim
end
end Mine


namespace Mine
variable {prog : Program} {w : World} {A : Around} {E : Value → Shared → Prop} {s : Shared} {P : List Addr}

noncomputable def Step (s s' : Shared) : Prop := Keeps s.heap s'.heap ∧ s'.gens = s.gens ∧ s'.os = s.os
theorem Step.refl (s : Shared) : Step s s := ⟨Keeps.refl _, rfl, rfl⟩
theorem Step.trans {s s' s'' : Shared} (x : Step s s') (y : Step s' s'') : Step s s'' := ⟨x.1.trans y.1, y.2.1.trans x.2.1, y.2.2.trans x.2.2⟩

/-- what an expression gives: the old heap is kept, the value stands for t -/
noncomputable def Gives (prog : Program) (w : World) (s : Shared) (P : List Addr) (t : PV) (f : Fl) (v : Value) (s' : Shared) : Prop := Step s s' ∧ Res prog w s.heap P s'.heap v t f

structure Room (A : Around) (n : Nat) : Prop where
  hd : A.handled = none
  dp : A.depth + n < recursionLimit
  un : A.units + 60 * (n + 1) < cLine

theorem step_toks (s : Shared) (k : Nat) : Step s { s with toks := k } := ⟨Keeps.refl _, rfl, rfl⟩
theorem step_push (s : Shared) (o : Obj) : Step s { s with heap := s.heap.push o } := ⟨Keeps.push _ _, rfl, rfl⟩
theorem step_heap {s : Shared} {h' : Heap} {k : Nat} (x : Keeps s.heap h') : Step s { s with heap := h', toks := k } := ⟨x, rfl, rfl⟩
theorem small_lt {a : Int} (h : smallI a = true) : -(1152921504606846976 : Int) < a ∧ a < 1152921504606846976 := by
  unfold smallI bigI at h
  have := of_decide_eq_true h
  lia
theorem sizeLine_val : sizeLine = 16777216 := rfl
theorem bigL_val : bigL = 1048576 := rfl

/-- a new list -/
theorem gives_newList {t : List PV} {vs : Array Value} (h : Reps prog w (view s.heap P) vs.toList t) (hP : ∀ a ∈ P, ∃ o, s.heap.get? a = some o) :
    Gives prog w s P (.list t) .new (.ref s.heap.objs.size) { s with heap := s.heap.push { cls := .type "list", data := .seq vs } } := by
  refine ⟨step_push _ _, s.heap.objs.size, rfl, (Keeps.refl s.heap).fresh, ?_⟩
  unfold ORep
  refine ⟨vs, 0, Heap.get?_push_size _ rfl, Reps.mono ?_ t h⟩
  intro a o e
  have ha := view_get e
  refine view_of (Heap.get?_push_of_some _ ha) fun q => ?_
  rcases List.mem_cons.mp q with rfl | q
  · exact absurd (Heap.lt_size ha) (Nat.lt_irrefl _)
  · exact view_not e q

theorem gives_int {i : Int} {k : Nat} {s' : Shared} (h : Step s s') : Gives prog w s P (.int i) .frz (.int i k) s' := ⟨h, by show Rep _ _ _ _ _; unfold Rep; exact ⟨k, rfl⟩⟩
theorem gives_bool {b : Bool} {s' : Shared} (h : Step s s') : Gives prog w s P (.bool b) .frz (.bool b) s' := ⟨h, by show Rep _ _ _ _ _; unfold Rep; rfl⟩
theorem gives_str {i : Str} {k : Nat} {s' : Shared} (h : Step s s') : Gives prog w s P (.str i) .frz (.str i k) s' := ⟨h, by show Rep _ _ _ _ _; unfold Rep; exact ⟨k, rfl⟩⟩
theorem gives_none {s' : Shared} (h : Step s s') : Gives prog w s P .none .frz .none s' := ⟨h, by show Rep _ _ _ _ _; unfold Rep; rfl⟩

theorem list_mul_any {l : Addr} {vs : Array Value} {k : Nat} {x : Int} {u : Tok} {Q : Value → Shared → Prop} (hl : s.heap.get? l = some (listO vs k)) (h0 : 0 ≤ x) (h1 : x ≤ 1048576) (hv : vs.size ≤ 1048576) (hz : vs.size * x.toNat ≤ 1048576)
    (h : Q (.ref s.heap.objs.size) { s with heap := s.heap.push { cls := .type "list", data := .seq (List.replicate x.toNat vs.toList).flatten.toArray } }) :
    wpAny (model prog w) A (binaryOp .Mult (.ref l) (.int x u)) Q E s := by
  refine wpAny_binaryOp_repeat_ref (T := "list") (U := "int") (by decide) ⟨_, hl, rfl⟩ (fun s' => typeIs_int s' x u) noFill_list_mul F.fills_int_mul F.slot_int_rmul repeat_list F.slot_int_index.lookup
    (call_meets F.slot_int_rmul (typeIs_int s x u) F.entry_int_rmul (F.args_int_rmul_2 _ _) (lm_int_rmul_list_any x u l vs k none #[])
      ⟨hl, rfl, ⟨_, hl, rfl⟩, call_meets F.slot_list_mul ⟨_, hl, rfl⟩ F.entry_list_mul (F.args_list_mul_2 _ _)
        (lm_list_mul_any l vs k none #[] x u (by simp [Builtin.List.listFitsIndex]; lia) (by lia) (by simp [Builtin.List.listTooLong, sizeLine]; lia))
        ⟨hl, ?_⟩⟩)
  rw [listMul_foldl_if]
  exact h

theorem mkL_some {xs : List PV} {r : R} (h : mkL xs = some r) : xs.length ≤ 1048576 ∧ r = (.list xs, .new) := by
  unfold mkL bigL at h
  split at h
  · cases h; exact ⟨by assumption, rfl⟩
  · cases h

theorem bin_ok {op : Operator} {t u r : PV} {f : Fl} {a b : Value} (e : binPV op t u = some (r, f)) (ha : Read prog w P s.heap a t) (hb : Read prog w P s.heap b u) (hP : ∀ a ∈ P, ∃ o, s.heap.get? a = some o) :
    wpAny (model prog w) A (binaryOp op a b) (Gives prog w s P r f) E s := by
  unfold binPV at e
  split at e
  · split at e
    · -- Add int
      obtain ⟨k, rfl⟩ := ha.int; obtain ⟨l, rfl⟩ := hb.int
      cases e
      exact wpAny_add_int (gives_int (step_toks _ _))
    · -- Add list
      rename_i xs ys
      obtain ⟨l, vs, n, rfl, h1, h2⟩ := ha.list; obtain ⟨l', vs', n', rfl, h1', h2'⟩ := hb.list
      obtain ⟨hz, er⟩ := mkL_some e
      cases er
      rw [List.length_append] at hz
      have z1 := h2.length; have z2 := h2'.length
      rw [Array.length_toList] at z1 z2
      refine PySem.P.add_list h1 h1' ?_ (by rw [sizeLine_val]; lia)
      refine gives_newList ?_ hP
      rw [Array.toList_append]; exact h2.append h2'
    · -- Add str
      obtain ⟨k, rfl⟩ := ha.str; obtain ⟨l, rfl⟩ := hb.str
      split at e
      · rename_i hz
        cases e
        rw [bigL_val] at hz
        exact PyProof.Rows.add_str (fun t' tk => gives_str (step_toks _ _)) (by rw [sizeLine_val]; lia)
      · cases e
    · cases e
  · split at e
    · obtain ⟨k, rfl⟩ := ha.int; obtain ⟨l, rfl⟩ := hb.int
      cases e
      exact PyProof.Rows.sub_int' (gives_int (step_toks _ _))
    · cases e
  · split at e
    · obtain ⟨k, rfl⟩ := ha.int; obtain ⟨l, rfl⟩ := hb.int
      split at e
      · rename_i hz
        cases e
        rw [Bool.and_eq_true] at hz
        have z := small_lt hz.1
        exact PySem.P.mul_int (gives_int (step_toks _ _)) (IntMulOk.of_left (intBits_le_64 (by lia) (by lia)))
      · cases e
    · -- list * int
      rename_i xs n
      obtain ⟨l, vs, m, rfl, h1, h2⟩ := ha.list; obtain ⟨k, rfl⟩ := hb.int
      split at e
      · rename_i hz
        simp only [Bool.and_eq_true, decide_eq_true_eq] at hz
        have hz3 : xs.length ≤ 1048576 := hz.2
        obtain ⟨hl, er⟩ := mkL_some e
        cases er
        have z1 := h2.length
        rw [Array.length_toList] at z1
        have hl' : vs.size * n.toNat ≤ 1048576 := by
          have : (List.replicate n.toNat xs).flatten.length = n.toNat * xs.length := by simp [List.length_flatten]
          rw [this] at hl; rw [z1, Nat.mul_comm]; exact hl
        refine list_mul_any h1 hz.1.1 hz.1.2 (by lia) hl' (gives_newList ?_ hP)
        exact h2.replicate _
      · cases e
    · cases e
  · split at e
    · obtain ⟨k, rfl⟩ := ha.int; obtain ⟨l, rfl⟩ := hb.int
      split at e
      · rename_i hz
        cases e
        simp only [Bool.and_eq_true, decide_eq_true_eq] at hz
        exact PyProof.Rows.floordiv_int hz.1 (gives_int (step_toks _ _)) (Or.inl (PyProof.noPylong_small hz.2))
      · cases e
    · cases e
  · split at e
    · obtain ⟨k, rfl⟩ := ha.int; obtain ⟨l, rfl⟩ := hb.int
      split at e
      · rename_i hz
        cases e
        simp only [decide_eq_true_eq] at hz
        exact PyProof.Rows.mod_int' hz (gives_int (step_toks _ _))
      · cases e
    · cases e
  · split at e
    · obtain ⟨k, rfl⟩ := ha.int; obtain ⟨l, rfl⟩ := hb.int
      split at e
      · rename_i hz
        cases e
        simp only [Bool.and_eq_true, decide_eq_true_eq] at hz
        have z := small_lt hz.2
        exact PyProof.Rows.pow_int_small hz.1.1 (by lia) (by lia) (gives_int (step_toks _ _))
      · cases e
    · cases e
  · cases e


theorem cmpOk_of {d : PyData} (h : cmpOk d = true) : d.canLay0 = true ∧ d.depth ≤ 50 := by
  unfold cmpOk at h
  simpa using h

theorem eq_ok {t u : PV} {r : Bool} {a b : Value} {n : Nat} (R : Room A n) (e : eqPV t u = some r) (ha : Read prog w P s.heap a t) (hb : Read prog w P s.heap b u) {Q : Value → Shared → Prop} (hQ : Q (.bool r) s) :
    wpAny (model prog w) A (compareOp .Eq a b) Q E s := by
  unfold eqPV at e
  split at e
  · rename_i d1 d2 e1 e2
    split at e
    · rename_i hc
      cases e
      rw [Bool.and_eq_true] at hc
      obtain ⟨as, ra⟩ := ha.reads e1
      obtain ⟨bs, rb⟩ := hb.reads e2
      have c1 := cmpOk_of hc.1; have c2 := cmpOk_of hc.2
      refine PySem.SeqAt.compareEq_reads ra rb c1.1 c2.1 ?_ hQ
      have := R.un; have : min d1.depth d2.depth ≤ 50 := Nat.le_trans (Nat.min_le_left _ _) c1.2
      lia
    · cases e
  · cases e

theorem ne_ok {t u : PV} {r : Bool} {a b : Value} {n : Nat} (R : Room A n) (e : eqPV t u = some r) (ha : Read prog w P s.heap a t) (hb : Read prog w P s.heap b u) {Q : Value → Shared → Prop} (hQ : Q (.bool (!r)) s) :
    wpAny (model prog w) A (compareOp .NotEq a b) Q E s := by
  unfold eqPV at e
  split at e
  · rename_i d1 d2 e1 e2
    split at e
    · rename_i hc
      cases e
      rw [Bool.and_eq_true] at hc
      obtain ⟨as, ra⟩ := ha.reads e1
      obtain ⟨bs, rb⟩ := hb.reads e2
      have c1 := cmpOk_of hc.1; have c2 := cmpOk_of hc.2
      refine PySem.SeqAt.compareNe_reads ra rb c1.1 c2.1 ?_ hQ
      have := R.un; have : min d1.depth d2.depth ≤ 50 := Nat.le_trans (Nat.min_le_left _ _) c1.2
      lia
    · cases e
  · cases e

theorem in_parts {x t : PV} {r : Bool} (e : inPV x t = some r) : ∃ xs bs d, t = .list xs ∧ toPys xs = some bs ∧ toPy x = some d ∧ PyData.canLayAll0 bs = true ∧ PyData.depthAll bs ≤ 50 ∧ d.canLay0 = true ∧ r = bs.any fun y => PyData.eqv y d := by
  unfold inPV at e
  split at e
  · rename_i xs
    split at e
    · rename_i bs d e1 e2
      split at e
      · rename_i hc
        cases e
        rw [Bool.and_eq_true] at hc
        have c1 := cmpOk_of hc.1; have c2 := cmpOk_of hc.2
        have c3 : PyData.canLayAll0 bs = true := by have := c1.1; unfold PyData.canLay0 at this; exact this
        have c4 : PyData.depthAll bs + 1 ≤ 50 := by have := c1.2; unfold PyData.depth at this; exact this
        exact ⟨xs, bs, d, rfl, e1, e2, c3, by lia, c2.1, rfl⟩
      · cases e
    · cases e
  · cases e

theorem in_ok {x t : PV} {r : Bool} {a b : Value} {n : Nat} (R : Room A n) (e : inPV x t = some r) (ha : Read prog w P s.heap a x) (hb : Read prog w P s.heap b t) {Q : Value → Shared → Prop} (hQ : Q (.bool r) s) :
    wpAny (model prog w) A (compareOp .In a b) Q E s := by
  obtain ⟨xs, bs, d, rfl, e1, e2, c1, c2, c3, rfl⟩ := in_parts e
  obtain ⟨as, ra⟩ := ha.reads e2
  obtain ⟨cs, rb⟩ := hb.reads (d := .list bs) (by unfold toPy; rw [e1]; rfl)
  refine PySem.SeqAt.in_list_reads rb ra c1 c3 ?_ hQ
  have := R.un; have : min (PyData.depthAll bs) d.depth ≤ 50 := Nat.le_trans (Nat.min_le_left _ _) c2
  lia
theorem notIn_ok {x t : PV} {r : Bool} {a b : Value} {n : Nat} (R : Room A n) (e : inPV x t = some r) (ha : Read prog w P s.heap a x) (hb : Read prog w P s.heap b t) {Q : Value → Shared → Prop} (hQ : Q (.bool (!r)) s) :
    wpAny (model prog w) A (compareOp .NotIn a b) Q E s := by
  obtain ⟨xs, bs, d, rfl, e1, e2, c1, c2, c3, rfl⟩ := in_parts e
  obtain ⟨as, ra⟩ := ha.reads e2
  obtain ⟨cs, rb⟩ := hb.reads (d := .list bs) (by unfold toPy; rw [e1]; rfl)
  refine PySem.SeqAt.notIn_list_reads rb ra c1 c3 ?_ hQ
  have := R.un; have : min (PyData.depthAll bs) d.depth ≤ 50 := Nat.le_trans (Nat.min_le_left _ _) c2
  lia

theorem is_ok {t u : PV} {r : Bool} {a b : Value} (e : isPV t u = some r) (ha : Read prog w P s.heap a t) (hb : Read prog w P s.heap b u) : plainIs a b = true ∧ (a == b) = r := by
  unfold isPV at e
  split at e
  · cases e; have h1 := ha.bool; have h2 := hb.bool; subst h1 h2
    rename_i x y
    exact ⟨rfl, by cases x <;> cases y <;> rfl⟩
  · cases e; have h1 := ha.none; have h2 := hb.none; subst h1 h2; exact ⟨rfl, rfl⟩
  · cases e; obtain ⟨k, rfl⟩ := ha.int; have h2 := hb.bool; subst h2; exact ⟨rfl, by simp⟩
  · cases e; obtain ⟨l, vs, n, rfl, h1, h2⟩ := ha.list; have h2 := hb.none; subst h2; exact ⟨rfl, by simp⟩
  · cases e

theorem cmp_ok {op : CmpOp} {t u : PV} {r : Bool} {a b : Value} {n : Nat} (R : Room A n) (e : cmpPV op t u = some r) (ha : Read prog w P s.heap a t) (hb : Read prog w P s.heap b u) {Q : Value → Shared → Prop} (hQ : Q (.bool r) s) :
    wpAny (model prog w) A (compareOp op a b) Q E s := by
  unfold cmpPV at e
  split at e
  · exact eq_ok R e ha hb hQ
  · obtain ⟨x, e1, rfl⟩ := Option.map_eq_some_iff.mp e; exact ne_ok R e1 ha hb hQ
  · cases e; obtain ⟨k, rfl⟩ := ha.int; obtain ⟨l, rfl⟩ := hb.int; exact PySem.P.lt_int hQ
  · cases e; obtain ⟨k, rfl⟩ := ha.int; obtain ⟨l, rfl⟩ := hb.int; exact PySem.P.le_int hQ
  · cases e; obtain ⟨k, rfl⟩ := ha.int; obtain ⟨l, rfl⟩ := hb.int; exact PySem.P.gt_int hQ
  · cases e; obtain ⟨k, rfl⟩ := ha.int; obtain ⟨l, rfl⟩ := hb.int; exact PySem.P.ge_int hQ
  · have z := is_ok e ha hb; refine wpAny_is_plain z.1 ?_; rw [z.2]; exact hQ
  · obtain ⟨x, e1, rfl⟩ := Option.map_eq_some_iff.mp e; have z := is_ok e1 ha hb; refine wpAny_isNot_plain z.1 ?_; rw [z.2]; exact hQ
  · exact in_ok R e ha hb hQ
  · obtain ⟨x, e1, rfl⟩ := Option.map_eq_some_iff.mp e; exact notIn_ok R e1 ha hb hQ
  · cases e
end Mine


namespace Mine
variable {prog : Program} {w : World} {A : Around} {E : Value → Shared → Prop} {s : Shared} {P : List Addr}

theorem Gives.rep {t : PV} {v : Value} {s' : Shared} (h : Step s s') (r : Rep prog w (view s'.heap P) v t) : Gives prog w s P t .frz v s' := ⟨h, r⟩

theorem seqIndex_nat {i : Int} {n : Nat} (h0 : 0 ≤ i) (h1 : i.toNat < n) : seqIndex? i n = some i.toNat := by
  unfold seqIndex?
  have a : ¬ i < 0 := by lia
  simp only [a, if_false]
  have b : (decide (0 ≤ i) && decide (i < (n : Int))) = true := by simp; lia
  simp only [b, if_true]

theorem dict_at {H : View} : ∀ {kvs : List (Int × Value)} {xs : List PV} {k : Int} {t : PV}, Reps prog w H (kvs.map (·.2)) xs → ((kvs.map (·.1)).zip xs).lookup k = some t → ∃ v, valueAt kvs k = some v ∧ Rep prog w H v t
  | [], xs, k, t, _, e => by simp at e
  | (i, v) :: kvs, [], k, t, _, e => by simp at e
  | (i, v) :: kvs, x :: xs, k, t, h, e => by
    unfold Reps at h
    obtain ⟨v', r, e1, h1, h2⟩ := h
    simp only [List.map_cons, List.cons.injEq] at e1
    obtain ⟨rfl, rfl⟩ := e1
    simp only [List.map_cons, List.zip_cons_cons, List.lookup_cons] at e
    by_cases hk : k = i
    · subst hk
      simp at e
      subst e
      exact ⟨v, by simp [valueAt], h1⟩
    · have hb : (k == i) = false := by simpa using hk
      rw [hb] at e
      obtain ⟨v', e', h'⟩ := dict_at h2 e
      refine ⟨v', ?_, h'⟩
      unfold valueAt at e' ⊢
      rw [List.find?_cons]
      have : decide (i = k) = false := by simpa using fun q => hk q.symm
      simp only [this]
      exact e'

theorem idx_ok {t u r : PV} {a b : Value} (e : idxPV t u = some r) (ha : Read prog w P s.heap a t) (hb : Read prog w P s.heap b u) :
    ∃ T id, typeLookup (.type T) "__getitem__" = pure (some (.builtin id)) ∧ s.TypeIs a T ∧ wpAny (model prog w) A (getItem a b) (Gives prog w s P r .frz) E s := by
  unfold idxPV at e
  split at e
  · -- dict
    obtain ⟨l, kvs, rfl, hs, hd, rfl, hr⟩ := ha.dict; obtain ⟨k, rfl⟩ := hb.int
    obtain ⟨v, e1, hv⟩ := dict_at hr e
    refine ⟨"dict", _, slot_dict_getitem.lookup, hd.typeIs, ?_⟩
    exact wpAny_getItem_of (intKind_is prog w _ _) hd.mapOf e1 (Gives.rep (step_toks _ _) hv)
  · -- list
    obtain ⟨l, vs, n, rfl, h1, h2⟩ := ha.list; obtain ⟨k, rfl⟩ := hb.int
    rename_i xs i
    have hl : s.heap.IsList l vs := ⟨_, h1, rfl, n, rfl⟩
    refine ⟨"list", _, list_getitem_lookup, hl.typeIs, ?_⟩
    split at e
    · rename_i h0
      split at e
      · rename_i hi
        obtain ⟨v, e1, hv⟩ := h2.get e
        exact wpAny_getItem_list hl h0 (by lia) (by rw [← Array.getElem?_toList]; exact e1) (Gives.rep (Step.refl _) hv)
      · cases e
    · split at e
      · rename_i h0 hk
        subst hk
        rw [List.getLast?_eq_getElem?] at e
        obtain ⟨v, e1, hv⟩ := h2.get e
        have hz : xs.length - 1 < xs.length := by
          obtain ⟨q, _⟩ := List.getElem?_eq_some_iff.mp e; exact q
        have z := h2.length
        rw [Array.length_toList] at z
        refine wpAny_getItem_list_neg hl (by lia) (by lia) (by lia) ?_ (Gives.rep (Step.refl _) hv)
        rw [← Array.getElem?_toList, z]
        have : ((-1 : Int) + (xs.length : Int)).toNat = xs.length - 1 := by lia
        rw [this]; exact e1
      · cases e
  · -- tuple
    obtain ⟨l, vs, n, rfl, h1, h2⟩ := ha.tuple; obtain ⟨k, rfl⟩ := hb.int
    rename_i xs i
    split at e
    · rename_i hz
      simp only [Bool.and_eq_true, decide_eq_true_eq] at hz
      obtain ⟨v, e1, hv⟩ := h2.get e
      have hlt : i.toNat < vs.toList.length := (List.getElem?_eq_some_iff.mp e1).1
      rw [Array.length_toList] at hlt
      refine ⟨"tuple", _, PySem.F.slot_tuple_getitem.lookup, ⟨_, h1, rfl⟩, PySem.P.getItem_tuple (k := i.toNat) h1 (by lia) (by lia) ?_ (by rw [← Array.getElem?_toList]; exact e1) (Gives.rep (Step.refl _) hv)⟩
      exact seqIndex_nat hz.1 hlt
    · cases e
  · -- bytes
    obtain ⟨k, rfl⟩ := ha.bytes; obtain ⟨l, rfl⟩ := hb.int
    rename_i bs i
    split at e
    · rename_i hz
      simp only [Bool.and_eq_true, decide_eq_true_eq] at hz
      obtain ⟨x, e1, rfl⟩ := Option.map_eq_some_iff.mp e
      obtain ⟨hlt, e2⟩ := List.getElem?_eq_some_iff.mp e1
      refine ⟨"bytes", _, PySem.W.FB.slot_bytes_getitem.lookup, rfl, ?_⟩
      refine PySem.W.getItem_bytes (by lia) hz.1 (by lia) ?_
      have : bs.getD i.toNat 0 = x := by rw [List.getD_eq_getElem?_getD, e1]; rfl
      rw [this]
      exact gives_int (step_toks _ _)
    · cases e
  · -- str
    obtain ⟨k, rfl⟩ := ha.str; obtain ⟨l, rfl⟩ := hb.int
    rename_i x i
    split at e
    · rename_i hz
      simp only [Bool.and_eq_true, decide_eq_true_eq] at hz
      obtain ⟨c, e1, rfl⟩ := Option.map_eq_some_iff.mp e
      have hlt : i.toNat < x.cps.size := (Array.getElem?_eq_some_iff.mp e1).1
      refine ⟨"str", _, PySem.F.slot_str_getitem.lookup, rfl, PySem.P.getItem_str (c := c) (by simp; lia) ?_ (gives_str (step_toks _ _))⟩
      rw [seqIndex_nat hz.1 (show i.toNat < x.length from hlt)]
      exact e1
    · cases e
  · cases e
end Mine


namespace Mine
variable {prog : Program} {w : World} {A : Around} {E : Value → Shared → Prop} {s : Shared} {P : List Addr}

/-- values that can be read, one by one -/
noncomputable def ReadL (prog : Program) (w : World) (P : List Addr) (h : Heap) : List Value → List PV → Prop
  | [], [] => True
  | v :: vs, t :: ts => Read prog w P h v t ∧ ReadL prog w P h vs ts
  | _, _ => False
theorem ints_of {H : View} : ∀ {vs : List Value} {xs : List PV} {ns : List Int}, Reps prog w H vs xs → intsOf xs = some ns → IntsAre vs ns
  | _, [], _, h, e => by unfold Reps at h; subst h; unfold intsOf at e; cases e; exact .nil
  | _, x :: xs, _, h, e => by
    unfold Reps at h
    obtain ⟨v, r, rfl, h1, h2⟩ := h
    unfold intsOf at e
    split at e
    · cases ‹_ :: _ = []›
    · rename_i i r' hx
      cases hx
      obtain ⟨ns, e1, rfl⟩ := Option.map_eq_some_iff.mp e
      unfold Rep at h1
      obtain ⟨k, rfl⟩ := h1
      exact .cons _ _ (ints_of h2 e1)
    · cases e
theorem strs_of {H : View} : ∀ {vs : List Value} {xs : List PV} {ns : List Str}, Reps prog w H vs xs → strsOf xs = some ns → StrsAre vs ns
  | _, [], _, h, e => by unfold Reps at h; subst h; unfold strsOf at e; cases e; exact .nil
  | _, x :: xs, _, h, e => by
    unfold Reps at h
    obtain ⟨v, r, rfl, h1, h2⟩ := h
    unfold strsOf at e
    split at e
    · cases ‹_ :: _ = []›
    · rename_i i r' hx
      cases hx
      obtain ⟨ns, e1, rfl⟩ := Option.map_eq_some_iff.mp e
      unfold Rep at h1
      obtain ⟨k, rfl⟩ := h1
      exact .cons _ _ (strs_of h2 e1)
    · cases e
theorem foldl_max_spec : ∀ (l : List Int) (x : Int), (l.foldl max x = x ∨ l.foldl max x ∈ l) ∧ x ≤ l.foldl max x ∧ ∀ a ∈ l, a ≤ l.foldl max x
  | [], x => ⟨.inl rfl, Int.le_refl _, fun _ h => nomatch h⟩
  | y :: l, x => by
    obtain ⟨h1, h2, h3⟩ := foldl_max_spec l (max x y)
    rw [List.foldl_cons]
    have m1 : x ≤ max x y := Int.le_max_left ..
    have m2 : y ≤ max x y := Int.le_max_right ..
    refine ⟨?_, Int.le_trans m1 h2, fun a ha => ?_⟩
    · rcases h1 with h1 | h1
      · rw [h1]
        rcases Int.le_total x y with q | q
        · right; rw [Int.max_eq_right q]; exact .head _
        · left; exact Int.max_eq_left q
      · right; exact .tail _ h1
    · rcases List.mem_cons.mp ha with rfl | ha
      · exact Int.le_trans m2 h2
      · exact h3 a ha
theorem maxL_spec {l : List Int} {m : Int} (h : maxL l = some m) : m ∈ l ∧ ∀ a ∈ l, a ≤ m := by
  cases l with
  | nil => cases h
  | cons x r =>
    unfold maxL at h
    cases h
    obtain ⟨h1, h2, h3⟩ := foldl_max_spec r x
    refine ⟨?_, fun a ha => ?_⟩
    · rcases h1 with h1 | h1
      · rw [h1]; exact .head _
      · exact .tail _ h1
    · rcases List.mem_cons.mp ha with rfl | ha
      · exact h2
      · exact h3 a ha

/-- the builtin's value -/
noncomputable def biV : BI → Value
  | .len => .builtin "len"
  | .range1 => .type "range"
  | .range2 => .type "range"
  | .min2 => .builtin "min"
  | .max1 => .builtin "max"
  | .sum1 => .builtin "sum"
  | .isStr => .builtin "isinstance"
  | .isList => .builtin "isinstance"
  | .tuple1 => .type "tuple"
  | .bytes1 => .type "bytes"
  | .chr1 => .builtin "chr"

theorem readL1 {h : Heap} {vs : List Value} {t : PV} (x : ReadL prog w P h vs [t]) : ∃ v, vs = [v] ∧ Read prog w P h v t := by
  cases vs with
  | nil => exact x.elim
  | cons v r => cases r with
    | nil => exact ⟨v, rfl, x.1⟩
    | cons _ _ => exact x.2.elim
theorem readL2 {h : Heap} {vs : List Value} {t u : PV} (x : ReadL prog w P h vs [t, u]) : ∃ v v', vs = [v, v'] ∧ Read prog w P h v t ∧ Read prog w P h v' u := by
  cases vs with
  | nil => exact x.elim
  | cons v r => obtain ⟨v', rfl, h'⟩ := readL1 x.2; exact ⟨v, v', rfl, x.1, h'⟩

theorem len_ok {t : PV} {n : Int} {v : Value} (e : lenPV t = some n) (hn : n ≤ 1048576) (hv : Read prog w P s.heap v t) : wpAny (model prog w) A (call (.builtin "len") [v]) (Gives prog w s P (.int n) .frz) E s := by
  cases t with
  | list xs =>
    obtain ⟨l, vs, k, rfl, h1, h2⟩ := hv.list
    have e' : (xs.length : Int) = n := by unfold lenPV seqItems at e; simpa using e
    have z := h2.length; rw [Array.length_toList] at z
    subst e'
    refine call_len_list (items := vs) ⟨_, h1, rfl, k, rfl⟩ (by lia) ?_
    rw [z]; exact gives_int (step_toks _ _)
  | tuple xs =>
    obtain ⟨l, vs, k, rfl, h1, h2⟩ := hv.tuple
    have e' : (xs.length : Int) = n := by unfold lenPV seqItems at e; simpa using e
    have z := h2.length; rw [Array.length_toList] at z
    subst e'
    refine PySem.P.len_tuple (items := vs) h1 (by lia) ?_
    rw [z]; exact gives_int (step_toks _ _)
  | dict ks xs =>
    obtain ⟨l, kvs, rfl, hs, hd, rfl, hr⟩ := hv.dict
    have e' : (kvs.length : Int) = n := by unfold lenPV at e; simpa using e
    subst e'
    exact call_len_dict hs hd (by lia) (gives_int (step_toks _ _))
  | bytes b =>
    obtain ⟨k, rfl⟩ := hv.bytes
    have e' : (b.length : Int) = n := by unfold lenPV seqItems at e; simpa using e
    subst e'
    refine PySem.W.len_bytes (b := b.toArray) (by simp; lia) ?_
    rw [List.size_toArray]; exact gives_int (step_toks _ _)
  | str x =>
    obtain ⟨k, rfl⟩ := hv.str
    have e' : (x.length : Int) = n := by unfold lenPV seqItems at e; simpa [Str.length] using e
    subst e'
    exact PySem.P.len_str (by lia) (gives_int (step_toks _ _))
  | _ => unfold lenPV seqItems at e; cases e

theorem bi_ok {b : BI} {ts : List PV} {r : PV} {f : Fl} {vs : List Value} {n : Nat} (R : Room A n) (e : biPV b ts = some (r, f)) (hv : ReadL prog w P s.heap vs ts) (hP : ∀ a ∈ P, ∃ o, s.heap.get? a = some o) (h1 : b ≠ .isStr) (h2 : b ≠ .isList) :
    wpAny (model prog w) A (call (biV b) vs) (Gives prog w s P r f) E s := by
  unfold biPV at e
  split at e
  · split at e
    · -- len
      obtain ⟨v, rfl, hv1⟩ := readL1 hv; replace hv := hv1
      split at e
      · split at e
        · cases e; exact len_ok (by assumption) (by assumption) hv
        · cases e
      · cases e
    · cases e
  · split at e
    · -- range1
      obtain ⟨v, rfl, hv1⟩ := readL1 hv; replace hv := hv1
      obtain ⟨k, rfl⟩ := hv.int
      split at e
      · rename_i hb
        cases e
        refine call_range_1 (Gives.rep ⟨Keeps.push _ _, rfl, rfl⟩ ?_)
        unfold Rep
        refine ⟨_, _, _, _, rfl, view_of (Heap.get?_push_size _ rfl) fun q => ?_, by decide, hb⟩
        obtain ⟨o, ho⟩ := hP _ q; exact absurd (Heap.lt_size ho) (Nat.lt_irrefl _)
      · cases e
    · cases e
  · split at e
    · -- range2
      obtain ⟨v, v', rfl, hv1, hv'⟩ := readL2 hv; replace hv := hv1
      obtain ⟨k, rfl⟩ := hv.int; obtain ⟨k', rfl⟩ := hv'.int
      split at e
      · rename_i hb
        cases e
        rw [Bool.and_eq_true] at hb
        refine call_range_2 (Gives.rep ⟨Keeps.push _ _, rfl, rfl⟩ ?_)
        unfold Rep
        refine ⟨_, _, _, _, rfl, view_of (Heap.get?_push_size _ rfl) fun q => ?_, hb.1, hb.2⟩
        obtain ⟨o, ho⟩ := hP _ q; exact absurd (Heap.lt_size ho) (Nat.lt_irrefl _)
      · cases e
    · cases e
  · split at e
    · -- min2
      obtain ⟨v, v', rfl, hv1, hv'⟩ := readL2 hv; replace hv := hv1
      obtain ⟨k, rfl⟩ := hv.int; obtain ⟨k', rfl⟩ := hv'.int
      cases e
      refine min_two_ints R.hd fun h' tk hk => ?_
      split <;> exact gives_int (step_heap hk)
    · cases e
  · split at e
    · -- max1
      obtain ⟨v, rfl, hv1⟩ := readL1 hv; replace hv := hv1
      obtain ⟨l, vs, k, rfl, h1, h2⟩ := hv.list
      split at e
      · rename_i is ei
        obtain ⟨m, em, er⟩ := Option.map_eq_some_iff.mp e
        cases er
        have hi := ints_of h2 ei
        obtain ⟨xs, ex⟩ := hi.allInts.items
        have hns : is = xs.toList.map (·.1) := by
          have q := hi.numsOf
          rw [← q, ← nums_intItems]
          rw [show vs.toList.toArray = vs from rfl] at ex
          rw [← ex]
        obtain ⟨hm1, hm2⟩ := maxL_spec em
        have hsz : 0 < xs.size := by
          have h3 : 0 < is.length := List.length_pos_of_mem hm1
          rw [hns, List.length_map, Array.length_toList] at h3; exact h3
        rw [show vs.toList.toArray = vs from rfl] at ex
        have hl : s.heap.IsList l (intItems xs) := ⟨_, h1, rfl, k, by rw [ex]⟩
        refine max_intList R.hd hl hsz fun v h' tk hv hk => ?_
        obtain ⟨t, rfl⟩ := intItems_at hv
        obtain ⟨q1, q2⟩ := argBest_gt (numAt xs) (xs.size - 1)
        have : numAt xs (argBest (fun i j => decide (numAt xs i > numAt xs j)) (xs.size - 1)) = m := by
          apply Int.le_antisymm
          · apply hm2; rw [hns, numAt_eq]; exact getD_mem (by rw [List.length_map, Array.length_toList]; lia)
          · rw [hns] at hm1
            obtain ⟨j, hj, rfl⟩ := mem_getD hm1
            rw [List.length_map, Array.length_toList] at hj
            rw [← numAt_eq]; exact q2 j (by lia)
        rw [this]
        exact gives_int (step_heap hk)
      · cases e
    · cases e
  · split at e
    · -- sum1
      obtain ⟨v, rfl, hv1⟩ := readL1 hv; replace hv := hv1
      obtain ⟨l, vs, k, rfl, h1, h2⟩ := hv.list
      split at e
      · rename_i is ei
        cases e
        have hi := ints_of h2 ei
        obtain ⟨xs, hx⟩ := hi.allInts.items
        have hn : numsOf vs.toList = is := hi.numsOf
        rw [show vs.toList.toArray = vs from rfl] at hx
        have hl : s.heap.IsList l (intItems xs) := ⟨_, h1, rfl, k, by rw [hx]⟩
        rw [hx, nums_intItems] at hn
        refine sum_intListG R.hd hl fun h' tk t' hk => ?_
        rw [preSum_eq, List.take_of_length_le (by simp), hn]
        exact gives_int (step_heap hk)
      · cases e
    · cases e
  · exact absurd rfl h1
  · exact absurd rfl h2
  · split at e
    · -- tuple1
      obtain ⟨v, rfl, hv1⟩ := readL1 hv; replace hv := hv1
      obtain ⟨l, vs, k, rfl, h1, h2⟩ := hv.list
      rename_i xs
      split at e
      · rename_i hz
        cases e
        have z := h2.length; rw [Array.length_toList] at z
        rw [bigL_val] at hz
        refine call_tuple_list (items := vs) ⟨_, h1, rfl, k, rfl⟩ (fun h' hk => ?_) (by rw [sizeLine_val]; lia)
        have K : Keeps s.heap (h'.push { cls := .type "tuple", data := .seq vs }) := Keeps.trans hk (Keeps.push _ _)
        refine Gives.rep ⟨K, rfl, rfl⟩ ?_
        unfold Rep
        refine ⟨_, vs, 0, rfl, view_of (Heap.get?_push_size _ rfl) fun q => ?_, Reps.mono (K.sub P) _ h2⟩
        obtain ⟨o, ho⟩ := hP _ q; exact absurd (Heap.lt_size (hk _ _ ho)) (Nat.lt_irrefl _)
      · cases e
    · cases e
  · split at e
    · -- bytes1
      obtain ⟨v, rfl, hv1⟩ := readL1 hv; replace hv := hv1
      obtain ⟨l, vs, k, rfl, h1, h2⟩ := hv.list
      split at e
      · rename_i is ei
        split at e
        · rename_i hz
          cases e
          simp only [Bool.and_eq_true, decide_eq_true_eq, List.all_eq_true] at hz
          have hi := ints_of h2 ei
          have z := h2.length; rw [Array.length_toList] at z
          refine call_bytes_ints (vs := vs.toList) ⟨_, h1, rfl, k, rfl⟩ hi hz.1 (by rw [sizeLine_val, Array.length_toList]; lia) R.hd fun h' t k' hk => ?_
          refine Gives.rep (step_heap hk) ?_
          unfold Rep
          exact ⟨t, rfl⟩
        · cases e
      · cases e
    · cases e
  · split at e
    · -- chr1
      obtain ⟨v, rfl, hv1⟩ := readL1 hv; replace hv := hv1
      obtain ⟨k, rfl⟩ := hv.int
      split at e
      · rename_i hz
        cases e
        simp only [Bool.and_eq_true, decide_eq_true_eq] at hz
        exact chr_of_range hz.1 (by lia) (gives_str (step_toks _ _))
      · cases e
    · cases e
end Mine


namespace Mine
variable {prog : Program} {w : World} {A : Around} {E : Value → Shared → Prop} {s : Shared} {P Mu : List Addr}

/-- an iterator that has xs before it -/
inductive It (prog : Program) (w : World) (Mu P : List Addr) (h : Heap) (it : Addr) : List PV → Prop
  | list {l : Addr} {vs : Array Value} {n i : Nat} {xs : List PV} : h.IsListIter it l i → h.get? l = some (listO vs n) → l ≠ it → l ∉ Mu → Reps prog w (view h P) (vs.toList.drop i) xs → It prog w Mu P h it xs
  | tuple {l : Addr} {vs : Array Value} {n i : Nat} {xs : List PV} : h.IsTupleIter it l i → h.get? l = some (tupO vs n) → l ≠ it → l ∉ Mu → Reps prog w (view h P) (vs.toList.drop i) xs → It prog w Mu P h it xs
  | range {x : Int} {left : Nat} {xs : List PV} : IsRangeIter h it x left 1 → xs = ((List.range left).map fun (j : Nat) => PV.int (x + (j : Int))) → It prog w Mu P h it xs
  | dict {d : Addr} {kvs : List (Int × Value)} {i ep : Nat} {xs : List PV} : h.IsKeyIter it d i kvs.length ep → h.DictAt (intKind prog w) d kvs ep → d ≠ it → d ∉ Mu → xs = (kvs.drop i).map (fun p => PV.int p.1) → It prog w Mu P h it xs

theorem drop_get {α : Type} {l : List α} {i : Nat} {x : α} {r : List α} (h : l.drop i = x :: r) : l[i]? = some x ∧ l.drop (i + 1) = r := by
  have h1 : (l.drop i)[0]? = some x := by rw [h]; rfl
  rw [List.getElem?_drop] at h1
  refine ⟨by simpa using h1, ?_⟩
  rw [← List.drop_drop, h]; rfl

theorem DictAt_off {h h' : Heap} {d : Addr} {kvs : List (Int × Value)} {ep : Nat} (x : h.DictAt (intKind prog w) d kvs ep) (k : ∀ o, h.get? d = some o → h'.get? d = some o) : h'.DictAt (intKind prog w) d kvs ep := by
  obtain ⟨o, es, h1, r⟩ := x
  exact ⟨o, es, k o h1, r⟩

theorem It.mono {h h' : Heap} {it : Addr} {xs : List PV} (x : It prog w Mu P h it xs) (k : KeepsOff Mu h h') (hm : ∀ a ∈ Mu, a ∈ P) (hi : it ∉ Mu) : It prog w Mu P h' it xs := by
  have sb : Sub (view h P) (view h' P) := by
    intro a o e
    exact view_of (k a o (fun q => view_not e (hm a q)) (view_get e)) (view_not e)
  cases x with
  | list h1 h2 h3 h4 h5 =>
    obtain ⟨o, a, b⟩ := h1
    exact .list ⟨o, k _ _ hi a, b⟩ (k _ _ h4 h2) h3 h4 (Reps.mono sb _ h5)
  | tuple h1 h2 h3 h4 h5 =>
    obtain ⟨o, a, b⟩ := h1
    exact .tuple ⟨o, k _ _ hi a, b⟩ (k _ _ h4 h2) h3 h4 (Reps.mono sb _ h5)
  | range h1 h2 => exact .range (k _ _ hi h1) h2
  | dict h1 h2 h3 h4 h5 =>
    obtain ⟨o, a, b⟩ := h1
    exact .dict ⟨o, k _ _ hi a, b⟩ (DictAt_off h2 fun o e => k _ _ h4 e) h3 h4 h5

theorem rangeSize_one (lo hi : Int) : Builtin.Range.rangeSize lo hi 1 = ((hi - lo).toNat : Int) := by
  unfold Builtin.Range.rangeSize
  simp
  split <;> lia

theorem fitsLong_of {i : Int} (h1 : -(2305843009213693952 : Int) ≤ i) (h2 : i ≤ 2305843009213693952) : Builtin.Range.rangeFitsLong i = true := by
  unfold Builtin.Range.rangeFitsLong
  simp
  lia

theorem small_range {lo hi : Int} (h1 : smallI lo = true) (h2 : smallI hi = true) : Builtin.Range.small lo hi 1 = true := by
  have a := small_lt h1; have b := small_lt h2
  unfold Builtin.Range.small
  rw [rangeSize_one, fitsLong_of (by lia) (by lia), fitsLong_of (i := hi) (by lia) (by lia), fitsLong_of (i := 1) (by lia) (by lia), fitsLong_of (i := ((hi - lo).toNat : Int)) (by lia) (by lia)]
  simp only [Bool.and_self, Bool.true_and, Bool.or_eq_true]
  right
  rw [if_pos (by decide)]
  exact fitsLong_of (by lia) (by lia)

/-- the start of an iteration; P lies in the old heap -/
theorem iter_start {u : PV} {xs : List PV} {v : Value} (e : itemsOf u = some xs) (hv : Read prog w P s.heap v u) (hP : ∀ a ∈ P, ∃ o, s.heap.get? a = some o) (hM : ∀ l, v = .ref l → l ∉ Mu) :
    wpAny (model prog w) A (pyIter v) (fun itv s' => itv = .ref s.heap.objs.size ∧ Step s s' ∧ (∃ o, s'.heap.get? s.heap.objs.size = some o) ∧ It prog w Mu (s.heap.objs.size :: P) s'.heap s.heap.objs.size xs ∧ ∃ o, s'.heap = s.heap.push o) E s := by
  have sb : ∀ o, Sub (view s.heap P) (view (s.heap.push o) (s.heap.objs.size :: P)) := by
    intro o a o' e
    refine view_of (Heap.get?_push_of_some _ (view_get e)) fun q => ?_
    rcases List.mem_cons.mp q with rfl | q
    · exact absurd (Heap.lt_size (view_get e)) (Nat.lt_irrefl _)
    · exact view_not e q
  unfold itemsOf at e
  split at e
  · cases e
    obtain ⟨l, vs, n, rfl, h1, h2⟩ := hv.list
    refine wpAny_pyIter_list (items := vs) ⟨_, h1, rfl, n, rfl⟩ ⟨rfl, step_push _ _, ⟨_, Heap.get?_push_size _ rfl⟩, ?_, _, rfl⟩
    exact .list ⟨_, Heap.get?_push_size _ rfl, rfl, rfl⟩ (Heap.get?_push_of_some _ h1) (Nat.ne_of_lt (Heap.lt_size h1)) (hM l rfl) (by simpa using Reps.mono (sb _) _ h2)
  · cases e
    obtain ⟨l, vs, n, rfl, h1, h2⟩ := hv.tuple
    refine wpAny_pyIter_tuple (items := vs) ⟨_, h1, rfl, n, rfl⟩ ⟨rfl, step_push _ _, ⟨_, Heap.get?_push_size _ rfl⟩, ?_, _, rfl⟩
    exact .tuple ⟨_, Heap.get?_push_size _ rfl, rfl, rfl⟩ (Heap.get?_push_of_some _ h1) (Nat.ne_of_lt (Heap.lt_size h1)) (hM l rfl) (by simpa using Reps.mono (sb _) _ h2)
  · cases e
    obtain ⟨l, t, u, k, rfl, h1, h2, h3⟩ := hv.range
    rename_i lo hi
    refine wpAny_pyIter_range h1 (small_range h2 h3) ⟨rfl, step_push _ _, ⟨_, Heap.get?_push_size _ rfl⟩, ?_, _, rfl⟩
    refine .range (x := lo) (left := (hi - lo).toNat) ?_ ?_
    · show Heap.get? _ _ = _
      rw [rangeSize_one]
      exact Heap.get?_push_size _ rfl
    · unfold rangeL; rw [List.map_map]; rfl
  · cases e
    obtain ⟨l, kvs, rfl, hs, hd, rfl, hr⟩ := hv.dict
    obtain ⟨ep, ha⟩ := hd.dictAt
    refine wpAny_pyIter_dict hs ha ⟨rfl, step_push _ _, ⟨_, Heap.get?_push_size _ rfl⟩, ?_, _, rfl⟩
    exact .dict (i := 0) ⟨_, Heap.get?_push_size _ rfl, rfl, rfl⟩ (ha.push _) (Nat.ne_of_lt ha.lt_size) (hM l rfl) (by simp)
  · cases e

theorem iter_next {it : Addr} {x : PV} {xs : List PV} (h : It prog w Mu P s.heap it (x :: xs)) (hi : it ∈ P) :
    wpAny (model prog w) A (pyNext (.ref it)) (fun r s' => ∃ v, r = some v ∧ Rep prog w (view s'.heap P) v x ∧ It prog w Mu P s'.heap it xs ∧ Heap.SameBut it s.heap s'.heap ∧ s'.gens = s.gens ∧ s'.os = s.os) E s := by
  have sb : ∀ h', Heap.SameBut it s.heap h' → Sub (view s.heap P) (view h' P) := fun h' k => (keepsOff_same k hi).sub
  generalize hy : x :: xs = ys at h
  cases h with
  | list h1 h2 h3 h4 h5 =>
    rename_i l vs n i
    subst hy
    unfold Reps at h5
    obtain ⟨v, r, e1, h6, h7⟩ := h5
    obtain ⟨e2, e3⟩ := drop_get e1
    refine wpAny_pyNext_list_item h1 (items := vs) ⟨_, h2, rfl, n, rfl⟩ (by rw [← Array.getElem?_toList]; exact e2) fun h' a b => ⟨v, rfl, Rep.mono (sb h' b) _ h6, ?_, b, rfl, rfl⟩
    exact .list a ((b.2 l h3).trans h2) h3 h4 (by rw [e3]; exact Reps.mono (sb h' b) _ h7)
  | tuple h1 h2 h3 h4 h5 =>
    rename_i l vs n i
    subst hy
    unfold Reps at h5
    obtain ⟨v, r, e1, h6, h7⟩ := h5
    obtain ⟨e2, e3⟩ := drop_get e1
    refine wpAny_pyNext_tuple_item h1 (items := vs) ⟨_, h2, rfl, n, rfl⟩ (by rw [← Array.getElem?_toList]; exact e2) fun h' a b => ⟨v, rfl, Rep.mono (sb h' b) _ h6, ?_, b, rfl, rfl⟩
    exact .tuple a ((b.2 l h3).trans h2) h3 h4 (by rw [e3]; exact Reps.mono (sb h' b) _ h7)
  | range h1 h2 =>
    rename_i x0 left
    subst hy
    cases left with
    | zero => simp at h2
    | succ m =>
      rw [List.range_succ_eq_map, List.map_cons, List.map_map] at h2
      simp only [List.cons.injEq] at h2
      obtain ⟨rfl, rfl⟩ := h2
      refine wpAny_pyNext_range_item h1 (by lia) fun h' a b => ⟨_, rfl, ?_, ?_, b, rfl, rfl⟩
      · unfold Rep; exact ⟨_, by simp; rfl⟩
      · refine .range (x := x0 + 1) (left := m) ?_ ?_
        · have e : ((m + 1 : Nat) : Int) - 1 = (m : Int) := by lia
          rw [e] at a; exact a
        · apply List.map_congr_left
          intro j _
          simp only [Function.comp]
          congr 1
          push_cast
          lia
  | dict h1 h2 h3 h4 h5 =>
    rename_i d kvs i ep
    subst hy
    cases hk : kvs.drop i with
    | nil => rw [hk] at h5; simp at h5
    | cons p r =>
      rw [hk] at h5
      simp only [List.map_cons, List.cons.injEq] at h5
      obtain ⟨rfl, rfl⟩ := h5
      obtain ⟨e2, e3⟩ := drop_get hk
      refine wpAny_pyNext_dict_item (k := p.1) (v := p.2) h1 h2 e2 fun key h' hkey a b => ⟨key, rfl, ?_, ?_, b, rfl, rfl⟩
      · obtain ⟨t, rfl⟩ := Value.isInt_shape hkey; unfold Rep; exact ⟨t, rfl⟩
      · exact .dict a (DictAt_off h2 fun o e => (b.2 d h3).trans e) h3 h4 (by rw [e3])

theorem iter_end {it : Addr} (hh : A.handled = none) (h : It prog w Mu P s.heap it []) :
    wpAny (model prog w) A (pyNext (.ref it)) (fun r s' => r = none ∧ Heap.ExtBut it s.heap s'.heap ∧ s'.gens = s.gens ∧ s'.os = s.os) E s := by
  generalize hy : ([] : List PV) = ys at h
  cases h with
  | list h1 h2 h3 h4 h5 =>
    rename_i l vs n i
    subst hy
    unfold Reps at h5
    refine wpAny_pyNext_list_end hh h1 (items := vs) ⟨_, h2, rfl, n, rfl⟩ ?_ fun h' a => ⟨rfl, a, rfl, rfl⟩
    rw [← Array.getElem?_toList]; exact List.getElem?_eq_none (List.drop_eq_nil_iff.mp h5)
  | tuple h1 h2 h3 h4 h5 =>
    rename_i l vs n i
    subst hy
    unfold Reps at h5
    refine wpAny_pyNext_tuple_end hh h1 (items := vs) ⟨_, h2, rfl, n, rfl⟩ ?_ fun h' a => ⟨rfl, a, rfl, rfl⟩
    rw [← Array.getElem?_toList]; exact List.getElem?_eq_none (List.drop_eq_nil_iff.mp h5)
  | range h1 h2 =>
    rename_i x0 left
    subst hy
    cases left with
    | zero => exact wpAny_pyNext_range_end hh h1 (by lia) fun h' a => ⟨rfl, a, rfl, rfl⟩
    | succ m => rw [List.range_succ_eq_map] at h2; simp at h2
  | dict h1 h2 h3 h4 h5 =>
    rename_i d kvs i ep
    subst hy
    have h5' : kvs.drop i = [] := by simpa using h5.symm
    refine wpAny_pyNext_dict_end hh h1 h2 ?_ fun h' a => ⟨rfl, a, rfl, rfl⟩
    exact List.getElem?_eq_none (List.drop_eq_nil_iff.mp h5')

/-- iter of an iterator (not of a dict) -/
theorem iter_again {it : Addr} {xs : List PV} (h : It prog w Mu P s.heap it xs) (hd : ∀ d i n ep, ¬ s.heap.IsKeyIter it d i n ep) {Q : Value → Shared → Prop} (hQ : Q (.ref it) s) :
    wpAny (model prog w) A (pyIter (.ref it)) Q E s := by
  cases h with
  | list h1 h2 h3 h4 h5 => exact wpAny_pyIter_listiter h1 hQ
  | tuple h1 h2 h3 h4 h5 => exact wpAny_pyIter_tupleiter h1 hQ
  | range h1 h2 => exact wpAny_pyIter_rangeiter h1 hQ
  | dict h1 h2 h3 h4 h5 => exact absurd h1 (hd _ _ _ _)
end Mine


namespace Mine

/-! the check: a term of the small language against the Python text -/
noncomputable abbrev Names := List (Str × NameKind)
noncomputable abbrev Ctx := List (Str × Nat)

noncomputable def okId (id : Str) : Bool := !(id == ("__debug__" : Str)) && !(id == ("__classdict__" : Str))
noncomputable def gOk (names : Names) (id : Str) : Bool := decide (names.lookup id = some .globalImplicit) && okId id

noncomputable def biName : BI → Str
  | .len => "len"
  | .range1 => "range"
  | .range2 => "range"
  | .min2 => "min"
  | .max1 => "max"
  | .sum1 => "sum"
  | .isStr => "isinstance"
  | .isList => "isinstance"
  | .tuple1 => "tuple"
  | .bytes1 => "bytes"
  | .chr1 => "chr"

noncomputable def GI : List (Str × Int) := [("ENDMARKER", 0), ("NT_OFFSET", 256)]

noncomputable def chkLit : PV → Const → Bool
  | .none, .none => true
  | .bool a, .bool b => a == b
  | .int a, .int b => a == b
  | .str a, .str b => decide (a = b)
  | _, _ => false

noncomputable def chkT (Γ : Ctx) : Tgt → PySem.Expr → Bool
  | .one x, .Name id _ => decide (Γ.lookup id = some x) && okId id
  | .two x y, .Tuple [.Name a _, .Name b _] _ _ => decide (Γ.lookup a = some x) && decide (Γ.lookup b = some y) && okId a && okId b && decide (x ≠ y)
  | _, _ => false

noncomputable def tgtNames : Tgt → PySem.Expr → Ctx
  | .one x, .Name id _ => [(id, x)]
  | .two x y, .Tuple [.Name a _, .Name b _] _ _ => [(a, x), (b, y)]
  | _, _ => []
noncomputable def genNames : CG → List Comprehension → Ctx
  | .gen t _ _ r, g :: gs => tgtNames t g.target ++ genNames r gs
  | _, _ => []

noncomputable def innerCtx (Γ : Ctx) (sc : Names) (own : Ctx) : Ctx := own ++ Γ.filter fun p => decide (sc.lookup p.1 = some .free)

/-- the comprehension's own names and their kinds -/
noncomputable def chkSc (names : Names) (Γ : Ctx) (sc : Scope) (g : CG) (own : Ctx) : Bool :=
  decide (sc.kind = .function) &&
  (sc.names.all fun p => match p.2 with
    | .local => decide (sc.names.lookup p.1 = some .local)
    | .free => decide (sc.names.lookup p.1 = some .free) && (decide (names.lookup p.1 = some .cell) || decide (names.lookup p.1 = some .free))
    | .cell => decide (sc.names.lookup p.1 = some .cell)
    | .globalImplicit => decide (sc.names.lookup p.1 = some .globalImplicit)
    | _ => false) &&
  (own.all fun p => decide (sc.names.lookup p.1 = some .local) || decide (sc.names.lookup p.1 = some .cell)) &&
  decide (own.map (·.2)).Nodup && decide (own.map (·.1)).Nodup && decide (own.map (·.2) = g.vars) && decide (Γ.map (·.2)).Nodup &&
  (own.all fun p => Γ.all fun q => decide (p.2 ≠ q.2))

noncomputable def chkKeys : List Int → List (Option PySem.Expr) → Bool
  | [], [] => true
  | k :: ks, some (.Constant (.int i) _ _) :: r => decide (i = k) && chkKeys ks r
  | _, _ => false

mutual
noncomputable def chkE (FN : List Str) (names : Names) (Γ : Ctx) : CE → PySem.Expr → Bool
  | .lit c, e => match e with
    | .Constant k _ _ => chkLit c k
    | _ => false
  | .var x, e => match e with
    | .Name id _ => decide (Γ.lookup id = some x) && okId id
    | _ => false
  | .gint n i, e => match e with
    | .Name id _ => decide (id = n) && gOk names id && decide ((n, i) ∈ GI)
    | _ => false
  | .bin op a b, e => match e with
    | .BinOp l op' r _ => decide (op' = op) && chkE FN names Γ a l && chkE FN names Γ b r
    | _ => false
  | .neg a, e => match e with
    | .UnaryOp .USub x _ => chkE FN names Γ a x
    | _ => false
  | .not a, e => match e with
    | .UnaryOp .Not x _ => chkE FN names Γ a x
    | _ => false
  | .bop op es, e => match e with
    | .BoolOp op' vs _ => decide (op' = op) && chkEs FN names Γ es vs
    | _ => false
  | .cmp op a b, e => match e with
    | .Compare l [op'] [r] _ => decide (op' = op) && chkE FN names Γ a l && chkE FN names Γ b r && !(behindInMarks op' r)
    | _ => false
  | .chain a o1 b o2 c, e => match e with
    | .Compare l [p1, p2] [r1, r2] _ => decide (p1 = o1) && decide (p2 = o2) && chkE FN names Γ a l && chkE FN names Γ b r1 && chkE FN names Γ c r2 && !(behindInMarks p2 r2)
    | _ => false
  | .ite c a b, e => match e with
    | .IfExp t x y _ => chkE FN names Γ c t && chkE FN names Γ a x && chkE FN names Γ b y
    | _ => false
  | .list es, e => match e with
    | .List vs _ => chkEs FN names Γ es vs
    | _ => false
  | .tuple es, e => match e with
    | .Tuple vs _ _ => chkEs FN names Γ es vs
    | _ => false
  | .dict ks es, e => match e with
    | .Dict keys vs _ => chkKeys ks keys && chkEs FN names Γ es vs
    | _ => false
  | .idx a i, e => match e with
    | .Subscript v sl _ => chkE FN names Γ a v && chkE FN names Γ i sl
    | _ => false
  | .tok a, e => match e with
    | .Subscript (.Name id _) sl _ => decide (id = ("EXACT_TOKEN_TYPES" : Str)) && gOk names id && chkE FN names Γ a sl
    | _ => false
  | .sliceL a lo, e => match e with
    | .Subscript v (.Slice (some l) none none _) _ => chkE FN names Γ a v && chkE FN names Γ lo l
    | _ => false
  | .sliceH a hi, e => match e with
    | .Subscript v (.Slice none (some l) none _) _ => chkE FN names Γ a v && chkE FN names Γ hi l
    | _ => false
  | .sliceB a lo hi, e => match e with
    | .Subscript v (.Slice (some l) (some u) none _) _ => chkE FN names Γ a v && chkE FN names Γ lo l && chkE FN names Γ hi u
    | _ => false
  | .call f es, e => match e with
    | .Call (.Name id _) args [] _ => decide (FN[f]? = some id) && gOk names id && chkEs FN names Γ es args
    | _ => false
  | .bi b es, e => match e with
    | .Call (.Name id _) args [] _ => decide (id = biName b) && gOk names id && (match b, args with
      | .isStr, [x, .Tuple [.Name s1 _, .Name s2 _] _ _] => decide (s1 = ("str" : Str)) && decide (s2 = ("bytes" : Str)) && gOk names s1 && gOk names s2 && chkEs FN names Γ es [x]
      | .isStr, _ => false
      | .isList, [x, .Name s1 _] => decide (s1 = ("list" : Str)) && gOk names s1 && chkEs FN names Γ es [x]
      | .isList, _ => false
      | _, _ => chkEs FN names Γ es args)
    | _ => false
  | .join a, e => match e with
    | .Call (.Attribute (.Constant (.str sep) _ _) nm apos) [x] [] pos => decide (sep = ("" : Str)) && decide (nm = ("join" : Str)) && (apos.endLine == pos.line) && chkE FN names Γ a x
    | _ => false
  | .index a x, e => match e with
    | .Call (.Attribute (.Name id p) nm apos) [y] [] pos => decide (nm = ("index" : Str)) && (apos.endLine == pos.line) && chkE FN names Γ a (.Name id p) && chkE FN names Γ x y
    | _ => false
  | .comp g, e => match e with
    | .ListComp elt gens sc _ => chkSc names Γ sc g (genNames g gens) && (match g, gens with
      | .gen t it ifs rest, c :: gs => chkE FN names Γ it c.iter && decide (c.is_async = 0) && chkT (innerCtx Γ sc.names (genNames (.gen t it ifs rest) (c :: gs))) t c.target &&
          chkEs FN sc.names (innerCtx Γ sc.names (genNames (.gen t it ifs rest) (c :: gs))) ifs c.ifs && chkG FN sc.names (innerCtx Γ sc.names (genNames (.gen t it ifs rest) (c :: gs))) rest gs elt
      | _, _ => false)
    | _ => false
noncomputable def chkEs (FN : List Str) (names : Names) (Γ : Ctx) : CEs → List PySem.Expr → Bool
  | .nil, l => match l with
    | [] => true
    | _ => false
  | .cons e es, l => match l with
    | x :: xs => chkE FN names Γ e x && chkEs FN names Γ es xs
    | [] => false
noncomputable def chkG (FN : List Str) (names : Names) (Γ : Ctx) : CG → List Comprehension → PySem.Expr → Bool
  | .elt e, gens, elt => match gens with
    | [] => chkE FN names Γ e elt
    | _ => false
  | .gen t it ifs rest, gens, elt => match gens with
    | c :: gs => chkE FN names Γ it c.iter && decide (c.is_async = 0) && chkT Γ t c.target && chkEs FN names Γ ifs c.ifs && chkG FN names Γ rest gs elt
    | [] => false
end

/-! what the check says, form by form -/
section
variable {FN : List Str} {names : Names} {Γ : Ctx} {e : PySem.Expr} {motive : PySem.Expr → Prop}
@[elab_as_elim] theorem i_lit {c : PV} (hc : chkE FN names Γ (.lit c) e = true) (k : ∀ kc kd pos, (chkLit c kc) = true → motive (.Constant kc kd pos)) : motive e := by
  revert hc; cases e with
  | Constant kc kd pos => exact fun hc => k kc kd pos hc
  | _ => exact fun hc => (Bool.false_ne_true hc).elim
@[elab_as_elim] theorem i_var {x : Nat} (hc : chkE FN names Γ (.var x) e = true) (k : ∀ id pos, (decide (Γ.lookup id = some x) && okId id) = true → motive (.Name id pos)) : motive e := by
  revert hc; cases e with
  | Name id pos => exact fun hc => k id pos hc
  | _ => exact fun hc => (Bool.false_ne_true hc).elim
@[elab_as_elim] theorem i_gint {n : Str} {i : Int} (hc : chkE FN names Γ (.gint n i) e = true) (k : ∀ id pos, (decide (id = n) && gOk names id && decide ((n, i) ∈ GI)) = true → motive (.Name id pos)) : motive e := by
  revert hc; cases e with
  | Name id pos => exact fun hc => k id pos hc
  | _ => exact fun hc => (Bool.false_ne_true hc).elim
@[elab_as_elim] theorem i_bin {op : Operator} {a b : CE} (hc : chkE FN names Γ (.bin op a b) e = true) (k : ∀ l op' r pos, (decide (op' = op) && chkE FN names Γ a l && chkE FN names Γ b r) = true → motive (.BinOp l op' r pos)) : motive e := by
  revert hc; cases e with
  | BinOp l op' r pos => exact fun hc => k l op' r pos hc
  | _ => exact fun hc => (Bool.false_ne_true hc).elim
@[elab_as_elim] theorem i_neg {a : CE} (hc : chkE FN names Γ (.neg a) e = true) (k : ∀ x pos, (chkE FN names Γ a x) = true → motive (.UnaryOp .USub x pos)) : motive e := by
  revert hc; cases e with
  | UnaryOp o x pos => cases o with
    | USub => exact fun hc => k x pos hc
    | _ => exact fun hc => (Bool.false_ne_true hc).elim
  | _ => exact fun hc => (Bool.false_ne_true hc).elim
@[elab_as_elim] theorem i_not {a : CE} (hc : chkE FN names Γ (.not a) e = true) (k : ∀ x pos, (chkE FN names Γ a x) = true → motive (.UnaryOp .Not x pos)) : motive e := by
  revert hc; cases e with
  | UnaryOp o x pos => cases o with
    | Not => exact fun hc => k x pos hc
    | _ => exact fun hc => (Bool.false_ne_true hc).elim
  | _ => exact fun hc => (Bool.false_ne_true hc).elim
@[elab_as_elim] theorem i_bop {op : BoolOp} {es : CEs} (hc : chkE FN names Γ (.bop op es) e = true) (k : ∀ op' vs pos, (decide (op' = op) && chkEs FN names Γ es vs) = true → motive (.BoolOp op' vs pos)) : motive e := by
  revert hc; cases e with
  | BoolOp op' vs pos => exact fun hc => k op' vs pos hc
  | _ => exact fun hc => (Bool.false_ne_true hc).elim
@[elab_as_elim] theorem i_cmp {op : CmpOp} {a b : CE} (hc : chkE FN names Γ (.cmp op a b) e = true) (k : ∀ l op' r pos, (decide (op' = op) && chkE FN names Γ a l && chkE FN names Γ b r && !(behindInMarks op' r)) = true → motive (.Compare l [op'] [r] pos)) : motive e := by
  revert hc; cases e with
  | Compare l ops cs pos => cases ops with
    | nil => exact fun hc => (Bool.false_ne_true hc).elim
    | cons p1 ops => cases ops with
      | nil => cases cs with
        | nil => exact fun hc => (Bool.false_ne_true hc).elim
        | cons r cs => cases cs with
          | nil => exact fun hc => k l p1 r pos hc
          | cons _ _ => exact fun hc => (Bool.false_ne_true hc).elim
      | cons _ _ => exact fun hc => (Bool.false_ne_true hc).elim
  | _ => exact fun hc => (Bool.false_ne_true hc).elim
@[elab_as_elim] theorem i_chain {a b c : CE} {o1 o2 : CmpOp} (hc : chkE FN names Γ (.chain a o1 b o2 c) e = true) (k : ∀ l p1 p2 r1 r2 pos, (decide (p1 = o1) && decide (p2 = o2) && chkE FN names Γ a l && chkE FN names Γ b r1 && chkE FN names Γ c r2 && !(behindInMarks p2 r2)) = true → motive (.Compare l [p1, p2] [r1, r2] pos)) : motive e := by
  revert hc; cases e with
  | Compare l ops cs pos => cases ops with
    | nil => exact fun hc => (Bool.false_ne_true hc).elim
    | cons p1 ops => cases ops with
      | nil => exact fun hc => (Bool.false_ne_true hc).elim
      | cons p2 ops => cases ops with
        | cons _ _ => exact fun hc => (Bool.false_ne_true hc).elim
        | nil => cases cs with
          | nil => exact fun hc => (Bool.false_ne_true hc).elim
          | cons r1 cs => cases cs with
            | nil => exact fun hc => (Bool.false_ne_true hc).elim
            | cons r2 cs => cases cs with
              | nil => exact fun hc => k l p1 p2 r1 r2 pos hc
              | cons _ _ => exact fun hc => (Bool.false_ne_true hc).elim
  | _ => exact fun hc => (Bool.false_ne_true hc).elim
@[elab_as_elim] theorem i_ite {c a b : CE} (hc : chkE FN names Γ (.ite c a b) e = true) (k : ∀ t x y pos, (chkE FN names Γ c t && chkE FN names Γ a x && chkE FN names Γ b y) = true → motive (.IfExp t x y pos)) : motive e := by
  revert hc; cases e with
  | IfExp t x y pos => exact fun hc => k t x y pos hc
  | _ => exact fun hc => (Bool.false_ne_true hc).elim
@[elab_as_elim] theorem i_list {es : CEs} (hc : chkE FN names Γ (.list es) e = true) (k : ∀ vs pos, (chkEs FN names Γ es vs) = true → motive (.List vs pos)) : motive e := by
  revert hc; cases e with
  | List vs pos => exact fun hc => k vs pos hc
  | _ => exact fun hc => (Bool.false_ne_true hc).elim
@[elab_as_elim] theorem i_tuple {es : CEs} (hc : chkE FN names Γ (.tuple es) e = true) (k : ∀ vs kd pos, (chkEs FN names Γ es vs) = true → motive (.Tuple vs kd pos)) : motive e := by
  revert hc; cases e with
  | Tuple vs kd pos => exact fun hc => k vs kd pos hc
  | _ => exact fun hc => (Bool.false_ne_true hc).elim
@[elab_as_elim] theorem i_dict {ks : List Int} {es : CEs} (hc : chkE FN names Γ (.dict ks es) e = true) (k : ∀ keys vs pos, (chkKeys ks keys && chkEs FN names Γ es vs) = true → motive (.Dict keys vs pos)) : motive e := by
  revert hc; cases e with
  | Dict keys vs pos => exact fun hc => k keys vs pos hc
  | _ => exact fun hc => (Bool.false_ne_true hc).elim
@[elab_as_elim] theorem i_idx {a i : CE} (hc : chkE FN names Γ (.idx a i) e = true) (k : ∀ v sl pos, (chkE FN names Γ a v && chkE FN names Γ i sl) = true → motive (.Subscript v sl pos)) : motive e := by
  revert hc; cases e with
  | Subscript v sl pos => exact fun hc => k v sl pos hc
  | _ => exact fun hc => (Bool.false_ne_true hc).elim
@[elab_as_elim] theorem i_tok {a : CE} (hc : chkE FN names Γ (.tok a) e = true) (k : ∀ id p sl pos, (decide (id = ("EXACT_TOKEN_TYPES" : Str)) && gOk names id && chkE FN names Γ a sl) = true → motive (.Subscript (.Name id p) sl pos)) : motive e := by
  revert hc; cases e with
  | Subscript v sl pos => cases v with
    | Name id p => exact fun hc => k id p sl pos hc
    | _ => exact fun hc => (Bool.false_ne_true hc).elim
  | _ => exact fun hc => (Bool.false_ne_true hc).elim
@[elab_as_elim] theorem i_sliceL {a lo : CE} (hc : chkE FN names Γ (.sliceL a lo) e = true) (k : ∀ v l p pos, (chkE FN names Γ a v && chkE FN names Γ lo l) = true → motive (.Subscript v (.Slice (some l) none none p) pos)) : motive e := by
  revert hc; cases e with
  | Subscript v sl pos => cases sl with
    | Slice lo hi st p => cases st with
      | some _ => cases lo <;> cases hi <;> exact fun hc => (Bool.false_ne_true hc).elim
      | none => cases lo <;> cases hi <;> first | exact fun hc => (Bool.false_ne_true hc).elim | exact fun hc => k v _ p pos hc
    | _ => exact fun hc => (Bool.false_ne_true hc).elim
  | _ => exact fun hc => (Bool.false_ne_true hc).elim
@[elab_as_elim] theorem i_sliceH {a hi : CE} (hc : chkE FN names Γ (.sliceH a hi) e = true) (k : ∀ v l p pos, (chkE FN names Γ a v && chkE FN names Γ hi l) = true → motive (.Subscript v (.Slice none (some l) none p) pos)) : motive e := by
  revert hc; cases e with
  | Subscript v sl pos => cases sl with
    | Slice lo hi st p => cases st with
      | some _ => cases lo <;> cases hi <;> exact fun hc => (Bool.false_ne_true hc).elim
      | none => cases lo <;> cases hi <;> first | exact fun hc => (Bool.false_ne_true hc).elim | exact fun hc => k v _ p pos hc
    | _ => exact fun hc => (Bool.false_ne_true hc).elim
  | _ => exact fun hc => (Bool.false_ne_true hc).elim
@[elab_as_elim] theorem i_sliceB {a lo hi : CE} (hc : chkE FN names Γ (.sliceB a lo hi) e = true) (k : ∀ v l u p pos, (chkE FN names Γ a v && chkE FN names Γ lo l && chkE FN names Γ hi u) = true → motive (.Subscript v (.Slice (some l) (some u) none p) pos)) : motive e := by
  revert hc; cases e with
  | Subscript v sl pos => cases sl with
    | Slice lo hi st p => cases st with
      | some _ => cases lo <;> cases hi <;> exact fun hc => (Bool.false_ne_true hc).elim
      | none => cases lo <;> cases hi <;> first | exact fun hc => (Bool.false_ne_true hc).elim | exact fun hc => k v _ _ p pos hc
    | _ => exact fun hc => (Bool.false_ne_true hc).elim
  | _ => exact fun hc => (Bool.false_ne_true hc).elim
@[elab_as_elim] theorem i_call {f : Nat} {es : CEs} (hc : chkE FN names Γ (.call f es) e = true) (k : ∀ id p args pos, (decide (FN[f]? = some id) && gOk names id && chkEs FN names Γ es args) = true → motive (.Call (.Name id p) args [] pos)) : motive e := by
  revert hc; cases e with
  | Call f args kws pos => cases f with
    | Name id p => cases kws with
      | nil => exact fun hc => k id p args pos hc
      | cons _ _ => exact fun hc => (Bool.false_ne_true hc).elim
    | _ => exact fun hc => (Bool.false_ne_true hc).elim
  | _ => exact fun hc => (Bool.false_ne_true hc).elim
@[elab_as_elim] theorem i_bi {b : BI} {es : CEs} (hc : chkE FN names Γ (.bi b es) e = true) (k : ∀ id p args pos, (decide (id = biName b) && gOk names id && (match (generalizing := false) b, args with
      | .isStr, [x, .Tuple [.Name s1 _, .Name s2 _] _ _] => decide (s1 = ("str" : Str)) && decide (s2 = ("bytes" : Str)) && gOk names s1 && gOk names s2 && chkEs FN names Γ es [x]
      | .isStr, _ => false
      | .isList, [x, .Name s1 _] => decide (s1 = ("list" : Str)) && gOk names s1 && chkEs FN names Γ es [x]
      | .isList, _ => false
      | _, _ => chkEs FN names Γ es args)) = true → motive (.Call (.Name id p) args [] pos)) : motive e := by
  revert hc; cases e with
  | Call f args kws pos => cases f with
    | Name id p => cases kws with
      | nil => exact fun hc => k id p args pos hc
      | cons _ _ => exact fun hc => (Bool.false_ne_true hc).elim
    | _ => exact fun hc => (Bool.false_ne_true hc).elim
  | _ => exact fun hc => (Bool.false_ne_true hc).elim
@[elab_as_elim] theorem i_join {a : CE} (hc : chkE FN names Γ (.join a) e = true) (k : ∀ sep k1 p1 nm apos x pos, (decide (sep = ("" : Str)) && decide (nm = ("join" : Str)) && (apos.endLine == pos.line) && chkE FN names Γ a x) = true → motive (.Call (.Attribute (.Constant (.str sep) k1 p1) nm apos) [x] [] pos)) : motive e := by
  revert hc; cases e with
  | Call f args kws pos => cases f with
    | Attribute f nm apos => cases f with
      | Constant c k1 p1 => cases c with
        | str sep => cases args with
          | nil => exact fun hc => (Bool.false_ne_true hc).elim
          | cons x args => cases args with
            | cons _ _ => exact fun hc => (Bool.false_ne_true hc).elim
            | nil => cases kws with
              | nil => exact fun hc => k sep k1 p1 nm apos x pos hc
              | cons _ _ => exact fun hc => (Bool.false_ne_true hc).elim
        | _ => exact fun hc => (Bool.false_ne_true hc).elim
      | _ => exact fun hc => (Bool.false_ne_true hc).elim
    | _ => exact fun hc => (Bool.false_ne_true hc).elim
  | _ => exact fun hc => (Bool.false_ne_true hc).elim
@[elab_as_elim] theorem i_index {a x : CE} (hc : chkE FN names Γ (.index a x) e = true) (k : ∀ id p nm apos y pos, (decide (nm = ("index" : Str)) && (apos.endLine == pos.line) && chkE FN names Γ a (.Name id p) && chkE FN names Γ x y) = true → motive (.Call (.Attribute (.Name id p) nm apos) [y] [] pos)) : motive e := by
  revert hc; cases e with
  | Call f args kws pos => cases f with
    | Attribute f nm apos => cases f with
      | Name id p => cases args with
        | nil => exact fun hc => (Bool.false_ne_true hc).elim
        | cons y args => cases args with
          | cons _ _ => exact fun hc => (Bool.false_ne_true hc).elim
          | nil => cases kws with
            | nil => exact fun hc => k id p nm apos y pos hc
            | cons _ _ => exact fun hc => (Bool.false_ne_true hc).elim
      | _ => exact fun hc => (Bool.false_ne_true hc).elim
    | _ => exact fun hc => (Bool.false_ne_true hc).elim
  | _ => exact fun hc => (Bool.false_ne_true hc).elim
@[elab_as_elim] theorem i_comp {t : Tgt} {it : CE} {ifs : CEs} {rest : CG} (hc : chkE FN names Γ (.comp (.gen t it ifs rest)) e = true) (k : ∀ elt c gs sc pos, (chkSc names Γ sc (.gen t it ifs rest) (genNames (.gen t it ifs rest) (c :: gs)) && (chkE FN names Γ it c.iter && decide (c.is_async = 0) && chkT (innerCtx Γ sc.names (genNames (.gen t it ifs rest) (c :: gs))) t c.target &&
          chkEs FN sc.names (innerCtx Γ sc.names (genNames (.gen t it ifs rest) (c :: gs))) ifs c.ifs && chkG FN sc.names (innerCtx Γ sc.names (genNames (.gen t it ifs rest) (c :: gs))) rest gs elt)) = true → motive (.ListComp elt (c :: gs) sc pos)) : motive e := by
  revert hc; cases e with
  | ListComp elt gens sc pos => cases gens with
    | nil => exact fun hc => absurd ((Bool.and_eq_true _ _).mp hc).2 Bool.false_ne_true
    | cons c gs => exact fun hc => k elt c gs sc pos hc
  | _ => exact fun hc => (Bool.false_ne_true hc).elim
@[elab_as_elim] theorem i_comp_elt {c : CE} (hc : chkE FN names Γ (.comp (.elt c)) e = true) : motive e := by
  revert hc; cases e with
  | ListComp elt gens sc pos => exact fun hc => absurd ((Bool.and_eq_true _ _).mp hc).2 Bool.false_ne_true
  | _ => exact fun hc => (Bool.false_ne_true hc).elim
end
theorem t_one {Γ : Ctx} {x : Nat} {e : PySem.Expr} (hc : chkT Γ (.one x) e = true) : ∃ id p, e = .Name id p ∧ Γ.lookup id = some x ∧ okId id = true := by
  revert hc; cases e with
  | Name id p => exact fun hc => ⟨id, p, rfl, of_decide_eq_true ((Bool.and_eq_true _ _).mp hc).1, ((Bool.and_eq_true _ _).mp hc).2⟩
  | _ => exact fun hc => (Bool.false_ne_true hc).elim
theorem t_two {Γ : Ctx} {x y : Nat} {e : PySem.Expr} (hc : chkT Γ (.two x y) e = true) : ∃ a pa b pb k p, e = .Tuple [.Name a pa, .Name b pb] k p ∧
    (decide (Γ.lookup a = some x) && decide (Γ.lookup b = some y) && okId a && okId b && decide (x ≠ y)) = true := by
  revert hc; cases e with
  | Tuple l k p => cases l with
    | nil => exact fun hc => (Bool.false_ne_true hc).elim
    | cons u l => cases u with
      | Name a pa => cases l with
        | nil => exact fun hc => (Bool.false_ne_true hc).elim
        | cons u l => cases u with
          | Name b pb => cases l with
            | nil => exact fun hc => ⟨a, pa, b, pb, k, p, rfl, hc⟩
            | cons _ _ => exact fun hc => (Bool.false_ne_true hc).elim
          | _ => exact fun hc => (Bool.false_ne_true hc).elim
      | _ => exact fun hc => (Bool.false_ne_true hc).elim
  | _ => exact fun hc => (Bool.false_ne_true hc).elim
theorem cEs_nil {FN : List Str} {names : Names} {Γ : Ctx} {l : List PySem.Expr} : chkEs FN names Γ .nil l = (match l with | [] => true | _ :: _ => false) := by cases l <;> rfl
theorem cEs_cons {FN : List Str} {names : Names} {Γ : Ctx} {e : CE} {es : CEs} {l : List PySem.Expr} : chkEs FN names Γ (.cons e es) l = (match l with | x :: xs => chkE FN names Γ e x && chkEs FN names Γ es xs | [] => false) := by cases l <;> rfl
theorem cG_elt {FN : List Str} {names : Names} {Γ : Ctx} {e : CE} {gens : List Comprehension} {elt : PySem.Expr} : chkG FN names Γ (.elt e) gens elt = (match gens with | [] => chkE FN names Γ e elt | _ :: _ => false) := by cases gens <;> rfl
theorem cG_gen {FN : List Str} {names : Names} {Γ : Ctx} {t : Tgt} {it : CE} {ifs : CEs} {rest : CG} {gens : List Comprehension} {elt : PySem.Expr} : chkG FN names Γ (.gen t it ifs rest) gens elt =
    (match gens with | c :: gs => chkE FN names Γ it c.iter && decide (c.is_async = 0) && chkT Γ t c.target && chkEs FN names Γ ifs c.ifs && chkG FN names Γ rest gs elt | [] => false) := by cases gens <;> rfl
theorem keys_cons {k : Int} {ks : List Int} {l : List (Option PySem.Expr)} (hc : chkKeys (k :: ks) l = true) : ∃ kd p r, l = some (.Constant (.int k) kd p) :: r ∧ chkKeys ks r = true := by
  revert hc; cases l with
  | nil => exact fun hc => (Bool.false_ne_true hc).elim
  | cons o r => cases o with
    | none => exact fun hc => (Bool.false_ne_true hc).elim
    | some e => cases e with
      | Constant c kd p => cases c with
        | int i =>
          intro hc
          have := (Bool.and_eq_true _ _).mp hc
          have h1 := of_decide_eq_true this.1
          subst h1
          exact ⟨kd, p, r, rfl, this.2⟩
        | _ => exact fun hc => (Bool.false_ne_true hc).elim
      | _ => exact fun hc => (Bool.false_ne_true hc).elim
end Mine


namespace Mine

noncomputable def VarIs (env : Env) (h : Heap) (id : Str) (v : Value) : Prop :=
  (env.kindOf id = some .local ∧ ∃ m, h.Ns env.locals m ∧ m id = some v) ∨
  ((env.kindOf id = some .cell ∨ env.kindOf id = some .free) ∧ ∃ c, env.cells.lookup id = some c ∧ h.IsCell c (some v))

noncomputable def VRep (prog : Program) (w : World) (env : Env) (P O : List Addr) (h : Heap) (v : Value) (t : PV) : Bool → Prop
  | false => Rep prog w (view h P) v t
  | true => ∃ a, v = .ref a ∧ a ∈ O ∧ a ≠ env.locals ∧ (∀ id c, env.cells.lookup id = some c → a ≠ c) ∧ ORep prog w (view h P) h a t

structure Sc (prog : Program) (w : World) (names : Names) (Γ : Ctx) (env : Env) (h : Heap) (P O : List Addr) (σ : Sig) : Prop where
  fn : env.scope.kind = .function
  gl : env.globals = mainGlobals
  bl : env.builtins = builtinsNs
  kinds : ∀ id k, names.lookup id = some k → env.kindOf id = some k ∨ (k = .free ∧ env.kindOf id = some .cell)
  cells : ∀ id, names.lookup id = some .cell ∨ names.lookup id = some .free → ∃ c, env.cells.lookup id = some c
  locN : ∃ m, h.Ns env.locals m
  locP : env.locals ∈ P
  cellP : ∀ id c, env.cells.lookup id = some c → c ∈ P ∧ c ≠ env.locals ∧ ∃ v, h.IsCell c v
  cellI : ∀ id id' c, env.cells.lookup id = some c → env.cells.lookup id' = some c → id = id'
  vars : ∀ id i t o, Γ.lookup id = some i → σ i = some (t, o) → ∃ v, VarIs env h id v ∧ VRep prog w env P O h v t o
  inP : ∀ a ∈ P, ∃ o, h.get? a = some o
  oP : ∀ a ∈ O, a ∈ P

section
variable {prog : Program} {w : World} {A : Around} {E : Value → Shared → Prop} {s : Shared} {P O : List Addr} {names : Names} {Γ : Ctx} {env : Env} {σ : Sig}

theorem VarIs.keeps {h h' : Heap} {id : Str} {v : Value} (x : VarIs env h id v) (k : Keeps h h') : VarIs env h' id v := by
  rcases x with ⟨a, m, b, c⟩ | ⟨a, c, b, d⟩
  · exact .inl ⟨a, m, b.keeps k, c⟩
  · exact .inr ⟨a, c, b, d.keeps k⟩
theorem VRep.keeps {h h' : Heap} {v : Value} {t : PV} {o : Bool} (x : VRep prog w env P O h v t o) (k : Keeps h h') : VRep prog w env P O h' v t o := by
  cases o with
  | false => exact Rep.mono (k.sub P) _ x
  | true => obtain ⟨a, rfl, h1, h2, h3, h4⟩ := x; exact ⟨a, rfl, h1, h2, h3, h4.mono (k.sub P) fun o e => k _ o e⟩
theorem Sc.keeps {h h' : Heap} (x : Sc prog w names Γ env h P O σ) (k : Keeps h h') : Sc prog w names Γ env h' P O σ where
  fn := x.fn
  gl := x.gl
  bl := x.bl
  kinds := x.kinds
  cells := x.cells
  locN := let ⟨m, a⟩ := x.locN; ⟨m, a.keeps k⟩
  locP := x.locP
  cellP := fun id c e => let ⟨a, b, v, d⟩ := x.cellP id c e; ⟨a, b, v, d.keeps k⟩
  cellI := x.cellI
  vars := fun id i t o e1 e2 => let ⟨v, a, b⟩ := x.vars id i t o e1 e2; ⟨v, a.keeps k, b.keeps k⟩
  inP := fun a ha => let ⟨o, e⟩ := x.inP a ha; ⟨o, k _ _ e⟩
  oP := x.oP
theorem Sc.less {h : Heap} {σ' : Sig} (x : Sc prog w names Γ env h P O σ) (l : ∀ i p, σ' i = some p → σ i = some p) : Sc prog w names Γ env h P O σ' :=
  { x with vars := fun id i t o e1 e2 => x.vars id i t o e1 (l _ _ e2) }

theorem okId_dbg {id : Str} (h : okId id = true) : (id == ("__debug__" : Str)) = false ∧ (id == ("__classdict__" : Str)) = false := by
  unfold okId at h
  simpa using h

theorem load_var {M : Model} {id : Str} {pos : Pos} {v : Value} {Q : Value → Shared → Prop} (hf : env.scope.kind = .function) (h : VarIs env s.heap id v) (ho : okId id = true) (hQ : Q v s) :
    wpAny M A (eval (.Name id pos) env) Q E s := by
  refine wpAny_Name ?_ (okId_dbg ho).1
  rcases h with ⟨a, m, b, c⟩ | ⟨a | a, c, b, d⟩
  · exact wpAny_loadName_local hf a b c hQ
  · exact wpAny_loadName_cell hf a b d hQ
  · exact wpAny_loadName_free hf a b d hQ (okId_dbg ho).2

theorem res_of_vrep {v : Value} {t : PV} {o : Bool} (x : VRep prog w env P O s.heap v t o) : Gives prog w s P t (if o then .bor else .frz) v s := by
  cases o with
  | false => exact ⟨Step.refl _, x⟩
  | true => obtain ⟨a, rfl, h1, h2, h3, h4⟩ := x; exact ⟨Step.refl _, a, rfl, h4⟩

theorem Gives.step {t : PV} {f : Fl} {v : Value} {s s' : Shared} (x : Gives prog w s P t f v s') : Step s s' := x.1
theorem Gives.read {t : PV} {f : Fl} {v : Value} {s s' : Shared} (x : Gives prog w s P t f v s') : Read prog w P s'.heap v t := x.2.read
/-- from a later start -/
theorem Gives.of_step {t : PV} {f : Fl} {v : Value} {s s₁ s' : Shared} (k : Step s s₁) (x : Gives prog w s₁ P t f v s') : Gives prog w s P t f v s' := by
  refine ⟨k.trans x.1, ?_⟩
  have y := x.2
  cases f with
  | frz => exact y
  | bor => exact y
  | new =>
    obtain ⟨a, rfl, h1, h2⟩ := y
    refine ⟨a, rfl, ?_, h2⟩
    cases q : s.heap.get? a with
    | none => rfl
    | some o => rw [k.1 _ _ q] at h1; cases h1
theorem Gives.kept {t : PV} {f : Fl} {v : Value} {s s' : Shared} (hf : f ≠ .bor) (hP : ∀ a ∈ P, ∃ o, s.heap.get? a = some o) (x : Gives prog w s P t f v s') : Rep prog w (view s'.heap P) v t := x.2.freeze hf hP
theorem kept_some {r : R} {t : PV} (h : kept r = some t) : r.1 = t ∧ r.2 ≠ .bor := by
  obtain ⟨u, f⟩ := r
  cases f <;> simp [kept] at h ⊢
  · exact h
  · exact h
end

/-- what stands at the top -/
structure Base (prog : Program) (w : World) (hB : Heap) (FN : List Str) (F : FT) (T : TT) (n : Nat) (mg mb : Str → Option Value) : Prop where
  g : hB.Ns mainGlobals mg
  b : hB.Ns builtinsNs mb
  bi : ∀ x : BI, mg (biName x) = none ∧ mb (biName x) = some (biV x)
  str : mg "str" = none ∧ mb "str" = some (.type "str")
  list : mg "list" = none ∧ mb "list" = some (.type "list")
  gints : ∀ p ∈ GI, ∃ k, mg p.1 = some (.int p.2 k)
  fns : ∀ f id, FN[f]? = some id → ∃ a o fd, mg id = some (.ref a) ∧ hB.get? a = some o ∧ o.data = .func fd ∧
    ∀ ts r fl, F f ts = some (r, fl) → ∀ (A : Around) (P : List Addr) (s : Shared) (E : Value → Shared → Prop) (vals : List Value), Room A n → Keeps hB s.heap → (∀ a ∈ P, ∃ o, s.heap.get? a = some o) →
      Reps prog w (view s.heap P) vals ts → wpAny (model prog w) A (call (.ref a) vals) (Gives prog w s P r fl) E s
  tok : ∃ d, mg "EXACT_TOKEN_TYPES" = some (.ref d) ∧ ∀ (A : Around) (P : List Addr) (s : Shared) (E : Value → Shared → Prop) (x : Str) (i : Int) (k : Tok), Keeps hB s.heap → T x = some i →
    s.TypeIs (.ref d) "dict" ∧ wpAny (model prog w) A (getItem (.ref d) (.str x k)) (Gives prog w s P (.int i) .frz) E s

section
variable (prog : Program) (w : World) (hB : Heap) (FN : List Str) (F : FT) (T : TT) (n : Nat)
noncomputable def EOk (ce : CE) : Prop := ∀ names Γ e env, chkE FN names Γ ce e = true → ∀ σ t f, evalE F T ce σ = some (t, f) → ∀ (A : Around) (P O : List Addr) (s : Shared) (E : Value → Shared → Prop),
  Room A n → Keeps hB s.heap → Sc prog w names Γ env s.heap P O σ → wpAny (model prog w) A (eval e env) (Gives prog w s P t f) E s
noncomputable def COk (ce : CE) : Prop := ∀ names Γ e env, chkE FN names Γ ce e = true → ∀ σ b f, evalE F T ce σ = some (.bool b, f) → ∀ (A : Around) (P O : List Addr) (s : Shared) (E : Value → Shared → Prop),
  Room A n → Keeps hB s.heap → Sc prog w names Γ env s.heap P O σ → wpAny (model prog w) A (isTrue e env (eval e env)) (fun b' s' => b' = b ∧ Step s s') E s
noncomputable def EsOk (es : CEs) : Prop := ∀ names Γ l env pos, chkEs FN names Γ es l = true → ∀ σ ts, evalEs F T es σ = some ts → ∀ (A : Around) (P O : List Addr) (s : Shared) (E : Value → Shared → Prop),
  Room A n → Keeps hB s.heap → Sc prog w names Γ env s.heap P O σ → wpAny (model prog w) A (spliced (backTo pos (starEach l env))) (fun vs s' => Step s s' ∧ Reps prog w (view s'.heap P) vs ts) E s
noncomputable def RsOk (es : CEs) : Prop := ∀ names Γ l env pos, chkEs FN names Γ es l = true → ∀ σ ts, evalRs F T es σ = some ts → ∀ (A : Around) (P O : List Addr) (s : Shared) (E : Value → Shared → Prop),
  Room A n → Keeps hB s.heap → Sc prog w names Γ env s.heap P O σ → wpAny (model prog w) A (spliced (backTo pos (starEach l env))) (fun vs s' => Step s s' ∧ ReadL prog w P s'.heap vs ts) E s
noncomputable def BOk (es : CEs) : Prop := ∀ names Γ l env pos op, chkEs FN names Γ es l = true → ∀ σ b, evalB F T op es σ = some b → ∀ (A : Around) (P O : List Addr) (s : Shared) (E : Value → Shared → Prop),
  Room A n → Keeps hB s.heap → Sc prog w names Γ env s.heap P O σ → wpAny (model prog w) A (boolOp pos op (evalEach l env)) (fun v s' => v = .bool b ∧ Step s s') E s
noncomputable def BCOk (es : CEs) : Prop := ∀ names Γ l env op, chkEs FN names Γ es l = true → ∀ σ b, evalB F T op es σ = some b → ∀ (A : Around) (P O : List Addr) (s : Shared) (E : Value → Shared → Prop),
  Room A n → Keeps hB s.heap → Sc prog w names Γ env s.heap P O σ → wpAny (model prog w) A (allTrue op l env) (fun b' s' => b' = b ∧ Step s s') E s
/-- the tests of a clause, as the loop of a comprehension asks them -/
noncomputable def IOk (es : CEs) : Prop := ∀ names Γ l env, chkEs FN names Γ es l = true → ∀ σ b, evalI F T es σ = some b → ∀ (A : Around) (P O : List Addr) (s : Shared) (E : Value → Shared → Prop),
  Room A n → Keeps hB s.heap → Sc prog w names Γ env s.heap P O σ → wpAny (model prog w) A (forIn l true fun c r => if r = true then do let ok ← isTrue c env (eval c env); pure (ForInStep.yield ok) else pure (ForInStep.yield r)) (fun b' s' => b' = b ∧ Step s s') E s
/-- the pairs of a dict's display -/
noncomputable def dPairs (env : Env) (pos : Pos) : List (Option PySem.Expr) → List PySem.Expr → List (Sem Value × Sem Value)
  | some k :: ks, v :: vs => (eval k env, do let x ← eval v env; standAt pos; pure x) :: dPairs env pos ks vs
  | _, _ => []
noncomputable def DOk (es : CEs) : Prop := ∀ names Γ l env pos ks keys, chkEs FN names Γ es l = true → chkKeys ks keys = true → ∀ σ ts, evalEs F T es σ = some ts → ks.length = ts.length → ∀ (A : Around) (P O : List Addr) (s : Shared) (E : Value → Shared → Prop),
  Room A n → Keeps hB s.heap → Sc prog w names Γ env s.heap P O σ →
    (evalEachOpt keys env).zip ((evalEach l env).map fun v => do let x ← v; standAt pos; pure x) = (dPairs env pos keys l).map (fun p => (some p.1, p.2)) ∧ (dPairs env pos keys l).length = ks.length ∧
    wpAny (model prog w) A (evalPairs (dPairs env pos keys l)) (fun vs s' => Step s s' ∧ ∃ kvs : List (Int × Value), Carries (intKind prog w) vs kvs ∧ kvs.map (·.1) = ks ∧ Reps prog w (view s'.heap P) (kvs.map (·.2)) ts) E s
end
end Mine


namespace Mine
variable {prog : Program} {w : World} {hB : Heap} {FN : List Str} {F : FT} {T : TT} {n : Nat} {mg mb : Str → Option Value}

noncomputable def plainTest : PySem.Expr → Bool
  | .UnaryOp .Not _ _ => false
  | .BoolOp _ _ _ => false
  | .IfExp _ _ _ _ => false
  | .Compare _ _ _ _ => false
  | _ => true
theorem isTrue_gen {e : PySem.Expr} {env : Env} {whole : Sem Value} (h : plainTest e = true) : isTrue e env whole = (do let v ← whole; standAt e.pos; holding [v] (truthy v)) := by
  cases e <;> first | rfl | cases h | skip
  rename_i op x pos
  cases op <;> first | rfl | cases h
theorem C_of_E {ce : CE} (h : EOk prog w hB FN F T n ce) (hp : ∀ names Γ e, chkE FN names Γ ce e = true → plainTest e = true) : COk prog w hB FN F T n ce := by
  intro names Γ e env hc σ b f he A P O s E R K S
  rw [isTrue_gen (hp names Γ e hc)]
  refine wpAny_bind (wpAny_mono (h names Γ e env hc σ _ f he A P O s E R K S) (fun v s' g => wpAny_bind (wpAny_standAt (wpAny_holding ?_))) fun _ _ x => x)
  have := g.read.bool
  subst this
  exact wpAny_truthy_bool ⟨rfl, g.step⟩

/-- a name of the top -/
theorem load_glob (HB : Base prog w hB FN F T n mg mb) {names : Names} {Γ : Ctx} {env : Env} {P O : List Addr} {σ : Sig} {A : Around} {E : Value → Shared → Prop} {s : Shared} {id : Str} {pos : Pos} {v : Value} {Q : Value → Shared → Prop}
    (K : Keeps hB s.heap) (S : Sc prog w names Γ env s.heap P O σ) (hg : gOk names id = true) (hv : mg id = some v ∨ (mg id = none ∧ mb id = some v)) (hQ : Q v s) : wpAny (model prog w) A (eval (.Name id pos) env) Q E s := by
  unfold gOk at hg
  rw [Bool.and_eq_true, decide_eq_true_eq] at hg
  have hk : env.kindOf id = some .globalImplicit := by
    rcases S.kinds id _ hg.1 with h | ⟨h, _⟩
    · exact h
    · cases h
  refine Name_function_global S.fn hk ?_ (okId_dbg hg.2).1
  have g1 : s.heap.Ns env.globals mg := by rw [S.gl]; exact HB.g.keeps K
  have g2 : s.heap.Ns env.builtins mb := by rw [S.bl]; exact HB.b.keeps K
  rcases hv with hv | ⟨h1, h2⟩
  · exact loadGlobal_global g1 hv hQ
  · exact loadGlobal_builtin g1 h1 g2 h2 hQ

theorem E_lit (c : PV) : EOk prog w hB FN F T n (.lit c) := by
  intro names Γ e env hc σ t f he A P O s E R K S
  refine i_lit hc fun k kd pos hcN => ?_
  · clear hc; have hc := hcN; clear hcN
    (first | rw [evE_lit] at he | rw [evE_var] at he | rw [evE_gint] at he | rw [evE_bin] at he | rw [evE_neg] at he | rw [evE_not] at he | rw [evE_bop] at he | rw [evE_cmp] at he | rw [evE_chain] at he | rw [evE_ite] at he | rw [evE_list] at he | rw [evE_tuple] at he | rw [evE_dict] at he | rw [evE_idx] at he | rw [evE_tok] at he | rw [evE_sliceL] at he | rw [evE_sliceH] at he | rw [evE_sliceB] at he | rw [evE_call] at he | rw [evE_bi] at he | rw [evE_join] at he | rw [evE_index] at he | rw [evE_comp] at he)
    cases he
    cases c with
    | none => cases k with
      | none => rw [eval_Constant]; exact wpAny_pure (gives_none (Step.refl _))
      | _ => exact absurd hc Bool.false_ne_true
    | bool a => cases k with
      | bool b => have : a = b := beq_iff_eq.mp hc
                  subst this; rw [eval_Constant]; exact wpAny_pure (gives_bool (Step.refl _))
      | _ => exact absurd hc Bool.false_ne_true
    | int a => cases k with
      | int b => have : a = b := beq_iff_eq.mp hc
                 subst this; exact wpAny_Constant_int (gives_int (step_toks _ _))
      | _ => exact absurd hc Bool.false_ne_true
    | str a => cases k with
      | str b => have : a = b := of_decide_eq_true hc
                 subst this; rw [eval_Constant]; exact wpAny_mkText (gives_str (step_toks _ _))
      | _ => exact absurd hc Bool.false_ne_true
    | _ => exact absurd hc Bool.false_ne_true

theorem E_var (x : Nat) : EOk prog w hB FN F T n (.var x) := by
  intro names Γ e env hc σ t f he A P O s E R K S
  refine i_var hc fun id pos hcN => ?_
  · clear hc; have hc := hcN; clear hcN
    rw [Bool.and_eq_true, decide_eq_true_eq] at hc
    (first | rw [evE_lit] at he | rw [evE_var] at he | rw [evE_gint] at he | rw [evE_bin] at he | rw [evE_neg] at he | rw [evE_not] at he | rw [evE_bop] at he | rw [evE_cmp] at he | rw [evE_chain] at he | rw [evE_ite] at he | rw [evE_list] at he | rw [evE_tuple] at he | rw [evE_dict] at he | rw [evE_idx] at he | rw [evE_tok] at he | rw [evE_sliceL] at he | rw [evE_sliceH] at he | rw [evE_sliceB] at he | rw [evE_call] at he | rw [evE_bi] at he | rw [evE_join] at he | rw [evE_index] at he | rw [evE_comp] at he)
    obtain ⟨p, e1, e2⟩ := Option.map_eq_some_iff.mp he
    cases e2
    obtain ⟨v, h1, h2⟩ := S.vars id x p.1 p.2 hc.1 e1
    exact load_var S.fn h1 hc.2 (res_of_vrep h2)

theorem E_gint (HB : Base prog w hB FN F T n mg mb) (nm : Str) (i : Int) : EOk prog w hB FN F T n (.gint nm i) := by
  intro names Γ e env hc σ t f he A P O s E R K S
  refine i_gint hc fun id pos hcN => ?_
  · clear hc; have hc := hcN; clear hcN
    simp only [Bool.and_eq_true, decide_eq_true_eq] at hc
    ((first | rw [evE_lit] at he | rw [evE_var] at he | rw [evE_gint] at he | rw [evE_bin] at he | rw [evE_neg] at he | rw [evE_not] at he | rw [evE_bop] at he | rw [evE_cmp] at he | rw [evE_chain] at he | rw [evE_ite] at he | rw [evE_list] at he | rw [evE_tuple] at he | rw [evE_dict] at he | rw [evE_idx] at he | rw [evE_tok] at he | rw [evE_sliceL] at he | rw [evE_sliceH] at he | rw [evE_sliceB] at he | rw [evE_call] at he | rw [evE_bi] at he | rw [evE_join] at he | rw [evE_index] at he | rw [evE_comp] at he); unfold mkI at he)
    cases he
    obtain ⟨k, hk⟩ := HB.gints (nm, i) hc.2
    obtain ⟨⟨rfl, hg⟩, _⟩ := hc
    exact load_glob HB K S hg (.inl hk) (gives_int (Step.refl _))

theorem E_bin {a b : CE} (op : Operator) (ha : EOk prog w hB FN F T n a) (hb : EOk prog w hB FN F T n b) : EOk prog w hB FN F T n (.bin op a b) := by
  intro names Γ e env hc σ t f he A P O s E R K S
  refine i_bin hc fun l op' r pos hcN => ?_
  · clear hc; have hc := hcN; clear hcN
    simp only [Bool.and_eq_true, decide_eq_true_eq] at hc
    obtain ⟨⟨rfl, c1⟩, c2⟩ := hc
    (first | rw [evE_lit] at he | rw [evE_var] at he | rw [evE_gint] at he | rw [evE_bin] at he | rw [evE_neg] at he | rw [evE_not] at he | rw [evE_bop] at he | rw [evE_cmp] at he | rw [evE_chain] at he | rw [evE_ite] at he | rw [evE_list] at he | rw [evE_tuple] at he | rw [evE_dict] at he | rw [evE_idx] at he | rw [evE_tok] at he | rw [evE_sliceL] at he | rw [evE_sliceH] at he | rw [evE_sliceB] at he | rw [evE_call] at he | rw [evE_bi] at he | rw [evE_join] at he | rw [evE_index] at he | rw [evE_comp] at he)
    split at he
    · rename_i t1 f1 e1
      split at he
      · rename_i t2 f2 e2
        refine wpAny_BinOp (wpAny_mono (ha names Γ l env c1 σ t1 f1 e1 A P O s E R K S) (fun v1 s1 g1 => wpAny_mono (hb names Γ r env c2 σ t2 f2 e2 A P O s1 E R (K.trans g1.step.1) (S.keeps g1.step.1)) (fun v2 s2 g2 => ?_) fun _ _ x => x) fun _ _ x => x)
        have S2 := (S.keeps g1.step.1).keeps g2.step.1
        refine wpAny_mono (bin_ok he (g1.read.mono g2.step.1) g2.read S2.inP) (fun v3 s3 g3 => Gives.of_step (g1.step.trans g2.step) g3) fun _ _ x => x
      · cases he
    · cases he

theorem eval_Unary {op : UnaryOp} {x : PySem.Expr} {pos : Pos} {env : Env} : eval (.UnaryOp op x pos) env = (do let v ← eval x env; standAt pos; holding [v] (unaryOp op v)) := rfl

theorem E_neg {a : CE} (ha : EOk prog w hB FN F T n a) : EOk prog w hB FN F T n (.neg a) := by
  intro names Γ e env hc σ t f he A P O s E R K S
  refine i_neg hc fun x pos hcN => ?_
  · clear hc; have hc := hcN; clear hcN
    ((first | rw [evE_lit] at he | rw [evE_var] at he | rw [evE_gint] at he | rw [evE_bin] at he | rw [evE_neg] at he | rw [evE_not] at he | rw [evE_bop] at he | rw [evE_cmp] at he | rw [evE_chain] at he | rw [evE_ite] at he | rw [evE_list] at he | rw [evE_tuple] at he | rw [evE_dict] at he | rw [evE_idx] at he | rw [evE_tok] at he | rw [evE_sliceL] at he | rw [evE_sliceH] at he | rw [evE_sliceB] at he | rw [evE_call] at he | rw [evE_bi] at he | rw [evE_join] at he | rw [evE_index] at he | rw [evE_comp] at he); unfold mkI at he)
    split at he
    · rename_i i f1 e1
      cases he
      rw [eval_Unary]
      refine wpAny_bind (wpAny_mono (ha names Γ x env hc σ _ f1 e1 A P O s E R K S) (fun v s1 g1 => wpAny_bind (wpAny_standAt (wpAny_holding ?_))) fun _ _ x => x)
      obtain ⟨k, rfl⟩ := g1.read.int
      exact PySem.P.neg_int (gives_int (g1.step.trans (step_toks _ _)))
    · cases he

theorem C_not {a : CE} (ha : COk prog w hB FN F T n a) : COk prog w hB FN F T n (.not a) := by
  intro names Γ e env hc σ b f he A P O s E R K S
  refine i_not hc fun x pos hcN => ?_
  · clear hc; have hc := hcN; clear hcN
    ((first | rw [evE_lit] at he | rw [evE_var] at he | rw [evE_gint] at he | rw [evE_bin] at he | rw [evE_neg] at he | rw [evE_not] at he | rw [evE_bop] at he | rw [evE_cmp] at he | rw [evE_chain] at he | rw [evE_ite] at he | rw [evE_list] at he | rw [evE_tuple] at he | rw [evE_dict] at he | rw [evE_idx] at he | rw [evE_tok] at he | rw [evE_sliceL] at he | rw [evE_sliceH] at he | rw [evE_sliceB] at he | rw [evE_call] at he | rw [evE_bi] at he | rw [evE_join] at he | rw [evE_index] at he | rw [evE_comp] at he); unfold mkB at he)
    split at he
    · rename_i i f1 e1
      cases he
      show wpAny _ _ (do return !(← isTrue x env (eval x env))) _ _ _
      refine wpAny_bind (wpAny_mono (ha names Γ x env hc σ _ f1 e1 A P O s E R K S) (fun v s1 g1 => wpAny_pure ⟨by rw [g1.1], g1.2⟩) fun _ _ x => x)
    · cases he

theorem E_not {a : CE} (ha : EOk prog w hB FN F T n a) : EOk prog w hB FN F T n (.not a) := by
  intro names Γ e env hc σ t f he A P O s E R K S
  refine i_not hc fun x pos hcN => ?_
  · clear hc; have hc := hcN; clear hcN
    ((first | rw [evE_lit] at he | rw [evE_var] at he | rw [evE_gint] at he | rw [evE_bin] at he | rw [evE_neg] at he | rw [evE_not] at he | rw [evE_bop] at he | rw [evE_cmp] at he | rw [evE_chain] at he | rw [evE_ite] at he | rw [evE_list] at he | rw [evE_tuple] at he | rw [evE_dict] at he | rw [evE_idx] at he | rw [evE_tok] at he | rw [evE_sliceL] at he | rw [evE_sliceH] at he | rw [evE_sliceB] at he | rw [evE_call] at he | rw [evE_bi] at he | rw [evE_join] at he | rw [evE_index] at he | rw [evE_comp] at he); unfold mkB at he)
    split at he
    · rename_i i f1 e1
      cases he
      rw [eval_Unary]
      refine wpAny_bind (wpAny_mono (ha names Γ x env hc σ _ f1 e1 A P O s E R K S) (fun v s1 g1 => wpAny_bind (wpAny_standAt (wpAny_holding ?_))) fun _ _ x => x)
      have := g1.read.bool
      subst this
      unfold unaryOp
      refine wpAny_bind (wpAny_truthy_bool (wpAny_pure (gives_bool g1.step)))
    · cases he

theorem E_bop {es : CEs} (op : BoolOp) (h : BOk prog w hB FN F T n es) : EOk prog w hB FN F T n (.bop op es) := by
  intro names Γ e env hc σ t f he A P O s E R K S
  refine i_bop hc fun op' vs pos hcN => ?_
  · clear hc; have hc := hcN; clear hcN
    simp only [Bool.and_eq_true, decide_eq_true_eq] at hc
    obtain ⟨rfl, c1⟩ := hc
    (first | rw [evE_lit] at he | rw [evE_var] at he | rw [evE_gint] at he | rw [evE_bin] at he | rw [evE_neg] at he | rw [evE_not] at he | rw [evE_bop] at he | rw [evE_cmp] at he | rw [evE_chain] at he | rw [evE_ite] at he | rw [evE_list] at he | rw [evE_tuple] at he | rw [evE_dict] at he | rw [evE_idx] at he | rw [evE_tok] at he | rw [evE_sliceL] at he | rw [evE_sliceH] at he | rw [evE_sliceB] at he | rw [evE_call] at he | rw [evE_bi] at he | rw [evE_join] at he | rw [evE_index] at he | rw [evE_comp] at he)
    obtain ⟨b, e1, e2⟩ := Option.map_eq_some_iff.mp he
    cases e2
    show wpAny _ _ (boolOp pos op' (evalEach vs env)) _ _ _
    exact wpAny_mono (h names Γ vs env pos op' c1 σ b e1 A P O s E R K S) (fun v s1 g1 => by obtain ⟨rfl, g⟩ := g1; exact gives_bool g) fun _ _ x => x
theorem C_bop {es : CEs} (op : BoolOp) (h : BCOk prog w hB FN F T n es) : COk prog w hB FN F T n (.bop op es) := by
  intro names Γ e env hc σ b f he A P O s E R K S
  refine i_bop hc fun op' vs pos hcN => ?_
  · clear hc; have hc := hcN; clear hcN
    simp only [Bool.and_eq_true, decide_eq_true_eq] at hc
    obtain ⟨rfl, c1⟩ := hc
    (first | rw [evE_lit] at he | rw [evE_var] at he | rw [evE_gint] at he | rw [evE_bin] at he | rw [evE_neg] at he | rw [evE_not] at he | rw [evE_bop] at he | rw [evE_cmp] at he | rw [evE_chain] at he | rw [evE_ite] at he | rw [evE_list] at he | rw [evE_tuple] at he | rw [evE_dict] at he | rw [evE_idx] at he | rw [evE_tok] at he | rw [evE_sliceL] at he | rw [evE_sliceH] at he | rw [evE_sliceB] at he | rw [evE_call] at he | rw [evE_bi] at he | rw [evE_join] at he | rw [evE_index] at he | rw [evE_comp] at he)
    obtain ⟨b', e1, e2⟩ := Option.map_eq_some_iff.mp he
    cases e2
    show wpAny _ _ (allTrue op' vs env) _ _ _
    exact h names Γ vs env op' c1 σ b e1 A P O s E R K S

theorem cmp_parts {op : CmpOp} {a b : CE} {σ : Sig} {t : PV} {f : Fl} (he : evalE F T (.cmp op a b) σ = some (t, f)) : ∃ t1 f1 t2 f2 r, evalE F T a σ = some (t1, f1) ∧ evalE F T b σ = some (t2, f2) ∧ cmpPV op t1 t2 = some r ∧ t = .bool r ∧ f = .frz := by
  (first | rw [evE_lit] at he | rw [evE_var] at he | rw [evE_gint] at he | rw [evE_bin] at he | rw [evE_neg] at he | rw [evE_not] at he | rw [evE_bop] at he | rw [evE_cmp] at he | rw [evE_chain] at he | rw [evE_ite] at he | rw [evE_list] at he | rw [evE_tuple] at he | rw [evE_dict] at he | rw [evE_idx] at he | rw [evE_tok] at he | rw [evE_sliceL] at he | rw [evE_sliceH] at he | rw [evE_sliceB] at he | rw [evE_call] at he | rw [evE_bi] at he | rw [evE_join] at he | rw [evE_index] at he | rw [evE_comp] at he)
  split at he
  · rename_i t1 f1 e1
    split at he
    · rename_i t2 f2 e2
      obtain ⟨r, e3, e4⟩ := Option.map_eq_some_iff.mp he
      cases e4
      exact ⟨t1, f1, t2, f2, r, e1, e2, e3, rfl, rfl⟩
    · cases he
  · cases he

theorem E_cmp {a b : CE} (op : CmpOp) (ha : EOk prog w hB FN F T n a) (hb : EOk prog w hB FN F T n b) : EOk prog w hB FN F T n (.cmp op a b) := by
  intro names Γ e env hc σ t f he A P O s E R K S
  obtain ⟨t1, f1, t2, f2, r, e1, e2, e3, rfl, rfl⟩ := cmp_parts he
  refine i_cmp hc fun l op' r' pos hcN => ?_
  · clear hc; have hc := hcN; clear hcN
    simp only [Bool.and_eq_true, decide_eq_true_eq, Bool.not_eq_true'] at hc
    obtain ⟨⟨⟨rfl, c1⟩, c2⟩, c3⟩ := hc
    refine wpAny_Compare1 (wpAny_mono (ha names Γ l env c1 σ t1 f1 e1 A P O s E R K S) (fun v1 s1 g1 => wpAny_mono (hb names Γ r' env c2 σ t2 f2 e2 A P O s1 E R (K.trans g1.step.1) (S.keeps g1.step.1)) (fun v2 s2 g2 => ?_) fun _ _ x => x) fun _ _ x => x) c3
    exact cmp_ok R e3 (g1.read.mono g2.step.1) g2.read (gives_bool (g1.step.trans g2.step))
theorem C_cmp {a b : CE} (op : CmpOp) (ha : EOk prog w hB FN F T n a) (hb : EOk prog w hB FN F T n b) : COk prog w hB FN F T n (.cmp op a b) := by
  intro names Γ e env hc σ t f he A P O s E R K S
  obtain ⟨t1, f1, t2, f2, r, e1, e2, e3, e4, rfl⟩ := cmp_parts he
  cases e4
  refine i_cmp hc fun l op' r' pos hcN => ?_
  · clear hc; have hc := hcN; clear hcN
    simp only [Bool.and_eq_true, decide_eq_true_eq, Bool.not_eq_true'] at hc
    obtain ⟨⟨⟨rfl, c1⟩, c2⟩, c3⟩ := hc
    refine wpAny_isTrue_Compare1 (wpAny_mono (ha names Γ l env c1 σ t1 f1 e1 A P O s E R K S) (fun v1 s1 g1 => wpAny_mono (hb names Γ r' env c2 σ t2 f2 e2 A P O s1 E R (K.trans g1.step.1) (S.keeps g1.step.1)) (fun v2 s2 g2 => ?_) fun _ _ x => x) fun _ _ x => x) c3
    exact cmp_ok R e3 (g1.read.mono g2.step.1) g2.read (wpAny_truthy_bool ⟨rfl, g1.step.trans g2.step⟩)

theorem ite_parts {c a b : CE} {σ : Sig} {t : PV} {f : Fl} (he : evalE F T (.ite c a b) σ = some (t, f)) : ∃ q f1, evalE F T c σ = some (.bool q, f1) ∧ evalE F T (if q then a else b) σ = some (t, f) := by
  (first | rw [evE_lit] at he | rw [evE_var] at he | rw [evE_gint] at he | rw [evE_bin] at he | rw [evE_neg] at he | rw [evE_not] at he | rw [evE_bop] at he | rw [evE_cmp] at he | rw [evE_chain] at he | rw [evE_ite] at he | rw [evE_list] at he | rw [evE_tuple] at he | rw [evE_dict] at he | rw [evE_idx] at he | rw [evE_tok] at he | rw [evE_sliceL] at he | rw [evE_sliceH] at he | rw [evE_sliceB] at he | rw [evE_call] at he | rw [evE_bi] at he | rw [evE_join] at he | rw [evE_index] at he | rw [evE_comp] at he)
  split at he
  · exact ⟨true, _, by assumption, he⟩
  · exact ⟨false, _, by assumption, he⟩
  · cases he
theorem E_ite {c a b : CE} (hq : COk prog w hB FN F T n c) (ha : EOk prog w hB FN F T n a) (hb : EOk prog w hB FN F T n b) : EOk prog w hB FN F T n (.ite c a b) := by
  intro names Γ e env hc σ t f he A P O s E R K S
  obtain ⟨q, f1, e1, e2⟩ := ite_parts he
  refine i_ite hc fun x y z pos hcN => ?_
  · clear hc; have hc := hcN; clear hcN
    simp only [Bool.and_eq_true] at hc
    obtain ⟨⟨c1, c2⟩, c3⟩ := hc
    show wpAny _ _ (do if ← isTrue x env (eval x env) then eval y env else eval z env) _ _ _
    refine wpAny_bind (wpAny_mono (hq names Γ x env c1 σ q f1 e1 A P O s E R K S) (fun b' s1 g1 => ?_) fun _ _ x => x)
    obtain ⟨rfl, g⟩ := g1
    cases b' with
    | true => exact wpAny_mono (ha names Γ y env c2 σ t f e2 A P O s1 E R (K.trans g.1) (S.keeps g.1)) (fun v s2 g2 => Gives.of_step g g2) fun _ _ x => x
    | false => exact wpAny_mono (hb names Γ z env c3 σ t f e2 A P O s1 E R (K.trans g.1) (S.keeps g.1)) (fun v s2 g2 => Gives.of_step g g2) fun _ _ x => x
theorem C_ite {c a b : CE} (hq : COk prog w hB FN F T n c) (ha : COk prog w hB FN F T n a) (hb : COk prog w hB FN F T n b) : COk prog w hB FN F T n (.ite c a b) := by
  intro names Γ e env hc σ t f he A P O s E R K S
  obtain ⟨q, f1, e1, e2⟩ := ite_parts he
  refine i_ite hc fun x y z pos hcN => ?_
  · clear hc; have hc := hcN; clear hcN
    simp only [Bool.and_eq_true] at hc
    obtain ⟨⟨c1, c2⟩, c3⟩ := hc
    show wpAny _ _ (do if ← isTrue x env (eval x env) then isTrue y env (eval y env) else isTrue z env (eval z env)) _ _ _
    refine wpAny_bind (wpAny_mono (hq names Γ x env c1 σ q f1 e1 A P O s E R K S) (fun b' s1 g1 => ?_) fun _ _ x => x)
    obtain ⟨rfl, g⟩ := g1
    cases b' with
    | true => exact wpAny_mono (ha names Γ y env c2 σ t f e2 A P O s1 E R (K.trans g.1) (S.keeps g.1)) (fun v s2 g2 => ⟨g2.1, g.trans g2.2⟩) fun _ _ x => x
    | false => exact wpAny_mono (hb names Γ z env c3 σ t f e2 A P O s1 E R (K.trans g.1) (S.keeps g.1)) (fun v s2 g2 => ⟨g2.1, g.trans g2.2⟩) fun _ _ x => x
end Mine


namespace Mine
variable {prog : Program} {w : World} {hB : Heap} {FN : List Str} {F : FT} {T : TT} {n : Nat} {mg mb : Str → Option Value}

theorem not_starred {names : Names} {Γ : Ctx} {ce : CE} {x : PySem.Expr} {p : Pos} (h : chkE FN names Γ ce (.Starred x p) = true) : False := by
  cases ce <;> exact absurd h Bool.false_ne_true
theorem star_cons {names : Names} {Γ : Ctx} {ce : CE} {x : PySem.Expr} {xs : List PySem.Expr} {env : Env} (h : chkE FN names Γ ce x = true) : starEach (x :: xs) env = (false, eval x env) :: starEach xs env := by
  cases x <;> first | rfl | exact (not_starred h).elim
theorem backTo_cons {pos : Pos} {t : Sem Value} {r : List (Bool × Sem Value)} : backTo pos ((false, t) :: r) = (false, t) :: backTo pos r := rfl

theorem Es_nil : EsOk prog w hB FN F T n .nil := by
  intro names Γ l env pos hc σ ts he A P O s E R K S
  rw [cEs_nil] at hc
  split at hc
  · (first | rw [evEs_nil] at he | rw [evEs_cons] at he); cases he
    exact spliced_nil ⟨Step.refl _, Reps.nil⟩
  · cases hc
theorem Es_cons {e : CE} {es : CEs} (h1 : EOk prog w hB FN F T n e) (h2 : EsOk prog w hB FN F T n es) : EsOk prog w hB FN F T n (.cons e es) := by
  intro names Γ l env pos hc σ ts he A P O s E R K S
  rw [cEs_cons] at hc
  split at hc
  · rename_i x xs
    rw [Bool.and_eq_true] at hc
    (first | rw [evEs_nil] at he | rw [evEs_cons] at he)
    split at he
    · rename_i r e1
      split at he
      · rename_i t e2
        split at he
        · rename_i ts' e3
          cases he
          obtain ⟨k1, k2⟩ := kept_some e2
          obtain ⟨rt, rf⟩ := r
          dsimp only at k1 k2
          subst k1
          rw [star_cons hc.1, backTo_cons]
          refine spliced_cons (wpAny_mono (h1 names Γ x env hc.1 σ _ _ e1 A P O s E R K S) (fun v s1 g1 => ?_) fun _ _ x => x)
          refine wpAny_mono (h2 names Γ xs env pos hc.2 σ _ e3 A P O s1 E R (K.trans g1.step.1) (S.keeps g1.step.1)) (fun vs s2 g2 => ?_) fun _ _ x => x
          exact ⟨g1.step.trans g2.1, Reps.cons (Rep.mono (g2.1.1.sub P) _ (g1.kept k2 S.inP)) g2.2⟩
        · cases he
      · cases he
    · cases he
  · cases hc
theorem Rs_nil : RsOk prog w hB FN F T n .nil := by
  intro names Γ l env pos hc σ ts he A P O s E R K S
  rw [cEs_nil] at hc
  split at hc
  · (first | rw [evRs_nil] at he | rw [evRs_cons] at he); cases he
    exact spliced_nil ⟨Step.refl _, trivial⟩
  · cases hc
theorem Rs_cons {e : CE} {es : CEs} (h1 : EOk prog w hB FN F T n e) (h2 : RsOk prog w hB FN F T n es) : RsOk prog w hB FN F T n (.cons e es) := by
  intro names Γ l env pos hc σ ts he A P O s E R K S
  rw [cEs_cons] at hc
  split at hc
  · rename_i x xs
    rw [Bool.and_eq_true] at hc
    (first | rw [evRs_nil] at he | rw [evRs_cons] at he)
    split at he
    · rename_i rt rf e1
      split at he
      · rename_i ts' e3
        cases he
        rw [star_cons hc.1, backTo_cons]
        refine spliced_cons (wpAny_mono (h1 names Γ x env hc.1 σ _ _ e1 A P O s E R K S) (fun v s1 g1 => ?_) fun _ _ x => x)
        refine wpAny_mono (h2 names Γ xs env pos hc.2 σ _ e3 A P O s1 E R (K.trans g1.step.1) (S.keeps g1.step.1)) (fun vs s2 g2 => ?_) fun _ _ x => x
        exact ⟨g1.step.trans g2.1, g1.read.mono g2.1.1, g2.2⟩
      · cases he
    · cases he
  · cases hc

theorem evalB_parts {op : BoolOp} {e : CE} {es : CEs} {σ : Sig} {b : Bool} (he : evalB F T op (.cons e es) σ = some b) :
    (es = .nil ∧ ∃ f, evalE F T e σ = some (.bool b, f)) ∨ ∃ q f, es ≠ .nil ∧ evalE F T e σ = some (.bool q, f) ∧
      ((op = .And ∧ q = false ∧ b = false) ∨ (op = .Or ∧ q = true ∧ b = true) ∨ (¬ (op = .And ∧ q = false) ∧ ¬ (op = .Or ∧ q = true) ∧ evalB F T op es σ = some b)) := by
  cases es with
  | nil =>
    left
    (first | rw [evB_nil] at he | rw [evB_one] at he | rw [evB_more] at he)
    split at he
    · cases he; exact ⟨rfl, _, by assumption⟩
    · cases he
  | cons e' es' =>
    right
    (first | rw [evB_nil] at he | rw [evB_one] at he | rw [evB_more] at he)
    split at he
    · rename_i q f e1
      refine ⟨q, f, (fun h => by cases h), e1, ?_⟩
      cases op <;> cases q
      · simp at he; left; exact ⟨rfl, rfl, he⟩
      · right; right; exact ⟨(fun h => by cases h.2), (fun h => by cases h.1), he⟩
      · right; right; exact ⟨(fun h => by cases h.1), (fun h => by cases h.2), he⟩
      · simp at he; right; left; exact ⟨rfl, rfl, he⟩
    · cases he

theorem B_nil : BOk prog w hB FN F T n .nil := by
  intro names Γ l env pos op hc σ b he A P O s E R K S
  (first | rw [evB_nil] at he | rw [evB_one] at he | rw [evB_more] at he); cases he
theorem BC_nil : BCOk prog w hB FN F T n .nil := by
  intro names Γ l env op hc σ b he A P O s E R K S
  (first | rw [evB_nil] at he | rw [evB_one] at he | rw [evB_more] at he); cases he

theorem boolOp_one {pos : Pos} {op : BoolOp} {x : Sem Value} : boolOp pos op [x] = x := rfl
theorem boolOp_more {pos : Pos} {op : BoolOp} {x y : Sem Value} {r : List (Sem Value)} : boolOp pos op (x :: y :: r) = (do
    let v ← x
    standAt pos
    let t ← holding [v] (truthy v)
    match op, t with
    | .And, false | .Or, true => pure v
    | _, _ => boolOp pos op (y :: r)) := rfl

theorem B_cons {e : CE} {es : CEs} (h1 : EOk prog w hB FN F T n e) (h2 : BOk prog w hB FN F T n es) : BOk prog w hB FN F T n (.cons e es) := by
  intro names Γ l env pos op hc σ b he A P O s E R K S
  rw [cEs_cons] at hc
  split at hc
  · rename_i x xs
    rw [Bool.and_eq_true] at hc
    rcases evalB_parts he with ⟨rfl, f, e1⟩ | ⟨q, f, hne, e1, hr⟩
    · cases xs with
      | nil =>
        show wpAny _ _ (boolOp pos op [eval x env]) _ _ _
        rw [boolOp_one]
        exact wpAny_mono (h1 names Γ x env hc.1 σ _ _ e1 A P O s E R K S) (fun v s1 g1 => ⟨g1.read.bool, g1.step⟩) fun _ _ x => x
      | cons _ _ => exact absurd hc.2 Bool.false_ne_true
    · cases xs with
      | nil =>
        cases es with
        | nil => exact absurd rfl hne
        | cons _ _ => exact absurd hc.2 Bool.false_ne_true
      | cons y ys =>
        show wpAny _ _ (boolOp pos op (eval x env :: eval y env :: evalEach ys env)) _ _ _
        rw [boolOp_more]
        refine wpAny_bind (wpAny_mono (h1 names Γ x env hc.1 σ _ _ e1 A P O s E R K S) (fun v s1 g1 => wpAny_bind (wpAny_standAt (wpAny_bind (wpAny_holding ?_)))) fun _ _ x => x)
        have := g1.read.bool
        subst this
        refine wpAny_truthy_bool ?_
        rcases hr with ⟨rfl, rfl, rfl⟩ | ⟨rfl, rfl, rfl⟩ | ⟨n1, n2, e2⟩
        · exact wpAny_pure ⟨rfl, g1.step⟩
        · exact wpAny_pure ⟨rfl, g1.step⟩
        · have goal : wpAny (model prog w) A (boolOp pos op (evalEach (y :: ys) env)) (fun v s' => v = .bool b ∧ Step s s') E s1 :=
            wpAny_mono (h2 names Γ (y :: ys) env pos op hc.2 σ b e2 A P O s1 E R (K.trans g1.step.1) (S.keeps g1.step.1)) (fun v s2 g2 => ⟨g2.1, g1.step.trans g2.2⟩) fun _ _ x => x
          cases op <;> cases q
          · exact absurd ⟨rfl, rfl⟩ n1
          · exact goal
          · exact goal
          · exact absurd ⟨rfl, rfl⟩ n2
  · cases hc

theorem BC_cons {e : CE} {es : CEs} (h1 : COk prog w hB FN F T n e) (h2 : BCOk prog w hB FN F T n es) : BCOk prog w hB FN F T n (.cons e es) := by
  intro names Γ l env op hc σ b he A P O s E R K S
  rw [cEs_cons] at hc
  split at hc
  · rename_i x xs
    rw [Bool.and_eq_true] at hc
    show wpAny _ _ (do
      match op, ← isTrue x env (eval x env) with
      | .And, false => pure false
      | .Or, true => pure true
      | _, _ => allTrue op xs env) _ _ _
    rcases evalB_parts he with ⟨rfl, f, e1⟩ | ⟨q, f, hne, e1, hr⟩
    · refine wpAny_bind (wpAny_mono (h1 names Γ x env hc.1 σ _ _ e1 A P O s E R K S) (fun b' s1 g1 => ?_) fun _ _ x => x)
      obtain ⟨rfl, g⟩ := g1
      cases xs with
      | nil => cases op <;> cases b' <;> exact wpAny_pure ⟨rfl, g⟩
      | cons _ _ => exact absurd hc.2 Bool.false_ne_true
    · refine wpAny_bind (wpAny_mono (h1 names Γ x env hc.1 σ _ _ e1 A P O s E R K S) (fun b' s1 g1 => ?_) fun _ _ x => x)
      obtain ⟨rfl, g⟩ := g1
      rcases hr with ⟨rfl, rfl, rfl⟩ | ⟨rfl, rfl, rfl⟩ | ⟨n1, n2, e2⟩
      · exact wpAny_pure ⟨rfl, g⟩
      · exact wpAny_pure ⟨rfl, g⟩
      · have goal : wpAny (model prog w) A (allTrue op xs env) (fun v s' => v = b ∧ Step s s') E s1 :=
          wpAny_mono (h2 names Γ xs env op hc.2 σ b e2 A P O s1 E R (K.trans g.1) (S.keeps g.1)) (fun v s2 g2 => ⟨g2.1, g.trans g2.2⟩) fun _ _ x => x
        cases op <;> cases b'
        · exact absurd ⟨rfl, rfl⟩ n1
        · exact goal
        · exact goal
        · exact absurd ⟨rfl, rfl⟩ n2
  · cases hc

theorem forIn_false {env : Env} {A : Around} {s : Shared} {E : Value → Shared → Prop} {Q : Bool → Shared → Prop} (hQ : Q false s) : ∀ (l : List PySem.Expr), wpAny (model prog w) A (forIn l false fun c r => if r = true then do let ok ← isTrue c env (eval c env); pure (ForInStep.yield ok) else pure (ForInStep.yield r)) Q E s
  | [] => by rw [List.forIn_nil]; exact wpAny_pure hQ
  | c :: r => by
    rw [List.forIn_cons]
    refine wpAny_bind ?_
    simp only [Bool.false_eq_true, if_false]
    exact wpAny_pure (forIn_false hQ r)
theorem I_nil : IOk prog w hB FN F T n .nil := by
  intro names Γ l env hc σ b he A P O s E R K S
  rw [cEs_nil] at hc
  split at hc
  · (first | rw [evI_nil] at he | rw [evI_cons] at he); cases he
    rw [List.forIn_nil]; exact wpAny_pure ⟨rfl, Step.refl _⟩
  · cases hc
theorem I_cons {e : CE} {es : CEs} (h1 : COk prog w hB FN F T n e) (h2 : IOk prog w hB FN F T n es) : IOk prog w hB FN F T n (.cons e es) := by
  intro names Γ l env hc σ b he A P O s E R K S
  rw [cEs_cons] at hc
  split at hc
  · rename_i x xs
    rw [Bool.and_eq_true] at hc
    rw [List.forIn_cons]
    (first | rw [evI_nil] at he | rw [evI_cons] at he)
    refine wpAny_bind ?_
    simp only [if_true]
    split at he
    · rename_i f e1
      refine wpAny_bind (wpAny_mono (h1 names Γ x env hc.1 σ _ _ e1 A P O s E R K S) (fun b' s1 g1 => ?_) fun _ _ x => x)
      obtain ⟨rfl, g⟩ := g1
      refine wpAny_pure ?_
      exact wpAny_mono (h2 names Γ xs env hc.2 σ b he A P O s1 E R (K.trans g.1) (S.keeps g.1)) (fun v s2 g2 => ⟨g2.1, g.trans g2.2⟩) fun _ _ x => x
    · rename_i f e1
      cases he
      refine wpAny_bind (wpAny_mono (h1 names Γ x env hc.1 σ _ _ e1 A P O s E R K S) (fun b' s1 g1 => ?_) fun _ _ x => x)
      obtain ⟨rfl, g⟩ := g1
      exact wpAny_pure (forIn_false ⟨rfl, g⟩ xs)
    · cases he
  · cases hc

theorem E_list {es : CEs} (h : EsOk prog w hB FN F T n es) : EOk prog w hB FN F T n (.list es) := by
  intro names Γ e env hc σ t f he A P O s E R K S
  refine i_list hc fun vs pos hcN => ?_
  · clear hc; have hc := hcN; clear hcN
    (first | rw [evE_lit] at he | rw [evE_var] at he | rw [evE_gint] at he | rw [evE_bin] at he | rw [evE_neg] at he | rw [evE_not] at he | rw [evE_bop] at he | rw [evE_cmp] at he | rw [evE_chain] at he | rw [evE_ite] at he | rw [evE_list] at he | rw [evE_tuple] at he | rw [evE_dict] at he | rw [evE_idx] at he | rw [evE_tok] at he | rw [evE_sliceL] at he | rw [evE_sliceH] at he | rw [evE_sliceB] at he | rw [evE_call] at he | rw [evE_bi] at he | rw [evE_join] at he | rw [evE_index] at he | rw [evE_comp] at he)
    split at he
    · rename_i xs e1
      obtain ⟨hz, er⟩ := mkL_some he
      cases er
      refine wpAny_List_spliced (wpAny_mono (h names Γ vs env pos hc σ xs e1 A P O s E R K S) (fun us s1 g1 => ?_) fun _ _ x => x)
      have S1 := S.keeps g1.1.1
      have z := g1.2.length
      refine ⟨by rw [sizeLine_val]; omega, ?_⟩
      exact Gives.of_step g1.1 (gives_newList (vs := us.toArray) g1.2 S1.inP)
    · cases he
theorem E_tuple {es : CEs} (h : EsOk prog w hB FN F T n es) : EOk prog w hB FN F T n (.tuple es) := by
  intro names Γ e env hc σ t f he A P O s E R K S
  refine i_tuple hc fun vs kd pos hcN => ?_
  · clear hc; have hc := hcN; clear hcN
    (first | rw [evE_lit] at he | rw [evE_var] at he | rw [evE_gint] at he | rw [evE_bin] at he | rw [evE_neg] at he | rw [evE_not] at he | rw [evE_bop] at he | rw [evE_cmp] at he | rw [evE_chain] at he | rw [evE_ite] at he | rw [evE_list] at he | rw [evE_tuple] at he | rw [evE_dict] at he | rw [evE_idx] at he | rw [evE_tok] at he | rw [evE_sliceL] at he | rw [evE_sliceH] at he | rw [evE_sliceB] at he | rw [evE_call] at he | rw [evE_bi] at he | rw [evE_join] at he | rw [evE_index] at he | rw [evE_comp] at he)
    split at he
    · rename_i xs e1
      split at he
      · rename_i hz
        cases he
        rw [bigL_val] at hz
        refine wpAny_Tuple_spliced (wpAny_mono (h names Γ vs env pos hc σ xs e1 A P O s E R K S) (fun us s1 g1 => ?_) fun _ _ x => x)
        have S1 := S.keeps g1.1.1
        have z := g1.2.length
        refine ⟨by rw [sizeLine_val]; omega, ?_⟩
        refine Gives.rep (g1.1.trans (step_push _ _)) ?_
        unfold Rep
        refine ⟨_, us.toArray, 0, rfl, view_of (Heap.get?_push_size _ rfl) fun q => ?_, Reps.mono ((Keeps.push _ _).sub P) _ g1.2⟩
        obtain ⟨o, ho⟩ := S1.inP _ q; exact absurd (Heap.lt_size ho) (Nat.lt_irrefl _)
      · cases he
    · cases he

/-- an item: any base, any index that is no slice -/
theorem wpAny_item {env : Env} {value slice : PySem.Expr} {pos : Pos} {A : Around} {s : Shared} {E : Value → Shared → Prop} {Q : Value → Shared → Prop}
    (h : wpAny (model prog w) A (eval value env) (fun o s₁ => wpAny (model prog w) A (eval slice env) (fun i s₂ => ∃ T id, typeLookup (.type T) "__getitem__" = pure (some (.builtin id)) ∧ s₂.TypeIs o T ∧ wpAny (model prog w) A (getItem o i) Q E s₂) E s₁) E s) :
    wpAny (model prog w) A (eval (.Subscript value slice pos) env) Q E s := by
  rw [eval_Subscript]
  refine wpAny_bind (wpAny_mono h (fun o s₁ h₁ => wpAny_bind (wpAny_holding (wpAny_mono h₁ (fun i s₂ h₂ => wpAny_bind (wpAny_standAt ?_)) fun _ _ x => x))) fun _ _ x => x)
  obtain ⟨T, id, hl, hT, hg⟩ := h₂
  refine wpAny_bind ?_
  rw [getitemInPython_of_ne hT.not_modules]
  refine wpAny_bind (wpAny_specialOf hT hl ?_)
  have fin : ∀ vs, wpAny (model prog w) A (operate vs (getItem o i)) (fun r s₃ => wpAny (model prog w) A (letTemporaryGo value o r >>= fun _ => pure r) Q E s₃) E s₂ := fun vs =>
    wpAny_operating (wpAny_mono hg (fun r s₃ h₃ => wpAny_bind (wpAny_letTemporaryGo (wpAny_pure h₃))) fun _ _ x => x)
  refine wpAny_pure (wpAny_bind ?_)
  show wpAny _ _ (subscripted slice false o i) _ _ _
  cases slice with
  | Slice a b c p => cases c <;> exact fin _
  | _ => exact fin _
end Mine


namespace Mine
variable {prog : Program} {w : World} {hB : Heap} {FN : List Str} {F : FT} {T : TT} {n : Nat} {mg mb : Str → Option Value}

theorem E_idx {a i : CE} (ha : EOk prog w hB FN F T n a) (hi : EOk prog w hB FN F T n i) : EOk prog w hB FN F T n (.idx a i) := by
  intro names Γ e env hc σ t f he A P O s E R K S
  refine i_idx hc fun v sl pos hcN => ?_
  · clear hc; have hc := hcN; clear hcN
    simp only [Bool.and_eq_true] at hc
    (first | rw [evE_lit] at he | rw [evE_var] at he | rw [evE_gint] at he | rw [evE_bin] at he | rw [evE_neg] at he | rw [evE_not] at he | rw [evE_bop] at he | rw [evE_cmp] at he | rw [evE_chain] at he | rw [evE_ite] at he | rw [evE_list] at he | rw [evE_tuple] at he | rw [evE_dict] at he | rw [evE_idx] at he | rw [evE_tok] at he | rw [evE_sliceL] at he | rw [evE_sliceH] at he | rw [evE_sliceB] at he | rw [evE_call] at he | rw [evE_bi] at he | rw [evE_join] at he | rw [evE_index] at he | rw [evE_comp] at he)
    split at he
    · rename_i t1 f1 e1
      split at he
      · rename_i t2 f2 e2
        obtain ⟨r, e3, e4⟩ := Option.map_eq_some_iff.mp he
        cases e4
        refine wpAny_item (wpAny_mono (ha names Γ v env hc.1 σ t1 f1 e1 A P O s E R K S) (fun v1 s1 g1 => wpAny_mono (hi names Γ sl env hc.2 σ t2 f2 e2 A P O s1 E R (K.trans g1.step.1) (S.keeps g1.step.1)) (fun v2 s2 g2 => ?_) fun _ _ x => x) fun _ _ x => x)
        obtain ⟨T', id, x1, x2, x3⟩ := idx_ok (A := A) (E := E) e3 (g1.read.mono g2.step.1) g2.read
        exact ⟨T', id, x1, x2, wpAny_mono x3 (fun v3 s3 g3 => Gives.of_step (g1.step.trans g2.step) g3) fun _ _ x => x⟩
      · cases he
    · cases he

theorem E_tok (HB : Base prog w hB FN F T n mg mb) {a : CE} (ha : EOk prog w hB FN F T n a) : EOk prog w hB FN F T n (.tok a) := by
  intro names Γ e env hc σ t f he A P O s E R K S
  refine i_tok hc fun id p sl pos hcN => ?_
  · clear hc; have hc := hcN; clear hcN
    simp only [Bool.and_eq_true, decide_eq_true_eq] at hc
    obtain ⟨⟨rfl, hg⟩, c2⟩ := hc
    (first | rw [evE_lit] at he | rw [evE_var] at he | rw [evE_gint] at he | rw [evE_bin] at he | rw [evE_neg] at he | rw [evE_not] at he | rw [evE_bop] at he | rw [evE_cmp] at he | rw [evE_chain] at he | rw [evE_ite] at he | rw [evE_list] at he | rw [evE_tuple] at he | rw [evE_dict] at he | rw [evE_idx] at he | rw [evE_tok] at he | rw [evE_sliceL] at he | rw [evE_sliceH] at he | rw [evE_sliceB] at he | rw [evE_call] at he | rw [evE_bi] at he | rw [evE_join] at he | rw [evE_index] at he | rw [evE_comp] at he)
    split at he
    · rename_i x f1 e1
      obtain ⟨i, e3, e4⟩ := Option.map_eq_some_iff.mp he
      cases e4
      obtain ⟨d, hd, ht⟩ := HB.tok
      refine wpAny_item (load_glob HB K S hg (.inl hd) ?_)
      refine wpAny_mono (ha names Γ sl env c2 σ _ f1 e1 A P O s E R K S) (fun v2 s2 g2 => ?_) fun _ _ x => x
      obtain ⟨k, rfl⟩ := g2.read.str
      obtain ⟨x1, x2⟩ := ht A P s2 E x i k (K.trans g2.step.1) e3
      exact ⟨"dict", _, slot_dict_getitem.lookup, x1, wpAny_mono x2 (fun v3 s3 g3 => Gives.of_step g2.step g3) fun _ _ x => x⟩
    · cases he

theorem take_drop_pick {α : Type} (l : List α) (a b : Nat) : (l.drop (min a l.length)).take (min b l.length - min a l.length) = (l.take b).drop a := by
  rw [List.drop_take]
  by_cases h : a ≤ l.length
  · rw [Nat.min_eq_left h]
    by_cases h2 : b ≤ l.length
    · rw [Nat.min_eq_left h2]
    · rw [Nat.min_eq_right (by lia)]
      rw [List.take_of_length_le (by simp), List.take_of_length_le (by simp; lia)]
  · have e : min a l.length = l.length := Nat.min_eq_right (by lia)
    rw [e, List.drop_length, List.drop_eq_nil_of_le (by lia)]; simp

theorem slice_part {v : Value} {i : Int} {P : List Addr} {h : Heap} (r : Read prog w P h v (.int i)) : IsPart v (some i) := by
  obtain ⟨k, rfl⟩ := r.int; exact .int i k

theorem slice_ok {t r : PV} {f : Fl} {lo hi : Option Int} {a vl vu : Value} {P : List Addr} {s : Shared} {A : Around} {E : Value → Shared → Prop} (e : slicePV t lo hi = some (r, f)) (ha : Read prog w P s.heap a t) (hl : IsPart vl lo) (hu : IsPart vu hi) (hP : ∀ a ∈ P, ∃ o, s.heap.get? a = some o) :
    s.TypeIs a "list" ∧ wpAny (model prog w) A (getItem a (.ref s.heap.objs.size)) (Gives prog w s P r f) E { s with heap := s.heap.push { cls := .type "slice", data := .fields #[vl, vu, .none] } } := by
  unfold slicePV at e
  split at e
  · rename_i xs
    split at e
    · rename_i hz
      simp only [Bool.and_eq_true, decide_eq_true_eq] at hz
      have hzl : xs.length ≤ 1048576 := hz.2
      obtain ⟨l, vs, m, rfl, h1, h2⟩ := ha.list
      obtain ⟨hz', er⟩ := mkL_some e
      cases er
      have z := h2.length; rw [Array.length_toList] at z
      refine ⟨⟨_, h1, rfl⟩, ?_⟩
      have KP := Keeps.push s.heap { cls := .type "slice", data := .fields #[vl, vu, .none] }
      refine wpAny_getItem_list_slice (items := vs) (lo := lo) (hi := hi) (st := none) ⟨_, Heap.get?_push_of_some _ h1, rfl, m, rfl⟩ (Heap.IsSliceOf.new _ _ _ _) hl hu .none (by simp) ?_ (by rw [sizeLine_val]; lia)
      refine Gives.of_step (step_push s { cls := .type "slice", data := .fields #[vl, vu, .none] }) (gives_newList ?_ fun a ha => let ⟨o, ho⟩ := hP a ha; ⟨o, KP _ _ ho⟩)
      rw [slicePick_plain]
      have h3 := Reps.mono (KP.sub P) _ h2
      show Reps prog w _ ((vs.toList.drop (lo.elim 0 (clipAt vs.size))).take (hi.elim vs.size (clipAt vs.size) - lo.elim 0 (clipAt vs.size))) _
      have hlo : lo.elim 0 (clipAt vs.size) = min (lo.getD 0).toNat vs.toList.length := by
        cases lo with
        | none => simp
        | some i =>
          have h0 : 0 ≤ i := hz.1.1
          obtain ⟨k, rfl⟩ := Int.eq_ofNat_of_zero_le h0
          show clipAt vs.size (k : Int) = _
          rw [clipAt_nat]; simp
      rw [hlo]
      cases hi with
      | none =>
        have : (none : Option Int).elim vs.size (clipAt vs.size) = vs.toList.length := by simp
        rw [this]
        have e2 : ((vs.toList.drop (min (lo.getD 0).toNat vs.toList.length)).take (vs.toList.length - min (lo.getD 0).toNat vs.toList.length)) = vs.toList.drop (lo.getD 0).toNat := by
          have := take_drop_pick vs.toList (lo.getD 0).toNat vs.toList.length
          rw [Nat.min_self] at this
          rw [this, List.take_length]
        rw [e2]; exact h3.drop _
      | some j =>
        have h0 : 0 ≤ j := hz.1.2
        obtain ⟨k, rfl⟩ := Int.eq_ofNat_of_zero_le h0
        have : (some (k : Int)).elim vs.size (clipAt vs.size) = min k vs.toList.length := by
          show clipAt vs.size (k : Int) = _
          rw [clipAt_nat]; simp
        rw [this, take_drop_pick]
        show Reps prog w _ _ ((xs.take ((k : Int)).toNat).drop _)
        rw [Int.toNat_natCast]
        exact (h3.take _).drop _
    · cases e
  · cases e

theorem wpAny_sliced {env : Env} {value : PySem.Expr} {lower upper : Option PySem.Expr} {p pos : Pos} {A : Around} {s : Shared} {E : Value → Shared → Prop} {Q : Value → Shared → Prop}
    (h : wpAny (model prog w) A (eval value env) (fun o s₁ => wpAny (model prog w) A (evalPart lower env) (fun vl s₂ => wpAny (model prog w) A (evalPart upper env) (fun vu s₃ =>
      s₃.TypeIs o "list" ∧ wpAny (model prog w) A (getItem o (.ref s₃.heap.objs.size)) Q E { s₃ with heap := s₃.heap.push { cls := .type "slice", data := .fields #[vl, vu, .none] } }) E s₂) E s₁) E s) :
    wpAny (model prog w) A (eval (.Subscript value (.Slice lower upper none p) pos) env) Q E s := by
  refine wpAny_item (wpAny_mono h (fun o s₁ h₁ => ?_) fun _ _ x => x)
  refine wpAny_Slice (wpAny_mono h₁ (fun vl s₂ h₂ => wpAny_mono h₂ (fun vu s₃ h₃ => ?_) fun _ _ x => x) fun _ _ x => x)
  rw [evalPart_none]
  refine wpAny_pure ⟨"list", _, list_getitem_lookup, ?_, h₃.2⟩
  obtain ⟨ht, _⟩ := h₃
  unfold Shared.TypeIs at ht ⊢
  split at ht
  · obtain ⟨o', e1, e2⟩ := ht; exact ⟨o', Heap.get?_push_of_some _ e1, e2⟩
  · exact ht

theorem E_sliceL {a lo : CE} (ha : EOk prog w hB FN F T n a) (hl : EOk prog w hB FN F T n lo) : EOk prog w hB FN F T n (.sliceL a lo) := by
  intro names Γ e env hc σ t f he A P O s E R K S
  refine i_sliceL hc fun v l p pos hcN => ?_
  · clear hc; have hc := hcN; clear hcN
    simp only [Bool.and_eq_true] at hc
    (first | rw [evE_lit] at he | rw [evE_var] at he | rw [evE_gint] at he | rw [evE_bin] at he | rw [evE_neg] at he | rw [evE_not] at he | rw [evE_bop] at he | rw [evE_cmp] at he | rw [evE_chain] at he | rw [evE_ite] at he | rw [evE_list] at he | rw [evE_tuple] at he | rw [evE_dict] at he | rw [evE_idx] at he | rw [evE_tok] at he | rw [evE_sliceL] at he | rw [evE_sliceH] at he | rw [evE_sliceB] at he | rw [evE_call] at he | rw [evE_bi] at he | rw [evE_join] at he | rw [evE_index] at he | rw [evE_comp] at he)
    split at he
    · rename_i t1 f1 e1
      split at he
      · rename_i i f2 e2
        refine wpAny_sliced (wpAny_mono (ha names Γ v env hc.1 σ t1 f1 e1 A P O s E R K S) (fun v1 s1 g1 => ?_) fun _ _ x => x)
        rw [evalPart_some]
        refine wpAny_mono (hl names Γ l env hc.2 σ _ f2 e2 A P O s1 E R (K.trans g1.step.1) (S.keeps g1.step.1)) (fun v2 s2 g2 => ?_) fun _ _ x => x
        rw [evalPart_none]
        have S2 := (S.keeps g1.step.1).keeps g2.step.1
        obtain ⟨x1, x2⟩ := slice_ok (A := A) (E := E) he (g1.read.mono g2.step.1) (slice_part g2.read) .none S2.inP
        exact wpAny_pure ⟨x1, wpAny_mono x2 (fun v3 s3 g3 => Gives.of_step (g1.step.trans g2.step) g3) fun _ _ x => x⟩
      · cases he
    · cases he
theorem E_sliceH {a lo : CE} (ha : EOk prog w hB FN F T n a) (hl : EOk prog w hB FN F T n lo) : EOk prog w hB FN F T n (.sliceH a lo) := by
  intro names Γ e env hc σ t f he A P O s E R K S
  refine i_sliceH hc fun v l p pos hcN => ?_
  · clear hc; have hc := hcN; clear hcN
    simp only [Bool.and_eq_true] at hc
    (first | rw [evE_lit] at he | rw [evE_var] at he | rw [evE_gint] at he | rw [evE_bin] at he | rw [evE_neg] at he | rw [evE_not] at he | rw [evE_bop] at he | rw [evE_cmp] at he | rw [evE_chain] at he | rw [evE_ite] at he | rw [evE_list] at he | rw [evE_tuple] at he | rw [evE_dict] at he | rw [evE_idx] at he | rw [evE_tok] at he | rw [evE_sliceL] at he | rw [evE_sliceH] at he | rw [evE_sliceB] at he | rw [evE_call] at he | rw [evE_bi] at he | rw [evE_join] at he | rw [evE_index] at he | rw [evE_comp] at he)
    split at he
    · rename_i t1 f1 e1
      split at he
      · rename_i i f2 e2
        refine wpAny_sliced (wpAny_mono (ha names Γ v env hc.1 σ t1 f1 e1 A P O s E R K S) (fun v1 s1 g1 => ?_) fun _ _ x => x)
        rw [evalPart_none]
        refine wpAny_pure ?_
        rw [evalPart_some]
        refine wpAny_mono (hl names Γ l env hc.2 σ _ f2 e2 A P O s1 E R (K.trans g1.step.1) (S.keeps g1.step.1)) (fun v2 s2 g2 => ?_) fun _ _ x => x
        have S2 := (S.keeps g1.step.1).keeps g2.step.1
        obtain ⟨x1, x2⟩ := slice_ok (A := A) (E := E) he (g1.read.mono g2.step.1) .none (slice_part g2.read) S2.inP
        exact ⟨x1, wpAny_mono x2 (fun v3 s3 g3 => Gives.of_step (g1.step.trans g2.step) g3) fun _ _ x => x⟩
      · cases he
    · cases he
theorem E_sliceB {a lo hi : CE} (ha : EOk prog w hB FN F T n a) (hl : EOk prog w hB FN F T n lo) (hh : EOk prog w hB FN F T n hi) : EOk prog w hB FN F T n (.sliceB a lo hi) := by
  intro names Γ e env hc σ t f he A P O s E R K S
  refine i_sliceB hc fun v l u p pos hcN => ?_
  · clear hc; have hc := hcN; clear hcN
    simp only [Bool.and_eq_true] at hc
    (first | rw [evE_lit] at he | rw [evE_var] at he | rw [evE_gint] at he | rw [evE_bin] at he | rw [evE_neg] at he | rw [evE_not] at he | rw [evE_bop] at he | rw [evE_cmp] at he | rw [evE_chain] at he | rw [evE_ite] at he | rw [evE_list] at he | rw [evE_tuple] at he | rw [evE_dict] at he | rw [evE_idx] at he | rw [evE_tok] at he | rw [evE_sliceL] at he | rw [evE_sliceH] at he | rw [evE_sliceB] at he | rw [evE_call] at he | rw [evE_bi] at he | rw [evE_join] at he | rw [evE_index] at he | rw [evE_comp] at he)
    split at he
    · rename_i t1 f1 e1
      split at he
      · rename_i i f2 e2
        split at he
        · rename_i j f3 e3
          refine wpAny_sliced (wpAny_mono (ha names Γ v env hc.1.1 σ t1 f1 e1 A P O s E R K S) (fun v1 s1 g1 => ?_) fun _ _ x => x)
          rw [evalPart_some]
          refine wpAny_mono (hl names Γ l env hc.1.2 σ _ f2 e2 A P O s1 E R (K.trans g1.step.1) (S.keeps g1.step.1)) (fun v2 s2 g2 => ?_) fun _ _ x => x
          rw [evalPart_some]
          have S2 := (S.keeps g1.step.1).keeps g2.step.1
          refine wpAny_mono (hh names Γ u env hc.2 σ _ f3 e3 A P O s2 E R ((K.trans g1.step.1).trans g2.step.1) S2) (fun v3 s3 g3 => ?_) fun _ _ x => x
          have S3 := S2.keeps g3.step.1
          obtain ⟨x1, x2⟩ := slice_ok (A := A) (E := E) he ((g1.read.mono g2.step.1).mono g3.step.1) (slice_part (g2.read.mono g3.step.1)) (slice_part g3.read) S3.inP
          exact ⟨x1, wpAny_mono x2 (fun v4 s4 g4 => Gives.of_step ((g1.step.trans g2.step).trans g3.step) g4) fun _ _ x => x⟩
        · cases he
      · cases he
    · cases he

/-- arguments without stars -/
theorem evalArgs_any {f : Value} {names : Names} {Γ : Ctx} {es : CEs} {l : List PySem.Expr} {env : Env} {pos : Pos} {A : Around} {s : Shared} {E : Value → Shared → Prop} {Q : Args → Shared → Prop} (hc : chkEs FN names Γ es l = true)
    (h : wpAny (model prog w) A (spliced (backTo pos (starEach l env))) (fun vs s' => Q ⟨vs, []⟩ s') E s) : wpAny (model prog w) A (evalArgs f true (backTo pos (starEach l env)) []) Q E s := by
  cases l with
  | nil =>
    show wpAny (model prog w) A (evalArgs f true [] []) Q E s
    unfold evalArgs
    show wpAny (model prog w) A (spliced [] >>= _) Q E s
    have h' : wpAny (model prog w) A (spliced []) (fun vs s' => Q ⟨vs, []⟩ s') E s := h
    refine wpAny_bind (wpAny_mono h' (fun vs s₁ h₁ => wpAny_bind (wpAny_pure (wpAny_holding ?_))) fun _ _ x => x)
    exact wpAny_bind (wpAny_pure (wpAny_bind (wpAny_pure (wpAny_pure h₁))))
  | cons x xs =>
    cases es with
    | nil => exact absurd hc Bool.false_ne_true
    | cons c cs =>
      rw [cEs_cons, Bool.and_eq_true] at hc
      rw [star_cons hc.1, backTo_cons] at h ⊢
      exact evalArgs_plain h
end Mine


namespace Mine
variable {prog : Program} {w : World} {hB : Heap} {FN : List Str} {F : FT} {T : TT} {n : Nat} {mg mb : Str → Option Value}

theorem back_plain {names : Names} {Γ : Ctx} {pos : Pos} {env : Env} : ∀ {es : CEs} {l : List PySem.Expr}, chkEs FN names Γ es l = true → (backTo pos (starEach l env)).any (·.1) = false
  | .nil, [], _ => rfl
  | .nil, _ :: _, h => by exact absurd h Bool.false_ne_true
  | .cons _ _, [], h => by exact absurd h Bool.false_ne_true
  | .cons c cs, x :: xs, h => by
    rw [cEs_cons, Bool.and_eq_true] at h
    rw [star_cons h.1, backTo_cons, List.any_cons, back_plain h.2]; rfl

theorem wpAny_CallN {env : Env} {id : Str} {p pos : Pos} {args : List PySem.Expr} {A : Around} {s : Shared} {E : Value → Shared → Prop} {Q : Value → Shared → Prop}
    (h : wpAny (model prog w) A (eval (.Name id p) env) (fun f s₁ => wpAny (model prog w) A (callWith pos f [] (backTo pos (starEach args env)) []) Q E s₁) E s) :
    wpAny (model prog w) A (eval (.Call (.Name id p) args [] pos) env) Q E s := by
  rw [arm_eval_Call_Name']
  exact wpAny_bind h

theorem rep_scal {H H' : View} {v : Value} {x : PV} (h : Rep prog w H v x) (hs : scal x = true) : Rep prog w H' v x := by
  cases x with
  | none => exact h
  | bool b => exact h
  | int i => exact h
  | str i => exact h
  | bytes i => exact h
  | _ => cases hs
theorem reps_scal {H H' : View} : ∀ {xs : List PV} {vs : List Value}, Reps prog w H vs xs → xs.all scal = true → Reps prog w H' vs xs
  | [], _, h, _ => h
  | x :: xs, vs, h, hs => by
    obtain ⟨v, r, e, h1, h2⟩ := h
    rw [List.all_cons, Bool.and_eq_true] at hs
    exact ⟨v, r, e, rep_scal h1 hs.1, reps_scal h2 hs.2⟩
theorem gives_flat {P : List Addr} {s s' : Shared} {v : Value} {xs : List PV} (h : Gives prog w s [] (.list xs) .new v s') (hs : xs.all scal = true) : Gives prog w s P (.list xs) .new v s' := by
  obtain ⟨st, a, e, hn, vs, n, hg, hr⟩ := h
  exact ⟨st, a, e, hn, vs, n, hg, reps_scal hr hs⟩
theorem read_all {P : List Addr} {h : Heap} {v : Value} {t : PV} (x : Read prog w P h v t) : Rep prog w (view h []) v t := by
  have sub : Sub (view h P) (view h []) := view_sub fun _ h => by cases h
  rcases x with x | ⟨a, rfl, x⟩
  · exact Rep.mono sub _ x
  · cases t with
    | list xs =>
      obtain ⟨vs, n, h1, h2⟩ := x
      exact ⟨a, vs, n, rfl, view_of h1 (fun h => by cases h), Reps.mono sub _ h2⟩
    | dict ks xs =>
      obtain ⟨o, kvs, h0, h1, h2, h3, h4⟩ := x
      exact ⟨a, o, kvs, rfl, h0, view_of h1 (fun h => by cases h), h2, h3, Reps.mono sub _ h4⟩
    | _ => exact x.elim
theorem readL_all {P : List Addr} {h : Heap} : ∀ {ts : List PV} {vs : List Value}, ReadL prog w P h vs ts → Reps prog w (view h []) vs ts
  | [], [], _ => rfl
  | [], _ :: _, x => x.elim
  | _ :: _, [], x => x.elim
  | _ :: _, _ :: _, x => ⟨_, _, rfl, read_all x.1, readL_all x.2⟩

theorem E_call (HB : Base prog w hB FN F T n mg mb) {es : CEs} (g : Nat) (h : EsOk prog w hB FN F T n es) (hr : RsOk prog w hB FN F T n es) : EOk prog w hB FN F T n (.call g es) := by
  intro names Γ e env hc σ t f he A P O s E R K S
  refine i_call hc fun id p args pos hcN => ?_
  · clear hc; have hc := hcN; clear hcN
    simp only [Bool.and_eq_true, decide_eq_true_eq] at hc
    obtain ⟨⟨hf, hg⟩, c2⟩ := hc
    (first | rw [evE_lit] at he | rw [evE_var] at he | rw [evE_gint] at he | rw [evE_bin] at he | rw [evE_neg] at he | rw [evE_not] at he | rw [evE_bop] at he | rw [evE_cmp] at he | rw [evE_chain] at he | rw [evE_ite] at he | rw [evE_list] at he | rw [evE_tuple] at he | rw [evE_dict] at he | rw [evE_idx] at he | rw [evE_tok] at he | rw [evE_sliceL] at he | rw [evE_sliceH] at he | rw [evE_sliceB] at he | rw [evE_call] at he | rw [evE_bi] at he | rw [evE_join] at he | rw [evE_index] at he | rw [evE_comp] at he)
    split at he
    · rename_i xs e1
      obtain ⟨a, o, fd, h1, h2, h3, h4⟩ := HB.fns g id hf
      refine wpAny_CallN (load_glob HB K S hg (.inl h1) ?_)
      refine callWith_function (o := o) (fd := fd) (evalArgs_any c2 (wpAny_mono (h names Γ args env pos c2 σ xs e1 A P O s E R K S) (fun vs s1 g1 => ?_) fun _ _ x => x))
      refine ⟨⟨(K.trans g1.1.1) _ _ h2, h3⟩, ?_⟩
      exact wpAny_mono (h4 xs t f he A P s1 E vs R (K.trans g1.1.1) (S.keeps g1.1.1).inP g1.2) (fun v2 s2 g2 => Gives.of_step g1.1 g2) fun _ _ x => x
    · split at he
      · rename_i xs e1
        obtain ⟨e2, ys, e3, hy⟩ := flatR_says he
        cases e3
        obtain ⟨a, o, fd, h1, h2, h3, h4⟩ := HB.fns g id hf
        refine wpAny_CallN (load_glob HB K S hg (.inl h1) ?_)
        refine callWith_function (o := o) (fd := fd) (evalArgs_any c2 (wpAny_mono (hr names Γ args env pos c2 σ xs e1 A P O s E R K S) (fun vs s1 g1 => ?_) fun _ _ x => x))
        refine ⟨⟨(K.trans g1.1.1) _ _ h2, h3⟩, ?_⟩
        exact wpAny_mono (h4 xs _ _ e2 A [] s1 E vs R (K.trans g1.1.1) (fun _ h => by cases h) (readL_all g1.2)) (fun v2 s2 g2 => Gives.of_step g1.1 (gives_flat g2 hy)) fun _ _ x => x
      · cases he

theorem callWith_bi {b : BI} {pos : Pos} {args : List (Bool × Sem Value)} {A : Around} {s : Shared} {E : Value → Shared → Prop} {Q : Value → Shared → Prop} (hp : args.any (·.1) = false)
    (h : wpAny (model prog w) A (evalArgs (biV b) true args []) (fun x s₁ => wpAny (model prog w) A (call (biV b) ([] ++ x.pos) x.kw) Q E s₁) E s) : wpAny (model prog w) A (callWith pos (biV b) [] args []) Q E s := by
  cases b with
  | len => exact Calls.callWith_builtin (id := "len") hp h
  | range1 => exact PySem.callWith_type (T := "range") hp h
  | range2 => exact PySem.callWith_type (T := "range") hp h
  | min2 => exact Calls.callWith_builtin (id := "min") hp h
  | max1 => exact Calls.callWith_builtin (id := "max") hp h
  | sum1 => exact Calls.callWith_builtin (id := "sum") hp h
  | isStr => exact Calls.callWith_builtin (id := "isinstance") hp h
  | isList => exact Calls.callWith_builtin (id := "isinstance") hp h
  | tuple1 => exact PySem.callWith_type (T := "tuple") hp h
  | bytes1 => exact PySem.callWith_type (T := "bytes") hp h
  | chr1 => exact Calls.callWith_builtin (id := "chr") hp h

theorem E_bi_plain (HB : Base prog w hB FN F T n mg mb) {es : CEs} (b : BI) (h : RsOk prog w hB FN F T n es) {names : Names} {Γ : Ctx} {id : Str} {p pos : Pos} {args : List PySem.Expr} {env : Env} {σ : Sig} {t : PV} {f : Fl} {A : Around} {P O : List Addr} {s : Shared} {E : Value → Shared → Prop}
    (hid : id = biName b) (hg : gOk names id = true) (hc : chkEs FN names Γ es args = true) (h1 : b ≠ .isStr) (h2 : b ≠ .isList)
    (he : evalE F T (.bi b es) σ = some (t, f)) (R : Room A n) (K : Keeps hB s.heap) (S : Sc prog w names Γ env s.heap P O σ) : wpAny (model prog w) A (eval (.Call (.Name id p) args [] pos) env) (Gives prog w s P t f) E s := by
  (first | rw [evE_lit] at he | rw [evE_var] at he | rw [evE_gint] at he | rw [evE_bin] at he | rw [evE_neg] at he | rw [evE_not] at he | rw [evE_bop] at he | rw [evE_cmp] at he | rw [evE_chain] at he | rw [evE_ite] at he | rw [evE_list] at he | rw [evE_tuple] at he | rw [evE_dict] at he | rw [evE_idx] at he | rw [evE_tok] at he | rw [evE_sliceL] at he | rw [evE_sliceH] at he | rw [evE_sliceB] at he | rw [evE_call] at he | rw [evE_bi] at he | rw [evE_join] at he | rw [evE_index] at he | rw [evE_comp] at he)
  split at he
  · rename_i xs e1
    subst hid
    refine wpAny_CallN (load_glob HB K S hg (.inr (HB.bi b)) ?_)
    refine callWith_bi (back_plain hc) (evalArgs_any hc (wpAny_mono (h names Γ args env pos hc σ xs e1 A P O s E R K S) (fun vs s1 g1 => ?_) fun _ _ x => x))
    exact wpAny_mono (bi_ok R he g1.2 (S.keeps g1.1.1).inP h1 h2) (fun v2 s2 g2 => Gives.of_step g1.1 g2) fun _ _ x => x
  · cases he

theorem answers_bytes {x : Array UInt8} {u : Tok} {T : String} (hne : (Value.type "bytes" == Value.type T) = false) (hty : typeOf (.type T) = pure (.type "type")) (hsub : isSubtype (.type "bytes") (.type T) = pure false) :
    Answers (fun s => s.TypeIs (.bytes x u) "bytes") (.bytes x u) (.type T) false :=
  fun _ _ _ _ _ _ s hs => by
    obtain ⟨h, g, d, t, os⟩ := s
    exact isinstance_nested_false_bytes hne hty hsub (hs.2 (t + 1))

theorem tuple_of_isi {P : List Addr} {t : PV} {b : Bool} {v : Value} {s : Shared} {A : Around} {E : Value → Shared → Prop} {tp : Addr} {Q : Value → Shared → Prop} (e : isStrPV t = some b) (hv : Read prog w P s.heap v t)
    (ht : s.heap.get? tp = some { cls := .type "tuple", data := .seq [Value.type "str", Value.type "bytes"].toArray }) (hQ : ∀ tk, Q (.bool b) { s with toks := tk }) :
    wpAny (model prog w) A (call (.builtin "isinstance") [v, .ref tp]) Q E s := by
  unfold isStrPV at e
  split at e
  · cases e; obtain ⟨k, rfl⟩ := hv.str
    exact IsiPair.tupleOfB (Tx := "str") (vs := [true, false]) (AnswersAll.cons (Answers.of_true rfl (by rfl)) (AnswersAll.cons (Answers.of_false_str (by decide) rfl (by rfl)) AnswersAll.nil)) rfl ht rfl hQ
  · cases e; obtain ⟨k, rfl⟩ := hv.bytes
    exact IsiPair.tupleOfB (Tx := "bytes") (vs := [false, true]) (AnswersAll.cons (answers_bytes (by decide) rfl (by rfl)) (AnswersAll.cons (Answers.of_true rfl (by rfl)) AnswersAll.nil)) rfl ht rfl hQ
  · cases e; obtain ⟨k, rfl⟩ := hv.int
    exact IsiPair.tupleOfB (Tx := "int") (vs := [false, false]) (AnswersAll.cons (Answers.of_false_int (by decide) rfl (by rfl)) (AnswersAll.cons (Answers.of_false_int (by decide) rfl (by rfl)) AnswersAll.nil)) rfl ht rfl hQ
  · cases e; obtain ⟨l, vs, m, rfl, h1, h2⟩ := hv.list
    exact IsiPair.tupleOfB (Tx := "list") (vs := [false, false]) (AnswersAll.cons (Answers.of_false_list (by decide) rfl (by rfl)) (AnswersAll.cons (Answers.of_false_list (by decide) rfl (by rfl)) AnswersAll.nil)) ⟨_, h1, rfl⟩ ht rfl hQ
  · cases e; obtain ⟨l, vs, m, rfl, h1, h2⟩ := hv.tuple
    exact IsiPair.tupleOfB (Tx := "tuple") (vs := [false, false]) (AnswersAll.cons (Answers.of_false_tuple (by decide) rfl (by rfl)) (AnswersAll.cons (Answers.of_false_tuple (by decide) rfl (by rfl)) AnswersAll.nil)) ⟨_, h1, rfl⟩ ht rfl hQ
  · cases e

theorem one_arg {names : Names} {Γ : Ctx} {es : CEs} {x : PySem.Expr} (h : chkEs FN names Γ es [x] = true) : ∃ c, es = .cons c .nil ∧ chkE FN names Γ c x = true := by
  cases es with
  | nil => exact absurd h Bool.false_ne_true
  | cons c cs =>
    rw [cEs_cons, Bool.and_eq_true] at h
    cases cs with
    | nil => exact ⟨c, rfl, h.1⟩
    | cons _ _ => exact absurd h.2 Bool.false_ne_true

/-- the one argument of a call, read -/
noncomputable def R1Ok (prog : Program) (w : World) (hB : Heap) (FN : List Str) (F : FT) (T : TT) (n : Nat) (es : CEs) : Prop := ∀ c, es = .cons c .nil → EOk prog w hB FN F T n c

@[elab_as_elim] theorem bi_isStr {names : Names} {Γ : Ctx} {es : CEs} {args : List PySem.Expr} {motive : List PySem.Expr → Prop} (hc : (match (generalizing := false) BI.isStr, args with
      | .isStr, [x, .Tuple [.Name s1 _, .Name s2 _] _ _] => decide (s1 = ("str" : Str)) && decide (s2 = ("bytes" : Str)) && gOk names s1 && gOk names s2 && chkEs FN names Γ es [x]
      | .isStr, _ => false
      | .isList, [x, .Name s1 _] => decide (s1 = ("list" : Str)) && gOk names s1 && chkEs FN names Γ es [x]
      | .isList, _ => false
      | _, _ => chkEs FN names Γ es args) = true)
    (k : ∀ x s1 p1 s2 p2 kd p3, (decide (s1 = ("str" : Str)) && decide (s2 = ("bytes" : Str)) && gOk names s1 && gOk names s2 && chkEs FN names Γ es [x]) = true → motive [x, .Tuple [.Name s1 p1, .Name s2 p2] kd p3]) : motive args := by
  revert hc; cases args with
  | nil => exact fun hc => (Bool.false_ne_true hc).elim
  | cons x args => cases args with
    | nil => exact fun hc => (Bool.false_ne_true hc).elim
    | cons u args => cases u with
      | Tuple us kd p3 => cases us with
        | nil => exact fun hc => (Bool.false_ne_true hc).elim
        | cons a us => cases a with
          | Name s1 p1 => cases us with
            | nil => exact fun hc => (Bool.false_ne_true hc).elim
            | cons a us => cases a with
              | Name s2 p2 => cases us with
                | nil => cases args with
                  | nil => exact fun hc => k x s1 p1 s2 p2 kd p3 hc
                  | cons _ _ => exact fun hc => (Bool.false_ne_true hc).elim
                | cons _ _ => exact fun hc => (Bool.false_ne_true hc).elim
              | _ => exact fun hc => (Bool.false_ne_true hc).elim
          | _ => exact fun hc => (Bool.false_ne_true hc).elim
      | _ => exact fun hc => (Bool.false_ne_true hc).elim
@[elab_as_elim] theorem bi_isList {names : Names} {Γ : Ctx} {es : CEs} {args : List PySem.Expr} {motive : List PySem.Expr → Prop} (hc : (match (generalizing := false) BI.isList, args with
      | .isStr, [x, .Tuple [.Name s1 _, .Name s2 _] _ _] => decide (s1 = ("str" : Str)) && decide (s2 = ("bytes" : Str)) && gOk names s1 && gOk names s2 && chkEs FN names Γ es [x]
      | .isStr, _ => false
      | .isList, [x, .Name s1 _] => decide (s1 = ("list" : Str)) && gOk names s1 && chkEs FN names Γ es [x]
      | .isList, _ => false
      | _, _ => chkEs FN names Γ es args) = true)
    (k : ∀ x s1 p1, (decide (s1 = ("list" : Str)) && gOk names s1 && chkEs FN names Γ es [x]) = true → motive [x, .Name s1 p1]) : motive args := by
  revert hc; cases args with
  | nil => exact fun hc => (Bool.false_ne_true hc).elim
  | cons x args => cases args with
    | nil => exact fun hc => (Bool.false_ne_true hc).elim
    | cons u args => cases u with
      | Name s1 p1 => cases args with
        | nil => exact fun hc => k x s1 p1 hc
        | cons _ _ => exact fun hc => (Bool.false_ne_true hc).elim
      | _ => exact fun hc => (Bool.false_ne_true hc).elim

theorem E_bi (HB : Base prog w hB FN F T n mg mb) {es : CEs} (b : BI) (h : RsOk prog w hB FN F T n es) (h1 : R1Ok prog w hB FN F T n es) : EOk prog w hB FN F T n (.bi b es) := by
  intro names Γ e env hc σ t f he A P O s E R K S
  refine i_bi hc fun id p args pos hcN => ?_
  · clear hc; have hc := hcN; clear hcN
    rw [Bool.and_eq_true, Bool.and_eq_true, decide_eq_true_eq] at hc
    obtain ⟨⟨hid, hg⟩, c2⟩ := hc
    cases b with
    | isStr =>
      refine bi_isStr c2 fun x s1 p1 s2 p2 kd p3 c2' => ?_
      clear c2; have c2 := c2'; clear c2'
      simp only [Bool.and_eq_true, decide_eq_true_eq] at c2
      obtain ⟨⟨⟨⟨rfl, rfl⟩, g1⟩, g2⟩, c3⟩ := c2
      obtain ⟨c, rfl, c4⟩ := one_arg c3
      (first | rw [evE_lit] at he | rw [evE_var] at he | rw [evE_gint] at he | rw [evE_bin] at he | rw [evE_neg] at he | rw [evE_not] at he | rw [evE_bop] at he | rw [evE_cmp] at he | rw [evE_chain] at he | rw [evE_ite] at he | rw [evE_list] at he | rw [evE_tuple] at he | rw [evE_dict] at he | rw [evE_idx] at he | rw [evE_tok] at he | rw [evE_sliceL] at he | rw [evE_sliceH] at he | rw [evE_sliceB] at he | rw [evE_call] at he | rw [evE_bi] at he | rw [evE_join] at he | rw [evE_index] at he | rw [evE_comp] at he)
      split at he
      · rename_i xs e1
        (first | rw [evRs_nil] at e1 | rw [evRs_cons] at e1)
        split at e1
        · rename_i u uf e2
          (first | rw [evRs_nil] at e1 | rw [evRs_cons] at e1)
          cases e1
          unfold biPV at he
          obtain ⟨q, e3, e4⟩ := Option.map_eq_some_iff.mp he
          cases e4
          subst hid
          refine wpAny_CallN (load_glob HB K S hg (.inr (HB.bi .isStr)) ?_)
          refine Calls.callWith_builtin (id := "isinstance") ?_ ?_
          · rw [star_cons c4, backTo_cons]; rfl
          · rw [star_cons c4, backTo_cons]
            refine evalArgs_plain (spliced_cons (wpAny_mono (h1 c rfl names Γ x env c4 σ u uf e2 A P O s E R K S) (fun v s1 g => ?_) fun _ _ x => x))
            have S1 := S.keeps g.step.1
            have K1 := K.trans g.step.1
            show wpAny _ _ (spliced [(false, eval (.Tuple [.Name "str" p1, .Name "bytes" p2] kd p3) env)]) _ _ _
            refine spliced_cons ?_
            refine wpAny_Tuple_spliced ?_
            show wpAny _ _ (spliced [(false, eval (.Name "str" p1) env), (false, eval (.Name "bytes" p2) env)]) _ _ _
            refine spliced_cons (load_glob HB K1 S1 g1 (.inr HB.str) (spliced_cons (load_glob HB K1 S1 g2 (.inr (HB.bi .bytes1)) (spliced_nil ⟨by decide, spliced_nil ?_⟩))))
            have K2 := Keeps.push s1.heap { cls := .type "tuple", data := .seq [Value.type "str", Value.type "bytes"].toArray }
            exact tuple_of_isi e3 (g.read.mono K2) (Heap.get?_push_size _ rfl) fun tk => gives_bool (g.step.trans (step_heap K2))
        · cases e1
      · cases he
    | isList =>
      refine bi_isList c2 fun x s1 p1 c2' => ?_
      clear c2; have c2 := c2'; clear c2'
      simp only [Bool.and_eq_true, decide_eq_true_eq] at c2
      obtain ⟨⟨rfl, g1⟩, c3⟩ := c2
      obtain ⟨c, rfl, c4⟩ := one_arg c3
      (first | rw [evE_lit] at he | rw [evE_var] at he | rw [evE_gint] at he | rw [evE_bin] at he | rw [evE_neg] at he | rw [evE_not] at he | rw [evE_bop] at he | rw [evE_cmp] at he | rw [evE_chain] at he | rw [evE_ite] at he | rw [evE_list] at he | rw [evE_tuple] at he | rw [evE_dict] at he | rw [evE_idx] at he | rw [evE_tok] at he | rw [evE_sliceL] at he | rw [evE_sliceH] at he | rw [evE_sliceB] at he | rw [evE_call] at he | rw [evE_bi] at he | rw [evE_join] at he | rw [evE_index] at he | rw [evE_comp] at he)
      split at he
      · rename_i xs e1
        (first | rw [evRs_nil] at e1 | rw [evRs_cons] at e1)
        split at e1
        · rename_i u uf e2
          (first | rw [evRs_nil] at e1 | rw [evRs_cons] at e1)
          cases e1
          unfold biPV at he
          obtain ⟨q, e3, e4⟩ := Option.map_eq_some_iff.mp he
          cases e4
          subst hid
          refine wpAny_CallN (load_glob HB K S hg (.inr (HB.bi .isList)) ?_)
          refine Calls.callWith_builtin (id := "isinstance") ?_ ?_
          · rw [star_cons c4, backTo_cons]; rfl
          · rw [star_cons c4, backTo_cons]
            refine evalArgs_plain (spliced_cons (wpAny_mono (h1 c rfl names Γ x env c4 σ u uf e2 A P O s E R K S) (fun v s1 g => ?_) fun _ _ x => x))
            have S1 := S.keeps g.step.1
            have K1 := K.trans g.step.1
            show wpAny _ _ (spliced [(false, eval (.Name "list" p1) env)]) _ _ _
            refine spliced_cons (load_glob HB K1 S1 g1 (.inr HB.list) (spliced_nil ?_))
            unfold isListPV at e3
            split at e3
            · cases e3
              obtain ⟨l, vs, m, rfl, h1, h2⟩ := g.read.list
              exact IsiPair.list_list h1 rfl (gives_bool g.step)
            · cases e3
        · cases e1
      · cases he
    | _ => exact E_bi_plain HB _ h hid hg c2 (by decide) (by decide) he R K S
end Mine


namespace Mine
variable {prog : Program} {w : World} {hB : Heap} {FN : List Str} {F : FT} {T : TT} {n : Nat} {mg mb : Str → Option Value}

theorem base_const {c : Const} {k : Nat} {p : Pos} {nm : Str} {env : Env} : attributeBase (.Constant c k p) nm env (eval (.Constant c k p) env) = eval (.Constant c k p) env := rfl
theorem base_name {id : Str} {p : Pos} {nm : Str} {env : Env} : attributeBase (.Name id p) nm env (eval (.Name id p) env) = eval (.Name id p) env := rfl

theorem E_join {a : CE} (ha : EOk prog w hB FN F T n a) : EOk prog w hB FN F T n (.join a) := by
  intro names Γ e env hc σ t f he A P O s E R K S
  refine i_join hc fun sep k1 p1 nm apos x pos hcN => ?_
  · clear hc; have hc := hcN; clear hcN
    simp only [Bool.and_eq_true, decide_eq_true_eq] at hc
    obtain ⟨⟨⟨rfl, rfl⟩, hl⟩, c2⟩ := hc
    (first | rw [evE_lit] at he | rw [evE_var] at he | rw [evE_gint] at he | rw [evE_bin] at he | rw [evE_neg] at he | rw [evE_not] at he | rw [evE_bop] at he | rw [evE_cmp] at he | rw [evE_chain] at he | rw [evE_ite] at he | rw [evE_list] at he | rw [evE_tuple] at he | rw [evE_dict] at he | rw [evE_idx] at he | rw [evE_tok] at he | rw [evE_sliceL] at he | rw [evE_sliceH] at he | rw [evE_sliceB] at he | rw [evE_call] at he | rw [evE_bi] at he | rw [evE_join] at he | rw [evE_index] at he | rw [evE_comp] at he)
    split at he
    · rename_i t1 f1 e1
      refine wpAny_Call_method1_late base_const hl (by rw [star_cons c2]; rfl) ?_
      rw [eval_Constant]
      refine wpAny_mkText ⟨"str", "str.join", PySem.F.plainAttrs_str, PySem.F.slot_str_join, PySem.F.type_str_join, rfl, (fun a h => by cases h), ?_⟩
      refine Calls.callWith_builtin rfl (evalArgs_plain (spliced_cons ?_))
      have st := step_toks s (s.toks + 1)
      refine wpAny_mono (ha names Γ x env c2 σ t1 f1 e1 A P O _ E R (K.trans st.1) (S.keeps st.1)) (fun v s1 g1 => spliced_nil ?_) fun _ _ x => x
      unfold joinPV at he
      split at he
      · rename_i xs
        split at he
        · rename_i ss es
          split at he
          · rename_i hz
            cases he
            obtain ⟨l, vs, m, rfl, h1, h2⟩ := g1.read.list
            rw [bigL_val] at hz
            exact join_listW (items := vs) ⟨_, h1, rfl, m, rfl⟩ (strs_of h2 es) (by decide) hz fun t' k => gives_str ((st.trans g1.step).trans (step_toks _ _))
          · cases he
        · cases he
      · cases he
    · cases he

theorem idx_first {l : List Int} {i : Int} {j : Nat} (h : l.idxOf? i = some j) : ∃ hj : j < l.length, l[j] = i ∧ ∀ m (hm : m < l.length), m < j → l[m] ≠ i := by
  rw [List.idxOf?, List.findIdx?_eq_some_iff_getElem] at h
  obtain ⟨hj, h1, h2⟩ := h
  refine ⟨hj, by simpa using h1, fun m hm hlt => ?_⟩
  have := h2 m hlt
  simpa using this
theorem idx_firstS {l : List Str} {i : Str} {j : Nat} (h : l.idxOf? i = some j) : ∃ hj : j < l.length, l[j] = i ∧ ∀ m (hm : m < l.length), m < j → l[m] ≠ i := by
  rw [List.idxOf?, List.findIdx?_eq_some_iff_getElem] at h
  obtain ⟨hj, h1, h2⟩ := h
  refine ⟨hj, by simpa using h1, fun m hm hlt => ?_⟩
  have := h2 m hlt
  simpa using this

theorem ints_at {vs : List Value} {ns : List Int} (h : IntsAre vs ns) : ∀ j (hj : j < vs.length) (hj' : j < ns.length), ∃ k, vs[j] = .int ns[j] k := by
  induction h with
  | nil => intro j hj; simp at hj
  | cons n t _ ih =>
    intro j hj hj'
    cases j with
    | zero => exact ⟨t, rfl⟩
    | succ m => simpa using ih m (by simpa using hj) (by simpa using hj')
theorem ints_mem {vs : List Value} {ns : List Int} (h : IntsAre vs ns) : ∀ y ∈ vs, ∃ i k, y = .int i k := by
  induction h with
  | nil => intro y hy; cases hy
  | cons n t _ ih =>
    intro y hy
    rcases List.mem_cons.mp hy with rfl | hy
    · exact ⟨n, t, rfl⟩
    · exact ih y hy
theorem strs_at {vs : List Value} {ns : List Str} (h : StrsAre vs ns) : ∀ j (hj : j < vs.length) (hj' : j < ns.length), ∃ k, vs[j] = .str ns[j] k := by
  induction h with
  | nil => intro j hj; simp at hj
  | cons n t _ ih =>
    intro j hj hj'
    cases j with
    | zero => exact ⟨t, rfl⟩
    | succ m => simpa using ih m (by simpa using hj) (by simpa using hj')
theorem strs_mem {vs : List Value} {ns : List Str} (h : StrsAre vs ns) : ∀ y ∈ vs, ∃ i k, y = .str i k := by
  induction h with
  | nil => intro y hy; cases hy
  | cons n t _ ih =>
    intro y hy
    rcases List.mem_cons.mp hy with rfl | hy
    · exact ⟨n, t, rfl⟩
    · exact ih y hy
theorem intsAre_len {vs : List Value} {ns : List Int} (h : IntsAre vs ns) : vs.length = ns.length := by
  induction h with
  | nil => rfl
  | cons _ _ _ ih => simp [ih]
theorem strsAre_len {vs : List Value} {ns : List Str} (h : StrsAre vs ns) : vs.length = ns.length := by
  induction h with
  | nil => rfl
  | cons _ _ _ ih => simp [ih]

noncomputable def eqI (i : Int) : Value → Bool
  | .int j _ => j == i
  | _ => false
noncomputable def eqS (i : Str) : Value → Bool
  | .str j _ => j.cps.toList == i.cps.toList
  | _ => false
theorem cps_eq {a b : Str} : (a.cps.toList == b.cps.toList) = decide (a = b) := by
  rw [Bool.eq_iff_iff, beq_iff_eq, decide_eq_true_eq]
  exact ⟨fun h => by cases a; cases b; simp at h; rw [h], fun h => by rw [h]⟩

theorem index_ok {t u r : PV} {f : Fl} {a b : Value} {P : List Addr} {s : Shared} (e : indexPV t u = some (r, f)) (ha : Read prog w P s.heap a t) (hb : Read prog w P s.heap b u) :
    ∃ l items m, a = .ref l ∧ IsL s.heap l items m ∧ ∃ (e : Value → Bool) (j : Nat), ∃ hj : j < items.size, (∀ y, y ∈ items → PySem.MeetsSeq.EqGives y b (e y)) ∧ (j : Int) < 2 ^ 63 - 1 ∧ e items[j] = true ∧ (∀ m (hm : m < items.size), m < j → e items[m] = false) ∧ r = .int (j : Int) ∧ f = .frz := by
  unfold indexPV at e
  split at e
  · rename_i xs i
    split at e
    · rename_i is ei
      split at e
      · rename_i hz
        obtain ⟨j, e1, e2⟩ := Option.map_eq_some_iff.mp e
        cases e2
        obtain ⟨l, vs, m, rfl, h1, h2⟩ := ha.list
        obtain ⟨k, rfl⟩ := hb.int
        have hi := ints_of h2 ei
        have z := h2.length; rw [Array.length_toList] at z
        have z2 := intsAre_len hi; rw [Array.length_toList] at z2
        obtain ⟨hj, q1, q2⟩ := idx_first e1
        rw [bigL_val] at hz
        refine ⟨l, vs, m, rfl, h1, eqI i, j, by lia, fun y hy => ?_, by lia, ?_, fun m' hm' hlt => ?_, rfl, rfl⟩
        · obtain ⟨i', k', rfl⟩ := ints_mem hi y (by simpa using hy)
          exact PySem.MeetsSeq.EqGives.int _ _ _ _
        · obtain ⟨k', q⟩ := ints_at hi j (by simpa using (by lia : j < vs.size)) hj
          rw [Array.getElem_toList] at q
          rw [q, q1]; simp [eqI]
        · obtain ⟨k', q⟩ := ints_at hi m' (by simpa using hm') (by lia)
          rw [Array.getElem_toList] at q
          rw [q]; simp [eqI]; exact q2 m' (by lia) hlt
      · cases e
    · cases e
  · rename_i xs i
    split at e
    · rename_i is ei
      split at e
      · rename_i hz
        obtain ⟨j, e1, e2⟩ := Option.map_eq_some_iff.mp e
        cases e2
        obtain ⟨l, vs, m, rfl, h1, h2⟩ := ha.list
        obtain ⟨k, rfl⟩ := hb.str
        have hi := strs_of h2 ei
        have z := h2.length; rw [Array.length_toList] at z
        have z2 := strsAre_len hi; rw [Array.length_toList] at z2
        obtain ⟨hj, q1, q2⟩ := idx_firstS e1
        rw [bigL_val] at hz
        refine ⟨l, vs, m, rfl, h1, eqS i, j, by lia, fun y hy => ?_, by lia, ?_, fun m' hm' hlt => ?_, rfl, rfl⟩
        · obtain ⟨i', k', rfl⟩ := strs_mem hi y (by simpa using hy)
          exact PySem.SeqRoads2.EqGives.str _ _ _ _
        · obtain ⟨k', q⟩ := strs_at hi j (by simpa using (by lia : j < vs.size)) hj
          rw [Array.getElem_toList] at q
          rw [q, q1]; simp [eqS]
        · obtain ⟨k', q⟩ := strs_at hi m' (by simpa using hm') (by lia)
          rw [Array.getElem_toList] at q
          rw [q]; show (_ == _) = false
          rw [cps_eq]
          exact decide_eq_false (q2 m' (by lia) hlt)
      · cases e
    · cases e
  · cases e

theorem E_index {a x : CE} (ha : EOk prog w hB FN F T n a) (hx : EOk prog w hB FN F T n x) : EOk prog w hB FN F T n (.index a x) := by
  intro names Γ e env hc σ t f he A P O s E R K S
  refine i_index hc fun id p nm apos y pos hcN => ?_
  · clear hc; have hc := hcN; clear hcN
    simp only [Bool.and_eq_true, decide_eq_true_eq] at hc
    obtain ⟨⟨⟨rfl, hl⟩, c1⟩, c2⟩ := hc
    (first | rw [evE_lit] at he | rw [evE_var] at he | rw [evE_gint] at he | rw [evE_bin] at he | rw [evE_neg] at he | rw [evE_not] at he | rw [evE_bop] at he | rw [evE_cmp] at he | rw [evE_chain] at he | rw [evE_ite] at he | rw [evE_list] at he | rw [evE_tuple] at he | rw [evE_dict] at he | rw [evE_idx] at he | rw [evE_tok] at he | rw [evE_sliceL] at he | rw [evE_sliceH] at he | rw [evE_sliceB] at he | rw [evE_call] at he | rw [evE_bi] at he | rw [evE_join] at he | rw [evE_index] at he | rw [evE_comp] at he)
    split at he
    · rename_i t1 f1 e1
      split at he
      · rename_i t2 f2 e2
        refine wpAny_Call_method1_late base_name hl (by rw [star_cons c2]; rfl) ?_
        refine wpAny_mono (ha names Γ (.Name id p) env c1 σ t1 f1 e1 A P O s E R K S) (fun v1 s1 g1 => ?_) fun _ _ x => x
        have isl : ∃ l vs m, v1 = .ref l ∧ s1.heap.get? l = some (listO vs m) := by
          unfold indexPV at he
          split at he
          · obtain ⟨l, vs, m, rfl, h1, _⟩ := g1.read.list; exact ⟨l, vs, m, rfl, h1⟩
          · obtain ⟨l, vs, m, rfl, h1, _⟩ := g1.read.list; exact ⟨l, vs, m, rfl, h1⟩
          · cases he
        obtain ⟨l, vs, m, rfl, hlist⟩ := isl
        refine ⟨"list", "list.index", PySem.F.plainAttrs_list, PySem.F.slot_list_index, PySem.F.type_list_index, ⟨_, hlist, rfl⟩, (fun a h => by cases h; exact ⟨_, hlist, rfl⟩), ?_⟩
        refine PySem.P.index_list (wpAny_mono (hx names Γ y env c2 σ t2 f2 e2 A P O s1 E R (K.trans g1.step.1) (S.keeps g1.step.1)) (fun v2 s2 g2 => ?_) fun _ _ x => x)
        obtain ⟨l', items, m', ea, i1, ee, j, hj, i2, i3, i4, i5, rfl, rfl⟩ := index_ok he (g1.read.mono g2.step.1) g2.read
        cases ea
        exact ⟨items, m', ee, j, hj, i1, i2, i3, i4, i5, gives_int ((g1.step.trans g2.step).trans (step_toks _ _))⟩
      · cases he
    · cases he

theorem chain_parts {a b c : CE} {o1 o2 : CmpOp} {σ : Sig} {t : PV} {f : Fl} (he : evalE F T (.chain a o1 b o2 c) σ = some (t, f)) :
    ∃ x f1 y f2 q, evalE F T a σ = some (.int x, f1) ∧ evalE F T b σ = some (.int y, f2) ∧ cmpPV o1 (.int x) (.int y) = some q ∧ f = .frz ∧
      ((q = false ∧ t = .bool false) ∨ (q = true ∧ ∃ z f3 r, evalE F T c σ = some (.int z, f3) ∧ cmpPV o2 (.int y) (.int z) = some r ∧ t = .bool r)) := by
  (first | rw [evE_lit] at he | rw [evE_var] at he | rw [evE_gint] at he | rw [evE_bin] at he | rw [evE_neg] at he | rw [evE_not] at he | rw [evE_bop] at he | rw [evE_cmp] at he | rw [evE_chain] at he | rw [evE_ite] at he | rw [evE_list] at he | rw [evE_tuple] at he | rw [evE_dict] at he | rw [evE_idx] at he | rw [evE_tok] at he | rw [evE_sliceL] at he | rw [evE_sliceH] at he | rw [evE_sliceB] at he | rw [evE_call] at he | rw [evE_bi] at he | rw [evE_join] at he | rw [evE_index] at he | rw [evE_comp] at he)
  split at he
  · rename_i x f1 e1
    split at he
    · rename_i y f2 e2
      split at he
      · rename_i e3
        split at he
        · rename_i z f3 e4
          obtain ⟨r, e5, e6⟩ := Option.map_eq_some_iff.mp he
          cases e6
          exact ⟨x, f1, y, f2, true, e1, e2, e3, rfl, .inr ⟨rfl, z, f3, r, e4, e5, rfl⟩⟩
        · cases he
      · rename_i e3
        cases he
        exact ⟨x, f1, y, f2, false, e1, e2, e3, rfl, .inl ⟨rfl, rfl⟩⟩
      · cases he
    · cases he
  · cases he

theorem release_any {A : Around} {s : Shared} {E : Value → Shared → Prop} {vs k : List Value} {Q : Unit → Shared → Prop} (h : Q () s) : wpAny (model prog w) A (release vs k) Q E s := fun Γ p hΓ => by
  rw [Sem.wp_release]; exact h

theorem C_chain {a b c : CE} (o1 o2 : CmpOp) (ha : EOk prog w hB FN F T n a) (hb : EOk prog w hB FN F T n b) (hcc : EOk prog w hB FN F T n c) : COk prog w hB FN F T n (.chain a o1 b o2 c) := by
  intro names Γ e env hc σ t f he A P O s E R K S
  obtain ⟨x, f1, y, f2, q, e1, e2, e3, _, hr⟩ := chain_parts he
  refine i_chain hc fun l p1 p2 r1 r2 pos hcN => ?_
  · clear hc; have hc := hcN; clear hcN
    simp only [Bool.and_eq_true, decide_eq_true_eq, Bool.not_eq_true'] at hc
    obtain ⟨⟨⟨⟨⟨rfl, rfl⟩, c1⟩, c2⟩, c3⟩, c4⟩ := hc
    show wpAny _ _ (do testChain pos (← eval l env) [p1, p2] (markedEach [p1, p2] [r1, r2] [eval r1 env, eval r2 env])) _ _ _
    refine wpAny_bind (wpAny_mono (ha names Γ l env c1 σ _ f1 e1 A P O s E R K S) (fun v1 s1 g1 => ?_) fun _ _ x => x)
    have em : markedEach [p1, p2] [r1, r2] [eval r1 env, eval r2 env] = [eval r1 env, eval r2 env] := by
      show eval r1 env :: [markedBehindIn p2 r2 (eval r2 env)] = _
      rw [markedBehindIn_of_false c4]
    rw [em]
    show wpAny _ _ (do
      let rv ← holding [v1] (eval r1 env)
      standAt pos
      let c ← holding [v1, rv] (compareOp p1 v1 rv)
      release [v1, rv] [c]
      if ← holding [c, rv] (truthy c) then testChain pos rv [p2] [eval r2 env] else pure false) _ _ _
    refine wpAny_bind (wpAny_holding (wpAny_mono (hb names Γ r1 env c2 σ _ f2 e2 A P O s1 E R (K.trans g1.step.1) (S.keeps g1.step.1)) (fun v2 s2 g2 => ?_) fun _ _ x => x))
    refine wpAny_bind (wpAny_standAt (wpAny_bind (wpAny_holding (cmp_ok R e3 (g1.read.mono g2.step.1) g2.read (wpAny_bind (release_any (wpAny_bind (wpAny_holding (wpAny_truthy_bool ?_)))))))))
    rcases hr with ⟨rfl, h4⟩ | ⟨rfl, z, f3, r, e4, e5, h4⟩
    · cases h4
      exact wpAny_pure ⟨rfl, g1.step.trans g2.step⟩
    · cases h4
      show wpAny _ _ (testChain pos v2 [p2] [eval r2 env]) _ _ _
      show wpAny _ _ (do
        let rv ← holding [v2] (eval r2 env)
        standAt pos
        let c ← operate [v2, rv] (compareOp p2 v2 rv)
        holding [c] (truthy c)) _ _ _
      have S2 := (S.keeps g1.step.1).keeps g2.step.1
      refine wpAny_bind (wpAny_holding (wpAny_mono (hcc names Γ r2 env c3 σ _ f3 e4 A P O s2 E R ((K.trans g1.step.1).trans g2.step.1) S2) (fun v3 s3 g3 => ?_) fun _ _ x => x))
      refine wpAny_bind (wpAny_standAt (wpAny_bind (wpAny_operating (cmp_ok R e5 (g2.read.mono g3.step.1) g3.read (wpAny_holding (wpAny_truthy_bool ⟨rfl, (g1.step.trans g2.step).trans g3.step⟩))))))
end Mine


namespace Mine
variable {prog : Program} {w : World} {hB : Heap} {FN : List Str} {F : FT} {T : TT} {n : Nat} {mg mb : Str → Option Value}

theorem E_chain {a b c : CE} (o1 o2 : CmpOp) (ha : EOk prog w hB FN F T n a) (hb : EOk prog w hB FN F T n b) (hcc : EOk prog w hB FN F T n c) : EOk prog w hB FN F T n (.chain a o1 b o2 c) := by
  intro names Γ e env hc σ t f he A P O s E R K S
  obtain ⟨x, f1, y, f2, q, e1, e2, e3, rfl, hr⟩ := chain_parts he
  refine i_chain hc fun l p1 p2 r1 r2 pos hcN => ?_
  · clear hc; have hc := hcN; clear hcN
    simp only [Bool.and_eq_true, decide_eq_true_eq, Bool.not_eq_true'] at hc
    obtain ⟨⟨⟨⟨⟨rfl, rfl⟩, c1⟩, c2⟩, c3⟩, c4⟩ := hc
    show wpAny _ _ (do compareChain pos (← eval l env) [p1, p2] (markedEach [p1, p2] [r1, r2] [eval r1 env, eval r2 env])) _ _ _
    refine wpAny_bind (wpAny_mono (ha names Γ l env c1 σ _ f1 e1 A P O s E R K S) (fun v1 s1 g1 => ?_) fun _ _ x => x)
    have em : markedEach [p1, p2] [r1, r2] [eval r1 env, eval r2 env] = [eval r1 env, eval r2 env] := by
      show eval r1 env :: [markedBehindIn p2 r2 (eval r2 env)] = _
      rw [markedBehindIn_of_false c4]
    rw [em]
    show wpAny _ _ (do
      let rv ← holding [v1] (eval r1 env)
      standAt pos
      let c ← holding [v1, rv] (compareOp p1 v1 rv)
      release [v1, rv] [c]
      if ← holding [c, rv] (truthy c) then compareChain pos rv [p2] [eval r2 env] else pure c) _ _ _
    refine wpAny_bind (wpAny_holding (wpAny_mono (hb names Γ r1 env c2 σ _ f2 e2 A P O s1 E R (K.trans g1.step.1) (S.keeps g1.step.1)) (fun v2 s2 g2 => ?_) fun _ _ x => x))
    refine wpAny_bind (wpAny_standAt (wpAny_bind (wpAny_holding (cmp_ok R e3 (g1.read.mono g2.step.1) g2.read (wpAny_bind (release_any (wpAny_bind (wpAny_holding (wpAny_truthy_bool ?_)))))))))
    rcases hr with ⟨rfl, h4⟩ | ⟨rfl, z, f3, r, e4, e5, h4⟩
    · cases h4
      exact wpAny_pure (gives_bool (g1.step.trans g2.step))
    · cases h4
      show wpAny _ _ (compareChain pos v2 [p2] [eval r2 env]) _ _ _
      show wpAny _ _ (do
        let rv ← holding [v2] (eval r2 env)
        standAt pos
        operate [v2, rv] (compareOp p2 v2 rv)) _ _ _
      have S2 := (S.keeps g1.step.1).keeps g2.step.1
      refine wpAny_bind (wpAny_holding (wpAny_mono (hcc names Γ r2 env c3 σ _ f3 e4 A P O s2 E R ((K.trans g1.step.1).trans g2.step.1) S2) (fun v3 s3 g3 => ?_) fun _ _ x => x))
      refine wpAny_bind (wpAny_standAt (wpAny_operating (cmp_ok R e5 (g2.read.mono g3.step.1) g3.read (gives_bool ((g1.step.trans g2.step).trans g3.step)))))

theorem D_nil : DOk prog w hB FN F T n .nil := by
  intro names Γ l env pos ks keys hc hk σ ts he hl A P O s E R K S
  rw [cEs_nil] at hc
  split at hc
  · (first | rw [evEs_nil] at he | rw [evEs_cons] at he); cases he
    cases ks with
    | nil =>
      cases keys with
      | nil => exact ⟨rfl, rfl, evalPairs_nil ⟨Step.refl _, [], trivial, rfl, Reps.nil⟩⟩
      | cons _ _ => exact absurd hk Bool.false_ne_true
    | cons _ _ => simp at hl
  · cases hc
theorem D_cons {e : CE} {es : CEs} (h1 : EOk prog w hB FN F T n e) (h2 : DOk prog w hB FN F T n es) : DOk prog w hB FN F T n (.cons e es) := by
  intro names Γ l env pos ks keys hc hk σ ts he hl A P O s E R K S
  rw [cEs_cons] at hc
  split at hc
  · rename_i x xs
    rw [Bool.and_eq_true] at hc
    (first | rw [evEs_nil] at he | rw [evEs_cons] at he)
    split at he
    · rename_i r e1
      split at he
      · rename_i t e2
        split at he
        · rename_i ts' e3
          cases he
          obtain ⟨k1, k2⟩ := kept_some e2
          obtain ⟨rt, rf⟩ := r
          dsimp only at k1 k2
          subst k1
          cases ks with
          | nil => simp at hl
          | cons i ks' =>
            obtain ⟨kd, p, keys', rfl, hk2⟩ := keys_cons hk
            have hl' : ks'.length = ts'.length := by simpa using hl
            obtain ⟨z1, z2, _⟩ := h2 names Γ xs env pos ks' keys' hc.2 hk2 σ ts' e3 hl' A P O s E R K S
            refine ⟨?_, ?_, ?_⟩
            · show (some (eval (.Constant (.int i) kd p) env), _) :: _ = _
              rw [dPairs, List.map_cons, ← z1]; rfl
            · rw [dPairs, List.length_cons, z2]; rfl
            · rw [dPairs]
              refine evalPairs_cons (wpAny_Constant_int ?_)
              have st := step_toks s (s.toks + 1)
              refine wpAny_bind (wpAny_mono (h1 names Γ x env hc.1 σ _ _ e1 A P O _ E R (K.trans st.1) (S.keeps st.1)) (fun v s1 g1 => wpAny_bind (wpAny_standAt (wpAny_pure ?_))) fun _ _ x => x)
              have K1 := (K.trans st.1).trans g1.step.1
              have S1 := (S.keeps st.1).keeps g1.step.1
              obtain ⟨_, _, z3⟩ := h2 names Γ xs env pos ks' keys' hc.2 hk2 σ ts' e3 hl' A P O s1 E R K1 S1
              refine wpAny_mono z3 (fun vs s2 g2 => ?_) fun _ _ x => x
              obtain ⟨st2, kvs, q1, q2, q3⟩ := g2
              refine ⟨(st.trans g1.step).trans st2, (i, v) :: kvs, ⟨intKind_is prog w _ _, rfl, q1⟩, by simp [q2], ?_⟩
              exact Reps.cons (Rep.mono (st2.1.sub P) _ (g1.kept k2 (S.keeps st.1).inP)) q3
        · cases he
      · cases he
    · cases he
  · cases hc

theorem merged_nodup : ∀ (kvs acc : List (Int × Value)), ((acc ++ kvs).map (·.1)).Nodup → merged acc kvs = acc ++ kvs
  | [], acc, _ => by simp [merged]
  | p :: r, acc, h => by
    have hn : (acc.any fun kv => kv.1 = p.1) = false := by
      rw [List.any_eq_false]
      intro q hq
      simp only [decide_eq_true_eq]
      intro e
      rw [List.map_append, List.nodup_append] at h
      exact h.2.2 q.1 (List.mem_map_of_mem hq) p.1 (by simp) e
    have e1 : stored acc p.1 p.2 = acc ++ [p] := by
      unfold stored; rw [hn]; rfl
    show merged (stored acc p.1 p.2) r = _
    rw [e1, merged_nodup r (acc ++ [p]) (by simpa using h)]
    simp

theorem sub_hide {h h' : Heap} {P : List Addr} {a : Addr} (k : Keeps h h') (e : h.get? a = none) : Sub (view h P) (view h' (a :: P)) := by
  intro b o x
  refine view_of (k _ _ (view_get x)) fun q => ?_
  rcases List.mem_cons.mp q with rfl | q
  · rw [view_get x] at e; cases e
  · exact view_not x q
/-- one more address is hidden -/
theorem Sc.hide {names : Names} {Γ : Ctx} {env : Env} {h h' : Heap} {P O : List Addr} {σ : Sig} {a : Addr} {o : Obj} (x : Sc prog w names Γ env h P O σ) (k : Keeps h h') (e : h.get? a = none) (e' : h'.get? a = some o) : Sc prog w names Γ env h' (a :: P) O σ where
  fn := x.fn
  gl := x.gl
  bl := x.bl
  kinds := x.kinds
  cells := x.cells
  locN := let ⟨m, b⟩ := x.locN; ⟨m, b.keeps k⟩
  locP := .tail _ x.locP
  cellP := fun id c q => let ⟨b, d, v, f⟩ := x.cellP id c q; ⟨.tail _ b, d, v, f.keeps k⟩
  cellI := x.cellI
  vars := fun id i t o e1 e2 => by
    obtain ⟨v, p, q⟩ := x.vars id i t o e1 e2
    refine ⟨v, p.keeps k, ?_⟩
    cases o with
    | false => exact Rep.mono (sub_hide k e) _ q
    | true =>
      obtain ⟨b, rfl, h1, h2, h3, h4⟩ := q
      exact ⟨b, rfl, h1, h2, h3, h4.mono (sub_hide k e) fun o z => k _ o z⟩
  inP := fun b hb => by
    rcases List.mem_cons.mp hb with rfl | hb
    · exact ⟨o, e'⟩
    · obtain ⟨o', z⟩ := x.inP b hb; exact ⟨o', k _ _ z⟩
  oP := fun b hb => .tail _ (x.oP b hb)

theorem E_dict (HB : Base prog w hB FN F T n mg mb) {es : CEs} (ks : List Int) (h : DOk prog w hB FN F T n es) : EOk prog w hB FN F T n (.dict ks es) := by
  intro names Γ e env hc σ t f he A P O s E R K S
  refine i_dict hc fun keys vs pos hcN => ?_
  · clear hc; have hc := hcN; clear hcN
    rw [Bool.and_eq_true] at hc
    (first | rw [evE_lit] at he | rw [evE_var] at he | rw [evE_gint] at he | rw [evE_bin] at he | rw [evE_neg] at he | rw [evE_not] at he | rw [evE_bop] at he | rw [evE_cmp] at he | rw [evE_chain] at he | rw [evE_ite] at he | rw [evE_list] at he | rw [evE_tuple] at he | rw [evE_dict] at he | rw [evE_idx] at he | rw [evE_tok] at he | rw [evE_sliceL] at he | rw [evE_sliceH] at he | rw [evE_sliceB] at he | rw [evE_call] at he | rw [evE_bi] at he | rw [evE_join] at he | rw [evE_index] at he | rw [evE_comp] at he)
    split at he
    · rename_i xs e1
      split at he
      · rename_i hz
        cases he
        simp only [Bool.and_eq_true, decide_eq_true_eq] at hz
        obtain ⟨⟨hz1, hz2⟩, hz3⟩ := hz
        have hsys : ((s.heap.objs.size : Addr) == sysModules) = false := by
          have : mainGlobals < s.heap.objs.size := (HB.g.keeps K).lt
          refine beq_eq_false_iff_ne.mpr fun q => ?_
          rw [q] at this
          exact absurd this (by decide)
        have KP := Keeps.push s.heap { cls := .type "dict", data := .dict #[] }
        have fr : s.heap.get? s.heap.objs.size = none := (Keeps.refl s.heap).fresh
        have SP := S.hide (a := s.heap.objs.size) KP fr (Heap.get?_push_size _ rfl)
        obtain ⟨z1, z2, z3⟩ := h names Γ vs env pos ks keys hc.2 hc.1 σ xs e1 hz1 A (s.heap.objs.size :: P) O { s with heap := s.heap.push { cls := .type "dict", data := .dict #[] } } E R (K.trans KP) SP
        by_cases h0 : ks = []
        · subst h0
          have hx : xs = [] := by simpa using hz1.symm
          subst hx
          cases keys with
          | cons _ _ => exact absurd hc.1 Bool.false_ne_true
          | nil =>
            have hv : vs = [] := by
              cases es with
              | nil =>
                have := hc.2
                rw [cEs_nil] at this
                split at this
                · rfl
                · cases this
              | cons c cs =>
                (first | rw [evEs_nil] at e1 | rw [evEs_cons] at e1)
                split at e1
                · split at e1
                  · split at e1 <;> cases e1
                  · cases e1
                · cases e1
            subst hv
            refine wpAny_Dict_empty ⟨step_push _ _, _, rfl, fr, ?_⟩
            unfold ORep
            have hd := Heap.DictOf.new (knd := intKind prog w) s.heap
            obtain ⟨o, ho, hdo⟩ := Heap.dictOf_iff.mp hd
            exact ⟨o, [], hsys, ho, hdo, rfl, Reps.nil⟩
        · refine wpAny_Dict_pairs (knd := intKind prog w) z1 ?_ (by rw [z2]; exact hz2) ?_
          · intro q; rw [q] at z2; apply h0; exact List.length_eq_zero_iff.mp (by simpa using z2.symm)
          · refine wpAny_mono z3 (fun us s1 g1 => ?_) fun _ _ x => x
            obtain ⟨st, kvs, q1, q2, q3⟩ := g1
            refine ⟨kvs, q1, (Heap.DictOf.new (knd := intKind prog w) s.heap).keep st.1, fun h' hd' hs' => ?_⟩
            have K1 : Keeps s.heap s1.heap := KP.trans st.1
            refine ⟨⟨keeps_same_new K1 hs' fr, st.2.1, st.2.2⟩, _, rfl, fr, ?_⟩
            rw [merged_nodup kvs [] (by simpa [q2] using hz3), List.nil_append] at hd'
            obtain ⟨o, ho, hdo⟩ := Heap.dictOf_iff.mp hd'
            unfold ORep
            exact ⟨o, kvs, hsys, ho, hdo, q2, Reps.mono (keepsOff_same hs' (.head _)).sub _ q3⟩
      · cases he
    · cases he
end Mine


namespace Mine
variable {prog : Program} {w : World} {hB : Heap} {FN : List Str} {F : FT} {T : TT} {n : Nat} {mg mb : Str → Option Value}
variable {A : Around} {E : Value → Shared → Prop} {s : Shared} {P O Mu : List Addr} {names : Names} {Γ : Ctx} {env : Env} {σ : Sig}

theorem ns_same {h : Heap} {a : Addr} {m m' : Str → Option Value} (x : h.Ns a m) (y : h.Ns a m') : m = m' := by
  obtain ⟨o, es, ep, h1, h2, _, h3⟩ := x
  obtain ⟨o', es', ep', h1', h2', _, h3'⟩ := y
  rw [h1] at h1'; cases h1'
  rw [h2] at h2'; cases h2'
  funext q; rw [← h3 q, ← h3' q]

/-- the addresses where a name's value lies may change -/
noncomputable def MayStore (Mu : List Addr) (env : Env) (id : Str) : Prop := env.locals ∈ Mu ∧ ∀ c, env.cells.lookup id = some c → c ∈ Mu
noncomputable def Inj (Γ : Ctx) : Prop := ∀ a b i, Γ.lookup a = some i → Γ.lookup b = some i → a = b

theorem vrep_store {h h' : Heap} {v : Value} {t : PV} {o : Bool} {c : Addr} (x : VRep prog w env P O h v t o) (hs : Heap.SameBut c h h') (hc : c ∈ P) (hn : c = env.locals ∨ ∃ id, env.cells.lookup id = some c) : VRep prog w env P O h' v t o := by
  have sb := (keepsOff_same hs hc).sub
  cases o with
  | false => exact Rep.mono sb _ x
  | true =>
    obtain ⟨a, rfl, h1, h2, h3, h4⟩ := x
    have hne : a ≠ c := by
      rcases hn with rfl | ⟨id, hid⟩
      · exact h2
      · exact h3 id c hid
    exact ⟨a, rfl, h1, h2, h3, h4.mono sb fun o e => (hs.2 a hne).trans e⟩

theorem VarIs.uniq {h : Heap} {id : Str} {v v' : Value} (x : VarIs env h id v) (y : VarIs env h id v') : v = v' := by
  rcases x with ⟨a, m, b, c⟩ | ⟨a, c, b, o, d1, d2⟩ <;> rcases y with ⟨a', m', b', c'⟩ | ⟨a', c', b', o', d1', d2'⟩
  · have := ns_same b b'; subst this; rw [c] at c'; cases c'; rfl
  · rw [a] at a'; rcases a' with q | q <;> cases q
  · rw [a'] at a; rcases a with q | q <;> cases q
  · rw [b] at b'; cases b'; rw [d1] at d1'; cases d1'; rw [d2] at d2'; cases d2'; rfl

/-- the other names stay -/
noncomputable def Stay (env : Env) (ids : List Str) (h h' : Heap) : Prop := ∀ id v, id ∉ ids → VarIs env h id v → VarIs env h' id v

theorem store_ok2 {M : Model} {id : Str} {x : Nat} {v : Value} {t : PV} {o : Bool} (S : Sc prog w names Γ env s.heap P O σ) (hk : env.kindOf id = some .local ∨ env.kindOf id = some .cell) (hΓ : Γ.lookup id = some x) (hi : Inj Γ) (hm : MayStore Mu env id)
    (hcell : env.kindOf id = some .cell → ∃ c, env.cells.lookup id = some c) (hv : VRep prog w env P O s.heap v t o) :
    wpAny M A (storeName env id v) (fun _ s' => KeepsOff Mu s.heap s'.heap ∧ s'.gens = s.gens ∧ s'.os = s.os ∧ Sc prog w names Γ env s'.heap P O (upd σ x t o) ∧ VarIs env s'.heap id v ∧ Stay env [id] s.heap s'.heap) E s := by
  rcases hk with hk | hk
  · obtain ⟨m, hn⟩ := S.locN
    refine wpAny_storeName_local hk hn (fun h' hn' hs' => ?_) (by rw [S.fn]; rfl)
    have stay : Stay env [id] s.heap h' := fun id' v' hne h1 => by
      have hne : id' ≠ id := fun q => hne (q ▸ .head _)
      rcases h1 with ⟨a, m', b, c⟩ | ⟨a, c, b, d⟩
      · have := ns_same b hn
        subst this
        exact .inl ⟨a, _, hn', by simp [hne, c]⟩
      · exact .inr ⟨a, c, b, d.sameBut hs' (S.cellP id' c b).2.1⟩
    have mine : VarIs env h' id v := .inl ⟨hk, _, hn', by simp⟩
    refine ⟨keepsOff_same hs' hm.1, rfl, rfl, ?_, mine, stay⟩
    exact {
      fn := S.fn, gl := S.gl, bl := S.bl, kinds := S.kinds, cells := S.cells, locN := ⟨_, hn'⟩, locP := S.locP
      cellP := fun id' c e => by
        obtain ⟨h1, h2, v', h3⟩ := S.cellP id' c e
        exact ⟨h1, h2, v', h3.sameBut hs' h2⟩
      cellI := S.cellI
      vars := fun id' i t' o' e1 e2 => by
        unfold upd at e2
        split at e2
        · rename_i hx
          cases e2
          have : id' = id := hi _ _ x (by rw [e1, hx]) hΓ
          subst this
          exact ⟨v, mine, vrep_store hv hs' S.locP (.inl rfl)⟩
        · rename_i hx
          obtain ⟨v', h1, h2⟩ := S.vars id' i t' o' e1 e2
          have hne : id' ≠ id := fun q => hx (by rw [q, hΓ] at e1; cases e1; rfl)
          exact ⟨v', stay _ _ (by simpa using hne) h1, vrep_store h2 hs' S.locP (.inl rfl)⟩
      inP := fun a ha => by
        obtain ⟨oo, ho⟩ := S.inP a ha
        by_cases q : a = env.locals
        · subst q; obtain ⟨o1, _, _, h1, _⟩ := hn'; exact ⟨o1, h1⟩
        · exact ⟨oo, (hs'.2 a q).trans ho⟩
      oP := S.oP }
  · obtain ⟨c, hc⟩ := hcell hk
    obtain ⟨hP, hcl, v0, hv0⟩ := S.cellP id c hc
    refine wpAny_storeName_cell S.fn hk hc hv0 fun h' hn' hs' => ?_
    have stay : Stay env [id] s.heap h' := fun id' v' hne h1 => by
      have hne : id' ≠ id := fun q => hne (q ▸ .head _)
      rcases h1 with ⟨a, m', b, d⟩ | ⟨a, c', b, d⟩
      · exact .inl ⟨a, m', b.sameBut hs' (Ne.symm hcl), d⟩
      · exact .inr ⟨a, c', b, d.sameBut hs' fun q => hne (S.cellI id' id c (q ▸ b) hc)⟩
    have mine : VarIs env h' id v := .inr ⟨.inl hk, c, hc, hn'⟩
    refine ⟨keepsOff_same hs' (hm.2 c hc), rfl, rfl, ?_, mine, stay⟩
    exact {
      fn := S.fn, gl := S.gl, bl := S.bl, kinds := S.kinds, cells := S.cells
      locN := let ⟨m, hm⟩ := S.locN; ⟨m, hm.sameBut hs' (Ne.symm hcl)⟩
      locP := S.locP
      cellP := fun id' c' e => by
        obtain ⟨h1, h2, v', h3⟩ := S.cellP id' c' e
        refine ⟨h1, h2, ?_⟩
        by_cases q : c' = c
        · subst q; exact ⟨_, hn'⟩
        · exact ⟨v', h3.sameBut hs' q⟩
      cellI := S.cellI
      vars := fun id' i t' o' e1 e2 => by
        unfold upd at e2
        split at e2
        · rename_i hx
          cases e2
          have : id' = id := hi _ _ x (by rw [e1, hx]) hΓ
          subst this
          exact ⟨v, mine, vrep_store hv hs' hP (.inr ⟨_, hc⟩)⟩
        · rename_i hx
          obtain ⟨v', h1, h2⟩ := S.vars id' i t' o' e1 e2
          have hne : id' ≠ id := fun q => hx (by rw [q, hΓ] at e1; cases e1; rfl)
          exact ⟨v', stay _ _ (by simpa using hne) h1, vrep_store h2 hs' hP (.inr ⟨_, hc⟩)⟩
      inP := fun a ha => by
        obtain ⟨oo, ho⟩ := S.inP a ha
        by_cases q : a = c
        · subst q; obtain ⟨o1, h1, _⟩ := hn'; exact ⟨o1, h1⟩
        · exact ⟨oo, (hs'.2 a q).trans ho⟩
      oP := S.oP }
/-- targets whose names may be stored -/
noncomputable def TgtOk (Mu : List Addr) (env : Env) : PySem.Expr → Prop
  | .Name id _ => (env.kindOf id = some .local ∨ env.kindOf id = some .cell) ∧ MayStore Mu env id ∧ (env.kindOf id = some .cell → ∃ c, env.cells.lookup id = some c)
  | .Tuple [.Name a _, .Name b _] _ _ => ((env.kindOf a = some .local ∨ env.kindOf a = some .cell) ∧ MayStore Mu env a ∧ (env.kindOf a = some .cell → ∃ c, env.cells.lookup a = some c)) ∧
      ((env.kindOf b = some .local ∨ env.kindOf b = some .cell) ∧ MayStore Mu env b ∧ (env.kindOf b = some .cell → ∃ c, env.cells.lookup b = some c))
  | _ => False

theorem assign_Tuple (a b : Str) (pa pb p : Pos) (k : Nat) (v : Value) : assign (.Tuple [.Name a pa, .Name b pb] k p) env v = (do standAt p; unpack v [(false, assign (.Name a pa) env), (false, assign (.Name b pb) env)]) := rfl

theorem assign_ok2 {tg : Tgt} {e : PySem.Expr} {v : Value} {t : PV} {σ' : Sig} (hh : A.handled = none) (S : Sc prog w names Γ env s.heap P O σ) (hc : chkT Γ tg e = true) (hi : Inj Γ) (ht : TgtOk Mu env e) (hM : ∀ a ∈ Mu, a ∈ P) (hv : Rep prog w (view s.heap P) v t) (hb : bindT σ tg t = some σ') :
    wpAny (model prog w) A (assign e env v) (fun _ s' => KeepsOff Mu s.heap s'.heap ∧ s'.gens = s.gens ∧ s'.os = s.os ∧ Sc prog w names Γ env s'.heap P O σ' ∧ Stay env ((tgtNames tg e).map (·.1)) s.heap s'.heap) E s := by
  cases tg with
  | one x =>
    obtain ⟨id, p, rfl, hcN⟩ := t_one hc
    have hc := hcN
    cases hb
    unfold TgtOk at ht
    exact wpAny_assign_Name (wpAny_mono (store_ok2 S ht.1 hc.1 hi ht.2.1 ht.2.2 (o := false) hv) (fun _ s1 g => ⟨g.1, g.2.1, g.2.2.1, g.2.2.2.1, g.2.2.2.2.2⟩) fun _ _ x => x)
  | two x y =>
    obtain ⟨a, pa, b, pb, k, p, rfl, hcN⟩ := t_two hc
    have hc := hcN
    simp only [Bool.and_eq_true, decide_eq_true_eq] at hc
    obtain ⟨⟨⟨⟨c1, c2⟩, c3⟩, c4⟩, c5⟩ := hc
    have key : ∀ (va vb : Value) (ta tb : PV) (s1 : Shared), Keeps s.heap s1.heap → s1.gens = s.gens → s1.os = s.os → Rep prog w (view s1.heap P) va ta → Rep prog w (view s1.heap P) vb tb → upd (upd σ x ta false) y tb false = σ' →
        wpAny (model prog w) A (assignInOrder [assign (.Name a pa) env, assign (.Name b pb) env] [va, vb]) (fun _ s' => KeepsOff Mu s.heap s'.heap ∧ s'.gens = s.gens ∧ s'.os = s.os ∧ Sc prog w names Γ env s'.heap P O σ' ∧ Stay env [a, b] s.heap s'.heap) E s1 := by
      intro va vb ta tb s1 K g1 g2 ra rb hσ
      subst hσ
      unfold TgtOk at ht
      show wpAny _ _ (do holding [vb] (assign (.Name a pa) env va); assignInOrder [assign (.Name b pb) env] [vb]) _ _ _
      refine wpAny_bind (wpAny_holding (wpAny_assign_Name (wpAny_mono (store_ok2 (S.keeps K) ht.1.1 c1 hi ht.1.2.1 ht.1.2.2 (o := false) ra) (fun _ s2 g => ?_) fun _ _ x => x)))
      obtain ⟨k2, q1, q2, S2, _, y2⟩ := g
      have sb : Sub (view s1.heap P) (view s2.heap P) := by
        intro z o e; exact view_of (k2 z o (fun q => view_not e (hM z q)) (view_get e)) (view_not e)
      show wpAny _ _ (do holding [] (assign (.Name b pb) env vb); assignInOrder [] []) _ _ _
      refine wpAny_bind (wpAny_holding (wpAny_assign_Name (wpAny_mono (store_ok2 S2 ht.2.1 c2 hi ht.2.2.1 ht.2.2.2 (o := false) (Rep.mono sb _ rb)) (fun _ s3 g => ?_) fun _ _ x => x)))
      obtain ⟨k3, q3, q4, S3, _, y3⟩ := g
      exact wpAny_pure ⟨((K.off Mu).trans k2).trans k3, q3.trans (q1.trans g1), q4.trans (q2.trans g2), S3, fun id v hn hv => y3 id v (fun q => hn (by simp at q; simp [q])) (y2 id v (fun q => hn (by simp at q; simp [q])) (hv.keeps K))⟩
    have newK : ∀ h', Heap.ExtBut s.heap.objs.size s.heap h' → Keeps s.heap h' := fun h' x => keeps_ext_new (Keeps.refl _) x (Keeps.refl s.heap).fresh
    rw [assign_Tuple]
    unfold unpack
    refine wpAny_bind (wpAny_standAt (wpAny_bind (wpAny_holding ?_)))
    show wpAny _ _ (unpackItems v 2 none) _ _ _
    obtain ⟨ta, tb, rfl | rfl, rfl⟩ := bindT_two hb
    · clear hb
      unfold Rep at hv
      obtain ⟨l, vs, m, rfl, h1, h2⟩ := hv
      have z := h2.length
      have hz : vs.size = 2 := by rw [← Array.length_toList, z]; rfl
      have := wpAny_unpackItems_tuple (prog := prog) (w := w) (E := E) (Q := fun vs s₁ => wpAny (model prog w) A (assignInOrder [assign (.Name a pa) env, assign (.Name b pb) env] vs) (fun _ s' => KeepsOff Mu s.heap s'.heap ∧ s'.gens = s.gens ∧ s'.os = s.os ∧ Sc prog w names Γ env s'.heap P O (upd (upd σ x ta false) y tb false) ∧ Stay env [a, b] s.heap s'.heap) E s₁)
        hh (items := vs) ⟨_, view_get h1, rfl, m, rfl⟩ (fun h' hx => by
          have K := newK h' hx
          unfold Reps at h2
          obtain ⟨va, r, e1, ra, h2⟩ := h2
          unfold Reps at h2
          obtain ⟨vb, r', rfl, rb, h2⟩ := h2
          unfold Reps at h2
          subst h2
          rw [e1]
          exact key va vb ta tb { s with heap := h' } K rfl rfl (Rep.mono (K.sub P) _ ra) (Rep.mono (K.sub P) _ rb) rfl)
      rw [hz] at this
      exact this
    · clear hb
      unfold Rep at hv
      obtain ⟨l, vs, m, rfl, h1, h2⟩ := hv
      have z := h2.length
      have hz : vs.size = 2 := by rw [← Array.length_toList, z]; rfl
      have := kun_itemsOf (prog := prog) (w := w) (E := E) (Q := fun vs s₁ => wpAny (model prog w) A (assignInOrder [assign (.Name a pa) env, assign (.Name b pb) env] vs) (fun _ s' => KeepsOff Mu s.heap s'.heap ∧ s'.gens = s.gens ∧ s'.os = s.os ∧ Sc prog w names Γ env s'.heap P O (upd (upd σ x ta false) y tb false) ∧ Stay env [a, b] s.heap s'.heap) E s₁)
        hh (items := vs) ⟨_, view_get h1, rfl, m, rfl⟩ (fun h' hx => by
          have K := newK h' hx
          unfold Reps at h2
          obtain ⟨va, r, e1, ra, h2⟩ := h2
          unfold Reps at h2
          obtain ⟨vb, r', rfl, rb, h2⟩ := h2
          unfold Reps at h2
          subst h2
          rw [e1]
          exact key va vb ta tb { s with heap := h' } K rfl rfl (Rep.mono (K.sub P) _ ra) (Rep.mono (K.sub P) _ rb) rfl)
      rw [hz] at this
      exact this

theorem assign_ok {tg : Tgt} {e : PySem.Expr} {v : Value} {t : PV} {σ' : Sig} (hh : A.handled = none) (S : Sc prog w names Γ env s.heap P O σ) (hc : chkT Γ tg e = true) (hi : Inj Γ) (ht : TgtOk Mu env e) (hM : ∀ a ∈ Mu, a ∈ P) (hv : Rep prog w (view s.heap P) v t) (hb : bindT σ tg t = some σ') :
    wpAny (model prog w) A (assign e env v) (fun _ s' => KeepsOff Mu s.heap s'.heap ∧ s'.gens = s.gens ∧ s'.os = s.os ∧ Sc prog w names Γ env s'.heap P O σ') E s :=
  wpAny_mono (assign_ok2 hh S hc hi ht hM hv hb) (fun _ _ g => ⟨g.1, g.2.1, g.2.2.1, g.2.2.2.1⟩) fun _ _ x => x
end Mine


namespace Mine
variable {prog : Program} {w : World} {hB : Heap} {FN : List Str} {F : FT} {T : TT} {n : Nat} {mg mb : Str → Option Value}

/-- what is done behind the tests of the clause ahead -/
noncomputable def nextG (e elt : PySem.Expr) (gens : List Comprehension) (d : Nat) (acc : Value) (env : Env) : Sem Unit :=
  match gens[d]? with
  | some g' => do
    let x ← eval g'.iter env
    standAt g'.iter.pos
    let x ← foldedSetIterable g'.iter env x
    let it ← holding [x] (pyIter x)
    let _ ← runOwn (.compStart e d it acc env) env
    pure ()
  | none => do
    let x ← eval elt env
    let _ ← call (.builtin "list.append") [acc, x]
    pure ()

theorem turn_eq {elt : PySem.Expr} {gens : List Comprehension} {sc : Scope} {pos : Pos} {d : Nat} {it acc : Value} {env : Env} {tgt iter : PySem.Expr} {ifs : List PySem.Expr} (hg : gens[d]? = some ⟨tgt, iter, ifs, 0⟩)
    (hn : ∀ g', gens[d + 1]? = some g' → g'.is_async = 0) :
    compTurn (.ListComp elt gens sc pos) d it acc env = (standAt iter.pos >>= fun _ => pyNext it >>= fun r => match r with
      | none => pure (.done .next)
      | some v => letOwnedTupleGo tgt it v >>= fun _ => assign tgt env v >>= fun _ =>
        (forIn ifs true fun c r => if r = true then do let ok ← isTrue c env (eval c env); pure (ForInStep.yield ok) else pure (ForInStep.yield r)) >>= fun ok =>
          if ok then (nextG (.ListComp elt gens sc pos) elt gens (d + 1) acc env >>= fun _ => again (.compLoop (.ListComp elt gens sc pos) d it acc env))
          else again (.compLoop (.ListComp elt gens sc pos) d it acc env)) := by
  unfold compTurn
  simp only [hg, show ((0 : Int) != 0) = false from rfl, Bool.false_eq_true, if_false]
  refine bind_congr fun _ => bind_congr fun r => ?_
  cases r with
  | none => rfl
  | some v =>
    refine bind_congr fun _ => bind_congr fun _ => bind_congr fun ok => ?_
    cases ok with
    | false => rfl
    | true =>
      unfold nextG
      cases hgn : gens[d + 1]? with
      | none => simp only [if_true]
      | some g' =>
        have ha := hn g' hgn
        simp only [ha, show ((0 : Int) != 0) = false from rfl, Bool.false_eq_true, if_false, if_true, bind_assoc, pure_bind]

theorem list_append_L {l : Addr} {items : Array Value} {m : Nat} {x : Value} {A : Around} {s : Shared} {E : Value → Shared → Prop} {Q : Value → Shared → Prop} (hl : IsL s.heap l items m) (hsz : items.size ≤ sizeLine)
    (hQ : Q .none { s with heap := s.heap.update l (Obj.mapSeq fun xs => xs.push x) }) : wpAny (model prog w) A (call (.builtin "list.append") [.ref l, x]) Q E s :=
  call_meets PySem.F.slot_list_append ⟨_, hl, rfl⟩ PySem.F.entry_list_append (PySem.F.args_list_append_2 _ _) (PySem.list_append l items m x hsz) ⟨hl, hQ⟩

structure CStep (Mu : List Addr) (s s' : Shared) : Prop where
  k : KeepsOff Mu s.heap s'.heap
  g : s'.gens = s.gens
  o : s'.os = s.os
theorem CStep.of_step {Mu : List Addr} {s s' : Shared} (x : Step s s') : CStep Mu s s' := ⟨x.1.off Mu, x.2.1, x.2.2⟩
theorem CStep.trans {Mu : List Addr} {s s' s'' : Shared} (x : CStep Mu s s') (y : CStep Mu s' s'') : CStep Mu s s'' := ⟨x.k.trans y.k, y.g.trans x.g, y.o.trans x.o⟩

/-- where the comprehension stands: its names, its list -/
structure CAt (prog : Program) (w : World) (hB : Heap) (names : Names) (Γ : Ctx) (env : Env) (gens : List Comprehension) (Mt P O : List Addr) (acc : Addr) (σ : Sig) (ts : List PV) (s : Shared) : Prop where
  kb : Keeps hB s.heap
  S : Sc prog w names Γ env s.heap P O σ
  inj : Inj Γ
  tg : ∀ c ∈ gens, TgtOk Mt env c.target
  mP : ∀ a ∈ acc :: Mt, a ∈ P
  mB : ∀ a ∈ acc :: Mt, hB.get? a = none
  an : acc ∉ Mt
  al : acc ≠ env.locals
  ac : ∀ id c, env.cells.lookup id = some c → acc ≠ c
  ao : acc ∉ O
  ar : ORep prog w (view s.heap P) s.heap acc (.list ts)

section
variable {names : Names} {Γ : Ctx} {env : Env} {gens : List Comprehension} {Mt P O : List Addr} {acc : Addr} {σ : Sig} {ts : List PV} {s s' : Shared}

theorem CAt.step (x : CAt prog w hB names Γ env gens Mt P O acc σ ts s) (k : Step s s') : CAt prog w hB names Γ env gens Mt P O acc σ ts s' :=
  { x with kb := x.kb.trans k.1, S := x.S.keeps k.1, ar := x.ar.mono (k.1.sub P) fun o e => k.1 _ _ e }
theorem CAt.hide {it : Addr} {o : Obj} (x : CAt prog w hB names Γ env gens Mt P O acc σ ts s) (k : Step s s') (e : s.heap.get? it = none) (e' : s'.heap.get? it = some o) : CAt prog w hB names Γ env gens Mt (it :: P) O acc σ ts s' :=
  { x with kb := x.kb.trans k.1, S := x.S.hide k.1 e e', mP := fun a ha => .tail _ (x.mP a ha), ar := x.ar.mono (sub_hide k.1 e) fun o e => k.1 _ _ e }
theorem Sc.unhide {it : Addr} {h h' : Heap} (x : Sc prog w names Γ env h' (it :: P) O σ) (y : Sc prog w names Γ env h P O σ) (k : ∀ a ∈ P, ∃ o, h'.get? a = some o) : Sc prog w names Γ env h' P O σ where
  fn := x.fn
  gl := x.gl
  bl := x.bl
  kinds := x.kinds
  cells := x.cells
  locN := x.locN
  locP := y.locP
  cellP := fun id c e => let ⟨_, b, d⟩ := x.cellP id c e; ⟨(y.cellP id c e).1, b, d⟩
  cellI := x.cellI
  vars := fun id i t o e1 e2 => by
    obtain ⟨v, a, b⟩ := x.vars id i t o e1 e2
    refine ⟨v, a, ?_⟩
    cases o with
    | false => exact Rep.mono (view_sub fun z hz => .tail _ hz) _ b
    | true => obtain ⟨a', rfl, h1, h2, h3, h4⟩ := b; exact ⟨a', rfl, h1, h2, h3, h4.mono (view_sub fun z hz => .tail _ hz) fun _ e => e⟩
  inP := fun a ha => k a ha
  oP := y.oP
end

noncomputable def GOk (prog : Program) (w : World) (hB : Heap) (FN : List Str) (F : FT) (T : TT) (n : Nat) (g : CG) : Prop :=
  ∀ names Γ env elt gens sc pos d, chkG FN names Γ g (gens.drop d) elt = true → ∀ σ us, evalG F T false g σ = some us → (∀ x ∈ g.vars, σ x = none) → g.vars.Nodup →
    ∀ (A : Around) (P O Mt : List Addr) (s : Shared) (E : Value → Shared → Prop) (acc : Addr) (ts : List PV), Room A n → CAt prog w hB names Γ env gens Mt P O acc σ ts s → ts.length + us.length ≤ 1048576 →
      wpAny (model prog w) A (nextG (.ListComp elt gens sc pos) elt gens d (.ref acc) env) (fun _ s' => CStep (acc :: Mt) s s' ∧ CAt prog w hB names Γ env gens Mt P O acc σ (ts ++ us) s') E s

theorem drop_none {α : Type} {l : List α} {d : Nat} (h : l.drop d = []) : l[d]? = none := List.getElem?_eq_none (List.drop_eq_nil_iff.mp h)

theorem G_elt {e : CE} (h : EOk prog w hB FN F T n e) : GOk prog w hB FN F T n (.elt e) := by
  intro names Γ env elt gens sc pos d hc σ us he hv hn A P O Mt s E acc ts R C hz
  rw [cG_elt] at hc
  split at hc
  · rename_i hd
    (first | rw [evG_elt] at he | rw [evG_gen] at he)
    split at he
    · rename_i r e1
      obtain ⟨t, e2, rfl⟩ := Option.map_eq_some_iff.mp he
      obtain ⟨k1, k2⟩ := kept_some e2
      obtain ⟨rt, rf⟩ := r
      dsimp only at k1 k2
      subst k1
      unfold nextG
      rw [drop_none hd]
      refine wpAny_bind (wpAny_mono (h names Γ elt env hc σ _ _ e1 A P O s E R C.kb C.S) (fun v s1 g1 => ?_) fun _ _ x => x)
      have C1 := C.step g1.step
      have ar := C1.ar
      unfold ORep at ar
      obtain ⟨vs, m, h1, h2⟩ := ar
      have z := h2.length; rw [Array.length_toList] at z
      have hz' : ts.length + 1 ≤ 1048576 := by simpa using hz
      refine wpAny_bind (list_append_L h1 (by rw [sizeLine_val]; lia) (wpAny_pure ?_))
      have hs : Heap.SameBut acc s1.heap (s1.heap.update acc (Obj.mapSeq fun xs => xs.push v)) := Heap.SameBut.update ..
      have hL := IsL.update h1 (fun xs => xs.push v)
      have hP : acc ∈ P := C.mP acc (.head _)
      have sb := (keepsOff_same hs hP).sub
      have kO : KeepsOff (acc :: Mt) s1.heap (s1.heap.update acc (Obj.mapSeq fun xs => xs.push v)) := keepsOff_same hs (.head _)
      have kall : ∀ b o, b ≠ acc → s1.heap.get? b = some o → (s1.heap.update acc (Obj.mapSeq fun xs => xs.push v)).get? b = some o := fun b o hb e => (hs.2 b hb).trans e
      refine ⟨⟨(g1.step.1.off (acc :: Mt)).trans kO, g1.step.2.1, g1.step.2.2⟩, ?_⟩
      refine { C1 with kb := fun b o e => kall b o (fun q => by rw [q, C.mB acc (.head _)] at e; cases e) (C1.kb b o e), S := ?_, ar := ?_ }
      · exact {
          fn := C1.S.fn, gl := C1.S.gl, bl := C1.S.bl, kinds := C1.S.kinds, cells := C1.S.cells
          locN := let ⟨m, hm⟩ := C1.S.locN; ⟨m, hm.sameBut hs (Ne.symm C.al)⟩
          locP := C1.S.locP
          cellP := fun id c e => let ⟨a, b, v', d⟩ := C1.S.cellP id c e; ⟨a, b, v', d.sameBut hs (Ne.symm (C.ac id c e))⟩
          cellI := C1.S.cellI
          vars := fun id i t o e1 e2 => by
            obtain ⟨v', a, b⟩ := C1.S.vars id i t o e1 e2
            refine ⟨v', ?_, ?_⟩
            · rcases a with ⟨a, m', b, c⟩ | ⟨a, c, b, d⟩
              · exact .inl ⟨a, m', b.sameBut hs (Ne.symm C.al), c⟩
              · exact .inr ⟨a, c, b, d.sameBut hs (Ne.symm (C.ac id c b))⟩
            · cases o with
              | false => exact Rep.mono sb _ b
              | true =>
                obtain ⟨a', rfl, h1, h2, h3, h4⟩ := b
                exact ⟨a', rfl, h1, h2, h3, h4.mono sb fun o e => kall _ _ (fun q => C.ao (q ▸ h1)) e⟩
          inP := fun a ha => by
            by_cases q : a = acc
            · subst q; exact ⟨_, hL⟩
            · obtain ⟨o, e⟩ := C1.S.inP a ha; exact ⟨o, kall _ _ q e⟩
          oP := C1.S.oP }
      · unfold ORep
        refine ⟨_, _, hL, ?_⟩
        rw [Array.toList_push]
        exact (Reps.mono sb _ h2).append (Reps.cons (Rep.mono sb _ (g1.kept k2 C.S.inP)) Reps.nil)
    · cases he
  · cases hc
end Mine


namespace Mine
variable {prog : Program} {w : World} {hB : Heap} {FN : List Str} {F : FT} {T : TT} {n : Nat} {mg mb : Str → Option Value}
variable {names : Names} {Γ : Ctx} {env : Env} {gens : List Comprehension} {Mt P O : List Addr} {acc it : Addr} {σ : Sig} {ts : List PV} {s s' : Shared} {A : Around} {E : Value → Shared → Prop}

theorem comp_start {R : Result → Shared → Prop} {elt : PySem.Expr} {sc : Scope} {pos : Pos} {d : Nat} {itv accv : Value} {c : Comprehension} (hg : gens[d]? = some c) (ha : c.is_async = 0)
    (h0 : codeAny (model prog w) A (.compLoop (.ListComp elt gens sc pos) d itv accv env) R s)
    (h : wpAny (model prog w) A (pyIter itv) (fun it' s' => codeAny (model prog w) A (.compLoop (.ListComp elt gens sc pos) d it' accv env) R s') (notedBy (model prog w) A env fun x s' => R (.error x) s') s) :
    codeAny (model prog w) A (.compStart (.ListComp elt gens sc pos) d itv accv env) R s := by
  refine codeAny_of_tree ?_
  show wpAny _ _ ((compStart (.ListComp elt gens sc pos) d itv accv env).onRaise (fun x => do noteFrame x env; standAt theWindowsPlace)) _ _ s
  refine wpAny_notedAt ?_
  have e : compStart (.ListComp elt gens sc pos) d itv accv env = (do
      if (← ask).params.followText "comprehension-iter-twice" then return ← again (.compLoop (.ListComp elt gens sc pos) d itv accv env)
      rule "comprehension.iter-twice"
      standAt c.iter.pos
      again (.compLoop (.ListComp elt gens sc pos) d (← pyIter itv) accv env)) := by
    unfold compStart
    show (if ((gens[d]?).elim false fun x => x.is_async != 0) = true then _ else _) = _
    simp only [show clausesOf (PySem.Expr.ListComp elt gens sc pos) = gens from rfl, hg, Option.elim, ha, show ((0 : Int) != 0) = false from rfl, Bool.false_eq_true, if_false]
  rw [e]
  show wpAny _ _ (ask >>= _) _ _ s
  refine wpAny_bind (wpAny_askSetting (wpAny_ite ?_))
  split
  · exact wpAny_bind (wpAny_pure (wpAny_pure (And.intro rfl h0)))
  · exact wpAny_bind (wpAny_rule (wpAny_bind (wpAny_standAt (wpAny_bind (wpAny_mono h (fun it' s' h' => wpAny_pure (And.intro rfl h')) fun _ _ x => x)))))

/-- the hidden iterator changes -/
theorem CAt.changeIt (x : CAt prog w hB names Γ env gens Mt (it :: P) O acc σ ts s) (y : Sc prog w names Γ env s.heap P O σ) (hi : it ∉ P) (hb : hB.get? it = none) (k : Heap.SameBut it s.heap s'.heap) (hm : ∀ a ∈ acc :: Mt, a ∈ P) (hx : ∃ o, s'.heap.get? it = some o) : CAt prog w hB names Γ env gens Mt (it :: P) O acc σ ts s' := by
  have kall : ∀ b o, b ≠ it → s.heap.get? b = some o → s'.heap.get? b = some o := fun b o hb e => (k.2 b hb).trans e
  have sb : Sub (view s.heap (it :: P)) (view s'.heap (it :: P)) := (keepsOff_same k (.head _)).sub
  have nP : ∀ b ∈ P, b ≠ it := fun b hb q => hi (q ▸ hb)
  exact { x with
    kb := fun b o e => kall b o (fun q => by rw [q, hb] at e; cases e) (x.kb b o e)
    S := {
      fn := x.S.fn, gl := x.S.gl, bl := x.S.bl, kinds := x.S.kinds, cells := x.S.cells
      locN := let ⟨m, hm⟩ := x.S.locN; ⟨m, hm.sameBut k (nP _ y.locP)⟩
      locP := x.S.locP
      cellP := fun id c e => let ⟨a, b, v', d⟩ := x.S.cellP id c e; ⟨a, b, v', d.sameBut k (nP _ (y.cellP id c e).1)⟩
      cellI := x.S.cellI
      vars := fun id i t o e1 e2 => by
        obtain ⟨v', a, b⟩ := x.S.vars id i t o e1 e2
        refine ⟨v', ?_, ?_⟩
        · rcases a with ⟨a, m', b, c⟩ | ⟨a, c, b, d⟩
          · exact .inl ⟨a, m', b.sameBut k (nP _ y.locP), c⟩
          · exact .inr ⟨a, c, b, d.sameBut k (nP _ (y.cellP id c b).1)⟩
        · cases o with
          | false => exact Rep.mono sb _ b
          | true =>
            obtain ⟨a', rfl, h1, h2, h3, h4⟩ := b
            exact ⟨a', rfl, h1, h2, h3, h4.mono sb fun o e => kall _ _ (nP _ (y.oP _ h1)) e⟩
      inP := fun a ha => by
        by_cases q : a = it
        · subst q; exact hx
        · obtain ⟨o, e⟩ := x.S.inP a ha; exact ⟨o, kall _ _ q e⟩
      oP := x.S.oP }
    ar := x.ar.mono sb fun o e => kall _ _ (nP _ (hm acc (.head _))) e }

/-- the iterator is through and let go -/
theorem CAt.leaveIt (x : CAt prog w hB names Γ env gens Mt (it :: P) O acc σ ts s) (y : Sc prog w names Γ env s.heap P O σ) (hi : it ∉ P) (hb : hB.get? it = none) (k : Heap.ExtBut it s.heap s'.heap) (hm : ∀ a ∈ acc :: Mt, a ∈ P) : CAt prog w hB names Γ env gens Mt P O acc σ ts s' := by
  have kall : ∀ b o, b ≠ it → s.heap.get? b = some o → s'.heap.get? b = some o := fun b o hb e => k b o hb e
  have sb : Sub (view s.heap (it :: P)) (view s'.heap P) := by
    intro b o e
    have nb := view_not e
    exact view_of (kall b o (fun q => nb (q ▸ .head _)) (view_get e)) fun q => nb (.tail _ q)
  have nP : ∀ b ∈ P, b ≠ it := fun b hb q => hi (q ▸ hb)
  have ns : ∀ {m}, s.heap.Ns env.locals m → s'.heap.Ns env.locals m := fun ⟨o, es, ep, h1, r⟩ => ⟨o, es, ep, kall _ _ (nP _ y.locP) h1, r⟩
  have cl : ∀ {id c v}, env.cells.lookup id = some c → s.heap.IsCell c v → s'.heap.IsCell c v := fun {id c v} q ⟨o, h1, r⟩ => ⟨o, kall _ _ (nP _ (y.cellP id c q).1) h1, r⟩
  exact { x with
    kb := fun b o e => kall b o (fun q => by rw [q, hb] at e; cases e) (x.kb b o e)
    mP := hm
    S := {
      fn := x.S.fn, gl := x.S.gl, bl := x.S.bl, kinds := x.S.kinds, cells := x.S.cells
      locN := let ⟨m, hm⟩ := x.S.locN; ⟨m, ns hm⟩
      locP := y.locP
      cellP := fun id c e => let ⟨_, b, v', d⟩ := x.S.cellP id c e; ⟨(y.cellP id c e).1, b, v', cl e d⟩
      cellI := x.S.cellI
      vars := fun id i t o e1 e2 => by
        obtain ⟨v', a, b⟩ := x.S.vars id i t o e1 e2
        refine ⟨v', ?_, ?_⟩
        · rcases a with ⟨a, m', b, c⟩ | ⟨a, c, b, d⟩
          · exact .inl ⟨a, m', ns b, c⟩
          · exact .inr ⟨a, c, b, cl b d⟩
        · cases o with
          | false => exact Rep.mono sb _ b
          | true =>
            obtain ⟨a', rfl, h1, h2, h3, h4⟩ := b
            exact ⟨a', rfl, h1, h2, h3, h4.mono sb fun o e => kall _ _ (nP _ (y.oP _ h1)) e⟩
      inP := fun a ha => by obtain ⟨o, e⟩ := y.inP a ha; exact ⟨o, kall _ _ (nP _ ha) e⟩
      oP := y.oP }
    ar := x.ar.mono sb fun o e => kall _ _ (nP _ (hm acc (.head _))) e }

theorem It.ex {Mu P : List Addr} {h : Heap} {it : Addr} {xs : List PV} (x : It prog w Mu P h it xs) : ∃ o, h.get? it = some o := by
  cases x with
  | list h1 => obtain ⟨o, e, _⟩ := h1; exact ⟨o, e⟩
  | tuple h1 => obtain ⟨o, e, _⟩ := h1; exact ⟨o, e⟩
  | range h1 => exact ⟨_, h1⟩
  | dict h1 => obtain ⟨o, e, _⟩ := h1; exact ⟨o, e⟩
theorem letOwned_none {tgt : PySem.Expr} {v : Value} {Mu P : List Addr} {xs : List PV} (x : It prog w Mu P s.heap it xs) {Q : Unit → Shared → Prop} (hQ : Q () s) : wpAny (model prog w) A (letOwnedTupleGo tgt (.ref it) v) Q E s := by
  have key : ∀ (T : String) (o : Obj), s.heap.get? it = some o → o.cls = .type T → ["enumerate", "zip", "dict_itemiterator", "dict_reverseitemiterator", "odict_iterator", "itertools.zip_longest", "itertools.pairwise"].contains T = false →
      wpAny (model prog w) A (letOwnedTupleGo tgt (.ref it) v) Q E s := by
    intro T o e1 e2 e3
    have fin : ∀ a, wpAny (model prog w) A (do
        let o ← load it
        match o.cls, o.data with
        | .type n, .fields vs =>
          if ["enumerate", "zip", "dict_itemiterator", "dict_reverseitemiterator", "odict_iterator", "itertools.zip_longest", "itertools.pairwise"].contains n && vs[0]? == some (rawInt a) then
            rule "for.unpacks-the-owned-tuple"
            updateField it 0 .none
        | _, _ => pure ()) Q E s := by
      intro a
      refine wpAny_bind (wpAny_load e1 ?_)
      rw [e2]
      cases o.data <;> first | exact wpAny_pure hQ | skip
      dsimp only
      rw [e3]
      exact wpAny_pure hQ
    unfold letOwnedTupleGo
    split
    · cases v <;> first | exact wpAny_pure hQ | exact fin _
    · cases v <;> first | exact wpAny_pure hQ | exact fin _
    · exact wpAny_pure hQ
  cases x with
  | list h1 => obtain ⟨o, e, c, _⟩ := h1; exact key _ o e c (by decide)
  | tuple h1 => obtain ⟨o, e, c, _⟩ := h1; exact key _ o e c (by decide)
  | range h1 => exact key _ _ h1 rfl (by decide)
  | dict h1 => obtain ⟨o, e, c, _⟩ := h1; exact key _ o e c (by decide)
end Mine


namespace Mine
variable {prog : Program} {w : World} {hB : Heap} {FN : List Str} {F : FT} {T : TT} {n : Nat} {mg mb : Str → Option Value}

/-- one turn's share -/
noncomputable def turnG (F : FT) (T : TT) (σ : Sig) (t : Tgt) (ifs : CEs) (rest : CG) (x : PV) : Option (List PV) := match bindT σ t x with
  | some σ' => match evalI F T ifs σ' with
    | some true => evalG F T false rest σ'
    | some false => some []
    | Option.none => Option.none
  | Option.none => Option.none

theorem bindT_vars {σ σ' : Sig} {t : Tgt} {x : PV} (h : bindT σ t x = some σ') : ∀ i, i ∉ t.vars → σ' i = σ i := by
  intro i hi
  cases t with
  | one y => cases h; unfold Tgt.vars at hi; unfold upd; rw [if_neg (by simpa using hi)]
  | two y z =>
    obtain ⟨a, b, _, rfl⟩ := bindT_two h
    unfold Tgt.vars at hi; simp only [List.mem_cons, List.not_mem_nil, or_false, not_or] at hi; unfold upd; rw [if_neg hi.2, if_neg hi.1]

theorem bindT_less {σ σ' : Sig} {t : Tgt} {x : PV} (h : bindT σ t x = some σ') (hn : ∀ i ∈ t.vars, σ i = none) : ∀ i p, σ i = some p → σ' i = some p := by
  intro i p e
  rw [bindT_vars h i fun q => by rw [hn i q] at e; cases e]; exact e

section
variable {names : Names} {Γ : Ctx} {env : Env} {gens : List Comprehension} {Mt P O : List Addr} {acc it : Addr} {σ : Sig} {A : Around}

theorem comp_loop {elt : PySem.Expr} {sc : Scope} {pos : Pos} {d : Nat} {tg : Tgt} {ifs : CEs} {rest : CG} {c : Comprehension} (hI : IOk prog w hB FN F T n ifs) (hG : GOk prog w hB FN F T n rest)
    (hg : gens[d]? = some c) (ha : c.is_async = 0) (hn : ∀ g', gens[d + 1]? = some g' → g'.is_async = 0)
    (c1 : chkT Γ tg c.target = true) (c2 : chkEs FN names Γ ifs c.ifs = true) (c3 : chkG FN names Γ rest (gens.drop (d + 1)) elt = true)
    (v1 : ∀ x ∈ tg.vars, σ x = none) (v2 : ∀ x ∈ rest.vars, σ x = none) (v3 : ∀ x ∈ rest.vars, x ∉ tg.vars) (v4 : rest.vars.Nodup) (R : Room A n) (iP : it ∉ P) (iB : hB.get? it = none)
    (hm : ∀ a ∈ acc :: Mt, a ∈ P) :
    ∀ (xs : List PV) (us ts : List PV) (s : Shared), concatM (turnG F T σ tg ifs rest) xs = some us → ts.length + us.length ≤ 1048576 → It prog w (acc :: Mt) (it :: P) s.heap it xs →
      CAt prog w hB names Γ env gens Mt (it :: P) O acc σ ts s → Sc prog w names Γ env s.heap P O σ →
      codeAny (model prog w) A (.compLoop (.ListComp elt gens sc pos) d (.ref it) (.ref acc) env) (fun r s' => ∃ f, r = .ok f ∧ CStep (it :: acc :: Mt) s s' ∧ CAt prog w hB names Γ env gens Mt P O acc σ (ts ++ us) s') s := by
  intro xs
  have iMu : it ∉ acc :: Mt := fun q => iP (hm it q)
  obtain ⟨tgt, iter, ifs', asy⟩ := c
  dsimp only at ha c1 c2
  subst ha
  induction xs with
  | nil =>
    intro us ts s he hz I C Y
    unfold concatM at he
    cases he
    refine codeAny_of_tree ?_
    show wpAny _ A ((compTurn (.ListComp elt gens sc pos) d (.ref it) (.ref acc) env).onRaise (fun x => do noteFrame x env; theTreesLotGoes x)) _ _ s
    refine wpAny_noted ?_
    rw [turn_eq hg hn]
    refine wpAny_bind (wpAny_standAt (wpAny_bind (wpAny_mono (iter_end R.hd I) (fun r s1 h1 => ?_) fun _ _ x => x)))
    obtain ⟨rfl, k, g1, g2⟩ := h1
    refine wpAny_pure ⟨.next, rfl, ⟨fun b o nb e => k b o (fun q => nb (q ▸ .head _)) e, g1, g2⟩, ?_⟩
    rw [List.append_nil]
    exact C.leaveIt Y iP iB k hm
  | cons x xs ih =>
    intro us ts s he hz I C Y
    unfold concatM at he
    split at he
    · rename_i u1 e1
      split at he
      · rename_i u2 e2
        cases he
        rw [List.length_append] at hz
        unfold turnG at e1
        split at e1
        · rename_i σ' eb
          refine codeAny_of_tree ?_
          show wpAny _ A ((compTurn (.ListComp elt gens sc pos) d (.ref it) (.ref acc) env).onRaise (fun x => do noteFrame x env; theTreesLotGoes x)) _ _ s
          refine wpAny_noted ?_
          rw [turn_eq hg hn]
          refine wpAny_bind (wpAny_standAt (wpAny_bind (wpAny_mono (iter_next I (.head _)) (fun r s1 h1 => ?_) fun _ _ x => x)))
          obtain ⟨v, rfl, rv, I1, k1, g1, g2⟩ := h1
          have C1 : CAt prog w hB names Γ env gens Mt (it :: P) O acc σ ts s1 := C.changeIt Y iP iB k1 hm I1.ex
          have inP1 : ∀ a ∈ P, ∃ o, s1.heap.get? a = some o := fun a ha => C1.S.inP a (.tail _ ha)
          have Y1 : Sc prog w names Γ env s1.heap P O σ := C1.S.unhide Y inP1
          have st1 : CStep (it :: acc :: Mt) s s1 := ⟨keepsOff_same k1 (.head _), g1, g2⟩
          show wpAny _ _ (letOwnedTupleGo tgt (.ref it) v >>= _) _ _ _
          refine wpAny_bind (letOwned_none I1 ?_)
          have htg := C.tg ⟨tgt, iter, ifs', 0⟩ (List.mem_of_getElem? hg)
          refine wpAny_bind (wpAny_mono (assign_ok R.hd C1.S c1 C.inj htg (fun a ha => .tail _ (hm a (.tail _ ha))) rv eb) (fun _ s2 h2 => ?_) fun _ _ x => x)
          obtain ⟨k2, g3, g4, S2⟩ := h2
          have kMt : KeepsOff (acc :: Mt) s1.heap s2.heap := fun b o nb e => k2 b o (fun q => nb (.tail _ q)) e
          have sb2 : Sub (view s1.heap (it :: P)) (view s2.heap (it :: P)) := by
            intro b o e; exact view_of (k2 b o (fun q => view_not e (.tail _ (hm b (.tail _ q)))) (view_get e)) (view_not e)
          have st2 : CStep (acc :: Mt) s1 s2 := ⟨kMt, g3, g4⟩
          have C2 : CAt prog w hB names Γ env gens Mt (it :: P) O acc σ' ts s2 :=
            { C1 with kb := fun b o e => k2 b o (fun q => by have := C.mB b (.tail _ q); rw [this] at e; cases e) (C1.kb b o e), S := S2, ar := C1.ar.mono sb2 fun o e => k2 _ _ C.an e }
          have I2 := I1.mono kMt C1.mP iMu
          -- the end of a turn, at any state that has done its share
          have go : ∀ (s3 : Shared) (t3 : List PV), CStep (acc :: Mt) s2 s3 → CAt prog w hB names Γ env gens Mt (it :: P) O acc σ' t3 s3 → t3 = ts ++ u1 →
              codeAny (model prog w) A (.compLoop (.ListComp elt gens sc pos) d (.ref it) (.ref acc) env) (fun r s' => ∃ f, r = .ok f ∧ CStep (it :: acc :: Mt) s s' ∧ CAt prog w hB names Γ env gens Mt P O acc σ (ts ++ (u1 ++ u2)) s') s3 := by
            intro s3 t3 st3 C3 et
            subst et
            have I3 := I2.mono st3.k C1.mP iMu
            have C3' : CAt prog w hB names Γ env gens Mt (it :: P) O acc σ (ts ++ u1) s3 := { C3 with S := C3.S.less (bindT_less eb v1) }
            have Y3 : Sc prog w names Γ env s3.heap P O σ := C3'.S.unhide Y fun a ha => C3'.S.inP a (.tail _ ha)
            refine codeAny_mono (ih u2 (ts ++ u1) s3 e2 (by rw [List.length_append]; omega) I3 C3' Y3) fun r s4 h4 => ?_
            obtain ⟨f, rfl, q1, q2⟩ := h4
            refine ⟨f, rfl, ?_, by rw [← List.append_assoc]; exact q2⟩
            have w1 : ∀ {a b : Shared}, CStep (acc :: Mt) a b → CStep (it :: acc :: Mt) a b := fun x => ⟨fun b o nb e => x.k b o (fun q => nb (.tail _ q)) e, x.g, x.o⟩
            exact ((st1.trans (w1 st2)).trans (w1 st3)).trans q1
          split at e1
          · -- the tests hold
            rename_i ei
            refine wpAny_bind (wpAny_mono (hI names Γ ifs' env c2 σ' true ei A (it :: P) O s2 _ R C2.kb C2.S) (fun b s3 h3 => ?_) fun _ _ x => x)
            obtain ⟨rfl, st3⟩ := h3
            have C3 := C2.step st3
            show wpAny _ _ (nextG (.ListComp elt gens sc pos) elt gens (d + 1) (.ref acc) env >>= fun _ => again (.compLoop (.ListComp elt gens sc pos) d (.ref it) (.ref acc) env)) _ _ _
            have hv : ∀ x ∈ rest.vars, σ' x = none := fun x hx => by rw [bindT_vars eb x (v3 x hx)]; exact v2 x hx
            refine wpAny_bind (wpAny_mono (hG names Γ env elt gens sc pos (d + 1) c3 σ' u1 e1 hv v4 A (it :: P) O Mt s3 _ acc ts R C3 (by omega)) (fun _ s4 h4 => ?_) fun _ _ x => x)
            exact wpAny_pure ⟨rfl, go s4 (ts ++ u1) ((CStep.of_step st3).trans h4.1) h4.2 rfl⟩
          · -- they do not
            rename_i ei
            cases e1
            refine wpAny_bind (wpAny_mono (hI names Γ ifs' env c2 σ' false ei A (it :: P) O s2 _ R C2.kb C2.S) (fun b s3 h3 => ?_) fun _ _ x => x)
            obtain ⟨rfl, st3⟩ := h3
            exact wpAny_pure ⟨rfl, go s3 ts (CStep.of_step st3) (C2.step st3) (List.append_nil _).symm⟩
          · cases e1
        · cases e1
      · cases he
    · cases he
end
end Mine


namespace Mine
variable {prog : Program} {w : World} {hB : Heap} {FN : List Str} {F : FT} {T : TT} {n : Nat} {mg mb : Str → Option Value}

theorem not_set {names : Names} {Γ : Ctx} {ce : CE} {x : PySem.Expr} (h : chkE FN names Γ ce x = true) (env : Env) (v : Value) : foldedSetIterable x env v = pure v := by
  cases x with
  | Set a b c => cases ce <;> exact absurd h Bool.false_ne_true
  | _ => rfl

theorem itemsC_of {u : PV} {xs : List PV} (h : itemsC u = some xs) : itemsOf u = some xs ∧ ∀ ks ys, u ≠ .dict ks ys := by
  unfold itemsC at h
  split at h
  · cases h
  · rename_i hn; exact ⟨h, fun ks ys q => hn ks ys q⟩

/-- where the source of an iteration lies -/
theorem src_off {u : PV} {xs : List PV} {v : Value} {h : Heap} {P : List Addr} (e : itemsC u = some xs) (r : Rep prog w (view h P) v u) : ∀ l, v = .ref l → l ∉ P := by
  intro l hl
  unfold itemsC itemsOf at e
  cases u <;> simp at e
  · unfold Rep at r; obtain ⟨a, vs, m, rfl, h1, _⟩ := r; cases hl; exact view_not h1
  · unfold Rep at r; obtain ⟨a, vs, m, rfl, h1, _⟩ := r; cases hl; exact view_not h1
  · unfold Rep at r; obtain ⟨a, t, u, k, rfl, h1, _⟩ := r; cases hl; exact view_not h1

theorem no_keyiter {u : PV} {xs : List PV} {Mu P : List Addr} {h : Heap} {it : Addr} {A : Around} {s : Shared} {E : Value → Shared → Prop} {v : Value} (e : itemsC u = some xs) (hv : Read prog w P s.heap v u) (hP : ∀ a ∈ P, ∃ o, s.heap.get? a = some o) (hM : ∀ l, v = .ref l → l ∉ Mu) :
    wpAny (model prog w) A (pyIter v) (fun itv s' => itv = .ref s.heap.objs.size ∧ Step s s' ∧ It prog w Mu (s.heap.objs.size :: P) s'.heap s.heap.objs.size xs ∧ ∀ d i n ep, ¬ s'.heap.IsKeyIter s.heap.objs.size d i n ep) E s := by
  obtain ⟨e1, e2⟩ := itemsC_of e
  have sb : ∀ o, Sub (view s.heap P) (view (s.heap.push o) (s.heap.objs.size :: P)) := fun o => sub_hide (Keeps.push _ _) (Keeps.refl s.heap).fresh
  have nk : ∀ (o : Obj), o.cls ≠ .type "dict_keyiterator" → o.isFreed = false → ∀ d i n ep, ¬ (s.heap.push o).IsKeyIter s.heap.objs.size d i n ep := by
    intro o ho hf d i n ep ⟨o', h1, h2, _⟩
    rw [Heap.get?_push_size _ hf] at h1
    cases h1; exact ho h2
  unfold itemsOf at e1
  split at e1
  · cases e1
    obtain ⟨l, vs, n, rfl, h1, h2⟩ := hv.list
    refine wpAny_pyIter_list (items := vs) ⟨_, h1, rfl, n, rfl⟩ ⟨rfl, step_push _ _, ?_, nk _ (by simp) rfl⟩
    exact .list ⟨_, Heap.get?_push_size _ rfl, rfl, rfl⟩ (Heap.get?_push_of_some _ h1) (Nat.ne_of_lt (Heap.lt_size h1)) (hM l rfl) (by simpa using Reps.mono (sb _) _ h2)
  · cases e1
    obtain ⟨l, vs, n, rfl, h1, h2⟩ := hv.tuple
    refine wpAny_pyIter_tuple (items := vs) ⟨_, h1, rfl, n, rfl⟩ ⟨rfl, step_push _ _, ?_, nk _ (by simp) rfl⟩
    exact .tuple ⟨_, Heap.get?_push_size _ rfl, rfl, rfl⟩ (Heap.get?_push_of_some _ h1) (Nat.ne_of_lt (Heap.lt_size h1)) (hM l rfl) (by simpa using Reps.mono (sb _) _ h2)
  · cases e1
    obtain ⟨l, t, u, k, rfl, h1, h2, h3⟩ := hv.range
    rename_i lo hi
    refine wpAny_pyIter_range h1 (small_range h2 h3) ⟨rfl, step_push _ _, ?_, nk _ (by simp) rfl⟩
    refine .range (x := lo) (left := (hi - lo).toNat) ?_ ?_
    · show Heap.get? _ _ = _
      rw [rangeSize_one]
      exact Heap.get?_push_size _ rfl
    · unfold rangeL; rw [List.map_map]; rfl
  · exact absurd rfl (e2 _ _)
  · cases e1

theorem next_drop {α : Type} {l : List α} {d : Nat} {x : α} {r : List α} (h : l.drop d = x :: r) : l[d]? = some x ∧ l.drop (d + 1) = r := drop_get h

theorem chkG_async {names : Names} {Γ : Ctx} {g : CG} {gs : List Comprehension} {elt : PySem.Expr} (h : chkG FN names Γ g gs elt = true) : ∀ g', gs[0]? = some g' → g'.is_async = 0 := by
  intro g' e
  cases g with
  | elt c =>
    rw [cG_elt] at h
    split at h
    · simp at e
    · cases h
  | gen t it ifs rest =>
    rw [cG_gen] at h
    split at h
    · simp only [Bool.and_eq_true, decide_eq_true_eq] at h
      simp at e; subst e; exact h.1.1.1.2
    · cases h

theorem mark_none (A : Around) : A.mark none = A := rfl

theorem G_gen {t : Tgt} {ite : CE} {ifs : CEs} {rest : CG} (hE : EOk prog w hB FN F T n ite) (hI : IOk prog w hB FN F T n ifs) (hG : GOk prog w hB FN F T n rest) : GOk prog w hB FN F T n (.gen t ite ifs rest) := by
  intro names Γ env elt gens sc pos d hc σ us he hv hn A P O Mt s E acc ts R C hz
  rw [cG_gen] at hc
  split at hc
  · rename_i gl c gs hd
    simp only [Bool.and_eq_true, decide_eq_true_eq] at hc
    obtain ⟨⟨⟨⟨c1, c2⟩, c3⟩, c4⟩, c5⟩ := hc
    obtain ⟨q1, q2⟩ := next_drop hd
    (first | rw [evG_elt] at he | rw [evG_gen] at he)
    split at he
    · rename_i r e1
      obtain ⟨u, f⟩ := r
      split at he
      · rename_i hb
        have hf : f ≠ .bor := by simpa using hb
        split at he
        · rename_i xs e2
          unfold nextG
          rw [q1]
          dsimp only
          refine wpAny_bind (wpAny_mono (hE names Γ c.iter env c1 σ u f e1 A P O s E R C.kb C.S) (fun v s1 g1 => ?_) fun _ _ x => x)
          have C1 := C.step g1.step
          have rv := g1.kept hf C.S.inP
          refine wpAny_bind (wpAny_standAt (wpAny_bind ?_))
          rw [not_set c1]
          refine wpAny_pure (wpAny_bind (wpAny_holding ?_))
          refine wpAny_mono (no_keyiter (Mu := acc :: Mt) (h := s1.heap) (it := 0) e2 (.inl rv) C1.S.inP fun l hl q => src_off e2 rv l hl (C.mP l q)) (fun itv s2 h2 => ?_) fun _ _ x => x
          obtain ⟨rfl, st2, I2, nk⟩ := h2
          have fr : s1.heap.get? s1.heap.objs.size = none := (Keeps.refl s1.heap).fresh
          obtain ⟨oi, hoi⟩ := I2.ex
          have C2 := C1.hide st2 fr hoi
          have Y2 := C1.S.keeps st2.1
          have iP : s1.heap.objs.size ∉ P := fun q => by obtain ⟨o, ho⟩ := C1.S.inP _ q; exact absurd (Heap.lt_size ho) (Nat.lt_irrefl _)
          have iB : hB.get? s1.heap.objs.size = none := C1.kb.fresh
          refine wpAny_bind (wpAny_runOwn ?_)
          rw [mark_none]
          have nd : t.vars.Nodup ∧ rest.vars.Nodup ∧ ∀ x ∈ t.vars, ∀ y ∈ rest.vars, x ≠ y := by
            have := hn; unfold CG.vars at this; exact List.nodup_append.mp this
          have loop := comp_loop (A := A) (sc := sc) (pos := pos) (it := s1.heap.objs.size) hI hG q1 c2 (fun g' e => chkG_async (FN := FN) (names := names) (Γ := Γ) (g := rest) (gs := gs) (elt := elt) c5 g' (by rw [← q2]; simpa using e)) c3 c4 (by rw [q2]; exact c5)
            (fun x hx => hv x (by unfold CG.vars; exact List.mem_append_left _ hx)) (fun x hx => hv x (by unfold CG.vars; exact List.mem_append_right _ hx)) (fun x hx q => nd.2.2 x q x hx rfl) nd.2.1 R iP iB C.mP xs us ts s2 he hz I2 C2 Y2
          refine codeAny_mono (comp_start q1 c2 loop (iter_again I2 nk loop)) fun r s3 h3 => ?_
          obtain ⟨f', rfl, k3, C3⟩ := h3
          refine wpAny_pure ⟨⟨fun b o nb e => ?_, k3.g.trans (st2.2.1.trans g1.step.2.1), k3.o.trans (st2.2.2.trans g1.step.2.2)⟩, C3⟩
          have eb := st2.1 _ _ (g1.step.1 _ _ e)
          refine k3.k b o (fun q => ?_) eb
          rcases List.mem_cons.mp q with rfl | q
          · rw [g1.step.1 _ _ e] at fr; cases fr
          · exact nb q
        · cases he
      · cases he
    · cases he
  · cases hc
end Mine


namespace Mine
variable {prog : Program} {w : World} {hB : Heap} {FN : List Str} {F : FT} {T : TT} {n : Nat} {mg mb : Str → Option Value}

noncomputable def cloOf (env : Env) : Names → List (Str × Addr) → List (Str × Addr)
  | [], acc => acc
  | (nm, k) :: r, acc => cloOf env r (if k == .free then (nm, (env.cells.lookup nm).getD 0) :: acc else acc)

theorem closure_forIn {env : Env} : ∀ (l : Names) (acc : List (Str × Addr)), (∀ p ∈ l, p.2 = .free → ∃ c, env.cells.lookup p.1 = some c) →
    (forIn l acc fun (p : Str × NameKind) cs => (match p with | (name, kind) => if kind == .free then (do let a ← cellOf env name; pure (ForInStep.yield ((name, a) :: cs))) else pure (ForInStep.yield cs)) : Sem (List (Str × Addr))) = pure (cloOf env l acc)
  | [], acc, _ => rfl
  | (nm, k) :: r, acc, h => by
    rw [List.forIn_cons]
    dsimp only
    unfold cloOf
    cases hk : k == NameKind.free with
    | true =>
      obtain ⟨c, hc⟩ := h (nm, k) (.head _) (by simpa using hk)
      simp only [if_true]
      unfold cellOf
      rw [hc]
      simp only [pure_bind, Option.getD_some]
      exact closure_forIn r _ fun p hp => h p (.tail _ hp)
    | false =>
      simp only [Bool.false_eq_true, if_false, pure_bind]
      exact closure_forIn r acc fun p hp => h p (.tail _ hp)
theorem closure_eq {env : Env} {sc : Scope} (h : ∀ p ∈ sc.names, p.2 = .free → ∃ c, env.cells.lookup p.1 = some c) : closureFor sc env = pure (cloOf env sc.names []) := by
  unfold closureFor
  have := closure_forIn sc.names [] h
  have e : (forIn sc.names ([] : List (Str × Addr)) fun (p : Str × NameKind) cs => (match p with | (name, kind) => if kind == .free then (do let a ← cellOf env name; pure (ForInStep.yield ((name, a) :: cs))) else pure (ForInStep.yield cs)) : Sem (List (Str × Addr))) >>= (fun cs => pure cs) = closureFor sc env := rfl
  rw [this] at e
  exact e.symm

theorem clo_mem {env : Env} : ∀ (l : Names) (acc : List (Str × Addr)) (p : Str × Addr), p ∈ cloOf env l acc → p ∈ acc ∨ ((p.1, NameKind.free) ∈ l ∧ p.2 = (env.cells.lookup p.1).getD 0)
  | [], acc, p, h => .inl h
  | (nm, k) :: r, acc, p, h => by
    unfold cloOf at h
    rcases clo_mem r _ p h with h' | ⟨h1, h2⟩
    · by_cases hk : (k == NameKind.free) = true
      · rw [if_pos hk] at h'
        have : k = .free := by simpa using hk
        subst this
        rcases List.mem_cons.mp h' with rfl | h'
        · exact .inr ⟨.head _, rfl⟩
        · exact .inl h'
      · rw [if_neg hk] at h'; exact .inl h'
    · exact .inr ⟨.tail _ h1, h2⟩
theorem clo_has {env : Env} : ∀ (l : Names) (acc : List (Str × Addr)) (id : Str), (id, NameKind.free) ∈ l ∨ id ∈ acc.map (·.1) → id ∈ (cloOf env l acc).map (·.1)
  | [], acc, id, h => by
    rcases h with h | h
    · cases h
    · exact h
  | (nm, k) :: r, acc, id, h => by
    unfold cloOf
    refine clo_has r _ id ?_
    rcases h with h | h
    · rcases List.mem_cons.mp h with e | h
      · cases e; right; simp
      · exact .inl h
    · right
      split
      · simp only [List.map_cons, List.mem_cons]; exact .inr h
      · exact h

theorem lookup_of_mem_keys {α : Type} : ∀ {l : List (Str × α)} {id : Str}, id ∈ l.map (·.1) → ∃ c, l.lookup id = some c
  | [], _, h => by simp at h
  | (k, v) :: r, id, h => by
    rw [List.lookup_cons]
    cases hb : id == k with
    | true => exact ⟨v, rfl⟩
    | false =>
      simp only [List.map_cons, List.mem_cons] at h
      rcases h with rfl | h
      · simp at hb
      · exact lookup_of_mem_keys h

/-- the cells of a new block -/
theorem lay_spec : ∀ (names : Names) (h : Heap) (acc : List (Str × Addr)), Keeps h (pushCells h names) ∧ ∃ new : List (Str × Addr), cellsFrom h.objs.size names acc = new ++ acc ∧
    (∀ p ∈ new, h.get? p.2 = none ∧ (pushCells h names).IsCell p.2 none ∧ (p.1, NameKind.cell) ∈ names) ∧ (new.Pairwise fun a b => a.2 ≠ b.2) ∧ ∀ id, (id, NameKind.cell) ∈ names → id ∈ new.map (·.1)
  | [], h, acc => ⟨Keeps.refl _, [], rfl, fun _ h => (nomatch h), .nil, fun _ h => (nomatch h)⟩
  | (nm, k) :: r, h, acc => by
    unfold pushCells cellsFrom
    cases hk : k == NameKind.cell with
    | true =>
      have : k = .cell := by simpa using hk
      subst this
      simp only [if_true]
      obtain ⟨K, new, e, h1, h2, h3⟩ := lay_spec r (h.push { cls := .type "cell", data := .cell none }) ((nm, h.objs.size) :: acc)
      have KP := Keeps.push h { cls := .type "cell", data := .cell none }
      have hs : (h.push { cls := .type "cell", data := .cell none }).get? h.objs.size = some { cls := .type "cell", data := .cell none } := Heap.get?_push_size _ rfl
      refine ⟨KP.trans K, new ++ [(nm, h.objs.size)], ?_, ?_, ?_, ?_⟩
      · rw [Heap.size_push] at e; rw [e]; simp
      · intro p hp
        rcases List.mem_append.mp hp with hp | hp
        · obtain ⟨q1, q2, q3⟩ := h1 p hp
          refine ⟨?_, q2, .tail _ q3⟩
          cases q : h.get? p.2 with
          | none => rfl
          | some o => rw [KP _ _ q] at q1; cases q1
        · have : p = (nm, h.objs.size) := by simpa using hp
          subst this
          exact ⟨(Keeps.refl h).fresh, ⟨_, K _ _ hs, rfl⟩, .head _⟩
      · rw [List.pairwise_append]
        refine ⟨h2, List.pairwise_singleton _ _, fun a ha b hb => ?_⟩
        have : b = (nm, h.objs.size) := by simpa using hb
        subst this
        intro q
        have := (h1 a ha).1
        rw [q, hs] at this; cases this
      · intro id hid
        rcases List.mem_cons.mp hid with e' | hid
        · cases e'; simp
        · rw [List.map_append]; exact List.mem_append_left _ (h3 id hid)
    | false =>
      simp only [Bool.false_eq_true, if_false]
      obtain ⟨K, new, e, h1, h2, h3⟩ := lay_spec r h acc
      refine ⟨K, new, e, fun p hp => let ⟨a, b, c⟩ := h1 p hp; ⟨a, b, .tail _ c⟩, h2, fun id hid => ?_⟩
      rcases List.mem_cons.mp hid with e' | hid
      · cases e'; simp at hk
      · exact h3 id hid

theorem lookup_relabel {env : Env} : ∀ {names : Names} {x : Str} {k : NameKind}, names.lookup x = some k →
    let r := (names.map fun (n, k) => if (k == NameKind.free && env.scope.kind == .function && env.kindOf n == some .cell) then (n, NameKind.cell) else (n, k)).lookup x
    r = some k ∨ (k = .free ∧ r = some .cell)
  | [], _, _, h => by simp at h
  | (m, q) :: r, x, k, h => by
    have ih := @lookup_relabel env r x k
    dsimp only at ih ⊢
    rw [List.map_cons]
    cases hx : x == m with
    | true =>
      simp only [List.lookup_cons, hx] at h
      cases h
      dsimp only
      split
      · rename_i hc
        simp only [Bool.and_eq_true, beq_iff_eq] at hc
        right; exact ⟨hc.1.1, by simp only [List.lookup_cons, hx]⟩
      · left; simp only [List.lookup_cons, hx]
    | false =>
      simp only [List.lookup_cons, hx] at h
      have := ih h
      dsimp only
      split <;> simp only [List.lookup_cons, hx] <;> exact this
end Mine


namespace Mine
variable {prog : Program} {w : World} {hB : Heap} {FN : List Str} {F : FT} {T : TT} {n : Nat} {mg mb : Str → Option Value}

theorem mem_lookup {α : Type} : ∀ {l : List (Str × α)} {id : Str} {i : α}, l.lookup id = some i → (id, i) ∈ l
  | (k, v) :: r, id, i, h => by
    rw [List.lookup_cons] at h
    cases hb : id == k with
    | true => rw [hb] at h; cases h; rw [beq_iff_eq.mp hb]; exact .head _
    | false => rw [hb] at h; exact .tail _ (mem_lookup h)
theorem inj_of_nodup : ∀ {Γ : Ctx}, (Γ.map (·.2)).Nodup → ∀ a b i, (a, i) ∈ Γ → (b, i) ∈ Γ → a = b
  | (k, v) :: r, h, a, b, i, h1, h2 => by
    simp only [List.map_cons, List.nodup_cons] at h
    rcases List.mem_cons.mp h1 with e1 | h1 <;> rcases List.mem_cons.mp h2 with e2 | h2
    · cases e1; cases e2; rfl
    · cases e1; exact absurd (List.mem_map_of_mem (f := (·.2)) h2) h.1
    · cases e2; exact absurd (List.mem_map_of_mem (f := (·.2)) h1) h.1
    · exact inj_of_nodup h.2 a b i h1 h2
theorem lookup_filter {Γ : Ctx} {p : Str → Bool} {id : Str} {i : Nat} (h : (Γ.filter fun q => p q.1).lookup id = some i) : Γ.lookup id = some i ∧ p id = true := by
  induction Γ with
  | nil => simp at h
  | cons x r ih =>
    obtain ⟨k, v⟩ := x
    rw [List.filter_cons] at h
    cases hp : p k with
    | true =>
      simp only [hp, if_true, List.lookup_cons] at h ⊢
      cases hb : id == k with
      | true => rw [hb] at h; have := beq_iff_eq.mp hb; subst this; exact ⟨h, hp⟩
      | false => rw [hb] at h; exact ih h
    | false =>
      simp only [hp, Bool.false_eq_true, if_false] at h
      obtain ⟨h1, h2⟩ := ih h
      refine ⟨?_, h2⟩
      rw [List.lookup_cons]
      cases hb : id == k with
      | true => have := beq_iff_eq.mp hb; subst this; rw [hp] at h2; cases h2
      | false => exact h1
theorem lookup_append {α : Type} {l l' : List (Str × α)} {id : Str} : (l ++ l').lookup id = match l.lookup id with | some x => some x | none => l'.lookup id := by
  rw [List.lookup_append]
  cases l.lookup id <;> rfl

structure ScOk (names : Names) (Γ : Ctx) (sc : Scope) (g : CG) (own : Ctx) : Prop where
  kind : sc.kind = .function
  each : ∀ p ∈ sc.names, sc.names.lookup p.1 = some p.2
  free : ∀ p ∈ sc.names, p.2 = .free → names.lookup p.1 = some .cell ∨ names.lookup p.1 = some .free
  owns : ∀ p ∈ own, sc.names.lookup p.1 = some .local ∨ sc.names.lookup p.1 = some .cell
  nd : (own.map (·.2)).Nodup
  vars : own.map (·.2) = g.vars
  nG : (Γ.map (·.2)).Nodup
  ap : ∀ p ∈ own, ∀ q ∈ Γ, p.2 ≠ q.2
theorem ScOk.of {names : Names} {Γ : Ctx} {sc : Scope} {g : CG} {own : Ctx} (h : chkSc names Γ sc g own = true) : ScOk names Γ sc g own := by
  unfold chkSc at h
  simp only [Bool.and_eq_true, decide_eq_true_eq, List.all_eq_true, Bool.or_eq_true] at h
  obtain ⟨⟨⟨⟨⟨⟨⟨h1, h2⟩, h3⟩, h4⟩, h5⟩, h6⟩, h7⟩, h8⟩ := h
  refine ⟨h1, fun p hp => ?_, fun p hp hf => ?_, h3, h4, h6, h7, h8⟩
  · have := h2 p hp
    obtain ⟨id, k⟩ := p
    cases k <;> simp at this ⊢ <;> first | exact this | exact this.1
  · have := h2 p hp
    obtain ⟨id, k⟩ := p
    dsimp only at hf
    subst hf
    simp at this
    exact this.2

theorem inj_inner {names : Names} {Γ : Ctx} {sc : Scope} {g : CG} {own : Ctx} (h : ScOk names Γ sc g own) : Inj (innerCtx Γ sc.names own) := by
  intro a b i ha hb
  unfold innerCtx at ha hb
  have ma := mem_lookup ha; have mb := mem_lookup hb
  rcases List.mem_append.mp ma with ma | ma <;> rcases List.mem_append.mp mb with mb | mb
  · exact inj_of_nodup h.nd a b i ma mb
  · exact absurd rfl (h.ap (a, i) ma (b, i) (List.mem_filter.mp mb).1)
  · exact absurd rfl (h.ap (b, i) mb (a, i) (List.mem_filter.mp ma).1)
  · exact inj_of_nodup h.nG a b i (List.mem_filter.mp ma).1 (List.mem_filter.mp mb).1

/-- a name that the block may store -/
noncomputable def Good (Mt : List Addr) (env : Env) (id : Str) : Prop := (env.kindOf id = some .local ∨ env.kindOf id = some .cell) ∧ MayStore Mt env id ∧ (env.kindOf id = some .cell → ∃ c, env.cells.lookup id = some c)
theorem tgt_of {Γ : Ctx} {Mt : List Addr} {env : Env} {t : Tgt} {e : PySem.Expr} (h : chkT Γ t e = true) (hg : ∀ p ∈ tgtNames t e, Good Mt env p.1) : TgtOk Mt env e := by
  cases t with
  | one x => obtain ⟨id, p, rfl, _⟩ := t_one h; exact hg _ (.head _)
  | two x y => obtain ⟨a, pa, b, pb, k, p, rfl, _⟩ := t_two h; exact ⟨hg (a, x) (.head _), hg (b, y) (.tail _ (.head _))⟩
theorem tgt_all {names : Names} {Γ : Ctx} {Mt : List Addr} {env : Env} {elt : PySem.Expr} : ∀ {g : CG} {gs : List Comprehension}, chkG FN names Γ g gs elt = true → (∀ p ∈ genNames g gs, Good Mt env p.1) → ∀ c ∈ gs, TgtOk Mt env c.target
  | .elt e, gs, h, hg, c, hc => by
    rw [cG_elt] at h
    split at h
    · cases hc
    · cases h
  | .gen t it ifs rest, [], h, hg, c, hc => by cases hc
  | .gen t it ifs rest, d :: ds, h, hg, c, hc => by
    rw [cG_gen] at h
    simp only [Bool.and_eq_true] at h
    unfold genNames at hg
    rcases List.mem_cons.mp hc with rfl | hc
    · exact tgt_of h.1.1.2 fun p hp => hg p (List.mem_append_left _ hp)
    · exact tgt_all h.2 (fun p hp => hg p (List.mem_append_right _ hp)) c hc

/-- the block's own environment -/
noncomputable abbrev compEnv (sc : Scope) (env : Env) (C : Addr) (cells : List (Str × Addr)) : Env :=
  { scope := relabel sc env, locals := C, globals := env.globals, cells := cells, qual := env.qual, func := none, code := env.code, frame := env.frame, builtins := env.builtins }

theorem new_env_comp {A : Around} {s : Shared} {E : Value → Shared → Prop} {sc : Scope} {env : Env} {cl : List (Str × Addr)} {Q : Env → Shared → Prop}
    (h : Q { scope := sc, locals := s.heap.objs.size, globals := env.globals, cells := cellsFrom (s.heap.objs.size + 1) sc.names cl, qual := env.qual, func := none, code := env.code, frame := env.frame, builtins := env.builtins }
      { s with heap := pushCells (s.heap.push { cls := .type "dict", data := .dict #[] }) sc.names }) :
    wpAny (model prog w) A (newFunctionEnv sc env.globals cl [] env.qual none .none (some env)) Q E s := by
  simp only [newFunctionEnv, Option.isSome_some, if_true]
  refine wpAny_bind (wpAny_alloc ?_)
  refine wpAny_bind (wpAny_layCells _ (fun name kind cells => by cases hkc : kind == NameKind.cell <;> simp [hkc]) _ _ _ _ ?_)
  rw [show ({ s with heap := s.heap.push { cls := .type "dict", data := .dict #[] } } : Shared).heap.objs.size = s.heap.objs.size + 1 from Heap.size_push ..]
  refine wpAny_bind ?_
  rw [List.forIn_nil]
  exact wpAny_pure (wpAny_pure h)

section
variable {names : Names} {Γ : Ctx} {env : Env} {σ : Sig} {sc : Scope} {g : CG} {own : Ctx} {P O : List Addr} {h h5 : Heap} {C : Addr} {new : List (Str × Addr)}

theorem cells_lookup (k : ScOk names Γ sc g own) (S : Sc prog w names Γ env h P O σ) (n2 : ∀ p ∈ new, (p.1, NameKind.cell) ∈ sc.names) {id : Str} {c : Addr} (e : (new ++ cloOf env sc.names []).lookup id = some c) :
    (id, c) ∈ new ∨ (sc.names.lookup id = some .free ∧ env.cells.lookup id = some c) := by
  rcases List.mem_append.mp (mem_lookup e) with m | m
  · exact .inl m
  · right
    rcases clo_mem _ _ _ m with m | ⟨m1, m2⟩
    · cases m
    · refine ⟨k.each _ m1, ?_⟩
      obtain ⟨c', hc'⟩ := S.cells id (k.free _ m1 rfl)
      dsimp only at m2
      rw [hc'] at m2 ⊢; rw [m2]; rfl

theorem sc_comp (k : ScOk names Γ sc g own) (S : Sc prog w names Γ env h P O σ) (K : Keeps h h5) (PH : List Addr) (p1 : ∀ a ∈ P, a ∈ PH) (p2 : ∀ a ∈ PH, a ∈ P ∨ h.get? a = none) (p3 : ∀ a ∈ PH, ∃ o, h5.get? a = some o) (pC : C ∈ PH) (fC : h.get? C = none) (nC : ∃ m, h5.Ns C m)
    (n1 : ∀ p ∈ new, h.get? p.2 = none ∧ h5.IsCell p.2 none ∧ p.2 ∈ PH ∧ p.2 ≠ C) (n2 : ∀ p ∈ new, (p.1, NameKind.cell) ∈ sc.names) (n3 : new.Pairwise fun a b => a.2 ≠ b.2) (n4 : ∀ id, (id, NameKind.cell) ∈ sc.names → id ∈ new.map (·.1)) :
    Sc prog w sc.names (innerCtx Γ sc.names own) (compEnv sc env C (new ++ cloOf env sc.names [])) h5 PH O (clr g.vars σ) := by
  have inh : ∀ a ∈ P, h.get? a ≠ none := fun a ha q => by obtain ⟨o, e⟩ := S.inP a ha; rw [q] at e; cases e
  have sb : Sub (view h P) (view h5 PH) := by
    intro b o e
    refine view_of (K _ _ (view_get e)) fun q => ?_
    rcases p2 b q with q | q
    · exact view_not e q
    · rw [view_get e] at q; cases q
  have kinds : ∀ id q, sc.names.lookup id = some q → (compEnv sc env C (new ++ cloOf env sc.names [])).kindOf id = some q ∨ (q = .free ∧ (compEnv sc env C (new ++ cloOf env sc.names [])).kindOf id = some .cell) := fun id q e => lookup_relabel e
  exact {
    fn := k.kind
    gl := S.gl
    bl := S.bl
    kinds := kinds
    cells := fun id e => by
      apply lookup_of_mem_keys
      rw [List.map_append]
      rcases e with e | e
      · exact List.mem_append_left _ (n4 id (mem_lookup e))
      · exact List.mem_append_right _ (clo_has _ _ _ (.inl (mem_lookup e)))
    locN := nC
    locP := pC
    cellP := fun id c e => by
      rcases cells_lookup k S n2 e with m | ⟨m1, m2⟩
      · obtain ⟨a1, a2, a3, a4⟩ := n1 _ m; exact ⟨a3, a4, _, a2⟩
      · obtain ⟨a1, a2, v, a3⟩ := S.cellP id c m2
        exact ⟨p1 _ a1, fun q => inh c a1 (q ▸ fC), v, a3.keeps K⟩
    cellI := fun id id' c e e' => by
      rcases cells_lookup k S n2 e with m | ⟨m1, m2⟩ <;> rcases cells_lookup k S n2 e' with m' | ⟨m1', m2'⟩
      · exact name_of_addr n3 m m'
      · exact absurd (n1 _ m).1 (inh c (S.cellP id' c m2').1)
      · exact absurd (n1 _ m').1 (inh c (S.cellP id c m2).1)
      · exact S.cellI id id' c m2 m2'
    vars := fun id i t o e1 e2 => by
      unfold clr at e2
      split at e2
      · cases e2
      · rename_i hi
        unfold innerCtx at e1
        rw [lookup_append] at e1
        split at e1
        · rename_i x ex
          cases e1
          exact absurd (by rw [← k.vars]; exact List.mem_map_of_mem (f := (·.2)) (mem_lookup ex)) hi
        · obtain ⟨e3, e4⟩ := lookup_filter (p := fun q => decide (sc.names.lookup q = some .free)) e1
          have hfree : sc.names.lookup id = some .free := of_decide_eq_true e4
          obtain ⟨v, h1, h2⟩ := S.vars id i t o e3 e2
          have hk := k.free _ (mem_lookup hfree) rfl
          have hc : ∃ c, env.cells.lookup id = some c ∧ h.IsCell c (some v) := by
            rcases h1 with ⟨a, _⟩ | ⟨a, c, b, d⟩
            · exfalso
              rcases hk with hk | hk
              · rcases S.kinds id _ hk with q | ⟨q, _⟩
                · rw [q] at a; cases a
                · cases q
              · rcases S.kinds id _ hk with q | ⟨_, q⟩ <;> (rw [q] at a; cases a)
            · exact ⟨c, b, d⟩
          obtain ⟨c, hc1, hc2⟩ := hc
          obtain ⟨c', hc'⟩ := lookup_of_mem_keys (l := new ++ cloOf env sc.names []) (id := id) (by rw [List.map_append]; exact List.mem_append_right _ (clo_has _ _ _ (.inl (mem_lookup hfree))))
          have ec : c' = c := by
            rcases cells_lookup k S n2 hc' with m | ⟨_, m⟩
            · have := k.each _ (n2 _ m); rw [hfree] at this; cases this
            · rw [hc1] at m; cases m; rfl
          subst ec
          refine ⟨v, .inr ⟨?_, c', hc', hc2.keeps K⟩, ?_⟩
          · rcases kinds id _ hfree with q | ⟨_, q⟩
            · exact .inr q
            · exact .inl q
          · cases o with
            | false => exact Rep.mono sb _ h2
            | true =>
              obtain ⟨a, rfl, a1, a2, a3, a4⟩ := h2
              have ah := inh a (S.oP a a1)
              refine ⟨a, rfl, a1, fun q => ah (q ▸ fC), fun id' c'' e' q => ?_, a4.mono sb fun o e => K _ _ e⟩
              rcases cells_lookup k S n2 e' with m | ⟨_, m⟩
              · exact ah (q ▸ (n1 _ m).1)
              · exact a3 id' c'' m q
    inP := p3
    oP := fun a ha => p1 a (S.oP a ha) }
end
end Mine


namespace Mine
variable {prog : Program} {w : World} {hB : Heap} {FN : List Str} {F : FT} {T : TT} {n : Nat} {mg mb : Str → Option Value}

theorem firstIter_cons {c : Comprehension} {gs : List Comprehension} {env : Env} : firstIter (c :: gs) env = eval c.iter env := by
  cases c; rfl
theorem It.setMu {Mu Mu' P P' : List Addr} {h h' : Heap} {it : Addr} {xs : List PV} (x : It prog w Mu P h it xs) (hm : ∀ a o, h.get? a = some o → a ∉ Mu') (k : Keeps h h') (sb : Sub (view h P) (view h' P')) : It prog w Mu' P' h' it xs := by
  cases x with
  | list h1 h2 h3 h4 h5 =>
    obtain ⟨o, a, b⟩ := h1
    exact .list ⟨o, k _ _ a, b⟩ (k _ _ h2) h3 (hm _ _ h2) (Reps.mono sb _ h5)
  | tuple h1 h2 h3 h4 h5 =>
    obtain ⟨o, a, b⟩ := h1
    exact .tuple ⟨o, k _ _ a, b⟩ (k _ _ h2) h3 (hm _ _ h2) (Reps.mono sb _ h5)
  | range h1 h2 => exact .range (k _ _ h1) h2
  | dict h1 h2 h3 h4 h5 =>
    obtain ⟨o, a, b⟩ := h1
    obtain ⟨od, es, e1, e2⟩ := h2
    exact .dict ⟨o, k _ _ a, b⟩ ⟨od, es, k _ _ e1, e2⟩ h3 (hm _ _ e1) h5

/-- where a comprehension has come to: a new list -/
structure CEnd (prog : Program) (w : World) (P : List Addr) (us : List PV) (s s' : Shared) (acc C : Addr) : Prop where
  st : Step s s'
  fa : s.heap.get? acc = none
  fC : s.heap.get? C = none
  ne : acc ≠ C
  nC : ∃ m, s'.heap.Ns C m
  rep : ∃ P2 : List Addr, (∀ a ∈ P, a ∈ P2) ∧ C ∈ P2 ∧ acc ∈ P2 ∧ ORep prog w (view s'.heap P2) s'.heap acc (.list us)

theorem comp_core {t : Tgt} {ite : CE} {ifs : CEs} {rest : CG} (hE : EOk prog w hB FN F T n ite) (hI : IOk prog w hB FN F T n ifs) (hG : GOk prog w hB FN F T n rest)
    {names : Names} {Γ : Ctx} {env : Env} {elt : PySem.Expr} {c : Comprehension} {gs : List Comprehension} {sc : Scope} {pos pos' : Pos} {σ : Sig} {us : List PV}
    (hsc : chkSc names Γ sc (.gen t ite ifs rest) (genNames (.gen t ite ifs rest) (c :: gs)) = true) (c1 : chkE FN names Γ ite c.iter = true) (c2 : c.is_async = 0)
    (c3 : chkT (innerCtx Γ sc.names (genNames (.gen t ite ifs rest) (c :: gs))) t c.target = true)
    (c4 : chkEs FN sc.names (innerCtx Γ sc.names (genNames (.gen t ite ifs rest) (c :: gs))) ifs c.ifs = true)
    (c5 : chkG FN sc.names (innerCtx Γ sc.names (genNames (.gen t ite ifs rest) (c :: gs))) rest gs elt = true)
    (he : evalG F T true (.gen t ite ifs rest) (clr (CG.gen t ite ifs rest).vars σ) = some us) (hz : us.length ≤ 1048576)
    {A : Around} {P O : List Addr} {s : Shared} {E : Value → Shared → Prop} (R : Room A n) (K : Keeps hB s.heap) (S : Sc prog w names Γ env s.heap P O σ) {use : Option (Value → Sem Unit)} {Q : Value → Shared → Prop}
    (hpost : ∀ acc C s' f, CEnd prog w P us s s' acc C → compPost (model prog w) A E use Q (.ref acc) C (.ok f) s') :
    wpAny (model prog w) A (comprehension (.ListComp elt (c :: gs) sc pos) sc env pos' (newList []) false (firstIter (c :: gs) env) use) Q E s := by
  have k := ScOk.of hsc
  (first | rw [evG_elt] at he | rw [evG_gen] at he)
  split at he
  · rename_i r e1
    obtain ⟨u, f⟩ := r
    rw [if_pos (by simp)] at he
    split at he
    · rename_i xs e2
      have S0 : Sc prog w names Γ env s.heap P O (clr (CG.gen t ite ifs rest).vars σ) := S.less fun i p e => by unfold clr at e; split at e; · cases e
                                                                                                                · exact e
      refine wpAny_comprehension_free (cl := cloOf env sc.names []) (g := c) (gs := gs) rfl (not_set c1 env) (closure_eq fun p hp hf => S.cells p.1 (k.free p hp hf)) k.kind (fun x hx hl => by have := k.each x hx; rw [hl] at this; exact this) ?_
      rw [firstIter_cons]
      refine wpAny_mono (hE names Γ c.iter env c1 _ u f e1 A P O s E R K S0) (fun v s1 g1 => ?_) fun _ _ x => x
      have S1 := S0.keeps g1.step.1
      have K1 := K.trans g1.step.1
      refine wpAny_mono (no_keyiter (Mu := []) (h := s1.heap) (it := 0) e2 g1.read S1.inP (fun _ _ q => by cases q)) (fun itv s2 h2 => ?_) fun _ _ x => x
      obtain ⟨rfl, st2, I2, nk⟩ := h2
      have fi : s1.heap.get? s1.heap.objs.size = none := (Keeps.refl s1.heap).fresh
      refine wpAny_newObj_type ?_ (by show (0 : Nat) ≤ sizeLine; exact Nat.zero_le _)
      have KA := Keeps.push s2.heap { cls := .type "list", data := .seq [].toArray }
      have fA : s2.heap.get? s2.heap.objs.size = none := (Keeps.refl s2.heap).fresh
      generalize hs3 : ({ s2 with heap := s2.heap.push { cls := .type "list", data := .seq [].toArray } } : Shared) = s3
      have h3 : s3.heap = s2.heap.push { cls := .type "list", data := .seq [].toArray } := by rw [← hs3]
      have g3 : s3.gens = s2.gens ∧ s3.os = s2.os := by rw [← hs3]; exact ⟨rfl, rfl⟩
      rw [← h3] at KA
      have accO : s3.heap.get? s2.heap.objs.size = some (listO #[] 0) := by rw [h3]; exact Heap.get?_push_size _ rfl
      refine new_env_comp ?_
      have KC := Keeps.push s3.heap { cls := .type "dict", data := .dict #[] }
      have fC : s3.heap.get? s3.heap.objs.size = none := (Keeps.refl s3.heap).fresh
      have nsC := Heap.Ns.new s3.heap (.type "dict")
      obtain ⟨KL, new, ecl, n1, n3, n4⟩ := lay_spec sc.names (s3.heap.push { cls := .type "dict", data := .dict #[] }) (cloOf env sc.names [])
      rw [Heap.size_push] at ecl
      generalize hh5 : pushCells (s3.heap.push { cls := .type "dict", data := .dict #[] }) sc.names = h5 at KL n1 ⊢
      have K35 : Keeps s3.heap h5 := KC.trans KL
      have K25 : Keeps s2.heap h5 := KA.trans K35
      have K15 : Keeps s1.heap h5 := st2.1.trans K25
      have K05 : Keeps s.heap h5 := g1.step.1.trans K15
      dsimp only
      rw [ecl]
      have below : ∀ {h h' : Heap} {a : Addr}, Keeps h h' → h'.get? a = none → h.get? a = none := fun {h h' a} q e => by
        cases z : h.get? a with
        | none => rfl
        | some o => rw [q _ _ z] at e; cases e
      have f1A : s1.heap.get? s2.heap.objs.size = none := below st2.1 fA
      have f2C : s2.heap.get? s3.heap.objs.size = none := below KA fC
      have f1C : s1.heap.get? s3.heap.objs.size = none := below st2.1 f2C
      have n1' : ∀ p ∈ new, s3.heap.get? p.2 = none := fun p hp => below KC (n1 p hp).1
      have CO : ∃ o, (s3.heap.push { cls := .type "dict", data := .dict #[] }).get? s3.heap.objs.size = some o := ⟨_, Heap.get?_push_size _ rfl⟩
      have nC : ∀ p ∈ new, p.2 ≠ s3.heap.objs.size := fun p hp q => by obtain ⟨o, ho⟩ := CO; have := (n1 p hp).1; rw [q, ho] at this; cases this
      have nA : ∀ p ∈ new, p.2 ≠ s2.heap.objs.size := fun p hp q => by have := n1' p hp; rw [q, accO] at this; cases this
      have AC : s2.heap.objs.size ≠ s3.heap.objs.size := fun q => by rw [← q, accO] at fC; cases fC
      obtain ⟨oi, hoi⟩ := I2.ex
      have iA : s1.heap.objs.size ≠ s2.heap.objs.size := fun q => by rw [← q, hoi] at fA; cases fA
      have iC : s1.heap.objs.size ≠ s3.heap.objs.size := fun q => by rw [← q, hoi] at f2C; cases f2C
      have iN : ∀ p ∈ new, p.2 ≠ s1.heap.objs.size := fun p hp q => by have := below KA (n1' p hp); rw [q, hoi] at this; cases this
      have iP : s1.heap.objs.size ∉ P := fun q => by obtain ⟨o, ho⟩ := S1.inP _ q; exact absurd (Heap.lt_size ho) (Nat.lt_irrefl _)
      -- what is hidden: the list, the block's names, its cells
      let Mt : List Addr := s3.heap.objs.size :: new.map (·.2)
      let PP : List Addr := s2.heap.objs.size :: (Mt ++ P)
      have mtF : ∀ a ∈ Mt, s2.heap.get? a = none ∧ a ≠ s2.heap.objs.size ∧ a ≠ s1.heap.objs.size := by
        intro a ha
        rcases List.mem_cons.mp ha with rfl | ha
        · exact ⟨f2C, Ne.symm AC, Ne.symm iC⟩
        · obtain ⟨p, hp, rfl⟩ := List.mem_map.mp ha
          exact ⟨below KA (n1' p hp), nA p hp, iN p hp⟩
      have ppIn : ∀ a ∈ PP, a ∈ P ∨ s2.heap.get? a = none := by
        intro a ha
        rcases List.mem_cons.mp ha with rfl | ha
        · exact .inr fA
        · rcases List.mem_append.mp ha with ha | ha
          · exact .inr (mtF a ha).1
          · exact .inl ha
      have pp5 : ∀ a ∈ PP, ∃ o, h5.get? a = some o := by
        intro a ha
        rcases List.mem_cons.mp ha with rfl | ha
        · exact ⟨_, K35 _ _ accO⟩
        · rcases List.mem_append.mp ha with ha | ha
          · rcases List.mem_cons.mp ha with rfl | ha
            · obtain ⟨o, ho⟩ := CO; exact ⟨o, KL _ _ ho⟩
            · obtain ⟨p, hp, rfl⟩ := List.mem_map.mp ha
              obtain ⟨o, ho, _⟩ := (n1 p hp).2.1; exact ⟨o, ho⟩
          · obtain ⟨o, ho⟩ := S1.inP a ha; exact ⟨o, K15 _ _ ho⟩
      have iPP : s1.heap.objs.size ∉ PP := by
        intro ha
        rcases List.mem_cons.mp ha with q | ha
        · exact iA q
        · rcases List.mem_append.mp ha with ha | ha
          · exact (mtF _ ha).2.2 rfl
          · exact iP ha
      have mkSc : ∀ PH : List Addr, (∀ a ∈ PP, a ∈ PH) → (∀ a ∈ PH, a ∈ P ∨ s1.heap.get? a = none) → (∀ a ∈ PH, ∃ o, h5.get? a = some o) →
          Sc prog w sc.names (innerCtx Γ sc.names (genNames (.gen t ite ifs rest) (c :: gs))) (compEnv sc env s3.heap.objs.size (new ++ cloOf env sc.names [])) h5 PH O (clr (CG.gen t ite ifs rest).vars (clr (CG.gen t ite ifs rest).vars σ)) := by
        intro PH q1 q2 q3
        exact sc_comp k S1 K15 PH (fun a ha => q1 a (.tail _ (List.mem_append_right _ ha))) q2 q3 (q1 _ (.tail _ (List.mem_append_left _ (.head _)))) f1C ⟨_, nsC.keeps KL⟩
          (fun p hp => ⟨below st2.1 (below KA (n1' p hp)), (n1 p hp).2.1, q1 _ (.tail _ (List.mem_append_left _ (.tail _ (List.mem_map_of_mem (f := (·.2)) hp)))), nC p hp⟩) (fun p hp => (n1 p hp).2.2) n3 n4
      have cc : clr (CG.gen t ite ifs rest).vars (clr (CG.gen t ite ifs rest).vars σ) = clr (CG.gen t ite ifs rest).vars σ := by
        funext i; unfold clr; split <;> rfl
      rw [cc] at mkSc
      have SI := mkSc (s1.heap.objs.size :: PP) (fun a ha => .tail _ ha) (fun a ha => by
        rcases List.mem_cons.mp ha with rfl | ha
        · exact .inr fi
        · exact (ppIn a ha).imp id fun q => below st2.1 q) (fun a ha => by
        rcases List.mem_cons.mp ha with rfl | ha
        · exact ⟨_, K25 _ _ hoi⟩
        · exact pp5 a ha)
      have SP := mkSc PP (fun a ha => ha) (fun a ha => (ppIn a ha).imp id fun q => below st2.1 q) pp5
      have good : ∀ p ∈ genNames (.gen t ite ifs rest) (c :: gs), Good Mt (compEnv sc env s3.heap.objs.size (new ++ cloOf env sc.names [])) p.1 := by
        intro p hp
        have n2 : ∀ p ∈ new, (p.1, NameKind.cell) ∈ sc.names := fun p hp => (n1 p hp).2.2
        rcases k.owns p hp with hl | hl
        · have hk : (compEnv sc env s3.heap.objs.size (new ++ cloOf env sc.names [])).kindOf p.1 = some .local := by
            rcases SP.kinds _ _ hl with q | ⟨q, _⟩
            · exact q
            · cases q
          refine ⟨.inl hk, ⟨.head _, fun a e => ?_⟩, fun q => by rw [hk] at q; cases q⟩
          rcases cells_lookup k S1 n2 e with m | ⟨m, _⟩
          · have := k.each _ (n2 _ m); rw [hl] at this; cases this
          · rw [hl] at m; cases m
        · have hk : (compEnv sc env s3.heap.objs.size (new ++ cloOf env sc.names [])).kindOf p.1 = some .cell := by
            rcases SP.kinds _ _ hl with q | ⟨q, _⟩
            · exact q
            · cases q
          refine ⟨.inr hk, ⟨.head _, fun a e => ?_⟩, fun _ => SP.cells _ (.inl hl)⟩
          rcases cells_lookup k S1 n2 e with m | ⟨m, _⟩
          · exact .tail _ (List.mem_map_of_mem (f := (·.2)) m)
          · rw [hl] at m; cases m
      have c5' : chkG FN sc.names (innerCtx Γ sc.names (genNames (.gen t ite ifs rest) (c :: gs))) rest gs elt = true := c5
      have tg : ∀ d ∈ c :: gs, TgtOk Mt (compEnv sc env s3.heap.objs.size (new ++ cloOf env sc.names [])) d.target := by
        intro d hd
        rcases List.mem_cons.mp hd with rfl | hd
        · exact tgt_of c3 fun p hp => good p (by unfold genNames; exact List.mem_append_left _ hp)
        · exact tgt_all c5' (fun p hp => good p (by unfold genNames; exact List.mem_append_right _ hp)) d hd
      have mP : ∀ a ∈ s2.heap.objs.size :: Mt, a ∈ PP := fun a ha => by
        rcases List.mem_cons.mp ha with rfl | ha
        · exact .head _
        · exact .tail _ (List.mem_append_left _ ha)
      have sbI : Sub (view s2.heap (s1.heap.objs.size :: P)) (view h5 (s1.heap.objs.size :: PP)) := by
        intro b o e
        refine view_of (K25 _ _ (view_get e)) fun q => ?_
        rcases List.mem_cons.mp q with q | q
        · exact view_not e (q ▸ .head _)
        · rcases ppIn b q with q | q
          · exact view_not e (.tail _ q)
          · rw [view_get e] at q; cases q
      have I5 : It prog w (s2.heap.objs.size :: Mt) (s1.heap.objs.size :: PP) h5 s1.heap.objs.size xs := I2.setMu (fun a o e q => by
        rcases List.mem_cons.mp q with rfl | q
        · rw [e] at fA; cases fA
        · rw [(mtF a q).1] at e; cases e) K25 sbI
      have C5 : CAt prog w hB sc.names (innerCtx Γ sc.names (genNames (.gen t ite ifs rest) (c :: gs))) (compEnv sc env s3.heap.objs.size (new ++ cloOf env sc.names [])) (c :: gs) Mt (s1.heap.objs.size :: PP) O s2.heap.objs.size (clr (CG.gen t ite ifs rest).vars σ) []
          { s3 with heap := h5 } := {
        kb := K1.trans K15
        S := SI
        inj := inj_inner k
        tg := tg
        mP := fun a ha => .tail _ (mP a ha)
        mB := fun a ha => by
          rcases List.mem_cons.mp ha with rfl | ha
          · exact below (K1.trans st2.1) fA
          · exact below (K1.trans st2.1) (mtF a ha).1
        an := fun q => (mtF _ q).2.1 rfl
        al := AC
        ac := fun id a e q => by
          rcases cells_lookup k S1 (fun p hp => (n1 p hp).2.2) e with m | ⟨_, m⟩
          · exact nA _ m q.symm
          · obtain ⟨o, ho⟩ := S1.inP a (S1.cellP id a m).1; rw [← q, f1A] at ho; cases ho
        ao := fun q => by obtain ⟨o, ho⟩ := S1.inP _ (S1.oP _ q); rw [f1A] at ho; cases ho
        ar := by unfold ORep; exact ⟨#[], 0, K35 _ _ accO, Reps.nil⟩ }
      have nd := k.nd
      rw [k.vars] at nd
      have ndp : t.vars.Nodup ∧ rest.vars.Nodup ∧ ∀ x ∈ t.vars, ∀ y ∈ rest.vars, x ≠ y := by
        have := nd; unfold CG.vars at this; exact List.nodup_append.mp this
      have clrN : ∀ x ∈ (CG.gen t ite ifs rest).vars, clr (CG.gen t ite ifs rest).vars σ x = none := fun x hx => by unfold clr; rw [if_pos hx]
      have loop := comp_loop (A := A) (sc := sc) (pos := pos) (gens := c :: gs) (d := 0) (it := s1.heap.objs.size) (c := c) hI hG rfl c2 (fun g' e => chkG_async (FN := FN) c5 g' (by simpa using e)) c3 c4 (by simpa using c5)
        (fun x hx => clrN x (by unfold CG.vars; exact List.mem_append_left _ hx)) (fun x hx => clrN x (by unfold CG.vars; exact List.mem_append_right _ hx)) (fun x hx q => ndp.2.2 x q x hx rfl) ndp.2.1 R iPP (below K1 fi) mP xs us [] { s3 with heap := h5 } he (by simpa using hz) I5 C5 SP
      refine codeAny_mono (comp_start rfl c2 loop (iter_again I5 (fun d i m ep q => by
        obtain ⟨o, q1, q2, q3⟩ := q
        rw [K25 _ _ hoi] at q1; cases q1
        exact nk d i m ep ⟨_, hoi, q2, q3⟩) loop)) fun r s6 h6 => ?_
      obtain ⟨f', rfl, k6, C6⟩ := h6
      refine hpost s2.heap.objs.size s3.heap.objs.size s6 f' ⟨⟨fun b o e => ?_, ?_, ?_⟩, below g1.step.1 f1A, below g1.step.1 f1C, AC, C6.S.locN, PP, fun a ha => .tail _ (List.mem_append_right _ ha), .tail _ (List.mem_append_left _ (.head _)), .head _, by simpa using C6.ar⟩
      · refine k6.k b o (fun q => ?_) (K05 _ _ e)
        have e1' := g1.step.1 _ _ e
        rcases List.mem_cons.mp q with rfl | q
        · rw [e1'] at fi; cases fi
        · rcases List.mem_cons.mp q with rfl | q
          · rw [e1'] at f1A; cases f1A
          · have := below st2.1 (mtF b q).1; rw [e1'] at this; cases this
      · exact k6.g.trans (g3.1.trans (st2.2.1.trans g1.step.2.1))
      · exact k6.o.trans (g3.2.trans (st2.2.2.trans g1.step.2.2))
    · cases he
  · cases he

theorem E_comp {t : Tgt} {ite : CE} {ifs : CEs} {rest : CG} (hE : EOk prog w hB FN F T n ite) (hI : IOk prog w hB FN F T n ifs) (hG : GOk prog w hB FN F T n rest) : EOk prog w hB FN F T n (.comp (.gen t ite ifs rest)) := by
  intro names Γ e env hc σ u f he A P O s E R K S
  refine i_comp hc fun elt c gs sc pos hc => ?_
  · rw [Bool.and_eq_true] at hc
    obtain ⟨h1, h2⟩ := hc
    · skip
      simp only [Bool.and_eq_true, decide_eq_true_eq] at h2
      obtain ⟨⟨⟨⟨c1, c2⟩, c3⟩, c4⟩, c5⟩ := h2
      (first | rw [evE_lit] at he | rw [evE_var] at he | rw [evE_gint] at he | rw [evE_bin] at he | rw [evE_neg] at he | rw [evE_not] at he | rw [evE_bop] at he | rw [evE_cmp] at he | rw [evE_chain] at he | rw [evE_ite] at he | rw [evE_list] at he | rw [evE_tuple] at he | rw [evE_dict] at he | rw [evE_idx] at he | rw [evE_tok] at he | rw [evE_sliceL] at he | rw [evE_sliceH] at he | rw [evE_sliceB] at he | rw [evE_call] at he | rw [evE_bi] at he | rw [evE_join] at he | rw [evE_index] at he | rw [evE_comp] at he)
      split at he
      · rename_i us e1
        obtain ⟨hz, er⟩ := mkL_some he
        cases er
        rw [eval_ListComp]
        have fa : firstAsync (c :: gs) = false := by
          obtain ⟨a, b, d, e⟩ := c
          dsimp only at c2
          subst c2
          rfl
        rw [fa]
        refine comp_core hE hI hG h1 c1 c2 c3 c4 c5 e1 hz R K S fun acc C s' f' ce => ?_
        obtain ⟨st, fA, fC, ne, ⟨m, nC⟩, P2, q1, q2, q3, q4⟩ := ce
        refine ⟨m, nC, fun h' hs => ⟨⟨keeps_same_new st.1 hs fC, st.2.1, st.2.2⟩, acc, rfl, fA, ?_⟩⟩
        have sb1 : Sub (view s'.heap P2) (view h' P2) := (keepsOff_same hs q2).sub
        refine q4.mono (sb1.trans (view_sub fun a ha => ?_)) fun o e => (hs.2 acc ne).trans e
        rcases List.mem_cons.mp ha with rfl | ha
        · exact q3
        · exact q1 a ha
      · cases he
theorem E_comp_elt {c : CE} : EOk prog w hB FN F T n (.comp (.elt c)) := by
  intro names Γ e env hc σ u f he A P O s E R K S
  exact i_comp_elt hc
end Mine


namespace Mine
variable {prog : Program} {w : World} {hB : Heap} {FN : List Str} {F : FT} {T : TT} {n : Nat} {mg mb : Str → Option Value}

noncomputable def M1 (prog : Program) (w : World) (hB : Heap) (FN : List Str) (F : FT) (T : TT) (n : Nat) (e : CE) : Prop := EOk prog w hB FN F T n e ∧ COk prog w hB FN F T n e
noncomputable def M2 (prog : Program) (w : World) (hB : Heap) (FN : List Str) (F : FT) (T : TT) (n : Nat) (es : CEs) : Prop :=
  EsOk prog w hB FN F T n es ∧ RsOk prog w hB FN F T n es ∧ BOk prog w hB FN F T n es ∧ BCOk prog w hB FN F T n es ∧ IOk prog w hB FN F T n es ∧ DOk prog w hB FN F T n es ∧ R1Ok prog w hB FN F T n es
noncomputable def M3 (prog : Program) (w : World) (hB : Heap) (FN : List Str) (F : FT) (T : TT) (n : Nat) (g : CG) : Prop :=
  GOk prog w hB FN F T n g ∧ EOk prog w hB FN F T n (.comp g)

theorem plain_of {ce : CE} {names : Names} {Γ : Ctx} {e : PySem.Expr} (h : chkE FN names Γ ce e = true) (hp : ∀ op a b, ce ≠ .cmp op a b) (h2 : ∀ a o b p c, ce ≠ .chain a o b p c) (h3 : ∀ a, ce ≠ .not a) (h4 : ∀ op es, ce ≠ .bop op es) (h5 : ∀ c a b, ce ≠ .ite c a b) : plainTest e = true := by
  cases ce <;> first | exact absurd rfl (hp _ _ _) | exact absurd rfl (h2 _ _ _ _ _) | exact absurd rfl (h3 _) | exact absurd rfl (h4 _ _) | exact absurd rfl (h5 _ _ _) | (first | exact i_lit h fun _ _ _ _ => rfl | exact i_var h fun _ _ _ => rfl | exact i_gint h fun _ _ _ => rfl | exact i_bin h fun _ _ _ _ _ => rfl | exact i_neg h fun _ _ _ => rfl | exact i_list h fun _ _ _ => rfl | exact i_tuple h fun _ _ _ _ => rfl | exact i_dict h fun _ _ _ _ => rfl | exact i_idx h fun _ _ _ _ => rfl | exact i_tok h fun _ _ _ _ _ => rfl | exact i_sliceL h fun _ _ _ _ _ => rfl | exact i_sliceH h fun _ _ _ _ _ => rfl | exact i_sliceB h fun _ _ _ _ _ _ => rfl | exact i_call h fun _ _ _ _ _ => rfl | exact i_bi h fun _ _ _ _ _ => rfl | exact i_join h fun _ _ _ _ _ _ _ _ => rfl | exact i_index h fun _ _ _ _ _ _ _ => rfl | (rename_i g; cases g with | elt c => exact i_comp_elt h | gen t it ifs rest => exact i_comp h fun _ _ _ _ _ _ => rfl))

theorem all_ok (HB : Base prog w hB FN F T n mg mb) (ce : CE) : M1 prog w hB FN F T n ce := by
  have gen : ∀ {ce : CE}, EOk prog w hB FN F T n ce → (∀ names Γ e, chkE FN names Γ ce e = true → plainTest e = true) → M1 prog w hB FN F T n ce := fun h hp => ⟨h, C_of_E h hp⟩
  refine CE.rec (motive_1 := M1 prog w hB FN F T n) (motive_2 := M2 prog w hB FN F T n) (motive_3 := M3 prog w hB FN F T n)
    (lit := fun c => ?_) (var := fun x => ?_) (gint := fun s i => ?_) (bin := fun op a b ha hb => ?_) (neg := fun a ha => ?_) (not := fun a ha => ?_) (bop := fun op es h => ?_) (cmp := fun op a b ha hb => ?_)
    (chain := fun a o1 b o2 c ha hb hc => ?_) (ite := fun c a b hc ha hb => ?_) (list := fun es h => ?_) (tuple := fun es h => ?_) (dict := fun ks es h => ?_) (idx := fun a i ha hi => ?_) (tok := fun a ha => ?_)
    (sliceL := fun a b ha hb => ?_) (sliceH := fun a b ha hb => ?_) (sliceB := fun a b c ha hb hc => ?_) (call := fun f es h => ?_) (bi := fun b es h => ?_) (join := fun a ha => ?_) (index := fun a x ha hx => ?_) (comp := fun g h => ?_)
    (nil := ?_) (cons := fun e es he hes => ?_) (elt := fun e he => ?_) (gen := fun t it ifs rest hit hifs hrest => ?_) ce
  · exact gen (E_lit c) fun _ _ _ h => plain_of h (by simp) (by simp) (by simp) (by simp) (by simp)
  · exact gen (E_var x) fun _ _ _ h => plain_of h (by simp) (by simp) (by simp) (by simp) (by simp)
  · exact gen (E_gint HB s i) fun _ _ _ h => plain_of h (by simp) (by simp) (by simp) (by simp) (by simp)
  · exact gen (E_bin op ha.1 hb.1) fun _ _ _ h => plain_of h (by simp) (by simp) (by simp) (by simp) (by simp)
  · exact gen (E_neg ha.1) fun _ _ _ h => plain_of h (by simp) (by simp) (by simp) (by simp) (by simp)
  · exact ⟨E_not ha.1, C_not ha.2⟩
  · exact ⟨E_bop op h.2.2.1, C_bop op h.2.2.2.1⟩
  · exact ⟨E_cmp op ha.1 hb.1, C_cmp op ha.1 hb.1⟩
  · exact ⟨E_chain o1 o2 ha.1 hb.1 hc.1, C_chain o1 o2 ha.1 hb.1 hc.1⟩
  · exact ⟨E_ite hc.2 ha.1 hb.1, C_ite hc.2 ha.2 hb.2⟩
  · exact gen (E_list h.1) fun _ _ _ h => plain_of h (by simp) (by simp) (by simp) (by simp) (by simp)
  · exact gen (E_tuple h.1) fun _ _ _ h => plain_of h (by simp) (by simp) (by simp) (by simp) (by simp)
  · exact gen (E_dict HB ks h.2.2.2.2.2.1) fun _ _ _ h => plain_of h (by simp) (by simp) (by simp) (by simp) (by simp)
  · exact gen (E_idx ha.1 hi.1) fun _ _ _ h => plain_of h (by simp) (by simp) (by simp) (by simp) (by simp)
  · exact gen (E_tok HB ha.1) fun _ _ _ h => plain_of h (by simp) (by simp) (by simp) (by simp) (by simp)
  · exact gen (E_sliceL ha.1 hb.1) fun _ _ _ h => plain_of h (by simp) (by simp) (by simp) (by simp) (by simp)
  · exact gen (E_sliceH ha.1 hb.1) fun _ _ _ h => plain_of h (by simp) (by simp) (by simp) (by simp) (by simp)
  · exact gen (E_sliceB ha.1 hb.1 hc.1) fun _ _ _ h => plain_of h (by simp) (by simp) (by simp) (by simp) (by simp)
  · exact gen (E_call HB f h.1 h.2.1) fun _ _ _ h => plain_of h (by simp) (by simp) (by simp) (by simp) (by simp)
  · exact gen (E_bi HB b h.2.1 h.2.2.2.2.2.2) fun _ _ _ h => plain_of h (by simp) (by simp) (by simp) (by simp) (by simp)
  · exact gen (E_join ha.1) fun _ _ _ h => plain_of h (by simp) (by simp) (by simp) (by simp) (by simp)
  · exact gen (E_index ha.1 hx.1) fun _ _ _ h => plain_of h (by simp) (by simp) (by simp) (by simp) (by simp)
  · exact gen h.2 fun _ _ _ h => plain_of h (by simp) (by simp) (by simp) (by simp) (by simp)
  · exact ⟨Es_nil, Rs_nil, B_nil, BC_nil, I_nil, D_nil, fun c h => by cases h⟩
  · exact ⟨Es_cons he.1 hes.1, Rs_cons he.1 hes.2.1, B_cons he.1 hes.2.2.1, BC_cons he.2 hes.2.2.2.1, I_cons he.2 hes.2.2.2.2.1, D_cons he.1 hes.2.2.2.2.2.1, fun c h => by cases h; exact he.1⟩
  · exact ⟨G_elt he.1, E_comp_elt⟩
  · exact ⟨G_gen hit.1 hifs.2.2.2.2.1 hrest.1, E_comp hit.1 hifs.2.2.2.2.1 hrest.1⟩

theorem eval_ok (HB : Base prog w hB FN F T n mg mb) (ce : CE) : EOk prog w hB FN F T n ce := (all_ok HB ce).1
theorem test_ok (HB : Base prog w hB FN F T n mg mb) (ce : CE) : COk prog w hB FN F T n ce := (all_ok HB ce).2
end Mine


namespace Mine

/-! statements: every one carries what comes behind it -/
inductive K where
  | nil
  | assign (x : Nat) (e : CE) (r : K)
  | assign2 (x y : Nat) (e : CE) (r : K)
  | move (x y : Nat) (r : K)
  | setitem (x : Nat) (i e : CE) (r : K)
  | append (x : Nat) (e : CE) (r : K)
  | ite (c : CE) (a b r : K)
  | while (c : CE) (b o r : K)
  | for (t : Tgt) (it : CE) (b r : K)
  | ret (e : CE)
  | retv (x : Nat)
  | brk
  | freeze (x : Nat) (r : K)

noncomputable def seqO (a : Option Out) (k : Sig → Option Out) : Option Out := match a with
  | some (.next σ) => k σ
  | r => r

noncomputable def execK (F : FT) (T : TT) (N : Nat) : K → Sig → Option Out
  | .nil, σ => some (.next σ)
  | .assign x e r, σ => match evalE F T e σ with
    | some (t, .new) => execK F T N r (upd σ x t true)
    | some (t, .frz) => execK F T N r (upd σ x t false)
    | _ => Option.none
  | .assign2 x y e r, σ => match evalE F T e σ with
    | some q => match kept q with
      | some t => match bindT σ (.two x y) t with
        | some σ' => execK F T N r σ'
        | Option.none => Option.none
      | Option.none => Option.none
    | Option.none => Option.none
  | .move x y r, σ => match σ y with
    | some (t, true) => if x = y then Option.none else execK F T N r (upd (drp σ y) x t true)
    | _ => Option.none
  | .setitem x i e r, σ => match evalE F T e σ with
    | some q => match kept q with
      | some v => match evalE F T i σ with
        | some (k, _) => match σ x with
          | some (t, true) => match setPV t k v with
            | some t' => execK F T N r (upd σ x t' true)
            | Option.none => Option.none
          | _ => Option.none
        | Option.none => Option.none
      | Option.none => Option.none
    | Option.none => Option.none
  | .append x e r, σ => match evalE F T e σ with
    | some q => match kept q with
      | some v => match σ x with
        | some (.list xs, true) => if xs.length < bigL then execK F T N r (upd σ x (.list (xs ++ [v])) true) else Option.none
        | _ => Option.none
      | Option.none => Option.none
    | Option.none => Option.none
  | .ite c a b r, σ => match evalE F T c σ with
    | some (.bool true, _) => seqO (execK F T N a σ) (execK F T N r)
    | some (.bool false, _) => seqO (execK F T N b σ) (execK F T N r)
    | _ => Option.none
  | .while c b o r, σ => seqO (whileS (fun σ => match evalE F T c σ with
      | some (.bool b, _) => some b
      | _ => Option.none) (execK F T N b) (execK F T N o) N σ) (execK F T N r)
  | .for t it b r, σ => match evalE F T it σ with
    | some q => match kept q with
      | some u => match itemsOf u with
        | some xs => seqO (forS t (execK F T N b) xs σ) (execK F T N r)
        | Option.none => Option.none
      | Option.none => Option.none
    | Option.none => Option.none
  | .ret e, σ => match evalE F T e σ with
    | some (t, .new) => some (.ret (t, .new))
    | some (t, .frz) => some (.ret (t, .frz))
    | _ => Option.none
  | .retv x, σ => match σ x with
    | some (t, true) => some (.ret (t, .new))
    | _ => Option.none
  | .brk, σ => some (.brk σ)
  | .freeze x r, σ => match σ x with
    | some (t, true) => execK F T N r (upd σ x t false)
    | some (_, false) => execK F T N r σ
    | Option.none => Option.none

theorem exK_nil {F : FT} {T : TT} {N : Nat} {σ} : execK F T N .nil σ = some (.next σ) := rfl
theorem exK_assign {F : FT} {T : TT} {N : Nat} {x e r σ} : execK F T N (.assign x e r) σ = match evalE F T e σ with
    | some (t, .new) => execK F T N r (upd σ x t true)
    | some (t, .frz) => execK F T N r (upd σ x t false)
    | _ => Option.none := rfl
theorem exK_assign2 {F : FT} {T : TT} {N : Nat} {x y e r σ} : execK F T N (.assign2 x y e r) σ = match evalE F T e σ with
    | some q => match kept q with
      | some t => match bindT σ (.two x y) t with
        | some σ' => execK F T N r σ'
        | Option.none => Option.none
      | Option.none => Option.none
    | Option.none => Option.none := rfl
theorem exK_move {F : FT} {T : TT} {N : Nat} {x y r σ} : execK F T N (.move x y r) σ = match σ y with
    | some (t, true) => if x = y then Option.none else execK F T N r (upd (drp σ y) x t true)
    | _ => Option.none := rfl
theorem exK_setitem {F : FT} {T : TT} {N : Nat} {x i e r σ} : execK F T N (.setitem x i e r) σ = match evalE F T e σ with
    | some q => match kept q with
      | some v => match evalE F T i σ with
        | some (k, _) => match σ x with
          | some (t, true) => match setPV t k v with
            | some t' => execK F T N r (upd σ x t' true)
            | Option.none => Option.none
          | _ => Option.none
        | Option.none => Option.none
      | Option.none => Option.none
    | Option.none => Option.none := rfl
theorem exK_append {F : FT} {T : TT} {N : Nat} {x e r σ} : execK F T N (.append x e r) σ = match evalE F T e σ with
    | some q => match kept q with
      | some v => match σ x with
        | some (.list xs, true) => if xs.length < bigL then execK F T N r (upd σ x (.list (xs ++ [v])) true) else Option.none
        | _ => Option.none
      | Option.none => Option.none
    | Option.none => Option.none := rfl
theorem exK_ite {F : FT} {T : TT} {N : Nat} {c a b r σ} : execK F T N (.ite c a b r) σ = match evalE F T c σ with
    | some (.bool true, _) => seqO (execK F T N a σ) (execK F T N r)
    | some (.bool false, _) => seqO (execK F T N b σ) (execK F T N r)
    | _ => Option.none := rfl
theorem exK_while {F : FT} {T : TT} {N : Nat} {c b o r σ} : execK F T N (.while c b o r) σ = seqO (whileS (fun σ => match evalE F T c σ with
      | some (.bool b, _) => some b
      | _ => Option.none) (execK F T N b) (execK F T N o) N σ) (execK F T N r) := rfl
theorem exK_for {F : FT} {T : TT} {N : Nat} {t it b r σ} : execK F T N (.for t it b r) σ = match evalE F T it σ with
    | some q => match kept q with
      | some u => match itemsOf u with
        | some xs => seqO (forS t (execK F T N b) xs σ) (execK F T N r)
        | Option.none => Option.none
      | Option.none => Option.none
    | Option.none => Option.none := rfl
theorem exK_ret {F : FT} {T : TT} {N : Nat} {e σ} : execK F T N (.ret e) σ = match evalE F T e σ with
    | some (t, .new) => some (.ret (t, .new))
    | some (t, .frz) => some (.ret (t, .frz))
    | _ => Option.none := rfl
theorem exK_retv {F : FT} {T : TT} {N : Nat} {x σ} : execK F T N (.retv x) σ = match σ x with
    | some (t, true) => some (.ret (t, .new))
    | _ => Option.none := rfl
theorem exK_brk {F : FT} {T : TT} {N : Nat} {σ} : execK F T N .brk σ = some (.brk σ) := rfl
theorem exK_freeze {F : FT} {T : TT} {N : Nat} {x r σ} : execK F T N (.freeze x r) σ = match σ x with
    | some (t, true) => execK F T N r (upd σ x t false)
    | some (_, false) => execK F T N r σ
    | Option.none => Option.none := rfl

/-- a value that is no comprehension -/
noncomputable def noComp : PySem.Expr → Bool
  | .ListComp .. | .SetComp .. | .DictComp .. => false
  | _ => true
noncomputable def noTup : PySem.Expr → Bool
  | .Tuple .. => false
  | _ => true

/-- a name of the block's own -/
noncomputable def ownName (names : Names) (id : Str) : Bool := (decide (names.lookup id = some .local) || decide (names.lookup id = some .cell)) && okId id

noncomputable def chkX (names : Names) (Γ : Ctx) (x : Nat) : PySem.Expr → Bool
  | .Name id _ => decide (Γ.lookup id = some x) && ownName names id
  | _ => false

noncomputable def chkK (FN : List Str) (names : Names) (Γ : Ctx) : K → List Stmt → Bool
  | .nil, l => match l with
    | [] => true
    | _ => false
  | .assign x e r, l => match l with
    | .Assign [.Name id _] v _ :: l => decide (Γ.lookup id = some x) && ownName names id && chkE FN names Γ e v && chkK FN names Γ r l
    | _ => false
  | .assign2 x y e r, l => match l with
    | .Assign [.Tuple [.Name a pa, .Name b pb] k p] v _ :: l => chkT Γ (.two x y) (.Tuple [.Name a pa, .Name b pb] k p) && ownName names a && ownName names b && noComp v && noTup v && chkE FN names Γ e v && chkK FN names Γ r l
    | _ => false
  | .move x y r, l => match l with
    | .Assign [.Name id _] (.Name id' _) _ :: l => decide (Γ.lookup id = some x) && ownName names id && decide (Γ.lookup id' = some y) && ownName names id' && chkK FN names Γ r l
    | _ => false
  | .setitem x i e r, l => match l with
    | .Assign [.Subscript (.Name id _) j _] v _ :: l => decide (Γ.lookup id = some x) && ownName names id && chkE FN names Γ i j && chkE FN names Γ e v && chkK FN names Γ r l
    | _ => false
  | .append x e r, l => match l with
    | .Expr (.Call (.Attribute (.Name id _) nm apos) [y] [] pos) _ :: l => decide (Γ.lookup id = some x) && ownName names id && decide (nm = ("append" : Str)) && (apos.endLine == pos.line) && chkE FN names Γ e y && chkK FN names Γ r l
    | _ => false
  | .ite c a b r, l => match l with
    | .If t x y _ :: l => chkE FN names Γ c t && chkK FN names Γ a x && chkK FN names Γ b y && chkK FN names Γ r l
    | _ => false
  | .while c b o r, l => match l with
    | .While t x y _ :: l => chkE FN names Γ c t && chkK FN names Γ b x && chkK FN names Γ o y && chkK FN names Γ r l
    | _ => false
  | .for t it b r, l => match l with
    | .For tg i x [] _ :: l => chkT Γ t tg && ((tgtNames t tg).all fun p => ownName names p.1) && chkE FN names Γ it i && chkK FN names Γ b x && chkK FN names Γ r l
    | _ => false
  | .ret e, l => match l with
    | [.Return (some v) _] => chkE FN names Γ e v
    | _ => false
  | .retv x, l => match l with
    | [.Return (some v) _] => chkE FN names Γ (.var x) v
    | _ => false
  | .brk, l => match l with
    | [.Break _] => true
    | _ => false
  | .freeze _ r, l => chkK FN names Γ r l

/-! what the check of a block says, form by form -/
section
variable {FN : List Str} {names : Names} {Γ : Ctx} {l0 : List Stmt} {motive : List Stmt → Prop}
@[elab_as_elim] theorem j_assign {x : Nat} {e : CE} {r : K} (hc : chkK FN names Γ (.assign x e r) l0 = true) (k : ∀ id pos v spos l, (decide (Γ.lookup id = some x) && ownName names id && chkE FN names Γ e v && chkK FN names Γ r l) = true → motive (.Assign [.Name id pos] v spos :: l)) : motive l0 := by
  revert hc; cases l0 with
  | nil => exact fun hc => (Bool.false_ne_true hc).elim
  | cons st l => cases st with
    | Assign ts v spos => cases ts with
        | nil => exact fun hc => (Bool.false_ne_true hc).elim
        | cons u ts => cases ts with
          | cons _ _ => cases u <;> exact fun hc => (Bool.false_ne_true hc).elim
          | nil => cases u with
            | Name id pos => exact fun hc => k id pos v spos l hc
            | _ => exact fun hc => (Bool.false_ne_true hc).elim
    | _ => exact fun hc => (Bool.false_ne_true hc).elim
@[elab_as_elim] theorem j_assign2 {x y : Nat} {e : CE} {r : K} (hc : chkK FN names Γ (.assign2 x y e r) l0 = true) (k : ∀ a pa b pb k p v spos l, (chkT Γ (.two x y) (.Tuple [.Name a pa, .Name b pb] k p) && ownName names a && ownName names b && noComp v && noTup v && chkE FN names Γ e v && chkK FN names Γ r l) = true → motive (.Assign [.Tuple [.Name a pa, .Name b pb] k p] v spos :: l)) : motive l0 := by
  revert hc; cases l0 with
  | nil => exact fun hc => (Bool.false_ne_true hc).elim
  | cons st l => cases st with
    | Assign ts v spos => cases ts with
        | nil => exact fun hc => (Bool.false_ne_true hc).elim
        | cons u ts => cases u with
          | Tuple us kk p => cases us with
            | nil => exact fun hc => (Bool.false_ne_true hc).elim
            | cons w us => cases w with
              | Name a pa => cases us with
                | nil => exact fun hc => (Bool.false_ne_true hc).elim
                | cons w us => cases w with
                  | Name b pb => cases us with
                    | nil => cases ts with
                      | nil => exact fun hc => k a pa b pb kk p v spos l hc
                      | cons _ _ => exact fun hc => (Bool.false_ne_true hc).elim
                    | cons _ _ => exact fun hc => (Bool.false_ne_true hc).elim
                  | _ => exact fun hc => (Bool.false_ne_true hc).elim
              | _ => exact fun hc => (Bool.false_ne_true hc).elim
          | _ => exact fun hc => (Bool.false_ne_true hc).elim
    | _ => exact fun hc => (Bool.false_ne_true hc).elim
@[elab_as_elim] theorem j_move {x y : Nat} {r : K} (hc : chkK FN names Γ (.move x y r) l0 = true) (k : ∀ id pos id' pos' spos l, (decide (Γ.lookup id = some x) && ownName names id && decide (Γ.lookup id' = some y) && ownName names id' && chkK FN names Γ r l) = true → motive ((.Assign [.Name id pos] (.Name id' pos') spos) :: l)) : motive l0 := by
  revert hc; cases l0 with
  | nil => exact fun hc => (Bool.false_ne_true hc).elim
  | cons st l => cases st with
    | Assign ts v spos => cases ts with
        | nil => exact fun hc => (Bool.false_ne_true hc).elim
        | cons u ts => cases u with
          | Name id pos => cases ts with
            | cons _ _ => exact fun hc => (Bool.false_ne_true hc).elim
            | nil => cases v with
              | Name id' pos' => exact fun hc => k id pos id' pos' spos l hc
              | _ => exact fun hc => (Bool.false_ne_true hc).elim
          | _ => exact fun hc => (Bool.false_ne_true hc).elim
    | _ => exact fun hc => (Bool.false_ne_true hc).elim
@[elab_as_elim] theorem j_setitem {x : Nat} {i e : CE} {r : K} (hc : chkK FN names Γ (.setitem x i e r) l0 = true) (k : ∀ id p j p2 v spos l, (decide (Γ.lookup id = some x) && ownName names id && chkE FN names Γ i j && chkE FN names Γ e v && chkK FN names Γ r l) = true → motive (.Assign [.Subscript (.Name id p) j p2] v spos :: l)) : motive l0 := by
  revert hc; cases l0 with
  | nil => exact fun hc => (Bool.false_ne_true hc).elim
  | cons st l => cases st with
    | Assign ts v spos => cases ts with
        | nil => exact fun hc => (Bool.false_ne_true hc).elim
        | cons u ts => cases u with
          | Subscript w j p2 => cases w with
            | Name id p => cases ts with
              | cons _ _ => exact fun hc => (Bool.false_ne_true hc).elim
              | nil => exact fun hc => k id p j p2 v spos l hc
            | _ => exact fun hc => (Bool.false_ne_true hc).elim
          | _ => exact fun hc => (Bool.false_ne_true hc).elim
    | _ => exact fun hc => (Bool.false_ne_true hc).elim
@[elab_as_elim] theorem j_append {x : Nat} {e : CE} {r : K} (hc : chkK FN names Γ (.append x e r) l0 = true) (k : ∀ id p nm apos y pos spos l, (decide (Γ.lookup id = some x) && ownName names id && decide (nm = ("append" : Str)) && (apos.endLine == pos.line) && chkE FN names Γ e y && chkK FN names Γ r l) = true → motive (.Expr (.Call (.Attribute (.Name id p) nm apos) [y] [] pos) spos :: l)) : motive l0 := by
  revert hc; cases l0 with
  | nil => exact fun hc => (Bool.false_ne_true hc).elim
  | cons st l => cases st with
    | Expr u spos => cases u with
        | Call f args kws pos => cases f with
          | Attribute f nm apos => cases f with
            | Name id p => cases args with
              | nil => exact fun hc => (Bool.false_ne_true hc).elim
              | cons y args => cases args with
                | cons _ _ => exact fun hc => (Bool.false_ne_true hc).elim
                | nil => cases kws with
                  | nil => exact fun hc => k id p nm apos y pos spos l hc
                  | cons _ _ => exact fun hc => (Bool.false_ne_true hc).elim
            | _ => exact fun hc => (Bool.false_ne_true hc).elim
          | _ => exact fun hc => (Bool.false_ne_true hc).elim
        | _ => exact fun hc => (Bool.false_ne_true hc).elim
    | _ => exact fun hc => (Bool.false_ne_true hc).elim
@[elab_as_elim] theorem j_ite {c : CE} {a b r : K} (hc : chkK FN names Γ (.ite c a b r) l0 = true) (k : ∀ t x y p l, (chkE FN names Γ c t && chkK FN names Γ a x && chkK FN names Γ b y && chkK FN names Γ r l) = true → motive (.If t x y p :: l)) : motive l0 := by
  revert hc; cases l0 with
  | nil => exact fun hc => (Bool.false_ne_true hc).elim
  | cons st l => cases st with
    | If t x y p => exact fun hc => k t x y p l hc
    | _ => exact fun hc => (Bool.false_ne_true hc).elim
@[elab_as_elim] theorem j_while {c : CE} {b o r : K} (hc : chkK FN names Γ (.while c b o r) l0 = true) (k : ∀ t x y p l, (chkE FN names Γ c t && chkK FN names Γ b x && chkK FN names Γ o y && chkK FN names Γ r l) = true → motive (.While t x y p :: l)) : motive l0 := by
  revert hc; cases l0 with
  | nil => exact fun hc => (Bool.false_ne_true hc).elim
  | cons st l => cases st with
    | While t x y p => exact fun hc => k t x y p l hc
    | _ => exact fun hc => (Bool.false_ne_true hc).elim
@[elab_as_elim] theorem j_for {t : Tgt} {it : CE} {b r : K} (hc : chkK FN names Γ (.for t it b r) l0 = true) (k : ∀ tg i x p l, (chkT Γ t tg && ((tgtNames t tg).all fun p => ownName names p.1) && chkE FN names Γ it i && chkK FN names Γ b x && chkK FN names Γ r l) = true → motive (.For tg i x [] p :: l)) : motive l0 := by
  revert hc; cases l0 with
  | nil => exact fun hc => (Bool.false_ne_true hc).elim
  | cons st l => cases st with
    | For tg i x y p => cases y with
        | nil => exact fun hc => k tg i x p l hc
        | cons _ _ => exact fun hc => (Bool.false_ne_true hc).elim
    | _ => exact fun hc => (Bool.false_ne_true hc).elim
@[elab_as_elim] theorem j_ret {e : CE} (hc : chkK FN names Γ (.ret e) l0 = true) (k : ∀ v p, (chkE FN names Γ e v) = true → motive ([.Return (some v) p])) : motive l0 := by
  revert hc; cases l0 with
  | nil => exact fun hc => (Bool.false_ne_true hc).elim
  | cons st l => cases st with
    | Return v p => cases v with
        | none => exact fun hc => (Bool.false_ne_true hc).elim
        | some v => cases l with
          | nil => exact fun hc => k v p hc
          | cons _ _ => exact fun hc => (Bool.false_ne_true hc).elim
    | _ => exact fun hc => (Bool.false_ne_true hc).elim
@[elab_as_elim] theorem j_retv {x : Nat} (hc : chkK FN names Γ (.retv x) l0 = true) (k : ∀ v p, (chkE FN names Γ (.var x) v) = true → motive ([.Return (some v) p])) : motive l0 := by
  revert hc; cases l0 with
  | nil => exact fun hc => (Bool.false_ne_true hc).elim
  | cons st l => cases st with
    | Return v p => cases v with
        | none => exact fun hc => (Bool.false_ne_true hc).elim
        | some v => cases l with
          | nil => exact fun hc => k v p hc
          | cons _ _ => exact fun hc => (Bool.false_ne_true hc).elim
    | _ => exact fun hc => (Bool.false_ne_true hc).elim
@[elab_as_elim] theorem j_brk  (hc : chkK FN names Γ .brk l0 = true) (k : ∀ p, (true) = true → motive ([.Break p])) : motive l0 := by
  revert hc; cases l0 with
  | nil => exact fun hc => (Bool.false_ne_true hc).elim
  | cons st l => cases st with
    | Break p => cases l with
        | nil => exact fun hc => k p rfl
        | cons _ _ => exact fun hc => (Bool.false_ne_true hc).elim
    | _ => exact fun hc => (Bool.false_ne_true hc).elim
end
end Mine


namespace Mine
section
variable {prog : Program} {w : World} {hB : Heap} {FN : List Str} {F : FT} {T : TT} {n : Nat} {mg mb : Str → Option Value}
variable {A : Around} {E : Value → Shared → Prop} {s s₀ : Shared} {P O Mu P₀ : List Addr} {names : Names} {Γ : Ctx} {env : Env} {σ : Sig}

end
/-- the state of a frame: from s₀ on, with P₀ hidden from without -/
structure FAt (prog : Program) (w : World) (hB : Heap) (s₀ : Shared) (P₀ : List Addr) (names : Names) (Γ : Ctx) (env : Env) (Mu P O : List Addr) (σ : Sig) (s : Shared) : Prop where
  kb : Keeps hB s.heap
  st : Step s₀ s
  S : Sc prog w names Γ env s.heap P O σ
  inj : Inj Γ
  good : ∀ id, ownName names id = true → Good Mu env id
  oM : ∀ a ∈ O, a ∈ Mu
  mP : ∀ a ∈ Mu, a ∈ P
  mF : ∀ a ∈ Mu, s₀.heap.get? a = none ∧ hB.get? a = none
  pP : ∀ a ∈ P₀, a ∈ P
  p0 : ∀ a ∈ P₀, ∃ o, s₀.heap.get? a = some o
  own : ∀ id id' i i' t t' a, Γ.lookup id = some i → Γ.lookup id' = some i' → σ i = some (t, true) → σ i' = some (t', true) → VarIs env s.heap id (.ref a) → VarIs env s.heap id' (.ref a) → i = i'

structure FStep (Mu P Mu' P' : List Addr) (s s' : Shared) : Prop where
  k : KeepsOff Mu s.heap s'.heap
  g : s'.gens = s.gens
  o : s'.os = s.os
  mu : ∀ a ∈ Mu', a ∈ Mu ∨ s.heap.get? a = none
  p : ∀ a ∈ P', a ∈ P ∨ s.heap.get? a = none
  q : ∀ a ∈ P, a ∉ Mu → a ∈ P'
  ex : ∀ a o, s.heap.get? a = some o → ∃ o', s'.heap.get? a = some o'

theorem FStep.trans {Mu P Mu' P' Mu'' P'' : List Addr} {s s' s'' : Shared} (x : FStep Mu P Mu' P' s s') (y : FStep Mu' P' Mu'' P'' s' s'') (hP : ∀ a ∈ P, ∃ o, s.heap.get? a = some o) : FStep Mu P Mu'' P'' s s'' where
  k := fun a o n e => y.k a o (fun q => by rcases x.mu a q with r | r; · exact n r
                                           · rw [e] at r; cases r) (x.k a o n e)
  g := y.g.trans x.g
  o := y.o.trans x.o
  mu := fun a h => by
    rcases y.mu a h with q | q
    · exact x.mu a q
    · cases z : s.heap.get? a with
      | none => exact .inr rfl
      | some o => obtain ⟨o', e⟩ := x.ex a o z; rw [e] at q; cases q
  p := fun a h => by
    rcases y.p a h with q | q
    · exact x.p a q
    · cases z : s.heap.get? a with
      | none => exact .inr rfl
      | some o => obtain ⟨o', e⟩ := x.ex a o z; rw [e] at q; cases q
  q := fun a h n => by
    by_cases z : a ∈ Mu'
    · obtain ⟨o, e⟩ := hP a h
      rcases x.mu a z with r | r
      · exact absurd r n
      · rw [e] at r; cases r
    · exact y.q a (x.q a h n) z
  ex := fun a o e => by obtain ⟨o', e'⟩ := x.ex a o e; exact y.ex a o' e'
end Mine


namespace Mine
section
variable {prog : Program} {w : World} {hB : Heap} {FN : List Str} {F : FT} {T : TT} {n N : Nat} {mg mb : Str → Option Value}
variable {A : Around} {E : Value → Shared → Prop} {s s₀ s' : Shared} {P O Mu P₀ : List Addr} {names : Names} {Γ : Ctx} {env : Env} {σ : Sig}

/-- what a block of statements ends in -/
noncomputable def SPost (prog : Program) (w : World) (hB : Heap) (s₀ : Shared) (P₀ : List Addr) (names : Names) (Γ : Ctx) (env : Env) (Mu P : List Addr) (s : Shared) : Out → Flow → Shared → Prop
  | .next σ', f, s' => f = .next ∧ ∃ Mu' P' O', FStep Mu P Mu' P' s s' ∧ FAt prog w hB s₀ P₀ names Γ env Mu' P' O' σ' s'
  | .brk σ', f, s' => f = .brk ∧ ∃ Mu' P' O', FStep Mu P Mu' P' s s' ∧ FAt prog w hB s₀ P₀ names Γ env Mu' P' O' σ' s'
  | .ret (t, fl), f, s' => ∃ v, f = .ret v ∧ Gives prog w s₀ P₀ t fl v s' ∧ fl ≠ .bor

noncomputable def KOk (prog : Program) (w : World) (hB : Heap) (FN : List Str) (F : FT) (T : TT) (n N : Nat) (k : K) : Prop :=
  ∀ names Γ l env, chkK FN names Γ k l = true → ∀ σ out, execK F T N k σ = some out → ∀ (A : Around) (s₀ : Shared) (P₀ Mu P O : List Addr) (s : Shared) (E : Value → Shared → Prop),
    Room A n → FAt prog w hB s₀ P₀ names Γ env Mu P O σ s → wpAny (model prog w) A (execs l env) (SPost prog w hB s₀ P₀ names Γ env Mu P s out) E s

theorem SPost.of_step {Mu' P' : List Addr} {s1 : Shared} {out : Out} {f : Flow} (x : FStep Mu P Mu' P' s s1) (hP : ∀ a ∈ P, ∃ o, s.heap.get? a = some o) (y : SPost prog w hB s₀ P₀ names Γ env Mu' P' s1 out f s') : SPost prog w hB s₀ P₀ names Γ env Mu P s out f s' := by
  cases out with
  | next σ' => obtain ⟨h, a, b, c, d, e⟩ := y; exact ⟨h, a, b, c, x.trans d hP, e⟩
  | brk σ' => obtain ⟨h, a, b, c, d, e⟩ := y; exact ⟨h, a, b, c, x.trans d hP, e⟩
  | ret r => exact y

theorem FStep.refl (Mu P : List Addr) (s : Shared) : FStep Mu P Mu P s s := ⟨fun _ _ _ e => e, rfl, rfl, fun _ h => .inl h, fun _ h => .inl h, fun _ h _ => h, fun _ _ e => ⟨_, e⟩⟩
theorem FStep.of_step (Mu P : List Addr) (x : Step s s') : FStep Mu P Mu P s s' := ⟨fun a o _ e => x.1 a o e, x.2.1, x.2.2, fun _ h => .inl h, fun _ h => .inl h, fun _ h _ => h, fun a o e => ⟨o, x.1 a o e⟩⟩

theorem seq_ok {st : Stmt} {l : List Stmt} {r : K} {o1 out : Out} (h : wpAny (model prog w) A (exec st env) (SPost prog w hB s₀ P₀ names Γ env Mu P s o1) E s) (R : Room A n) (hP : ∀ a ∈ P, ∃ o, s.heap.get? a = some o) (hr : KOk prog w hB FN F T n N r) (hc : chkK FN names Γ r l = true)
    (he : seqO (some o1) (execK F T N r) = some out) : wpAny (model prog w) A (execs (st :: l) env) (SPost prog w hB s₀ P₀ names Γ env Mu P s out) E s := by
  refine wpAny_execs_cons (wpAny_mono h (fun f s1 g => ?_) fun _ _ x => x)
  cases o1 with
  | next σ1 =>
    obtain ⟨rfl, Mu', P', O', k, X⟩ := g
    exact wpAny_mono (hr names Γ l env hc σ1 out he A s₀ P₀ Mu' P' O' s1 E R X) (fun f s2 g => SPost.of_step k hP g) fun _ _ x => x
  | brk σ1 =>
    cases he
    obtain ⟨rfl, g⟩ := g
    exact ⟨rfl, g⟩
  | ret q =>
    cases he
    obtain ⟨v, rfl, g⟩ := g
    exact ⟨v, rfl, g⟩

theorem FAt.keeps (X : FAt prog w hB s₀ P₀ names Γ env Mu P O σ s) (k : Step s s') : FAt prog w hB s₀ P₀ names Γ env Mu P O σ s' where
  kb := X.kb.trans k.1
  st := X.st.trans k
  S := X.S.keeps k.1
  inj := X.inj
  good := X.good
  oM := X.oM
  mP := X.mP
  mF := X.mF
  pP := X.pP
  p0 := X.p0
  own := fun id id' i i' t t' a e1 e2 e3 e4 h1 h2 => by
    obtain ⟨v, q, _⟩ := X.S.vars id i t true e1 e3
    obtain ⟨v', q', _⟩ := X.S.vars id' i' t' true e2 e4
    have := (q.keeps k.1).uniq h1; subst this
    have := (q'.keeps k.1).uniq h2; subst this
    exact X.own id id' i i' t t' a e1 e2 e3 e4 q q'

theorem FAt.freshS (X : FAt prog w hB s₀ P₀ names Γ env Mu P O σ s) {a : Addr} (e : s.heap.get? a = none) : s₀.heap.get? a = none ∧ hB.get? a = none := by
  constructor
  · cases q : s₀.heap.get? a with
    | none => rfl
    | some o => rw [X.st.1 _ _ q] at e; cases e
  · cases q : hB.get? a with
    | none => rfl
    | some o => rw [X.kb _ _ q] at e; cases e

theorem FAt.off (X : FAt prog w hB s₀ P₀ names Γ env Mu P O σ s) (k : KeepsOff Mu s.heap s'.heap) (g : s'.gens = s.gens) (o : s'.os = s.os) : Keeps hB s'.heap ∧ Step s₀ s' := by
  refine ⟨fun a ob e => k a ob (fun q => ?_) (X.kb _ _ e), fun a ob e => k a ob (fun q => ?_) (X.st.1 _ _ e), g.trans X.st.2.1, o.trans X.st.2.2⟩
  · rw [(X.mF a q).2] at e; cases e
  · rw [(X.mF a q).1] at e; cases e

theorem Sc.moreO {h : Heap} {O' : List Addr} (x : Sc prog w names Γ env h P O σ) (l : ∀ a ∈ O, a ∈ O') (hO : ∀ a ∈ O', a ∈ P) : Sc prog w names Γ env h P O' σ :=
  { x with
    vars := fun id i t o e1 e2 => by
      obtain ⟨v, a, b⟩ := x.vars id i t o e1 e2
      refine ⟨v, a, ?_⟩
      cases o with
      | false => exact b
      | true => obtain ⟨c, rfl, h1, h2⟩ := b; exact ⟨c, rfl, l c h1, h2⟩
    oP := hO }

theorem Good.more {Mu' : List Addr} {id : Str} (x : Good Mu env id) (l : ∀ a ∈ Mu, a ∈ Mu') : Good Mu' env id := ⟨x.1, ⟨l _ x.2.1.1, fun c e => l _ (x.2.1.2 c e)⟩, x.2.2⟩

/-- a new object, hidden (and owned) -/
theorem FAt.hide {a : Addr} {o : Obj} (X : FAt prog w hB s₀ P₀ names Γ env Mu P O σ s) (k : Step s s') (e : s.heap.get? a = none) (e' : s'.heap.get? a = some o) : FAt prog w hB s₀ P₀ names Γ env (a :: Mu) (a :: P) (a :: O) σ s' where
  kb := X.kb.trans k.1
  st := X.st.trans k
  S := (X.S.hide k.1 e e').moreO (fun _ h => .tail _ h) (fun b h => by
    rcases List.mem_cons.mp h with rfl | h
    · exact .head _
    · exact .tail _ (X.S.oP b h))
  inj := X.inj
  good := fun id h => (X.good id h).more fun _ h => .tail _ h
  oM := fun b h => by
    rcases List.mem_cons.mp h with rfl | h
    · exact .head _
    · exact .tail _ (X.oM b h)
  mP := fun b h => by
    rcases List.mem_cons.mp h with rfl | h
    · exact .head _
    · exact .tail _ (X.mP b h)
  mF := fun b h => by
    rcases List.mem_cons.mp h with rfl | h
    · exact X.freshS e
    · exact X.mF b h
  pP := fun b h => .tail _ (X.pP b h)
  p0 := X.p0
  own := (X.keeps k).own

/-- hidden, but neither owned nor to be changed -/
theorem FAt.hideP {a : Addr} {o : Obj} (X : FAt prog w hB s₀ P₀ names Γ env Mu P O σ s) (k : Step s s') (e : s.heap.get? a = none) (e' : s'.heap.get? a = some o) : FAt prog w hB s₀ P₀ names Γ env Mu (a :: P) O σ s' where
  kb := X.kb.trans k.1
  st := X.st.trans k
  S := X.S.hide k.1 e e'
  inj := X.inj
  good := X.good
  oM := X.oM
  mP := fun b h => .tail _ (X.mP b h)
  mF := X.mF
  pP := fun b h => .tail _ (X.pP b h)
  p0 := X.p0
  own := (X.keeps k).own

theorem FStep.hide {a : Addr} (Mu P : List Addr) (k : Step s s') (e : s.heap.get? a = none) : FStep Mu P (a :: Mu) (a :: P) s s' where
  k := fun b o _ h => k.1 b o h
  g := k.2.1
  o := k.2.2
  mu := fun b h => by rcases List.mem_cons.mp h with rfl | h
                      · exact .inr e
                      · exact .inl h
  p := fun b h => by rcases List.mem_cons.mp h with rfl | h
                     · exact .inr e
                     · exact .inl h
  q := fun b h _ => .tail _ h
  ex := fun b o h => ⟨o, k.1 b o h⟩
/-- a hidden object goes out of sight, whatever becomes of it -/
theorem FAt.leave {c : Addr} {s' : Shared} (X : FAt prog w hB s₀ P₀ names Γ env Mu P O σ s) (hs : ∀ b o, b ≠ c → s.heap.get? b = some o → s'.heap.get? b = some o) (hg : s'.gens = s.gens) (ho : s'.os = s.os) (hcP : c ∈ P) (hM : c ∉ Mu) (hl : env.locals ≠ c) (hc : ∀ id b, env.cells.lookup id = some b → b ≠ c) (f0 : s₀.heap.get? c = none) (fB : hB.get? c = none) :
    FAt prog w hB s₀ P₀ names Γ env Mu (P.filter fun b => decide (b ≠ c)) O σ s' := by
  have get : ∀ {b o}, b ≠ c → s.heap.get? b = some o → s'.heap.get? b = some o := fun h e => hs _ _ h e
  have memP : ∀ {b}, b ∈ (P.filter fun b => decide (b ≠ c)) ↔ b ∈ P ∧ b ≠ c := by intro b; simp
  have sub : Sub (view s.heap P) (view s'.heap (P.filter fun b => decide (b ≠ c))) := fun b o e =>
    view_of (get (fun q => view_not e (q ▸ hcP)) (view_get e)) fun q => view_not e (memP.mp q).1
  have vis : ∀ {id v}, VarIs env s.heap id v → VarIs env s'.heap id v := by
    intro id v h
    rcases h with ⟨a, m, ⟨o1, es, ep, b1, b2⟩, d⟩ | ⟨a, x, b, o1, d1, d2⟩
    · exact .inl ⟨a, m, ⟨o1, es, ep, get hl b1, b2⟩, d⟩
    · exact .inr ⟨a, x, b, o1, get (hc _ _ b) d1, d2⟩
  exact {
    kb := fun a o e => get (fun q => by rw [q, fB] at e; cases e) (X.kb _ _ e)
    st := ⟨fun a o e => get (fun q => by rw [q, f0] at e; cases e) (X.st.1 _ _ e), hg.trans X.st.2.1, ho.trans X.st.2.2⟩
    S := {
      fn := X.S.fn, gl := X.S.gl, bl := X.S.bl, kinds := X.S.kinds, cells := X.S.cells
      locN := let ⟨m, o1, es, ep, b1, b2⟩ := X.S.locN; ⟨m, o1, es, ep, get hl b1, b2⟩
      locP := memP.mpr ⟨X.S.locP, hl⟩
      cellP := fun id b e => by
        obtain ⟨h1, h2, v, o1, h3, h4⟩ := X.S.cellP id b e
        exact ⟨memP.mpr ⟨h1, hc _ _ e⟩, h2, v, o1, get (hc _ _ e) h3, h4⟩
      cellI := X.S.cellI
      vars := fun id i t o e1 e2 => by
        obtain ⟨v, h1, h2⟩ := X.S.vars id i t o e1 e2
        refine ⟨v, vis h1, ?_⟩
        cases o with
        | false => exact Rep.mono sub _ h2
        | true =>
          obtain ⟨a, rfl, q1, q2, q3, q4⟩ := h2
          exact ⟨a, rfl, q1, q2, q3, q4.mono sub fun o e => get (fun q => hM (q ▸ X.oM _ q1)) e⟩
      inP := fun a ha => by
        obtain ⟨o, e⟩ := X.S.inP a (memP.mp ha).1
        exact ⟨o, get (memP.mp ha).2 e⟩
      oP := fun a ha => memP.mpr ⟨X.S.oP a ha, fun q => hM (q ▸ X.oM a ha)⟩ }
    inj := X.inj
    good := X.good
    oM := X.oM
    mP := fun a ha => memP.mpr ⟨X.mP a ha, fun q => hM (q ▸ ha)⟩
    mF := X.mF
    pP := fun a ha => memP.mpr ⟨X.pP a ha, fun q => by obtain ⟨o, e⟩ := X.p0 a ha; rw [q, f0] at e; cases e⟩
    p0 := X.p0
    own := fun id id' i i' t t' a e1 e2 e3 e4 h1 h2 => by
      obtain ⟨v, q, _⟩ := X.S.vars id i t true e1 e3
      obtain ⟨v', q', _⟩ := X.S.vars id' i' t' true e2 e4
      have := (vis q).uniq h1; subst this
      have := (vis q').uniq h2; subst this
      exact X.own id id' i i' t t' a e1 e2 e3 e4 q q' }
end
end Mine


namespace Mine
section
variable {prog : Program} {w : World} {hB : Heap} {FN : List Str} {F : FT} {T : TT} {n N : Nat} {mg mb : Str → Option Value}
variable {A : Around} {E : Value → Shared → Prop} {s s₀ s' : Shared} {P O Mu P₀ : List Addr} {names : Names} {Γ : Ctx} {env : Env} {σ : Sig}

/-- a store that keeps what is hidden -/
theorem FStep.off (hP : ∀ a ∈ P, ∃ o, s.heap.get? a = some o) (hM : ∀ a ∈ Mu, a ∈ P) (k : KeepsOff Mu s.heap s'.heap) (g : s'.gens = s.gens) (o : s'.os = s.os) (hP' : ∀ a ∈ P, ∃ o, s'.heap.get? a = some o) : FStep Mu P Mu P s s' where
  k := k
  g := g
  o := o
  mu := fun _ h => .inl h
  p := fun _ h => .inl h
  q := fun _ h _ => h
  ex := fun a ob e => by
    by_cases q : a ∈ Mu
    · exact hP' a (hM a q)
    · exact ⟨ob, k a ob q e⟩

theorem FAt.store {M : Model} {id : Str} {x : Nat} {v : Value} {t : PV} {o : Bool} (X : FAt prog w hB s₀ P₀ names Γ env Mu P O σ s) (hΓ : Γ.lookup id = some x) (hn : ownName names id = true) (hv : VRep prog w env P O s.heap v t o)
    (hf : o = true → ∀ id' i' t' b, i' ≠ x → Γ.lookup id' = some i' → σ i' = some (t', true) → VarIs env s.heap id' (.ref b) → v ≠ .ref b) :
    wpAny M A (storeName env id v) (fun _ s' => KeepsOff Mu s.heap s'.heap ∧ FStep Mu P Mu P s s' ∧ FAt prog w hB s₀ P₀ names Γ env Mu P O (upd σ x t o) s') E s := by
  have G := X.good id hn
  refine wpAny_mono (store_ok2 X.S G.1 hΓ X.inj G.2.1 G.2.2 hv) (fun _ s' g => ?_) fun _ _ x => x
  obtain ⟨k, g1, g2, S', me, stay⟩ := g
  have off := X.off k g1 g2
  refine ⟨k, FStep.off X.S.inP X.mP k g1 g2 S'.inP, ?_⟩
  exact {
    kb := off.1, st := off.2, S := S', inj := X.inj, good := X.good, oM := X.oM, mP := X.mP, mF := X.mF, pP := X.pP, p0 := X.p0
    own := fun id1 id2 i1 i2 t1 t2 a e1 e2 e3 e4 h1 h2 => by
      have old : ∀ id' i' t', Γ.lookup id' = some i' → i' ≠ x → upd σ x t o i' = some (t', true) → VarIs env s'.heap id' (.ref a) → σ i' = some (t', true) ∧ VarIs env s.heap id' (.ref a) := by
        intro id' i' t' q1 q2 q3 q4
        unfold upd at q3
        rw [if_neg q2] at q3
        obtain ⟨v', r1, _⟩ := X.S.vars id' i' t' true q1 q3
        have := (stay id' v' (fun m => q2 (by simp at m; rw [m, hΓ] at q1; cases q1; rfl)) r1).uniq q4
        subst this
        exact ⟨q3, r1⟩
      by_cases c1 : i1 = x <;> by_cases c2 : i2 = x
      · rw [c1, c2]
      · subst c1
        have := X.inj _ _ _ e1 hΓ; subst this
        have hva := me.uniq h1
        unfold upd at e3; rw [if_pos rfl] at e3; cases e3
        obtain ⟨r1, r2⟩ := old id2 i2 t2 e2 c2 e4 h2
        exact absurd hva (hf rfl id2 i2 t2 a c2 e2 r1 r2)
      · subst c2
        have := X.inj _ _ _ e2 hΓ; subst this
        have hva := me.uniq h2
        unfold upd at e4; rw [if_pos rfl] at e4; cases e4
        obtain ⟨r1, r2⟩ := old id1 i1 t1 e1 c1 e3 h1
        exact absurd hva (hf rfl id1 i1 t1 a c1 e1 r1 r2)
      · obtain ⟨r1, r2⟩ := old id1 i1 t1 e1 c1 e3 h1
        obtain ⟨r3, r4⟩ := old id2 i2 t2 e2 c2 e4 h2
        exact X.own id1 id2 i1 i2 t1 t2 a e1 e2 r1 r3 r2 r4 }

theorem FAt.less {σ' : Sig} (X : FAt prog w hB s₀ P₀ names Γ env Mu P O σ s) (l : ∀ i p, σ' i = some p → σ i = some p) : FAt prog w hB s₀ P₀ names Γ env Mu P O σ' s :=
  { X with S := X.S.less l, own := fun id id' i i' t t' a e1 e2 e3 e4 => X.own id id' i i' t t' a e1 e2 (l _ _ e3) (l _ _ e4) }

theorem K_nil : KOk prog w hB FN F T n N .nil := by
  intro names Γ l env hc σ out he A s₀ P₀ Mu P O s E R X
  cases l with
  | nil => cases he; exact wpAny_execs_nil ⟨rfl, Mu, P, O, FStep.refl _ _ _, X⟩
  | cons a b => exact absurd hc Bool.false_ne_true
theorem K_brk : KOk prog w hB FN F T n N .brk := by
  intro names Γ l env hc σ out he A s₀ P₀ Mu P O s E R X
  refine j_brk hc fun p _ => ?_
  · cases he
    exact wpAny_execs_cons (wpAny_Break ⟨rfl, Mu, P, O, FStep.refl _ _ _, X⟩)

theorem ORep.ex {H : View} {h : Heap} {a : Addr} {t : PV} (x : ORep prog w H h a t) : ∃ o, h.get? a = some o := by
  unfold ORep at x
  split at x
  · obtain ⟨vs, m, e, _⟩ := x; exact ⟨_, e⟩
  · obtain ⟨o, kvs, _, e, _⟩ := x; exact ⟨_, e⟩
  · cases x

noncomputable def isNew : Fl → Bool
  | .new => true
  | _ => false

theorem FAt.storeR {M : Model} {id : Str} {x : Nat} {v : Value} {t : PV} {fl : Fl} {s1 : Shared} (X : FAt prog w hB s₀ P₀ names Γ env Mu P O σ s) (hΓ : Γ.lookup id = some x) (hn : ownName names id = true) (g : Gives prog w s P t fl v s1) (hfl : fl ≠ .bor) :
    wpAny M A (storeName env id v) (fun _ s' => SPost prog w hB s₀ P₀ names Γ env Mu P s (.next (upd σ x t (isNew fl))) .next s') E s1 := by
  cases fl with
  | bor => exact absurd rfl hfl
  | frz =>
    refine wpAny_mono ((X.keeps g.1).store hΓ hn (o := false) g.2 (fun q => by cases q)) (fun _ s' h => ?_) fun _ _ x => x
    exact ⟨rfl, Mu, P, O, (FStep.of_step Mu P g.1).trans h.2.1 X.S.inP, h.2.2⟩
  | new =>
    obtain ⟨st, a, rfl, fa, r⟩ := g
    obtain ⟨o, ho⟩ := r.ex
    have X1 := X.hide st fa ho
    have neP : ∀ b ∈ P, a ≠ b := fun b hb q => by obtain ⟨o', e⟩ := X.S.inP b hb; rw [← q, fa] at e; cases e
    refine wpAny_mono (X1.store hΓ hn (o := true) ⟨a, rfl, .head _, neP _ X.S.locP, fun id' c e => neP _ (X.S.cellP id' c e).1, r⟩ (fun _ id' i' t' b hi e1 e2 h q => ?_)) (fun _ s' h => ?_) fun _ _ x => x
    · cases q
      obtain ⟨v', r1, b, rfl, q1, _⟩ := X.S.vars id' i' t' true e1 e2
      have := (r1.keeps st.1).uniq h
      cases this
      exact neP _ (X.S.oP _ q1) rfl
    · exact ⟨rfl, _, _, _, (FStep.hide Mu P st fa).trans h.2.1 X.S.inP, h.2.2⟩

theorem no_swap {v : PySem.Expr} {t : Option PySem.Expr} {line : Nat} (h : noComp v = true) : swapsWith v t line env = pure false := by
  cases v <;> first | rfl | exact absurd h Bool.false_ne_true

theorem K_ret {e : CE} (hE : EOk prog w hB FN F T n e) : KOk prog w hB FN F T n N (.ret e) := by
  intro names Γ l env hc σ out he A s₀ P₀ Mu P O s E R X
  refine j_ret hc fun v0 p0 hcN => ?_
  · clear hc; have hc := hcN; clear hcN
    have key : ∀ t fl, evalE F T e σ = some (t, fl) → fl ≠ .bor → out = .ret (t, fl) → wpAny (model prog w) A (execs [.Return (some v0) p0] env) (SPost prog w hB s₀ P₀ names Γ env Mu P s out) E s := by
      intro t fl e1 hfl eo
      subst eo
      refine wpAny_execs_cons (wpAny_Return_some (wpAny_mono (hE names Γ _ env hc σ t fl e1 A P O s E R X.kb X.S) (fun v s1 g => ?_) fun _ _ x => x))
      refine ⟨v, rfl, ⟨X.st.trans g.1, ?_⟩, hfl⟩
      cases fl with
      | bor => exact absurd rfl hfl
      | frz => exact Rep.mono (view_sub X.pP) _ g.2
      | new =>
        obtain ⟨a, rfl, fa, r⟩ := g.2
        refine ⟨a, rfl, (X.freshS fa).1, r.mono (view_sub fun b hb => ?_) fun o e => e⟩
        rcases List.mem_cons.mp hb with rfl | hb
        · exact .head _
        · exact .tail _ (X.pP b hb)
    (first | rw [exK_nil] at he | rw [exK_assign] at he | rw [exK_assign2] at he | rw [exK_move] at he | rw [exK_setitem] at he | rw [exK_append] at he | rw [exK_ite] at he | rw [exK_while] at he | rw [exK_for] at he | rw [exK_ret] at he | rw [exK_retv] at he | rw [exK_brk] at he | rw [exK_freeze] at he)
    split at he
    · cases he; exact key _ _ ‹_› (by simp) rfl
    · cases he; exact key _ _ ‹_› (by simp) rfl
    · cases he

theorem K_retv {x : Nat} : KOk prog w hB FN F T n N (.retv x) := by
  intro names Γ l env hc σ out he A s₀ P₀ Mu P O s E R X
  refine j_retv hc fun v1 p1 hcN => ?_
  · refine i_var hcN fun id p hcM => ?_
    · clear hc; have hc := hcM; clear hcM
      rw [Bool.and_eq_true, decide_eq_true_eq] at hc
      (first | rw [exK_nil] at he | rw [exK_assign] at he | rw [exK_assign2] at he | rw [exK_move] at he | rw [exK_setitem] at he | rw [exK_append] at he | rw [exK_ite] at he | rw [exK_while] at he | rw [exK_for] at he | rw [exK_ret] at he | rw [exK_retv] at he | rw [exK_brk] at he | rw [exK_freeze] at he)
      split at he
      · rename_i t et
        cases he
        obtain ⟨v, hv, a, rfl, q1, q2, q3, q4⟩ := X.S.vars id x t true hc.1 et
        refine wpAny_execs_cons (wpAny_Return_some (load_var X.S.fn hv hc.2 ?_))
        refine ⟨_, rfl, ⟨X.st, a, rfl, (X.mF a (X.oM a q1)).1, q4.mono (view_sub fun b hb => ?_) fun o e => e⟩, by simp⟩
        rcases List.mem_cons.mp hb with rfl | hb
        · exact X.S.oP _ q1
        · exact X.pP b hb
      · cases he

theorem K_assign {x : Nat} {e : CE} {r : K} (hE : EOk prog w hB FN F T n e) (hr : KOk prog w hB FN F T n N r) (hcomp : ∀ names Γ id pos elt gens sc p spos env, chkE FN names Γ e (.ListComp elt gens sc p) = true → Γ.lookup id = some x → ownName names id = true → ∀ σ t, evalE F T e σ = some (t, .new) → ∀ (A : Around) (s₀ : Shared) (P₀ Mu P O : List Addr) (s : Shared) (E : Value → Shared → Prop),
    Room A n → FAt prog w hB s₀ P₀ names Γ env Mu P O σ s → wpAny (model prog w) A (exec (.Assign [.Name id pos] (.ListComp elt gens sc p) spos) env) (SPost prog w hB s₀ P₀ names Γ env Mu P s (.next (upd σ x t true))) E s) : KOk prog w hB FN F T n N (.assign x e r) := by
  intro names Γ l env hc σ out he A s₀ P₀ Mu P O s E R X
  refine j_assign hc fun id pos v spos l' hcN => ?_
  · clear hc; have hc := hcN; clear hcN
    simp only [Bool.and_eq_true, decide_eq_true_eq] at hc
    obtain ⟨⟨⟨c1, c2⟩, c3⟩, c4⟩ := hc
    have key : ∀ t fl, evalE F T e σ = some (t, fl) → fl ≠ .bor → execK F T N r (upd σ x t (isNew fl)) = some out → wpAny (model prog w) A (execs (.Assign [.Name id pos] v spos :: l') env) (SPost prog w hB s₀ P₀ names Γ env Mu P s out) E s := by
      intro t fl e1 hfl e2
      refine seq_ok (o1 := .next (upd σ x t (isNew fl))) ?_ R X.S.inP hr c4 e2
      by_cases hv : noComp v = true
      · refine wpAny_Assign_Name (wpAny_mono (hE names Γ _ env c3 σ t fl e1 A P O s E R X.kb X.S) (fun v s1 g => ?_) fun _ _ x => x) (no_swap hv)
        exact wpAny_mono (X.storeR c1 c2 g hfl) (fun _ s' h => h) fun _ _ x => x
      · cases v with
        | ListComp elt gens sc p =>
          cases e with
          | comp g =>
            have : fl = .new := by
              have e1' := e1
              (first | rw [evE_lit] at e1' | rw [evE_var] at e1' | rw [evE_gint] at e1' | rw [evE_bin] at e1' | rw [evE_neg] at e1' | rw [evE_not] at e1' | rw [evE_bop] at e1' | rw [evE_cmp] at e1' | rw [evE_chain] at e1' | rw [evE_ite] at e1' | rw [evE_list] at e1' | rw [evE_tuple] at e1' | rw [evE_dict] at e1' | rw [evE_idx] at e1' | rw [evE_tok] at e1' | rw [evE_sliceL] at e1' | rw [evE_sliceH] at e1' | rw [evE_sliceB] at e1' | rw [evE_call] at e1' | rw [evE_bi] at e1' | rw [evE_join] at e1' | rw [evE_index] at e1' | rw [evE_comp] at e1')
              split at e1'
              · obtain ⟨_, er⟩ := mkL_some e1'
                cases er; rfl
              · cases e1'
            subst this
            exact hcomp names Γ id pos elt gens sc p spos env c3 c1 c2 σ t e1 A s₀ P₀ Mu P O s E R X
          | _ => exact absurd c3 Bool.false_ne_true
        | SetComp elt gens sc p => cases e <;> exact absurd c3 Bool.false_ne_true
        | DictComp a b gens sc p => cases e <;> exact absurd c3 Bool.false_ne_true
        | _ => exact absurd rfl hv
    (first | rw [exK_nil] at he | rw [exK_assign] at he | rw [exK_assign2] at he | rw [exK_move] at he | rw [exK_setitem] at he | rw [exK_append] at he | rw [exK_ite] at he | rw [exK_while] at he | rw [exK_for] at he | rw [exK_ret] at he | rw [exK_retv] at he | rw [exK_brk] at he | rw [exK_freeze] at he)
    split at he
    · exact key _ .new ‹_› (by simp) he
    · exact key _ .frz ‹_› (by simp) he
    · cases he

theorem K_ite {c : CE} {a b r : K} (hC : COk prog w hB FN F T n c) (ha : KOk prog w hB FN F T n N a) (hb : KOk prog w hB FN F T n N b) (hr : KOk prog w hB FN F T n N r) : KOk prog w hB FN F T n N (.ite c a b r) := by
  intro names Γ l env hc σ out he A s₀ P₀ Mu P O s E R X
  refine j_ite hc fun t x y p l' hcN => ?_
  · clear hc; have hc := hcN; clear hcN
    simp only [Bool.and_eq_true] at hc
    obtain ⟨⟨⟨c1, c2⟩, c3⟩, c4⟩ := hc
    have key : ∀ (bb : Bool) fl o1, evalE F T c σ = some (.bool bb, fl) → (if bb then execK F T N a σ else execK F T N b σ) = some o1 → seqO (some o1) (execK F T N r) = some out → wpAny (model prog w) A (execs (.If t x y p :: l') env) (SPost prog w hB s₀ P₀ names Γ env Mu P s out) E s := by
      intro bb fl o1 e1 e2 e3
      refine seq_ok ?_ R X.S.inP hr c4 e3
      refine wpAny_If (wpAny_mono (hC names Γ t env c1 σ bb fl e1 A P O s E R X.kb X.S) (fun b' s1 g => ?_) fun _ _ x => x)
      obtain ⟨rfl, st⟩ := g
      have X1 := X.keeps st
      cases b' with
      | true =>
        exact wpAny_mono (ha names Γ x env c2 σ o1 (by simpa using e2) A s₀ P₀ Mu P O s1 E R X1) (fun f s2 g => SPost.of_step (FStep.of_step Mu P st) X.S.inP g) fun _ _ x => x
      | false =>
        exact wpAny_mono (hb names Γ y env c3 σ o1 (by simpa using e2) A s₀ P₀ Mu P O s1 E R X1) (fun f s2 g => SPost.of_step (FStep.of_step Mu P st) X.S.inP g) fun _ _ x => x
    (first | rw [exK_nil] at he | rw [exK_assign] at he | rw [exK_assign2] at he | rw [exK_move] at he | rw [exK_setitem] at he | rw [exK_append] at he | rw [exK_ite] at he | rw [exK_while] at he | rw [exK_for] at he | rw [exK_ret] at he | rw [exK_retv] at he | rw [exK_brk] at he | rw [exK_freeze] at he)
    split at he
    · cases q : execK F T N a σ with
      | none => rw [q] at he; cases he
      | some o1 => rw [q] at he; exact key true _ o1 ‹_› (by simpa using q) he
    · cases q : execK F T N b σ with
      | none => rw [q] at he; cases he
      | some o1 => rw [q] at he; exact key false _ o1 ‹_› (by simpa using q) he
    · cases he
end
end Mine


namespace Mine
section
variable {prog : Program} {w : World} {hB : Heap} {FN : List Str} {F : FT} {T : TT} {n N : Nat} {mg mb : Str → Option Value}
variable {A : Around} {E : Value → Shared → Prop} {s s₀ s' : Shared} {P O Mu P₀ : List Addr} {names : Names} {Γ : Ctx} {env : Env} {σ : Sig}

theorem K_while {c : CE} {b o r : K} (hC : COk prog w hB FN F T n c) (hb : KOk prog w hB FN F T n N b) (ho : KOk prog w hB FN F T n N o) (hr : KOk prog w hB FN F T n N r) : KOk prog w hB FN F T n N (.while c b o r) := by
  intro names Γ l env hc σ out he A s₀ P₀ Mu P O s E R X
  refine j_while hc fun t x y p l' hcN => ?_
  · clear hc; have hc := hcN; clear hcN
    simp only [Bool.and_eq_true] at hc
    obtain ⟨⟨⟨c1, c2⟩, c3⟩, c4⟩ := hc
    (first | rw [exK_nil] at he | rw [exK_assign] at he | rw [exK_assign2] at he | rw [exK_move] at he | rw [exK_setitem] at he | rw [exK_append] at he | rw [exK_ite] at he | rw [exK_while] at he | rw [exK_for] at he | rw [exK_ret] at he | rw [exK_retv] at he | rw [exK_brk] at he | rw [exK_freeze] at he)
    generalize hW : whileS (fun σ => match evalE F T c σ with
      | some (.bool b, _) => some b
      | _ => Option.none) (execK F T N b) (execK F T N o) N σ = W at he
    cases W with
    | none => cases he
    | some o1 =>
    refine seq_ok ?_ R X.S.inP hr c4 he
    refine wpAny_While (codeAny_mono (R := fun rr s' => ∃ f, rr = .ok f ∧ SPost prog w hB s₀ P₀ names Γ env Mu P s o1 f s') ?_ fun rr s' h => by
      obtain ⟨f, rfl, h⟩ := h; exact h)
    refine codeAny_whileLoop (fun m s1 => ∃ σ1 Mu1 P1 O1, whileS (fun σ => match evalE F T c σ with
      | some (.bool b, _) => some b
      | _ => Option.none) (execK F T N b) (execK F T N o) m σ1 = some o1 ∧ FStep Mu P Mu1 P1 s s1 ∧ FAt prog w hB s₀ P₀ names Γ env Mu1 P1 O1 σ1 s1) ?_ N ⟨σ, Mu, P, O, hW, FStep.refl _ _ _, X⟩
    intro m s1 I
    obtain ⟨σ1, Mu1, P1, O1, h1, k1, X1⟩ := I
    cases m with
    | zero => cases h1
    | succ m =>
      unfold whileS at h1
      generalize hq : evalE F T c σ1 = q at h1
      split at h1
      · rename_i hb1
        split at hb1
        · cases hb1
          refine wpAny_mono (hC names Γ t env c1 σ1 _ _ hq A P1 O1 s1 _ R X1.kb X1.S) (fun b' s2 g => ?_) fun _ _ x => x
          obtain ⟨rfl, st⟩ := g
          have X2 := X1.keeps st
          have k2 := k1.trans (FStep.of_step Mu1 P1 st) X.S.inP
          rw [if_pos rfl]
          generalize hB1 : execK F T N b σ1 = B1 at h1
          cases B1 with
          | none => cases h1
          | some o2 =>
            refine wpAny_mono (hb names Γ x env c2 σ1 o2 hB1 A s₀ P₀ Mu1 P1 O1 s2 _ R X2) (fun f s3 g => ?_) fun _ _ x => x
            cases o2 with
            | next σ2 =>
              obtain ⟨rfl, Mu3, P3, O3, k3, X3⟩ := g
              exact ⟨m, Nat.lt_succ_self _, σ2, Mu3, P3, O3, h1, k2.trans k3 X.S.inP, X3⟩
            | brk σ2 =>
              obtain ⟨rfl, Mu3, P3, O3, k3, X3⟩ := g
              cases h1
              exact ⟨_, rfl, rfl, Mu3, P3, O3, k2.trans k3 X.S.inP, X3⟩
            | ret rr =>
              obtain ⟨v, rfl, g⟩ := g
              cases h1
              exact ⟨_, rfl, v, rfl, g⟩
        · cases hb1
      · rename_i hb1
        split at hb1
        · cases hb1
          refine wpAny_mono (hC names Γ t env c1 σ1 _ _ hq A P1 O1 s1 _ R X1.kb X1.S) (fun b' s2 g => ?_) fun _ _ x => x
          obtain ⟨rfl, st⟩ := g
          have X2 := X1.keeps st
          have k2 := k1.trans (FStep.of_step Mu1 P1 st) X.S.inP
          rw [if_neg (by simp)]
          refine wpAny_mono (ho names Γ y env c3 σ1 o1 h1 A s₀ P₀ Mu1 P1 O1 s2 _ R X2) (fun f s3 g => ?_) fun _ _ x => x
          exact ⟨f, rfl, SPost.of_step k2 X.S.inP g⟩
        · cases hb1
      · cases h1

/-- an owned object is owned no more: it may be seen, and stays as it is -/
theorem FAt.freeze {x : Nat} {t : PV} (X : FAt prog w hB s₀ P₀ names Γ env Mu P O σ s) (et : σ x = some (t, true)) :
    ∃ Mu' P' O', FStep Mu P Mu' P' s s ∧ FAt prog w hB s₀ P₀ names Γ env Mu' P' O' (upd σ x t false) s := by
  by_cases hΓ : ∃ id, Γ.lookup id = some x
  case neg =>
    have f : ∀ {id i q}, Γ.lookup id = some i → upd σ x t false i = some q → σ i = some q := fun {id i q} e1 e => by
      unfold upd at e; split at e
      · rename_i h; exact absurd ⟨id, h ▸ e1⟩ hΓ
      · exact e
    exact ⟨Mu, P, O, FStep.refl _ _ _, { X with
      S := { X.S with vars := fun id i t' o e1 e2 => X.S.vars id i t' o e1 (f e1 e2) }
      own := fun id1 id2 i1 i2 t1 t2 b e1 e2 e3 e4 h1 h2 => X.own id1 id2 i1 i2 t1 t2 b e1 e2 (f e1 e3) (f e2 e4) h1 h2 }⟩
  obtain ⟨id, hid⟩ := hΓ
  obtain ⟨v, hv, a, rfl, q1, q2, q3, q4⟩ := X.S.vars id x t true hid et
  have mem : ∀ {L : List Addr} {b}, b ∈ (L.filter fun b => decide (b ≠ a)) ↔ b ∈ L ∧ b ≠ a := by intro L b; simp
  have aP := X.S.oP a q1
  have aM := X.oM a q1
  have sub : Sub (view s.heap P) (view s.heap (P.filter fun b => decide (b ≠ a))) := view_sub fun b h => (mem.mp h).1
  refine ⟨Mu.filter fun b => decide (b ≠ a), P.filter fun b => decide (b ≠ a), O.filter fun b => decide (b ≠ a), ?_, ?_⟩
  · exact ⟨fun _ _ _ e => e, rfl, rfl, fun b h => .inl (mem.mp h).1, fun b h => .inl (mem.mp h).1, fun b h hn => mem.mpr ⟨h, fun q => hn (q ▸ aM)⟩, fun _ _ e => ⟨_, e⟩⟩
  · exact {
      kb := X.kb, st := X.st, inj := X.inj, p0 := X.p0
      good := fun id h => by
        obtain ⟨g1, ⟨g2, g3⟩, g4⟩ := X.good id h
        exact ⟨g1, ⟨mem.mpr ⟨g2, Ne.symm q2⟩, fun c e => mem.mpr ⟨g3 c e, Ne.symm (q3 _ _ e)⟩⟩, g4⟩
      oM := fun b h => mem.mpr ⟨X.oM b (mem.mp h).1, (mem.mp h).2⟩
      mP := fun b h => mem.mpr ⟨X.mP b (mem.mp h).1, (mem.mp h).2⟩
      mF := fun b h => X.mF b (mem.mp h).1
      pP := fun b h => mem.mpr ⟨X.pP b h, fun q => by obtain ⟨o, e⟩ := X.p0 b h; rw [q, (X.mF a aM).1] at e; cases e⟩
      S := { X.S with
        locP := mem.mpr ⟨X.S.locP, Ne.symm q2⟩
        cellP := fun id c e => by
          obtain ⟨h1, h2⟩ := X.S.cellP id c e
          exact ⟨mem.mpr ⟨h1, Ne.symm (q3 _ _ e)⟩, h2⟩
        inP := fun b h => X.S.inP b (mem.mp h).1
        oP := fun b h => mem.mpr ⟨X.S.oP b (mem.mp h).1, (mem.mp h).2⟩
        vars := fun id' i t' o e1 e2 => by
          unfold upd at e2
          split at e2
          · rename_i hx
            subst hx
            cases e2
            have := X.inj _ _ _ e1 hid
            subst this
            refine ⟨_, hv, ?_⟩
            show Rep prog w _ _ _
            have va : view s.heap (P.filter fun b => decide (b ≠ a)) a = s.heap.get? a := by
              unfold view; rw [if_neg (by simp)]
            unfold ORep at q4
            split at q4
            · obtain ⟨vs, m, e, r⟩ := q4
              unfold Rep
              exact ⟨a, vs, m, rfl, by rw [va]; exact e, Reps.mono sub _ r⟩
            · obtain ⟨o, kvs, n0, e, d, ek, r⟩ := q4
              unfold Rep
              exact ⟨a, o, kvs, rfl, n0, by rw [va]; exact e, d, ek, Reps.mono sub _ r⟩
            · cases q4
          · rename_i hx
            obtain ⟨v', r1, r2⟩ := X.S.vars id' i t' o e1 e2
            refine ⟨v', r1, ?_⟩
            cases o with
            | false => exact Rep.mono sub _ r2
            | true =>
              obtain ⟨a', rfl, p1, p2, p3, p4⟩ := r2
              have hne : a' ≠ a := fun q => hx (X.own id' id i x t' t a e1 hid e2 et (q ▸ r1) hv)
              exact ⟨a', rfl, mem.mpr ⟨p1, hne⟩, p2, p3, p4.mono sub fun o e => e⟩ }
      own := fun id1 id2 i1 i2 t1 t2 b e1 e2 e3 e4 h1 h2 => by
        have f : ∀ {i t'}, upd σ x t false i = some (t', true) → σ i = some (t', true) := fun {i t'} e => by
          unfold upd at e; split at e
          · cases e
          · exact e
        exact X.own id1 id2 i1 i2 t1 t2 b e1 e2 (f e3) (f e4) h1 h2 }

/-- after targets have been bound to values that nobody owns -/
theorem FAt.bound {tg : Tgt} {e : PySem.Expr} {t : PV} {σ' : Sig} (X : FAt prog w hB s₀ P₀ names Γ env Mu P O σ s) (hc : chkT Γ tg e = true) (hb : bindT σ tg t = some σ') (kb : Keeps hB s'.heap) (st : Step s₀ s') (S : Sc prog w names Γ env s'.heap P O σ')
    (stay : Stay env ((tgtNames tg e).map (·.1)) s.heap s'.heap) : FAt prog w hB s₀ P₀ names Γ env Mu P O σ' s' := by
  have old : ∀ id i t', Γ.lookup id = some i → σ' i = some (t', true) → σ i = some (t', true) ∧ id ∉ (tgtNames tg e).map (·.1) := by
    intro id i t' e1 e2
    cases tg with
    | one x =>
      obtain ⟨nm, p, rfl, hcN⟩ := t_one hc
      have hc := hcN
      cases hb
      unfold upd at e2
      split at e2
      · cases e2
      · rename_i hx
        refine ⟨e2, fun q => hx ?_⟩
        have q : id ∈ [nm] := q
        rw [List.mem_singleton] at q
        rw [q, hc.1] at e1; cases e1; rfl
    | two x y =>
      obtain ⟨a, pa, b, pb, k, p, rfl, hcN⟩ := t_two hc
      simp only [Bool.and_eq_true, decide_eq_true_eq] at hcN
      obtain ⟨⟨⟨⟨c1, c2⟩, _⟩, _⟩, _⟩ := hcN
      have two : ∀ ta tb, σ' = upd (upd σ x ta false) y tb false → σ i = some (t', true) ∧ id ∉ (tgtNames (.two x y) (.Tuple [.Name a pa, .Name b pb] k p)).map (·.1) := by
        intro ta tb h
        subst h
        unfold upd at e2
        split at e2
        · cases e2
        · rename_i hy
          split at e2
          · cases e2
          · rename_i hx
            refine ⟨e2, fun q => ?_⟩
            have q : id ∈ [a, b] := q
            simp only [List.mem_cons, List.not_mem_nil, or_false] at q
            rcases q with q | q
            · rw [q, c1] at e1; cases e1; exact hx rfl
            · rw [q, c2] at e1; cases e1; exact hy rfl
      obtain ⟨ta, tb, _, rfl⟩ := bindT_two hb
      exact two ta tb rfl
  exact { X with
    kb := kb, st := st, S := S
    own := fun id1 id2 i1 i2 t1 t2 a e1 e2 e3 e4 h1 h2 => by
      obtain ⟨r1, n1⟩ := old id1 i1 t1 e1 e3
      obtain ⟨r2, n2⟩ := old id2 i2 t2 e2 e4
      obtain ⟨v1, q1, _⟩ := X.S.vars id1 i1 t1 true e1 r1
      obtain ⟨v2, q2, _⟩ := X.S.vars id2 i2 t2 true e2 r2
      have := (stay _ _ n1 q1).uniq h1; subst this
      have := (stay _ _ n2 q2).uniq h2; subst this
      exact X.own id1 id2 i1 i2 t1 t2 a e1 e2 r1 r2 q1 q2 }

theorem K_freeze {x : Nat} {r : K} (hr : KOk prog w hB FN F T n N r) : KOk prog w hB FN F T n N (.freeze x r) := by
  intro names Γ l env hc σ out he A s₀ P₀ Mu P O s E R X
  have hc : chkK FN names Γ r l = true := hc
  (first | rw [exK_nil] at he | rw [exK_assign] at he | rw [exK_assign2] at he | rw [exK_move] at he | rw [exK_setitem] at he | rw [exK_append] at he | rw [exK_ite] at he | rw [exK_while] at he | rw [exK_for] at he | rw [exK_ret] at he | rw [exK_retv] at he | rw [exK_brk] at he | rw [exK_freeze] at he)
  split at he
  · rename_i t et
    obtain ⟨Mu', P', O', k, X'⟩ := X.freeze et
    exact wpAny_mono (hr names Γ l env hc _ out he A s₀ P₀ Mu' P' O' s E R X') (fun f s' g => SPost.of_step k X.S.inP g) fun _ _ x => x
  · exact hr names Γ l env hc _ out he A s₀ P₀ Mu P O s E R X
  · cases he

theorem K_move {x y : Nat} {r : K} (hr : KOk prog w hB FN F T n N r) : KOk prog w hB FN F T n N (.move x y r) := by
  intro names Γ l env hc σ out he A s₀ P₀ Mu P O s E R X
  refine j_move hc fun id pos id' pos' spos l' hcN => ?_
  · clear hc; have hc := hcN; clear hcN
    simp only [Bool.and_eq_true, decide_eq_true_eq] at hc
    obtain ⟨⟨⟨⟨c1, c2⟩, c3⟩, c4⟩, c5⟩ := hc
    (first | rw [exK_nil] at he | rw [exK_assign] at he | rw [exK_assign2] at he | rw [exK_move] at he | rw [exK_setitem] at he | rw [exK_append] at he | rw [exK_ite] at he | rw [exK_while] at he | rw [exK_for] at he | rw [exK_ret] at he | rw [exK_retv] at he | rw [exK_brk] at he | rw [exK_freeze] at he)
    split at he
    · rename_i t et
      split at he
      · cases he
      · rename_i hne
        obtain ⟨v, hv, vr⟩ := X.S.vars id' y t true c3 et
        have X' : FAt prog w hB s₀ P₀ names Γ env Mu P O (drp σ y) s := X.less fun i p e => by unfold drp at e; split at e <;> first | cases e | exact e
        refine seq_ok (o1 := .next (upd (drp σ y) x t true)) ?_ R X.S.inP hr c5 he
        refine wpAny_Assign_Name (load_var X.S.fn hv (by unfold ownName at c4; exact (Bool.and_eq_true _ _ ▸ c4).2) ?_) (no_swap rfl)
        refine wpAny_mono (X'.store c1 c2 (o := true) vr fun _ id1 i1 t1 b hi e1 e2 h1 q => ?_) (fun _ s' h => ⟨rfl, Mu, P, O, h.2.1, h.2.2⟩) fun _ _ x => x
        subst q
        unfold drp at e2
        split at e2
        · cases e2
        · rename_i hy
          exact hy (X.own id1 id' i1 y t1 t b e1 c3 e2 et h1 hv)
    · cases he

theorem K_assign2 {x y : Nat} {e : CE} {r : K} (hE : EOk prog w hB FN F T n e) (hr : KOk prog w hB FN F T n N r) : KOk prog w hB FN F T n N (.assign2 x y e r) := by
  intro names Γ l env hc σ out he A s₀ P₀ Mu P O s E R X
  refine j_assign2 hc fun a pa b pb k p v spos l' hcN => ?_
  · clear hc; have hc := hcN; clear hcN
    simp only [Bool.and_eq_true] at hc
    obtain ⟨⟨⟨⟨⟨⟨c1, c2⟩, c3⟩, c4⟩, c5⟩, c6⟩, c7⟩ := hc
    (first | rw [exK_nil] at he | rw [exK_assign] at he | rw [exK_assign2] at he | rw [exK_move] at he | rw [exK_setitem] at he | rw [exK_append] at he | rw [exK_ite] at he | rw [exK_while] at he | rw [exK_for] at he | rw [exK_ret] at he | rw [exK_retv] at he | rw [exK_brk] at he | rw [exK_freeze] at he)
    split at he
    · rename_i q e1
      split at he
      · rename_i t e2
        split at he
        · rename_i σ' e3
          obtain ⟨k1, k2⟩ := kept_some e2
          obtain ⟨t', fl⟩ := q
          dsimp only at k1 k2
          subst k1
          refine seq_ok (o1 := .next σ') ?_ R X.S.inP hr c7 he
          refine Assign_Tuple (wpAny_mono (hE names Γ _ env c6 σ t' fl e1 A P O s E R X.kb X.S) (fun v s1 g => ?_) fun _ _ x => x) (by unfold swapsWithSole; exact no_swap c4) (by cases v <;> first | rfl | exact absurd c5 Bool.false_ne_true)
          have X1 := X.keeps g.1
          have ga := X.good a c2
          have gb := X.good b c3
          refine wpAny_mono (assign_ok2 R.hd X1.S c1 X.inj (by unfold TgtOk; exact ⟨ga, gb⟩) X.mP (g.kept k2 X.S.inP) e3) (fun _ s2 h => ?_) fun _ _ x => x
          obtain ⟨h1, h2, h3, S2, stay⟩ := h
          have off := X1.off h1 h2 h3
          refine ⟨rfl, Mu, P, O, (FStep.of_step Mu P g.1).trans (FStep.off X1.S.inP X.mP h1 h2 h3 S2.inP) X.S.inP, ?_⟩
          exact X1.bound c1 e3 off.1 off.2 S2 stay
        · cases he
      · cases he
    · cases he
end
end Mine


namespace Mine
section
variable {prog : Program} {w : World} {hB : Heap} {FN : List Str} {F : FT} {T : TT} {n N : Nat} {mg mb : Str → Option Value}
variable {A : Around} {E : Value → Shared → Prop} {s s₀ s' : Shared} {P O Mu P₀ : List Addr} {names : Names} {Γ : Ctx} {env : Env} {σ : Sig}

/-- an owned object changes -/
theorem FAt.change {id : Str} {x : Nat} {t t' : PV} {a : Addr} {s' : Shared} (X : FAt prog w hB s₀ P₀ names Γ env Mu P O σ s) (hΓ : Γ.lookup id = some x) (et : σ x = some (t, true)) (hv : VarIs env s.heap id (.ref a))
    (hs : Heap.SameBut a s.heap s'.heap) (g : s'.gens = s.gens) (o : s'.os = s.os) (hr : ORep prog w (view s'.heap P) s'.heap a t') :
    FStep Mu P Mu P s s' ∧ FAt prog w hB s₀ P₀ names Γ env Mu P O (upd σ x t' true) s' := by
  obtain ⟨v, hv', a', rfl, q1, q2, q3, q4⟩ := X.S.vars id x t true hΓ et
  have := hv'.uniq hv
  cases this
  have aM := X.oM _ q1
  have aP := X.S.oP _ q1
  have k : KeepsOff Mu s.heap s'.heap := keepsOff_same hs aM
  have sub : Sub (view s.heap P) (view s'.heap P) := (keepsOff_same hs aP).sub
  have off := X.off k g o
  obtain ⟨oa, hoa⟩ := hr.ex
  have inP : ∀ b ∈ P, ∃ o, s'.heap.get? b = some o := fun b hb => by
    by_cases q : b = a
    · subst q; exact ⟨oa, hoa⟩
    · obtain ⟨ob, e⟩ := X.S.inP b hb; exact ⟨ob, (hs.2 b q).trans e⟩
  have vis : ∀ {id v}, VarIs env s.heap id v → VarIs env s'.heap id v := by
    intro id v h
    rcases h with ⟨b, m, c, d⟩ | ⟨b, c, d, e⟩
    · exact .inl ⟨b, m, c.sameBut hs (Ne.symm q2), d⟩
    · exact .inr ⟨b, c, d, e.sameBut hs (Ne.symm (q3 _ _ d))⟩
  have back : ∀ {i p}, i ≠ x → upd σ x t' true i = some p → σ i = some p := fun {i p} hi e => by unfold upd at e; rw [if_neg hi] at e; exact e
  refine ⟨FStep.off X.S.inP X.mP k g o inP, ?_⟩
  exact { X with
    kb := off.1
    st := off.2
    S := {
      fn := X.S.fn, gl := X.S.gl, bl := X.S.bl, kinds := X.S.kinds, cells := X.S.cells, locP := X.S.locP, cellI := X.S.cellI, oP := X.S.oP, inP := inP
      locN := let ⟨m, hm⟩ := X.S.locN; ⟨m, hm.sameBut hs (Ne.symm q2)⟩
      cellP := fun id c e => let ⟨a, b, v', d⟩ := X.S.cellP id c e; ⟨a, b, v', d.sameBut hs (Ne.symm (q3 id c e))⟩
      vars := fun id' i t1 o1 e1 e2 => by
        by_cases hi : i = x
        · subst hi
          unfold upd at e2
          rw [if_pos rfl] at e2
          cases e2
          have := X.inj _ _ _ e1 hΓ
          subst this
          exact ⟨_, vis hv, a, rfl, q1, q2, q3, hr⟩
        · have e2 := back hi e2
          obtain ⟨v', r1, r2⟩ := X.S.vars id' i t1 o1 e1 e2
          refine ⟨v', vis r1, ?_⟩
          cases o1 with
          | false => exact Rep.mono sub _ r2
          | true =>
            obtain ⟨b, rfl, p1, p2, p3, p4⟩ := r2
            exact ⟨b, rfl, p1, p2, p3, p4.mono sub fun o e => (hs.2 b fun q => hi (X.own id' id i x t1 t a e1 hΓ e2 et (q ▸ r1) hv)).trans e⟩ }
    own := fun id1 id2 i1 i2 t1 t2 b e1 e2 e3 e4 h1 h2 => by
      have old : ∀ id' i' t1, Γ.lookup id' = some i' → upd σ x t' true i' = some (t1, true) → VarIs env s'.heap id' (.ref b) → ∃ t2, σ i' = some (t2, true) ∧ VarIs env s.heap id' (.ref b) := by
        intro id' i' t1 c1 c2 c3
        by_cases hi : i' = x
        · subst hi
          obtain ⟨v', r1, _⟩ := X.S.vars id' i' t true c1 et
          have := (vis r1).uniq c3; subst this
          exact ⟨t, et, r1⟩
        · have c2 := back hi c2
          obtain ⟨v', r1, _⟩ := X.S.vars id' i' t1 true c1 c2
          have := (vis r1).uniq c3; subst this
          exact ⟨t1, c2, r1⟩
      obtain ⟨u1, r1, r2⟩ := old id1 i1 t1 e1 e3 h1
      obtain ⟨u2, r3, r4⟩ := old id2 i2 t2 e2 e4 h2
      exact X.own id1 id2 i1 i2 u1 u2 b e1 e2 r1 r3 r2 r4 }

theorem K_append {x : Nat} {e : CE} {r : K} (hE : EOk prog w hB FN F T n e) (hr : KOk prog w hB FN F T n N r) : KOk prog w hB FN F T n N (.append x e r) := by
  intro names Γ l env hc σ out he A s₀ P₀ Mu P O s E R X
  refine j_append hc fun id p nm apos y pos spos l' hcN => ?_
  · clear hc; have hc := hcN; clear hcN
    simp only [Bool.and_eq_true, decide_eq_true_eq] at hc
    obtain ⟨⟨⟨⟨⟨c1, c2⟩, rfl⟩, hl⟩, c3⟩, c4⟩ := hc
    (first | rw [exK_nil] at he | rw [exK_assign] at he | rw [exK_assign2] at he | rw [exK_move] at he | rw [exK_setitem] at he | rw [exK_append] at he | rw [exK_ite] at he | rw [exK_while] at he | rw [exK_for] at he | rw [exK_ret] at he | rw [exK_retv] at he | rw [exK_brk] at he | rw [exK_freeze] at he)
    split at he
    · rename_i q e1
      split at he
      · rename_i u e2
        split at he
        · rename_i xs et
          split at he
          · rename_i hz
            obtain ⟨k1, k2⟩ := kept_some e2
            obtain ⟨t', fl⟩ := q
            dsimp only at k1 k2
            subst k1
            refine seq_ok (o1 := .next (upd σ x (.list (xs ++ [t'])) true)) ?_ R X.S.inP hr c4 he
            obtain ⟨v, hv, a, rfl, q1, q2, q3, q4⟩ := X.S.vars id x (.list xs) true c1 et
            have okid : okId id = true := by unfold ownName at c2; exact (Bool.and_eq_true _ _ ▸ c2).2
            refine wpAny_Expr (wpAny_Call_method1_late base_name hl (by rw [star_cons c3]; rfl) (load_var X.S.fn hv okid ?_)) ?_ (no_swap rfl)
            · have q4' := q4
              unfold ORep at q4'
              obtain ⟨vs, m, h1, h2⟩ := q4'
              refine ⟨"list", "list.append", PySem.F.plainAttrs_list, PySem.F.slot_list_append, PySem.F.type_list_append, ⟨_, h1, rfl⟩, (fun a h => by cases h; exact ⟨_, h1, rfl⟩), ?_⟩
              refine PySem.P.append_list (wpAny_mono (hE names Γ y env c3 σ t' fl e1 A P O s E R X.kb X.S) (fun v1 s1 g1 => ?_) fun _ _ x => x)
              have X1 := X.keeps g1.1
              have h1' := g1.1.1 _ _ h1
              have hL : IsL s1.heap a vs m := h1'
              have z := h2.length
              rw [Array.length_toList] at z
              refine ⟨vs, m, by rw [sizeLine_val]; unfold bigL at hz; omega, hL, ?_⟩
              have hs : Heap.SameBut a s1.heap (s1.heap.update a (Obj.mapSeq fun xs => xs.push v1)) := Heap.SameBut.update ..
              have sub := (keepsOff_same hs (X.S.oP a q1)).sub
              have hrep : ORep prog w (view (s1.heap.update a (Obj.mapSeq fun xs => xs.push v1)) P) (s1.heap.update a (Obj.mapSeq fun xs => xs.push v1)) a (.list (xs ++ [t'])) := by
                unfold ORep
                refine ⟨_, _, IsL.update hL (fun xs => xs.push v1), ?_⟩
                rw [Array.toList_push]
                exact (Reps.mono ((g1.1.1.sub P).trans sub) _ h2).append (.cons (Rep.mono sub _ (g1.kept k2 X.S.inP)) .nil)
              obtain ⟨r1, r2⟩ := X1.change (s' := { s1 with heap := s1.heap.update a (Obj.mapSeq fun xs => xs.push v1) }) c1 et (hv.keeps g1.1.1) hs rfl rfl hrep
              exact ⟨rfl, Mu, P, O, (FStep.of_step Mu P g1.1).trans r1 X.S.inP, r2⟩
            · unfold interactive; rw [X.S.fn]; rfl
          · cases he
        · cases he
      · cases he
    · cases he
end
end Mine


namespace Mine

theorem stored_map {kvs : List (Int × Value)} {k : Int} {v : Value} : ∀ {j : Nat}, (kvs.map (·.1)).Nodup → (kvs.map (·.1)).idxOf? k = some j →
    kvs.any (fun kv => decide (kv.1 = k)) = true ∧ (kvs.map (fun kv => if kv.1 = k then (kv.1, v) else kv)).map (·.1) = kvs.map (·.1) ∧ (kvs.map (fun kv => if kv.1 = k then (kv.1, v) else kv)).map (·.2) = (kvs.map (·.2)).set j v := by
  induction kvs with
  | nil => intro j _ h; simp at h
  | cons p r ih =>
    intro j nd h
    simp only [List.map_cons, List.nodup_cons] at nd
    rw [List.map_cons, List.idxOf?_cons] at h
    by_cases q : p.1 = k
    · have hb : (p.1 == k) = true := by simpa using q
      rw [if_pos hb] at h
      cases h
      have same : r.map (fun kv => if kv.1 = k then (kv.1, v) else kv) = r := by
        conv => rhs; rw [← List.map_id r]
        refine List.map_congr_left fun a ha => ?_
        rw [if_neg (fun e => nd.1 (by rw [q, ← e]; exact List.mem_map_of_mem ha))]
        rfl
      refine ⟨by simp [q], ?_, ?_⟩
      · rw [List.map_cons, same, if_pos q]; rfl
      · rw [List.map_cons, same, if_pos q]; rfl
    · have hb : (p.1 == k) = false := by simpa using q
      rw [if_neg (by simp [hb])] at h
      obtain ⟨j', h1, h2⟩ := Option.map_eq_some_iff.mp h
      subst h2
      obtain ⟨a, b, c⟩ := ih nd.2 h1
      refine ⟨by rw [List.any_cons, a, Bool.or_true], ?_, ?_⟩
      · rw [List.map_cons, if_neg q, List.map_cons, b]; rfl
      · rw [List.map_cons, if_neg q, List.map_cons, c]; rfl
theorem stored_some {kvs : List (Int × Value)} {k : Int} {v : Value} {j : Nat} (nd : (kvs.map (·.1)).Nodup) (h : (kvs.map (·.1)).idxOf? k = some j) : (stored kvs k v).map (·.1) = kvs.map (·.1) ∧ (stored kvs k v).map (·.2) = (kvs.map (·.2)).set j v := by
  obtain ⟨a, b, c⟩ := stored_map (v := v) nd h
  unfold stored
  rw [if_pos a]
  exact ⟨b, c⟩
theorem stored_none {kvs : List (Int × Value)} {k : Int} {v : Value} (h : (kvs.map (·.1)).idxOf? k = none) : stored kvs k v = kvs ++ [(k, v)] := by
  unfold stored
  rw [if_neg]
  intro q
  rw [List.any_eq_true] at q
  obtain ⟨p, hp, e⟩ := q
  rw [List.idxOf?_eq_none_iff] at h
  exact h (by rw [← of_decide_eq_true e]; exact List.mem_map_of_mem hp)

section
variable {prog : Program} {w : World} {hB : Heap} {FN : List Str} {F : FT} {T : TT} {n N : Nat} {mg mb : Str → Option Value}
variable {A : Around} {E : Value → Shared → Prop} {s s₀ s' : Shared} {P O Mu P₀ : List Addr} {names : Names} {Γ : Ctx} {env : Env} {σ : Sig}

theorem set_ok {a : Addr} {t i u t' : PV} {iv v : Value} (aP : a ∈ P) (hr : ORep prog w (view s.heap P) s.heap a t) (hi : Read prog w P s.heap iv i) (hv : Rep prog w (view s.heap P) v u) (he : setPV t i u = some t') :
    wpAny (model prog w) A (setItem (.ref a) iv v) (fun _ s' => Heap.SameBut a s.heap s'.heap ∧ s'.gens = s.gens ∧ s'.os = s.os ∧ ORep prog w (view s'.heap P) s'.heap a t') E s := by
  unfold setPV at he
  split at he
  · rename_i xs k
    split at he
    · rename_i hc
      cases he
      simp only [Bool.and_eq_true, decide_eq_true_eq] at hc
      obtain ⟨⟨c1, c2⟩, c3⟩ := hc
      obtain ⟨tk, rfl⟩ := hi.int
      unfold ORep at hr
      obtain ⟨vs, m, h1, h2⟩ := hr
      have z := h2.length
      rw [Array.length_toList] at z
      unfold bigL at c3
      refine ki_setAt (items := vs) (n := m) h1 c1 (by lia) (by lia) ?_
      have hs : Heap.SameBut a s.heap (s.heap.update a (Obj.mapSeq (·.setIfInBounds k.toNat v))) := Heap.SameBut.update ..
      have sub := (keepsOff_same hs aP).sub
      refine ⟨hs, rfl, rfl, ?_⟩
      unfold ORep
      refine ⟨_, _, IsL.update (show IsL s.heap a vs m from h1) (·.setIfInBounds k.toNat v), ?_⟩
      rw [Array.toList_setIfInBounds]
      exact Reps.set (Rep.mono sub _ hv) _ (Reps.mono sub _ h2)
    · cases he
  · rename_i ks xs k
    split at he
    · rename_i hc
      simp only [Bool.and_eq_true, decide_eq_true_eq] at hc
      obtain ⟨c1, c2⟩ := hc
      obtain ⟨tk, rfl⟩ := hi.int
      unfold ORep at hr
      obtain ⟨o, kvs, ns, h1, h2, h3, h4⟩ := hr
      have nd : (kvs.map (·.1)).Nodup := by obtain ⟨_, _, _, _, _, _, q⟩ := h2; exact q
      have hl : kvs.length ≤ sizeLine := by rw [sizeLine_val]; have := congrArg List.length h3; rw [List.length_map] at this; lia
      refine wpAny_setItem_pairs (knd := intKind prog w) (k := k) (kvs := kvs) ?_ (Heap.dictOf_iff.mpr ⟨o, h1, h2⟩) (fun h' hd hs => ?_) hl
      · exact intKind_is prog w _ _
      · have sub := (keepsOff_same hs aP).sub
        obtain ⟨o', ho', hd'⟩ := Heap.dictOf_iff.mp hd
        refine ⟨hs, rfl, rfl, ?_⟩
        split at he
        · rename_i j ej
          cases he
          obtain ⟨e1, e2⟩ := stored_some (v := v) nd (by rw [h3]; exact ej)
          unfold ORep
          refine ⟨o', _, ns, ho', hd', by rw [e1, h3], ?_⟩
          rw [e2]
          exact Reps.set (Rep.mono sub _ hv) _ (Reps.mono sub _ h4)
        · rename_i ej
          cases he
          have e1 := stored_none (v := v) (by rw [h3]; exact ej)
          rw [e1] at hd'
          unfold ORep
          refine ⟨o', _, ns, ho', hd', by rw [List.map_append, h3]; rfl, ?_⟩
          rw [List.map_append]
          exact (Reps.mono sub _ h4).append (.cons (Rep.mono sub _ hv) .nil)
    · cases he
  · cases he

theorem K_setitem {x : Nat} {i e : CE} {r : K} (hI : EOk prog w hB FN F T n i) (hE : EOk prog w hB FN F T n e) (hr : KOk prog w hB FN F T n N r) : KOk prog w hB FN F T n N (.setitem x i e r) := by
  intro names Γ l env hc σ out he A s₀ P₀ Mu P O s E R X
  refine j_setitem hc fun id p j p2 v spos l' hcN => ?_
  · clear hc; have hc := hcN; clear hcN
    simp only [Bool.and_eq_true, decide_eq_true_eq] at hc
    obtain ⟨⟨⟨⟨c1, c2⟩, c3⟩, c4⟩, c5⟩ := hc
    have okid : okId id = true := by unfold ownName at c2; exact (Bool.and_eq_true _ _ ▸ c2).2
    (first | rw [exK_nil] at he | rw [exK_assign] at he | rw [exK_assign2] at he | rw [exK_move] at he | rw [exK_setitem] at he | rw [exK_append] at he | rw [exK_ite] at he | rw [exK_while] at he | rw [exK_for] at he | rw [exK_ret] at he | rw [exK_retv] at he | rw [exK_brk] at he | rw [exK_freeze] at he)
    split at he
    · rename_i q e1
      split at he
      · rename_i u e2
        split at he
        · rename_i k fk e3
          split at he
          · rename_i t et
            split at he
            · rename_i t' e4
              obtain ⟨k1, k2⟩ := kept_some e2
              obtain ⟨u', fl⟩ := q
              dsimp only at k1 k2
              subst k1
              refine seq_ok (o1 := .next (upd σ x t' true)) ?_ R X.S.inP hr c5 he
              refine wpAny_Assign_Subscript (wpAny_mono (hE names Γ v env c4 σ u' fl e1 A P O s E R X.kb X.S) (fun vv s1 g1 => ?_) fun _ _ x => x) (by cases v <;> rfl)
              have X1 := X.keeps g1.1
              obtain ⟨va, hv, a, rfl, q1, q2, q3, q4⟩ := X1.S.vars id x t true c1 et
              refine load_var X.S.fn hv okid ?_
              refine wpAny_mono (hI names Γ j env c3 σ k fk e3 A P O s1 E R X1.kb X1.S) (fun iv s2 g2 => ?_) fun _ _ x => x
              have X2 := X1.keeps g2.1
              refine wpAny_mono (set_ok (X.S.oP a q1) (q4.mono (g2.1.1.sub P) fun o e => g2.1.1 _ _ e) g2.read (Rep.mono (g2.1.1.sub P) _ (g1.kept k2 X.S.inP)) e4) (fun _ s3 g3 => ?_) fun _ _ x => x
              obtain ⟨r1, r2⟩ := X2.change c1 et (hv.keeps g2.1.1) g3.1 g3.2.1 g3.2.2.1 g3.2.2.2
              exact ⟨rfl, Mu, P, O, (FStep.of_step Mu P (g1.1.trans g2.1)).trans r1 X.S.inP, r2⟩
            · cases he
          · cases he
        · cases he
      · cases he
    · cases he
end
end Mine


namespace Mine
section
variable {prog : Program} {w : World} {hB : Heap} {FN : List Str} {F : FT} {T : TT} {n N : Nat} {mg mb : Str → Option Value}
variable {A : Around} {E : Value → Shared → Prop} {s s₀ s' : Shared} {P O Mu P₀ : List Addr} {names : Names} {Γ : Ctx} {env : Env} {σ : Sig}

theorem FStep.leave {Mu1 P1 : List Addr} {it : Addr} {s2 s3 s4 : Shared} (k : Step s s2) (f : FStep (it :: Mu) (it :: P) Mu1 P1 s2 s3) (hM1 : it ∉ Mu1) (hx : ∀ b o, b ≠ it → s3.heap.get? b = some o → s4.heap.get? b = some o) (g : s4.gens = s3.gens) (o : s4.os = s3.os) (fi : s.heap.get? it = none) (hP : ∀ a ∈ P, ∃ o, s.heap.get? a = some o) :
    FStep Mu P Mu1 (P1.filter fun b => decide (b ≠ it)) s s4 := by
  have ne : ∀ {b ob}, s.heap.get? b = some ob → b ≠ it := fun {b ob} e q => by rw [q, fi] at e; cases e
  have below : ∀ {b}, s2.heap.get? b = none → s.heap.get? b = none := fun {b} e => by
    cases z : s.heap.get? b with
    | none => rfl
    | some o => rw [k.1 _ _ z] at e; cases e
  exact {
    k := fun b ob hb e => hx b ob (ne e) (f.k b ob (fun q => (List.mem_cons.mp q).elim (ne e) hb) (k.1 _ _ e))
    g := g.trans (f.g.trans k.2.1)
    o := o.trans (f.o.trans k.2.2)
    mu := fun b hb => (f.mu b hb).imp (fun q => (List.mem_cons.mp q).elim (fun z => absurd (z ▸ hb) hM1) id) below
    p := fun b hb => by
      have hb : b ∈ P1 ∧ b ≠ it := by simpa using hb
      rcases f.p b hb.1 with q | q
      · rcases List.mem_cons.mp q with q | q
        · exact absurd q hb.2
        · exact .inl q
      · exact .inr (below q)
    q := fun b hb hn => by
      obtain ⟨ob, e⟩ := hP b hb
      have := f.q b (.tail _ hb) (fun q => (List.mem_cons.mp q).elim (ne e) hn)
      simpa using ⟨this, ne e⟩
    ex := fun b ob e => by
      obtain ⟨o', e'⟩ := f.ex b ob (k.1 _ _ e)
      exact ⟨o', hx b o' (ne e) e'⟩ }

theorem FAt.side {c : Addr} {s' : Shared} {oc : Obj} (X : FAt prog w hB s₀ P₀ names Γ env Mu P O σ s) (hs : Heap.SameBut c s.heap s'.heap) (hg : s'.gens = s.gens) (ho : s'.os = s.os) (hcP : c ∈ P) (hM : c ∉ Mu) (hl : env.locals ≠ c) (hc : ∀ id b, env.cells.lookup id = some b → b ≠ c) (f0 : s₀.heap.get? c = none) (fB : hB.get? c = none) (hoc : s'.heap.get? c = some oc) :
    FAt prog w hB s₀ P₀ names Γ env Mu P O σ s' := by
  have get : ∀ {b o}, b ≠ c → s.heap.get? b = some o → s'.heap.get? b = some o := fun h e => (hs.2 _ h).trans e
  have sub : Sub (view s.heap P) (view s'.heap P) := (keepsOff_same hs hcP).sub
  have vis : ∀ {id v}, VarIs env s.heap id v → VarIs env s'.heap id v := by
    intro id v h
    rcases h with ⟨a, m, b, d⟩ | ⟨a, x, b, d⟩
    · exact .inl ⟨a, m, b.sameBut hs hl, d⟩
    · exact .inr ⟨a, x, b, d.sameBut hs (hc _ _ b)⟩
  exact { X with
    kb := fun a o e => get (fun q => by rw [q, fB] at e; cases e) (X.kb _ _ e)
    st := ⟨fun a o e => get (fun q => by rw [q, f0] at e; cases e) (X.st.1 _ _ e), hg.trans X.st.2.1, ho.trans X.st.2.2⟩
    S := { X.S with
      locN := let ⟨m, b⟩ := X.S.locN; ⟨m, b.sameBut hs hl⟩
      cellP := fun id b e => by
        obtain ⟨h1, h2, v, h3⟩ := X.S.cellP id b e
        exact ⟨h1, h2, v, h3.sameBut hs (hc _ _ e)⟩
      vars := fun id i t o e1 e2 => by
        obtain ⟨v, h1, h2⟩ := X.S.vars id i t o e1 e2
        refine ⟨v, vis h1, ?_⟩
        cases o with
        | false => exact Rep.mono sub _ h2
        | true =>
          obtain ⟨a, rfl, q1, q2, q3, q4⟩ := h2
          exact ⟨a, rfl, q1, q2, q3, q4.mono sub fun o e => get (fun q => hM (q ▸ X.oM _ q1)) e⟩
      inP := fun a ha => by
        by_cases q : a = c
        · subst q; exact ⟨oc, hoc⟩
        · obtain ⟨o, e⟩ := X.S.inP a ha; exact ⟨o, get q e⟩ }
    own := fun id id' i i' t t' a e1 e2 e3 e4 h1 h2 => by
      obtain ⟨v, q, _⟩ := X.S.vars id i t true e1 e3
      obtain ⟨v', q', _⟩ := X.S.vars id' i' t' true e2 e4
      have := (vis q).uniq h1; subst this
      have := (vis q').uniq h2; subst this
      exact X.own id id' i i' t t' a e1 e2 e3 e4 q q' }

theorem It.after {Mu1 P1 : List Addr} {h h' : Heap} {it : Addr} {xs : List PV} {s s' : Shared} (x : It prog w Mu P s.heap it xs) (f : FStep Mu P Mu1 P1 s s') (hm : ∀ a ∈ Mu, a ∈ P) (hi : it ∉ Mu) : It prog w Mu1 P1 s'.heap it xs := by
  have sb : Sub (view s.heap P) (view s'.heap P1) := by
    intro a o e
    refine view_of (f.k a o (fun q => view_not e (hm a q)) (view_get e)) fun q => ?_
    rcases f.p a q with q | q
    · exact view_not e q
    · rw [view_get e] at q; cases q
  have nm : ∀ {l o}, s.heap.get? l = some o → l ∉ Mu → l ∉ Mu1 := fun {l o} e hl q => by
    rcases f.mu l q with q | q
    · exact hl q
    · rw [e] at q; cases q
  cases x with
  | list h1 h2 h3 h4 h5 =>
    obtain ⟨o, a, b⟩ := h1
    exact .list ⟨o, f.k _ _ hi a, b⟩ (f.k _ _ h4 h2) h3 (nm h2 h4) (Reps.mono sb _ h5)
  | tuple h1 h2 h3 h4 h5 =>
    obtain ⟨o, a, b⟩ := h1
    exact .tuple ⟨o, f.k _ _ hi a, b⟩ (f.k _ _ h4 h2) h3 (nm h2 h4) (Reps.mono sb _ h5)
  | range h1 h2 => exact .range (f.k _ _ hi h1) h2
  | dict h1 h2 h3 h4 h5 =>
    obtain ⟨o, a, b⟩ := h1
    obtain ⟨od, es, e1, e2⟩ := h2
    exact .dict ⟨o, f.k _ _ hi a, b⟩ ⟨od, es, f.k _ _ h4 e1, e2⟩ h3 (nm e1 h4) h5

theorem K_for {t : Tgt} {ie : CE} {b r : K} (hI : EOk prog w hB FN F T n ie) (hb : KOk prog w hB FN F T n N b) (hr : KOk prog w hB FN F T n N r) : KOk prog w hB FN F T n N (.for t ie b r) := by
  intro names Γ l env hc σ out he A s₀ P₀ Mu P O s E R X
  refine j_for hc fun tg i x p l' hcN => ?_
  · clear hc; have hc := hcN; clear hcN
    simp only [Bool.and_eq_true] at hc
    obtain ⟨⟨⟨⟨c1, c2⟩, c3⟩, c4⟩, c5⟩ := hc
    (first | rw [exK_nil] at he | rw [exK_assign] at he | rw [exK_assign2] at he | rw [exK_move] at he | rw [exK_setitem] at he | rw [exK_append] at he | rw [exK_ite] at he | rw [exK_while] at he | rw [exK_for] at he | rw [exK_ret] at he | rw [exK_retv] at he | rw [exK_brk] at he | rw [exK_freeze] at he)
    split at he
    · rename_i q e1
      split at he
      · rename_i u e2
        split at he
        · rename_i xs e3
          obtain ⟨k1, k2⟩ := kept_some e2
          obtain ⟨u', fl⟩ := q
          dsimp only at k1 k2
          subst k1
          generalize hW : forS t (execK F T N b) xs σ = W at he
          cases W with
          | none => cases he
          | some o1 =>
          refine seq_ok ?_ R X.S.inP hr c5 he
          refine wpAny_For (wpAny_mono (hI names Γ i env c3 σ u' fl e1 A P O s E R X.kb X.S) (fun v s1 g1 => ?_) fun _ _ x => x) (not_set c3 env)
          have X1 := X.keeps g1.1
          have rep := g1.kept k2 X.S.inP
          have nl : ∀ l, v = .ref l → l ∉ Mu := fun l e q => by
            subst e
            have qP := X.mP l q
            unfold itemsOf at e3
            split at e3 <;> first | cases e3; done | (unfold Rep at rep)
            · obtain ⟨l', vs, m, e, h1, _⟩ := rep; cases e; exact view_not h1 qP
            · obtain ⟨l', vs, m, e, h1, _⟩ := rep; cases e; exact view_not h1 qP
            · obtain ⟨l', a1, a2, a3, e, h1⟩ := rep; cases e; exact view_not h1.1 qP
            · obtain ⟨l', o, kvs, e, _, h1, _⟩ := rep; cases e; exact view_not h1 qP
          refine wpAny_mono (iter_start (Mu := Mu) e3 g1.read X1.S.inP nl) (fun itv s2 g2 => ?_) fun _ _ x => x
          obtain ⟨rfl, st2, ⟨oi, hoi⟩, I2, _⟩ := g2
          have fi : s1.heap.get? s1.heap.objs.size = none := (Keeps.refl s1.heap).fresh
          generalize hit : s1.heap.objs.size = it at *
          have X2 := X1.hideP st2 fi hoi
          have st02 := g1.1.trans st2
          have fi0 : s.heap.get? it = none := by
            cases z : s.heap.get? it with
            | none => rfl
            | some o => rw [g1.1.1 _ _ z] at fi; cases fi
          have f0 := X1.freshS fi
          have iP : it ∉ P := fun q => by obtain ⟨o, e⟩ := X1.S.inP it q; rw [fi] at e; cases e
          have il : env.locals ≠ it := fun q => iP (q ▸ X.S.locP)
          have ic : ∀ id c, env.cells.lookup id = some c → c ≠ it := fun id c e q => iP (q ▸ (X.S.cellP id c e).1)
          refine codeAny_mono (R := fun rr s' => ∃ f, rr = .ok f ∧ SPost prog w hB s₀ P₀ names Γ env Mu P s o1 f s') ?_ fun rr s' h => by
            obtain ⟨f, rfl, h⟩ := h; exact h
          refine codeAny_forLoop_any (fun m s3 => ∃ ys σ1 Mu1 P1 O1, ys.length = m ∧ forS t (execK F T N b) ys σ1 = some o1 ∧ FStep (it :: Mu) (it :: P) Mu1 P1 s2 s3 ∧ FAt prog w hB s₀ P₀ names Γ env Mu1 P1 O1 σ1 s3 ∧ It prog w Mu1 P1 s3.heap it ys ∧ it ∈ P1 ∧ it ∉ Mu1) ?_ xs.length
            ⟨xs, σ, Mu, it :: P, O, rfl, hW, ⟨fun _ _ _ e => e, rfl, rfl, fun _ h => .inl (.tail _ h), fun _ h => .inl h, fun _ h _ => h, fun _ _ e => ⟨_, e⟩⟩, X2, I2, .head _, fun q => iP (X.mP it q)⟩
          intro m s3 I
          obtain ⟨ys, σ1, Mu1, P1, O1, rfl, h1, f3, X3, I3, iP1, iM1⟩ := I
          cases ys with
          | nil =>
            cases h1
            refine wpAny_mono (iter_end R.hd I3) (fun rr s4 g4 => ?_) fun _ _ x => x
            obtain ⟨rfl, e4, g4, o4⟩ := g4
            refine wpAny_execs_nil ⟨_, rfl, rfl, Mu1, _, O1, FStep.leave st02 f3 iM1 (fun b o hb e => e4 b o hb e) g4 o4 fi0 X.S.inP, X3.leave (fun b o hb e => e4 b o hb e) g4 o4 iP1 iM1 il ic f0.1 f0.2⟩
          | cons y ys =>
            unfold forS at h1
            split at h1
            · rename_i σ2 e5
              refine wpAny_mono (iter_next I3 iP1) (fun rr s4 g4 => ?_) fun _ _ x => x
              obtain ⟨v4, rfl, r4, I4, hs4, g4, o4⟩ := g4
              refine letOwned_none I4 ?_
              have X4 : FAt prog w hB s₀ P₀ names Γ env Mu1 P1 O1 σ1 s4 := by obtain ⟨oo, ho⟩ := I4.ex; exact X3.side hs4 g4 o4 iP1 iM1 il ic f0.1 f0.2 ho
              have f4 : FStep (it :: Mu) (it :: P) Mu1 P1 s2 s4 := ⟨fun a o hn e => (hs4.2 a fun q => hn (q ▸ .head _)).trans (f3.k a o hn e), g4.trans f3.g, o4.trans f3.o, f3.mu, f3.p, f3.q, fun a o e => by
                obtain ⟨o', e'⟩ := f3.ex a o e
                by_cases q : a = it
                · subst q; exact I4.ex
                · exact ⟨o', (hs4.2 a q).trans e'⟩⟩
              refine wpAny_mono (assign_ok2 R.hd X4.S c1 X.inj (tgt_of c1 fun p hp => X4.good _ (List.all_eq_true.mp c2 p hp)) X4.mP r4 e5) (fun _ s5 g5 => ?_) fun _ _ x => x
              obtain ⟨a1, a2, a3, S5, stay⟩ := g5
              have off := X4.off a1 a2 a3
              have X5 := X4.bound c1 e5 off.1 off.2 S5 stay
              have f5 : FStep Mu1 P1 Mu1 P1 s4 s5 := FStep.off X4.S.inP X4.mP a1 a2 a3 S5.inP
              have f25 := f4.trans f5 X2.S.inP
              have I5 := I4.after (h := s4.heap) (h' := s5.heap) f5 X4.mP iM1
              generalize hB1 : execK F T N b σ2 = B1 at h1
              cases B1 with
              | none => cases h1
              | some o2 =>
                refine wpAny_mono (hb names Γ x env c4 σ2 o2 hB1 A s₀ P₀ Mu1 P1 O1 s5 _ R X5) (fun f s6 g => ?_) fun _ _ x => x
                cases o2 with
                | next σ3 =>
                  obtain ⟨rfl, Mu3, P3, O3, k3, X6⟩ := g
                  exact ⟨ys.length, Nat.lt_succ_self _, ys, σ3, Mu3, P3, O3, rfl, h1, f25.trans k3 X2.S.inP, X6, I5.after (h := s5.heap) (h' := s6.heap) k3 X5.mP iM1, k3.q it iP1 iM1, fun q => by
                    rcases k3.mu it q with q | q
                    · exact iM1 q
                    · obtain ⟨o, e⟩ := I5.ex; rw [e] at q; cases q⟩
                | brk σ3 =>
                  obtain ⟨rfl, Mu3, P3, O3, k3, X6⟩ := g
                  cases h1
                  have iM3 : it ∉ Mu3 := fun q => by
                    rcases k3.mu it q with q | q
                    · exact iM1 q
                    · obtain ⟨o, e⟩ := I5.ex; rw [e] at q; cases q
                  exact ⟨_, rfl, rfl, Mu3, _, O3, FStep.leave st02 (f25.trans k3 X2.S.inP) iM3 (fun b o _ e => e) rfl rfl fi0 X.S.inP, X6.leave (fun b o _ e => e) rfl rfl (k3.q it iP1 iM1) iM3 il ic f0.1 f0.2⟩
                | ret rr =>
                  obtain ⟨v, rfl, g⟩ := g
                  cases h1
                  exact ⟨_, rfl, v, rfl, g⟩
            · cases h1
        · cases he
      · cases he
    · cases he
end
end Mine


namespace Mine
section
variable {prog : Program} {w : World} {hB : Heap} {FN : List Str} {F : FT} {T : TT} {n N : Nat} {mg mb : Str → Option Value}

theorem all_es (HB : Base prog w hB FN F T n mg mb) : ∀ es : CEs, M2 prog w hB FN F T n es
  | .nil => ⟨Es_nil, Rs_nil, B_nil, BC_nil, I_nil, D_nil, fun c h => by cases h⟩
  | .cons e es => by
    have he := all_ok HB e
    have hes := all_es HB es
    exact ⟨Es_cons he.1 hes.1, Rs_cons he.1 hes.2.1, B_cons he.1 hes.2.2.1, BC_cons he.2 hes.2.2.2.1, I_cons he.2 hes.2.2.2.2.1, D_cons he.1 hes.2.2.2.2.2.1, fun c h => by cases h; exact he.1⟩
theorem all_gs (HB : Base prog w hB FN F T n mg mb) : ∀ g : CG, GOk prog w hB FN F T n g
  | .elt e => G_elt (all_ok HB e).1
  | .gen t it ifs rest => G_gen (all_ok HB it).1 (all_es HB ifs).2.2.2.2.1 (all_gs HB rest)

theorem subs_hide {h h' : Heap} {P L : List Addr} (k : Keeps h h') (e : ∀ a ∈ L, h.get? a = none) : Sub (view h P) (view h' (L ++ P)) := by
  intro b o x
  refine view_of (k _ _ (view_get x)) fun q => ?_
  rcases List.mem_append.mp q with q | q
  · have := e b q; rw [view_get x] at this; cases this
  · exact view_not x q
theorem Sc.hides {names : Names} {Γ : Ctx} {env : Env} {h h' : Heap} {P O L : List Addr} {σ : Sig} (x : Sc prog w names Γ env h P O σ) (k : Keeps h h') (e : ∀ a ∈ L, h.get? a = none) (e' : ∀ a ∈ L, ∃ o, h'.get? a = some o) : Sc prog w names Γ env h' (L ++ P) O σ where
  fn := x.fn
  gl := x.gl
  bl := x.bl
  kinds := x.kinds
  cells := x.cells
  locN := let ⟨m, b⟩ := x.locN; ⟨m, b.keeps k⟩
  locP := List.mem_append_right _ x.locP
  cellP := fun id c q => let ⟨b, d, v, f⟩ := x.cellP id c q; ⟨List.mem_append_right _ b, d, v, f.keeps k⟩
  cellI := x.cellI
  vars := fun id i t o e1 e2 => by
    obtain ⟨v, p, q⟩ := x.vars id i t o e1 e2
    refine ⟨v, p.keeps k, ?_⟩
    cases o with
    | false => exact Rep.mono (subs_hide k e) _ q
    | true =>
      obtain ⟨b, rfl, h1, h2, h3, h4⟩ := q
      exact ⟨b, rfl, h1, h2, h3, h4.mono (subs_hide k e) fun o z => k _ o z⟩
  inP := fun b hb => by
    rcases List.mem_append.mp hb with hb | hb
    · exact e' b hb
    · obtain ⟨o', z⟩ := x.inP b hb; exact ⟨o', k _ _ z⟩
  oP := fun b hb => List.mem_append_right _ (x.oP b hb)

theorem FAt.hide2 {names : Names} {Γ : Ctx} {env : Env} {s s₀ s' : Shared} {P O Mu P₀ : List Addr} {σ : Sig} {a C : Addr} (X : FAt prog w hB s₀ P₀ names Γ env Mu P O σ s) (k : Step s s') (e : s.heap.get? a = none) (eC : s.heap.get? C = none) (e' : ∃ o, s'.heap.get? a = some o) (eC' : ∃ o, s'.heap.get? C = some o) :
    FAt prog w hB s₀ P₀ names Γ env (a :: Mu) (C :: a :: P) (a :: O) σ s' where
  kb := X.kb.trans k.1
  st := X.st.trans k
  S := (X.S.hides (L := [C, a]) k.1 (fun b h => by simp at h; rcases h with rfl | rfl <;> assumption) (fun b h => by simp at h; rcases h with rfl | rfl <;> assumption)).moreO (fun _ h => .tail _ h) (fun b h => by
    rcases List.mem_cons.mp h with rfl | h
    · exact .tail _ (.head _)
    · exact .tail _ (.tail _ (X.S.oP b h)))
  inj := X.inj
  good := fun id h => (X.good id h).more fun _ h => .tail _ h
  oM := fun b h => by
    rcases List.mem_cons.mp h with rfl | h
    · exact .head _
    · exact .tail _ (X.oM b h)
  mP := fun b h => by
    rcases List.mem_cons.mp h with rfl | h
    · exact .tail _ (.head _)
    · exact .tail _ (.tail _ (X.mP b h))
  mF := fun b h => by
    rcases List.mem_cons.mp h with rfl | h
    · exact X.freshS e
    · exact X.mF b h
  pP := fun b h => .tail _ (.tail _ (X.pP b h))
  p0 := X.p0
  own := (X.keeps k).own

theorem swap_name {elt : PySem.Expr} {gens : List Comprehension} {sc : Scope} {p : Pos} {id : Str} {pos : Pos} {line : Nat} {env : Env} :
    ∃ b : Bool, swapsWith (.ListComp elt gens sc p) (some (.Name id pos)) line env = pure b := ⟨_, rfl⟩

theorem assign_swapped {M : Model} {A : Around} {E : Value → Shared → Prop} {s : Shared} {elt : PySem.Expr} {gens : List Comprehension} {sc : Scope} {p spos : Pos} {id : Str} {pos : Pos} {env : Env} {Q : Flow → Shared → Prop}
    (hsw : swapsWith (.ListComp elt gens sc p) (some (.Name id pos)) spos.line env = pure true)
    (h : wpAny M A (comprehension (.ListComp elt gens sc p) sc env (firstIterPos gens p) (newList []) (firstAsync gens) (firstIter gens env) (some (assign (.Name id pos) env))) (fun _ s' => Q .next s') E s) :
    wpAny M A (exec (.Assign [.Name id pos] (.ListComp elt gens sc p) spos) env) Q E s := by
  rw [exec_Assign_Name_used _ _ _ _ hsw]
  refine wpAny_bind (wpAny_standAt (wpAny_bind ?_))
  show wpAny _ A (do let _ ← comprehension (.ListComp elt gens sc p) sc env (firstIterPos gens p) (newList []) (firstAsync gens) (firstIter gens env) (some (assign (.Name id pos) env))) _ _ s
  exact wpAny_bind (wpAny_mono h (fun _ s' hq => wpAny_pure (wpAny_pure hq)) fun _ _ e => e)

theorem hcomp_ok (HB : Base prog w hB FN F T n mg mb) {x : Nat} {e : CE} : ∀ names Γ id pos elt gens sc p spos env, chkE FN names Γ e (.ListComp elt gens sc p) = true → Γ.lookup id = some x → ownName names id = true → ∀ σ t, evalE F T e σ = some (t, .new) → ∀ (A : Around) (s₀ : Shared) (P₀ Mu P O : List Addr) (s : Shared) (E : Value → Shared → Prop),
    Room A n → FAt prog w hB s₀ P₀ names Γ env Mu P O σ s → wpAny (model prog w) A (exec (.Assign [.Name id pos] (.ListComp elt gens sc p) spos) env) (SPost prog w hB s₀ P₀ names Γ env Mu P s (.next (upd σ x t true))) E s := by
  intro names Γ id pos elt gens sc p spos env hc hΓ hn σ t he A s₀ P₀ Mu P O s E R X
  obtain ⟨b, hsw⟩ := swap_name (elt := elt) (gens := gens) (sc := sc) (p := p) (id := id) (pos := pos) (line := spos.line) (env := env)
  cases b with
  | false =>
    refine wpAny_Assign_Name (wpAny_mono (eval_ok HB e names Γ _ env hc σ t .new he A P O s E R X.kb X.S) (fun v s1 g => ?_) fun _ _ x => x) hsw
    exact wpAny_mono (X.storeR hΓ hn g (by simp)) (fun _ s' h => h) fun _ _ x => x
  | true =>
    refine assign_swapped hsw ?_
    cases e with
    | comp g =>
      cases g with
      | elt c => exact absurd ((Bool.and_eq_true _ _).mp hc).2 Bool.false_ne_true
      | gen t' it' ifs' rest' => cases gens with
      | nil => exact absurd ((Bool.and_eq_true _ _).mp hc).2 Bool.false_ne_true
      | cons c gs =>
        have h1 := ((Bool.and_eq_true _ _).mp hc).1
        have h2 : (chkE FN names Γ it' c.iter && decide (c.is_async = 0) && chkT (innerCtx Γ sc.names (genNames (.gen t' it' ifs' rest') (c :: gs))) t' c.target &&
          chkEs FN sc.names (innerCtx Γ sc.names (genNames (.gen t' it' ifs' rest') (c :: gs))) ifs' c.ifs && chkG FN sc.names (innerCtx Γ sc.names (genNames (.gen t' it' ifs' rest') (c :: gs))) rest' gs elt) = true := ((Bool.and_eq_true _ _).mp hc).2
        simp only [Bool.and_eq_true, decide_eq_true_eq] at h2
        obtain ⟨⟨⟨⟨c1, c2⟩, c3⟩, c4⟩, c5⟩ := h2
        (first | rw [evE_lit] at he | rw [evE_var] at he | rw [evE_gint] at he | rw [evE_bin] at he | rw [evE_neg] at he | rw [evE_not] at he | rw [evE_bop] at he | rw [evE_cmp] at he | rw [evE_chain] at he | rw [evE_ite] at he | rw [evE_list] at he | rw [evE_tuple] at he | rw [evE_dict] at he | rw [evE_idx] at he | rw [evE_tok] at he | rw [evE_sliceL] at he | rw [evE_sliceH] at he | rw [evE_sliceB] at he | rw [evE_call] at he | rw [evE_bi] at he | rw [evE_join] at he | rw [evE_index] at he | rw [evE_comp] at he)
        split at he
        · rename_i us e1
          obtain ⟨hz, er⟩ := mkL_some he
          cases er
          have fa : firstAsync (c :: gs) = false := by
            obtain ⟨a, b, d, e⟩ := c
            dsimp only at c2
            subst c2
            rfl
          rw [fa]
          have hI := (all_es HB ifs').2.2.2.2.1
          have hG := all_gs HB rest'
          refine comp_core (eval_ok HB it') hI hG h1 c1 c2 c3 c4 c5 e1 hz R X.kb X.S fun acc C s' f' ce => ?_
          obtain ⟨st, fA, fC, ne, ⟨m, nC⟩, P2, q1, q2, q3, q4⟩ := ce
          show wpAny (model prog w) A (assign (.Name id pos) env (.ref acc)) _ E s'
          obtain ⟨oa, hoa⟩ := q4.ex
          obtain ⟨oC, hoC⟩ : ∃ o, s'.heap.get? C = some o := by obtain ⟨o, _, _, e, _⟩ := nC; exact ⟨o, e⟩
          have X1 := X.hide2 st fA fC ⟨_, hoa⟩ ⟨_, hoC⟩
          have fC1 := X.freshS fC
          have neP : ∀ b ∈ P, acc ≠ b := fun b hb q => by obtain ⟨o', e⟩ := X.S.inP b hb; rw [← q, fA] at e; cases e
          have CnP : C ∉ P := fun q => by obtain ⟨o', e⟩ := X.S.inP C q; rw [fC] at e; cases e
          have CnM : C ∉ acc :: Mu := fun q => by
            rcases List.mem_cons.mp q with q | q
            · exact ne q.symm
            · exact CnP (X.mP C q)
          refine wpAny_assign_Name (wpAny_mono (X1.store hΓ hn (o := true) (v := .ref acc) (t := .list us) ⟨acc, rfl, .head _, neP _ X.S.locP, fun id' c e => neP _ (X.S.cellP id' c e).1, ?_⟩ (fun _ id' i' t' b hi e1 e2 h q => ?_)) (fun _ s2 g => ?_) fun _ _ x => x)
          · exact q4.mono (view_sub fun b hb => by
              rcases List.mem_cons.mp hb with rfl | hb
              · exact q2
              · rcases List.mem_cons.mp hb with rfl | hb
                · exact q3
                · exact q1 b hb) fun o e => e
          · cases q
            obtain ⟨v', r1, b, rfl, q1, _⟩ := X.S.vars id' i' t' true e1 e2
            have := (r1.keeps st.1).uniq h
            cases this
            exact neP _ (X.S.oP _ q1) rfl
          · obtain ⟨k2, f2, X2⟩ := g
            obtain ⟨o1, es, ep, b1, b2⟩ := nC
            refine ⟨m, ⟨o1, es, ep, k2 C _ CnM b1, b2⟩, fun h' hs => ?_⟩
            have X3 := X2.leave (c := C) (s' := { s2 with heap := h' }) (fun b o hb e => (hs.2 b hb).trans e) rfl rfl (.head _) CnM (fun q => CnP (q ▸ X.S.locP)) (fun id b e q => CnP (q ▸ (X.S.cellP id b e).1)) fC1.1 fC1.2
            refine ⟨rfl, _, _, _, ?_, X3⟩
            have ne0 : ∀ {b o}, s.heap.get? b = some o → b ≠ C := fun {b o} e q => by rw [q, fC] at e; cases e
            have naM : ∀ {b o}, s.heap.get? b = some o → b ∉ Mu → b ∉ acc :: Mu := fun {b o} e hb q => by
              rcases List.mem_cons.mp q with q | q
              · rw [q, fA] at e; cases e
              · exact hb q
            exact {
              k := fun b o hb e => (hs.2 b (ne0 e)).trans (k2 b o (naM e hb) (st.1 _ _ e))
              g := f2.g.trans st.2.1
              o := f2.o.trans st.2.2
              mu := fun b hb => by
                rcases List.mem_cons.mp hb with rfl | hb
                · exact .inr fA
                · exact .inl hb
              p := fun b hb => by
                have hb : b ∈ C :: acc :: P ∧ b ≠ C := by simpa only [List.mem_filter, decide_eq_true_eq] using hb
                rcases List.mem_cons.mp hb.1 with q | q
                · exact absurd q hb.2
                · rcases List.mem_cons.mp q with q | q
                  · subst q; exact .inr fA
                  · exact .inl q
              q := fun b hb _ => by
                have : b ≠ C := fun q => CnP (q ▸ hb)
                simp [hb, this]
              ex := fun b o e => by
                obtain ⟨o', e'⟩ := f2.ex b o (st.1 _ _ e)
                exact ⟨o', (hs.2 b (ne0 e)).trans e'⟩ }
        · cases he
    | _ => exact absurd hc Bool.false_ne_true

theorem kall (HB : Base prog w hB FN F T n mg mb) (k : K) : KOk prog w hB FN F T n N k := by
  induction k with
  | nil => exact K_nil
  | assign x e r hr => exact K_assign (eval_ok HB e) hr (hcomp_ok HB)
  | assign2 x y e r hr => exact K_assign2 (eval_ok HB e) hr
  | move x y r hr => exact K_move hr
  | setitem x i e r hr => exact K_setitem (eval_ok HB i) (eval_ok HB e) hr
  | append x e r hr => exact K_append (eval_ok HB e) hr
  | ite c a b r ha hb hr => exact K_ite (test_ok HB c) ha hb hr
  | «while» c b o r hb ho hr => exact K_while (test_ok HB c) hb ho hr
  | «for» t it b r hb hr => exact K_for (eval_ok HB it) hb hr
  | ret e => exact K_ret (eval_ok HB e)
  | retv x => exact K_retv
  | brk => exact K_brk
  | freeze x r hr => exact K_freeze hr
end
end Mine


namespace Mine

/-- the parameters' values at the start -/
noncomputable def startS : List Nat → List PV → Sig
  | p :: ps, t :: ts => upd (startS ps ts) p t false
  | _, _ => fun _ => Option.none

/-- a def: its parameters, its block -/
structure Df where
  ps : List Nat
  k : K

noncomputable def runDf (F : FT) (T : TT) (N : Nat) (d : Df) (ts : List PV) : Option R :=
  if ts.length = d.ps.length then (match execK F T N d.k (startS d.ps ts) with
    | some (.ret r) => some r
    | some (.next _) => some (.none, .frz)
    | _ => Option.none) else Option.none

/-- the check of a def: names and kinds -/
noncomputable def chkDf (FN : List Str) (names : Names) (Γ : Ctx) (ids : List Str) (d : Df) (body : List Stmt) : Bool :=
  chkK FN names Γ d.k body && decide (d.ps.length = ids.length) && decide ids.Nodup && decide d.ps.Nodup && decide (Γ.map (·.2)).Nodup &&
  ((ids.zip d.ps).all fun p => decide (Γ.lookup p.1 = some p.2)) && (ids.all fun id => ownName names id) &&
  (names.all fun p => decide (names.lookup p.1 = some p.2) && decide (p.2 ≠ .free))

theorem startS_get : ∀ {ps : List Nat} {ts : List PV} {i : Nat} {q : PV × Bool}, startS ps ts i = some q → q.2 = false ∧ ∃ j : Nat, ps[j]? = some i ∧ ts[j]? = some q.1
  | [], _, _, _, h => by simp [startS] at h
  | _ :: _, [], _, _, h => by simp [startS] at h
  | p :: ps, t :: ts, i, q, h => by
    unfold startS upd at h
    split at h
    · rename_i e; subst e; cases h; exact ⟨rfl, 0, rfl, rfl⟩
    · obtain ⟨a, j, b, c⟩ := startS_get h; exact ⟨a, j + 1, b, c⟩

theorem bindL_not {kd : Str → Option NameKind} : ∀ {b : List (Str × Value)} {m : Str → Option Value} {id : Str}, id ∉ b.map (·.1) → bindL kd b m id = m id
  | [], _, _, _ => rfl
  | (x, v) :: r, m, id, h => by
    unfold bindL
    rw [bindL_not fun q => h (.tail _ q)]
    split
    · have : id ≠ x := fun q => h (q ▸ .head _)
      simp [this]
    · rfl
theorem bindC_not {kd : Str → Option NameKind} : ∀ {b : List (Str × Value)} {m : Str → Option Value} {id : Str}, id ∉ b.map (·.1) → bindC kd b m id = m id
  | [], _, _, _ => rfl
  | (x, v) :: r, m, id, h => by
    unfold bindC
    rw [bindC_not fun q => h (.tail _ q)]
    split
    · rfl
    · have : id ≠ x := fun q => h (q ▸ .head _)
      simp [this]
theorem bindL_get {kd : Str → Option NameKind} : ∀ {b : List (Str × Value)} {m : Str → Option Value} {id : Str} {v : Value}, (b.map (·.1)).Nodup → (id, v) ∈ b → kd id = some .local → bindL kd b m id = some v
  | [], _, _, _, _, h, _ => by cases h
  | (x, u) :: r, m, id, v, nd, h, hk => by
    rw [List.map_cons, List.nodup_cons] at nd
    unfold bindL
    rcases List.mem_cons.mp h with e | h
    · cases e
      rw [bindL_not nd.1, if_pos hk]
      simp
    · exact bindL_get nd.2 h hk
theorem bindC_get {kd : Str → Option NameKind} : ∀ {b : List (Str × Value)} {m : Str → Option Value} {id : Str} {v : Value}, (b.map (·.1)).Nodup → (id, v) ∈ b → kd id = some .cell → bindC kd b m id = some v
  | [], _, _, _, _, h, _ => by cases h
  | (x, u) :: r, m, id, v, nd, h, hk => by
    rw [List.map_cons, List.nodup_cons] at nd
    unfold bindC
    rcases List.mem_cons.mp h with e | h
    · cases e
      rw [bindC_not nd.1, if_neg (by rw [hk]; simp)]
      simp
    · exact bindC_get nd.2 h hk

theorem cells_acc : ∀ (names : List (Str × NameKind)) (n : Nat) (acc : List (Str × Addr)) (id : Str), ((acc.lookup id).isSome = true ∨ (id, NameKind.cell) ∈ names) → ((cellsFrom n names acc).lookup id).isSome = true
  | [], n, acc, id, h => by
    rcases h with h | h
    · exact h
    · cases h
  | (x, k) :: r, n, acc, id, h => by
    unfold cellsFrom
    split
    · rename_i hk
      refine cells_acc r _ _ id ?_
      rcases h with h | h
      · left
        rw [List.lookup_cons]
        cases q : id == x with
        | true => rfl
        | false => exact h
      · rcases List.mem_cons.mp h with e | h
        · cases e
          left
          rw [List.lookup_cons]
          simp
        · exact .inr h
    · rename_i hk
      refine cells_acc r _ _ id ?_
      rcases h with h | h
      · exact .inl h
      · rcases List.mem_cons.mp h with e | h
        · cases e; simp at hk
        · exact .inr h
end Mine


namespace Mine
section
variable {prog : Program} {w : World} {hB : Heap} {FN : List Str} {F : FT} {T : TT} {n N : Nat} {mg mb : Str → Option Value}

theorem inj_of : ∀ {Γ : Ctx}, (Γ.map (·.2)).Nodup → Inj Γ
  | [], _ => fun a b i h => by cases h
  | (x, j) :: r, nd => fun a b i h1 h2 => by
    rw [List.map_cons, List.nodup_cons] at nd
    have mem : ∀ {c}, r.lookup c = some i → i ∈ r.map (·.2) := fun {c} e => List.mem_map_of_mem (f := (·.2)) (mem_of_lookup e)
    rw [List.lookup_cons] at h1 h2
    cases q1 : a == x <;> cases q2 : b == x <;> rw [q1] at h1 <;> rw [q2] at h2 <;> dsimp only at h1 h2
    · exact inj_of nd.2 a b i h1 h2
    · cases h2; exact absurd (mem h1) nd.1
    · cases h1; exact absurd (mem h2) nd.1
    · rw [beq_iff_eq.mp q1, beq_iff_eq.mp q2]

theorem fun_ok (HB : Base prog w hB FN F T n mg mb) {names : Names} {Γ : Ctx} {ids : List Str} {d : Df} {body : List Stmt} (hc : chkDf FN names Γ ids d body = true)
    {a : Addr} {o : Obj} {fd : FuncData} (ho : hB.get? a = some o) (hd : o.data = .func fd) (hlim : hB.NoLimit) (hcd : hB.CodeRec fd.code fd.qualname) (hbody : fd.body = .stmts body) (hnames : fd.scope.names = names)
    (hbind : ∀ vals : List Value, vals.length = ids.length → bindArgs fd ⟨vals, []⟩ = pure (ids.zip vals)) (hclo : fd.closure = []) (hgl : fd.globals = mainGlobals) (hbl : fd.builtins = builtinsNs)
    (hco : fd.scope.isCoroutine = false) (hgen : fd.scope.isGenerator = false) (hk : fd.scope.kind = .function)
    {ts : List PV} {r : PV} {fl : Fl} (he : runDf F T N d ts = some (r, fl)) (A : Around) (P : List Addr) (s : Shared) (E : Value → Shared → Prop) (vals : List Value) (R : Room A (n + 1)) (kb : Keeps hB s.heap) (hP : ∀ a ∈ P, ∃ o, s.heap.get? a = some o)
    (hv : Reps prog w (view s.heap P) vals ts) : codeAny (model prog w) A (.call (.ref a) ⟨vals, []⟩) (fun rr s' => ∃ v, rr = .ok (.ret v) ∧ Gives prog w s P r fl v s') s := by
  subst hnames
  unfold chkDf at hc
  simp only [Bool.and_eq_true, decide_eq_true_eq, List.all_eq_true] at hc
  obtain ⟨⟨⟨⟨⟨⟨⟨c1, c2⟩, c3⟩, c4⟩, c5⟩, c6⟩, c7⟩, c8⟩ := hc
  unfold runDf at he
  split at he
  case isFalse => cases he
  rename_i hl
  have hlen : vals.length = ids.length := by rw [hv.length, hl, c2]
  have own : ∀ {id}, ownName fd.scope.names id = true → fd.scope.names.lookup id = some .local ∨ fd.scope.names.lookup id = some .cell := fun {id} h => by
    unfold ownName at h
    simp only [Bool.and_eq_true, Bool.or_eq_true, decide_eq_true_eq] at h
    exact h.1
  have fst : (ids.zip vals).map (·.1) = ids := List.map_fst_zip (Nat.le_of_eq hlen.symm)
  have cellOk : ∀ id m, fd.scope.names.lookup id = some .cell → ((cellsFrom m fd.scope.names []).lookup id).isSome = true := fun id m h => cells_acc _ _ _ _ (.inr (mem_of_lookup h))
  refine codeAny_call_cells (by have := R.dp; lia) (kb _ _ ho) hd (hlim.keeps kb) (hcd.keeps kb) hbody (hbind vals hlen) hclo (fun x hx => ?_) (fun s1 C => ?_) hco hgen hk
  · have hm : x.1 ∈ ids := by rw [← fst]; exact List.mem_map_of_mem (f := (·.1)) hx
    rcases own (c7 _ hm) with q | q
    · exact .inl q
    · exact .inr ⟨q, cellOk _ _ q⟩
  generalize henv : callEnvC fd s.heap.objs.size a = env at C ⊢
  have eS : env.scope = fd.scope := by rw [← henv]; rfl
  have eL : env.locals = s.heap.objs.size := by rw [← henv]; rfl
  have eG : env.globals = mainGlobals := by rw [← henv, ← hgl]; rfl
  have eB : env.builtins = builtinsNs := by rw [← henv, ← hbl]; rfl
  have eC : env.cells = cellsFrom (s.heap.objs.size + 1) fd.scope.names [] := by rw [← henv]; rfl
  have eK : ∀ id, env.kindOf id = fd.scope.names.lookup id := fun id => by unfold Env.kindOf; rw [eS]
  obtain ⟨⟨⟨h1, tk, rfl⟩, ns, kp, fr⟩, cell, apart, above⟩ := C
  have K1 : Keeps s.heap h1 := kp
  have freshL : s.heap.get? env.locals = none := by rw [eL]; exact (Keeps.refl s.heap).fresh
  have size : ∀ {b o}, s.heap.get? b = some o → b < s.heap.objs.size := fun e => Heap.lt_size e
  have freshC : ∀ {id c}, env.cells.lookup id = some c → s.heap.get? c = none := fun {id c} e => by
    cases q : s.heap.get? c with
    | none => rfl
    | some o => exact absurd (Nat.lt_trans (Nat.lt_of_lt_of_le (size q) fr) (above id c (mem_of_lookup e))) (Nat.lt_irrefl _)
  have neL : ∀ {id c}, env.cells.lookup id = some c → c ≠ env.locals := fun {id c} e q => by have := above id c (mem_of_lookup e); rw [q] at this; exact Nat.lt_irrefl _ this
  have belowB : ∀ {b}, s.heap.get? b = none → hB.get? b = none := fun {b} e => by
    cases q : hB.get? b with
    | none => rfl
    | some o => rw [kb _ _ q] at e; cases e
  let Mu : List Addr := env.locals :: (env.cells.filter fun p => decide (env.cells.lookup p.1 = some p.2)).map (·.2)
  have muF : ∀ b ∈ Mu, s.heap.get? b = none := fun b hb => by
    rcases List.mem_cons.mp hb with rfl | hb
    · exact freshL
    · obtain ⟨p, hp, rfl⟩ := List.mem_map.mp hb
      cases q : s.heap.get? p.2 with
      | none => rfl
      | some o => exact absurd (Nat.lt_trans (Nat.lt_of_lt_of_le (size q) fr) (above p.1 p.2 (List.mem_filter.mp hp).1)) (Nat.lt_irrefl _)
  have cellMem : ∀ {id c}, env.cells.lookup id = some c → c ∈ Mu := fun {id c} e => .tail _ (List.mem_map_of_mem (f := (·.2)) (List.mem_filter.mpr ⟨mem_of_lookup e, decide_eq_true e⟩))
  have sub : Sub (view s.heap P) (view h1 (Mu ++ P)) := subs_hide K1 muF
  have X : FAt prog w hB s P fd.scope.names Γ env Mu (Mu ++ P) [] (startS d.ps ts) { s with heap := h1, toks := tk } := {
    kb := kb.trans K1
    st := ⟨K1, rfl, rfl⟩
    inj := inj_of c5
    oM := fun b h => by cases h
    mP := fun b h => List.mem_append_left _ h
    mF := fun b h => ⟨muF b h, belowB (muF b h)⟩
    pP := fun b h => List.mem_append_right _ h
    p0 := hP
    good := fun id h => by
      refine ⟨?_, ⟨.head _, fun c e => cellMem e⟩, fun q => ?_⟩
      · rw [eK]; exact own h
      · rw [eK] at q
        rw [eC]
        exact Option.isSome_iff_exists.mp (cellOk _ _ q)
    own := fun id id' i i' t t' b e1 e2 e3 => by
      have := (startS_get e3).1; cases this
    S := {
      fn := by rw [eS]; exact hk
      gl := eG
      bl := eB
      kinds := fun id k h => .inl (by rw [eK]; exact h)
      cells := fun id h => by
        rcases h with h | h
        · rw [eC]; exact Option.isSome_iff_exists.mp (cellOk _ _ h)
        · exact absurd rfl (c8 _ (mem_of_lookup h)).2
      locN := ⟨_, ns⟩
      locP := List.mem_append_left _ (.head _)
      cellP := fun id c e => ⟨List.mem_append_left _ (cellMem e), neL e, _, cell id c e⟩
      cellI := fun id id' c e1 e2 => name_of_addr apart (mem_of_lookup e1) (mem_of_lookup e2)
      oP := fun b h => by cases h
      inP := fun b hb => by
        rcases List.mem_append.mp hb with hb | hb
        · rcases List.mem_cons.mp hb with rfl | hb
          · obtain ⟨o1, _, _, e, _⟩ := ns; exact ⟨o1, e⟩
          · obtain ⟨p, hp, rfl⟩ := List.mem_map.mp hb
            obtain ⟨o1, e, _⟩ := cell p.1 p.2 (of_decide_eq_true (List.mem_filter.mp hp).2); exact ⟨o1, e⟩
        · obtain ⟨o1, e⟩ := hP b hb; exact ⟨o1, K1 _ _ e⟩
      vars := fun id i t o e1 e2 => by
        obtain ⟨q1, j, q2, q3⟩ := startS_get e2
        dsimp only at q1 q3
        subst q1
        have hj : j < ids.length := by rw [← c2]; exact (List.getElem?_eq_some_iff.mp q2).1
        have hid : ids[j]? = some id := by
          have hz : (ids[j], i) ∈ ids.zip d.ps := by
            refine List.mem_of_getElem? (i := j) ?_
            rw [List.getElem?_zip_eq_some]
            exact ⟨List.getElem?_eq_getElem hj, q2⟩
          have := c6 _ hz
          have := inj_of c5 _ _ _ e1 this
          rw [this]; exact List.getElem?_eq_getElem hj
        obtain ⟨v, r1, r2⟩ := hv.get q3
        have hm : (id, v) ∈ ids.zip vals := List.mem_of_getElem? (i := j) (by rw [List.getElem?_zip_eq_some]; exact ⟨hid, r1⟩)
        have nd : ((ids.zip vals).map (·.1)).Nodup := by rw [fst]; exact c3
        refine ⟨v, ?_, Rep.mono sub _ r2⟩
        rcases own (c7 id (List.mem_of_getElem? hid)) with q | q
        · have hkd : env.kindOf id = some .local := by rw [eK]; exact q
          exact .inl ⟨hkd, _, ns, bindL_get nd hm hkd⟩
        · have hkd : env.kindOf id = some .cell := by rw [eK]; exact q
          obtain ⟨c, hcc⟩ := Option.isSome_iff_exists.mp (cellOk id (s.heap.objs.size + 1) q)
          rw [← eC] at hcc
          exact .inr ⟨.inl hkd, c, hcc, bindC_get nd hm hkd ▸ cell id c hcc⟩ } }
  have R' : Room (A.deeper env) n := ⟨R.hd, by have := R.dp; show A.depth + 1 + n < _; lia, by have := R.un; show A.units + 3 + 60 * (n + 1) < _; lia⟩
  generalize hx : execK F T N d.k (startS d.ps ts) = out at he
  cases out with
  | none => cases he
  | some out =>
    refine wpAny_mono (kall HB d.k _ Γ body env c1 _ out hx (A.deeper env) s P Mu (Mu ++ P) [] _ _ R' X) (fun f s2 g => ?_) fun _ _ x => x
    cases out with
    | next σ' =>
      obtain ⟨rfl, Mu', P', O', k, X'⟩ := g
      cases he
      exact ⟨_, rfl, X'.st, by unfold Res Rep; rfl⟩
    | brk σ' => cases he
    | ret q =>
      obtain ⟨v, rfl, g, _⟩ := g
      cases he
      exact ⟨_, rfl, g⟩
end
end Mine


namespace Mine

/-! the defs of a text, level by level -/
structure DI where
  name : Str
  ctx : Ctx
  d : Df

noncomputable def plainParams (p : Arguments) : Bool := p.posonlyargs.isEmpty && p.vararg.isNone && p.kwonlyargs.isEmpty && p.kw_defaults.isEmpty && p.kwarg.isNone && p.defaults.isEmpty

noncomputable def chkDI (FN : List Str) (rs : List DefRec) (i : DI) : Bool := match rs.find? (fun r => r.name == i.name) with
  | some r => plainParams r.params && decide (r.scope.kind = .function) && !r.scope.isCoroutine && !r.scope.isGenerator && chkDf FN r.scope.names i.ctx (r.params.args.map (·.arg)) i.d r.body
  | Option.none => false

noncomputable def FF (DS : List DI) (T : TT) (N : Nat) : Nat → FT
  | 0 => fun _ _ => Option.none
  | k + 1 => fun f ts => if f = k then (match DS[k]? with | some i => runDf (FF DS T N k) T N i.d ts | Option.none => Option.none) else FF DS T N k f ts

theorem FF_lt {DS : List DI} {T : TT} {N : Nat} {f : Nat} {i : DI} (h : DS[f]? = some i) : ∀ {k : Nat}, f < k → ∀ ts, FF DS T N k f ts = runDf (FF DS T N f) T N i.d ts
  | 0, h0, _ => absurd h0 (Nat.not_lt_zero _)
  | k + 1, h0, ts => by
    show (if f = k then (match DS[k]? with | some i => runDf (FF DS T N k) T N i.d ts | Option.none => Option.none) else FF DS T N k f ts) = _
    by_cases q : f = k
    · subst q; rw [if_pos rfl, h]
    · rw [if_neg q]; exact FF_lt h (by lia) ts

theorem lookup_zip {ids : List Str} {vals : List Value} (nd : ids.Nodup) (hl : vals.length = ids.length) : ids.filterMap (fun n => ((ids.zip vals).lookup n).map (n, ·)) = ids.zip vals := by
  have key : ∀ (ids : List Str) (vals : List Value) (pre : List (Str × Value)), ids.Nodup → vals.length = ids.length → (∀ x ∈ ids, pre.lookup x = none) →
      ids.filterMap (fun n => ((pre ++ ids.zip vals).lookup n).map (n, ·)) = ids.zip vals := by
    intro ids
    induction ids with
    | nil => intro vals pre _ _ _; cases vals <;> rfl
    | cons x r ih =>
      intro vals pre nd hl hp
      cases vals with
      | nil => simp at hl
      | cons v vs =>
        rw [List.nodup_cons] at nd
        have h1 : (pre ++ (x :: r).zip (v :: vs)).lookup x = some v := by
          rw [List.lookup_append, hp x (.head _)]
          simp
        rw [List.filterMap_cons, h1]
        show (x, v) :: _ = _
        have := ih vs (pre ++ [(x, v)]) nd.2 (by simpa using hl) (fun y hy => by
          rw [List.lookup_append, hp y (.tail _ hy)]
          have : y ≠ x := fun q => nd.1 (q ▸ hy)
          simp [this])
        rw [List.append_assoc] at this
        rw [List.zip_cons_cons]
        exact congrArg _ this
  have := key ids vals [] nd hl (fun _ _ => rfl)
  simpa using this

theorem bind_plain {name : Str} {p : Arguments} {body : List Stmt} {sc : Scope} {pm code doc : Value} (hp : plainParams p = true) (nd : (p.args.map (·.arg)).Nodup) {vals : List Value} (hl : vals.length = (p.args.map (·.arg)).length) :
    bindArgs (docDef name p body sc pm code doc) ⟨vals, []⟩ = pure ((p.args.map (·.arg)).zip vals) := by
  obtain ⟨po, as, va, ko, kd, kw, df⟩ := p
  unfold plainParams at hp
  simp only [Bool.and_eq_true, List.isEmpty_iff, Option.isNone_iff_eq_none] at hp
  obtain ⟨⟨⟨⟨⟨rfl, rfl⟩, rfl⟩, rfl⟩, rfl⟩, rfl⟩ := hp
  dsimp only at nd hl ⊢
  have hl' : vals.length = as.length := by simpa using hl
  have hm : ∀ x ∈ as.map (·.arg), ((((as.map (·.arg)).zip vals)).lookup x).isNone = false := by
    intro x hx
    cases q : ((as.map (·.arg)).zip vals).lookup x with
    | some v => rfl
    | none =>
      exfalso
      obtain ⟨i, hi, e⟩ := List.getElem_of_mem hx
      have hz : (x, vals[i]'(by simp at hi; lia)) ∈ (as.map (·.arg)).zip vals := by
        refine List.mem_of_getElem? (i := i) ?_
        rw [List.getElem?_zip_eq_some]
        exact ⟨by rw [List.getElem?_eq_getElem hi, e], List.getElem?_eq_getElem _⟩
      exact absurd q (by rw [List.lookup_eq_none_iff]; intro h; have := h _ hz; simp at this)
  have hmiss : ((as.map (·.arg)).filter fun n => (((as.map (·.arg)).zip vals).lookup n).isNone) = [] := by
    rw [List.filter_eq_nil_iff]
    intro x hx
    rw [hm x hx]; simp
  unfold bindArgs
  simp only [docDef, seqItems?, List.map_nil, List.nil_append, List.append_nil, List.zip_nil_right, List.drop_nil, List.length_nil, Nat.sub_zero, List.forIn_nil, pure_bind, notAStandIn]
  simp only [Option.getD, List.length_map, hl', Nat.lt_irrefl, decide_false, Bool.false_and, Bool.false_eq_true, if_false, List.drop_zero, List.length_nil, Nat.zero_sub, Nat.sub_zero, List.drop_nil, List.zip_nil_right, List.forIn_nil, pure_bind, List.isEmpty_nil, Bool.not_true]
  rw [show List.take as.length (as.map (·.arg)) = as.map (·.arg) from List.take_of_length_le (by simp), hmiss]
  simp only [List.isEmpty_nil, Bool.not_true, Bool.false_eq_true, if_false]
  exact congrArg pure (lookup_zip nd hl)

theorem Room.le {A : Around} {n m : Nat} (R : Room A n) (h : m ≤ n) : Room A m := ⟨R.hd, by have := R.dp; lia, by have := R.un; have : 60 * (m + 1) ≤ 60 * (n + 1) := Nat.mul_le_mul_left _ (by lia); lia⟩

section
variable {p prog : Program} {w : World} {h : Heap} {loose : List Str} {mean : ExcName → Option Value} {mg mb : Str → Option Value} {FN : List Str} {DS : List DI} {T : TT} {N : Nat}

theorem di_at (hn : FN = DS.map (·.name)) (hc : (DS.all (chkDI FN (recsOf p))) = true) {f : Nat} {i : DI} (hi : DS[f]? = some i) :
    FN[f]? = some i.name ∧ ∃ r ∈ recsOf p, r.name = i.name ∧ plainParams r.params = true ∧ r.scope.kind = .function ∧ r.scope.isCoroutine = false ∧ r.scope.isGenerator = false ∧ chkDf FN r.scope.names i.ctx (r.params.args.map (·.arg)) i.d r.body = true := by
  refine ⟨by rw [hn, List.getElem?_map, hi]; rfl, ?_⟩
  have := List.all_eq_true.mp hc i (List.mem_of_getElem? hi)
  unfold chkDI at this
  split at this
  · rename_i r hr
    simp only [Bool.and_eq_true, decide_eq_true_eq, Bool.not_eq_true'] at this
    exact ⟨r, List.mem_of_find?_eq_some hr, beq_iff_eq.mp (List.find?_some (p := fun r : DefRec => r.name == i.name) hr), this.1.1.1.1, this.1.1.1.2, this.1.1.2, this.1.2, this.2⟩
  · cases this

theorem base_all (T0 : Top p loose mean mg mb h) (hbi : ∀ x : BI, mg (biName x) = none ∧ mb (biName x) = some (biV x)) (hstr : mg "str" = none ∧ mb "str" = some (.type "str")) (hlist : mg "list" = none ∧ mb "list" = some (.type "list"))
    (hg : ∀ p ∈ GI, ∃ k, mg p.1 = some (.int p.2 k))
    (htok : ∃ d, mg "EXACT_TOKEN_TYPES" = some (.ref d) ∧ ∀ (A : Around) (P : List Addr) (s : Shared) (E : Value → Shared → Prop) (x : Str) (i : Int) (k : Tok), Keeps h s.heap → T x = some i →
      s.TypeIs (.ref d) "dict" ∧ wpAny (model prog w) A (getItem (.ref d) (.str x k)) (Gives prog w s P (.int i) .frz) E s)
    (hn : FN = DS.map (·.name)) (hc : (DS.all (chkDI FN (recsOf p))) = true) : ∀ k : Nat, Base prog w h FN (FF DS T N k) T k mg mb := by
  intro k
  induction k with
  | zero =>
    refine ⟨T0.g, T0.b, hbi, hstr, hlist, hg, fun f id e => ?_, htok⟩
    rw [hn, List.getElem?_map] at e
    obtain ⟨i, hi, rfl⟩ := Option.map_eq_some_iff.mp e
    obtain ⟨_, r, hr, er, -⟩ := di_at hn hc hi
    obtain ⟨a, o, pm, code, doc, h1, h2, h3, h4⟩ := T0.fn r hr
    exact ⟨a, o, _, er ▸ h1, h2, h3, fun ts r fl e => by cases (show (none : Option R) = some (r, fl) from e)⟩
  | succ k ih =>
    refine ⟨T0.g, T0.b, hbi, hstr, hlist, hg, fun f id e => ?_, htok⟩
    by_cases q : f = k
    · subst q
      rw [hn, List.getElem?_map] at e
      obtain ⟨i, hi, rfl⟩ := Option.map_eq_some_iff.mp e
      obtain ⟨_, r, hr, er, c1, c2, c3, c4, c5⟩ := di_at hn hc hi
      obtain ⟨a, o, pm, code, doc, h1, h2, h3, h4⟩ := T0.fn r hr
      refine ⟨a, o, _, er ▸ h1, h2, h3, fun ts t fl e A P s E vals R K hP hv => ?_⟩
      rw [FF_lt hi (Nat.lt_succ_self f)] at e
      have nd : (r.params.args.map (·.arg)).Nodup := by
        unfold chkDf at c5
        simp only [Bool.and_eq_true, decide_eq_true_eq] at c5
        exact c5.1.1.1.1.1.2
      refine wpAny_call (codeAny_mono (fun_ok ih c5 h2 h3 T0.nolimit h4 rfl rfl (fun vals hl => bind_plain c1 nd hl) rfl rfl rfl c3 c4 c2 e A P s E vals R K hP hv) fun rr s' g => ?_)
      obtain ⟨v, rfl, g⟩ := g
      exact g
    · obtain ⟨a, o, fd, h1, h2, h3, h4⟩ := ih.fns f id e
      refine ⟨a, o, fd, h1, h2, h3, fun ts t fl e A P s E vals R => h4 ts t fl ?_ A P s E vals (R.le (Nat.le_succ k))⟩
      have : FF DS T N (k + 1) f ts = FF DS T N k f ts := by
        show (if f = k then _ else FF DS T N k f ts) = _
        rw [if_neg q]
      rw [← this]; exact e

/-! the table of tokens -/
noncomputable abbrev TokE := List (Str × Tok × Int × Tok)
noncomputable def tokD (t : TokE) : List (PyData × PyData) := t.map fun e => (PyData.str e.1, PyData.int e.2.2.1)
noncomputable def TTof (t : TokE) : TT := fun x => match Spec.lookup (.str x) (tokD t) with
  | some (.int i) => some i
  | _ => Option.none
noncomputable def tokEs (w : World) (t : TokE) : List DictEntry := t.map fun e => { hash := PyData.keyHash w.params e.1, key := .str e.1 e.2.1, val := .int e.2.2.1 e.2.2.2 }

theorem tok_tab {t : TokE} {d : Addr} {ep : Nat} (ho : h.get? d = some { cls := .type "dict", data := .dict (tokEs w t).toArray ep }) (hd : (d == sysModules) = false) (nd : (t.map (·.1)).Nodup) :
    PyProof.Rows.StrTab prog w h d (tokD t) := by
  refine PyProof.Rows.TabAt.ofObj (kvs := t.map fun e => (e.1, Value.int e.2.2.1 e.2.2.2)) hd ho ⟨_, _, ⟨rfl, rfl, rfl⟩, rfl, ?_, ?_, ?_⟩ ?_
  · intro e he
    unfold tokEs at he
    rw [List.mem_toArray, List.mem_map] at he
    obtain ⟨x, _, rfl⟩ := he
    exact ⟨x.1, strKind_is prog w _ _, rfl⟩
  · show Pairs _ (tokEs w t).toArray.toList _
    unfold tokEs
    rw [List.toList_toArray]
    clear nd ho
    induction t with
    | nil => exact .nil
    | cons e r ih => exact .cons (strKind_is prog w _ _) rfl ih
  · rw [List.map_map]; exact nd
  · unfold tokD
    clear nd ho
    induction t with
    | nil => exact .nil
    | cons e r ih => exact .cons (.int _ _) ih

theorem tok_ok {t : TokE} {d : Addr} (hm : mg "EXACT_TOKEN_TYPES" = some (.ref d)) (ht : PyProof.Rows.StrTab prog w h d (tokD t)) :
    ∃ d, mg "EXACT_TOKEN_TYPES" = some (.ref d) ∧ ∀ (A : Around) (P : List Addr) (s : Shared) (E : Value → Shared → Prop) (x : Str) (i : Int) (k : Tok), Keeps h s.heap → TTof t x = some i →
      s.TypeIs (.ref d) "dict" ∧ wpAny (model prog w) A (getItem (.ref d) (.str x k)) (Gives prog w s P (.int i) .frz) E s := by
  refine ⟨d, hm, fun A P s E x i k K e => ?_⟩
  have ht' := ht.keep K
  refine ⟨?_, ?_⟩
  · obtain ⟨_, kvs, hd, _⟩ := ht'; exact hd.typeIs
  · unfold TTof at e
    split at e
    · rename_i j hl
      cases e
      refine PyProof.Rows.getItem_tab PyProof.V.same_str (strKind_is prog w _ _) ht' hl fun v hv => ?_
      obtain ⟨u, rfl⟩ := hv.int_inv
      exact gives_int (step_toks s _)
    · cases e
end
theorem well_ints {prog : Program} {w : World} {P : Params} {h : Heap} {H : View} : ∀ {vs : List Value} (is : List Int), WellAll P h vs (ofPys (is.map .int)) → Reps prog w H vs (is.map .int)
  | vs, [], x => by
    unfold List.map ofPys at x; cases x; exact Reps.nil
  | vs, i :: r, x => by
    unfold List.map ofPys at x; unfold ofPy at x
    cases x with
    | cons y z => cases y; exact Reps.cons (by unfold Rep; exact ⟨_, rfl⟩) (well_ints r z)
theorem well_script {prog : Program} {w : World} {P : Params} {h : Heap} {a : Addr} {is : List Int} (x : Well P h (.ref a) (ofPy (.list (is.map .int)))) : Reps prog w (view h []) [.ref a] [.list (is.map .int)] := by
  unfold ofPy at x
  cases x with
  | list ho hw => exact Reps.cons (by unfold Rep; exact ⟨a, _, _, rfl, view_of ho (by simp), by simpa using well_ints is hw⟩) Reps.nil

theorem has_ok : WShape.has [] (.bool true) .bool = true := by decide +kernel
theorem post_ok (args ds : List WData) : (WShape.has [] (.bool true) .bool && (WTm.eq .res (.lit (.bool true))).holds [] { args := args, res := some (.bool true), after := ds }) = true := by
  rw [has_ok, Bool.true_and]
  unfold WTm.holds
  have : (WTm.eq .res (.lit (.bool true))).value [] { args := args, res := some (.bool true), after := ds } = some (.bool true) := by
    unfold WTm.value
    simp only [WTm.value]
    rw [show W.same (.bool true) (.bool true) = true by unfold W.same; rfl]
  rw [this]

noncomputable def bNames : List Str := ["len", "range", "min", "max", "sum", "isinstance", "tuple", "bytes", "chr", "str", "list"]
noncomputable def freeOk (p : Program) (loose : List Str) : Bool := bNames.all fun x =>
  decide (x ∉ startupNames) && decide (x ∉ loose) && decide (x ∉ (recsOf p).map (·.name)) && decide (x ∉ (litsOf p).map (·.1)) && decide (x ∉ (clssOf p loose).map (·.name))

theorem link {p prog : Program} {w : World} {h : Heap} {loose : List Str} {mean : ExcName → Option Value} {mg mb : Str → Option Value} {FN : List Str} {DS : List DI} {t : TokE} {d : Addr}
    (T0 : Top p loose mean mg mb h) (hf : freeOk p loose = true) (h0 : valOf p "ENDMARKER" = some (.int 0)) (h256 : valOf p "NT_OFFSET" = some (.int 256))
    (hm : mg "EXACT_TOKEN_TYPES" = some (.ref d)) (ho : h.get? d = some { cls := .type "dict", data := .dict (tokEs w t).toArray 48 }) (hd : (d == sysModules) = false) (nd : (t.map (·.1)).Nodup)
    (hn : FN = DS.map (·.name)) (hc : (DS.all (chkDI FN (recsOf p))) = true) (N k : Nat) : Base prog w h FN (FF DS (TTof t) N k) (TTof t) k mg mb := by
  have hfree : ∀ x ∈ bNames, mg x = none := fun x hx => by
    have := List.all_eq_true.mp hf x hx
    simp only [Bool.and_eq_true, decide_eq_true_eq] at this
    exact T0.free _ this.1.1.1.1 this.1.1.1.2 this.1.1.2 this.1.2 this.2
  have hbi : ∀ x : BI, mg (biName x) = none ∧ mb (biName x) = some (biV x) := by
    intro x
    refine ⟨hfree _ ?_, (T0.builtins _ ?_).trans ?_⟩
    · cases x <;> decide +kernel
    · cases x <;> decide +kernel
    · cases x <;> rfl
  have hstr : mg "str" = none ∧ mb "str" = some (.type "str") := ⟨hfree _ (by decide +kernel), (T0.builtins _ (by decide +kernel)).trans rfl⟩
  have hlist : mg "list" = none ∧ mb "list" = some (.type "list") := ⟨hfree _ (by decide +kernel), (T0.builtins _ (by decide +kernel)).trans rfl⟩
  have hgi : ∀ p ∈ GI, ∃ k, mg p.1 = some (.int p.2 k) := by
    intro q hp
    have hv : valOf p q.1 = some (.int q.2) := by
      rcases List.mem_cons.mp hp with rfl | hp
      · exact h0
      · rcases List.mem_cons.mp hp with rfl | hp
        · exact h256
        · cases hp
    obtain ⟨v, h1, h2⟩ := T0.const q.1 (.int q.2) hv
    obtain ⟨t, e, _⟩ := reads_int_inv (h2 {})
    exact ⟨t, e ▸ h1⟩
  exact base_all T0 hbi hstr hlist hgi (tok_ok hm (tok_tab ho hd nd)) hn hc k

noncomputable def lawSays (DS : List DI) (T : TT) (N : Nat) (most : Nat) : Prop := ∀ is : List Int, is.length ≤ most → FF DS T N DS.length (DS.length - 1) [.list (is.map .int)] = some (.bool true, .frz)
end Mine


namespace Mine

noncomputable abbrev iL (l : List Int) : PV := .list (l.map .int)
/-- numbers of places -/
noncomputable abbrev nL (l : List Nat) : PV := .list (l.map fun n : Nat => PV.int (n : Int))

theorem toPys_map {α : Type} {f : α → PV} {g : α → PyData} : ∀ (l : List α), (∀ a ∈ l, toPy (f a) = some (g a)) → toPys (l.map f) = some (l.map g)
  | [], _ => rfl
  | a :: r, h => by
    show (match toPy (f a), toPys (r.map f) with | some a, some b => some (a :: b) | _, _ => Option.none) = _
    rw [h a (.head _), toPys_map r fun x hx => h x (.tail _ hx)]; rfl
theorem toPys_ints (l : List Int) : toPys (l.map .int) = some (l.map .int) := toPys_map l fun _ _ => rfl

theorem canLayAll_map {α : Type} {g : α → PyData} : ∀ (l : List α), (∀ a ∈ l, (g a).canLay0 = true) → PyData.canLayAll0 (l.map g) = true
  | [], _ => by simp [PyData.canLayAll0]
  | a :: r, h => by
    rw [List.map_cons, PyData.canLayAll0, h a (.head _), canLayAll_map r fun x hx => h x (.tail _ hx)]; rfl
theorem depthAll_map {α : Type} {g : α → PyData} {n : Nat} : ∀ (l : List α), (∀ a ∈ l, (g a).depth ≤ n) → PyData.depthAll (l.map g) ≤ n
  | [], _ => by simp [PyData.depthAll]
  | a :: r, h => by
    rw [List.map_cons, PyData.depthAll]
    exact Nat.max_le.mpr ⟨h a (.head _), depthAll_map r fun x hx => h x (.tail _ hx)⟩
theorem eqvAll_map {α : Type} {g : α → PyData} [DecidableEq α] (h : ∀ a b, PyData.eqv (g a) (g b) = decide (a = b)) : ∀ (l m : List α), PyData.eqvAll (l.map g) (m.map g) = decide (l = m)
  | [], [] => by simp [PyData.eqvAll]
  | [], _ :: _ => by simp [PyData.eqvAll]
  | _ :: _, [] => by simp [PyData.eqvAll]
  | a :: l, b :: m => by
    rw [List.map_cons, List.map_cons, PyData.eqvAll, h, eqvAll_map h l m]
    simp

theorem ok_int (i : Int) : cmpOk (.int i) = true := by simp [cmpOk, PyData.canLay0, PyData.depth]
theorem ok_list {α : Type} {g : α → PyData} {l : List α} (h : ∀ a ∈ l, (g a).canLay0 = true) (hd : ∀ a ∈ l, (g a).depth ≤ 40) : cmpOk (.list (l.map g)) = true := by
  unfold cmpOk
  have := depthAll_map l hd
  rw [PyData.canLay0, canLayAll_map l h]
  simp [PyData.depth]; lia
theorem eqPV_int (a b : Int) : eqPV (.int a) (.int b) = some (decide (a = b)) := by
  unfold eqPV
  simp only [toPy, ok_int, Bool.and_self, if_true]
  congr 1
theorem eqPV_list {α : Type} [DecidableEq α] {f : α → PV} {g : α → PyData} (hf : ∀ a, toPy (f a) = some (g a)) (h : ∀ a, (g a).canLay0 = true) (hd : ∀ a, (g a).depth ≤ 40) (he : ∀ a b, PyData.eqv (g a) (g b) = decide (a = b)) (l m : List α) :
    eqPV (.list (l.map f)) (.list (m.map f)) = some (decide (l = m)) := by
  unfold eqPV
  simp only [toPy, toPys_map l fun a _ => hf a, toPys_map m fun a _ => hf a, Option.map_some, ok_list (l := l) (fun a _ => h a) fun a _ => hd a, ok_list (l := m) (fun a _ => h a) fun a _ => hd a, Bool.and_self, if_true, PyData.eqv, eqvAll_map he]
theorem eqPV_ints (l m : List Int) : eqPV (iL l) (iL m) = some (decide (l = m)) :=
  eqPV_list (g := .int) (fun _ => rfl) (fun _ => by simp [PyData.canLay0]) (fun _ => by simp [PyData.depth]) (fun a b => by simp [PyData.eqv]; rfl) l m
theorem eqPV_nats (l m : List Nat) : eqPV (nL l) (nL m) = some (decide (l = m)) :=
  eqPV_list (g := fun n : Nat => .int n) (fun _ => rfl) (fun _ => by simp [PyData.canLay0]) (fun _ => by simp [PyData.depth]) (fun a b => by
    simp only [PyData.eqv]
    by_cases q : a = b
    · subst q; simp
    · have : (a : Int) ≠ b := by lia
      simp [q, this]) l m
theorem eqPV_nil_ints (l : List Int) : eqPV (iL l) (.list []) = some (decide (l = [])) := eqPV_ints l []

theorem intsOf_map {α : Type} {f : α → Int} : ∀ l : List α, intsOf (l.map fun a => .int (f a)) = some (l.map f)
  | [] => rfl
  | a :: r => by
    show (intsOf (r.map fun a => .int (f a))).map (f a :: ·) = _
    rw [intsOf_map r]; rfl
theorem intsOf_ints (l : List Int) : intsOf (l.map .int) = some l := by have := intsOf_map (f := id) l; simpa using this

theorem concatM_map {α : Type} {f : PV → Option (List PV)} {enc : α → PV} {g : α → List PV} : ∀ {l : List α}, (∀ a ∈ l, f (enc a) = some (g a)) → concatM f (l.map enc) = some (l.flatMap g)
  | [], _ => rfl
  | a :: r, h => by
    show (match f (enc a) with | some a => (match concatM f (r.map enc) with | some b => some (a ++ b) | Option.none => Option.none) | Option.none => Option.none) = _
    rw [h a (.head _), concatM_map fun x hx => h x (.tail _ hx)]; rfl

theorem flatMap_filter {α β : Type} {p : α → Bool} {g : α → β} : ∀ l : List α, (l.flatMap fun a => if p a = true then [g a] else []) = (l.filter p).map g
  | [] => rfl
  | a :: r => by
    rw [List.flatMap_cons, flatMap_filter r, List.filter_cons]
    split <;> rfl

section
variable {F : FT} {T : TT}

/-- a comprehension of one clause -/
theorem comp_one {α : Type} {v : Nat} {it : CE} {ifs : CEs} {e : CE} {σ : Sig} {r : R} (as : List α) (enc : α → PV) (p : α → Bool) (g : α → PV) (hit : evalE F T it (clr [v] σ) = some r) (hxs : itemsC r.1 = some (as.map enc))
    (h1 : ∀ a ∈ as, evalI F T ifs (upd (clr [v] σ) v (enc a) false) = some (p a)) (h2 : ∀ a ∈ as, p a = true → ∃ fl, evalE F T e (upd (clr [v] σ) v (enc a) false) = some (g a, fl) ∧ fl ≠ .bor) (hl : as.length ≤ 1048576) :
    evalE F T (.comp (.gen (.one v) it ifs (.elt e))) σ = some (.list ((as.filter p).map g), .new) := by
  have hb : bigL = 1048576 := rfl
  (first | rw [evE_lit] | rw [evE_var] | rw [evE_gint] | rw [evE_bin] | rw [evE_neg] | rw [evE_not] | rw [evE_bop] | rw [evE_cmp] | rw [evE_chain] | rw [evE_ite] | rw [evE_list] | rw [evE_tuple] | rw [evE_dict] | rw [evE_idx] | rw [evE_tok] | rw [evE_sliceL] | rw [evE_sliceH] | rw [evE_sliceB] | rw [evE_call] | rw [evE_bi] | rw [evE_join] | rw [evE_index] | rw [evE_comp])
  show (match evalG F T true (.gen (.one v) it ifs (.elt e)) (clr [v] σ) with | some xs => mkL xs | Option.none => Option.none) = _
  (first | rw [evG_elt] | rw [evG_gen])
  rw [hit]
  dsimp only
  rw [Bool.true_or, if_pos rfl, hxs]
  dsimp only
  rw [concatM_map (g := fun a => if p a = true then [g a] else []) fun a ha => ?_]
  · rw [flatMap_filter]
    dsimp only
    unfold mkL
    rw [if_pos]
    rw [List.length_map, hb]
    exact Nat.le_trans (List.length_filter_le _ _) hl
  · show (match evalI F T ifs (upd (clr [v] σ) v (enc a) false) with | some true => evalG F T false (.elt e) (upd (clr [v] σ) v (enc a) false) | some false => some [] | Option.none => Option.none) = _
    rw [h1 a ha]
    cases q : p a with
    | false => rfl
    | true =>
      obtain ⟨fl, e1, e2⟩ := h2 a ha q
      dsimp only
      (first | rw [evG_elt] | rw [evG_gen])
      rw [e1]
      cases fl <;> first | rfl | exact absurd rfl e2

noncomputable def condF (F : FT) (T : TT) (c : CE) : Sig → Option Bool := fun σ => match evalE F T c σ with
  | some (.bool b, _) => some b
  | _ => Option.none
theorem condF_of {c : CE} {σ : Sig} {b : Bool} {f : Fl} (h : evalE F T c σ = some (.bool b, f)) : condF F T c σ = some b := by unfold condF; rw [h]
variable {N : Nat}
theorem x_while {c : CE} {b o r : K} {σ : Sig} : execK F T N (.while c b o r) σ = seqO (whileS (condF F T c) (execK F T N b) (execK F T N o) N σ) (execK F T N r) := rfl
theorem x_new {x : Nat} {e : CE} {r : K} {σ : Sig} {t : PV} (h : evalE F T e σ = some (t, .new)) : execK F T N (.assign x e r) σ = execK F T N r (upd σ x t true) := by
  conv => lhs; (first | rw [exK_nil] | rw [exK_assign] | rw [exK_assign2] | rw [exK_move] | rw [exK_setitem] | rw [exK_append] | rw [exK_ite] | rw [exK_while] | rw [exK_for] | rw [exK_ret] | rw [exK_retv] | rw [exK_brk] | rw [exK_freeze])
  rw [h]
theorem x_frz {x : Nat} {e : CE} {r : K} {σ : Sig} {t : PV} (h : evalE F T e σ = some (t, .frz)) : execK F T N (.assign x e r) σ = execK F T N r (upd σ x t false) := by
  conv => lhs; (first | rw [exK_nil] | rw [exK_assign] | rw [exK_assign2] | rw [exK_move] | rw [exK_setitem] | rw [exK_append] | rw [exK_ite] | rw [exK_while] | rw [exK_for] | rw [exK_ret] | rw [exK_retv] | rw [exK_brk] | rw [exK_freeze])
  rw [h]
theorem x_freeze {x : Nat} {r : K} {σ : Sig} {t : PV} (h : σ x = some (t, true)) : execK F T N (.freeze x r) σ = execK F T N r (upd σ x t false) := by
  conv => lhs; (first | rw [exK_nil] | rw [exK_assign] | rw [exK_assign2] | rw [exK_move] | rw [exK_setitem] | rw [exK_append] | rw [exK_ite] | rw [exK_while] | rw [exK_for] | rw [exK_ret] | rw [exK_retv] | rw [exK_brk] | rw [exK_freeze])
  rw [h]
theorem x_freeze' {x : Nat} {r : K} {σ : Sig} {t : PV} (h : σ x = some (t, false)) : execK F T N (.freeze x r) σ = execK F T N r σ := by
  conv => lhs; (first | rw [exK_nil] | rw [exK_assign] | rw [exK_assign2] | rw [exK_move] | rw [exK_setitem] | rw [exK_append] | rw [exK_ite] | rw [exK_while] | rw [exK_for] | rw [exK_ret] | rw [exK_retv] | rw [exK_brk] | rw [exK_freeze])
  rw [h]
theorem x_retv {x : Nat} {σ : Sig} {t : PV} (h : σ x = some (t, true)) : execK F T N (.retv x) σ = some (.ret (t, .new)) := by
  (first | rw [exK_nil] | rw [exK_assign] | rw [exK_assign2] | rw [exK_move] | rw [exK_setitem] | rw [exK_append] | rw [exK_ite] | rw [exK_while] | rw [exK_for] | rw [exK_ret] | rw [exK_retv] | rw [exK_brk] | rw [exK_freeze]); rw [h]
theorem x_ret {e : CE} {σ : Sig} {t : PV} {f : Fl} (h : evalE F T e σ = some (t, f)) (hf : f ≠ .bor) : execK F T N (.ret e) σ = some (.ret (t, f)) := by
  (first | rw [exK_nil] | rw [exK_assign] | rw [exK_assign2] | rw [exK_move] | rw [exK_setitem] | rw [exK_append] | rw [exK_ite] | rw [exK_while] | rw [exK_for] | rw [exK_ret] | rw [exK_retv] | rw [exK_brk] | rw [exK_freeze]); rw [h]; cases f <;> first | rfl | exact absurd rfl hf
theorem x_nil {σ : Sig} : execK F T N .nil σ = some (.next σ) := rfl
theorem x_ite {c : CE} {a b r : K} {σ : Sig} {v : Bool} {f : Fl} (h : evalE F T c σ = some (.bool v, f)) : execK F T N (.ite c a b r) σ = seqO (if v = true then execK F T N a σ else execK F T N b σ) (execK F T N r) := by
  conv => lhs; (first | rw [exK_nil] | rw [exK_assign] | rw [exK_assign2] | rw [exK_move] | rw [exK_setitem] | rw [exK_append] | rw [exK_ite] | rw [exK_while] | rw [exK_for] | rw [exK_ret] | rw [exK_retv] | rw [exK_brk] | rw [exK_freeze])
  rw [h]
  cases v <;> rfl
theorem x_for {t : Tgt} {it : CE} {b r : K} {σ : Sig} {u : PV} {f : Fl} {xs : List PV} (h : evalE F T it σ = some (u, f)) (hf : f ≠ .bor) (hx : itemsOf u = some xs) :
    execK F T N (.for t it b r) σ = seqO (forS t (execK F T N b) xs σ) (execK F T N r) := by
  conv => lhs; (first | rw [exK_nil] | rw [exK_assign] | rw [exK_assign2] | rw [exK_move] | rw [exK_setitem] | rw [exK_append] | rw [exK_ite] | rw [exK_while] | rw [exK_for] | rw [exK_ret] | rw [exK_retv] | rw [exK_brk] | rw [exK_freeze])
  rw [h]
  cases f <;> first | (dsimp only [kept]; rw [hx]) | exact absurd rfl hf
theorem x_append {x : Nat} {e : CE} {r : K} {σ : Sig} {v : PV} {f : Fl} {xs : List PV} (h : evalE F T e σ = some (v, f)) (hf : f ≠ .bor) (hx : σ x = some (.list xs, true)) (hl : xs.length < 1048576) :
    execK F T N (.append x e r) σ = execK F T N r (upd σ x (.list (xs ++ [v])) true) := by
  have hb : bigL = 1048576 := rfl
  conv => lhs; (first | rw [exK_nil] | rw [exK_assign] | rw [exK_assign2] | rw [exK_move] | rw [exK_setitem] | rw [exK_append] | rw [exK_ite] | rw [exK_while] | rw [exK_for] | rw [exK_ret] | rw [exK_retv] | rw [exK_brk] | rw [exK_freeze])
  rw [h]
  cases f <;> first | (dsimp only [kept]; rw [hx]; dsimp only; rw [if_pos (by rw [hb]; exact hl)]) | exact absurd rfl hf
theorem x_setitem {x : Nat} {i e : CE} {r : K} {σ : Sig} {v k t t' : PV} {f g : Fl} (h : evalE F T e σ = some (v, f)) (hf : f ≠ .bor) (hi : evalE F T i σ = some (k, g)) (hx : σ x = some (t, true)) (hs : setPV t k v = some t') :
    execK F T N (.setitem x i e r) σ = execK F T N r (upd σ x t' true) := by
  conv => lhs; (first | rw [exK_nil] | rw [exK_assign] | rw [exK_assign2] | rw [exK_move] | rw [exK_setitem] | rw [exK_append] | rw [exK_ite] | rw [exK_while] | rw [exK_for] | rw [exK_ret] | rw [exK_retv] | rw [exK_brk] | rw [exK_freeze])
  rw [h]
  cases f <;> first | (dsimp only [kept]; rw [hi]; dsimp only; rw [hx]; dsimp only; rw [hs]) | exact absurd rfl hf
theorem seqO_next {σ : Sig} {k : Sig → Option Out} : seqO (some (.next σ)) k = k σ := rfl
theorem seqO_ret {r : R} {k : Sig → Option Out} : seqO (some (.ret r)) k = some (.ret r) := rfl
theorem run_ret {d : Df} {ts : List PV} {r : R} (hl : ts.length = d.ps.length) (h : execK F T N d.k (startS d.ps ts) = some (.ret r)) : runDf F T N d ts = some r := by
  unfold runDf; rw [if_pos hl, h]
theorem small_of {i : Int} (h : i.natAbs ≤ 1000000000) : smallI i = true := by
  unfold smallI bigI
  rw [decide_eq_true_eq]; lia
theorem range1_of {i : Int} (h : i.natAbs ≤ 1000000000) : biPV .range1 [.int i] = some (.range 0 i, .frz) := by
  unfold biPV; dsimp only; rw [small_of h]; rfl
theorem range2_of {i j : Int} (h : i.natAbs ≤ 1000000000) (h' : j.natAbs ≤ 1000000000) : biPV .range2 [.int i, .int j] = some (.range i j, .frz) := by
  unfold biPV; dsimp only; rw [small_of h, small_of h']; rfl
theorem len_of {t : PV} {n : Int} (h : lenPV t = some n) (hn : n ≤ 1048576) : biPV .len [t] = some (.int n, .frz) := by
  unfold biPV; dsimp only; rw [h]; dsimp only; rw [if_pos hn]; rfl
theorem mkL_of {xs : List PV} (h : xs.length ≤ 1048576) : mkL xs = some (.list xs, .new) := by
  unfold mkL; rw [if_pos (show _ ≤ bigL from h)]
theorem lenPV_list {xs : List PV} : lenPV (.list xs) = some (xs.length : Int) := rfl
theorem rangeL_zero (n : Nat) : rangeL 0 (n : Int) = (List.range n).map fun j : Nat => (j : Int) := by
  unfold rangeL
  rw [show ((n : Int) - 0).toNat = n by lia]
  exact List.map_congr_left fun j _ => by lia
theorem rangeL_one (n : Nat) : rangeL 1 (n : Int) = (List.range (n - 1)).map fun j : Nat => ((j + 1 : Nat) : Int) := by
  unfold rangeL
  rw [show ((n : Int) - 1).toNat = n - 1 by lia]
  refine List.map_congr_left fun j _ => by lia
theorem items_range0 (n : Nat) : itemsOf (.range 0 (n : Int)) = some ((List.range n).map fun j : Nat => .int (j : Int)) := by
  show some ((rangeL 0 (n : Int)).map PV.int) = _; rw [rangeL_zero, List.map_map]; rfl
end
end Mine


namespace Mine

/-! the overlap table, plainly -/
/-- the greatest number up to n where p holds -/
noncomputable def lst (p : Nat → Bool) : Nat → Nat
  | 0 => 0
  | n + 1 => if p (n + 1) = true then n + 1 else lst p n
theorem lst_le (p : Nat → Bool) : ∀ n, lst p n ≤ n
  | 0 => Nat.le_refl _
  | n + 1 => by unfold lst; split; · exact Nat.le_refl _
                · exact Nat.le_succ_of_le (lst_le p n)
theorem lst_ok (p : Nat → Bool) (h0 : p 0 = true) : ∀ n, p (lst p n) = true
  | 0 => h0
  | n + 1 => by unfold lst; split; · assumption
                · exact lst_ok p h0 n
theorem lst_max (p : Nat → Bool) : ∀ n m, m ≤ n → p m = true → m ≤ lst p n
  | 0, m, h, _ => h
  | n + 1, m, h, hp => by
    unfold lst; split
    · exact h
    · rename_i q
      by_cases e : m = n + 1
      · subst e; exact absurd hp q
      · exact lst_max p n m (by lia) hp
theorem lst_congr {p q : Nat → Bool} : ∀ {n}, (∀ k, 1 ≤ k → k ≤ n → p k = q k) → lst p n = lst q n
  | 0, _ => rfl
  | n + 1, h => by
    unfold lst
    rw [h (n + 1) (by lia) (Nat.le_refl _), lst_congr fun k h1 hk => h k h1 (Nat.le_succ_of_le hk)]

section
variable {α : Type} [DecidableEq α]
/-- the row's beginning of k + 1 has an overlap of s -/
noncomputable def bd (ys : List α) (k s : Nat) : Bool := decide (ys.take s = (ys.take (k + 1)).drop (k + 1 - s))
noncomputable def lb (ys : List α) (k : Nat) : Nat := lst (bd ys k) k
noncomputable def ovL (ys : List α) : List Nat := (List.range ys.length).map (lb ys)

noncomputable def Pb (ys : List α) (k s : Nat) : Prop := s ≤ k ∧ ∀ j, j < s → ys[j]? = ys[k + 1 - s + j]?

theorem bd_iff {ys : List α} {k s : Nat} (hk : k < ys.length) (hs : s ≤ k + 1) : bd ys k s = true ↔ ∀ j, j < s → ys[j]? = ys[k + 1 - s + j]? := by
  unfold bd
  rw [decide_eq_true_eq]
  constructor
  · intro h j hj
    have e := congrArg (fun l => l[j]?) h
    simp only [List.getElem?_take, List.getElem?_drop] at e
    rw [if_pos hj, if_pos (by lia)] at e
    exact e
  · intro h
    apply List.ext_getElem?
    intro j
    simp only [List.getElem?_take, List.getElem?_drop]
    by_cases hj : j < s
    · rw [if_pos hj, if_pos (by lia)]; exact h j hj
    · rw [if_neg hj, if_neg (by lia)]

theorem bd_zero (ys : List α) (k : Nat) : bd ys k 0 = true := by
  unfold bd
  rw [decide_eq_true_eq, List.take_zero, List.drop_eq_nil_of_le]
  rw [List.length_take]; lia

theorem lb_P {ys : List α} {k : Nat} (hk : k < ys.length) : Pb ys k (lb ys k) :=
  ⟨lst_le _ _, (bd_iff hk (Nat.le_succ_of_le (lst_le _ _))).mp (lst_ok _ (bd_zero ys k) k)⟩
theorem lb_max {ys : List α} {k s : Nat} (hk : k < ys.length) (h : Pb ys k s) : s ≤ lb ys k :=
  lst_max _ _ _ h.1 ((bd_iff hk (Nat.le_succ_of_le h.1)).mpr h.2)
theorem lb_eq {ys : List α} {k s : Nat} (hk : k < ys.length) (h : Pb ys k s) (hm : ∀ r, Pb ys k r → r ≤ s) : lb ys k = s :=
  Nat.le_antisymm (hm _ (lb_P hk)) (lb_max hk h)

theorem P_ext {ys : List α} {i s : Nat} (h1 : 1 ≤ i) (hs : s + 1 ≤ i) : Pb ys i (s + 1) ↔ Pb ys (i - 1) s ∧ ys[s]? = ys[i]? := by
  have e1 : i + 1 - (s + 1) = i - s := Nat.add_sub_add_right i 1 s
  have e2 : i - 1 + 1 = i := Nat.sub_add_cancel h1
  have e3 : i - s + s = i := Nat.sub_add_cancel (Nat.le_of_succ_le hs)
  unfold Pb
  rw [e1, e2]
  constructor
  · intro h
    refine ⟨⟨Nat.le_sub_one_of_lt hs, fun j hj => h.2 j (Nat.lt_succ_of_lt hj)⟩, ?_⟩
    have := h.2 s (Nat.lt_succ_self s)
    rw [e3] at this; exact this
  · intro ⟨h, e⟩
    refine ⟨hs, fun j hj => ?_⟩
    rcases Nat.lt_or_eq_of_le (Nat.le_of_lt_succ hj) with q | q
    · exact h.2 j q
    · rw [q, e3]; exact e
theorem P_next {ys : List α} {k idx s : Nat} (h : Pb ys k idx) (hs : s < idx) : Pb ys k s ↔ Pb ys (idx - 1) s := by
  have e2 : idx - 1 + 1 = idx := Nat.sub_add_cancel (Nat.lt_of_le_of_lt (Nat.zero_le _) hs)
  have e3 : ∀ j, k + 1 - idx + (idx - s + j) = k + 1 - s + j := fun j => by rw [← Nat.add_assoc, Nat.sub_add_sub_cancel (Nat.le_succ_of_le h.1) (Nat.le_of_lt hs)]
  have e4 : ∀ j, j < s → idx - s + j < idx := fun j hj => Nat.lt_of_lt_of_le (Nat.add_lt_add_left hj _) (Nat.le_of_eq (Nat.sub_add_cancel (Nat.le_of_lt hs)))
  have key : ∀ j, j < s → ys[idx - s + j]? = ys[k + 1 - s + j]? := fun j hj => by rw [h.2 _ (e4 j hj), e3]
  unfold Pb at h ⊢
  rw [e2]
  constructor
  · intro g
    exact ⟨Nat.le_sub_one_of_lt hs, fun j hj => (g.2 j hj).trans (key j hj).symm⟩
  · intro g
    exact ⟨Nat.le_trans (Nat.le_of_lt hs) h.1, fun j hj => (g.2 j hj).trans (key j hj)⟩
end

/-! the def -/
noncomputable def ovD : Df := ⟨[0],
  (.assign 1 (.bin .Mult (.list (.cons (.lit (.int 0)) .nil)) (.bi .len (.cons (.var 0) .nil))) (.for (.one 2) (.bi .range2 (.cons (.lit (.int 1)) (.cons (.bi .len (.cons (.var 0) .nil)) .nil))) (.assign 3 (.idx (.var 1) (.bin .Sub (.var 2) (.lit (.int 1)))) (.while (.cmp .NotEq (.idx (.var 0) (.var 2)) (.idx (.var 0) (.var 3))) (.ite (.cmp .Eq (.var 3) (.lit (.int 0))) (.setitem 1 (.var 2) (.lit (.int 0)) .brk) .nil (.assign 3 (.idx (.var 1) (.bin .Sub (.var 3) (.lit (.int 1)))) .nil)) (.setitem 1 (.var 2) (.bin .Add (.var 3) (.lit (.int 1))) .nil) .nil)) (.retv 1)))⟩

/-- what a form has at its places -/
structure Form {α : Type} [DecidableEq α] (t : PV) (ys : List α) : Prop where
  len : lenPV t = some (ys.length : Int)
  at_ : ∀ i : Nat, i < ys.length → ∃ x, idxPV t (.int (i : Int)) = some x
  eq : ∀ (i j : Nat) (x y : PV) (a b : α), idxPV t (.int (i : Int)) = some x → idxPV t (.int (j : Int)) = some y → ys[i]? = some a → ys[j]? = some b → eqPV x y = some (decide (a = b))

theorem upd_same {σ : Sig} {x : Nat} {t : PV} {o : Bool} : upd σ x t o x = some (t, o) := by simp [upd]
theorem upd_ne {σ : Sig} {x y : Nat} {t : PV} {o : Bool} (h : y ≠ x) : upd σ x t o y = σ y := by simp [upd, h]

theorem forS_inv {t : Tgt} {b : Sig → Option Out} (I : Nat → Sig → Prop) : ∀ (xs : List PV) (m : Nat) (h : ∀ k x, xs[k]? = some x → ∀ σ, I (m + k) σ → ∃ σ1 σ2, bindT σ t x = some σ1 ∧ b σ1 = some (.next σ2) ∧ I (m + k + 1) σ2) (σ : Sig), I m σ →
    ∃ σ', forS t b xs σ = some (.next σ') ∧ I (m + xs.length) σ'
  | [], m, _, σ, h0 => ⟨σ, rfl, h0⟩
  | x :: r, m, h, σ, h0 => by
    obtain ⟨σ1, σ2, e1, e2, h1⟩ := h 0 x rfl σ h0
    obtain ⟨σ', e3, h3⟩ := forS_inv I r (m + 1) (fun k y e σ h' => by
      have := h (k + 1) y (by simpa using e) σ (by rw [show m + (k + 1) = m + 1 + k by lia]; exact h')
      rw [show m + (k + 1) = m + 1 + k by lia] at this; exact this) σ2 h1
    refine ⟨σ', ?_, by rw [List.length_cons, show m + (r.length + 1) = m + 1 + r.length by lia]; exact h3⟩
    show (match bindT σ t x with | some σ' => (match b σ' with | some (.next σ'') => forS t b r σ'' | some (.brk σ'') => some (.next σ'') | q => q) | Option.none => Option.none) = _
    rw [e1]; dsimp only; rw [e2]; exact e3

theorem nL_at {tab : List Nat} {j v : Nat} (h : tab[j]? = some v) (hj : j < 1048576) : idxPV (nL tab) (.int (j : Int)) = some (.int (v : Int)) := by
  unfold idxPV
  dsimp only
  rw [if_pos (by lia), if_pos (by lia)]
  simp [h]

section
variable {α : Type} [DecidableEq α] {F : FT} {T : TT} {N : Nat} {t : PV} {ys : List α}

theorem ov_while (hf : Form t ys) (hy : ys.length ≤ 100000) {i : Nat} (h1 : 1 ≤ i) (hi : i < ys.length) {tab : List Nat} (hl : tab.length = ys.length) (ht : ∀ j, j < i → tab[j]? = some (lb ys j)) :
    ∀ (idx n : Nat) (σ : Sig), idx < n → Pb ys (i - 1) idx → (∀ s, Pb ys (i - 1) s → ys[s]? = ys[i]? → s ≤ idx) → (∃ o, σ 0 = some (t, o)) → σ 1 = some (nL tab, true) → σ 2 = some (.int (i : Int), false) → σ 3 = some (.int (idx : Int), false) →
    ∃ σ', whileS (condF F T (.cmp .NotEq (.idx (.var 0) (.var 2)) (.idx (.var 0) (.var 3))))
      (execK F T N (.ite (.cmp .Eq (.var 3) (.lit (.int 0))) (.setitem 1 (.var 2) (.lit (.int 0)) .brk) .nil (.assign 3 (.idx (.var 1) (.bin .Sub (.var 3) (.lit (.int 1)))) .nil)))
      (execK F T N (.setitem 1 (.var 2) (.bin .Add (.var 3) (.lit (.int 1))) .nil)) n σ = some (.next σ') ∧ (∃ o, σ' 0 = some (t, o)) ∧ σ' 1 = some (nL (tab.set i (lb ys i)), true) := by
  intro idx
  induction idx using Nat.strongRecOn with
  | _ idx ih =>
  intro n σ hn hP hM h0 h1' h2 h3
  obtain ⟨o0, h0⟩ := h0
  obtain ⟨n, rfl⟩ : ∃ m, n = m + 1 := ⟨n - 1, by lia⟩
  have hidx : idx ≤ i - 1 := hP.1
  obtain ⟨x, hx⟩ := hf.at_ i hi
  obtain ⟨y, hy'⟩ := hf.at_ idx (by lia)
  have ea : ys[i]? = some (ys[i]'hi) := List.getElem?_eq_getElem hi
  have eb : ys[idx]? = some (ys[idx]'(by lia)) := List.getElem?_eq_getElem _
  have eq := hf.eq i idx x y _ _ hx hy' ea eb
  have hset : ∀ v : Nat, setPV (nL tab) (.int (i : Int)) (.int (v : Int)) = some (nL (tab.set i v)) := fun v => by
    have hb : bigL = 1048576 := rfl
    unfold setPV
    dsimp only
    rw [if_pos (by simp [hb]; lia)]
    simp [List.map_set]
  have hc : evalE F T (.cmp .NotEq (.idx (.var 0) (.var 2)) (.idx (.var 0) (.var 3))) σ = some (.bool (!decide (ys[i] = ys[idx])), .frz) := by
    simp only [evE_lit, evE_var, evE_gint, evE_bin, evE_neg, evE_not, evE_bop, evE_cmp, evE_chain, evE_ite, evE_list, evE_tuple, evE_dict, evE_idx, evE_tok, evE_sliceL, evE_sliceH, evE_sliceB, evE_call, evE_bi, evE_join, evE_index, evE_comp, h0, h2, h3, Option.map_some, hx, hy', cmpPV, eq]
  unfold whileS
  rw [condF_of hc]
  by_cases q : ys[i] = ys[idx]
  · rw [decide_eq_true q]
    simp only [Bool.not_true]
    have hv : lb ys i = idx + 1 := by
      refine lb_eq hi ((P_ext h1 (by lia)).mpr ⟨hP, by rw [ea, eb, q]⟩) fun r hr => ?_
      cases r with
      | zero => lia
      | succ s => have := (P_ext h1 hr.1).mp hr; have := hM s this.1 this.2; lia
    have he : execK F T N (.setitem 1 (.var 2) (.bin .Add (.var 3) (.lit (.int 1))) .nil) σ = some (.next (upd σ 1 (nL (tab.set i (idx + 1))) true)) := by
      have : ((idx : Int) + 1) = ((idx + 1 : Nat) : Int) := by lia
      simp only [exK_nil, exK_assign, exK_assign2, exK_move, exK_setitem, exK_append, exK_ite, exK_while, exK_for, exK_ret, exK_retv, exK_brk, exK_freeze, evE_lit, evE_var, evE_gint, evE_bin, evE_neg, evE_not, evE_bop, evE_cmp, evE_chain, evE_ite, evE_list, evE_tuple, evE_dict, evE_idx, evE_tok, evE_sliceL, evE_sliceH, evE_sliceB, evE_call, evE_bi, evE_join, evE_index, evE_comp, h1', h2, h3, Option.map_some, binPV, mkI, kept, this, hset]
    rw [he]
    exact ⟨_, rfl, ⟨o0, by rw [upd_ne (by decide)]; exact h0⟩, by rw [upd_same, hv]⟩
  · rw [decide_eq_false q]
    simp only [Bool.not_false]
    by_cases z : idx = 0
    · subst z
      have hv : lb ys i = 0 := by
        refine lb_eq hi ⟨by lia, fun j hj => absurd hj (by lia)⟩ fun r hr => ?_
        cases r with
        | zero => lia
        | succ s =>
          have h5 := (P_ext h1 hr.1).mp hr
          have h6 := hM s h5.1 h5.2
          have : s = 0 := by lia
          subst this
          rw [ea, eb] at h5
          exact absurd (Option.some.inj h5.2).symm q
      have he : execK F T N (.ite (.cmp .Eq (.var 3) (.lit (.int 0))) (.setitem 1 (.var 2) (.lit (.int 0)) .brk) .nil (.assign 3 (.idx (.var 1) (.bin .Sub (.var 3) (.lit (.int 1)))) .nil)) σ = some (.brk (upd σ 1 (nL (tab.set i 0)) true)) := by
        have := hset 0
        simp only [exK_nil, exK_assign, exK_assign2, exK_move, exK_setitem, exK_append, exK_ite, exK_while, exK_for, exK_ret, exK_retv, exK_brk, exK_freeze, evE_lit, evE_var, evE_gint, evE_bin, evE_neg, evE_not, evE_bop, evE_cmp, evE_chain, evE_ite, evE_list, evE_tuple, evE_dict, evE_idx, evE_tok, evE_sliceL, evE_sliceH, evE_sliceB, evE_call, evE_bi, evE_join, evE_index, evE_comp, h1', h2, h3, Option.map_some, cmpPV, eqPV_int, kept, seqO, Int.natCast_zero] at this ⊢
        simp only [decide_true, this]
      rw [he]
      exact ⟨_, rfl, ⟨o0, by rw [upd_ne (by decide)]; exact h0⟩, by rw [upd_same, hv]⟩
    · have hnx : tab[idx - 1]? = some (lb ys (idx - 1)) := ht _ (by lia)
      have hcast : ((idx : Int) - 1) = ((idx - 1 : Nat) : Int) := by lia
      have hz : decide ((idx : Int) = 0) = false := decide_eq_false (by lia)
      have he : execK F T N (.ite (.cmp .Eq (.var 3) (.lit (.int 0))) (.setitem 1 (.var 2) (.lit (.int 0)) .brk) .nil (.assign 3 (.idx (.var 1) (.bin .Sub (.var 3) (.lit (.int 1)))) .nil)) σ = some (.next (upd σ 3 (.int (lb ys (idx - 1) : Nat)) false)) := by
        simp only [exK_nil, exK_assign, exK_assign2, exK_move, exK_setitem, exK_append, exK_ite, exK_while, exK_for, exK_ret, exK_retv, exK_brk, exK_freeze, evE_lit, evE_var, evE_gint, evE_bin, evE_neg, evE_not, evE_bop, evE_cmp, evE_chain, evE_ite, evE_list, evE_tuple, evE_dict, evE_idx, evE_tok, evE_sliceL, evE_sliceH, evE_sliceB, evE_call, evE_bi, evE_join, evE_index, evE_comp, h1', h2, h3, Option.map_some, cmpPV, eqPV_int, kept, seqO, hz, binPV, mkI, hcast, nL_at hnx (by lia)]
      rw [he]
      dsimp only
      have hlb : lb ys (idx - 1) < idx := by have := (lb_P (ys := ys) (k := idx - 1) (by lia)).1; lia
      obtain ⟨σ', e, g⟩ := ih (lb ys (idx - 1)) hlb n (upd σ 3 (.int (lb ys (idx - 1) : Nat)) false) (by lia) ((P_next hP hlb).mpr (lb_P (by lia))) (fun s hs e => by
          have h7 := hM s hs e
          by_cases w : s = idx
          · subst w; rw [ea, eb] at e; exact absurd (Option.some.inj e).symm q
          · exact lb_max (by lia) ((P_next hP (by lia)).mp hs)) ⟨o0, by rw [upd_ne (by decide)]; exact h0⟩ (by rw [upd_ne (by decide)]; exact h1') (by rw [upd_ne (by decide)]; exact h2) upd_same
      exact ⟨σ', e, g⟩

theorem ov_spec (hf : Form t ys) (hy : ys.length ≤ 100000) (hN : ys.length < N) : runDf F T N ovD [t] = some (nL (ovL ys), .new) := by
  have hb : bigL = 1048576 := rfl
  have hr : (List.replicate ys.length [PV.int 0]).flatten = (List.replicate ys.length 0).map fun n : Nat => PV.int (n : Int) := by
    rw [List.map_replicate]
    induction ys.length with
    | zero => rfl
    | succ n ih => rw [List.replicate_succ, List.flatten_cons, ih, List.replicate_succ]; rfl
  let tb : Nat → List Nat := fun k => (List.range ys.length).map fun j => if j < 1 + k then lb ys j else 0
  have tl : ∀ k, (tb k).length = ys.length := fun k => by simp [tb]
  have t0 : List.replicate ys.length 0 = tb 0 := by
    apply List.ext_getElem?
    intro j
    simp only [tb, List.getElem?_map, List.getElem?_replicate, List.getElem?_range]
    by_cases hj : j < ys.length
    · simp only [hj, if_true, List.getElem?_range, Option.map_some]
      by_cases z : j < 1
      · have : j = 0 := by lia
        subst this; rfl
      · rw [if_neg (by lia)]
    · rw [if_neg hj, List.getElem?_eq_none (by simp; lia)]; rfl
  have ts : ∀ k, k + 1 < ys.length → (tb k).set (k + 1) (lb ys (k + 1)) = tb (k + 1) := fun k hk => by
    apply List.ext_getElem?
    intro j
    simp only [tb, List.getElem?_set, List.length_map, List.length_range, List.getElem?_map]
    by_cases z : k + 1 = j
    · subst z
      rw [if_pos rfl, if_pos hk, List.getElem?_range hk]
      simp
    · rw [if_neg z]
      by_cases hj : j < ys.length
      · rw [List.getElem?_range hj]
        simp only [Option.map_some, Option.some.injEq]
        by_cases w : j < 1 + k
        · rw [if_pos w, if_pos (by lia)]
        · rw [if_neg w, if_neg (by lia)]
      · rw [List.getElem?_eq_none (by simp; lia)]; rfl
  have hbody := forS_inv (t := .one 2) (b := execK F T N (.assign 3 (.idx (.var 1) (.bin .Sub (.var 2) (.lit (.int 1)))) (.while (.cmp .NotEq (.idx (.var 0) (.var 2)) (.idx (.var 0) (.var 3))) (.ite (.cmp .Eq (.var 3) (.lit (.int 0))) (.setitem 1 (.var 2) (.lit (.int 0)) .brk) .nil (.assign 3 (.idx (.var 1) (.bin .Sub (.var 3) (.lit (.int 1)))) .nil)) (.setitem 1 (.var 2) (.bin .Add (.var 3) (.lit (.int 1))) .nil) .nil)))
    (fun k σ => (∃ o, σ 0 = some (t, o)) ∧ σ 1 = some (nL (tb k), true)) (((List.range (ys.length - 1)).map fun j : Nat => ((j + 1 : Nat) : Int)).map .int) 0 (fun k x hx σ ⟨h0, h1⟩ => by
      simp only [List.getElem?_map, Option.map_eq_some_iff] at hx
      obtain ⟨_, ⟨j, hj, rfl⟩, rfl⟩ := hx
      obtain ⟨hj1, hj2⟩ := List.getElem?_eq_some_iff.mp hj
      rw [List.getElem_range] at hj2
      subst hj2
      rw [List.length_range] at hj1
      rw [Nat.zero_add] at h1 ⊢
      obtain ⟨o0, h0⟩ := h0
      have hk : k + 1 < ys.length := by lia
      have hat : (tb k)[k]? = some (lb ys k) := by
        simp only [tb, List.getElem?_map]
        rw [List.getElem?_range (by lia)]
        simp
      refine ⟨upd σ 2 (.int ((k + 1 : Nat) : Int)) false, ?_⟩
      have hcast : (((k + 1 : Nat) : Int) - 1) = (k : Int) := by lia
      obtain ⟨σ', e, g0, g1⟩ := ov_while (F := F) (T := T) (N := N) hf hy (i := k + 1) (by lia) hk (tab := tb k) (tl k) (fun j hj => by
        simp only [tb, List.getElem?_map]
        rw [List.getElem?_range (by lia)]
        simp only [Option.map_some]
        rw [if_pos (by lia)]) (lb ys k) N (upd (upd σ 2 (.int ((k + 1 : Nat) : Int)) false) 3 (.int (lb ys k : Nat)) false)
          (by have := (lb_P (ys := ys) (k := k) (by lia)).1; lia) (lb_P (by lia)) (fun s hs _ => lb_max (by lia) hs)
          ⟨o0, by rw [upd_ne (by decide), upd_ne (by decide)]; exact h0⟩ (by rw [upd_ne (by decide), upd_ne (by decide)]; exact h1) (by rw [upd_ne (by decide), upd_same]) upd_same
      refine ⟨σ', rfl, ?_, g0, by rw [g1, ts k hk]⟩
      have e1 : evalE F T (.idx (.var 1) (.bin .Sub (.var 2) (.lit (.int 1)))) (upd σ 2 (.int ((k + 1 : Nat) : Int)) false) = some (.int (lb ys k : Nat), .frz) := by
        have q1 : (upd σ 2 (.int ((k + 1 : Nat) : Int)) false) 1 = some (nL (tb k), true) := by rw [upd_ne (by decide)]; exact h1
        have q2 : (upd σ 2 (.int ((k + 1 : Nat) : Int)) false) 2 = some (.int ((k + 1 : Nat) : Int), false) := upd_same
        simp only [evE_lit, evE_var, evE_gint, evE_bin, evE_neg, evE_not, evE_bop, evE_cmp, evE_chain, evE_ite, evE_list, evE_tuple, evE_dict, evE_idx, evE_tok, evE_sliceL, evE_sliceH, evE_sliceB, evE_call, evE_bi, evE_join, evE_index, evE_comp, q1, q2, Option.map_some, binPV, mkI, hcast, nL_at hat (by lia)]
      rw [x_frz e1, x_while, e, seqO_next, x_nil])
  obtain ⟨σ', e, g0, g1⟩ := hbody (upd (startS [0] [t]) 1 (nL (tb 0)) true) ⟨⟨false, by rw [upd_ne (by decide)]; rfl⟩, upd_same⟩
  unfold runDf ovD
  rw [if_pos (by rfl)]
  dsimp only
  have e0 : evalE F T (.bin .Mult (.list (.cons (.lit (.int 0)) .nil)) (.bi .len (.cons (.var 0) .nil))) (startS [0] [t]) = some (nL (tb 0), .new) := by
    have q : startS [0] [t] 0 = some (t, false) := rfl
    simp only [evE_lit, evE_var, evE_gint, evE_bin, evE_neg, evE_not, evE_bop, evE_cmp, evE_chain, evE_ite, evE_list, evE_tuple, evE_dict, evE_idx, evE_tok, evE_sliceL, evE_sliceH, evE_sliceB, evE_call, evE_bi, evE_join, evE_index, evE_comp, evEs_nil, evEs_cons, evRs_nil, evRs_cons, kept, q, Option.map_some, biPV, hf.len, mkI, mkL, hb, binPV]
    rw [if_pos (by simp), if_pos (by lia)]
    simp only
    rw [if_pos (by simp; lia), show (ys.length : Int).toNat = ys.length by lia, hr, t0, if_pos (by simp [tl]; lia)]
  have e1 : evalE F T (.bi .range2 (.cons (.lit (.int 1)) (.cons (.bi .len (.cons (.var 0) .nil)) .nil))) (upd (startS [0] [t]) 1 (nL (tb 0)) true) = some (.range 1 ys.length, .frz) := by
    have q : (upd (startS [0] [t]) 1 (nL (tb 0)) true) 0 = some (t, false) := rfl
    simp only [evE_lit, evE_var, evE_gint, evE_bin, evE_neg, evE_not, evE_bop, evE_cmp, evE_chain, evE_ite, evE_list, evE_tuple, evE_dict, evE_idx, evE_tok, evE_sliceL, evE_sliceH, evE_sliceB, evE_call, evE_bi, evE_join, evE_index, evE_comp, evRs_nil, evRs_cons, q, Option.map_some, len_of hf.len (by lia), range2_of (i := 1) (j := ys.length) (by decide) (by lia)]
  rw [x_new e0, x_for e1 (by decide) rfl, rangeL_one, e, seqO_next, x_retv g1]
  dsimp only
  have : tb (0 + (((List.range (ys.length - 1)).map fun j : Nat => ((j + 1 : Nat) : Int)).map PV.int).length) = ovL ys := by
    unfold ovL
    refine List.map_congr_left fun j hj => ?_
    rw [List.mem_range] at hj
    rw [if_pos (by simp; lia)]
  rw [this]
end

/-! forms -/
theorem form_ints (ys : List Int) (h : ys.length ≤ 100000) : Form (iL ys) ys where
  len := by simp [lenPV, seqItems]
  at_ := fun i hi => by
    unfold idxPV; dsimp only
    rw [if_pos (by lia), if_pos (by lia)]
    simp [hi]
  eq := fun i j x y a b hx hy ha hb => by
    have key : ∀ {i : Nat} {x : PV} {a : Int}, idxPV (iL ys) (.int (i : Int)) = some x → ys[i]? = some a → x = .int a := fun {i x a} hx ha => by
      unfold idxPV at hx; dsimp only at hx
      obtain ⟨hi, _⟩ := List.getElem?_eq_some_iff.mp ha
      rw [if_pos (by lia), if_pos (by lia)] at hx
      simp [ha] at hx; exact hx.symm
    rw [key hx ha, key hy hb, eqPV_int]
theorem form_bytes (ys : List Int) (h : ys.length ≤ 100000) (hr : ∀ y ∈ ys, 0 ≤ y ∧ y < 256) : Form (.bytes (ys.map fun i => UInt8.ofNat i.toNat)) ys where
  len := by simp [lenPV, seqItems]
  at_ := fun i hi => by
    unfold idxPV; dsimp only
    rw [if_pos (by simp; lia)]
    simp [hi]
  eq := fun i j x y a b hx hy ha hb => by
    have key : ∀ {i : Nat} {x : PV} {a : Int}, idxPV (.bytes (ys.map fun i => UInt8.ofNat i.toNat)) (.int (i : Int)) = some x → ys[i]? = some a → x = .int a := fun {i x a} hx ha => by
      unfold idxPV at hx; dsimp only at hx
      obtain ⟨hi, he⟩ := List.getElem?_eq_some_iff.mp ha
      rw [if_pos (by simp; lia)] at hx
      have hm := hr a (List.mem_of_getElem? ha)
      simp [ha] at hx
      rw [← hx]
      congr 1
      have : a.toNat % 256 = a.toNat := Nat.mod_eq_of_lt (by lia)
      lia
    rw [key hx ha, key hy hb, eqPV_int]
end Mine


namespace Mine

/-! the draws -/
section
variable {F : FT} {T : TT} {N : Nat}

theorem fmod_pos {a b : Int} (h : 0 < b) : a.fmod b = a % b := Int.fmod_eq_emod_of_nonneg a (by lia)
theorem fdiv_pos {a b : Int} (h : 0 < b) : a.fdiv b = a / b := Int.fdiv_eq_ediv_of_nonneg a (by lia)
theorem bin_mod {a b : Int} (h : 0 < b) : binPV .Mod (.int a) (.int b) = some (.int (a % b), .frz) := by
  unfold binPV; dsimp only; rw [if_pos (by simp; lia), fmod_pos h]; rfl
theorem bin_div {a b : Int} (h : 0 < b) (h' : b < 1000000000) : binPV .FloorDiv (.int a) (.int b) = some (.int (a / b), .frz) := by
  unfold binPV; dsimp only; rw [if_pos (by simp; lia), fdiv_pos h]; rfl
theorem bin_pow2 {k : Nat} (h : k ≤ 100) : binPV .Pow (.int 2) (.int (k : Int)) = some (.int (2 ^ k), .frz) := by
  unfold binPV; dsimp only; rw [if_pos (by simp [smallI, bigI]; lia)]; rfl
theorem bin_add {a b : Int} : binPV .Add (.int a) (.int b) = some (.int (a + b), .frz) := rfl
theorem bin_sub {a b : Int} : binPV .Sub (.int a) (.int b) = some (.int (a - b), .frz) := rfl
theorem bin_addL {a b : List PV} (h : a.length + b.length ≤ 1048576) : binPV .Add (.list a) (.list b) = some (.list (a ++ b), .new) := by
  unfold binPV; dsimp only; rw [mkL_of (by simpa using h)]
theorem iL_at {l : List Int} {j : Nat} {v : Int} (h : l[j]? = some v) (hj : j < 1048576) : idxPV (iL l) (.int (j : Int)) = some (.int v) := by
  unfold idxPV
  dsimp only
  rw [if_pos (by lia), if_pos (by lia)]
  simp [h]
theorem list_at {l : List PV} {j : Nat} {v : PV} (h : l[j]? = some v) (hj : j < 1048576) : idxPV (.list l) (.int (j : Int)) = some v := by
  unfold idxPV
  dsimp only
  rw [if_pos (by lia), if_pos (by lia)]
  simp [h]
theorem setL {l : List PV} {j : Nat} {v : PV} (hj : j < l.length) (hl : l.length ≤ 1048576) : setPV (.list l) (.int (j : Int)) v = some (.list (l.set j v)) := by
  have hb : bigL = 1048576 := rfl
  unfold setPV
  dsimp only
  rw [if_pos (by simp [hb]; lia)]
  simp

theorem min2_of {a b : Int} : biPV .min2 [.int a, .int b] = some (.int (if b < a then b else a), .frz) := rfl

noncomputable def drawsB (m : Int) : K := .setitem 1 (.bin .Mod (.var 2) (.lit (.int m))) (.bin .Add (.idx (.var 1) (.bin .Mod (.var 2) (.lit (.int m)))) (.bin .Mod (.idx (.var 0) (.var 2)) (.bin .Pow (.lit (.int 10)) (.lit (.int 6))))) .nil
noncomputable def drawsI : CE := .bi .range1 (.cons (.bi .min2 (.cons (.lit (.int 60)) (.cons (.bi .len (.cons (.var 0) .nil)) .nil))) .nil)

/-- the loop of the draws: as many numbers as before, none less than nought -/
theorem draws_loop {is init : List Int} {m : Nat} {σ : Sig} (hm : init.length = m) (h0 : 0 < m) (hm' : m ≤ 100) (hp : ∀ d ∈ init, 0 ≤ d) (hi : is.length ≤ 63) (hs0 : ∃ o, σ 0 = some (iL is, o)) (hs1 : σ 1 = some (iL init, true)) (r : K) :
    ∃ σ' ds, execK F T N (.for (.one 2) drawsI (drawsB m) r) σ = execK F T N r σ' ∧ (∃ o, σ' 0 = some (iL is, o)) ∧ σ' 1 = some (iL ds, true) ∧ ds.length = m ∧ ∀ d ∈ ds, 0 ≤ d := by
  let n := min 60 is.length
  have hit : evalE F T drawsI σ = some (.range 0 (n : Int), .frz) := by
    obtain ⟨o, hs0⟩ := hs0
    unfold drawsI
    have : (if (is.length : Int) < 60 then (is.length : Int) else 60) = (n : Int) := by
      simp only [n]; split <;> lia
    simp only [evE_lit, evE_var, evE_gint, evE_bin, evE_neg, evE_not, evE_bop, evE_cmp, evE_chain, evE_ite, evE_list, evE_tuple, evE_dict, evE_idx, evE_tok, evE_sliceL, evE_sliceH, evE_sliceB, evE_call, evE_bi, evE_join, evE_index, evE_comp, evRs_nil, evRs_cons, hs0, Option.map_some, len_of (n := is.length) (t := iL is) (by rw [lenPV_list]; simp) (by lia), min2_of, this, range1_of (i := (n : Int)) (by lia)]
  obtain ⟨σ', e, h1, ds, h2, h3, h4⟩ := forS_inv (t := .one 2) (b := execK F T N (drawsB m))
    (fun k σ => (∃ o, σ 0 = some (iL is, o)) ∧ ∃ ds : List Int, σ 1 = some (iL ds, true) ∧ ds.length = m ∧ ∀ d ∈ ds, 0 ≤ d) ((List.range n).map fun j : Nat => .int (j : Int)) 0 (fun k x hx σ ⟨⟨o, g0⟩, ds, g1, g2, g3⟩ => by
      simp only [List.getElem?_map, Option.map_eq_some_iff] at hx
      obtain ⟨j, hj, rfl⟩ := hx
      obtain ⟨hj1, hj2⟩ := List.getElem?_eq_some_iff.mp hj
      rw [List.getElem_range] at hj2
      subst hj2
      rw [List.length_range] at hj1
      have hk : k < is.length := by simp only [n] at hj1; lia
      have hkm : k % m < m := Nat.mod_lt _ h0
      have hd : ds[k % m]? = some (ds[k % m]'(by lia)) := List.getElem?_eq_getElem _
      have hv : is[k]? = some is[k] := List.getElem?_eq_getElem hk
      refine ⟨upd σ 2 (.int (k : Int)) false, upd (upd σ 2 (.int (k : Int)) false) 1 (iL (ds.set (k % m) (ds[k % m]'(by lia) + is[k] % 1000000))) true, rfl, ?_, ⟨o, ?_⟩, _, upd_same, by simp [g2], fun d hd => ?_⟩
      · have q0 : (upd σ 2 (.int (k : Int)) false) 0 = some (iL is, o) := by rw [upd_ne (by decide)]; exact g0
        have q1 : (upd σ 2 (.int (k : Int)) false) 1 = some (iL ds, true) := by rw [upd_ne (by decide)]; exact g1
        have q2 : (upd σ 2 (.int (k : Int)) false) 2 = some (.int (k : Int), false) := upd_same
        have hmod : ((k : Int) % (m : Int)) = ((k % m : Nat) : Int) := by lia
        have hpow : binPV .Pow (.int 10) (.int 6) = some (.int 1000000, .frz) := rfl
        have e1 : evalE F T (.bin .Mod (.var 2) (.lit (.int (m : Int)))) (upd σ 2 (.int (k : Int)) false) = some (.int ((k % m : Nat) : Int), .frz) := by
          simp only [evE_lit, evE_var, evE_gint, evE_bin, evE_neg, evE_not, evE_bop, evE_cmp, evE_chain, evE_ite, evE_list, evE_tuple, evE_dict, evE_idx, evE_tok, evE_sliceL, evE_sliceH, evE_sliceB, evE_call, evE_bi, evE_join, evE_index, evE_comp, q2, Option.map_some, bin_mod (a := (k : Int)) (b := (m : Int)) (by lia), hmod]
        have e2 : evalE F T (.bin .Add (.idx (.var 1) (.bin .Mod (.var 2) (.lit (.int (m : Int))))) (.bin .Mod (.idx (.var 0) (.var 2)) (.bin .Pow (.lit (.int 10)) (.lit (.int 6))))) (upd σ 2 (.int (k : Int)) false) = some (.int (ds[k % m]'(by lia) + is[k] % 1000000), .frz) := by
          simp only [evE_lit, evE_var, evE_gint, evE_bin, evE_neg, evE_not, evE_bop, evE_cmp, evE_chain, evE_ite, evE_list, evE_tuple, evE_dict, evE_idx, evE_tok, evE_sliceL, evE_sliceH, evE_sliceB, evE_call, evE_bi, evE_join, evE_index, evE_comp, q0, q1, q2, Option.map_some, bin_mod (a := (k : Int)) (b := (m : Int)) (by lia), hmod, iL_at hd (by lia), iL_at hv (by lia), hpow, bin_mod (b := (1000000 : Int)) (by decide), bin_add]
        unfold drawsB
        rw [x_setitem (t' := iL (ds.set (k % m) (ds[k % m]'(by lia) + is[k] % 1000000))) e2 (by decide) e1 q1 (by rw [setL (by simp; lia) (by simp; lia)]; simp [List.map_set]), x_nil]
      · rw [upd_ne (by decide), upd_ne (by decide)]; exact g0
      · rcases List.mem_or_eq_of_mem_set hd with h | h
        · exact g3 _ h
        · rw [h]
          have := g3 _ (List.getElem_mem (l := ds) (n := k % m) (by lia))
          have := Int.emod_nonneg is[k] (b := 1000000) (by decide)
          lia) σ ⟨hs0, init, hs1, hm, hp⟩
  refine ⟨σ', ds, ?_, h1, h2, h3, h4⟩
  rw [x_for hit (by decide) (items_range0 n), e, seqO_next]
end
end Mine


namespace Mine

/-! the defs that all five texts have -/
noncomputable def d_generate_overlap_table : DI := ⟨("_generate_overlap_table" : Str), [(("prefix" : Str), 0), (("table" : Str), 1), (("i" : Str), 2), (("idx" : Str), 3)], ⟨[0],
  (.assign 1 (.bin .Mult (.list (.cons (.lit (.int 0)) .nil)) (.bi .len (.cons (.var 0) .nil))) (.for (.one 2) (.bi .range2 (.cons (.lit (.int 1)) (.cons (.bi .len (.cons (.var 0) .nil)) .nil))) (.assign 3 (.idx (.var 1) (.bin .Sub (.var 2) (.lit (.int 1)))) (.while (.cmp .NotEq (.idx (.var 0) (.var 2)) (.idx (.var 0) (.var 3))) (.ite (.cmp .Eq (.var 3) (.lit (.int 0))) (.setitem 1 (.var 2) (.lit (.int 0)) .brk) .nil (.assign 3 (.idx (.var 1) (.bin .Sub (.var 3) (.lit (.int 1)))) .nil)) (.setitem 1 (.var 2) (.bin .Add (.var 3) (.lit (.int 1))) .nil) .nil)) (.retv 1)))⟩⟩

noncomputable def d_isstring : DI := ⟨("isstring" : Str), [(("obj" : Str), 0)], ⟨[0],
  (.ret (.bi .isStr (.cons (.var 0) .nil)))⟩⟩

noncomputable def d_ISTERMINAL : DI := ⟨("ISTERMINAL" : Str), [(("x" : Str), 0)], ⟨[0],
  (.ret (.cmp .Lt (.var 0) (.gint ("NT_OFFSET" : Str) 256)))⟩⟩

noncomputable def d_ISNONTERMINAL : DI := ⟨("ISNONTERMINAL" : Str), [(("x" : Str), 0)], ⟨[0],
  (.ret (.cmp .GtE (.var 0) (.gint ("NT_OFFSET" : Str) 256)))⟩⟩

noncomputable def d_ISEOF : DI := ⟨("ISEOF" : Str), [(("x" : Str), 0)], ⟨[0],
  (.ret (.cmp .Eq (.var 0) (.gint ("ENDMARKER" : Str) 0)))⟩⟩

noncomputable def d_law_signs : DI := ⟨("_law_signs" : Str), [], ⟨[],
  (.ret (.list (.cons (.lit (.str ("(" : Str))) (.cons (.lit (.str (")" : Str))) (.cons (.lit (.str ("[" : Str))) (.cons (.lit (.str ("]" : Str))) (.cons (.lit (.str (":" : Str))) (.cons (.lit (.str ("," : Str))) (.cons (.lit (.str (";" : Str))) (.cons (.lit (.str ("+" : Str))) (.cons (.lit (.str ("-" : Str))) (.cons (.lit (.str ("*" : Str))) (.cons (.lit (.str ("/" : Str))) (.cons (.lit (.str ("|" : Str))) (.cons (.lit (.str ("&" : Str))) (.cons (.lit (.str ("<" : Str))) (.cons (.lit (.str (">" : Str))) (.cons (.lit (.str ("=" : Str))) (.cons (.lit (.str ("." : Str))) (.cons (.lit (.str ("%" : Str))) (.cons (.lit (.str ("{" : Str))) (.cons (.lit (.str ("}" : Str))) (.cons (.lit (.str ("==" : Str))) (.cons (.lit (.str ("!=" : Str))) (.cons (.lit (.str ("<=" : Str))) (.cons (.lit (.str (">=" : Str))) (.cons (.lit (.str ("~" : Str))) (.cons (.lit (.str ("^" : Str))) (.cons (.lit (.str ("<<" : Str))) (.cons (.lit (.str (">>" : Str))) (.cons (.lit (.str ("**" : Str))) (.cons (.lit (.str ("+=" : Str))) (.cons (.lit (.str ("-=" : Str))) (.cons (.lit (.str ("*=" : Str))) (.cons (.lit (.str ("/=" : Str))) (.cons (.lit (.str ("%=" : Str))) (.cons (.lit (.str ("&=" : Str))) (.cons (.lit (.str ("|=" : Str))) (.cons (.lit (.str ("^=" : Str))) (.cons (.lit (.str ("<<=" : Str))) (.cons (.lit (.str (">>=" : Str))) (.cons (.lit (.str ("**=" : Str))) (.cons (.lit (.str ("//" : Str))) (.cons (.lit (.str ("//=" : Str))) (.cons (.lit (.str ("@" : Str))) (.cons (.lit (.str ("@=" : Str))) (.cons (.lit (.str ("->" : Str))) (.cons (.lit (.str ("..." : Str))) (.cons (.bin .Add (.lit (.str (":" : Str))) (.lit (.str ("=" : Str)))) (.cons (.lit (.str ("!" : Str))) .nil))))))))))))))))))))))))))))))))))))))))))))))))))⟩⟩


noncomputable def DC : List DI := [d_generate_overlap_table, d_isstring, d_ISTERMINAL, d_ISNONTERMINAL, d_ISEOF, d_law_signs]
noncomputable def SIGNS : List Str := [("(" : Str), (")" : Str), ("[" : Str), ("]" : Str), (":" : Str), ("," : Str), (";" : Str), ("+" : Str), ("-" : Str), ("*" : Str), ("/" : Str), ("|" : Str), ("&" : Str), ("<" : Str), (">" : Str), ("=" : Str), ("." : Str), ("%" : Str), ("{" : Str), ("}" : Str), ("==" : Str), ("!=" : Str), ("<=" : Str), (">=" : Str), ("~" : Str), ("^" : Str), ("<<" : Str), (">>" : Str), ("**" : Str), ("+=" : Str), ("-=" : Str), ("*=" : Str), ("/=" : Str), ("%=" : Str), ("&=" : Str), ("|=" : Str), ("^=" : Str), ("<<=" : Str), (">>=" : Str), ("**=" : Str), ("//" : Str), ("//=" : Str), ("@" : Str), ("@=" : Str), ("->" : Str), ("..." : Str), (":=" : Str), ("!" : Str)]

structure FnOk (F : FT) : Prop where
  ov : ∀ {α : Type} [DecidableEq α] {t : PV} {ys : List α}, Form t ys → ys.length ≤ 100000 → F 0 [t] = some (nL (ovL ys), .new)
  strS : ∀ s, F 1 [.str s] = some (.bool true, .frz)
  strB : ∀ s, F 1 [.bytes s] = some (.bool true, .frz)
  strI : ∀ s, F 1 [.int s] = some (.bool false, .frz)
  strL : ∀ s, F 1 [.list s] = some (.bool false, .frz)
  strT : ∀ s, F 1 [.tuple s] = some (.bool false, .frz)
  term : ∀ x : Int, F 2 [.int x] = some (.bool (decide (x < 256)), .frz)
  nont : ∀ x : Int, F 3 [.int x] = some (.bool (decide (x ≥ 256)), .frz)
  eof : ∀ x : Int, F 4 [.int x] = some (.bool (decide (x = 0)), .frz)
  signs : F 5 [] = some (.list (SIGNS.map .str), .new)

theorem fn_ok {DS rest : List DI} {T : TT} {N : Nat} (h : DS = DC ++ rest) (hN : 100000 < N) {k : Nat} (hk : 6 ≤ k) : FnOk (FF DS T N k) := by
  subst h
  have at_ : ∀ {f : Nat} {i : DI} (hf : (DC ++ rest)[f]? = some i) (h6 : f < 6) (ts : List PV), FF (DC ++ rest) T N k f ts = runDf (FF (DC ++ rest) T N f) T N i.d ts := fun hf h6 ts => FF_lt hf (by lia) ts
  refine ⟨fun {α _ t ys} hf hy => ?_, fun s => ?_, fun s => ?_, fun s => ?_, fun s => ?_, fun s => ?_, fun x => ?_, fun x => ?_, fun x => ?_, ?_⟩
  · rw [at_ (f := 0) (i := d_generate_overlap_table) rfl (by decide)]
    exact ov_spec hf hy (by lia)
  · rw [at_ (f := 1) (i := d_isstring) rfl (by decide)]; rfl
  · rw [at_ (f := 1) (i := d_isstring) rfl (by decide)]; rfl
  · rw [at_ (f := 1) (i := d_isstring) rfl (by decide)]; rfl
  · rw [at_ (f := 1) (i := d_isstring) rfl (by decide)]; rfl
  · rw [at_ (f := 1) (i := d_isstring) rfl (by decide)]; rfl
  · rw [at_ (f := 2) (i := d_ISTERMINAL) rfl (by decide)]; rfl
  · rw [at_ (f := 3) (i := d_ISNONTERMINAL) rfl (by decide)]; rfl
  · rw [at_ (f := 4) (i := d_ISEOF) rfl (by decide)]
    refine run_ret rfl ?_
    show execK _ T N (.ret (.cmp .Eq (.var 0) (.gint ("ENDMARKER" : Str) 0))) _ = _
    have q : (startS [0] [PV.int x]) 0 = some (.int x, false) := rfl
    have e : evalE (FF (DC ++ rest) T N 4) T (.cmp .Eq (.var 0) (.gint ("ENDMARKER" : Str) 0)) (startS [0] [.int x]) = some (.bool (decide (x = 0)), .frz) := by
      simp only [evE_lit, evE_var, evE_gint, evE_bin, evE_neg, evE_not, evE_bop, evE_cmp, evE_chain, evE_ite, evE_list, evE_tuple, evE_dict, evE_idx, evE_tok, evE_sliceL, evE_sliceH, evE_sliceB, evE_call, evE_bi, evE_join, evE_index, evE_comp, q, Option.map_some, mkI, cmpPV, eqPV_int]
    exact x_ret e (by decide)
  · rw [at_ (f := 5) (i := d_law_signs) rfl (by decide)]; rfl

/-! the loop that writes -/
section
variable {F : FT} {T : TT} {N : Nat}

theorem or2 {a b : CE} {σ : Sig} {x y : Bool} {f g : Fl} (ha : evalE F T a σ = some (.bool x, f)) (hb : evalE F T b σ = some (.bool y, g)) : evalE F T (.bop .Or (.cons a (.cons b .nil))) σ = some (.bool (x || y), .frz) := by
  ((first | rw [evE_lit] | rw [evE_var] | rw [evE_gint] | rw [evE_bin] | rw [evE_neg] | rw [evE_not] | rw [evE_bop] | rw [evE_cmp] | rw [evE_chain] | rw [evE_ite] | rw [evE_list] | rw [evE_tuple] | rw [evE_dict] | rw [evE_idx] | rw [evE_tok] | rw [evE_sliceL] | rw [evE_sliceH] | rw [evE_sliceB] | rw [evE_call] | rw [evE_bi] | rw [evE_join] | rw [evE_index] | rw [evE_comp]); (first | rw [evB_nil] | rw [evB_one] | rw [evB_more])); rw [ha]
  cases x
  · dsimp only; (first | rw [evB_nil] | rw [evB_one] | rw [evB_more]); rw [hb]; rfl
  · rfl
theorem and2 {a b : CE} {σ : Sig} {x y : Bool} {f g : Fl} (ha : evalE F T a σ = some (.bool x, f)) (hb : x = true → evalE F T b σ = some (.bool y, g)) : evalE F T (.bop .And (.cons a (.cons b .nil))) σ = some (.bool (x && y), .frz) := by
  ((first | rw [evE_lit] | rw [evE_var] | rw [evE_gint] | rw [evE_bin] | rw [evE_neg] | rw [evE_not] | rw [evE_bop] | rw [evE_cmp] | rw [evE_chain] | rw [evE_ite] | rw [evE_list] | rw [evE_tuple] | rw [evE_dict] | rw [evE_idx] | rw [evE_tok] | rw [evE_sliceL] | rw [evE_sliceH] | rw [evE_sliceB] | rw [evE_call] | rw [evE_bi] | rw [evE_join] | rw [evE_index] | rw [evE_comp]); (first | rw [evB_nil] | rw [evB_one] | rw [evB_more])); rw [ha]
  cases x
  · rfl
  · dsimp only; (first | rw [evB_nil] | rw [evB_one] | rw [evB_more]); rw [hb rfl]; rfl
theorem or3 {a b c : CE} {σ : Sig} {x y z : Bool} {f g h : Fl} (ha : evalE F T a σ = some (.bool x, f)) (hb : x = false → evalE F T b σ = some (.bool y, g)) (hc : x = false → y = false → evalE F T c σ = some (.bool z, h)) :
    evalE F T (.bop .Or (.cons a (.cons b (.cons c .nil)))) σ = some (.bool (x || (y || z)), .frz) := by
  ((first | rw [evE_lit] | rw [evE_var] | rw [evE_gint] | rw [evE_bin] | rw [evE_neg] | rw [evE_not] | rw [evE_bop] | rw [evE_cmp] | rw [evE_chain] | rw [evE_ite] | rw [evE_list] | rw [evE_tuple] | rw [evE_dict] | rw [evE_idx] | rw [evE_tok] | rw [evE_sliceL] | rw [evE_sliceH] | rw [evE_sliceB] | rw [evE_call] | rw [evE_bi] | rw [evE_join] | rw [evE_index] | rw [evE_comp]); (first | rw [evB_nil] | rw [evB_one] | rw [evB_more])); rw [ha]
  cases x
  · dsimp only; (first | rw [evB_nil] | rw [evB_one] | rw [evB_more]); rw [hb rfl]
    cases y
    · dsimp only; (first | rw [evB_nil] | rw [evB_one] | rw [evB_more]); rw [hc rfl rfl]; rfl
    · rfl
  · rfl

/-- no place of the list is a truth -/
noncomputable def truthsE (x o : Nat) : CE := .comp (.gen (.one o) (.var x) (.cons (.bop .Or (.cons (.cmp .Is (.var o) (.lit (.bool true))) (.cons (.cmp .Is (.var o) (.lit (.bool false))) .nil))) .nil) (.elt (.var o)))
theorem evalI_one {c : CE} {σ : Sig} {b : Bool} {f : Fl} (h : evalE F T c σ = some (.bool b, f)) : evalI F T (.cons c .nil) σ = some b := by
  (first | rw [evI_nil] | rw [evI_cons]); rw [h]; cases b <;> rfl
theorem clr_ne {l : List Nat} {σ : Sig} {x : Nat} (h : x ∉ l) : clr l σ x = σ x := by unfold clr; rw [if_neg h]
theorem ev_var {x : Nat} {σ : Sig} {t : PV} {o : Bool} (h : σ x = some (t, o)) : evalE F T (.var x) σ = some (t, if o then .bor else .frz) := by
  (first | rw [evE_lit] | rw [evE_var] | rw [evE_gint] | rw [evE_bin] | rw [evE_neg] | rw [evE_not] | rw [evE_bop] | rw [evE_cmp] | rw [evE_chain] | rw [evE_ite] | rw [evE_list] | rw [evE_tuple] | rw [evE_dict] | rw [evE_idx] | rw [evE_tok] | rw [evE_sliceL] | rw [evE_sliceH] | rw [evE_sliceB] | rw [evE_call] | rw [evE_bi] | rw [evE_join] | rw [evE_index] | rw [evE_comp]); rw [h]; rfl
theorem truths_ok {x o : Nat} {σ : Sig} {l : List Nat} {w : Bool} (h : σ x = some (nL l, w)) (hne : x ≠ o) (hl : l.length ≤ 1048576) : evalE F T (truthsE x o) σ = some (.list [], .new) := by
  unfold truthsE
  rw [comp_one l (fun n : Nat => .int (n : Int)) (fun _ => false) (fun n => .int (n : Int)) (ev_var (by rw [clr_ne (by simpa using hne)]; exact h)) rfl (fun a _ => ?_) (fun a _ h => by cases h) hl]
  · have : l.filter (fun _ => false) = [] := by simp
    rw [this]; rfl
  · refine evalI_one (or2 (x := false) (y := false) (f := .frz) (g := .frz) ?_ ?_)
    · simp only [evE_lit, evE_var, evE_gint, evE_bin, evE_neg, evE_not, evE_bop, evE_cmp, evE_chain, evE_ite, evE_list, evE_tuple, evE_dict, evE_idx, evE_tok, evE_sliceL, evE_sliceH, evE_sliceB, evE_call, evE_bi, evE_join, evE_index, evE_comp, upd_same, Option.map_some, cmpPV, isPV]
    · simp only [evE_lit, evE_var, evE_gint, evE_bin, evE_neg, evE_not, evE_bop, evE_cmp, evE_chain, evE_ite, evE_list, evE_tuple, evE_dict, evE_idx, evE_tok, evE_sliceL, evE_sliceH, evE_sliceB, evE_call, evE_bi, evE_join, evE_index, evE_comp, upd_same, Option.map_some, cmpPV, isPV]

noncomputable def writB (r : Nat) (ex : CE) : K :=
  .assign (r + 2) (.list (.cons (.call 2 (.cons (.idx (.var r) (.lit (.int 0))) .nil)) (.cons (.call 3 (.cons (.idx (.var r) (.lit (.int 0))) .nil)) (.cons (.call 4 (.cons (.idx (.var r) (.lit (.int 0))) .nil)) .nil))))
    (.freeze (r + 2) (.ite (.bop .Or (.cons (.cmp .NotEq (.comp (.gen (.one (r + 3)) (.var (r + 2)) (.cons (.bop .And (.cons (.cmp .IsNot (.var (r + 3)) (.lit (.bool true))) (.cons (.cmp .IsNot (.var (r + 3)) (.lit (.bool false))) .nil))) .nil) (.elt (.var (r + 3))))) (.list .nil)) (.cons (.cmp .Is (.idx (.var (r + 2)) (.lit (.int 0))) (.idx (.var (r + 2)) (.lit (.int 1)))) .nil))) (.ret (.lit .none)) .nil
      (.ite (.idx (.var (r + 2)) (.lit (.int 2))) (.freeze (r + 1) (.ret (.ite (.idx (.var (r + 2)) (.lit (.int 0))) (.var (r + 1)) (.lit .none)))) .nil
        (.ite (.idx (.var (r + 2)) (.lit (.int 1))) (.assign r ex (.freeze r .nil)) (.append (r + 1) (.idx (.var r) (.lit (.int 0))) (.assign r (.sliceL (.var r) (.lit (.int 1))) (.freeze r .nil))) .nil))))

/-- what the loop writes -/
noncomputable def writ (ru : Int → Option (List Int)) : Nat → List Int → List Int → Option (List Int)
  | 0, _, _ => Option.none
  | _ + 1, [], _ => Option.none
  | n + 1, x :: t, row => if x = 0 then some row else if x ≥ 256 then (match ru x with | some l => writ ru n (l ++ t) row | Option.none => Option.none) else writ ru n t (row ++ [x])

theorem told_comp {o v : Nat} {σ : Sig} {a b c : Bool} (hne : v ≠ o) (h : σ v = some (.list [.bool a, .bool b, .bool c], false)) :
    evalE F T (.comp (.gen (.one o) (.var v) (.cons (.bop .And (.cons (.cmp .IsNot (.var o) (.lit (.bool true))) (.cons (.cmp .IsNot (.var o) (.lit (.bool false))) .nil))) .nil) (.elt (.var o)))) σ = some (.list [], .new) := by
  rw [comp_one [a, b, c] .bool (fun _ => false) .bool (ev_var (by rw [clr_ne (by simpa using hne)]; exact h)) rfl (fun a _ => ?_) (fun a _ h => by cases h) (by simp)]
  · rfl
  · refine evalI_one (f := .frz) ?_
    rw [and2 (x := !(a == true)) (y := !(a == false)) (f := .frz) (g := .frz)]
    · cases a <;> rfl
    · simp only [evE_lit, evE_var, evE_gint, evE_bin, evE_neg, evE_not, evE_bop, evE_cmp, evE_chain, evE_ite, evE_list, evE_tuple, evE_dict, evE_idx, evE_tok, evE_sliceL, evE_sliceH, evE_sliceB, evE_call, evE_bi, evE_join, evE_index, evE_comp, upd_same, Option.map_some, cmpPV, isPV]
    · intro _; simp only [evE_lit, evE_var, evE_gint, evE_bin, evE_neg, evE_not, evE_bop, evE_cmp, evE_chain, evE_ite, evE_list, evE_tuple, evE_dict, evE_idx, evE_tok, evE_sliceL, evE_sliceH, evE_sliceB, evE_call, evE_bi, evE_join, evE_index, evE_comp, upd_same, Option.map_some, cmpPV, isPV]

theorem iL_cons {x : Int} {t : List Int} : idxPV (iL (x :: t)) (.int 0) = some (.int x) := rfl
theorem slice_from {l : List PV} {k : Nat} (hl : l.length ≤ 1048576) : slicePV (.list l) (some (k : Int)) Option.none = some (.list (l.drop k), .new) := by
  have hb : bigL = 1048576 := rfl
  unfold slicePV
  dsimp only [Option.getD]
  rw [if_pos (by simp [hb, hl])]
  rw [show (k : Int).toNat = k by lia, mkL_of (by simp; lia)]
theorem slice_to {l : List PV} {k : Nat} (hl : l.length ≤ 1048576) : slicePV (.list l) Option.none (some (k : Int)) = some (.list (l.take k), .new) := by
  have hb : bigL = 1048576 := rfl
  unfold slicePV
  dsimp only [Option.getD]
  rw [if_pos (by simp [hb, hl])]
  rw [show (k : Int).toNat = k by lia, show (0 : Int).toNat = 0 by rfl, List.drop_zero, mkL_of (by simp; lia)]
theorem slice_both {l : List PV} {j k : Nat} (hl : l.length ≤ 1048576) : slicePV (.list l) (some (j : Int)) (some (k : Int)) = some (.list ((l.take k).drop j), .new) := by
  have hb : bigL = 1048576 := rfl
  unfold slicePV
  dsimp only [Option.getD]
  rw [if_pos (by simp [hb, hl])]
  rw [show (k : Int).toNat = k by lia, show (j : Int).toNat = j by lia, mkL_of (by simp; lia)]

theorem writ_ok (hF : FnOk F) {r : Nat} (hr : 0 < r) {ex : CE} {rules : PV} {ru : Int → Option (List Int)}
    (hex : ∀ (σ : Sig) (x : Int) (t l : List Int), (∃ o, σ 0 = some (rules, o)) → σ r = some (iL (x :: t), false) → ru x = some l → (l ++ t).length ≤ 1000000 → evalE F T ex σ = some (iL (l ++ t), .new)) (hru : ∀ x l, ru x = some l → l.length ≤ 100) :
    ∀ (n : Nat) (rest row out : List Int) (σ : Sig), writ ru n rest row = some out → rest.length + row.length + 100 * n ≤ 1000000 → ∀ m, n ≤ m → (∃ o, σ 0 = some (rules, o)) → σ r = some (iL rest, false) → σ (r + 1) = some (iL row, true) →
      whileS (condF F T (.cmp .NotEq (.var r) (.list .nil))) (execK F T N (writB r ex)) (execK F T N .nil) m σ = some (.ret (iL out, .frz)) := by
  intro n
  induction n with
  | zero => intro rest row out σ h; simp [writ] at h
  | succ n ih =>
    intro rest row out σ h hb m hm h0 h1 h2
    cases rest with
    | nil => simp [writ] at h
    | cons x t =>
      obtain ⟨m, rfl⟩ : ∃ k, m = k + 1 := ⟨m - 1, by lia⟩
      have hc : evalE F T (.cmp .NotEq (.var r) (.list .nil)) σ = some (.bool true, .frz) := by
        have : cmpPV .NotEq (iL (x :: t)) (.list []) = some true := by
          show (eqPV (iL (x :: t)) (.list [])).map (!·) = _
          rw [eqPV_nil_ints]; rfl
        simp only [evE_lit, evE_var, evE_gint, evE_bin, evE_neg, evE_not, evE_bop, evE_cmp, evE_chain, evE_ite, evE_list, evE_tuple, evE_dict, evE_idx, evE_tok, evE_sliceL, evE_sliceH, evE_sliceB, evE_call, evE_bi, evE_join, evE_index, evE_comp, evEs_nil, evEs_cons, h1, Option.map_some, mkL_of (xs := []) (by simp), this]
      have i0 : ∀ {σ : Sig}, σ r = some (iL (x :: t), false) → evalE F T (.idx (.var r) (.lit (.int 0))) σ = some (.int x, .frz) := fun {σ} q => by
        simp only [evE_lit, evE_var, evE_gint, evE_bin, evE_neg, evE_not, evE_bop, evE_cmp, evE_chain, evE_ite, evE_list, evE_tuple, evE_dict, evE_idx, evE_tok, evE_sliceL, evE_sliceH, evE_sliceB, evE_call, evE_bi, evE_join, evE_index, evE_comp, q, Option.map_some, iL_cons]
      have et : evalE F T (.list (.cons (.call 2 (.cons (.idx (.var r) (.lit (.int 0))) .nil)) (.cons (.call 3 (.cons (.idx (.var r) (.lit (.int 0))) .nil)) (.cons (.call 4 (.cons (.idx (.var r) (.lit (.int 0))) .nil)) .nil)))) σ =
          some (.list [.bool (decide (x < 256)), .bool (decide (x ≥ 256)), .bool (decide (x = 0))], .new) := by
        have i0' := i0 h1
        simp only [evE_lit, evE_var, evE_gint, evE_bin, evE_neg, evE_not, evE_bop, evE_cmp, evE_chain, evE_ite, evE_list, evE_tuple, evE_dict, evE_idx, evE_tok, evE_sliceL, evE_sliceH, evE_sliceB, evE_call, evE_bi, evE_join, evE_index, evE_comp, evEs_nil, evEs_cons, kept, h1, Option.map_some, iL_cons, hF.term, hF.nont, hF.eof]
        rw [mkL_of (by simp)]
      unfold whileS
      rw [condF_of hc]
      dsimp only
      have hb1 : execK F T N (writB r ex) σ = if x = 0 then some (.ret (iL row, .frz)) else if x ≥ 256 then execK F T N (.assign r ex (.freeze r .nil)) (upd (upd σ (r + 2) (.list [.bool (decide (x < 256)), .bool (decide (x ≥ 256)), .bool (decide (x = 0))]) true) (r + 2) (.list [.bool (decide (x < 256)), .bool (decide (x ≥ 256)), .bool (decide (x = 0))]) false)
          else execK F T N (.append (r + 1) (.idx (.var r) (.lit (.int 0))) (.assign r (.sliceL (.var r) (.lit (.int 1))) (.freeze r .nil))) (upd (upd σ (r + 2) (.list [.bool (decide (x < 256)), .bool (decide (x ≥ 256)), .bool (decide (x = 0))]) true) (r + 2) (.list [.bool (decide (x < 256)), .bool (decide (x ≥ 256)), .bool (decide (x = 0))]) false) := by
        unfold writB
        rw [x_new et, x_freeze upd_same]
        generalize hσ : upd (upd σ (r + 2) (.list [.bool (decide (x < 256)), .bool (decide (x ≥ 256)), .bool (decide (x = 0))]) true) (r + 2) (.list [.bool (decide (x < 256)), .bool (decide (x ≥ 256)), .bool (decide (x = 0))]) false = σ1
        have k0 : σ1 (r + 2) = some (.list [.bool (decide (x < 256)), .bool (decide (x ≥ 256)), .bool (decide (x = 0))], false) := by rw [← hσ]; exact upd_same
        have k2 : σ1 (r + 1) = some (iL row, true) := by rw [← hσ, upd_ne (by lia), upd_ne (by lia)]; exact h2
        have t0 : evalE F T (.idx (.var (r + 2)) (.lit (.int 0))) σ1 = some (.bool (decide (x < 256)), .frz) := by simp only [evE_lit, evE_var, evE_gint, evE_bin, evE_neg, evE_not, evE_bop, evE_cmp, evE_chain, evE_ite, evE_list, evE_tuple, evE_dict, evE_idx, evE_tok, evE_sliceL, evE_sliceH, evE_sliceB, evE_call, evE_bi, evE_join, evE_index, evE_comp, k0, Option.map_some]; rfl
        have t1 : evalE F T (.idx (.var (r + 2)) (.lit (.int 1))) σ1 = some (.bool (decide (x ≥ 256)), .frz) := by simp only [evE_lit, evE_var, evE_gint, evE_bin, evE_neg, evE_not, evE_bop, evE_cmp, evE_chain, evE_ite, evE_list, evE_tuple, evE_dict, evE_idx, evE_tok, evE_sliceL, evE_sliceH, evE_sliceB, evE_call, evE_bi, evE_join, evE_index, evE_comp, k0, Option.map_some]; rfl
        have t2 : evalE F T (.idx (.var (r + 2)) (.lit (.int 2))) σ1 = some (.bool (decide (x = 0)), .frz) := by simp only [evE_lit, evE_var, evE_gint, evE_bin, evE_neg, evE_not, evE_bop, evE_cmp, evE_chain, evE_ite, evE_list, evE_tuple, evE_dict, evE_idx, evE_tok, evE_sliceL, evE_sliceH, evE_sliceB, evE_call, evE_bi, evE_join, evE_index, evE_comp, k0, Option.map_some]; rfl
        have ebop := or2 (F := F) (T := T) (σ := σ1) (a := (.cmp .NotEq (.comp (.gen (.one (r + 3)) (.var (r + 2)) (.cons (.bop .And (.cons (.cmp .IsNot (.var (r + 3)) (.lit (.bool true))) (.cons (.cmp .IsNot (.var (r + 3)) (.lit (.bool false))) .nil))) .nil) (.elt (.var (r + 3))))) (.list .nil)))
          (b := (.cmp .Is (.idx (.var (r + 2)) (.lit (.int 0))) (.idx (.var (r + 2)) (.lit (.int 1))))) (x := false) (y := false) (f := .frz) (g := .frz) (by
            have e1 := told_comp (F := F) (T := T) (o := r + 3) (v := r + 2) (by lia) k0
            have e2 : evalE F T (.list .nil) σ1 = some (.list [], .new) := by simp only [evE_lit, evE_var, evE_gint, evE_bin, evE_neg, evE_not, evE_bop, evE_cmp, evE_chain, evE_ite, evE_list, evE_tuple, evE_dict, evE_idx, evE_tok, evE_sliceL, evE_sliceH, evE_sliceB, evE_call, evE_bi, evE_join, evE_index, evE_comp, evEs_nil, evEs_cons, mkL_of (xs := []) (by simp)]
            have e3 : cmpPV .NotEq (.list []) (.list []) = some false := by
              show (eqPV (iL []) (.list [])).map (!·) = _
              rw [eqPV_nil_ints]; rfl
            (first | rw [evE_lit] | rw [evE_var] | rw [evE_gint] | rw [evE_bin] | rw [evE_neg] | rw [evE_not] | rw [evE_bop] | rw [evE_cmp] | rw [evE_chain] | rw [evE_ite] | rw [evE_list] | rw [evE_tuple] | rw [evE_dict] | rw [evE_idx] | rw [evE_tok] | rw [evE_sliceL] | rw [evE_sliceH] | rw [evE_sliceB] | rw [evE_call] | rw [evE_bi] | rw [evE_join] | rw [evE_index] | rw [evE_comp])
            rw [e1]; dsimp only; rw [e2]; dsimp only; rw [e3]; rfl) (by
            have e3 : cmpPV .Is (.bool (decide (x < 256))) (.bool (decide (x ≥ 256))) = some false := by
              show some (decide (x < 256) == decide (x ≥ 256)) = some false
              by_cases q : x < 256
              · rw [decide_eq_true q, decide_eq_false (by lia)]; rfl
              · rw [decide_eq_false q, decide_eq_true (by lia)]; rfl
            (first | rw [evE_lit] | rw [evE_var] | rw [evE_gint] | rw [evE_bin] | rw [evE_neg] | rw [evE_not] | rw [evE_bop] | rw [evE_cmp] | rw [evE_chain] | rw [evE_ite] | rw [evE_list] | rw [evE_tuple] | rw [evE_dict] | rw [evE_idx] | rw [evE_tok] | rw [evE_sliceL] | rw [evE_sliceH] | rw [evE_sliceB] | rw [evE_call] | rw [evE_bi] | rw [evE_join] | rw [evE_index] | rw [evE_comp])
            rw [t0]; dsimp only; rw [t1]; dsimp only; rw [e3]; rfl)
        rw [x_ite ebop]
        rw [show (false || false) = false from rfl, if_neg (by decide), x_nil, seqO_next, x_ite t2]
        by_cases z : x = 0
        · rw [if_pos z, decide_eq_true z, if_pos rfl, x_freeze k2]
          have : evalE F T (.ite (.idx (.var (r + 2)) (.lit (.int 0))) (.var (r + 1)) (.lit .none)) (upd σ1 (r + 1) (iL row) false) = some (iL row, .frz) := by
            have q : (upd σ1 (r + 1) (iL row) false) (r + 2) = some (.list [.bool (decide (x < 256)), .bool (decide (x ≥ 256)), .bool (decide (x = 0))], false) := by rw [upd_ne (by lia)]; exact k0
            have e1 : evalE F T (.idx (.var (r + 2)) (.lit (.int 0))) (upd σ1 (r + 1) (iL row) false) = some (.bool (decide (x < 256)), .frz) := by simp only [evE_lit, evE_var, evE_gint, evE_bin, evE_neg, evE_not, evE_bop, evE_cmp, evE_chain, evE_ite, evE_list, evE_tuple, evE_dict, evE_idx, evE_tok, evE_sliceL, evE_sliceH, evE_sliceB, evE_call, evE_bi, evE_join, evE_index, evE_comp, q, Option.map_some]; rfl
            (first | rw [evE_lit] | rw [evE_var] | rw [evE_gint] | rw [evE_bin] | rw [evE_neg] | rw [evE_not] | rw [evE_bop] | rw [evE_cmp] | rw [evE_chain] | rw [evE_ite] | rw [evE_list] | rw [evE_tuple] | rw [evE_dict] | rw [evE_idx] | rw [evE_tok] | rw [evE_sliceL] | rw [evE_sliceH] | rw [evE_sliceB] | rw [evE_call] | rw [evE_bi] | rw [evE_join] | rw [evE_index] | rw [evE_comp])
            rw [e1, decide_eq_true (by lia : x < 256)]
            dsimp only
            rw [ev_var upd_same]; rfl
          rw [x_ret this (by decide), seqO_ret]
        · rw [if_neg z, decide_eq_false z, if_neg (by decide), x_nil, seqO_next, x_ite t1]
          by_cases q : x ≥ 256
          · rw [if_pos q, decide_eq_true q, if_pos rfl]
            generalize execK F T N (.assign r ex (.freeze r .nil)) σ1 = w
            rcases w with _ | (_ | _ | _) <;> rfl
          · rw [if_neg q, decide_eq_false q, if_neg (by decide)]
            generalize execK F T N (.append (r + 1) (.idx (.var r) (.lit (.int 0))) (.assign r (.sliceL (.var r) (.lit (.int 1))) (.freeze r .nil))) σ1 = w
            rcases w with _ | (_ | _ | _) <;> rfl
      rw [hb1]
      unfold writ at h
      simp only [List.length_cons] at hb
      generalize hσ : upd (upd σ (r + 2) (.list [.bool (decide (x < 256)), .bool (decide (x ≥ 256)), .bool (decide (x = 0))]) true) (r + 2) (.list [.bool (decide (x < 256)), .bool (decide (x ≥ 256)), .bool (decide (x = 0))]) false = σ1
      have k0 : ∃ o, σ1 0 = some (rules, o) := by rw [← hσ, upd_ne (by lia), upd_ne (by lia)]; exact h0
      have k1 : σ1 r = some (iL (x :: t), false) := by rw [← hσ, upd_ne (by lia), upd_ne (by lia)]; exact h1
      have k2 : σ1 (r + 1) = some (iL row, true) := by rw [← hσ, upd_ne (by lia), upd_ne (by lia)]; exact h2
      by_cases z : x = 0
      · rw [if_pos z] at h ⊢
        cases h; rfl
      · rw [if_neg z] at h ⊢
        by_cases q : x ≥ 256
        · rw [if_pos q] at h ⊢
          split at h
          · rename_i l hl
            have hll := hru x l hl
            rw [x_new (hex σ1 x t l k0 k1 hl (by simp; lia)), x_freeze upd_same, x_nil]
            dsimp only
            exact ih (l ++ t) row out _ h (by simp; lia) m (by lia) (by rw [upd_ne (by lia), upd_ne (by lia)]; exact k0) upd_same (by rw [upd_ne (by lia), upd_ne (by lia)]; exact k2)
          · cases h
        · rw [if_neg q] at h ⊢
          have es : evalE F T (.sliceL (.var r) (.lit (.int 1))) (upd σ1 (r + 1) (.list (row.map .int ++ [.int x])) true) = some (iL t, .new) := by
            have q : (upd σ1 (r + 1) (.list (row.map .int ++ [.int x])) true) r = some (iL (x :: t), false) := by rw [upd_ne (by lia)]; exact k1
            have := slice_from (l := (x :: t).map PV.int) (k := 1) (by simp; lia)
            simp only [evE_lit, evE_var, evE_gint, evE_bin, evE_neg, evE_not, evE_bop, evE_cmp, evE_chain, evE_ite, evE_list, evE_tuple, evE_dict, evE_idx, evE_tok, evE_sliceL, evE_sliceH, evE_sliceB, evE_call, evE_bi, evE_join, evE_index, evE_comp, q, Option.map_some]
            rw [show ((1 : Int)) = ((1 : Nat) : Int) from rfl, this]
            rfl
          rw [x_append (i0 k1) (by decide) k2 (by simp; lia), x_new es, x_freeze upd_same, x_nil]
          dsimp only
          exact ih t (row ++ [x]) out _ h (by simp; lia) m (by lia) (by rw [upd_ne (by lia), upd_ne (by lia), upd_ne (by lia)]; exact k0) upd_same (by rw [upd_ne (by lia), upd_ne (by lia), upd_same]; simp)
end
end Mine


namespace Mine

section
variable {F : FT} {T : TT} {N : Nat}

noncomputable def rdT (T : TT) : PV → Option Int
  | .int i => some i
  | .str s => T s
  | _ => Option.none

theorem comp_all {α : Type} {v : Nat} {it e : CE} {σ : Sig} {r : R} (as : List α) (enc g : α → PV) (hit : evalE F T it (clr [v] σ) = some r) (hxs : itemsC r.1 = some (as.map enc))
    (h2 : ∀ a ∈ as, ∃ fl, evalE F T e (upd (clr [v] σ) v (enc a) false) = some (g a, fl) ∧ fl ≠ .bor) (hl : as.length ≤ 1048576) :
    evalE F T (.comp (.gen (.one v) it .nil (.elt e))) σ = some (.list (as.map g), .new) := by
  rw [comp_one as enc (fun _ => true) g hit hxs (fun a _ => rfl) (fun a ha _ => h2 a ha) hl]
  rw [List.filter_eq_self.mpr (fun _ _ => rfl)]

/-- the parts of a rule, read -/
noncomputable def exT (r : Nat) : CE := .bin .Add (.comp (.gen (.one (r + 4)) (.idx (.var 0) (.idx (.var r) (.lit (.int 0)))) .nil (.elt (.ite (.call 1 (.cons (.var (r + 4)) .nil)) (.tok (.var (r + 4))) (.var (r + 4)))))) (.sliceL (.var r) (.lit (.int 1)))

theorem exT_ok (hF : FnOk F) {r : Nat} (hr : 0 < r) {rules : PV} {ru : Int → Option (List Int)} (hru : ∀ x l, ru x = some l → ∃ parts, idxPV rules (.int x) = some (.list parts) ∧ parts.map (rdT T) = l.map some)
    (σ : Sig) (x : Int) (t l : List Int) (h0 : ∃ o, σ 0 = some (rules, o)) (h1 : σ r = some (iL (x :: t), false)) (hx : ru x = some l) (hb : (l ++ t).length ≤ 1000000) : evalE F T (exT r) σ = some (iL (l ++ t), .new) := by
  obtain ⟨o, h0⟩ := h0
  obtain ⟨parts, hp, hm⟩ := hru x l hx
  have hlen : parts.length = l.length := by have := congrArg List.length hm; simpa using this
  rw [List.length_append] at hb
  have e1 : evalE F T (.comp (.gen (.one (r + 4)) (.idx (.var 0) (.idx (.var r) (.lit (.int 0)))) .nil (.elt (.ite (.call 1 (.cons (.var (r + 4)) .nil)) (.tok (.var (r + 4))) (.var (r + 4)))))) σ = some (iL l, .new) := by
    rw [comp_all (r := (.list parts, .frz)) parts id (fun p => .int ((rdT T p).getD 0)) ?_ (by simp [itemsC, itemsOf]) (fun a ha => ?_) (by lia)]
    · have : parts.map (fun p => PV.int ((rdT T p).getD 0)) = l.map .int := by
        have := congrArg (List.map fun o : Option Int => PV.int (o.getD 0)) hm
        simpa [List.map_map, Function.comp_def] using this
      rw [this]
    · have q0 : clr [r + 4] σ 0 = some (rules, o) := by rw [clr_ne (by simp)]; exact h0
      have q1 : clr [r + 4] σ r = some (iL (x :: t), false) := by rw [clr_ne (by simp)]; exact h1
      simp only [evE_lit, evE_var, evE_gint, evE_bin, evE_neg, evE_not, evE_bop, evE_cmp, evE_chain, evE_ite, evE_list, evE_tuple, evE_dict, evE_idx, evE_tok, evE_sliceL, evE_sliceH, evE_sliceB, evE_call, evE_bi, evE_join, evE_index, evE_comp, q0, q1, Option.map_some, iL_cons, hp]
    · have hs : ∃ i, rdT T a = some i := by
        have : rdT T a ∈ l.map some := by rw [← hm]; exact List.mem_map_of_mem ha
        obtain ⟨i, _, e⟩ := List.mem_map.mp this
        exact ⟨i, e.symm⟩
      obtain ⟨i, hi⟩ := hs
      refine ⟨.frz, ?_, by decide⟩
      rw [hi]
      have q : (upd (clr [r + 4] σ) (r + 4) (id a) false) (r + 4) = some (a, false) := upd_same
      cases a with
      | int j =>
        cases hi
        simp only [evE_lit, evE_var, evE_gint, evE_bin, evE_neg, evE_not, evE_bop, evE_cmp, evE_chain, evE_ite, evE_list, evE_tuple, evE_dict, evE_idx, evE_tok, evE_sliceL, evE_sliceH, evE_sliceB, evE_call, evE_bi, evE_join, evE_index, evE_comp, evEs_nil, evEs_cons, q, Option.map_some, kept, Bool.false_eq_true, if_false, hF.strI, Option.getD]
      | str s =>
        have hi' : T s = some i := hi
        simp only [evE_lit, evE_var, evE_gint, evE_bin, evE_neg, evE_not, evE_bop, evE_cmp, evE_chain, evE_ite, evE_list, evE_tuple, evE_dict, evE_idx, evE_tok, evE_sliceL, evE_sliceH, evE_sliceB, evE_call, evE_bi, evE_join, evE_index, evE_comp, evEs_nil, evEs_cons, q, Option.map_some, kept, Bool.false_eq_true, if_false, hF.strS, Option.getD, hi']
      | _ => cases hi
  have e2 : evalE F T (.sliceL (.var r) (.lit (.int 1))) σ = some (iL t, .new) := by
    have := slice_from (l := (x :: t).map PV.int) (k := 1) (by simp; lia)
    simp only [evE_lit, evE_var, evE_gint, evE_bin, evE_neg, evE_not, evE_bop, evE_cmp, evE_chain, evE_ite, evE_list, evE_tuple, evE_dict, evE_idx, evE_tok, evE_sliceL, evE_sliceH, evE_sliceB, evE_call, evE_bi, evE_join, evE_index, evE_comp, h1, Option.map_some]
    rw [show ((1 : Int)) = ((1 : Nat) : Int) from rfl, this]
    rfl
  (unfold exT; (first | rw [evE_lit] | rw [evE_var] | rw [evE_gint] | rw [evE_bin] | rw [evE_neg] | rw [evE_not] | rw [evE_bop] | rw [evE_cmp] | rw [evE_chain] | rw [evE_ite] | rw [evE_list] | rw [evE_tuple] | rw [evE_dict] | rw [evE_idx] | rw [evE_tok] | rw [evE_sliceL] | rw [evE_sliceH] | rw [evE_sliceB] | rw [evE_call] | rw [evE_bi] | rw [evE_join] | rw [evE_index] | rw [evE_comp]))
  rw [e1]; dsimp only; rw [e2]; dsimp only
  rw [bin_addL (by simp; lia), ← List.map_append]

noncomputable def writD : Df := ⟨[0, 1], (.assign 2 (.bin .Add (.var 1) (.list (.cons (.lit (.int 0)) .nil))) (.freeze 2 (.assign 3 (.list .nil) (.while (.cmp .NotEq (.var 2) (.list .nil)) (writB 2 (exT 2)) .nil (.ret (.lit .none))))))⟩

theorem writD_ok (hF : FnOk F) {rules : PV} {ru : Int → Option (List Int)} (hru : ∀ x l, ru x = some l → l.length ≤ 100 ∧ ∃ parts, idxPV rules (.int x) = some (.list parts) ∧ parts.map (rdT T) = l.map some)
    {start out : List Int} {n : Nat} (hn : n ≤ 5000) (hN : n ≤ N) (hs : start.length ≤ 1000) (h : writ ru n (start ++ [0]) [] = some out) : runDf F T N writD [rules, iL start] = some (iL out, .frz) := by
  refine run_ret rfl ?_
  have e0 : evalE F T (.bin .Add (.var 1) (.list (.cons (.lit (.int 0)) .nil))) (startS [0, 1] [rules, iL start]) = some (iL (start ++ [0]), .new) := by
    have q : startS [0, 1] [rules, iL start] 1 = some (iL start, false) := rfl
    simp only [evE_lit, evE_var, evE_gint, evE_bin, evE_neg, evE_not, evE_bop, evE_cmp, evE_chain, evE_ite, evE_list, evE_tuple, evE_dict, evE_idx, evE_tok, evE_sliceL, evE_sliceH, evE_sliceB, evE_call, evE_bi, evE_join, evE_index, evE_comp, evEs_nil, evEs_cons, q, Option.map_some, kept, mkL_of (xs := [PV.int 0]) (by simp), bin_addL (a := start.map .int) (b := [PV.int 0]) (by simp; lia)]
    simp
  have e1 : ∀ σ : Sig, evalE F T (.list .nil) σ = some (.list [], .new) := fun σ => by simp only [evE_lit, evE_var, evE_gint, evE_bin, evE_neg, evE_not, evE_bop, evE_cmp, evE_chain, evE_ite, evE_list, evE_tuple, evE_dict, evE_idx, evE_tok, evE_sliceL, evE_sliceH, evE_sliceB, evE_call, evE_bi, evE_join, evE_index, evE_comp, evEs_nil, evEs_cons, mkL_of (xs := []) (by simp)]
  show execK F T N (.assign 2 _ _) (startS [0, 1] [rules, iL start]) = _
  rw [x_new e0, x_freeze upd_same, x_new (e1 _), x_while]
  rw [writ_ok hF (r := 2) (by decide) (ru := ru) (rules := rules) (exT_ok hF (by decide) fun x l hx => (hru x l hx).2) (fun x l hx => (hru x l hx).1) n (start ++ [0]) [] out _ h (by simp; lia) N hN ⟨false, rfl⟩ rfl rfl]
  rfl

theorem writ_cons {ru : Int → Option (List Int)} {n : Nat} {x : Int} {t row : List Int} : writ ru (n + 1) (x :: t) row = if x = 0 then some row else if x ≥ 256 then (match ru x with | some l => writ ru n (l ++ t) row | Option.none => Option.none) else writ ru n t (row ++ [x]) := rfl
theorem writ_terms {ru : Int → Option (List Int)} : ∀ (xs : List Int) (n : Nat) (t row : List Int), (∀ x ∈ xs, 0 < x ∧ x < 256) → writ ru (n + xs.length) (xs ++ t) row = writ ru n t (row ++ xs)
  | [], n, t, row, _ => by simp
  | x :: xs, n, t, row, h => by
    have hx := h x (.head _)
    rw [List.length_cons, ← Nat.add_assoc]
    show writ ru (n + xs.length + 1) (x :: (xs ++ t)) row = _
    rw [writ_cons, if_neg (by lia), if_neg (by lia), writ_terms xs n t (row ++ [x]) fun y hy => h y (.tail _ hy)]
    simp
theorem writ_exp {ru : Int → Option (List Int)} {x : Int} {l : List Int} {n : Nat} {t row : List Int} (h : ru x = some l) (hx : 256 ≤ x) : writ ru (n + 1) (x :: t) row = writ ru n (l ++ t) row := by
  rw [writ_cons, if_neg (by lia), if_pos hx, h]
theorem writ_end {ru : Int → Option (List Int)} {n : Nat} {t row : List Int} : writ ru (n + 1) (0 :: t) row = some row := by
  rw [writ_cons, if_pos rfl]

/-- the figures to the base 2 -/
theorem bits_comp {v x : Nat} {c one : Int} {e : CE} {n : Nat} {σ : Sig} {o : Bool} {f : Fl} (hx : σ x = some (.int one, o)) (hlen : evalE F T e (clr [v] σ) = some (.int (n : Int), f)) (hn : n ≤ 20) (hc : 0 < c) (hc' : c < 1000000000) (hne : x ≠ v) (hp : 0 ≤ one) :
    evalE F T (.comp (.gen (.one v) (.bi .range1 (.cons e .nil)) .nil (.elt (.bin .Mod (.bin .FloorDiv (.bin .FloorDiv (.var x) (.lit (.int c))) (.bin .Pow (.lit (.int 2)) (.var v))) (.lit (.int 2)))))) σ =
      some (nL ((List.range n).map fun k => ((one / c / 2 ^ k) % 2).toNat), .new) := by
  rw [comp_all (r := (.range 0 (n : Int), .frz)) (List.range n) (fun j : Nat => .int (j : Int)) (fun k => .int (((one / c / 2 ^ k) % 2).toNat : Nat)) ?_ (items_range0 n) (fun a ha => ?_) (by simp; lia)]
  · simp [nL, Function.comp_def]
  · simp only [evE_lit, evE_var, evE_gint, evE_bin, evE_neg, evE_not, evE_bop, evE_cmp, evE_chain, evE_ite, evE_list, evE_tuple, evE_dict, evE_idx, evE_tok, evE_sliceL, evE_sliceH, evE_sliceB, evE_call, evE_bi, evE_join, evE_index, evE_comp, evRs_nil, evRs_cons, hlen, range1_of (i := (n : Int)) (by lia)]
  · rw [List.mem_range] at ha
    have q1 : (upd (clr [v] σ) v (.int (a : Int)) false) x = some (.int one, o) := by rw [upd_ne hne, clr_ne (by simpa using hne)]; exact hx
    have q2 : (upd (clr [v] σ) v (.int (a : Int)) false) v = some (.int (a : Int), false) := upd_same
    have hpw : (0 : Int) < 2 ^ a := by exact_mod_cast Nat.two_pow_pos a
    have hpw' : (2 : Int) ^ a < 1000000000 := by
      have : (2 : Nat) ^ a ≤ 2 ^ 20 := Nat.pow_le_pow_right (by decide) (by lia)
      have : ((2 ^ a : Nat) : Int) ≤ ((2 ^ 20 : Nat) : Int) := by exact_mod_cast this
      rw [Int.natCast_pow] at this
      have h3 : ((2 ^ 20 : Nat) : Int) = 1048576 := by decide
      rw [h3] at this
      have h4 : ((2 : Nat) : Int) = 2 := rfl
      rw [h4] at this
      lia
    refine ⟨.frz, ?_, by decide⟩
    have hnn : 0 ≤ one / c / 2 ^ a % 2 := Int.emod_nonneg _ (by decide)
    simp only [evE_lit, evE_var, evE_gint, evE_bin, evE_neg, evE_not, evE_bop, evE_cmp, evE_chain, evE_ite, evE_list, evE_tuple, evE_dict, evE_idx, evE_tok, evE_sliceL, evE_sliceH, evE_sliceB, evE_call, evE_bi, evE_join, evE_index, evE_comp, q1, q2, Option.map_some, bin_div hc hc', bin_pow2 (k := a) (by lia), bin_div hpw hpw', bin_mod (b := 2) (by decide)]
    rw [Int.toNat_of_nonneg hnn]
theorem bits_lt {one c : Int} {n : Nat} : ∀ x ∈ (List.range n).map fun k => ((one / c / 2 ^ k) % 2).toNat, x < 2 := by
  intro x hx
  obtain ⟨k, _, rfl⟩ := List.mem_map.mp hx
  have := Int.emod_lt_of_pos (one / c / 2 ^ k) (b := 2) (by decide)
  have := Int.emod_nonneg (one / c / 2 ^ k) (b := 2) (by decide)
  lia
end
end Mine


namespace Mine

section
variable {F : FT} {T : TT} {N : Nat}

theorem ev_lit {c : PV} {σ : Sig} : evalE F T (.lit c) σ = some (c, .frz) := rfl
theorem ev_idx {a i : CE} {σ : Sig} {t u v : PV} {f g : Fl} (ha : evalE F T a σ = some (t, f)) (hi : evalE F T i σ = some (u, g)) (h : idxPV t u = some v) : evalE F T (.idx a i) σ = some (v, .frz) := by
  (first | rw [evE_lit] | rw [evE_var] | rw [evE_gint] | rw [evE_bin] | rw [evE_neg] | rw [evE_not] | rw [evE_bop] | rw [evE_cmp] | rw [evE_chain] | rw [evE_ite] | rw [evE_list] | rw [evE_tuple] | rw [evE_dict] | rw [evE_idx] | rw [evE_tok] | rw [evE_sliceL] | rw [evE_sliceH] | rw [evE_sliceB] | rw [evE_call] | rw [evE_bi] | rw [evE_join] | rw [evE_index] | rw [evE_comp]); rw [ha]; dsimp only; rw [hi]; dsimp only; rw [h]; rfl
theorem ev_cmp {op : CmpOp} {a i : CE} {σ : Sig} {t u : PV} {b : Bool} {f g : Fl} (ha : evalE F T a σ = some (t, f)) (hi : evalE F T i σ = some (u, g)) (h : cmpPV op t u = some b) : evalE F T (.cmp op a i) σ = some (.bool b, .frz) := by
  (first | rw [evE_lit] | rw [evE_var] | rw [evE_gint] | rw [evE_bin] | rw [evE_neg] | rw [evE_not] | rw [evE_bop] | rw [evE_cmp] | rw [evE_chain] | rw [evE_ite] | rw [evE_list] | rw [evE_tuple] | rw [evE_dict] | rw [evE_idx] | rw [evE_tok] | rw [evE_sliceL] | rw [evE_sliceH] | rw [evE_sliceB] | rw [evE_call] | rw [evE_bi] | rw [evE_join] | rw [evE_index] | rw [evE_comp]); rw [ha]; dsimp only; rw [hi]; dsimp only; rw [h]; rfl
theorem ev_bin {op : Operator} {a i : CE} {σ : Sig} {t u : PV} {r : R} {f g : Fl} (ha : evalE F T a σ = some (t, f)) (hi : evalE F T i σ = some (u, g)) (h : binPV op t u = some r) : evalE F T (.bin op a i) σ = some r := by
  (first | rw [evE_lit] | rw [evE_var] | rw [evE_gint] | rw [evE_bin] | rw [evE_neg] | rw [evE_not] | rw [evE_bop] | rw [evE_cmp] | rw [evE_chain] | rw [evE_ite] | rw [evE_list] | rw [evE_tuple] | rw [evE_dict] | rw [evE_idx] | rw [evE_tok] | rw [evE_sliceL] | rw [evE_sliceH] | rw [evE_sliceB] | rw [evE_call] | rw [evE_bi] | rw [evE_join] | rw [evE_index] | rw [evE_comp]); rw [ha]; dsimp only; rw [hi]; dsimp only; rw [h]
theorem ev_call0 {n : Nat} {σ : Sig} {r : R} (h : F n [] = some r) : evalE F T (.call n .nil) σ = some r := by
  ((first | rw [evE_lit] | rw [evE_var] | rw [evE_gint] | rw [evE_bin] | rw [evE_neg] | rw [evE_not] | rw [evE_bop] | rw [evE_cmp] | rw [evE_chain] | rw [evE_ite] | rw [evE_list] | rw [evE_tuple] | rw [evE_dict] | rw [evE_idx] | rw [evE_tok] | rw [evE_sliceL] | rw [evE_sliceH] | rw [evE_sliceB] | rw [evE_call] | rw [evE_bi] | rw [evE_join] | rw [evE_index] | rw [evE_comp]); (first | rw [evEs_nil] | rw [evEs_cons])); exact h
theorem ev_call1 {n : Nat} {a : CE} {σ : Sig} {t : PV} {f : Fl} {r : R} (ha : evalE F T a σ = some (t, f)) (hf : f ≠ .bor) (h : F n [t] = some r) : evalE F T (.call n (.cons a .nil)) σ = some r := by
  ((first | rw [evE_lit] | rw [evE_var] | rw [evE_gint] | rw [evE_bin] | rw [evE_neg] | rw [evE_not] | rw [evE_bop] | rw [evE_cmp] | rw [evE_chain] | rw [evE_ite] | rw [evE_list] | rw [evE_tuple] | rw [evE_dict] | rw [evE_idx] | rw [evE_tok] | rw [evE_sliceL] | rw [evE_sliceH] | rw [evE_sliceB] | rw [evE_call] | rw [evE_bi] | rw [evE_join] | rw [evE_index] | rw [evE_comp]); (first | rw [evEs_nil] | rw [evEs_cons])); rw [ha]; cases f <;> first | exact absurd rfl hf | (dsimp only [kept]; (first | rw [evEs_nil] | rw [evEs_cons]); exact h)
theorem ev_call2 {n : Nat} {a b : CE} {σ : Sig} {t u : PV} {f g : Fl} {r : R} (ha : evalE F T a σ = some (t, f)) (hf : f ≠ .bor) (hb : evalE F T b σ = some (u, g)) (hg : g ≠ .bor) (h : F n [t, u] = some r) : evalE F T (.call n (.cons a (.cons b .nil))) σ = some r := by
  ((first | rw [evE_lit] | rw [evE_var] | rw [evE_gint] | rw [evE_bin] | rw [evE_neg] | rw [evE_not] | rw [evE_bop] | rw [evE_cmp] | rw [evE_chain] | rw [evE_ite] | rw [evE_list] | rw [evE_tuple] | rw [evE_dict] | rw [evE_idx] | rw [evE_tok] | rw [evE_sliceL] | rw [evE_sliceH] | rw [evE_sliceB] | rw [evE_call] | rw [evE_bi] | rw [evE_join] | rw [evE_index] | rw [evE_comp]); (first | rw [evEs_nil] | rw [evEs_cons])); rw [ha]; cases f <;> first | exact absurd rfl hf | (dsimp only [kept]; (first | rw [evEs_nil] | rw [evEs_cons]); rw [hb]; cases g <;> first | exact absurd rfl hg | (dsimp only [kept]; (first | rw [evEs_nil] | rw [evEs_cons]); exact h))
theorem ev_call3 {n : Nat} {a b c : CE} {σ : Sig} {t u v : PV} {f g e : Fl} {r : R} (ha : evalE F T a σ = some (t, f)) (hf : f ≠ .bor) (hb : evalE F T b σ = some (u, g)) (hg : g ≠ .bor) (hc : evalE F T c σ = some (v, e)) (he : e ≠ .bor) (h : F n [t, u, v] = some r) :
    evalE F T (.call n (.cons a (.cons b (.cons c .nil)))) σ = some r := by
  ((first | rw [evE_lit] | rw [evE_var] | rw [evE_gint] | rw [evE_bin] | rw [evE_neg] | rw [evE_not] | rw [evE_bop] | rw [evE_cmp] | rw [evE_chain] | rw [evE_ite] | rw [evE_list] | rw [evE_tuple] | rw [evE_dict] | rw [evE_idx] | rw [evE_tok] | rw [evE_sliceL] | rw [evE_sliceH] | rw [evE_sliceB] | rw [evE_call] | rw [evE_bi] | rw [evE_join] | rw [evE_index] | rw [evE_comp]); (first | rw [evEs_nil] | rw [evEs_cons])); rw [ha]; cases f <;> first | exact absurd rfl hf | (dsimp only [kept]; (first | rw [evEs_nil] | rw [evEs_cons]); rw [hb]; cases g <;> first | exact absurd rfl hg | (dsimp only [kept]; (first | rw [evEs_nil] | rw [evEs_cons]); rw [hc]; cases e <;> first | exact absurd rfl he | (dsimp only [kept]; (first | rw [evEs_nil] | rw [evEs_cons]); exact h)))
theorem ev_bi1 {b : BI} {a : CE} {σ : Sig} {t : PV} {f : Fl} {r : R} (ha : evalE F T a σ = some (t, f)) (h : biPV b [t] = some r) : evalE F T (.bi b (.cons a .nil)) σ = some r := by
  ((first | rw [evE_lit] | rw [evE_var] | rw [evE_gint] | rw [evE_bin] | rw [evE_neg] | rw [evE_not] | rw [evE_bop] | rw [evE_cmp] | rw [evE_chain] | rw [evE_ite] | rw [evE_list] | rw [evE_tuple] | rw [evE_dict] | rw [evE_idx] | rw [evE_tok] | rw [evE_sliceL] | rw [evE_sliceH] | rw [evE_sliceB] | rw [evE_call] | rw [evE_bi] | rw [evE_join] | rw [evE_index] | rw [evE_comp]); (first | rw [evRs_nil] | rw [evRs_cons])); rw [ha]; dsimp only; (first | rw [evRs_nil] | rw [evRs_cons]); exact h
theorem ev_bi2 {b : BI} {a c : CE} {σ : Sig} {t u : PV} {f g : Fl} {r : R} (ha : evalE F T a σ = some (t, f)) (hc : evalE F T c σ = some (u, g)) (h : biPV b [t, u] = some r) : evalE F T (.bi b (.cons a (.cons c .nil))) σ = some r := by
  ((first | rw [evE_lit] | rw [evE_var] | rw [evE_gint] | rw [evE_bin] | rw [evE_neg] | rw [evE_not] | rw [evE_bop] | rw [evE_cmp] | rw [evE_chain] | rw [evE_ite] | rw [evE_list] | rw [evE_tuple] | rw [evE_dict] | rw [evE_idx] | rw [evE_tok] | rw [evE_sliceL] | rw [evE_sliceH] | rw [evE_sliceB] | rw [evE_call] | rw [evE_bi] | rw [evE_join] | rw [evE_index] | rw [evE_comp]); (first | rw [evRs_nil] | rw [evRs_cons])); rw [ha]; dsimp only; (first | rw [evRs_nil] | rw [evRs_cons]); rw [hc]; dsimp only; (first | rw [evRs_nil] | rw [evRs_cons]); exact h
theorem ev_list1 {a : CE} {σ : Sig} {t : PV} {f : Fl} (ha : evalE F T a σ = some (t, f)) (hf : f ≠ .bor) : evalE F T (.list (.cons a .nil)) σ = some (.list [t], .new) := by
  ((first | rw [evE_lit] | rw [evE_var] | rw [evE_gint] | rw [evE_bin] | rw [evE_neg] | rw [evE_not] | rw [evE_bop] | rw [evE_cmp] | rw [evE_chain] | rw [evE_ite] | rw [evE_list] | rw [evE_tuple] | rw [evE_dict] | rw [evE_idx] | rw [evE_tok] | rw [evE_sliceL] | rw [evE_sliceH] | rw [evE_sliceB] | rw [evE_call] | rw [evE_bi] | rw [evE_join] | rw [evE_index] | rw [evE_comp]); (first | rw [evEs_nil] | rw [evEs_cons])); rw [ha]; cases f <;> first | exact absurd rfl hf | (dsimp only [kept]; (first | rw [evEs_nil] | rw [evEs_cons]); dsimp only; exact mkL_of (by simp))
theorem ev_list2 {a b : CE} {σ : Sig} {t u : PV} {f g : Fl} (ha : evalE F T a σ = some (t, f)) (hf : f ≠ .bor) (hb : evalE F T b σ = some (u, g)) (hg : g ≠ .bor) : evalE F T (.list (.cons a (.cons b .nil))) σ = some (.list [t, u], .new) := by
  ((first | rw [evE_lit] | rw [evE_var] | rw [evE_gint] | rw [evE_bin] | rw [evE_neg] | rw [evE_not] | rw [evE_bop] | rw [evE_cmp] | rw [evE_chain] | rw [evE_ite] | rw [evE_list] | rw [evE_tuple] | rw [evE_dict] | rw [evE_idx] | rw [evE_tok] | rw [evE_sliceL] | rw [evE_sliceH] | rw [evE_sliceB] | rw [evE_call] | rw [evE_bi] | rw [evE_join] | rw [evE_index] | rw [evE_comp]); (first | rw [evEs_nil] | rw [evEs_cons])); rw [ha]; cases f <;> first | exact absurd rfl hf | (dsimp only [kept]; (first | rw [evEs_nil] | rw [evEs_cons]); rw [hb]; cases g <;> first | exact absurd rfl hg | (dsimp only [kept]; (first | rw [evEs_nil] | rw [evEs_cons]); dsimp only; exact mkL_of (by simp)))
theorem ev_len {a : CE} {σ : Sig} {xs : List PV} {f : Fl} (ha : evalE F T a σ = some (.list xs, f)) (hl : xs.length ≤ 1048576) : evalE F T (.bi .len (.cons a .nil)) σ = some (.int (xs.length : Int), .frz) :=
  ev_bi1 ha (len_of lenPV_list (by lia))
theorem ev_ite {c a b : CE} {σ : Sig} {v : Bool} {f : Fl} (hc : evalE F T c σ = some (.bool v, f)) : evalE F T (.ite c a b) σ = if v = true then evalE F T a σ else evalE F T b σ := by
  conv => lhs; (first | rw [evE_lit] | rw [evE_var] | rw [evE_gint] | rw [evE_bin] | rw [evE_neg] | rw [evE_not] | rw [evE_bop] | rw [evE_cmp] | rw [evE_chain] | rw [evE_ite] | rw [evE_list] | rw [evE_tuple] | rw [evE_dict] | rw [evE_idx] | rw [evE_tok] | rw [evE_sliceL] | rw [evE_sliceH] | rw [evE_sliceB] | rw [evE_call] | rw [evE_bi] | rw [evE_join] | rw [evE_index] | rw [evE_comp])
  rw [hc]; cases v <;> rfl
theorem ev_not {a : CE} {σ : Sig} {v : Bool} {f : Fl} (ha : evalE F T a σ = some (.bool v, f)) : evalE F T (.not a) σ = some (.bool (!v), .frz) := by
  (first | rw [evE_lit] | rw [evE_var] | rw [evE_gint] | rw [evE_bin] | rw [evE_neg] | rw [evE_not] | rw [evE_bop] | rw [evE_cmp] | rw [evE_chain] | rw [evE_ite] | rw [evE_list] | rw [evE_tuple] | rw [evE_dict] | rw [evE_idx] | rw [evE_tok] | rw [evE_sliceL] | rw [evE_sliceH] | rw [evE_sliceB] | rw [evE_call] | rw [evE_bi] | rw [evE_join] | rw [evE_index] | rw [evE_comp]); rw [ha]; rfl
theorem ev_neg {a : CE} {σ : Sig} {i : Int} {f : Fl} (ha : evalE F T a σ = some (.int i, f)) : evalE F T (.neg a) σ = some (.int (-i), .frz) := by
  (first | rw [evE_lit] | rw [evE_var] | rw [evE_gint] | rw [evE_bin] | rw [evE_neg] | rw [evE_not] | rw [evE_bop] | rw [evE_cmp] | rw [evE_chain] | rw [evE_ite] | rw [evE_list] | rw [evE_tuple] | rw [evE_dict] | rw [evE_idx] | rw [evE_tok] | rw [evE_sliceL] | rw [evE_sliceH] | rw [evE_sliceB] | rw [evE_call] | rw [evE_bi] | rw [evE_join] | rw [evE_index] | rw [evE_comp]); rw [ha]; rfl
theorem ev_sliceL {a lo : CE} {σ : Sig} {xs : List PV} {k : Nat} {f g : Fl} (ha : evalE F T a σ = some (.list xs, f)) (hb : evalE F T lo σ = some (.int (k : Int), g)) (hl : xs.length ≤ 1048576) : evalE F T (.sliceL a lo) σ = some (.list (xs.drop k), .new) := by
  (first | rw [evE_lit] | rw [evE_var] | rw [evE_gint] | rw [evE_bin] | rw [evE_neg] | rw [evE_not] | rw [evE_bop] | rw [evE_cmp] | rw [evE_chain] | rw [evE_ite] | rw [evE_list] | rw [evE_tuple] | rw [evE_dict] | rw [evE_idx] | rw [evE_tok] | rw [evE_sliceL] | rw [evE_sliceH] | rw [evE_sliceB] | rw [evE_call] | rw [evE_bi] | rw [evE_join] | rw [evE_index] | rw [evE_comp]); rw [ha]; dsimp only; rw [hb]; exact slice_from hl
theorem ev_sliceH {a lo : CE} {σ : Sig} {xs : List PV} {k : Nat} {f g : Fl} (ha : evalE F T a σ = some (.list xs, f)) (hb : evalE F T lo σ = some (.int (k : Int), g)) (hl : xs.length ≤ 1048576) : evalE F T (.sliceH a lo) σ = some (.list (xs.take k), .new) := by
  (first | rw [evE_lit] | rw [evE_var] | rw [evE_gint] | rw [evE_bin] | rw [evE_neg] | rw [evE_not] | rw [evE_bop] | rw [evE_cmp] | rw [evE_chain] | rw [evE_ite] | rw [evE_list] | rw [evE_tuple] | rw [evE_dict] | rw [evE_idx] | rw [evE_tok] | rw [evE_sliceL] | rw [evE_sliceH] | rw [evE_sliceB] | rw [evE_call] | rw [evE_bi] | rw [evE_join] | rw [evE_index] | rw [evE_comp]); rw [ha]; dsimp only; rw [hb]; exact slice_to hl
theorem ev_sliceB {a lo hi : CE} {σ : Sig} {xs : List PV} {j k : Nat} {f g h : Fl} (ha : evalE F T a σ = some (.list xs, f)) (hb : evalE F T lo σ = some (.int (j : Int), g)) (hc : evalE F T hi σ = some (.int (k : Int), h)) (hl : xs.length ≤ 1048576) :
    evalE F T (.sliceB a lo hi) σ = some (.list ((xs.take k).drop j), .new) := by
  (first | rw [evE_lit] | rw [evE_var] | rw [evE_gint] | rw [evE_bin] | rw [evE_neg] | rw [evE_not] | rw [evE_bop] | rw [evE_cmp] | rw [evE_chain] | rw [evE_ite] | rw [evE_list] | rw [evE_tuple] | rw [evE_dict] | rw [evE_idx] | rw [evE_tok] | rw [evE_sliceL] | rw [evE_sliceH] | rw [evE_sliceB] | rw [evE_call] | rw [evE_bi] | rw [evE_join] | rw [evE_index] | rw [evE_comp]); rw [ha]; dsimp only; rw [hb]; dsimp only; rw [hc]; exact slice_both hl
theorem ev_app {a b : CE} {σ : Sig} {xs ys : List PV} {f g : Fl} (ha : evalE F T a σ = some (.list xs, f)) (hb : evalE F T b σ = some (.list ys, g)) (h : xs.length + ys.length ≤ 1048576) : evalE F T (.bin .Add a b) σ = some (.list (xs ++ ys), .new) := ev_bin ha hb (bin_addL h)
theorem cmp_eq {t u : PV} {b : Bool} (h : eqPV t u = some b) : cmpPV .Eq t u = some b := h
theorem cmp_ne {t u : PV} {b : Bool} (h : eqPV t u = some b) : cmpPV .NotEq t u = some (!b) := by show (eqPV t u).map (!·) = _; rw [h]; rfl

theorem maxL_filter {p : Nat → Bool} (h0 : p 0 = true) (k : Nat) : maxL (((List.range (k + 1)).filter p).map fun n : Nat => (n : Int)) = some ((lst p k : Nat) : Int) := by
  cases e : maxL (((List.range (k + 1)).filter p).map fun n : Nat => (n : Int)) with
  | none =>
    exfalso
    have hm : (0 : Nat) ∈ (List.range (k + 1)).filter p := by simp [h0]
    cases q : ((List.range (k + 1)).filter p).map fun n : Nat => (n : Int) with
    | nil => simp only [List.map_eq_nil_iff] at q; rw [q] at hm; cases hm
    | cons x r => rw [q] at e; cases e
  | some m =>
    obtain ⟨h1, h2⟩ := maxL_spec e
    obtain ⟨a, ha, rfl⟩ := List.mem_map.mp h1
    simp only [List.mem_filter, List.mem_range] at ha
    have := lst_max p k a (by lia) ha.2
    have h3 := h2 ((lst p k : Nat) : Int) (List.mem_map_of_mem (f := fun n : Nat => (n : Int)) (by
      simp only [List.mem_filter, List.mem_range]
      exact ⟨by have := lst_le p k; lia, lst_ok p h0 k⟩))
    congr 1; lia

/-- the longest ends that are beginnings, by slices -/
noncomputable def longE (r k s : Nat) : CE := .comp (.gen (.one k) (.bi .range1 (.cons (.bi .len (.cons (.var r) .nil)) .nil)) .nil (.elt (.bi .max1 (.cons (.comp (.gen (.one s) (.bi .range1 (.cons (.bin .Add (.var k) (.lit (.int 1))) .nil)) (.cons (.cmp .Eq (.sliceH (.var r) (.var s)) (.sliceB (.var r) (.bin .Sub (.bin .Add (.var k) (.lit (.int 1))) (.var s)) (.bin .Add (.var k) (.lit (.int 1))))) .nil) (.elt (.var s)))) .nil))))

theorem longE_ok {r k s : Nat} {σ : Sig} {row : List Int} {o : Bool} (h : σ r = some (iL row, o)) (h1 : r ≠ k) (h2 : r ≠ s) (h3 : k ≠ s) (hl : row.length ≤ 1000) : evalE F T (longE r k s) σ = some (nL (ovL row), .new) := by
  unfold longE
  rw [comp_all (r := (.range 0 (row.length : Int), .frz)) (List.range row.length) (fun j : Nat => .int (j : Int)) (fun k => .int (lb row k : Nat)) ?_ (items_range0 _) (fun a ha => ?_) (by simp; lia)]
  · simp [nL, ovL, Function.comp_def]
  · have q : clr [k] σ r = some (iL row, o) := by rw [clr_ne (by simpa using h1)]; exact h
    simp only [evE_lit, evE_var, evE_gint, evE_bin, evE_neg, evE_not, evE_bop, evE_cmp, evE_chain, evE_ite, evE_list, evE_tuple, evE_dict, evE_idx, evE_tok, evE_sliceL, evE_sliceH, evE_sliceB, evE_call, evE_bi, evE_join, evE_index, evE_comp, evRs_nil, evRs_cons, q, Option.map_some, len_of (t := iL row) (n := row.length) (by rw [lenPV_list]; simp) (by lia), range1_of (i := (row.length : Int)) (by lia)]
  · rw [List.mem_range] at ha
    refine ⟨.frz, ?_, by decide⟩
    generalize hσ : upd (clr [k] σ) k (.int (a : Int)) false = σ1
    have q0 : σ1 r = some (iL row, o) := by rw [← hσ, upd_ne h1, clr_ne (by simpa using h1)]; exact h
    have q1 : σ1 k = some (.int (a : Int), false) := by rw [← hσ]; exact upd_same
    have e1 : evalE F T (.comp (.gen (.one s) (.bi .range1 (.cons (.bin .Add (.var k) (.lit (.int 1))) .nil)) (.cons (.cmp .Eq (.sliceH (.var r) (.var s)) (.sliceB (.var r) (.bin .Sub (.bin .Add (.var k) (.lit (.int 1))) (.var s)) (.bin .Add (.var k) (.lit (.int 1))))) .nil) (.elt (.var s)))) σ1 =
        some (.list (((List.range (a + 1)).filter (bd row a)).map fun n : Nat => .int (n : Int)), .new) := by
      rw [comp_one (r := (.range 0 ((a + 1 : Nat) : Int), .frz)) (List.range (a + 1)) (fun j : Nat => .int (j : Int)) (bd row a) (fun n : Nat => .int (n : Int)) ?_ (items_range0 _) (fun j hj => ?_) (fun j hj _ => ?_) (by simp; lia)]
      · have q : clr [s] σ1 k = some (.int (a : Int), false) := by rw [clr_ne (by simpa using h3)]; exact q1
        have : ((a : Int) + 1) = ((a + 1 : Nat) : Int) := by lia
        simp only [evE_lit, evE_var, evE_gint, evE_bin, evE_neg, evE_not, evE_bop, evE_cmp, evE_chain, evE_ite, evE_list, evE_tuple, evE_dict, evE_idx, evE_tok, evE_sliceL, evE_sliceH, evE_sliceB, evE_call, evE_bi, evE_join, evE_index, evE_comp, evRs_nil, evRs_cons, q, Option.map_some, bin_add, this, range1_of (i := ((a + 1 : Nat) : Int)) (by lia)]
      · rw [List.mem_range] at hj
        have g0 : (upd (clr [s] σ1) s (.int (j : Int)) false) r = some (iL row, o) := by rw [upd_ne h2, clr_ne (by simpa using h2)]; exact q0
        have g1 : (upd (clr [s] σ1) s (.int (j : Int)) false) k = some (.int (a : Int), false) := by rw [upd_ne h3, clr_ne (by simpa using h3)]; exact q1
        have g2 : (upd (clr [s] σ1) s (.int (j : Int)) false) s = some (.int (j : Int), false) := upd_same
        have c1 : ((a : Int) + 1) = ((a + 1 : Nat) : Int) := by lia
        have c2 : (((a + 1 : Nat) : Int) - (j : Int)) = ((a + 1 - j : Nat) : Int) := by lia
        refine evalI_one (f := .frz) ?_
        simp only [evE_lit, evE_var, evE_gint, evE_bin, evE_neg, evE_not, evE_bop, evE_cmp, evE_chain, evE_ite, evE_list, evE_tuple, evE_dict, evE_idx, evE_tok, evE_sliceL, evE_sliceH, evE_sliceB, evE_call, evE_bi, evE_join, evE_index, evE_comp, g0, g1, g2, Option.map_some, bin_add, bin_sub, c1, c2, slice_to (l := row.map PV.int) (k := j) (by simp; lia), slice_both (l := row.map PV.int) (j := a + 1 - j) (k := a + 1) (by simp; lia), cmpPV, ← List.map_take, ← List.map_drop]
        rw [eqPV_ints]; rfl
      · exact ⟨.frz, by simp only [evE_lit, evE_var, evE_gint, evE_bin, evE_neg, evE_not, evE_bop, evE_cmp, evE_chain, evE_ite, evE_list, evE_tuple, evE_dict, evE_idx, evE_tok, evE_sliceL, evE_sliceH, evE_sliceB, evE_call, evE_bi, evE_join, evE_index, evE_comp, upd_same, Option.map_some]; rfl, by decide⟩
    have e2 : biPV .max1 [.list (((List.range (a + 1)).filter (bd row a)).map fun n : Nat => .int (n : Int))] = some (.int (lb row a : Nat), .frz) := by
      show (match intsOf _ with | some is => (maxL is).map fun m => (PV.int m, Fl.frz) | Option.none => Option.none) = _
      rw [intsOf_map (f := fun n : Nat => (n : Int))]
      dsimp only
      rw [maxL_filter (bd_zero row a)]; rfl
    ((first | rw [evE_lit] | rw [evE_var] | rw [evE_gint] | rw [evE_bin] | rw [evE_neg] | rw [evE_not] | rw [evE_bop] | rw [evE_cmp] | rw [evE_chain] | rw [evE_ite] | rw [evE_list] | rw [evE_tuple] | rw [evE_dict] | rw [evE_idx] | rw [evE_tok] | rw [evE_sliceL] | rw [evE_sliceH] | rw [evE_sliceB] | rw [evE_call] | rw [evE_bi] | rw [evE_join] | rw [evE_index] | rw [evE_comp]); (first | rw [evRs_nil] | rw [evRs_cons]))
    rw [e1]; dsimp only; (first | rw [evRs_nil] | rw [evRs_cons]); exact e2

theorem bytes_of {l : List Int} (h : ∀ y ∈ l, 0 ≤ y ∧ y < 256) (hl : l.length ≤ 1048576) : biPV .bytes1 [iL l] = some (.bytes (l.map fun i => UInt8.ofNat i.toNat), .frz) := by
  have : (l.all fun i => decide (0 ≤ i) && decide (i < 256)) = true := by
    simp only [Bool.and_eq_true, List.all_eq_true, decide_eq_true_eq]; exact h
  unfold biPV
  dsimp only
  rw [intsOf_ints]
  dsimp only
  rw [this, List.length_map, decide_eq_true hl]; rfl

theorem ov_last {α : Type} [DecidableEq α] {ys : List α} (h : 1 ≤ ys.length) : idxPV (nL (ovL ys)) (.int (-1)) = some (.int (lb ys (ys.length - 1) : Nat)) := by
  unfold idxPV
  dsimp only
  rw [if_neg (by decide), if_pos rfl]
  unfold ovL
  rw [List.map_map, List.getLast?_eq_getElem?, List.getElem?_map]
  simp only [List.length_map, List.length_range]
  rw [List.getElem?_range (by lia)]; rfl
theorem ovL_len {α : Type} [DecidableEq α] {ys : List α} : (ovL ys).length = ys.length := by simp [ovL]

/-- a comprehension of two clauses without tests -/
theorem comp_two {α β : Type} {v w : Nat} {it it2 e : CE} {σ : Sig} {r : R} (as : List α) (enc : α → PV) (bs : α → List β) (enc2 : β → PV) (g : α → β → PV) (hit : evalE F T it (clr [v, w] σ) = some r) (hxs : itemsC r.1 = some (as.map enc))
    (h2 : ∀ a ∈ as, ∃ u f, evalE F T it2 (upd (clr [v, w] σ) v (enc a) false) = some (u, f) ∧ f ≠ .bor ∧ itemsC u = some ((bs a).map enc2))
    (h3 : ∀ a ∈ as, ∀ b ∈ bs a, ∃ fl, evalE F T e (upd (upd (clr [v, w] σ) v (enc a) false) w (enc2 b) false) = some (g a b, fl) ∧ fl ≠ .bor) (hl : (as.flatMap fun a => (bs a).map (g a)).length ≤ 1048576) :
    evalE F T (.comp (.gen (.one v) it .nil (.gen (.one w) it2 .nil (.elt e)))) σ = some (.list (as.flatMap fun a => (bs a).map (g a)), .new) := by
  (first | rw [evE_lit] | rw [evE_var] | rw [evE_gint] | rw [evE_bin] | rw [evE_neg] | rw [evE_not] | rw [evE_bop] | rw [evE_cmp] | rw [evE_chain] | rw [evE_ite] | rw [evE_list] | rw [evE_tuple] | rw [evE_dict] | rw [evE_idx] | rw [evE_tok] | rw [evE_sliceL] | rw [evE_sliceH] | rw [evE_sliceB] | rw [evE_call] | rw [evE_bi] | rw [evE_join] | rw [evE_index] | rw [evE_comp])
  show (match evalG F T true (.gen (.one v) it .nil (.gen (.one w) it2 .nil (.elt e))) (clr [v, w] σ) with | some xs => mkL xs | Option.none => Option.none) = _
  (first | rw [evG_elt] | rw [evG_gen])
  rw [hit]
  dsimp only
  rw [Bool.true_or, if_pos rfl, hxs]
  dsimp only
  rw [concatM_map (g := fun a => (bs a).map (g a)) fun a ha => ?_]
  · exact mkL_of hl
  · show evalG F T false (.gen (.one w) it2 .nil (.elt e)) (upd (clr [v, w] σ) v (enc a) false) = _
    (first | rw [evG_elt] | rw [evG_gen])
    obtain ⟨u, f, e1, e2, e3⟩ := h2 a ha
    rw [e1]
    dsimp only
    rw [decide_eq_true e2, Bool.or_true, if_pos rfl, e3]
    dsimp only
    rw [concatM_map (g := fun b => [g a b]) fun b hb => ?_]
    · congr 1
      induction bs a with
      | nil => rfl
      | cons x r ih => rw [List.flatMap_cons, ih]; rfl
    · show evalG F T false (.elt e) (upd (upd (clr [v, w] σ) v (enc a) false) w (enc2 b) false) = _
      obtain ⟨fl, q1, q2⟩ := h3 a ha b hb
      (first | rw [evG_elt] | rw [evG_gen])
      rw [q1]
      cases fl <;> first | rfl | exact absurd rfl q2

/-! _law_whole -/
noncomputable def wholeD : Df := ⟨[0], (.assign 1 (.bi .bytes1 (.cons (.var 0) .nil)) (.assign 2 (.call 0 (.cons (.var 1) .nil)) (.freeze 2 (.assign 3 (longE 0 4 5) (.freeze 3 (.ret (.bop .And (.cons (.cmp .Is (.call 1 (.cons (.var 1) .nil)) (.lit (.bool true))) (.cons (.cmp .Eq (.var 2) (.var 3)) (.cons (.cmp .Eq (truthsE 2 6) (.list .nil)) .nil))))))))))⟩

theorem empty_list {σ : Sig} : evalE F T (.list .nil) σ = some (.list [], .new) := by simp only [evE_lit, evE_var, evE_gint, evE_bin, evE_neg, evE_not, evE_bop, evE_cmp, evE_chain, evE_ite, evE_list, evE_tuple, evE_dict, evE_idx, evE_tok, evE_sliceL, evE_sliceH, evE_sliceB, evE_call, evE_bi, evE_join, evE_index, evE_comp, evEs_nil, evEs_cons, mkL_of (xs := []) (by simp)]
end
end Mine

namespace Mine
/-! law 05, plainly -/
noncomputable def wordsE : Nat → List (List Nat)
  | 0 => [[]]
  | n + 1 => (wordsE n).flatMap fun w => [0 :: w, 1 :: w]
theorem mem_wordsE : ∀ (l : List Nat), (∀ x ∈ l, x < 2) → l ∈ wordsE l.length
  | [], _ => .head _
  | x :: r, h => by
    rw [List.length_cons, wordsE, List.mem_flatMap]
    refine ⟨r, mem_wordsE r fun y hy => h y (.tail _ hy), ?_⟩
    have := h x (.head _)
    rcases (show x = 0 ∨ x = 1 by omega) with rfl | rfl <;> simp
noncomputable def words3 : List (List Nat) := wordsE 1 ++ wordsE 2 ++ wordsE 3
noncomputable def words4 : List (List Nat) := wordsE 1 ++ wordsE 2 ++ wordsE 3 ++ wordsE 4
noncomputable def isW (m : Nat) (l : List Nat) : Prop := 1 ≤ l.length ∧ l.length ≤ m ∧ ∀ x ∈ l, x < 2
theorem mem_words4 {l : List Nat} (h : isW 4 l) : l ∈ words4 := by
  have := mem_wordsE l h.2.2
  obtain ⟨h1, h2, _⟩ := h
  unfold words4
  simp only [List.mem_append]
  rcases (show l.length = 1 ∨ l.length = 2 ∨ l.length = 3 ∨ l.length = 4 by omega) with e | e | e | e <;> rw [e] at this <;> simp [this]
theorem mem_words3 {l : List Nat} (h : isW 3 l) : l ∈ words3 := by
  have := mem_wordsE l h.2.2
  obtain ⟨h1, h2, _⟩ := h
  unfold words3
  simp only [List.mem_append]
  rcases (show l.length = 1 ∨ l.length = 2 ∨ l.length = 3 by omega) with e | e | e <;> rw [e] at this <;> simp [this]
end Mine

namespace Mine
/-! law 04, plainly -/
section
variable {α : Type} [DecidableEq α]
/-- at the row's beginning stands an overlap of the step p -/
noncomputable def Ov (r : List α) (p : Nat) : Prop := 1 ≤ p ∧ 2 * p + 1 ≤ r.length ∧ ∀ j, j ≤ p → r[j]? = r[p + j]?
theorem ov_of_lb {r : List α} {k : Nat} (hk : k < r.length) (h : 2 * lb r k > k + 1) : ∃ p, Ov r p ∧ 2 * p + 1 ≤ k + 1 := by
  obtain ⟨h1, h2⟩ := lb_P hk
  refine ⟨k + 1 - lb r k, ⟨by lia, by lia, fun j hj => h2 j (by lia)⟩, by lia⟩
theorem lb_of_ov {r : List α} {p : Nat} (h : Ov r p) : 2 * lb r (2 * p) > 2 * p + 1 := by
  obtain ⟨h1, h2, h3⟩ := h
  have : Pb r (2 * p) (p + 1) := ⟨by lia, fun j hj => by rw [show 2 * p + 1 - (p + 1) + j = p + j by lia]; exact h3 j (by lia)⟩
  have := lb_max (by lia) this
  lia

/-- the shortest overlap that begins the row, by its table -/
noncomputable def tb (r : List α) : Nat := match (List.range r.length).find? fun k => decide (2 * lb r k > k + 1) with
  | some k => k + 1
  | none => 0
/-- and by slices -/
noncomputable def sl (r : List α) : Nat := match (List.range ((r.length - 1) / 2)).find? fun j => decide (r.take (j + 2) = (r.take (2 * (j + 1) + 1)).drop (j + 1)) with
  | some j => 2 * (j + 1) + 1
  | none => 0
theorem find_range {p : Nat → Bool} {n k : Nat} (h : (List.range n).find? p = some k) : k < n ∧ p k = true ∧ ∀ j, j < k → p j = false := by
  have hp := List.find?_some h
  have hm := List.mem_of_find?_eq_some h
  rw [List.mem_range] at hm
  refine ⟨hm, hp, fun j hj => ?_⟩
  obtain ⟨_, as, bs, e, h3⟩ := List.find?_eq_some_iff_append.mp h
  have hl : as.length = k := by
    have h4 : (List.range n)[as.length]? = some k := by rw [e]; simp
    obtain ⟨h5, h6⟩ := List.getElem?_eq_some_iff.mp h4
    rw [List.getElem_range] at h6; exact h6
  have h7 : j ∈ as := by
    have h8 : as[j]? = some j := by
      have : (List.range n)[j]? = some j := List.getElem?_range (by lia)
      rw [e, List.getElem?_append_left (by lia)] at this; exact this
    exact List.mem_of_getElem? h8
  simpa using h3 j h7
theorem find_none {p : Nat → Bool} {n : Nat} (h : (List.range n).find? p = none) : ∀ j, j < n → p j = false := fun j hj => by
  have := List.find?_eq_none.mp h j (List.mem_range.mpr hj)
  simpa using this
theorem sl_bd {r : List α} {j : Nat} (h : 2 * (j + 1) + 1 ≤ r.length) : (r.take (j + 2) = (r.take (2 * (j + 1) + 1)).drop (j + 1)) ↔ Ov r (j + 1) := by
  constructor
  · intro e
    refine ⟨by lia, h, fun i hi => ?_⟩
    have := congrArg (fun l => l[i]?) e
    simp only [List.getElem?_take, List.getElem?_drop] at this
    rw [if_pos (by lia), if_pos (by lia)] at this
    exact this
  · intro ⟨_, _, g⟩
    apply List.ext_getElem?
    intro i
    simp only [List.getElem?_take, List.getElem?_drop]
    by_cases hi : i ≤ j + 1
    · rw [if_pos (by lia), if_pos (by lia)]; exact g i hi
    · rw [if_neg (by lia), if_neg (by lia)]
/-- the two tell the same -/
theorem tb_eq_sl (r : List α) : tb r = sl r ∧ (tb r = 0 ↔ ∀ p, ¬ Ov r p) := by
  unfold tb sl
  cases h1 : (List.range r.length).find? fun k => decide (2 * lb r k > k + 1) with
  | none =>
    have h1' := find_none h1
    have no : ∀ p, ¬ Ov r p := fun p h => by
      have := h1' (2 * p) (by have := h.2.1; lia)
      simp only [decide_eq_false_iff_not] at this
      exact this (lb_of_ov h)
    cases h2 : (List.range ((r.length - 1) / 2)).find? fun j => decide (r.take (j + 2) = (r.take (2 * (j + 1) + 1)).drop (j + 1)) with
    | none => exact ⟨rfl, fun _ => no, fun _ => rfl⟩
    | some j =>
      obtain ⟨a, b, _⟩ := find_range h2
      exact absurd ((sl_bd (by lia)).mp (of_decide_eq_true b)) (no _)
  | some k =>
    obtain ⟨a, b, c⟩ := find_range h1
    obtain ⟨p, h3, h4⟩ := ov_of_lb a (of_decide_eq_true b)
    have least : ∀ q, Ov r q → k ≤ 2 * q := fun q hq => by
      by_cases w : k ≤ 2 * q
      · exact w
      · have := c (2 * q) (by lia)
        simp only [decide_eq_false_iff_not] at this
        exact absurd (lb_of_ov hq) this
    have hk : k = 2 * p := by have := least p h3; lia
    have hp1 := h3.1
    cases h2 : (List.range ((r.length - 1) / 2)).find? fun j => decide (r.take (j + 2) = (r.take (2 * (j + 1) + 1)).drop (j + 1)) with
    | none =>
      have := find_none h2 (p - 1) (by have := h3.2.1; lia)
      simp only [decide_eq_false_iff_not] at this
      exact absurd ((sl_bd (by have := h3.2.1; lia)).mpr (by rw [show p - 1 + 1 = p by lia]; exact h3)) this
    | some j =>
      obtain ⟨a', b', c'⟩ := find_range h2
      have hj := (sl_bd (r := r) (j := j) (by lia)).mp (of_decide_eq_true b')
      have h5 := least _ hj
      have h6 : j + 1 ≤ p := by
        by_cases w : j + 1 ≤ p
        · exact w
        · have := c' (p - 1) (by lia)
          simp only [decide_eq_false_iff_not] at this
          exact absurd ((sl_bd (by have := h3.2.1; lia)).mpr (by rw [show p - 1 + 1 = p by lia]; exact h3)) this
      refine ⟨by simp only; lia, fun h => by simp at h, fun h => absurd h3 (h p)⟩
end

/-! the finite part -/
/-- p + 1 letters that agree, one behind the other -/
noncomputable def runp (p : Nat) : Nat → List Nat → List Nat → Bool
  | c, a :: r, b :: s => match Nat.beq a b with
    | true => (match c with
      | 0 => true
      | c' + 1 => runp p c' r s)
    | false => runp p p r s
  | _, _, _ => false
noncomputable def ovs (r : List Nat) : Nat → List Nat → Bool
  | _, [] => false
  | p, t :: ts => match runp p p r (t :: ts) with
    | true => true
    | false => ovs r (p + 1) ts
noncomputable def hasOv : List Nat → Bool
  | [] => false
  | x :: r => ovs (x :: r) 1 r
noncomputable def row4 (u v : List Nat) : List Nat := u ++ (v ++ (v ++ (u ++ (v ++ (u ++ (u ++ v))))))
noncomputable def compN (l : List Nat) : List Nat := l.map fun x => 1 - x
noncomputable def thueN : Nat → List Nat
  | 0 => [0]
  | n + 1 => thueN n ++ compN (thueN n)
noncomputable def isThue (u v : List Nat) : Bool := [0, 1, 2].any fun n => (u == thueN n && v == compN (thueN n)) || (u == compN (thueN n) && v == thueN n)
noncomputable def words5 : List (List Nat) := words4 ++ wordsE 5
noncomputable def chk4 (u v : List Nat) : Bool := match hasOv (row4 u v) with
  | true => !isThue u v
  | false => isThue u v
theorem chk4_45 : (words4.all fun u => words5.all fun v => chk4 u v) = true := by decide +kernel
theorem chk4_54 : ((wordsE 5).all fun u => words4.all fun v => chk4 u v) = true := by decide +kernel

theorem runp_iff {p : Nat} : ∀ (r s : List Nat) (c : Nat), c ≤ p → (runp p c r s = true ↔ (∀ j, j ≤ c → ∃ x, r[j]? = some x ∧ s[j]? = some x) ∨ ∃ k, (∀ j, j ≤ p → ∃ x, r[k + j]? = some x ∧ s[k + j]? = some x))
  | [], s, c, hc => by
    have : runp p c [] s = false := by cases c <;> rfl
    rw [this]
    constructor
    · intro h; cases h
    · intro h
      rcases h with h | ⟨k, h⟩
      · obtain ⟨x, h, _⟩ := h 0 (by lia); simp at h
      · obtain ⟨x, h, _⟩ := h 0 (by lia); simp at h
  | a :: r, [], c, hc => by
    have : runp p c (a :: r) [] = false := by cases c <;> rfl
    rw [this]
    constructor
    · intro h; cases h
    · intro h
      rcases h with h | ⟨k, h⟩
      · obtain ⟨x, _, h⟩ := h 0 (by lia); simp at h
      · obtain ⟨x, _, h⟩ := h 0 (by lia); simp at h
  | a :: r, b :: s, c, hc => by
    have e : runp p c (a :: r) (b :: s) = match Nat.beq a b with | true => (match c with | 0 => true | c' + 1 => runp p c' r s) | false => runp p p r s := by cases c <;> rfl
    rw [e]
    have shift : ∀ {k : Nat}, (∀ j, j ≤ p → ∃ x, (a :: r)[k + 1 + j]? = some x ∧ (b :: s)[k + 1 + j]? = some x) ↔ (∀ j, j ≤ p → ∃ x, r[k + j]? = some x ∧ s[k + j]? = some x) := fun {k} => by
      refine forall_congr' fun j => forall_congr' fun _ => ?_
      rw [show k + 1 + j = (k + j) + 1 by lia, List.getElem?_cons_succ, List.getElem?_cons_succ]
    cases q : Nat.beq a b with
    | true =>
      have hab := Nat.eq_of_beq_eq_true q
      subst hab
      cases c with
      | zero =>
        dsimp only
        constructor
        · intro _; exact .inl fun j hj => ⟨a, by rw [show j = 0 by lia]; exact ⟨rfl, rfl⟩⟩
        · intro _; rfl
      | succ c =>
        dsimp only
        rw [runp_iff r s c (by lia)]
        constructor
        · intro h
          rcases h with h | ⟨k, h⟩
          · refine .inl fun j hj => ?_
            cases j with
            | zero => exact ⟨a, rfl, rfl⟩
            | succ j => exact h j (by lia)
          · exact .inr ⟨k + 1, shift.mpr h⟩
        · intro h
          rcases h with h | ⟨k, h⟩
          · exact .inl fun j hj => h (j + 1) (by lia)
          · cases k with
            | zero => exact .inl fun j hj => by have := h (j + 1) (by lia); rw [Nat.zero_add] at this; exact this
            | succ k => exact .inr ⟨k, shift.mp h⟩
    | false =>
      have hab := Nat.ne_of_beq_eq_false q
      dsimp only
      rw [runp_iff r s p (Nat.le_refl _)]
      constructor
      · intro h
        refine .inr ?_
        rcases h with h | ⟨k, h⟩
        · exact ⟨1, fun j hj => by rw [show 1 + j = j + 1 by lia]; exact h j hj⟩
        · exact ⟨k + 1, shift.mpr h⟩
      · intro h
        rcases h with h | ⟨k, h⟩
        · obtain ⟨x, h1, h2⟩ := h 0 (by lia)
          simp at h1 h2; exact absurd (h1.trans h2.symm) hab
        · cases k with
          | zero => obtain ⟨x, h1, h2⟩ := h 0 (by lia); simp at h1 h2; exact absurd (h1.trans h2.symm) hab
          | succ k => exact .inr ⟨k, shift.mp h⟩

theorem ov_drop {r : List Nat} {k p : Nat} (hp : 1 ≤ p) : (∀ j, j ≤ p → ∃ x, r[k + j]? = some x ∧ (r.drop p)[k + j]? = some x) ↔ Ov (r.drop k) p := by
  constructor
  · intro h
    obtain ⟨x, _, hx⟩ := h p (Nat.le_refl _)
    rw [List.getElem?_drop] at hx
    obtain ⟨hl, _⟩ := List.getElem?_eq_some_iff.mp hx
    refine ⟨hp, by rw [List.length_drop]; lia, fun j hj => ?_⟩
    obtain ⟨x, h1, h2⟩ := h j hj
    rw [List.getElem?_drop] at h2
    rw [List.getElem?_drop, List.getElem?_drop, h1, show k + (p + j) = p + (k + j) by lia, h2]
  · intro ⟨_, hl, h⟩ j hj
    rw [List.length_drop] at hl
    have := h j hj
    rw [List.getElem?_drop, List.getElem?_drop] at this
    refine ⟨r[k + j]'(by lia), List.getElem?_eq_getElem _, ?_⟩
    rw [List.getElem?_drop, show p + (k + j) = k + (p + j) by lia, ← this]
    exact List.getElem?_eq_getElem _

theorem ovs_iff (r : List Nat) : ∀ (t : List Nat) (p : Nat), 1 ≤ p → t = r.drop p → (ovs r p t = true ↔ ∃ q k, p ≤ q ∧ Ov (r.drop k) q)
  | [], p, hp, ht => by
    constructor
    · intro h; cases h
    · intro ⟨q, k, h1, h2⟩
      have := h2.2.1
      rw [List.length_drop] at this
      have h3 : (r.drop p).length = 0 := by rw [← ht]; rfl
      rw [List.length_drop] at h3
      lia
  | a :: t, p, hp, ht => by
    have ht' : t = r.drop (p + 1) := by
      have := congrArg List.tail ht
      rw [List.tail_drop] at this; exact this
    have e : ovs r p (a :: t) = match runp p p r (a :: t) with | true => true | false => ovs r (p + 1) t := rfl
    rw [e]
    have h1 := runp_iff (p := p) r (a :: t) p (Nat.le_refl _)
    have h2 : ((∀ j, j ≤ p → ∃ x, r[j]? = some x ∧ (a :: t)[j]? = some x) ∨ ∃ k, (∀ j, j ≤ p → ∃ x, r[k + j]? = some x ∧ (a :: t)[k + j]? = some x)) ↔ ∃ k, Ov (r.drop k) p := by
      rw [ht]
      constructor
      · intro h
        rcases h with h | ⟨k, h⟩
        · exact ⟨0, (ov_drop hp).mp fun j hj => by rw [Nat.zero_add]; exact h j hj⟩
        · exact ⟨k, (ov_drop hp).mp h⟩
      · intro ⟨k, h⟩; exact .inr ⟨k, (ov_drop hp).mpr h⟩
    rw [h2] at h1
    cases q : runp p p r (a :: t) with
    | true =>
      obtain ⟨k, hk⟩ := h1.mp q
      exact ⟨fun _ => ⟨p, k, Nat.le_refl _, hk⟩, fun _ => rfl⟩
    | false =>
      dsimp only
      rw [ovs_iff r t (p + 1) (by lia) ht']
      constructor
      · intro ⟨q, k, a, b⟩; exact ⟨q, k, by lia, b⟩
      · intro ⟨q', k, a', b⟩
        refine ⟨q', k, ?_, b⟩
        by_cases w : q' = p
        · subst w; rw [h1.mpr ⟨k, b⟩] at q; cases q
        · lia
theorem hasOv_iff (r : List Nat) : hasOv r = true ↔ ∃ k p, Ov (r.drop k) p := by
  cases r with
  | nil =>
    constructor
    · intro h; cases h
    · intro ⟨k, p, h⟩; have := h.2.1; simp at this
  | cons x r =>
    show ovs (x :: r) 1 r = true ↔ _
    rw [ovs_iff (x :: r) r 1 (Nat.le_refl _) rfl]
    constructor
    · intro ⟨q, k, _, h⟩; exact ⟨k, q, h⟩
    · intro ⟨k, q, h⟩; exact ⟨q, k, h.1, h⟩
end Mine


namespace Mine

section
variable {F : FT} {T : TT} {N : Nat}

theorem concatM_flat {α : Type} {f : PV → Option (List PV)} {enc : α → PV} {g : α → List PV} {l : List α} (h : ∀ a ∈ l, f (enc a) = some (g a)) : concatM f (l.map enc) = some (l.flatMap g) := concatM_map h

theorem ev_list_nat {l m : List (List Nat)} : eqPV (.list (l.map nL)) (.list (m.map nL)) = some (decide (l = m)) :=
  eqPV_list (g := fun l => .list (l.map fun n : Nat => .int (n : Int))) (fun l => by simp only [toPy]; rw [toPys_map (g := fun n : Nat => .int (n : Int)) l fun _ _ => rfl]; rfl)
    (fun l => by simp only [PyData.canLay0]; exact canLayAll_map l fun _ _ => by simp [PyData.canLay0])
    (fun l => by have := depthAll_map (g := fun n : Nat => PyData.int (n : Int)) (n := 0) l fun _ _ => by simp [PyData.depth]
                 simp [PyData.depth]; lia)
    (fun a b => by
      simp only [PyData.eqv]
      exact eqvAll_map (fun a b => by
        simp only [PyData.eqv]
        by_cases q : a = b
        · subst q; simp
        · have : (a : Int) ≠ b := by lia
          simp [q, this]) a b) l m

theorem comp_lt {w : List Nat} : ∀ x ∈ compN w, x < 2 := fun x hx => by
  obtain ⟨y, _, rfl⟩ := List.mem_map.mp hx; lia
theorem comp_len {w : List Nat} : (compN w).length = w.length := by simp [compN]
theorem thue_lt : ∀ n, ∀ x ∈ thueN n, x < 2
  | 0, x, hx => by rw [thueN, List.mem_singleton] at hx; lia
  | n + 1, x, hx => by
    rcases List.mem_append.mp hx with h | h
    · exact thue_lt n x h
    · exact comp_lt x h
theorem thue_len : ∀ n, (thueN n).length = 2 ^ n
  | 0 => rfl
  | n + 1 => by rw [thueN, List.length_append, comp_len, thue_len n, Nat.pow_succ]; lia

theorem compl_ok {x o : Nat} {σ : Sig} {w : List Nat} {b : Bool} (h : σ x = some (nL w, b)) (hne : x ≠ o) (hl : w.length ≤ 1000) (hw : ∀ y ∈ w, y < 2) :
    evalE F T (.comp (.gen (.one o) (.var x) .nil (.elt (.bin .Sub (.lit (.int 1)) (.var o))))) σ = some (nL (compN w), .new) := by
  rw [comp_all (r := (nL w, if b then .bor else .frz)) w (fun n : Nat => .int (n : Int)) (fun n => .int ((1 - n : Nat) : Int)) (ev_var (show clr [o] σ x = some (nL w, b) by rw [clr_ne (by simpa using hne)]; exact h)) rfl (fun a ha => ?_) (by lia)]
  · simp [compN, nL, Function.comp_def]
  · have := hw a ha
    refine ⟨.frz, (ev_bin ev_lit (ev_var upd_same) bin_sub).trans ?_, by decide⟩
    rw [show (1 : Int) - (a : Int) = ((1 - a : Nat) : Int) by lia]

/-! _law_thue -/
noncomputable def thueD : Df := ⟨[0], (.assign 1 (.list (.cons (.lit (.int 0)) .nil)) (.freeze 1 (.for (.one 2) (.bi .range1 (.cons (.var 0) .nil)) (.assign 1 (.bin .Add (.var 1) (.comp (.gen (.one 3) (.var 1) .nil (.elt (.bin .Sub (.lit (.int 1)) (.var 3)))))) (.freeze 1 .nil)) (.ret (.list (.cons (.var 1) (.cons (.comp (.gen (.one 4) (.var 1) .nil (.elt (.bin .Sub (.lit (.int 1)) (.var 4))))) .nil)))))))⟩
theorem thue_ok {n : Nat} (hn : n ≤ 3) : runDf F T N thueD [.int (n : Int)] = some (.list [nL (thueN n), nL (compN (thueN n))], .new) := by
  refine run_ret rfl ?_
  show execK F T N (.assign 1 (.list (.cons (.lit (.int 0)) .nil)) _) (startS [0] [.int (n : Int)]) = _
  rw [x_new (ev_list1 ev_lit (by decide)), x_freeze upd_same]
  have h8 : ∀ k, k ≤ 3 → (thueN k).length ≤ 8 := fun k hk => by rw [thue_len]; exact Nat.pow_le_pow_right (by decide) hk
  obtain ⟨σ', e, h1⟩ := forS_inv (t := .one 2) (b := execK F T N (.assign 1 (.bin .Add (.var 1) (.comp (.gen (.one 3) (.var 1) .nil (.elt (.bin .Sub (.lit (.int 1)) (.var 3)))))) (.freeze 1 .nil)))
    (fun k σ => σ 1 = some (nL (thueN k), false)) ((List.range n).map fun j : Nat => .int (j : Int)) 0 (fun k x hx σ g => by
      simp only [List.getElem?_map, Option.map_eq_some_iff] at hx
      obtain ⟨j, hj, rfl⟩ := hx
      obtain ⟨hj1, _⟩ := List.getElem?_eq_some_iff.mp hj
      rw [List.length_range] at hj1
      rw [Nat.zero_add] at g ⊢
      have g1 : (upd σ 2 (.int (j : Int)) false) 1 = some (nL (thueN k), false) := g
      have hk := h8 k (by lia)
      have e1 : evalE F T (.bin .Add (.var 1) (.comp (.gen (.one 3) (.var 1) .nil (.elt (.bin .Sub (.lit (.int 1)) (.var 3)))))) (upd σ 2 (.int (j : Int)) false) = some (nL (thueN (k + 1)), .new) := by
        refine (ev_bin (ev_var g1) (compl_ok g1 (by decide) (by lia) (thue_lt k)) (bin_addL (by simp [comp_len]; lia))).trans ?_
        rw [← List.map_append]; rfl
      exact ⟨_, _, rfl, by rw [x_new e1, x_freeze upd_same, x_nil], upd_same⟩) (upd (upd (startS [0] [.int (n : Int)]) 1 (.list [.int 0]) true) 1 (.list [.int 0]) false) rfl
  rw [List.length_map, List.length_range, Nat.zero_add] at h1
  have e0 : ∀ σ : Sig, σ 0 = some (.int (n : Int), false) → evalE F T (.bi .range1 (.cons (.var 0) .nil)) σ = some (.range 0 (n : Int), .frz) := fun σ h => ev_bi1 (ev_var h) (range1_of (by lia))
  rw [x_for (e0 _ rfl) (by decide) (items_range0 n), e, seqO_next]
  exact x_ret (ev_list2 (ev_var h1) (by decide) (compl_ok h1 (by decide) (by have := h8 n hn; lia) (thue_lt n)) (by decide)) (by decide)

/-! _law_by_table, _law_by_slices -/
noncomputable def btD : Df := ⟨[0], (.assign 1 (.call 0 (.cons (.var 0) .nil)) (.freeze 1 (.assign 2 (.comp (.gen (.one 3) (.bi .range1 (.cons (.bi .len (.cons (.var 0) .nil)) .nil)) (.cons (.cmp .Gt (.bin .Mult (.lit (.int 2)) (.idx (.var 1) (.var 3))) (.bin .Add (.var 3) (.lit (.int 1)))) .nil) (.elt (.bin .Add (.var 3) (.lit (.int 1)))))) (.freeze 2 (.ret (.ite (.cmp .NotEq (.var 2) (.list .nil)) (.idx (.var 2) (.lit (.int 0))) (.lit (.int 0))))))))⟩
noncomputable def bsD : Df := ⟨[0], (.for (.one 1) (.bi .range2 (.cons (.lit (.int 1)) (.cons (.bin .Add (.bin .FloorDiv (.bin .Sub (.bi .len (.cons (.var 0) .nil)) (.lit (.int 1))) (.lit (.int 2))) (.lit (.int 1))) .nil))) (.ite (.cmp .Eq (.sliceH (.var 0) (.bin .Add (.var 1) (.lit (.int 1)))) (.sliceB (.var 0) (.var 1) (.bin .Add (.bin .Mult (.lit (.int 2)) (.var 1)) (.lit (.int 1))))) (.ret (.bin .Add (.bin .Mult (.lit (.int 2)) (.var 1)) (.lit (.int 1)))) .nil .nil) (.ret (.lit (.int 0))))⟩

theorem find_filter {p : Nat → Bool} : ∀ l : List Nat, l.find? p = (l.filter p)[0]?
  | [] => rfl
  | a :: r => by
    rw [List.find?_cons, List.filter_cons]
    cases p a with
    | true => rfl
    | false => exact find_filter r

theorem bt_ok (hF : FnOk F) {row : List Int} (hl : row.length ≤ 1000) : runDf F T N btD [iL row] = some (.int (tb row : Nat), .frz) := by
  refine run_ret rfl ?_
  have q0 : startS [0] [iL row] 0 = some (iL row, false) := rfl
  show execK F T N (.assign 1 _ _) (startS [0] [iL row]) = _
  rw [x_new (ev_call1 (ev_var q0) (by decide) (hF.ov (form_ints row (by lia)) (by lia))), x_freeze upd_same]
  generalize hσ : upd (upd (startS [0] [iL row]) 1 (nL (ovL row)) true) 1 (nL (ovL row)) false = σ1
  have r0 : σ1 0 = some (iL row, false) := by rw [← hσ]; rfl
  have r1 : σ1 1 = some (nL (ovL row), false) := by rw [← hσ]; exact upd_same
  let p : Nat → Bool := fun k => decide (2 * lb row k > k + 1)
  have ec : evalE F T (.comp (.gen (.one 3) (.bi .range1 (.cons (.bi .len (.cons (.var 0) .nil)) .nil)) (.cons (.cmp .Gt (.bin .Mult (.lit (.int 2)) (.idx (.var 1) (.var 3))) (.bin .Add (.var 3) (.lit (.int 1)))) .nil) (.elt (.bin .Add (.var 3) (.lit (.int 1)))))) σ1 =
      some (.list (((List.range row.length).filter p).map fun k : Nat => .int ((k + 1 : Nat) : Int)), .new) := by
    rw [comp_one (r := (.range 0 (row.length : Int), .frz)) (List.range row.length) (fun j : Nat => .int (j : Int)) p (fun k : Nat => .int ((k + 1 : Nat) : Int)) ?_ (items_range0 _) (fun j hj => ?_) (fun j hj _ => ?_) (by simp; lia)]
    · have q : clr [3] σ1 0 = some (iL row, false) := r0
      have := ev_len (F := F) (T := T) (ev_var q) (by simp; lia)
      rw [List.length_map] at this
      exact ev_bi1 this (range1_of (by lia))
    · rw [List.mem_range] at hj
      have g1 : (upd (clr [3] σ1) 3 (.int (j : Int)) false) 1 = some (nL (ovL row), false) := r1
      have g3 : evalE F T (.var 3) (upd (clr [3] σ1) 3 (.int (j : Int)) false) = some (.int (j : Int), .frz) := ev_var upd_same
      have hat : (ovL row)[j]? = some (lb row j) := by
        unfold ovL; rw [List.getElem?_map, List.getElem?_range hj]; rfl
      have hlb : lb row j ≤ j := lst_le _ _
      have hm : binPV .Mult (.int 2) (.int (lb row j : Nat)) = some (.int (2 * (lb row j : Nat)), .frz) := by
        show (if (smallI 2 && smallI (lb row j : Nat)) = true then mkI (2 * ((lb row j : Nat) : Int)) else Option.none) = _
        rw [small_of (i := 2) (by decide), small_of (i := ((lb row j : Nat) : Int)) (by lia)]; rfl
      refine evalI_one (f := .frz) ((ev_cmp (b := decide (2 * ((lb row j : Nat) : Int) > (j : Int) + 1)) (ev_bin ev_lit (ev_idx (ev_var g1) g3 (nL_at hat (by lia))) hm) (ev_bin g3 ev_lit bin_add) rfl).trans ?_)
      have : decide (2 * ((lb row j : Nat) : Int) > (j : Int) + 1) = p j := decide_eq_decide.mpr (by lia)
      rw [this]
    · refine ⟨.frz, (ev_bin (ev_var upd_same) ev_lit bin_add).trans ?_, by decide⟩
      rw [show (j : Int) + 1 = ((j + 1 : Nat) : Int) by lia]
  rw [x_new ec, x_freeze upd_same]
  generalize hσ2 : upd (upd σ1 2 _ true) 2 _ false = σ2
  have s2 : σ2 2 = some (.list (((List.range row.length).filter p).map fun k : Nat => .int ((k + 1 : Nat) : Int)), false) := by rw [← hσ2]; exact upd_same
  have hcast : (((List.range row.length).filter p).map fun k : Nat => PV.int ((k + 1 : Nat) : Int)) = (((List.range row.length).filter p).map fun k : Nat => ((k + 1 : Nat) : Int)).map .int := by simp
  have ene : evalE F T (.cmp .NotEq (.var 2) (.list .nil)) σ2 = some (.bool (!decide ((((List.range row.length).filter p).map fun k : Nat => ((k + 1 : Nat) : Int)) = [])), .frz) :=
    ev_cmp (ev_var s2) empty_list (cmp_ne (by rw [hcast]; exact eqPV_nil_ints _))
  refine x_ret (f := .frz) ?_ (by decide)
  rw [ev_ite ene]
  have htb : tb row = match (List.range row.length).find? p with | some k => k + 1 | none => 0 := rfl
  rw [find_filter] at htb
  cases e : (List.range row.length).filter p with
  | nil =>
    rw [htb, e, if_neg (by simp)]
    exact ev_lit
  | cons k ks =>
    rw [htb, e]
    rw [if_pos (by simp)]
    rw [e] at s2
    exact ev_idx (ev_var s2) ev_lit (list_at (j := 0) rfl (by decide))

theorem forS_find {t : Tgt} {b : Sig → Option Out} {I : Sig → Prop} {r : R} (p : Nat → Bool) (enc : Nat → PV) : ∀ (l : List Nat) (σ : Sig), I σ →
    (∀ k ∈ l, ∀ σ, I σ → ∃ σ1, bindT σ t (enc k) = some σ1 ∧ ((p k = false ∧ ∃ σ2, b σ1 = some (.next σ2) ∧ I σ2) ∨ (p k = true ∧ ∃ q, b σ1 = some (.ret q) ∧ (l.find? p = some k → q = r)))) →
    (∀ k, l.find? p = some k → forS t b (l.map enc) σ = some (.ret r)) ∧ (l.find? p = none → ∃ σ', forS t b (l.map enc) σ = some (.next σ') ∧ I σ')
  | [], σ, h0, _ => ⟨fun k h => (by cases h), fun _ => ⟨σ, rfl, h0⟩⟩
  | k :: ks, σ, h0, h => by
    obtain ⟨σ1, e1, h1⟩ := h k (.head _) σ h0
    have step : forS t b ((k :: ks).map enc) σ = (match b σ1 with | some (.next σ'') => forS t b (ks.map enc) σ'' | some (.brk σ'') => some (.next σ'') | q => q) := by
      show (match bindT σ t (enc k) with | some σ' => (match b σ' with | some (.next σ'') => forS t b (ks.map enc) σ'' | some (.brk σ'') => some (.next σ'') | q => q) | Option.none => Option.none) = _
      rw [e1]
    rw [step]
    rcases h1 with ⟨hp, σ2, e2, h2⟩ | ⟨hp, q, e2, h2⟩
    · rw [e2]
      have hf : (k :: ks).find? p = ks.find? p := by rw [List.find?_cons, hp]
      rw [hf]
      exact forS_find p enc ks σ2 h2 fun k' hk' σ hσ => by
        obtain ⟨s1, a, b'⟩ := h k' (.tail _ hk') σ hσ
        rw [hf] at b'
        exact ⟨s1, a, b'⟩
    · rw [e2]
      have hf : (k :: ks).find? p = some k := by rw [List.find?_cons, hp]
      rw [hf]
      exact ⟨fun _ _ => (by rw [h2 hf]), fun h => (by cases h)⟩

theorem bs_ok {row : List Int} (hl : row.length ≤ 1000) : runDf F T N bsD [iL row] = some (.int (sl row : Nat), .frz) := by
  refine run_ret rfl ?_
  let p : Nat → Bool := fun j => decide (row.take (j + 2) = (row.take (2 * (j + 1) + 1)).drop (j + 1))
  let n : Nat := (row.length - 1) / 2
  have q0 : startS [0] [iL row] 0 = some (iL row, false) := rfl
  have hlen : evalE F T (.bi .len (.cons (.var 0) .nil)) (startS [0] [iL row]) = some (.int (row.length : Int), .frz) := by
    have := ev_len (F := F) (T := T) (ev_var q0) (by simp; lia)
    rw [List.length_map] at this; exact this
  have er : evalE F T (.bi .range2 (.cons (.lit (.int 1)) (.cons (.bin .Add (.bin .FloorDiv (.bin .Sub (.bi .len (.cons (.var 0) .nil)) (.lit (.int 1))) (.lit (.int 2))) (.lit (.int 1))) .nil))) (startS [0] [iL row]) = some (.range 1 ((((row.length : Int) - 1) / 2 + 1)), .frz) :=
    ev_bi2 ev_lit (ev_bin (ev_bin (ev_bin hlen ev_lit bin_sub) ev_lit (bin_div (by decide) (by decide))) ev_lit bin_add) (range2_of (i := 1) (by decide) (by lia))
  have hit : itemsOf (.range 1 ((((row.length : Int) - 1) / 2 + 1))) = some ((List.range n).map fun j : Nat => .int ((j + 1 : Nat) : Int)) := by
    show some ((rangeL 1 _).map PV.int) = _
    unfold rangeL
    rw [show ((((row.length : Int) - 1) / 2 + 1) - 1).toNat = n by simp only [n]; lia, List.map_map]
    congr 1
    refine List.map_congr_left fun j _ => ?_
    show PV.int (1 + (j : Int)) = _
    rw [show 1 + (j : Int) = ((j + 1 : Nat) : Int) by lia]
  have hb := forS_find (t := .one 1) (b := execK F T N (.ite (.cmp .Eq (.sliceH (.var 0) (.bin .Add (.var 1) (.lit (.int 1)))) (.sliceB (.var 0) (.var 1) (.bin .Add (.bin .Mult (.lit (.int 2)) (.var 1)) (.lit (.int 1))))) (.ret (.bin .Add (.bin .Mult (.lit (.int 2)) (.var 1)) (.lit (.int 1)))) .nil .nil))
    (I := fun σ => σ 0 = some (iL row, false)) (r := (.int (sl row : Nat), .frz)) p (fun j : Nat => .int ((j + 1 : Nat) : Int)) (List.range n) (startS [0] [iL row]) q0 (fun j hj σ g => by
      rw [List.mem_range] at hj
      have hn : n = (row.length - 1) / 2 := rfl
      have g0 : (upd σ 1 (.int ((j + 1 : Nat) : Int)) false) 0 = some (iL row, false) := g
      have g1 : evalE F T (.var 1) (upd σ 1 (.int ((j + 1 : Nat) : Int)) false) = some (.int ((j + 1 : Nat) : Int), .frz) := ev_var upd_same
      have hm : binPV .Mult (.int 2) (.int ((j + 1 : Nat) : Int)) = some (.int (2 * ((j + 1 : Nat) : Int)), .frz) := by
        show (if (smallI 2 && smallI ((j + 1 : Nat) : Int)) = true then mkI (2 * ((j + 1 : Nat) : Int)) else Option.none) = _
        rw [small_of (i := 2) (by decide), small_of (i := ((j + 1 : Nat) : Int)) (by lia)]; rfl
      have e2 : evalE F T (.bin .Add (.bin .Mult (.lit (.int 2)) (.var 1)) (.lit (.int 1))) (upd σ 1 (.int ((j + 1 : Nat) : Int)) false) = some (.int ((2 * (j + 1) + 1 : Nat) : Int), .frz) := by
        refine (ev_bin (ev_bin ev_lit g1 hm) ev_lit bin_add).trans ?_
        rw [show 2 * ((j + 1 : Nat) : Int) + 1 = ((2 * (j + 1) + 1 : Nat) : Int) by lia]
      have e1 : evalE F T (.bin .Add (.var 1) (.lit (.int 1))) (upd σ 1 (.int ((j + 1 : Nat) : Int)) false) = some (.int ((j + 2 : Nat) : Int), .frz) := by
        refine (ev_bin g1 ev_lit bin_add).trans ?_
        rw [show ((j + 1 : Nat) : Int) + 1 = ((j + 2 : Nat) : Int) by lia]
      have ec : evalE F T (.cmp .Eq (.sliceH (.var 0) (.bin .Add (.var 1) (.lit (.int 1)))) (.sliceB (.var 0) (.var 1) (.bin .Add (.bin .Mult (.lit (.int 2)) (.var 1)) (.lit (.int 1))))) (upd σ 1 (.int ((j + 1 : Nat) : Int)) false) = some (.bool (p j), .frz) := by
        refine ev_cmp (ev_sliceH (ev_var g0) e1 (by simp; lia)) (ev_sliceB (ev_var g0) g1 e2 (by simp; lia)) (cmp_eq ?_)
        rw [← List.map_take, ← List.map_take, ← List.map_drop]
        exact eqPV_ints _ _
      refine ⟨_, rfl, ?_⟩
      cases q : p j with
      | false =>
        rw [q] at ec
        exact .inl ⟨rfl, _, by rw [x_ite ec, if_neg (by decide), x_nil, seqO_next, x_nil], g0⟩
      | true =>
        rw [q] at ec
        refine .inr ⟨rfl, _, by rw [x_ite ec, if_pos rfl, x_ret e2 (by decide), seqO_ret], fun hf => ?_⟩
        have : sl row = 2 * (j + 1) + 1 := by
          have : sl row = match (List.range n).find? p with | some j => 2 * (j + 1) + 1 | none => 0 := rfl
          rw [this, hf]
        rw [this])
  show execK F T N (.for (.one 1) _ _ (.ret (.lit (.int 0)))) (startS [0] [iL row]) = _
  rw [x_for er (by decide) hit]
  cases q : (List.range n).find? p with
  | some k => rw [hb.1 k q, seqO_ret]
  | none =>
    obtain ⟨σ', e, _⟩ := hb.2 q
    rw [e, seqO_next]
    have : sl row = 0 := by
      have : sl row = match (List.range n).find? p with | some j => 2 * (j + 1) + 1 | none => 0 := rfl
      rw [this, q]
    rw [this]
    exact x_ret ev_lit (by decide)
end
end Mine


namespace Mine

section
variable {F : FT} {T : TT} {N : Nat}

noncomputable def words4D : Df := ⟨[0, 1], (.ite (.cmp .Eq (.bin .Mod (.var 0) (.lit (.int 4))) (.lit (.int 3))) (.assign 2 (.list (.cons (.comp (.gen (.one 6) (.bi .range1 (.cons (.bin .Add (.lit (.int 1)) (.bin .Mod (.bin .FloorDiv (.var 0) (.lit (.int 4))) (.lit (.int 4)))) .nil)) .nil (.elt (.bin .Mod (.bin .FloorDiv (.bin .FloorDiv (.var 0) (.lit (.int 64))) (.bin .Pow (.lit (.int 2)) (.var 6))) (.lit (.int 2)))))) (.cons (.comp (.gen (.one 5) (.bi .range1 (.cons (.bin .Add (.lit (.int 1)) (.bin .Mod (.bin .FloorDiv (.var 0) (.lit (.int 16))) (.lit (.int 4)))) .nil)) .nil (.elt (.bin .Mod (.bin .FloorDiv (.bin .FloorDiv (.var 0) (.lit (.int 1024))) (.bin .Pow (.lit (.int 2)) (.var 5))) (.lit (.int 2)))))) .nil))) .nil) (.ite (.cmp .Eq (.bin .Mod (.bin .FloorDiv (.var 0) (.lit (.int 4))) (.lit (.int 2))) (.lit (.int 0))) (.assign 2 (.call 7 (.cons (.bin .Mod (.var 0) (.lit (.int 4))) .nil)) .nil) (.assign 2 (.list (.cons (.idx (.call 7 (.cons (.bin .Mod (.var 0) (.lit (.int 4))) .nil)) (.lit (.int 1))) (.cons (.idx (.call 7 (.cons (.bin .Mod (.var 0) (.lit (.int 4))) .nil)) (.lit (.int 0))) .nil))) .nil) .nil) (.assign 3 (.bin .Mod (.bin .FloorDiv (.var 1) (.lit (.int 4))) (.lit (.int 2))) (.ite (.cmp .Eq (.bin .Mod (.var 1) (.lit (.int 4))) (.lit (.int 2))) (.assign 4 (.bin .Mod (.bin .FloorDiv (.var 1) (.lit (.int 8))) (.bi .len (.cons (.idx (.var 2) (.var 3)) .nil))) (.setitem 2 (.var 3) (.bin .Add (.bin .Add (.sliceH (.idx (.var 2) (.var 3)) (.var 4)) (.list (.cons (.bin .Sub (.lit (.int 1)) (.idx (.idx (.var 2) (.var 3)) (.var 4))) .nil))) (.sliceL (.idx (.var 2) (.var 3)) (.bin .Add (.var 4) (.lit (.int 1))))) .nil)) (.ite (.cmp .Eq (.bin .Mod (.var 1) (.lit (.int 4))) (.lit (.int 3))) (.setitem 2 (.var 3) (.bin .Add (.idx (.var 2) (.var 3)) (.list (.cons (.bin .Mod (.bin .FloorDiv (.var 1) (.lit (.int 8))) (.lit (.int 2))) .nil))) .nil) .nil .nil) (.retv 2))))⟩
noncomputable def Pair4 (u v : List Nat) : Prop := (isW 4 u ∧ isW 5 v) ∨ (isW 5 u ∧ isW 4 v)
theorem isW_bits {c one : Int} {n : Nat} (h : 1 ≤ n ∧ n ≤ 4) : isW 4 ((List.range n).map fun k => ((one / c / 2 ^ k) % 2).toNat) :=
  ⟨by rw [List.length_map, List.length_range]; exact h.1, by rw [List.length_map, List.length_range]; exact h.2, bits_lt⟩
theorem isW_thue {n : Nat} (hn : n ≤ 2) : isW 4 (thueN n) ∧ isW 4 (compN (thueN n)) := by
  have h1 : 1 ≤ 2 ^ n := Nat.one_le_two_pow
  have h2 : 2 ^ n ≤ 2 ^ 2 := Nat.pow_le_pow_right (by decide) hn
  exact ⟨⟨by rw [thue_len]; exact h1, by rw [thue_len]; exact h2, thue_lt n⟩, ⟨by rw [comp_len, thue_len]; exact h1, by rw [comp_len, thue_len]; exact h2, comp_lt⟩⟩

theorem words4_ok (hth : ∀ n : Nat, n ≤ 3 → F 7 [.int (n : Int)] = some (.list [nL (thueN n), nL (compN (thueN n))], .new)) {kind change : Int} (h1 : 0 ≤ kind) (h2 : 0 ≤ change) :
    ∃ u v, runDf F T N words4D [.int kind, .int change] = some (.list [nL u, nL v], .new) ∧ Pair4 u v := by
  have q0 : startS [0, 1] [.int kind, .int change] 0 = some (.int kind, false) := rfl
  have q1 : startS [0, 1] [.int kind, .int change] 1 = some (.int change, false) := rfl
  generalize hσ : startS [0, 1] [.int kind, .int change] = σ at q0 q1
  have em : ∀ {σ : Sig} {x : Nat} {i : Int} {m : Int}, σ x = some (.int i, false) → 0 < m → evalE F T (.bin .Mod (.var x) (.lit (.int m))) σ = some (.int (i % m), .frz) := fun g hm => ev_bin (ev_var g) ev_lit (bin_mod hm)
  -- the words ahead of the change
  have base : ∃ u v, isW 4 u ∧ isW 4 v ∧ ∀ r : K, execK F T N (.ite (.cmp .Eq (.bin .Mod (.var 0) (.lit (.int 4))) (.lit (.int 3))) (.assign 2 (.list (.cons (.comp (.gen (.one 6) (.bi .range1 (.cons (.bin .Add (.lit (.int 1)) (.bin .Mod (.bin .FloorDiv (.var 0) (.lit (.int 4))) (.lit (.int 4)))) .nil)) .nil (.elt (.bin .Mod (.bin .FloorDiv (.bin .FloorDiv (.var 0) (.lit (.int 64))) (.bin .Pow (.lit (.int 2)) (.var 6))) (.lit (.int 2)))))) (.cons (.comp (.gen (.one 5) (.bi .range1 (.cons (.bin .Add (.lit (.int 1)) (.bin .Mod (.bin .FloorDiv (.var 0) (.lit (.int 16))) (.lit (.int 4)))) .nil)) .nil (.elt (.bin .Mod (.bin .FloorDiv (.bin .FloorDiv (.var 0) (.lit (.int 1024))) (.bin .Pow (.lit (.int 2)) (.var 5))) (.lit (.int 2)))))) .nil))) .nil) (.ite (.cmp .Eq (.bin .Mod (.bin .FloorDiv (.var 0) (.lit (.int 4))) (.lit (.int 2))) (.lit (.int 0))) (.assign 2 (.call 7 (.cons (.bin .Mod (.var 0) (.lit (.int 4))) .nil)) .nil) (.assign 2 (.list (.cons (.idx (.call 7 (.cons (.bin .Mod (.var 0) (.lit (.int 4))) .nil)) (.lit (.int 1))) (.cons (.idx (.call 7 (.cons (.bin .Mod (.var 0) (.lit (.int 4))) .nil)) (.lit (.int 0))) .nil))) .nil) .nil) r) σ =
      execK F T N r (upd σ 2 (.list [nL u, nL v]) true) := by
    have e1 := ev_cmp (F := F) (T := T) (em q0 (m := 4) (by decide)) (ev_lit (c := .int 3)) (cmp_eq (eqPV_int _ _))
    by_cases z : kind % 4 = 3
    · let n := (1 + kind / 4 % 4).toNat
      let m := (1 + kind / 16 % 4).toNat
      have hn : 1 ≤ n ∧ n ≤ 4 := by simp only [n]; lia
      have hm : 1 ≤ m ∧ m ≤ 4 := by simp only [m]; lia
      have hnc : (1 + kind / 4 % 4) = (n : Int) := by simp only [n]; lia
      have hmc : (1 + kind / 16 % 4) = (m : Int) := by simp only [m]; lia
      refine ⟨_, _, isW_bits (c := 64) (one := kind) hn, isW_bits (c := 1024) (one := kind) hm, fun r => ?_⟩
      have c1 : ∀ {v : Nat} {c : Int}, v ≠ 0 → 0 < c → c < 1000 → ∀ {k : Nat}, (1 + kind / c % 4) = (k : Int) → evalE F T (.bin .Add (.lit (.int 1)) (.bin .Mod (.bin .FloorDiv (.var 0) (.lit (.int c))) (.lit (.int 4)))) (clr [v] σ) = some (.int (k : Int), .frz) := fun {v c} hv hc hc' {k} hk => by
        have g : clr [v] σ 0 = some (.int kind, false) := by rw [clr_ne (by simpa using Ne.symm hv)]; exact q0
        rw [← hk]
        exact ev_bin ev_lit (ev_bin (ev_bin (ev_var g) ev_lit (bin_div hc (by lia))) ev_lit (bin_mod (by decide))) bin_add
      have b1 := bits_comp (F := F) (T := T) (v := 6) (x := 0) (c := 64) (one := kind) q0 (c1 (v := 6) (by decide) (by decide) (by decide) hnc) (by lia) (by decide) (by decide) (by decide) h1
      have b2 := bits_comp (F := F) (T := T) (v := 5) (x := 0) (c := 1024) (one := kind) q0 (c1 (v := 5) (by decide) (by decide) (by decide) hmc) (by lia) (by decide) (by decide) (by decide) h1
      rw [x_ite e1, decide_eq_true z, if_pos rfl, x_new (ev_list2 b1 (by decide) b2 (by decide)), x_nil, seqO_next]
    · let n := (kind % 4).toNat
      have hn : n ≤ 2 := by simp only [n]; lia
      have hnc : kind % 4 = (n : Int) := by simp only [n]; lia
      have ec : evalE F T (.call 7 (.cons (.bin .Mod (.var 0) (.lit (.int 4))) .nil)) σ = some (.list [nL (thueN n), nL (compN (thueN n))], .new) :=
        ev_call1 (em q0 (by decide)) (by decide) (by rw [hnc]; exact hth n (by lia))
      obtain ⟨w1, w2⟩ := isW_thue hn
      have e2 := ev_cmp (F := F) (T := T) (ev_bin (ev_bin (ev_var q0) (ev_lit (c := .int 4)) (bin_div (by decide) (by decide))) (ev_lit (c := .int 2)) (bin_mod (by decide))) (ev_lit (c := .int 0)) (cmp_eq (eqPV_int _ _))
      by_cases y : kind / 4 % 2 = 0
      · refine ⟨_, _, w1, w2, fun r => ?_⟩
        rw [x_ite e1, decide_eq_false z, if_neg (by decide), x_ite e2, decide_eq_true y, if_pos rfl, x_new ec, x_nil, seqO_next, x_nil, seqO_next]
      · refine ⟨_, _, w2, w1, fun r => ?_⟩
        have el := ev_list2 (F := F) (T := T) (ev_idx ec (ev_lit (c := .int 1)) (list_at (j := 1) rfl (by decide))) (by decide) (ev_idx ec (ev_lit (c := .int 0)) (list_at (j := 0) rfl (by decide))) (by decide)
        rw [x_ite e1, decide_eq_false z, if_neg (by decide), x_ite e2, decide_eq_false y, if_neg (by decide), x_new el, x_nil, seqO_next, x_nil, seqO_next]
  obtain ⟨u, v, hu, hv, hb⟩ := base
  let o := (change / 4 % 2).toNat
  have ho : o = 0 ∨ o = 1 := by simp only [o]; lia
  have hoc : change / 4 % 2 = (o : Int) := by simp only [o]; lia
  -- a change of one word
  have fin : ∀ w : List Nat, isW 5 w → Pair4 (if o = 0 then w else u) (if o = 0 then v else w) ∧ ([nL u, nL v].set o (nL w) = [nL (if o = 0 then w else u), nL (if o = 0 then v else w)]) := fun w hw => by
    rcases ho with e | e <;> rw [e]
    · exact ⟨.inr ⟨hw, hv⟩, rfl⟩
    · exact ⟨.inl ⟨hu, hw⟩, rfl⟩
  obtain ⟨wo, hwo, hwat⟩ : ∃ wo, isW 4 wo ∧ [nL u, nL v][o]? = some (nL wo) := by
    rcases ho with e | e <;> rw [e]
    · exact ⟨u, hu, rfl⟩
    · exact ⟨v, hv, rfl⟩
  have start : ∀ (r : K) (out : R), execK F T N r (upd (upd σ 2 (.list [nL u, nL v]) true) 3 (.int (o : Int)) false) = some (.ret out) → ∀ c a b d, execK F T N (.ite c a b (.assign 3 (.bin .Mod (.bin .FloorDiv (.var 1) (.lit (.int 4))) (.lit (.int 2))) r)) σ = execK F T N (.assign 3 (.bin .Mod (.bin .FloorDiv (.var 1) (.lit (.int 4))) (.lit (.int 2))) r) d → d = upd σ 2 (.list [nL u, nL v]) true →
      execK F T N (.ite c a b (.assign 3 (.bin .Mod (.bin .FloorDiv (.var 1) (.lit (.int 4))) (.lit (.int 2))) r)) σ = some (.ret out) := fun r out hr c a b d h hd => by
    subst hd
    have e3 : evalE F T (.bin .Mod (.bin .FloorDiv (.var 1) (.lit (.int 4))) (.lit (.int 2))) (upd σ 2 (.list [nL u, nL v]) true) = some (.int (o : Int), .frz) := by
      rw [← hoc]
      exact ev_bin (ev_bin (ev_var (show (upd σ 2 (.list [nL u, nL v]) true) 1 = some (.int change, false) from q1)) ev_lit (bin_div (by decide) (by decide))) ev_lit (bin_mod (by decide))
    rw [h, x_frz e3, hr]
  generalize hσ3 : upd (upd σ 2 (.list [nL u, nL v]) true) 3 (.int (o : Int)) false = σ3 at start
  have r1 : σ3 1 = some (.int change, false) := by rw [← hσ3]; exact q1
  have r2 : σ3 2 = some (.list [nL u, nL v], true) := by rw [← hσ3]; rfl
  have r3 : σ3 3 = some (.int (o : Int), false) := by rw [← hσ3]; rfl
  have hwi : ∀ {σ : Sig}, σ 2 = some (.list [nL u, nL v], true) → σ 3 = some (.int (o : Int), false) → evalE F T (.idx (.var 2) (.var 3)) σ = some (nL wo, .frz) := fun g2 g3 => ev_idx (ev_var g2) (ev_var g3) (list_at hwat (by lia))
  have c2 := ev_cmp (F := F) (T := T) (em r1 (m := 4) (by decide)) (ev_lit (c := .int 2)) (cmp_eq (eqPV_int _ _))
  have c3 := ev_cmp (F := F) (T := T) (em r1 (m := 4) (by decide)) (ev_lit (c := .int 3)) (cmp_eq (eqPV_int _ _))
  obtain ⟨wl1, wl2, wl3⟩ := hwo
  by_cases z2 : change % 4 = 2
  · let p := (change / 8 % (wo.length : Int)).toNat
    have hp0 := Int.emod_nonneg (change / 8) (b := (wo.length : Int)) (by lia)
    have hp1 := Int.emod_lt_of_pos (change / 8) (b := (wo.length : Int)) (by lia)
    have hp : p < wo.length := by simp only [p]; lia
    have hpc : change / 8 % (wo.length : Int) = (p : Int) := by simp only [p]; lia
    let w := wo.take p ++ [1 - wo[p]] ++ wo.drop (p + 1)
    have hw : isW 5 w := by
      have hl : w.length = wo.length := by simp only [w, List.length_append, List.length_take, List.length_drop, List.length_singleton]; lia
      refine ⟨by lia, by lia, fun x hx => ?_⟩
      rcases List.mem_append.mp hx with hx | hx
      · rcases List.mem_append.mp hx with hx | hx
        · exact wl3 x (List.mem_of_mem_take hx)
        · rw [List.mem_singleton] at hx; lia
      · exact wl3 x (List.mem_of_mem_drop hx)
    obtain ⟨f1, f2⟩ := fin w hw
    refine ⟨_, _, run_ret rfl ?_, f1⟩
    show execK F T N words4D.k (startS [0, 1] [.int kind, .int change]) = _
    rw [hσ]
    refine start _ _ ?_ _ _ _ _ (hb _) rfl
    have e4 : evalE F T (.bin .Mod (.bin .FloorDiv (.var 1) (.lit (.int 8))) (.bi .len (.cons (.idx (.var 2) (.var 3)) .nil))) σ3 = some (.int (p : Int), .frz) := by
      rw [← hpc]
      have hlen := ev_len (F := F) (T := T) (hwi r2 r3) (by simp; lia)
      rw [List.length_map] at hlen
      exact ev_bin (ev_bin (ev_var r1) ev_lit (bin_div (by decide) (by decide))) hlen (bin_mod (by lia))
    rw [x_ite c2, decide_eq_true z2, if_pos rfl, x_frz e4]
    generalize hσ4 : upd σ3 4 (.int (p : Int)) false = σ4
    have t2 : σ4 2 = some (.list [nL u, nL v], true) := by rw [← hσ4]; exact r2
    have t3 : σ4 3 = some (.int (o : Int), false) := by rw [← hσ4]; exact r3
    have t4 : evalE F T (.var 4) σ4 = some (.int (p : Int), .frz) := ev_var (o := false) (show σ4 4 = some (.int (p : Int), false) by rw [← hσ4]; exact upd_same)
    have hwl : (wo.map fun n : Nat => PV.int (n : Int)).length ≤ 1048576 := by rw [List.length_map]; lia
    have es := ev_app (F := F) (T := T) (ev_app (ev_sliceH (hwi t2 t3) t4 hwl) (ev_list1 (ev_bin (ev_lit (c := .int 1)) (ev_idx (hwi t2 t3) t4 (nL_at (List.getElem?_eq_getElem hp) (by lia))) bin_sub) (by decide)) (by simp; lia))
      (ev_sliceL (k := p + 1) (hwi t2 t3) ((ev_bin t4 ev_lit bin_add).trans (by rw [show (p : Int) + 1 = ((p + 1 : Nat) : Int) by lia])) hwl) (by simp; lia)
    have hval : ((wo.map fun n : Nat => PV.int (n : Int)).take p ++ [PV.int (1 - (wo[p] : Nat))] ++ (wo.map fun n : Nat => PV.int (n : Int)).drop (p + 1)) = w.map fun n : Nat => PV.int (n : Int) := by
      have := wl3 wo[p] (List.getElem_mem hp)
      simp only [w, List.map_append, List.map_take, List.map_drop, List.map_cons, List.map_nil]
      rw [show (1 : Int) - ((wo[p] : Nat) : Int) = ((1 - wo[p] : Nat) : Int) by lia]
    rw [hval] at es
    rw [x_setitem es (by decide) (ev_var t3) t2 (setL (by simp; lia) (by simp)), f2, x_nil, seqO_next]
    exact x_retv upd_same
  · by_cases z3 : change % 4 = 3
    · let l := (change / 8 % 2).toNat
      have hlc : change / 8 % 2 = (l : Int) := by simp only [l]; lia
      have hw : isW 5 (wo ++ [l]) := ⟨by simp, by simp; lia, fun x hx => by
        rcases List.mem_append.mp hx with hx | hx
        · exact wl3 x hx
        · rw [List.mem_singleton] at hx; simp only [l] at hx; lia⟩
      obtain ⟨f1, f2⟩ := fin _ hw
      refine ⟨_, _, run_ret rfl ?_, f1⟩
      show execK F T N words4D.k (startS [0, 1] [.int kind, .int change]) = _
      rw [hσ]
      refine start _ _ ?_ _ _ _ _ (hb _) rfl
      have es := ev_app (F := F) (T := T) (hwi r2 r3) (ev_list1 (ev_bin (ev_bin (ev_var r1) (ev_lit (c := .int 8)) (bin_div (by decide) (by decide))) (ev_lit (c := .int 2)) (bin_mod (by decide))) (by decide)) (by simp; lia)
      have hval : ((wo.map fun n : Nat => PV.int (n : Int)) ++ [PV.int (change / 8 % 2)]) = (wo ++ [l]).map fun n : Nat => PV.int (n : Int) := by rw [hlc]; simp
      rw [hval] at es
      rw [x_ite c2, decide_eq_false z2, if_neg (by decide), x_ite c3, decide_eq_true z3, if_pos rfl, x_setitem es (by decide) (ev_var r3) r2 (setL (by simp; lia) (by simp)), f2, x_nil, seqO_next, x_nil, seqO_next]
      exact x_retv upd_same
    · refine ⟨u, v, run_ret rfl ?_, .inl ⟨hu, hv.1, Nat.le_succ_of_le hv.2.1, hv.2.2⟩⟩
      show execK F T N words4D.k (startS [0, 1] [.int kind, .int change]) = _
      rw [hσ]
      refine start _ _ ?_ _ _ _ _ (hb _) rfl
      rw [x_ite c2, decide_eq_false z2, if_neg (by decide), x_ite c3, decide_eq_false z3, if_neg (by decide), x_nil, seqO_next, x_nil, seqO_next]
      exact x_retv r2
end
end Mine


namespace Mine

/-! plain -/
theorem ov_map {α β : Type} {g : α → β} {r : List α} (hg : ∀ a ∈ r, ∀ b ∈ r, g a = g b → a = b) {p : Nat} : Ov (r.map g) p ↔ Ov r p := by
  unfold Ov
  rw [List.length_map]
  refine and_congr_right fun _ => and_congr_right fun hl => forall_congr' fun j => forall_congr' fun hj => ?_
  rw [List.getElem?_map, List.getElem?_map]
  have h1 : r[j]? = some r[j] := List.getElem?_eq_getElem (by lia)
  have h2 : r[p + j]? = some r[p + j] := List.getElem?_eq_getElem (by lia)
  rw [h1, h2]
  simp only [Option.map_some, Option.some.injEq]
  exact ⟨fun h => hg _ (List.getElem_mem _) _ (List.getElem_mem _) h, fun h => by rw [h]⟩
theorem mem_row4 {u v : List Nat} (hu : ∀ x ∈ u, x < 2) (hv : ∀ x ∈ v, x < 2) : ∀ x ∈ row4 u v, x < 2 := fun x hx => by
  unfold row4 at hx
  simp only [List.mem_append] at hx
  rcases hx with h | h | h | h | h | h | h | h <;> first | exact hu x h | exact hv x h
theorem pair4_len {u v : List Nat} (h : Pair4 u v) : 1 ≤ u.length ∧ u.length ≤ 5 ∧ 1 ≤ v.length ∧ v.length ≤ 5 ∧ (∀ x ∈ u, x < 2) ∧ ∀ x ∈ v, x < 2 := by
  rcases h with ⟨⟨h1, h2, h3⟩, h4, h5, h6⟩ | ⟨⟨h1, h2, h3⟩, h4, h5, h6⟩
  · exact ⟨h1, by lia, h4, h5, h3, h6⟩
  · exact ⟨h1, h2, h4, by lia, h3, h6⟩
theorem row4_len {u v : List Nat} : (row4 u v).length = 4 * u.length + 4 * v.length := by
  unfold row4; simp only [List.length_append]; lia
theorem mem_words5 {l : List Nat} (h : isW 5 l) : l ∈ words5 := by
  unfold words5
  by_cases e : l.length = 5
  · have := mem_wordsE l h.2.2
    rw [e] at this
    exact List.mem_append_right _ this
  · have h2 := h.2.1
    exact List.mem_append_left _ (mem_words4 ⟨h.1, by lia, h.2.2⟩)
theorem chk4_of {u v : List Nat} (h : Pair4 u v) : chk4 u v = true := by
  rcases h with ⟨hu, hv⟩ | ⟨hu, hv⟩
  · exact List.all_eq_true.mp (List.all_eq_true.mp chk4_45 u (mem_words4 hu)) v (mem_words5 hv)
  · by_cases e : u.length = 5
    · have hm := mem_wordsE u hu.2.2
      rw [e] at hm
      exact List.all_eq_true.mp (List.all_eq_true.mp chk4_54 u hm) v (mem_words4 hv)
    · have h2 := hu.2.1
      exact List.all_eq_true.mp (List.all_eq_true.mp chk4_45 u (mem_words4 ⟨hu.1, by lia, hu.2.2⟩)) v (mem_words5 ⟨hv.1, by have := hv.2.1; lia, hv.2.2⟩)
/-- nowhere an overlap just where the words are Thue's -/
theorem thue_told {u v : List Nat} (h : Pair4 u v) : isThue u v = true ↔ ∀ k, ∀ p, ¬ Ov ((row4 u v).drop k) p := by
  have hc := chk4_of h
  unfold chk4 at hc
  have hi := hasOv_iff (row4 u v)
  cases q : hasOv (row4 u v) with
  | true =>
    rw [q] at hc
    have ht : isThue u v = false := by simpa using hc
    obtain ⟨k, p, hk⟩ := hi.mp q
    rw [ht]
    exact ⟨fun h => (by cases h), fun h => absurd hk (h k p)⟩
  | false =>
    rw [q] at hc
    rw [show isThue u v = true from hc]
    exact ⟨fun _ k p hk => (by rw [hi.mpr ⟨k, p, hk⟩] at q; cases q), fun _ => rfl⟩

section
variable {F : FT} {T : TT} {N : Nat}

theorem ev_dict3 {k l m : Int} {a b c : CE} {σ : Sig} {t u v : PV} {f g h : Fl} (hk : [k, l, m].Nodup) (ha : evalE F T a σ = some (t, f)) (hf : f ≠ .bor) (hb : evalE F T b σ = some (u, g)) (hg : g ≠ .bor) (hc : evalE F T c σ = some (v, h)) (hh : h ≠ .bor) :
    evalE F T (.dict [k, l, m] (.cons a (.cons b (.cons c .nil)))) σ = some (.dict [k, l, m] [t, u, v], .new) := by
  ((first | rw [evE_lit] | rw [evE_var] | rw [evE_gint] | rw [evE_bin] | rw [evE_neg] | rw [evE_not] | rw [evE_bop] | rw [evE_cmp] | rw [evE_chain] | rw [evE_ite] | rw [evE_list] | rw [evE_tuple] | rw [evE_dict] | rw [evE_idx] | rw [evE_tok] | rw [evE_sliceL] | rw [evE_sliceH] | rw [evE_sliceB] | rw [evE_call] | rw [evE_bi] | rw [evE_join] | rw [evE_index] | rw [evE_comp]); (first | rw [evEs_nil] | rw [evEs_cons])); rw [ha]; cases f <;> first | exact absurd rfl hf | (dsimp only [kept]; (first | rw [evEs_nil] | rw [evEs_cons]); rw [hb]; cases g <;> first | exact absurd rfl hg | (dsimp only [kept]; (first | rw [evEs_nil] | rw [evEs_cons]); rw [hc]; cases h <;> first | exact absurd rfl hh | (dsimp only [kept]; (first | rw [evEs_nil] | rw [evEs_cons]); dsimp only; rw [if_pos (by rw [decide_eq_true hk]; rfl)])))

noncomputable def g4 (a b : Nat) (l : Nat) : Int := if l = 0 then 7 + (a : Int) else 7 + (b : Int)
noncomputable def sg4 (s t : Str) (l : Nat) : PV := if l = 0 then .str s else .str t
theorem g4_range {a b : Nat} (ha : a < 48) (hb : b < 48) (l : Nat) : 7 ≤ g4 a b l ∧ g4 a b l < 55 := by unfold g4; split <;> lia
noncomputable def syms4 : List Int := [256, 257, 257, 256, 257, 256, 256, 257]
noncomputable def rules4 (s t : Str) (u v : List Nat) : PV := .dict [258, 256, 257] [iL syms4, .list (u.map (sg4 s t)), .list (v.map (sg4 s t))]
noncomputable def ru4 (a b : Nat) (u v : List Nat) (x : Int) : Option (List Int) := if x = 258 then some syms4 else if x = 256 then some (u.map (g4 a b)) else if x = 257 then some (v.map (g4 a b)) else Option.none

theorem row4_ok (hF : FnOk F) {a b : Nat} {s t : Str} (ha : a < 48) (hb : b < 48) (hs : T s = some (7 + (a : Int))) (ht : T t = some (7 + (b : Int))) {u v : List Nat} (hu : u.length ≤ 5) (hv : v.length ≤ 5) (hN : 1000 ≤ N) :
    runDf F T N writD [rules4 s t u v, iL [258]] = some (iL ((row4 u v).map (g4 a b)), .frz) := by
  have hm : ∀ w : List Nat, (w.map (sg4 s t)).map (rdT T) = (w.map (g4 a b)).map some := fun w => by
    rw [List.map_map, List.map_map]
    refine List.map_congr_left fun l _ => ?_
    show rdT T (sg4 s t l) = some (g4 a b l)
    unfold sg4 g4
    split
    · exact hs
    · exact ht
  have hr : ∀ w : List Nat, ∀ x ∈ w.map (g4 a b), 0 < x ∧ x < 256 := fun w x hx => by
    obtain ⟨l, _, rfl⟩ := List.mem_map.mp hx
    have := g4_range ha hb l; lia
  have stepA : ∀ (n : Nat) (t row : List Int), writ (ru4 a b u v) (n + (u.length + 1)) (256 :: t) row = writ (ru4 a b u v) n t (row ++ u.map (g4 a b)) := fun n t row => by
    rw [show n + (u.length + 1) = (n + (u.map (g4 a b)).length) + 1 by rw [List.length_map]; rfl, writ_exp (l := u.map (g4 a b)) rfl (by decide), writ_terms _ _ _ _ (hr u)]
  have stepB : ∀ (n : Nat) (t row : List Int), writ (ru4 a b u v) (n + (v.length + 1)) (257 :: t) row = writ (ru4 a b u v) n t (row ++ v.map (g4 a b)) := fun n t row => by
    rw [show n + (v.length + 1) = (n + (v.map (g4 a b)).length) + 1 by rw [List.length_map]; rfl, writ_exp (l := v.map (g4 a b)) rfl (by decide), writ_terms _ _ _ _ (hr v)]
  let A := u.length + 1
  let B := v.length + 1
  refine writD_ok hF (ru := ru4 a b u v) (fun x l hx => ?_) (n := (((((((((0 + 1) + B) + A) + A) + B) + A) + B) + B) + A) + 1) (by simp only [A, B]; lia) (by simp only [A, B]; lia) (by decide) ?_
  · unfold ru4 at hx
    split at hx
    · rename_i e; subst e; cases hx
      exact ⟨by decide, _, rfl, rfl⟩
    · split at hx
      · rename_i e; subst e; cases hx
        exact ⟨by rw [List.length_map]; lia, _, rfl, hm u⟩
      · split at hx
        · rename_i e; subst e; cases hx
          exact ⟨by rw [List.length_map]; lia, _, rfl, hm v⟩
        · cases hx
  · show writ _ _ (258 :: [0]) [] = _
    rw [writ_exp (l := syms4) rfl (by decide)]
    show writ _ _ (256 :: 257 :: 257 :: 256 :: 257 :: 256 :: 256 :: 257 :: [0]) [] = _
    rw [stepA, stepB, stepB, stepA, stepB, stepA, stepA, stepB, writ_end]
    simp [row4]

structure Fn4 (F : FT) (T : TT) : Prop where
  ok : FnOk F
  draws : ∀ is : List Int, is.length ≤ 63 → ∃ a b c d, F 6 [iL is] = some (iL [a, b, c, d], .new) ∧ 0 ≤ a ∧ 0 ≤ b ∧ 0 ≤ c ∧ 0 ≤ d
  thue : ∀ n : Nat, n ≤ 3 → F 7 [.int (n : Int)] = some (.list [nL (thueN n), nL (compN (thueN n))], .new)
  words : ∀ kind change : Int, 0 ≤ kind → 0 ≤ change → ∃ u v, F 8 [.int kind, .int change] = some (.list [nL u, nL v], .new) ∧ Pair4 u v
  writ : ∀ {a b : Nat} {s t : Str}, a < 48 → b < 48 → T s = some (7 + (a : Int)) → T t = some (7 + (b : Int)) → ∀ {u v : List Nat}, u.length ≤ 5 → v.length ≤ 5 → F 9 [rules4 s t u v, iL [258]] = some (iL ((row4 u v).map (g4 a b)), .frz)
  longest : ∀ row : List Int, row.length ≤ 1000 → F 10 [iL row] = some (nL (ovL row), .new)
  table : ∀ row : List Int, row.length ≤ 1000 → F 11 [iL row] = some (.int (tb row : Nat), .frz)
  slices : ∀ row : List Int, row.length ≤ 1000 → F 12 [iL row] = some (.int (sl row : Nat), .frz)

noncomputable def lawD4 : Df := ⟨[0], (.assign 1 (.call 6 (.cons (.var 0) .nil)) (.freeze 1 (.assign 2 (.call 8 (.cons (.idx (.var 1) (.lit (.int 0))) (.cons (.idx (.var 1) (.lit (.int 1))) .nil))) (.freeze 2 (.assign 3 (.bin .Mod (.idx (.var 1) (.lit (.int 2))) (.lit (.int 48))) (.assign 4 (.bin .Mod (.bin .Add (.bin .Add (.var 3) (.lit (.int 1))) (.bin .Mod (.idx (.var 1) (.lit (.int 3))) (.lit (.int 47)))) (.lit (.int 48))) (.assign 5 (.list (.cons (.idx (.call 5 .nil) (.var 3)) (.cons (.idx (.call 5 .nil) (.var 4)) .nil))) (.freeze 5 (.assign 6 (.dict [258, 256, 257] (.cons (.list (.cons (.lit (.int 256)) (.cons (.lit (.int 257)) (.cons (.lit (.int 257)) (.cons (.lit (.int 256)) (.cons (.lit (.int 257)) (.cons (.lit (.int 256)) (.cons (.lit (.int 256)) (.cons (.lit (.int 257)) .nil))))))))) (.cons (.comp (.gen (.one 16) (.idx (.var 2) (.lit (.int 0))) .nil (.elt (.idx (.var 5) (.var 16))))) (.cons (.comp (.gen (.one 15) (.idx (.var 2) (.lit (.int 1))) .nil (.elt (.idx (.var 5) (.var 15))))) .nil)))) (.freeze 6 (.assign 7 (.call 9 (.cons (.var 6) (.cons (.list (.cons (.lit (.int 258)) .nil)) .nil))) (.freeze 7 (.ite (.cmp .NotEq (.var 7) (.comp (.gen (.one 17) (.tuple (.cons (.lit (.int 0)) (.cons (.lit (.int 1)) (.cons (.lit (.int 1)) (.cons (.lit (.int 0)) (.cons (.lit (.int 1)) (.cons (.lit (.int 0)) (.cons (.lit (.int 0)) (.cons (.lit (.int 1)) .nil))))))))) .nil (.gen (.one 18) (.idx (.var 2) (.var 17)) .nil (.elt (.idx (.list (.cons (.bin .Add (.lit (.int 7)) (.var 3)) (.cons (.bin .Add (.lit (.int 7)) (.var 4)) .nil))) (.var 18))))))) (.ret (.lit (.bool false))) .nil (.assign 8 (.bi .bytes1 (.cons (.var 7) .nil)) (.assign 9 (.call 0 (.cons (.var 8) .nil)) (.freeze 9 (.assign 10 (.comp (.gen (.one 19) (.var 9) (.cons (.bop .Or (.cons (.cmp .Is (.var 19) (.lit (.bool true))) (.cons (.cmp .Is (.var 19) (.lit (.bool false))) .nil))) .nil) (.elt (.var 19)))) (.freeze 10 (.ite (.bop .Or (.cons (.cmp .IsNot (.call 1 (.cons (.var 8) .nil)) (.lit (.bool true))) (.cons (.cmp .NotEq (.var 9) (.call 10 (.cons (.var 7) .nil))) (.cons (.cmp .NotEq (.var 10) (.list .nil)) .nil)))) (.ret (.lit (.bool false))) .nil (.assign 11 (.lit (.bool false)) (.for (.one 12) (.bi .range1 (.cons (.lit (.int 3)) .nil)) (.assign 13 (.call 7 (.cons (.var 12) .nil)) (.freeze 13 (.assign 11 (.bop .Or (.cons (.var 11) (.cons (.cmp .Eq (.var 2) (.var 13)) (.cons (.cmp .Eq (.var 2) (.list (.cons (.idx (.var 13) (.lit (.int 1))) (.cons (.idx (.var 13) (.lit (.int 0))) .nil)))) .nil)))) .nil))) (.assign 14 (.comp (.gen (.one 20) (.bi .range1 (.cons (.bi .len (.cons (.var 7) .nil)) .nil)) .nil (.elt (.call 11 (.cons (.sliceL (.var 7) (.var 20)) .nil))))) (.freeze 14 (.ite (.bop .And (.cons (.not (.var 11)) (.cons (.cmp .NotEq (.var 14) (.comp (.gen (.one 21) (.bi .range1 (.cons (.bi .len (.cons (.var 7) .nil)) .nil)) .nil (.elt (.call 12 (.cons (.sliceL (.var 7) (.var 21)) .nil)))))) .nil))) (.ret (.lit (.bool false))) .nil (.ret (.cmp .Is (.cmp .Eq (.bi .max1 (.cons (.var 14) .nil)) (.lit (.int 0))) (.var 11)))))))))))))))))))))))))))⟩

theorem max_zero {l : List Nat} (h : l ≠ []) : ∃ m : Nat, biPV .max1 [nL l] = some (.int (m : Int), .frz) ∧ (m = 0 ↔ ∀ x ∈ l, x = 0) := by
  have e1 : biPV .max1 [nL l] = (maxL (l.map fun n : Nat => (n : Int))).map fun m => (PV.int m, Fl.frz) := by
    show (match intsOf _ with | some is => (maxL is).map fun m => (PV.int m, Fl.frz) | Option.none => Option.none) = _
    rw [intsOf_map (f := fun n : Nat => (n : Int))]
  cases e : maxL (l.map fun n : Nat => (n : Int)) with
  | none =>
    cases l with
    | nil => exact absurd rfl h
    | cons x r => cases e
  | some m =>
    obtain ⟨h1, h2⟩ := maxL_spec e
    obtain ⟨a, ha, rfl⟩ := List.mem_map.mp h1
    refine ⟨a, by rw [e1, e]; rfl, fun h0 x hx => ?_, fun h0 => h0 a ha⟩
    have := h2 _ (List.mem_map_of_mem (f := fun n : Nat => (n : Int)) hx)
    lia

theorem law4_ok (H : Fn4 F T) (hT : ∀ n : Nat, n < 48 → ∃ s, SIGNS[n]? = some s ∧ T s = some (7 + (n : Int))) {is : List Int} (hi : is.length ≤ 63) : runDf F T N lawD4 [iL is] = some (.bool true, .frz) := by
  refine run_ret rfl ?_
  obtain ⟨a, b, c, d, hd, pa, pb, pc, pd⟩ := H.draws is hi
  show execK F T N (.assign 1 _ _) (startS [0] [iL is]) = _
  have e1 : evalE F T (.call 6 (.cons (.var 0) .nil)) (startS [0] [iL is]) = some (iL [a, b, c, d], .new) := ev_call1 (ev_var (t := iL is) (o := false) rfl) (by decide) hd
  rw [x_new e1, x_freeze upd_same]
  generalize hσ1 : upd (upd (startS [0] [iL is]) 1 (iL [a, b, c, d]) true) 1 (iL [a, b, c, d]) false = σ1
  have q1 : σ1 1 = some (iL [a, b, c, d], false) := by rw [← hσ1]; exact upd_same
  have dr : ∀ {σ : Sig} {k : Nat} {x : Int}, σ 1 = some (iL [a, b, c, d], false) → [a, b, c, d][k]? = some x → k < 10 → evalE F T (.idx (.var 1) (.lit (.int (k : Int)))) σ = some (.int x, .frz) := fun g h hk =>
    ev_idx (ev_var g) ev_lit (iL_at h (by lia))
  obtain ⟨u, v, hw, hP⟩ := H.words a b pa pb
  obtain ⟨hu1, hu2, hv1, hv2, hu3, hv3⟩ := pair4_len hP
  have e2 : evalE F T (.call 8 (.cons (.idx (.var 1) (.lit (.int 0))) (.cons (.idx (.var 1) (.lit (.int 1))) .nil))) σ1 = some (.list [nL u, nL v], .new) :=
    ev_call2 (dr (k := 0) q1 rfl (by decide)) (by decide) (dr (k := 1) q1 rfl (by decide)) (by decide) hw
  rw [x_new e2, x_freeze upd_same]
  let fi : Nat := (c % 48).toNat
  have hfi : c % 48 = (fi : Int) := by simp only [fi]; lia
  have hf48 : fi < 48 := by simp only [fi]; lia
  let se : Nat := ((fi : Int) + 1 + d % 47).toNat % 48
  have hse : ((fi : Int) + 1 + d % 47) % 48 = (se : Int) := by simp only [se]; omega
  have hs48 : se < 48 := Nat.mod_lt _ (by decide)
  have hne : fi ≠ se := by omega
  obtain ⟨s, hs1, hs2⟩ := hT fi hf48
  obtain ⟨t, ht1, ht2⟩ := hT se hs48
  generalize hσ2 : upd (upd σ1 2 (.list [nL u, nL v]) true) 2 (.list [nL u, nL v]) false = σ2
  have r1 : σ2 1 = some (iL [a, b, c, d], false) := by rw [← hσ2]; exact q1
  have r2 : σ2 2 = some (.list [nL u, nL v], false) := by rw [← hσ2]; exact upd_same
  have e4 : evalE F T (.bin .Mod (.idx (.var 1) (.lit (.int 2))) (.lit (.int 48))) σ2 = some (.int (fi : Int), .frz) := by
    rw [← hfi]
    exact ev_bin (dr (k := 2) r1 rfl (by decide)) ev_lit (bin_mod (by decide))
  rw [x_frz e4]
  have e5 : evalE F T (.bin .Mod (.bin .Add (.bin .Add (.var 3) (.lit (.int 1))) (.bin .Mod (.idx (.var 1) (.lit (.int 3))) (.lit (.int 47)))) (.lit (.int 48))) (upd σ2 3 (.int (fi : Int)) false) = some (.int (se : Int), .frz) := by
    rw [← hse]
    exact ev_bin (ev_bin (ev_bin (ev_var (t := .int (fi : Int)) (o := false) rfl) ev_lit bin_add) (ev_bin (dr (k := 3) (σ := upd σ2 3 (.int (fi : Int)) false) r1 rfl (by decide)) ev_lit (bin_mod (by decide))) bin_add) ev_lit (bin_mod (by decide))
  rw [x_frz e5]
  generalize hσ3 : upd (upd σ2 3 (.int (fi : Int)) false) 4 (.int (se : Int)) false = σ3
  have s2 : σ3 2 = some (.list [nL u, nL v], false) := by rw [← hσ3]; exact r2
  have s3 : σ3 3 = some (.int (fi : Int), false) := by rw [← hσ3]; rfl
  have s4 : σ3 4 = some (.int (se : Int), false) := by rw [← hσ3]; rfl
  have e6 : evalE F T (.list (.cons (.idx (.call 5 .nil) (.var 3)) (.cons (.idx (.call 5 .nil) (.var 4)) .nil))) σ3 = some (.list [.str s, .str t], .new) :=
    ev_list2 (ev_idx (ev_call0 H.ok.signs) (ev_var s3) (list_at (by rw [List.getElem?_map, hs1]; rfl) (by lia))) (by decide)
      (ev_idx (ev_call0 H.ok.signs) (ev_var s4) (list_at (by rw [List.getElem?_map, ht1]; rfl) (by lia))) (by decide)
  rw [x_new e6, x_freeze upd_same]
  generalize hσ4 : upd (upd σ3 5 (.list [.str s, .str t]) true) 5 (.list [.str s, .str t]) false = σ4
  have t2 : σ4 2 = some (.list [nL u, nL v], false) := by rw [← hσ4]; exact s2
  have t3 : σ4 3 = some (.int (fi : Int), false) := by rw [← hσ4]; exact s3
  have t4 : σ4 4 = some (.int (se : Int), false) := by rw [← hσ4]; exact s4
  have t5 : σ4 5 = some (.list [.str s, .str t], false) := by rw [← hσ4]; exact upd_same
  have ew : ∀ {o : Nat} {k : Nat} {w : List Nat}, [nL u, nL v][k]? = some (nL w) → k < 2 → 5 < o → w.length ≤ 5 → (∀ y ∈ w, y < 2) → evalE F T (.comp (.gen (.one o) (.idx (.var 2) (.lit (.int (k : Int)))) .nil (.elt (.idx (.var 5) (.var o))))) σ4 = some (.list (w.map (sg4 s t)), .new) := fun {o k w} h hk h5 hl hw => by
    have g2 : clr [o] σ4 2 = some (.list [nL u, nL v], false) := by rw [clr_ne (by simp; lia)]; exact t2
    rw [comp_all (r := (nL w, .frz)) w (fun n : Nat => .int (n : Int)) (sg4 s t) (ev_idx (ev_var g2) ev_lit (list_at h (by lia))) rfl (fun l hl => ?_) (by lia)]
    have hl2 := hw l hl
    have g5 : (upd (clr [o] σ4) o (.int (l : Int)) false) 5 = some (.list [.str s, .str t], false) := by rw [upd_ne (by lia), clr_ne (by simp; lia)]; exact t5
    refine ⟨.frz, ev_idx (ev_var g5) (ev_var upd_same) ?_, by decide⟩
    rcases (show l = 0 ∨ l = 1 by lia) with rfl | rfl <;> rfl
  have esy : evalE F T (.list (.cons (.lit (.int 256)) (.cons (.lit (.int 257)) (.cons (.lit (.int 257)) (.cons (.lit (.int 256)) (.cons (.lit (.int 257)) (.cons (.lit (.int 256)) (.cons (.lit (.int 256)) (.cons (.lit (.int 257)) .nil))))))))) σ4 = some (iL syms4, .new) := rfl
  have ew0 : evalE F T (.comp (.gen (.one 16) (.idx (.var 2) (.lit (.int 0))) .nil (.elt (.idx (.var 5) (.var 16))))) σ4 = some (.list (u.map (sg4 s t)), .new) := ew (k := 0) rfl (by decide) (by decide) hu2 hu3
  have ew1 : evalE F T (.comp (.gen (.one 15) (.idx (.var 2) (.lit (.int 1))) .nil (.elt (.idx (.var 5) (.var 15))))) σ4 = some (.list (v.map (sg4 s t)), .new) := ew (k := 1) rfl (by decide) (by decide) hv2 hv3
  rw [x_new (ev_dict3 (by decide) esy (by decide) ew0 (by decide) ew1 (by decide)), x_freeze upd_same]
  generalize hσ5 : upd (upd σ4 6 (.dict [258, 256, 257] [iL syms4, .list (u.map (sg4 s t)), .list (v.map (sg4 s t))]) true) 6 (.dict [258, 256, 257] [iL syms4, .list (u.map (sg4 s t)), .list (v.map (sg4 s t))]) false = σ5
  have k2 : σ5 2 = some (.list [nL u, nL v], false) := by rw [← hσ5]; exact t2
  have k3 : σ5 3 = some (.int (fi : Int), false) := by rw [← hσ5]; exact t3
  have k4 : σ5 4 = some (.int (se : Int), false) := by rw [← hσ5]; exact t4
  have k6 : σ5 6 = some (rules4 s t u v, false) := by rw [← hσ5]; rfl
  let w := row4 u v
  let row := w.map (g4 fi se)
  have hwl : w.length = 4 * u.length + 4 * v.length := row4_len
  have hrl : row.length = w.length := by simp only [row, List.length_map]
  have hw2 : ∀ x ∈ w, x < 2 := mem_row4 hu3 hv3
  have hrr : ∀ y ∈ row, 0 ≤ y ∧ y < 256 := fun y hy => by
    obtain ⟨l, _, rfl⟩ := List.mem_map.mp hy
    have := g4_range hf48 hs48 l; lia
  have hg : ∀ x ∈ w, ∀ y ∈ w, g4 fi se x = g4 fi se y → x = y := fun x hx y hy e => by
    have := hw2 x hx
    have := hw2 y hy
    unfold g4 at e
    split at e <;> split at e <;> lia
  have e7 : evalE F T (.call 9 (.cons (.var 6) (.cons (.list (.cons (.lit (.int 258)) .nil)) .nil))) σ5 = some (iL row, .frz) :=
    ev_call2 (ev_var k6) (by decide) (ev_list1 ev_lit (by decide)) (by decide) (H.writ hf48 hs48 hs2 ht2 hu2 hv2)
  rw [x_frz e7, x_freeze' upd_same]
  generalize hσ6 : upd σ5 7 (iL row) false = σ6
  have m2 : σ6 2 = some (.list [nL u, nL v], false) := by rw [← hσ6]; exact k2
  have m3 : σ6 3 = some (.int (fi : Int), false) := by rw [← hσ6]; exact k3
  have m4 : σ6 4 = some (.int (se : Int), false) := by rw [← hσ6]; exact k4
  have m7 : σ6 7 = some (iL row, false) := by rw [← hσ6]; exact upd_same
  -- the row meant
  have edue : evalE F T (.comp (.gen (.one 17) (.tuple (.cons (.lit (.int 0)) (.cons (.lit (.int 1)) (.cons (.lit (.int 1)) (.cons (.lit (.int 0)) (.cons (.lit (.int 1)) (.cons (.lit (.int 0)) (.cons (.lit (.int 0)) (.cons (.lit (.int 1)) .nil))))))))) .nil (.gen (.one 18) (.idx (.var 2) (.var 17)) .nil (.elt (.idx (.list (.cons (.bin .Add (.lit (.int 7)) (.var 3)) (.cons (.bin .Add (.lit (.int 7)) (.var 4)) .nil))) (.var 18)))))) σ6 = some (iL row, .new) := by
    have hsum : ([0, 1, 1, 0, 1, 0, 0, 1].flatMap fun k : Nat => (if k = 0 then u else v).map fun l => PV.int (g4 fi se l)) = row.map .int := by
      simp [row, w, row4, Function.comp_def]
    rw [comp_two (r := (.tuple [.int 0, .int 1, .int 1, .int 0, .int 1, .int 0, .int 0, .int 1], .frz)) [0, 1, 1, 0, 1, 0, 0, 1] (fun n : Nat => .int (n : Int)) (fun k => if k = 0 then u else v) (fun n : Nat => .int (n : Int)) (fun _ l => .int (g4 fi se l)) rfl rfl (fun k hk => ?_) (fun k hk l hl => ?_) (by rw [hsum, List.length_map]; lia), hsum]
    · have g2 : (upd (clr [17, 18] σ6) 17 (.int (k : Int)) false) 2 = some (.list [nL u, nL v], false) := m2
      refine ⟨nL (if k = 0 then u else v), .frz, ev_idx (ev_var g2) (ev_var upd_same) ?_, by decide, rfl⟩
      simp only [List.mem_cons, List.not_mem_nil, or_false] at hk
      rcases (show k = 0 ∨ k = 1 by lia) with rfl | rfl <;> rfl
    · have hl2 : l < 2 := by
        by_cases z : k = 0
        · rw [if_pos z] at hl; exact hu3 l hl
        · rw [if_neg z] at hl; exact hv3 l hl
      have g3 : (upd (upd (clr [17, 18] σ6) 17 (.int (k : Int)) false) 18 (.int (l : Int)) false) 3 = some (.int (fi : Int), false) := m3
      have g4' : (upd (upd (clr [17, 18] σ6) 17 (.int (k : Int)) false) 18 (.int (l : Int)) false) 4 = some (.int (se : Int), false) := m4
      refine ⟨.frz, ev_idx (ev_list2 (ev_bin ev_lit (ev_var g3) bin_add) (by decide) (ev_bin ev_lit (ev_var g4') bin_add) (by decide)) (ev_var upd_same) ?_, by decide⟩
      rcases (show l = 0 ∨ l = 1 by lia) with rfl | rfl <;> rfl
  have en := ev_cmp (F := F) (T := T) (ev_var m7) edue (cmp_ne (eqPV_ints row row))
  rw [decide_eq_true rfl] at en
  rw [x_ite en, if_neg (by decide), x_nil, seqO_next]
  have e8 : evalE F T (.bi .bytes1 (.cons (.var 7) .nil)) σ6 = some (.bytes (row.map fun i => UInt8.ofNat i.toNat), .frz) := ev_bi1 (ev_var m7) (bytes_of hrr (by lia))
  rw [x_frz e8]
  generalize hσ7 : upd σ6 8 (.bytes (row.map fun i => UInt8.ofNat i.toNat)) false = σ7
  have n2 : σ7 2 = some (.list [nL u, nL v], false) := by rw [← hσ7]; exact m2
  have n7 : σ7 7 = some (iL row, false) := by rw [← hσ7]; exact m7
  have n8 : σ7 8 = some (.bytes (row.map fun i => UInt8.ofNat i.toNat), false) := by rw [← hσ7]; exact upd_same
  have e9 : evalE F T (.call 0 (.cons (.var 8) .nil)) σ7 = some (nL (ovL row), .new) := ev_call1 (ev_var n8) (by decide) (H.ok.ov (form_bytes row (by lia) hrr) (by lia))
  rw [x_new e9, x_freeze upd_same]
  generalize hσ8 : upd (upd σ7 9 (nL (ovL row)) true) 9 (nL (ovL row)) false = σ8
  have o2 : σ8 2 = some (.list [nL u, nL v], false) := by rw [← hσ8]; exact n2
  have o7 : σ8 7 = some (iL row, false) := by rw [← hσ8]; exact n7
  have o8 : σ8 8 = some (.bytes (row.map fun i => UInt8.ofNat i.toNat), false) := by rw [← hσ8]; exact n8
  have o9 : σ8 9 = some (nL (ovL row), false) := by rw [← hσ8]; exact upd_same
  have e10 := truths_ok (F := F) (T := T) (x := 9) (o := 19) o9 (by decide) (by simp [ovL]; lia)
  unfold truthsE at e10
  rw [x_new e10, x_freeze upd_same]
  generalize hσ9 : upd (upd σ8 10 (.list []) true) 10 (.list []) false = σ9
  have a2 : σ9 2 = some (.list [nL u, nL v], false) := by rw [← hσ9]; exact o2
  have a7 : σ9 7 = some (iL row, false) := by rw [← hσ9]; exact o7
  have a8 : σ9 8 = some (.bytes (row.map fun i => UInt8.ofNat i.toNat), false) := by rw [← hσ9]; exact o8
  have a9 : σ9 9 = some (nL (ovL row), false) := by rw [← hσ9]; exact o9
  have a10 : σ9 10 = some (.list [], false) := by rw [← hσ9]; exact upd_same
  have eo := or3 (F := F) (T := T) (σ := σ9) (a := .cmp .IsNot (.call 1 (.cons (.var 8) .nil)) (.lit (.bool true))) (b := .cmp .NotEq (.var 9) (.call 10 (.cons (.var 7) .nil))) (c := .cmp .NotEq (.var 10) (.list .nil)) (x := false) (y := false) (z := false) (f := .frz) (g := .frz) (h := .frz)
    (ev_cmp (ev_call1 (ev_var a8) (by decide) (H.ok.strB _)) ev_lit rfl)
    (fun _ => by
      have := ev_cmp (F := F) (T := T) (ev_var a9) (ev_call1 (ev_var a7) (by decide) (H.longest row (by lia))) (cmp_ne (eqPV_nats (ovL row) (ovL row)))
      rw [decide_eq_true rfl] at this; exact this)
    (fun _ _ => by
      have := ev_cmp (F := F) (T := T) (ev_var a10) empty_list (cmp_ne (eqPV_nil_ints []))
      rw [decide_eq_true rfl] at this; exact this)
  rw [x_ite eo, if_neg (by decide), x_nil, seqO_next, x_frz (ev_lit (c := .bool false))]
  -- Thue's words
  let tf : Nat → Bool := fun n => (u == thueN n && v == compN (thueN n)) || (u == compN (thueN n) && v == thueN n)
  obtain ⟨σ10, eL, b2, b7, b11⟩ := forS_inv (t := .one 12) (b := execK F T N (.assign 13 (.call 7 (.cons (.var 12) .nil)) (.freeze 13 (.assign 11 (.bop .Or (.cons (.var 11) (.cons (.cmp .Eq (.var 2) (.var 13)) (.cons (.cmp .Eq (.var 2) (.list (.cons (.idx (.var 13) (.lit (.int 1))) (.cons (.idx (.var 13) (.lit (.int 0))) .nil)))) .nil)))) .nil))))
    (fun k σ => σ 2 = some (.list [nL u, nL v], false) ∧ σ 7 = some (iL row, false) ∧ σ 11 = some (.bool ((List.range k).any tf), false)) ((List.range 3).map fun j : Nat => .int (j : Int)) 0 (fun k x hx σ ⟨g2, g7, g11⟩ => by
      simp only [List.getElem?_map, Option.map_eq_some_iff] at hx
      obtain ⟨j, hj, rfl⟩ := hx
      obtain ⟨hj1, hj2⟩ := List.getElem?_eq_some_iff.mp hj
      rw [List.getElem_range] at hj2
      subst hj2
      rw [List.length_range] at hj1
      rw [Nat.zero_add] at g11 ⊢
      have e13 : evalE F T (.call 7 (.cons (.var 12) .nil)) (upd σ 12 (.int (k : Int)) false) = some (.list [nL (thueN k), nL (compN (thueN k))], .new) := ev_call1 (ev_var upd_same) (by decide) (H.thue k (by lia))
      refine ⟨upd σ 12 (.int (k : Int)) false, ?_⟩
      rw [x_new e13, x_freeze upd_same]
      generalize hτ : upd (upd (upd σ 12 (.int (k : Int)) false) 13 (.list [nL (thueN k), nL (compN (thueN k))]) true) 13 (.list [nL (thueN k), nL (compN (thueN k))]) false = τ
      have h2 : τ 2 = some (.list [nL u, nL v], false) := by rw [← hτ]; exact g2
      have h7 : τ 7 = some (iL row, false) := by rw [← hτ]; exact g7
      have h11 : τ 11 = some (.bool ((List.range k).any tf), false) := by rw [← hτ]; exact g11
      have h13 : τ 13 = some (.list [nL (thueN k), nL (compN (thueN k))], false) := by rw [← hτ]; exact upd_same
      have c1 := ev_cmp (F := F) (T := T) (ev_var h2) (ev_var h13) (cmp_eq (ev_list_nat (l := [u, v]) (m := [thueN k, compN (thueN k)])))
      have c2 := ev_cmp (F := F) (T := T) (ev_var h2) (ev_list2 (ev_idx (ev_var h13) (ev_lit (c := .int 1)) (list_at (j := 1) rfl (by decide))) (by decide) (ev_idx (ev_var h13) (ev_lit (c := .int 0)) (list_at (j := 0) rfl (by decide))) (by decide)) (cmp_eq (ev_list_nat (l := [u, v]) (m := [compN (thueN k), thueN k])))
      have eo := or3 (F := F) (T := T) (ev_var h11) (fun _ => c1) (fun _ _ => c2)
      refine ⟨upd τ 11 (.bool ((List.range k).any tf || (decide ([u, v] = [thueN k, compN (thueN k)]) || decide ([u, v] = [compN (thueN k), thueN k])))) false, rfl, by rw [x_frz eo, x_nil], h2, h7, ?_⟩
      rw [upd_same, List.range_succ, List.any_append]
      have : (decide ([u, v] = [thueN k, compN (thueN k)]) || decide ([u, v] = [compN (thueN k), thueN k])) = [k].any tf := by
        rw [Bool.eq_iff_iff]
        simp [tf]
      rw [this]) (upd σ9 11 (.bool false) false) ⟨a2, a7, rfl⟩
  have er3 : evalE F T (.bi .range1 (.cons (.lit (.int 3)) .nil)) (upd σ9 11 (.bool false) false) = some (.range 0 ((3 : Nat) : Int), .frz) := ev_bi1 ev_lit (range1_of (i := 3) (by decide))
  rw [x_for er3 (by decide) (items_range0 3), eL, seqO_next]
  have b11' : σ10 11 = some (.bool (isThue u v), false) := b11
  -- the lengths told
  have hlen7 : ∀ {σ : Sig}, σ 7 = some (iL row, false) → evalE F T (.bi .len (.cons (.var 7) .nil)) σ = some (.int (row.length : Int), .frz) := fun g => by
    have := ev_len (F := F) (T := T) (ev_var g) (by simp; lia)
    rw [List.length_map] at this; exact this
  have each : ∀ {σ : Sig} {o f : Nat} {g : List Int → Nat}, σ 7 = some (iL row, false) → 7 < o → (∀ r : List Int, r.length ≤ 1000 → F f [iL r] = some (.int (g r : Nat), .frz)) →
      evalE F T (.comp (.gen (.one o) (.bi .range1 (.cons (.bi .len (.cons (.var 7) .nil)) .nil)) .nil (.elt (.call f (.cons (.sliceL (.var 7) (.var o)) .nil))))) σ = some (nL ((List.range row.length).map fun k => g (row.drop k)), .new) := fun {σ o f g} g7 ho hf => by
    have q : clr [o] σ 7 = some (iL row, false) := by rw [clr_ne (by simp; lia)]; exact g7
    rw [comp_all (r := (.range 0 (row.length : Int), .frz)) (List.range row.length) (fun j : Nat => .int (j : Int)) (fun k => .int (g (row.drop k) : Nat)) (ev_bi1 (hlen7 q) (range1_of (by lia))) (items_range0 _) (fun k hk => ?_) (by simp; lia)]
    · simp [nL, Function.comp_def]
    · have g1 : (upd (clr [o] σ) o (.int (k : Int)) false) 7 = some (iL row, false) := by rw [upd_ne (by lia)]; exact q
      refine ⟨.frz, ev_call1 (ev_sliceL (ev_var g1) (ev_var upd_same) (by simp; lia)) (by decide) ?_, by decide⟩
      rw [← List.map_drop]
      exact hf _ (by rw [List.length_drop]; lia)
  have hsame : ((List.range row.length).map fun k => sl (row.drop k)) = (List.range row.length).map fun k => tb (row.drop k) := List.map_congr_left fun k _ => (tb_eq_sl _).1.symm
  rw [x_new (each b7 (by decide) H.table), x_freeze upd_same]
  generalize hσ11 : upd (upd σ10 14 (nL ((List.range row.length).map fun k => tb (row.drop k))) true) 14 (nL ((List.range row.length).map fun k => tb (row.drop k))) false = σ11
  have d7 : σ11 7 = some (iL row, false) := by rw [← hσ11]; exact b7
  have d11 : σ11 11 = some (.bool (isThue u v), false) := by rw [← hσ11]; exact b11'
  have d14 : σ11 14 = some (nL ((List.range row.length).map fun k => tb (row.drop k)), false) := by rw [← hσ11]; exact upd_same
  have es := each (o := 21) (f := 12) d7 (by decide) H.slices
  rw [hsame] at es
  have ea := and2 (F := F) (T := T) (σ := σ11) (ev_not (ev_var d11)) (fun _ => ev_cmp (ev_var d14) es (cmp_ne (eqPV_nats _ _)))
  rw [decide_eq_true rfl, show (!isThue u v && !true) = false by simp] at ea
  rw [x_ite ea, if_neg (by decide), x_nil, seqO_next]
  obtain ⟨m, hm1, hm2⟩ := max_zero (l := (List.range row.length).map fun k => tb (row.drop k)) (fun h => by
    have := congrArg List.length h
    rw [List.length_map, List.length_range] at this
    simp only [List.length_nil] at this
    omega)
  have htold : decide ((m : Int) = 0) = isThue u v := by
    rw [Bool.eq_iff_iff, decide_eq_true_eq, thue_told hP]
    rw [show ((m : Int) = 0) ↔ m = 0 by omega, hm2]
    have mapd : ∀ k, row.drop k = (w.drop k).map (g4 fi se) := fun k => by simp only [row, List.map_drop]
    have hgd : ∀ k, ∀ x ∈ w.drop k, ∀ y ∈ w.drop k, g4 fi se x = g4 fi se y → x = y := fun k x hx y hy => hg x (List.mem_of_mem_drop hx) y (List.mem_of_mem_drop hy)
    constructor
    · intro h k p hp
      by_cases hk : k < row.length
      · have := h _ (List.mem_map_of_mem (f := fun k => tb (row.drop k)) (List.mem_range.mpr hk))
        refine (tb_eq_sl (row.drop k)).2.mp this p ?_
        rw [mapd]
        exact (ov_map (hgd k)).mpr hp
      · have := hp.2.1
        rw [List.length_drop] at this
        have h9 : row.length = (row4 u v).length := hrl
        omega
    · intro h x hx
      obtain ⟨k, _, rfl⟩ := List.mem_map.mp hx
      refine (tb_eq_sl (row.drop k)).2.mpr fun p hp => h k p ?_
      rw [mapd] at hp
      exact (ov_map (hgd k)).mp hp
  have ef : evalE F T (.cmp .Is (.cmp .Eq (.bi .max1 (.cons (.var 14) .nil)) (.lit (.int 0))) (.var 11)) σ11 = some (.bool true, .frz) := by
    have := ev_cmp (F := F) (T := T) (op := .Is) (b := decide ((m : Int) = 0) == isThue u v) (ev_cmp (ev_bi1 (ev_var d14) hm1) (ev_lit (c := .int 0)) (cmp_eq (eqPV_int _ _))) (ev_var d11) rfl
    rw [htold] at this
    rw [this]; simp
  exact x_ret ef (by decide)
end
end Mine


namespace Mine
noncomputable def KX (P : Params) : Frag := [
    (3,
      { cls := Value.type "dict",
        data :=
          Data.dict
            #[{ hash := PyData.keyHash P (Str.ofString "__name__"), key := Value.str (Str.ofString "__name__") 165,
                val := Value.str (Str.ofString "law_rs0084_04") 426 },
              { hash := PyData.keyHash P (Str.ofString "__doc__"), key := Value.str (Str.ofString "__doc__") 166,
                val := Value.none },
              { hash := PyData.keyHash P (Str.ofString "__package__"),
                key := Value.str (Str.ofString "__package__") 167, val := Value.none },
              { hash := PyData.keyHash P (Str.ofString "__loader__"), key := Value.str (Str.ofString "__loader__") 168,
                val := Value.builtin "__main__.__loader__#opaque" },
              { hash := PyData.keyHash P (Str.ofString "__spec__"), key := Value.str (Str.ofString "__spec__") 169,
                val := Value.none },
              { hash := PyData.keyHash P (Str.ofString "__annotations__"),
                key := Value.str (Str.ofString "__annotations__") 170, val := Value.ref 6 },
              { hash := PyData.keyHash P (Str.ofString "__builtins__"),
                key := Value.str (Str.ofString "__builtins__") 171, val := Value.ref 4 },
              { hash := PyData.keyHash P (Str.ofString "__file__"), key := Value.str (Str.ofString "__file__") 173,
                val := Value.str (Str.ofString "/claim/cut.py") 172 },
              { hash := PyData.keyHash P (Str.ofString "__cached__"), key := Value.str (Str.ofString "__cached__") 174,
                val := Value.none },
              { hash := PyData.keyHash P (Str.ofString "_generate_overlap_table"),
                key := Value.str (Str.ofString "_generate_overlap_table") 198, val := Value.ref 21 },
              { hash := PyData.keyHash P (Str.ofString "isstring"), key := Value.str (Str.ofString "isstring") 205,
                val := Value.ref 28 },
              { hash := PyData.keyHash P (Str.ofString "ENDMARKER"), key := Value.str (Str.ofString "ENDMARKER") 209,
                val := Value.int 0 208 },
              { hash := PyData.keyHash P (Str.ofString "LPAR"), key := Value.str (Str.ofString "LPAR") 211,
                val := Value.int 7 210 },
              { hash := PyData.keyHash P (Str.ofString "RPAR"), key := Value.str (Str.ofString "RPAR") 213,
                val := Value.int 8 212 },
              { hash := PyData.keyHash P (Str.ofString "LSQB"), key := Value.str (Str.ofString "LSQB") 215,
                val := Value.int 9 214 },
              { hash := PyData.keyHash P (Str.ofString "RSQB"), key := Value.str (Str.ofString "RSQB") 217,
                val := Value.int 10 216 },
              { hash := PyData.keyHash P (Str.ofString "COLON"), key := Value.str (Str.ofString "COLON") 219,
                val := Value.int 11 218 },
              { hash := PyData.keyHash P (Str.ofString "COMMA"), key := Value.str (Str.ofString "COMMA") 221,
                val := Value.int 12 220 },
              { hash := PyData.keyHash P (Str.ofString "SEMI"), key := Value.str (Str.ofString "SEMI") 223,
                val := Value.int 13 222 },
              { hash := PyData.keyHash P (Str.ofString "PLUS"), key := Value.str (Str.ofString "PLUS") 225,
                val := Value.int 14 224 },
              { hash := PyData.keyHash P (Str.ofString "MINUS"), key := Value.str (Str.ofString "MINUS") 227,
                val := Value.int 15 226 },
              { hash := PyData.keyHash P (Str.ofString "STAR"), key := Value.str (Str.ofString "STAR") 229,
                val := Value.int 16 228 },
              { hash := PyData.keyHash P (Str.ofString "SLASH"), key := Value.str (Str.ofString "SLASH") 231,
                val := Value.int 17 230 },
              { hash := PyData.keyHash P (Str.ofString "VBAR"), key := Value.str (Str.ofString "VBAR") 233,
                val := Value.int 18 232 },
              { hash := PyData.keyHash P (Str.ofString "AMPER"), key := Value.str (Str.ofString "AMPER") 235,
                val := Value.int 19 234 },
              { hash := PyData.keyHash P (Str.ofString "LESS"), key := Value.str (Str.ofString "LESS") 237,
                val := Value.int 20 236 },
              { hash := PyData.keyHash P (Str.ofString "GREATER"), key := Value.str (Str.ofString "GREATER") 239,
                val := Value.int 21 238 },
              { hash := PyData.keyHash P (Str.ofString "EQUAL"), key := Value.str (Str.ofString "EQUAL") 241,
                val := Value.int 22 240 },
              { hash := PyData.keyHash P (Str.ofString "DOT"), key := Value.str (Str.ofString "DOT") 243,
                val := Value.int 23 242 },
              { hash := PyData.keyHash P (Str.ofString "PERCENT"), key := Value.str (Str.ofString "PERCENT") 245,
                val := Value.int 24 244 },
              { hash := PyData.keyHash P (Str.ofString "LBRACE"), key := Value.str (Str.ofString "LBRACE") 247,
                val := Value.int 25 246 },
              { hash := PyData.keyHash P (Str.ofString "RBRACE"), key := Value.str (Str.ofString "RBRACE") 249,
                val := Value.int 26 248 },
              { hash := PyData.keyHash P (Str.ofString "EQEQUAL"), key := Value.str (Str.ofString "EQEQUAL") 251,
                val := Value.int 27 250 },
              { hash := PyData.keyHash P (Str.ofString "NOTEQUAL"), key := Value.str (Str.ofString "NOTEQUAL") 253,
                val := Value.int 28 252 },
              { hash := PyData.keyHash P (Str.ofString "LESSEQUAL"), key := Value.str (Str.ofString "LESSEQUAL") 255,
                val := Value.int 29 254 },
              { hash := PyData.keyHash P (Str.ofString "GREATEREQUAL"),
                key := Value.str (Str.ofString "GREATEREQUAL") 257, val := Value.int 30 256 },
              { hash := PyData.keyHash P (Str.ofString "TILDE"), key := Value.str (Str.ofString "TILDE") 259,
                val := Value.int 31 258 },
              { hash := PyData.keyHash P (Str.ofString "CIRCUMFLEX"), key := Value.str (Str.ofString "CIRCUMFLEX") 261,
                val := Value.int 32 260 },
              { hash := PyData.keyHash P (Str.ofString "LEFTSHIFT"), key := Value.str (Str.ofString "LEFTSHIFT") 263,
                val := Value.int 33 262 },
              { hash := PyData.keyHash P (Str.ofString "RIGHTSHIFT"), key := Value.str (Str.ofString "RIGHTSHIFT") 265,
                val := Value.int 34 264 },
              { hash := PyData.keyHash P (Str.ofString "DOUBLESTAR"), key := Value.str (Str.ofString "DOUBLESTAR") 267,
                val := Value.int 35 266 },
              { hash := PyData.keyHash P (Str.ofString "PLUSEQUAL"), key := Value.str (Str.ofString "PLUSEQUAL") 269,
                val := Value.int 36 268 },
              { hash := PyData.keyHash P (Str.ofString "MINEQUAL"), key := Value.str (Str.ofString "MINEQUAL") 271,
                val := Value.int 37 270 },
              { hash := PyData.keyHash P (Str.ofString "STAREQUAL"), key := Value.str (Str.ofString "STAREQUAL") 273,
                val := Value.int 38 272 },
              { hash := PyData.keyHash P (Str.ofString "SLASHEQUAL"), key := Value.str (Str.ofString "SLASHEQUAL") 275,
                val := Value.int 39 274 },
              { hash := PyData.keyHash P (Str.ofString "PERCENTEQUAL"),
                key := Value.str (Str.ofString "PERCENTEQUAL") 277, val := Value.int 40 276 },
              { hash := PyData.keyHash P (Str.ofString "AMPEREQUAL"), key := Value.str (Str.ofString "AMPEREQUAL") 279,
                val := Value.int 41 278 },
              { hash := PyData.keyHash P (Str.ofString "VBAREQUAL"), key := Value.str (Str.ofString "VBAREQUAL") 281,
                val := Value.int 42 280 },
              { hash := PyData.keyHash P (Str.ofString "CIRCUMFLEXEQUAL"),
                key := Value.str (Str.ofString "CIRCUMFLEXEQUAL") 283, val := Value.int 43 282 },
              { hash := PyData.keyHash P (Str.ofString "LEFTSHIFTEQUAL"),
                key := Value.str (Str.ofString "LEFTSHIFTEQUAL") 285, val := Value.int 44 284 },
              { hash := PyData.keyHash P (Str.ofString "RIGHTSHIFTEQUAL"),
                key := Value.str (Str.ofString "RIGHTSHIFTEQUAL") 287, val := Value.int 45 286 },
              { hash := PyData.keyHash P (Str.ofString "DOUBLESTAREQUAL"),
                key := Value.str (Str.ofString "DOUBLESTAREQUAL") 289, val := Value.int 46 288 },
              { hash := PyData.keyHash P (Str.ofString "DOUBLESLASH"),
                key := Value.str (Str.ofString "DOUBLESLASH") 291, val := Value.int 47 290 },
              { hash := PyData.keyHash P (Str.ofString "DOUBLESLASHEQUAL"),
                key := Value.str (Str.ofString "DOUBLESLASHEQUAL") 293, val := Value.int 48 292 },
              { hash := PyData.keyHash P (Str.ofString "AT"), key := Value.str (Str.ofString "AT") 295,
                val := Value.int 49 294 },
              { hash := PyData.keyHash P (Str.ofString "ATEQUAL"), key := Value.str (Str.ofString "ATEQUAL") 297,
                val := Value.int 50 296 },
              { hash := PyData.keyHash P (Str.ofString "RARROW"), key := Value.str (Str.ofString "RARROW") 299,
                val := Value.int 51 298 },
              { hash := PyData.keyHash P (Str.ofString "ELLIPSIS"), key := Value.str (Str.ofString "ELLIPSIS") 301,
                val := Value.int 52 300 },
              { hash := PyData.keyHash P (Str.ofString "COLONEQUAL"), key := Value.str (Str.ofString "COLONEQUAL") 303,
                val := Value.int 53 302 },
              { hash := PyData.keyHash P (Str.ofString "EXCLAMATION"),
                key := Value.str (Str.ofString "EXCLAMATION") 305, val := Value.int 54 304 },
              { hash := PyData.keyHash P (Str.ofString "NT_OFFSET"), key := Value.str (Str.ofString "NT_OFFSET") 307,
                val := Value.int 256 306 },
              { hash := PyData.keyHash P (Str.ofString "EXACT_TOKEN_TYPES"),
                key := Value.str (Str.ofString "EXACT_TOKEN_TYPES") 404, val := Value.ref 29 },
              { hash := PyData.keyHash P (Str.ofString "ISTERMINAL"), key := Value.str (Str.ofString "ISTERMINAL") 411,
                val := Value.ref 38 },
              { hash := PyData.keyHash P (Str.ofString "ISNONTERMINAL"),
                key := Value.str (Str.ofString "ISNONTERMINAL") 418, val := Value.ref 45 },
              { hash := PyData.keyHash P (Str.ofString "ISEOF"), key := Value.str (Str.ofString "ISEOF") 425,
                val := Value.ref 52 },
              { hash := PyData.keyHash P (Str.ofString "_law_signs"), key := Value.str (Str.ofString "_law_signs") 433,
                val := Value.ref 59 },
              { hash := PyData.keyHash P (Str.ofString "_law_draws"), key := Value.str (Str.ofString "_law_draws") 442,
                val := Value.ref 66 },
              { hash := PyData.keyHash P (Str.ofString "_law_thue"), key := Value.str (Str.ofString "_law_thue") 448,
                val := Value.ref 71 },
              { hash := PyData.keyHash P (Str.ofString "_law_words"), key := Value.str (Str.ofString "_law_words") 454,
                val := Value.ref 76 },
              { hash := PyData.keyHash P (Str.ofString "_law_written"),
                key := Value.str (Str.ofString "_law_written") 460, val := Value.ref 81 },
              { hash := PyData.keyHash P (Str.ofString "_law_longest"),
                key := Value.str (Str.ofString "_law_longest") 466, val := Value.ref 86 },
              { hash := PyData.keyHash P (Str.ofString "_law_by_table"),
                key := Value.str (Str.ofString "_law_by_table") 472, val := Value.ref 91 },
              { hash := PyData.keyHash P (Str.ofString "_law_by_slices"),
                key := Value.str (Str.ofString "_law_by_slices") 480, val := Value.ref 98 },
              { hash := PyData.keyHash P (Str.ofString "law"), key := Value.str (Str.ofString "law") 486,
                val := Value.ref 103 }]
            74 }),
    (29,
      { cls := Value.type "dict",
        data :=
          Data.dict
            #[{ hash := PyData.keyHash P (Str.ofString "!"), key := Value.str (Str.ofString "!") 308,
                val := Value.int 54 304 },
              { hash := PyData.keyHash P (Str.ofString "!="), key := Value.str (Str.ofString "!=") 310,
                val := Value.int 28 252 },
              { hash := PyData.keyHash P (Str.ofString "%"), key := Value.str (Str.ofString "%") 312,
                val := Value.int 24 244 },
              { hash := PyData.keyHash P (Str.ofString "%="), key := Value.str (Str.ofString "%=") 314,
                val := Value.int 40 276 },
              { hash := PyData.keyHash P (Str.ofString "&"), key := Value.str (Str.ofString "&") 316,
                val := Value.int 19 234 },
              { hash := PyData.keyHash P (Str.ofString "&="), key := Value.str (Str.ofString "&=") 318,
                val := Value.int 41 278 },
              { hash := PyData.keyHash P (Str.ofString "("), key := Value.str (Str.ofString "(") 320,
                val := Value.int 7 210 },
              { hash := PyData.keyHash P (Str.ofString ")"), key := Value.str (Str.ofString ")") 322,
                val := Value.int 8 212 },
              { hash := PyData.keyHash P (Str.ofString "*"), key := Value.str (Str.ofString "*") 324,
                val := Value.int 16 228 },
              { hash := PyData.keyHash P (Str.ofString "**"), key := Value.str (Str.ofString "**") 326,
                val := Value.int 35 266 },
              { hash := PyData.keyHash P (Str.ofString "**="), key := Value.str (Str.ofString "**=") 328,
                val := Value.int 46 288 },
              { hash := PyData.keyHash P (Str.ofString "*="), key := Value.str (Str.ofString "*=") 330,
                val := Value.int 38 272 },
              { hash := PyData.keyHash P (Str.ofString "+"), key := Value.str (Str.ofString "+") 332,
                val := Value.int 14 224 },
              { hash := PyData.keyHash P (Str.ofString "+="), key := Value.str (Str.ofString "+=") 334,
                val := Value.int 36 268 },
              { hash := PyData.keyHash P (Str.ofString ","), key := Value.str (Str.ofString ",") 336,
                val := Value.int 12 220 },
              { hash := PyData.keyHash P (Str.ofString "-"), key := Value.str (Str.ofString "-") 338,
                val := Value.int 15 226 },
              { hash := PyData.keyHash P (Str.ofString "-="), key := Value.str (Str.ofString "-=") 340,
                val := Value.int 37 270 },
              { hash := PyData.keyHash P (Str.ofString "->"), key := Value.str (Str.ofString "->") 342,
                val := Value.int 51 298 },
              { hash := PyData.keyHash P (Str.ofString "."), key := Value.str (Str.ofString ".") 344,
                val := Value.int 23 242 },
              { hash := PyData.keyHash P (Str.ofString "..."), key := Value.str (Str.ofString "...") 346,
                val := Value.int 52 300 },
              { hash := PyData.keyHash P (Str.ofString "/"), key := Value.str (Str.ofString "/") 348,
                val := Value.int 17 230 },
              { hash := PyData.keyHash P (Str.ofString "//"), key := Value.str (Str.ofString "//") 350,
                val := Value.int 47 290 },
              { hash := PyData.keyHash P (Str.ofString "//="), key := Value.str (Str.ofString "//=") 352,
                val := Value.int 48 292 },
              { hash := PyData.keyHash P (Str.ofString "/="), key := Value.str (Str.ofString "/=") 354,
                val := Value.int 39 274 },
              { hash := PyData.keyHash P (Str.ofString ":"), key := Value.str (Str.ofString ":") 356,
                val := Value.int 11 218 },
              { hash := PyData.keyHash P (Str.ofString ":="), key := Value.str (Str.ofString ":=") 358,
                val := Value.int 53 302 },
              { hash := PyData.keyHash P (Str.ofString ";"), key := Value.str (Str.ofString ";") 360,
                val := Value.int 13 222 },
              { hash := PyData.keyHash P (Str.ofString "<"), key := Value.str (Str.ofString "<") 362,
                val := Value.int 20 236 },
              { hash := PyData.keyHash P (Str.ofString "<<"), key := Value.str (Str.ofString "<<") 364,
                val := Value.int 33 262 },
              { hash := PyData.keyHash P (Str.ofString "<<="), key := Value.str (Str.ofString "<<=") 366,
                val := Value.int 44 284 },
              { hash := PyData.keyHash P (Str.ofString "<="), key := Value.str (Str.ofString "<=") 368,
                val := Value.int 29 254 },
              { hash := PyData.keyHash P (Str.ofString "="), key := Value.str (Str.ofString "=") 370,
                val := Value.int 22 240 },
              { hash := PyData.keyHash P (Str.ofString "=="), key := Value.str (Str.ofString "==") 372,
                val := Value.int 27 250 },
              { hash := PyData.keyHash P (Str.ofString ">"), key := Value.str (Str.ofString ">") 374,
                val := Value.int 21 238 },
              { hash := PyData.keyHash P (Str.ofString ">="), key := Value.str (Str.ofString ">=") 376,
                val := Value.int 30 256 },
              { hash := PyData.keyHash P (Str.ofString ">>"), key := Value.str (Str.ofString ">>") 377,
                val := Value.int 34 264 },
              { hash := PyData.keyHash P (Str.ofString ">>="), key := Value.str (Str.ofString ">>=") 378,
                val := Value.int 45 286 },
              { hash := PyData.keyHash P (Str.ofString "@"), key := Value.str (Str.ofString "@") 379,
                val := Value.int 49 294 },
              { hash := PyData.keyHash P (Str.ofString "@="), key := Value.str (Str.ofString "@=") 380,
                val := Value.int 50 296 },
              { hash := PyData.keyHash P (Str.ofString "["), key := Value.str (Str.ofString "[") 381,
                val := Value.int 9 214 },
              { hash := PyData.keyHash P (Str.ofString "]"), key := Value.str (Str.ofString "]") 382,
                val := Value.int 10 216 },
              { hash := PyData.keyHash P (Str.ofString "^"), key := Value.str (Str.ofString "^") 383,
                val := Value.int 32 260 },
              { hash := PyData.keyHash P (Str.ofString "^="), key := Value.str (Str.ofString "^=") 384,
                val := Value.int 43 282 },
              { hash := PyData.keyHash P (Str.ofString "{"), key := Value.str (Str.ofString "{") 385,
                val := Value.int 25 246 },
              { hash := PyData.keyHash P (Str.ofString "|"), key := Value.str (Str.ofString "|") 386,
                val := Value.int 18 232 },
              { hash := PyData.keyHash P (Str.ofString "|="), key := Value.str (Str.ofString "|=") 387,
                val := Value.int 42 280 },
              { hash := PyData.keyHash P (Str.ofString "}"), key := Value.str (Str.ofString "}") 388,
                val := Value.int 26 248 },
              { hash := PyData.keyHash P (Str.ofString "~"), key := Value.str (Str.ofString "~") 389,
                val := Value.int 31 258 }]
            48 })]

noncomputable def qX : Program := { PySem.Challenge.pw_rs0084_04 with main := { PySem.Challenge.pw_rs0084_04.main with body := PySem.Challenge.pw_rs0084_04.main.body.filter fun s => match s with
  | .Assign [.Name n _] _ _ => !(n == ("__name__" : Str))
  | _ => true } }
noncomputable abbrev HX : Hook := kHook KX [3, 29] (fun _ => by kernel_rfl)
theorem pair_map {α β γ : Type} {o : Option α} {A : α → β} {B : α → γ} {a : β} {b : γ} (h1 : o.map A = some a) (h2 : o.map B = some b) : o.map (fun s => (A s, B s)) = some (a, b) := by
  cases o with
  | none => cases h1
  | some s => cases h1; cases h2; rfl
theorem leftF : ∀ w : World, (fencedOpening treeTable PySem.Challenge.rw_rs0084_04.row.prog w 3822).map (fun s₀ => (topFrom treeTable PySem.Challenge.rw_rs0084_04.row.prog (w.withFollow "special-get-raises" false) 3822 s₀).map (fun s => (openSeen qX [("EXACT_TOKEN_TYPES" : Str)] (importedModules PySem.Challenge.rw_rs0084_04.row.prog.main.body) (fun s => xlAt qX [] s && recOk (RowW.records PySem.Challenge.rw_rs0084_04.row.toRowW) s) true s, Hook.obs HX s))) =
    some (some (openGood qX [("EXACT_TOKEN_TYPES" : Str)], Hook.val HX (w.withFollow "special-get-raises" false))) := fun w => by kernel_rfl
theorem leftT : ∀ w : World, (fencedOpening treeTable PySem.Challenge.rw_rs0084_04.row.prog w 3822).map (fun s₀ => (topFrom treeTable PySem.Challenge.rw_rs0084_04.row.prog (w.withFollow "special-get-raises" true) 3822 s₀).map (fun s => (openSeen qX [("EXACT_TOKEN_TYPES" : Str)] (importedModules PySem.Challenge.rw_rs0084_04.row.prog.main.body) (fun s => xlAt qX [] s && recOk (RowW.records PySem.Challenge.rw_rs0084_04.row.toRowW) s) true s, Hook.obs HX s))) =
    some (some (openGood qX [("EXACT_TOKEN_TYPES" : Str)], Hook.val HX (w.withFollow "special-get-raises" true))) := fun w => by kernel_rfl
set_option maxHeartbeats 8000000 in
theorem hdX (walk : ∀ d kwd, defOf qX PySem.Challenge.rw_rs0084_04.name = some (d, kwd) → WalkO qX [("EXACT_TOKEN_TYPES" : Str)] (XL qX []) (Hook.says HX) PySem.Challenge.rw_rs0084_04.row.toRowW d kwd fun f vs => PySem.call f vs) : PySem.Challenge.rw_rs0084_04.Holds := by
  w_on
  refine holds_law (by decide +kernel) fun said => ?_
  refine holds_open (q := qX) (loose := [("EXACT_TOKEN_TYPES" : Str)]) (Xt := fun s => xlAt qX [] s && recOk (RowW.records PySem.Challenge.rw_rs0084_04.row.toRowW) s) (XP := XL qX []) (Yf := Hook.obs HX) (Ya := Hook.val HX) (YP := Hook.says HX) (N := 3822) ?hl (Hook.of HX) (Hook.keeps HX) (fun s e => xl_of s (Bool.and_eq_true_iff.mp e).1) XL.keeps (by rfl) (by rfl) (by rfl) (fun s e => recFacts_of (Bool.and_eq_true_iff.mp e).2) (by rfl) (by first | assumption | decide +kernel) (by decide +kernel) ⟨rfl, rfl, rfl, rfl, rfl, by decide +kernel⟩ ?hw ?hc
  case hw => w_witness2
  case hc => exact walk _ _ rfl
  case hl => exact LeftO.of_split "special-get-raises" (fun w => pair_map (leftF w) (leftT w))
end Mine


namespace Mine
noncomputable def TOK : TokE := [(("!" : Str), 308, 54, 304), (("!=" : Str), 310, 28, 252), (("%" : Str), 312, 24, 244), (("%=" : Str), 314, 40, 276), (("&" : Str), 316, 19, 234), (("&=" : Str), 318, 41, 278), (("(" : Str), 320, 7, 210), ((")" : Str), 322, 8, 212), (("*" : Str), 324, 16, 228), (("**" : Str), 326, 35, 266), (("**=" : Str), 328, 46, 288), (("*=" : Str), 330, 38, 272), (("+" : Str), 332, 14, 224), (("+=" : Str), 334, 36, 268), (("," : Str), 336, 12, 220), (("-" : Str), 338, 15, 226), (("-=" : Str), 340, 37, 270), (("->" : Str), 342, 51, 298), (("." : Str), 344, 23, 242), (("..." : Str), 346, 52, 300), (("/" : Str), 348, 17, 230), (("//" : Str), 350, 47, 290), (("//=" : Str), 352, 48, 292), (("/=" : Str), 354, 39, 274), ((":" : Str), 356, 11, 218), ((":=" : Str), 358, 53, 302), ((";" : Str), 360, 13, 222), (("<" : Str), 362, 20, 236), (("<<" : Str), 364, 33, 262), (("<<=" : Str), 366, 44, 284), (("<=" : Str), 368, 29, 254), (("=" : Str), 370, 22, 240), (("==" : Str), 372, 27, 250), ((">" : Str), 374, 21, 238), ((">=" : Str), 376, 30, 256), ((">>" : Str), 377, 34, 264), ((">>=" : Str), 378, 45, 286), (("@" : Str), 379, 49, 294), (("@=" : Str), 380, 50, 296), (("[" : Str), 381, 9, 214), (("]" : Str), 382, 10, 216), (("^" : Str), 383, 32, 260), (("^=" : Str), 384, 43, 282), (("{" : Str), 385, 25, 246), (("|" : Str), 386, 18, 232), (("|=" : Str), 387, 42, 280), (("}" : Str), 388, 26, 248), (("~" : Str), 389, 31, 258)]
noncomputable def FN : List Str := [("_generate_overlap_table" : Str), ("isstring" : Str), ("ISTERMINAL" : Str), ("ISNONTERMINAL" : Str), ("ISEOF" : Str), ("_law_signs" : Str), ("_law_draws" : Str), ("_law_thue" : Str), ("_law_words" : Str), ("_law_written" : Str), ("_law_longest" : Str), ("_law_by_table" : Str), ("_law_by_slices" : Str), ("law" : Str)]
noncomputable def d_law_draws : DI := ⟨("_law_draws" : Str), [(("script" : Str), 0), (("draws" : Str), 1), (("place" : Str), 2)], ⟨[0],
  (.assign 1 (.list (.cons (.lit (.int 4131)) (.cons (.lit (.int 0)) (.cons (.lit (.int 28)) (.cons (.lit (.int 6)) .nil))))) (.for (.one 2) (.bi .range1 (.cons (.bi .min2 (.cons (.lit (.int 60)) (.cons (.bi .len (.cons (.var 0) .nil)) .nil))) .nil)) (.setitem 1 (.bin .Mod (.var 2) (.lit (.int 4))) (.bin .Add (.idx (.var 1) (.bin .Mod (.var 2) (.lit (.int 4)))) (.bin .Mod (.idx (.var 0) (.var 2)) (.bin .Pow (.lit (.int 10)) (.lit (.int 6))))) .nil) (.retv 1)))⟩⟩

noncomputable def d_law_thue : DI := ⟨("_law_thue" : Str), [(("steps" : Str), 0), (("word" : Str), 1), (("k" : Str), 2)], ⟨[0],
  (.assign 1 (.list (.cons (.lit (.int 0)) .nil)) (.freeze 1 (.for (.one 2) (.bi .range1 (.cons (.var 0) .nil)) (.assign 1 (.bin .Add (.var 1) (.comp (.gen (.one 3) (.var 1) .nil (.elt (.bin .Sub (.lit (.int 1)) (.var 3)))))) (.freeze 1 .nil)) (.ret (.list (.cons (.var 1) (.cons (.comp (.gen (.one 4) (.var 1) .nil (.elt (.bin .Sub (.lit (.int 1)) (.var 4))))) .nil)))))))⟩⟩

noncomputable def d_law_words : DI := ⟨("_law_words" : Str), [(("kind" : Str), 0), (("change" : Str), 1), (("words" : Str), 2), (("one" : Str), 3), (("place" : Str), 4)], ⟨[0, 1],
  (.ite (.cmp .Eq (.bin .Mod (.var 0) (.lit (.int 4))) (.lit (.int 3))) (.assign 2 (.list (.cons (.comp (.gen (.one 6) (.bi .range1 (.cons (.bin .Add (.lit (.int 1)) (.bin .Mod (.bin .FloorDiv (.var 0) (.lit (.int 4))) (.lit (.int 4)))) .nil)) .nil (.elt (.bin .Mod (.bin .FloorDiv (.bin .FloorDiv (.var 0) (.lit (.int 64))) (.bin .Pow (.lit (.int 2)) (.var 6))) (.lit (.int 2)))))) (.cons (.comp (.gen (.one 5) (.bi .range1 (.cons (.bin .Add (.lit (.int 1)) (.bin .Mod (.bin .FloorDiv (.var 0) (.lit (.int 16))) (.lit (.int 4)))) .nil)) .nil (.elt (.bin .Mod (.bin .FloorDiv (.bin .FloorDiv (.var 0) (.lit (.int 1024))) (.bin .Pow (.lit (.int 2)) (.var 5))) (.lit (.int 2)))))) .nil))) .nil) (.ite (.cmp .Eq (.bin .Mod (.bin .FloorDiv (.var 0) (.lit (.int 4))) (.lit (.int 2))) (.lit (.int 0))) (.assign 2 (.call 7 (.cons (.bin .Mod (.var 0) (.lit (.int 4))) .nil)) .nil) (.assign 2 (.list (.cons (.idx (.call 7 (.cons (.bin .Mod (.var 0) (.lit (.int 4))) .nil)) (.lit (.int 1))) (.cons (.idx (.call 7 (.cons (.bin .Mod (.var 0) (.lit (.int 4))) .nil)) (.lit (.int 0))) .nil))) .nil) .nil) (.assign 3 (.bin .Mod (.bin .FloorDiv (.var 1) (.lit (.int 4))) (.lit (.int 2))) (.ite (.cmp .Eq (.bin .Mod (.var 1) (.lit (.int 4))) (.lit (.int 2))) (.assign 4 (.bin .Mod (.bin .FloorDiv (.var 1) (.lit (.int 8))) (.bi .len (.cons (.idx (.var 2) (.var 3)) .nil))) (.setitem 2 (.var 3) (.bin .Add (.bin .Add (.sliceH (.idx (.var 2) (.var 3)) (.var 4)) (.list (.cons (.bin .Sub (.lit (.int 1)) (.idx (.idx (.var 2) (.var 3)) (.var 4))) .nil))) (.sliceL (.idx (.var 2) (.var 3)) (.bin .Add (.var 4) (.lit (.int 1))))) .nil)) (.ite (.cmp .Eq (.bin .Mod (.var 1) (.lit (.int 4))) (.lit (.int 3))) (.setitem 2 (.var 3) (.bin .Add (.idx (.var 2) (.var 3)) (.list (.cons (.bin .Mod (.bin .FloorDiv (.var 1) (.lit (.int 8))) (.lit (.int 2))) .nil))) .nil) .nil .nil) (.retv 2))))⟩⟩

noncomputable def d_law_written : DI := ⟨("_law_written" : Str), [(("rules" : Str), 0), (("start" : Str), 1), (("rest" : Str), 2), (("row" : Str), 3), (("told" : Str), 4)], ⟨[0, 1],
  (.assign 2 (.bin .Add (.var 1) (.list (.cons (.lit (.int 0)) .nil))) (.freeze 2 (.assign 3 (.list .nil) (.while (.cmp .NotEq (.var 2) (.list .nil)) (.assign 4 (.list (.cons (.call 2 (.cons (.idx (.var 2) (.lit (.int 0))) .nil)) (.cons (.call 3 (.cons (.idx (.var 2) (.lit (.int 0))) .nil)) (.cons (.call 4 (.cons (.idx (.var 2) (.lit (.int 0))) .nil)) .nil)))) (.freeze 4 (.ite (.bop .Or (.cons (.cmp .NotEq (.comp (.gen (.one 5) (.var 4) (.cons (.bop .And (.cons (.cmp .IsNot (.var 5) (.lit (.bool true))) (.cons (.cmp .IsNot (.var 5) (.lit (.bool false))) .nil))) .nil) (.elt (.var 5)))) (.list .nil)) (.cons (.cmp .Is (.idx (.var 4) (.lit (.int 0))) (.idx (.var 4) (.lit (.int 1)))) .nil))) (.ret (.lit .none)) .nil (.ite (.idx (.var 4) (.lit (.int 2))) (.freeze 3 (.ret (.ite (.idx (.var 4) (.lit (.int 0))) (.var 3) (.lit .none)))) .nil (.ite (.idx (.var 4) (.lit (.int 1))) (.assign 2 (.bin .Add (.comp (.gen (.one 6) (.idx (.var 0) (.idx (.var 2) (.lit (.int 0)))) .nil (.elt (.ite (.call 1 (.cons (.var 6) .nil)) (.tok (.var 6)) (.var 6))))) (.sliceL (.var 2) (.lit (.int 1)))) (.freeze 2 .nil)) (.append 3 (.idx (.var 2) (.lit (.int 0))) (.assign 2 (.sliceL (.var 2) (.lit (.int 1))) (.freeze 2 .nil))) .nil))))) .nil (.ret (.lit .none))))))⟩⟩

noncomputable def d_law_longest : DI := ⟨("_law_longest" : Str), [(("row" : Str), 0)], ⟨[0],
  (.ret (.comp (.gen (.one 1) (.bi .range1 (.cons (.bi .len (.cons (.var 0) .nil)) .nil)) .nil (.elt (.bi .max1 (.cons (.comp (.gen (.one 2) (.bi .range1 (.cons (.bin .Add (.var 1) (.lit (.int 1))) .nil)) (.cons (.cmp .Eq (.sliceH (.var 0) (.var 2)) (.sliceB (.var 0) (.bin .Sub (.bin .Add (.var 1) (.lit (.int 1))) (.var 2)) (.bin .Add (.var 1) (.lit (.int 1))))) .nil) (.elt (.var 2)))) .nil))))))⟩⟩

noncomputable def d_law_by_table : DI := ⟨("_law_by_table" : Str), [(("row" : Str), 0), (("table" : Str), 1), (("sizes" : Str), 2)], ⟨[0],
  (.assign 1 (.call 0 (.cons (.var 0) .nil)) (.freeze 1 (.assign 2 (.comp (.gen (.one 3) (.bi .range1 (.cons (.bi .len (.cons (.var 0) .nil)) .nil)) (.cons (.cmp .Gt (.bin .Mult (.lit (.int 2)) (.idx (.var 1) (.var 3))) (.bin .Add (.var 3) (.lit (.int 1)))) .nil) (.elt (.bin .Add (.var 3) (.lit (.int 1)))))) (.freeze 2 (.ret (.ite (.cmp .NotEq (.var 2) (.list .nil)) (.idx (.var 2) (.lit (.int 0))) (.lit (.int 0))))))))⟩⟩

noncomputable def d_law_by_slices : DI := ⟨("_law_by_slices" : Str), [(("row" : Str), 0), (("step" : Str), 1)], ⟨[0],
  (.for (.one 1) (.bi .range2 (.cons (.lit (.int 1)) (.cons (.bin .Add (.bin .FloorDiv (.bin .Sub (.bi .len (.cons (.var 0) .nil)) (.lit (.int 1))) (.lit (.int 2))) (.lit (.int 1))) .nil))) (.ite (.cmp .Eq (.sliceH (.var 0) (.bin .Add (.var 1) (.lit (.int 1)))) (.sliceB (.var 0) (.var 1) (.bin .Add (.bin .Mult (.lit (.int 2)) (.var 1)) (.lit (.int 1))))) (.ret (.bin .Add (.bin .Mult (.lit (.int 2)) (.var 1)) (.lit (.int 1)))) .nil .nil) (.ret (.lit (.int 0))))⟩⟩

noncomputable def d_law : DI := ⟨("law" : Str), [(("script" : Str), 0), (("draws" : Str), 1), (("words" : Str), 2), (("first" : Str), 3), (("second" : Str), 4), (("two" : Str), 5), (("rules" : Str), 6), (("row" : Str), 7), (("form" : Str), 8), (("table" : Str), 9), (("truths" : Str), 10), (("thue" : Str), 11), (("steps" : Str), 12), (("pair" : Str), 13), (("told" : Str), 14)], ⟨[0],
  (.assign 1 (.call 6 (.cons (.var 0) .nil)) (.freeze 1 (.assign 2 (.call 8 (.cons (.idx (.var 1) (.lit (.int 0))) (.cons (.idx (.var 1) (.lit (.int 1))) .nil))) (.freeze 2 (.assign 3 (.bin .Mod (.idx (.var 1) (.lit (.int 2))) (.lit (.int 48))) (.assign 4 (.bin .Mod (.bin .Add (.bin .Add (.var 3) (.lit (.int 1))) (.bin .Mod (.idx (.var 1) (.lit (.int 3))) (.lit (.int 47)))) (.lit (.int 48))) (.assign 5 (.list (.cons (.idx (.call 5 .nil) (.var 3)) (.cons (.idx (.call 5 .nil) (.var 4)) .nil))) (.freeze 5 (.assign 6 (.dict [258, 256, 257] (.cons (.list (.cons (.lit (.int 256)) (.cons (.lit (.int 257)) (.cons (.lit (.int 257)) (.cons (.lit (.int 256)) (.cons (.lit (.int 257)) (.cons (.lit (.int 256)) (.cons (.lit (.int 256)) (.cons (.lit (.int 257)) .nil))))))))) (.cons (.comp (.gen (.one 16) (.idx (.var 2) (.lit (.int 0))) .nil (.elt (.idx (.var 5) (.var 16))))) (.cons (.comp (.gen (.one 15) (.idx (.var 2) (.lit (.int 1))) .nil (.elt (.idx (.var 5) (.var 15))))) .nil)))) (.freeze 6 (.assign 7 (.call 9 (.cons (.var 6) (.cons (.list (.cons (.lit (.int 258)) .nil)) .nil))) (.freeze 7 (.ite (.cmp .NotEq (.var 7) (.comp (.gen (.one 17) (.tuple (.cons (.lit (.int 0)) (.cons (.lit (.int 1)) (.cons (.lit (.int 1)) (.cons (.lit (.int 0)) (.cons (.lit (.int 1)) (.cons (.lit (.int 0)) (.cons (.lit (.int 0)) (.cons (.lit (.int 1)) .nil))))))))) .nil (.gen (.one 18) (.idx (.var 2) (.var 17)) .nil (.elt (.idx (.list (.cons (.bin .Add (.lit (.int 7)) (.var 3)) (.cons (.bin .Add (.lit (.int 7)) (.var 4)) .nil))) (.var 18))))))) (.ret (.lit (.bool false))) .nil (.assign 8 (.bi .bytes1 (.cons (.var 7) .nil)) (.assign 9 (.call 0 (.cons (.var 8) .nil)) (.freeze 9 (.assign 10 (.comp (.gen (.one 19) (.var 9) (.cons (.bop .Or (.cons (.cmp .Is (.var 19) (.lit (.bool true))) (.cons (.cmp .Is (.var 19) (.lit (.bool false))) .nil))) .nil) (.elt (.var 19)))) (.freeze 10 (.ite (.bop .Or (.cons (.cmp .IsNot (.call 1 (.cons (.var 8) .nil)) (.lit (.bool true))) (.cons (.cmp .NotEq (.var 9) (.call 10 (.cons (.var 7) .nil))) (.cons (.cmp .NotEq (.var 10) (.list .nil)) .nil)))) (.ret (.lit (.bool false))) .nil (.assign 11 (.lit (.bool false)) (.for (.one 12) (.bi .range1 (.cons (.lit (.int 3)) .nil)) (.assign 13 (.call 7 (.cons (.var 12) .nil)) (.freeze 13 (.assign 11 (.bop .Or (.cons (.var 11) (.cons (.cmp .Eq (.var 2) (.var 13)) (.cons (.cmp .Eq (.var 2) (.list (.cons (.idx (.var 13) (.lit (.int 1))) (.cons (.idx (.var 13) (.lit (.int 0))) .nil)))) .nil)))) .nil))) (.assign 14 (.comp (.gen (.one 20) (.bi .range1 (.cons (.bi .len (.cons (.var 7) .nil)) .nil)) .nil (.elt (.call 11 (.cons (.sliceL (.var 7) (.var 20)) .nil))))) (.freeze 14 (.ite (.bop .And (.cons (.not (.var 11)) (.cons (.cmp .NotEq (.var 14) (.comp (.gen (.one 21) (.bi .range1 (.cons (.bi .len (.cons (.var 7) .nil)) .nil)) .nil (.elt (.call 12 (.cons (.sliceL (.var 7) (.var 21)) .nil)))))) .nil))) (.ret (.lit (.bool false))) .nil (.ret (.cmp .Is (.cmp .Eq (.bi .max1 (.cons (.var 14) .nil)) (.lit (.int 0))) (.var 11)))))))))))))))))))))))))))⟩⟩


noncomputable def DS : List DI := DC ++ [d_law_draws, d_law_thue, d_law_words, d_law_written, d_law_longest, d_law_by_table, d_law_by_slices, d_law]
theorem fn_names : FN = DS.map (·.name) := rfl
theorem ds_ok : (DS.all (chkDI FN (recsOf qX))) = true := by decide +kernel
theorem tok_nd : (TOK.map (·.1)).Nodup := by decide +kernel
theorem sign_tok0 : ((List.range 48).all fun n => match SIGNS[n]? with | some s => decide (TTof TOK s = some (7 + (n : Int))) | Option.none => false) = true := by decide +kernel
theorem sign_tok (n : Nat) (h : n < 48) : ∃ s, SIGNS[n]? = some s ∧ TTof TOK s = some (7 + (n : Int)) := by
  have := List.all_eq_true.mp sign_tok0 n (List.mem_range.mpr h)
  split at this
  · rename_i s hs; exact ⟨s, hs, of_decide_eq_true this⟩
  · cases this

theorem fn4 (N : Nat) (hN : 100000 < N) : Fn4 (FF DS (TTof TOK) N 13) (TTof TOK) := by
  have at_ : ∀ {f k : Nat} {i : DI} (hf : DS[f]? = some i) (h6 : f < k) (ts : List PV), FF DS (TTof TOK) N k f ts = runDf (FF DS (TTof TOK) N f) (TTof TOK) N i.d ts := fun hf h6 ts => FF_lt hf h6 ts
  refine ⟨fn_ok rfl hN (by decide), fun is hi => ?_, fun n hn => ?_, fun kind change h1 h2 => ?_, fun {a b s t} ha hb hs ht {u v} hu hv => ?_, fun row hl => ?_, fun row hl => ?_, fun row hl => ?_⟩
  · have e0 : evalE (FF DS (TTof TOK) N 6) (TTof TOK) (.list (.cons (.lit (.int 4131)) (.cons (.lit (.int 0)) (.cons (.lit (.int 28)) (.cons (.lit (.int 6)) .nil))))) (startS [0] [iL is]) = some (iL [4131, 0, 28, 6], .new) := rfl
    obtain ⟨σ', ds, e, _, h2, h3, h4⟩ := draws_loop (F := FF DS (TTof TOK) N 6) (T := TTof TOK) (N := N) (is := is) (init := [4131, 0, 28, 6]) (m := 4) (σ := upd (startS [0] [iL is]) 1 (iL [4131, 0, 28, 6]) true) rfl (by decide) (by decide) (by decide) hi ⟨false, rfl⟩ rfl (.retv 1)
    obtain ⟨a, b, c, d, rfl⟩ : ∃ a b c d, ds = [a, b, c, d] := by
      match ds, h3 with
      | [a, b, c, d], _ => exact ⟨a, b, c, d, rfl⟩
    refine ⟨a, b, c, d, ?_, h4 a (by simp), h4 b (by simp), h4 c (by simp), h4 d (by simp)⟩
    rw [at_ (f := 6) (i := d_law_draws) rfl (by decide)]
    refine run_ret rfl ?_
    show execK _ _ N (.assign 1 _ (.for (.one 2) drawsI (drawsB ((4 : Nat) : Int)) (.retv 1))) (startS [0] [iL is]) = _
    rw [x_new e0, e, x_retv h2]
  · rw [at_ (f := 7) (i := d_law_thue) rfl (by decide)]
    exact thue_ok hn
  · obtain ⟨u, v, e, h⟩ := words4_ok (F := FF DS (TTof TOK) N 8) (T := TTof TOK) (N := N) (fun n hn => by rw [at_ (f := 7) (i := d_law_thue) rfl (by decide)]; exact thue_ok hn) h1 h2
    exact ⟨u, v, by rw [at_ (f := 8) (i := d_law_words) rfl (by decide)]; exact e, h⟩
  · rw [at_ (f := 9) (i := d_law_written) rfl (by decide)]
    exact row4_ok (fn_ok rfl hN (by decide)) ha hb hs ht hu hv (Nat.le_of_lt (Nat.lt_trans (by decide) hN))
  · rw [at_ (f := 10) (i := d_law_longest) rfl (by decide)]
    exact run_ret rfl (x_ret (longE_ok (o := false) (σ := startS [0] [iL row]) rfl (by decide) (by decide) (by decide) hl) (by decide))
  · rw [at_ (f := 11) (i := d_law_by_table) rfl (by decide)]
    exact bt_ok (fn_ok rfl hN (by decide)) hl
  · rw [at_ (f := 12) (i := d_law_by_slices) rfl (by decide)]
    exact bs_ok hl

theorem law_says (N : Nat) (hN : 100000 < N) : lawSays DS (TTof TOK) N 63 := by
  intro is hi
  show FF DS (TTof TOK) N 14 13 _ = _
  rw [FF_lt (i := d_law) rfl (by decide)]
  exact law4_ok (fn4 N hN) sign_tok hi

theorem freeX : freeOk qX (looseW qX [Str.ofString "EXACT_TOKEN_TYPES"]) = true := by decide +kernel

set_option maxHeartbeats 8000000 in
theorem walkX (d : DefRec) (kwd : List (Str × PySem.Expr)) (hdk : defOf qX PySem.Challenge.rw_rs0084_04.name = some (d, kwd)) :
    WalkO qX [("EXACT_TOKEN_TYPES" : Str)] (XL qX []) (Hook.says HX) PySem.Challenge.rw_rs0084_04.row.toRowW d kwd fun f vs => PySem.call f vs := by
  intro w s₀ s₁ mg mb G Y fa o pm cd doc dV kV ho hd hcd hD hmg hg args vals as hpre hlay hrd hwl hlo
  rw [defOf_name hdk] at hmg
  have KX := kIn_of Y
  refine Ground.open G ?_
  intro T B D TE TW
  clear D hD hcd hd ho
  wrow_args hpre hlay hrd hwl hlo
  rename_i is hS hl0 hL0 hR0 hl2 b1 b2 a vs b3 hL ra w1 r0 hI hr hlen hcond
  have hlen' : is.length ≤ 63 := by omega
  have HB := link (prog := PySem.Challenge.rw_rs0084_04.row.prog) (w := w) (t := TOK) (d := 29) T freeX rfl rfl (mg_of KX T.g (by rfl)) (KX 29 _ (by rfl)) (by decide) tok_nd fn_names ds_ok 200000 14
  obtain ⟨fa', o', fd', h1, h2, h3, h4⟩ := HB.fns 13 "law" rfl
  have : fa' = fa := by have := h1.symm.trans hmg; cases this; rfl
  subst this
  refine wpAny_mono (h4 _ _ _ (law_says 200000 (by decide) is hlen') callerA [] s₁ _ [.ref a] ⟨rfl, by decide +kernel, by decide +kernel⟩ (Keeps.refl _) (fun _ h => by cases h) ?_) (fun v s' g => ?_) fun _ _ x => x
  · exact well_script w1
  · obtain ⟨st, g⟩ := g
    have : v = .bool true := by
      have g' : Rep _ _ _ _ _ := g
      unfold Rep at g'; exact g'
    subst this
    refine ⟨.inl ⟨_, .bool true, [], rfl, ?_, ?_, ?_, ?_⟩, ?_, ?_, ?_⟩
    · intro cls; rfl
    · exact ReadsW.bool _
    · exact post_ok _ _
    · intro _; exact ⟨List.nodup_nil, fun _ h => by cases h⟩
    · exact .of_keep st.1
    · exact st.2.2
    · exact .of_eq (st.2.1.trans hg)
end Mine
end
theorem PySem.Challenge.cw_rs0084_04_holds : PySem.Challenge.rw_rs0084_04.Holds :=
  Mine.hdX Mine.walkX
