import PyProof.Rows.All
import Wide.All
import OpenK.AllK
import Wide.FinOn
import PySem.Challenge.RW_hf0007_01
open PySem PySem.W PyProof.Rows PySem.Calls PySem.Spec
set_option Elab.async false
set_option maxRecDepth 100000
set_option maxHeartbeats 8000000
set_option genSizeOf false
set_option genInjectivity false
namespace Mine
open_top hd for PySem.Challenge.rw_hf0007_01
end Mine

namespace Mine

/-! linear forms over unknowns: c0 + c1 * x1 + .. (x0 = 1) -/
noncomputable abbrev Lin := List Int
noncomputable def lv (σ : Nat → Int) : Nat → Lin → Int
  | _, [] => 0
  | k, c :: r => c * σ k + lv σ (k + 1) r
noncomputable def ladd : Lin → Lin → Lin
  | [], q => q
  | p, [] => p
  | a :: p, b :: q => (a + b) :: ladd p q
noncomputable def lscale (c : Int) : Lin → Lin
  | [] => []
  | a :: p => (c * a) :: lscale c p
noncomputable def lzero : Lin → Bool
  | [] => true
  | a :: p => a == 0 && lzero p
noncomputable def lconst : Lin → Option Int
  | [] => some 0
  | c :: r => if lzero r then some c else none
/-- the sum of the coefficients' sizes -/
noncomputable def lnorm : Lin → Nat
  | [] => 0
  | a :: p => a.natAbs + lnorm p
noncomputable def lunit : Nat → Lin
  | 0 => [1]
  | k + 1 => 0 :: lunit k

theorem lv_ladd (σ : Nat → Int) : ∀ (p q : Lin) (k : Nat), lv σ k (ladd p q) = lv σ k p + lv σ k q
  | [], q, k => by simp [ladd, lv]
  | a :: p, [], k => by simp [ladd, lv]
  | a :: p, b :: q, k => by
    show (a + b) * σ k + lv σ (k + 1) (ladd p q) = (a * σ k + lv σ (k + 1) p) + (b * σ k + lv σ (k + 1) q)
    rw [lv_ladd σ p q (k + 1), Int.add_mul]; omega
theorem lv_lscale (σ : Nat → Int) (c : Int) : ∀ (p : Lin) (k : Nat), lv σ k (lscale c p) = c * lv σ k p
  | [], k => by simp [lscale, lv]
  | a :: p, k => by
    show c * a * σ k + lv σ (k + 1) (lscale c p) = c * (a * σ k + lv σ (k + 1) p)
    rw [lv_lscale σ c p (k + 1), Int.mul_add, Int.mul_assoc]
theorem lv_lzero (σ : Nat → Int) : ∀ (p : Lin) (k : Nat), lzero p = true → lv σ k p = 0
  | [], _, _ => rfl
  | a :: p, k, h => by
    simp only [lzero, Bool.and_eq_true, beq_iff_eq] at h
    show a * σ k + lv σ (k + 1) p = 0
    rw [h.1, lv_lzero σ p (k + 1) h.2]; simp
theorem lv_lconst {σ : Nat → Int} (h0 : σ 0 = 1) {p : Lin} {c : Int} (h : lconst p = some c) : lv σ 0 p = c := by
  cases p with
  | nil => cases h; rfl
  | cons a r =>
    simp only [lconst] at h
    split at h
    · rename_i hz
      have e : a = c := Option.some.inj h
      show a * σ 0 + lv σ 1 r = c
      rw [h0, lv_lzero σ r 1 hz]; omega
    · cases h
theorem lv_one {σ : Nat → Int} (h0 : σ 0 = 1) (c : Int) : lv σ 0 [c] = c := by
  show c * σ 0 + 0 = c
  rw [h0]; omega
theorem lv_unit (σ : Nat → Int) : ∀ (i k : Nat), lv σ k (lunit i) = σ (k + i)
  | 0, k => by simp [lunit, lv]
  | i + 1, k => by
    show 0 * σ k + lv σ (k + 1) (lunit i) = σ (k + (i + 1))
    rw [lv_unit σ i (k + 1), show k + 1 + i = k + (i + 1) by omega]; omega
theorem lv_norm {σ : Nat → Int} {B : Nat} (hB : ∀ i, (σ i).natAbs ≤ B) : ∀ (p : Lin) (k : Nat), (lv σ k p).natAbs ≤ lnorm p * B
  | [], _ => by simp [lv, lnorm]
  | a :: p, k => by
    have h1 := lv_norm hB p (k + 1)
    have h2 : (a * σ k).natAbs ≤ a.natAbs * B := by rw [Int.natAbs_mul]; exact Nat.mul_le_mul_left _ (hB k)
    show (a * σ k + lv σ (k + 1) p).natAbs ≤ (a.natAbs + lnorm p) * B
    rw [Nat.add_mul]
    have := Int.natAbs_add_le (a * σ k) (lv σ (k + 1) p)
    omega

/-! values, objects -/
inductive V where
  | none
  | bool (b : Bool)
  | int (p : Lin)
  | ref (i : Nat)
  | scr
  | raw (i : Nat)
inductive AO where
  | list (pl : Bool) (vs : List V)
  | tup (vs : List V)
  | dict0
  | range (a n : Nat)
  | ns (sc : Nat) (m : List (Option V))
  | cell (v : Option V)
  | clos (f : Nat) (cl : List (Option Nat))
  | tab (f : Nat)
noncomputable abbrev AH := List AO

inductive Op where
  | add | sub | mul | fdiv | mod | pow | band | bxor | shl | shr
inductive Cm where
  | eq | ne | lt | le | is | isin
inductive Var where
  | loc (x : Nat)
  | cel (x : Nat)
inductive TG where
  | one (x : Var)
  | tup (xs : List Var)
inductive BI where
  | len | sum | range | int | divmod
inductive ME where
  | bitLength | index | append | reverse
inductive SK where
  | plain | rev | enu
inductive X where
  | cint (i : Int)
  | cbool (b : Bool)
  | cnone
  | var (v : Var)
  | gint (i : Int)
  | list (es : List X)
  | tup (es : List X)
  | dict0
  | bin (o : Op) (a b : X)
  | cmp (o : Cm) (a b : X)
  | band (es : List X)
  | bor (es : List X)
  | ife (t a b : X)
  | item (o i : X)
  | upto (o u : X)
  | callG (f : Nat) (args : List X)
  | callC (x : Var) (args : List X)
  | bi (b : BI) (args : List X)
  | meth (o : X) (m : ME) (args : List X)
  | comp (sc : Nat) (nn : Nat) (fr : List (Option Nat)) (tg : TG) (sk : SK) (src : X) (ift : Option X) (elt : X)
  | src7 (x : Var)
  | bad
inductive XS where
  | assign (x : Var) (e : X)
  | assignT (xs : List Var) (e : X)
  | assignR (xs : List Var) (e : X)
  | bad
  | assignI (o i e : X)
  | ret (e : X)
  | retNone
  | expr (e : X)
  | ite (t : X) (a b : List XS)
  | ifNot (ts : List X)
  | for_ (tg : TG) (sk : SK) (src : X) (body : List XS)
  | forItems (x : Var)
  | def_ (x : Var) (f : Nat) (cl : List (Option Nat))
structure AEnv where
  sc : Nat
  loc : Nat
  cells : List (Option Nat)
  cf : Nat := 0
/-- a def: its parameters are its first names -/
structure Fn where
  sc : Nat
  nn : Nat
  np : Nat
  body : List XS
inductive Src where
  | list (i : Nat)
  | tup (i : Nat)
  | range (a n : Nat)
  | rev (i : Nat) (k : Nat)
  | enu (i : Nat)
inductive Task where
  | E (e : AEnv) (x : X)
  | Es (e : AEnv) (xs : List X)
  | T (e : AEnv) (x : X)
  | S (e : AEnv) (s : XS)
  | B (e : AEnv) (ss : List XS)
  | For (e : AEnv) (tg : TG) (src : Src) (k : Nat) (body : List XS)
  | Comp (e : AEnv) (tg : TG) (src : Src) (k : Nat) (ift : Option X) (elt : X) (acc : Nat)
inductive Out where
  | v (v : V)
  | vs (vs : List V)
  | b (b : Bool)
  | nx
  | rt (v : V)


/-! ways through an option -/
section
variable {α β : Type}
noncomputable def gd (b : Bool) (k : Option α) : Option α := match b with
  | true => k
  | false => none
theorem gd_some {b : Bool} {k : Option α} {r : α} (h : gd b k = some r) : b = true ∧ k = some r := by
  cases b with
  | true => exact ⟨rfl, h⟩
  | false => cases h
noncomputable def bO (o : Option α) (k : α → Option β) : Option β := match o with
  | some a => k a
  | none => none
theorem bO_some {o : Option α} {k : α → Option β} {r : β} (h : bO o k = some r) : ∃ a, o = some a ∧ k a = some r := by
  cases o with
  | some a => exact ⟨a, rfl, h⟩
  | none => cases h
noncomputable def bI (v : V) (k : Lin → Option β) : Option β := match v with
  | .int p => k p
  | _ => none
theorem bI_some {v : V} {k : Lin → Option β} {r : β} (h : bI v k = some r) : ∃ p, v = .int p ∧ k p = some r := by
  cases v with
  | int p => exact ⟨p, rfl, h⟩
  | _ => cases h
noncomputable def bRf (v : V) (k : Nat → Option β) : Option β := match v with
  | .ref i => k i
  | _ => none
theorem bRf_some {v : V} {k : Nat → Option β} {r : β} (h : bRf v k = some r) : ∃ i, v = .ref i ∧ k i = some r := by
  cases v with
  | ref i => exact ⟨i, rfl, h⟩
  | _ => cases h
/-- one value, two values -/
noncomputable def b1 (vs : List V) (k : V → Option β) : Option β := match vs with
  | [] => none
  | v :: r => gd r.isEmpty (k v)
theorem b1_some {vs : List V} {k : V → Option β} {r : β} (h : b1 vs k = some r) : ∃ v, vs = [v] ∧ k v = some r := by
  cases vs with
  | nil => cases h
  | cons v t => cases t with
    | nil => exact ⟨v, rfl, h⟩
    | cons _ _ => cases h
noncomputable def b2 (vs : List V) (k : V → V → Option β) : Option β := match vs with
  | [] => none
  | v :: r => b1 r (k v)
theorem b2_some {vs : List V} {k : V → V → Option β} {r : β} (h : b2 vs k = some r) : ∃ v u, vs = [v, u] ∧ k v u = some r := by
  cases vs with
  | nil => cases h
  | cons v t =>
    obtain ⟨u, rfl, h⟩ := b1_some (vs := t) h
    exact ⟨v, u, rfl, h⟩
noncomputable def bC (p : Lin) (k : Int → Option β) : Option β := bO (lconst p) k
noncomputable def bL (o : Option AO) (k : Bool → List V → Option β) : Option β := match o with
  | some a => (match a with
    | .list pl vs => k pl vs
    | _ => none)
  | none => none
theorem bL_some {o : Option AO} {k : Bool → List V → Option β} {r : β} (h : bL o k = some r) : ∃ pl vs, o = some (.list pl vs) ∧ k pl vs = some r := by
  cases o with
  | none => cases h
  | some a => cases a with
    | list pl vs => exact ⟨pl, vs, rfl, h⟩
    | _ => cases h
noncomputable def bT (o : Option AO) (k : List V → Option β) : Option β := match o with
  | some a => (match a with
    | .tup vs => k vs
    | _ => none)
  | none => none
theorem bT_some {o : Option AO} {k : List V → Option β} {r : β} (h : bT o k = some r) : ∃ vs, o = some (.tup vs) ∧ k vs = some r := by
  cases o with
  | none => cases h
  | some a => cases a with
    | tup vs => exact ⟨vs, rfl, h⟩
    | _ => cases h
noncomputable def bN (o : Option AO) (k : Nat → List (Option V) → Option β) : Option β := match o with
  | some a => (match a with
    | .ns sc m => k sc m
    | _ => none)
  | none => none
theorem bN_some {o : Option AO} {k : Nat → List (Option V) → Option β} {r : β} (h : bN o k = some r) : ∃ sc m, o = some (.ns sc m) ∧ k sc m = some r := by
  cases o with
  | none => cases h
  | some a => cases a with
    | ns sc m => exact ⟨sc, m, rfl, h⟩
    | _ => cases h
noncomputable def bCl (o : Option AO) (k : Option V → Option β) : Option β := match o with
  | some a => (match a with
    | .cell v => k v
    | _ => none)
  | none => none
theorem bCl_some {o : Option AO} {k : Option V → Option β} {r : β} (h : bCl o k = some r) : ∃ v, o = some (.cell v) ∧ k v = some r := by
  cases o with
  | none => cases h
  | some a => cases a with
    | cell v => exact ⟨v, rfl, h⟩
    | _ => cases h
noncomputable def bF (o : Option AO) (k : Nat → List (Option Nat) → Option β) : Option β := match o with
  | some a => (match a with
    | .clos f cl => k f cl
    | _ => none)
  | none => none
theorem bF_some {o : Option AO} {k : Nat → List (Option Nat) → Option β} {r : β} (h : bF o k = some r) : ∃ f cl, o = some (.clos f cl) ∧ k f cl = some r := by
  cases o with
  | none => cases h
  | some a => cases a with
    | clos f cl => exact ⟨f, cl, rfl, h⟩
    | _ => cases h
@[irreducible] def bV (o : Option (Out × AH)) (k : V → AH → Option β) : Option β := match o with
  | some p => (match p.1 with
    | .v v => k v p.2
    | _ => none)
  | none => none
theorem bV_some {o : Option (Out × AH)} {k : V → AH → Option β} {r : β} (h : bV o k = some r) : ∃ v H, o = some (.v v, H) ∧ k v H = some r := by
  unfold bV at h
  cases o with
  | none => cases h
  | some p =>
    obtain ⟨a, H⟩ := p
    cases a with
    | v v => exact ⟨v, H, rfl, h⟩
    | _ => cases h
@[irreducible] def bVs (o : Option (Out × AH)) (k : List V → AH → Option β) : Option β := match o with
  | some p => (match p.1 with
    | .vs v => k v p.2
    | _ => none)
  | none => none
theorem bVs_some {o : Option (Out × AH)} {k : List V → AH → Option β} {r : β} (h : bVs o k = some r) : ∃ v H, o = some (.vs v, H) ∧ k v H = some r := by
  unfold bVs at h
  cases o with
  | none => cases h
  | some p =>
    obtain ⟨a, H⟩ := p
    cases a with
    | vs v => exact ⟨v, H, rfl, h⟩
    | _ => cases h
@[irreducible] def bB (o : Option (Out × AH)) (k : Bool → AH → Option β) : Option β := match o with
  | some p => (match p.1 with
    | .b v => k v p.2
    | _ => none)
  | none => none
theorem bB_some {o : Option (Out × AH)} {k : Bool → AH → Option β} {r : β} (h : bB o k = some r) : ∃ v H, o = some (.b v, H) ∧ k v H = some r := by
  unfold bB at h
  cases o with
  | none => cases h
  | some p =>
    obtain ⟨a, H⟩ := p
    cases a with
    | b v => exact ⟨v, H, rfl, h⟩
    | _ => cases h
/-- behind a statement -/
@[irreducible] def bS (o : Option (Out × AH)) (kn : AH → Option β) (kr : V → AH → Option β) : Option β := match o with
  | some p => (match p.1 with
    | .nx => kn p.2
    | .rt v => kr v p.2
    | _ => none)
  | none => none
theorem bS_some {o : Option (Out × AH)} {kn : AH → Option β} {kr : V → AH → Option β} {r : β} (h : bS o kn kr = some r) : (∃ H, o = some (.nx, H) ∧ kn H = some r) ∨ (∃ v H, o = some (.rt v, H) ∧ kr v H = some r) := by
  unfold bS at h
  cases o with
  | none => cases h
  | some p =>
    obtain ⟨a, H⟩ := p
    cases a with
    | nx => exact .inl ⟨H, rfl, h⟩
    | rt v => exact .inr ⟨v, H, rfl, h⟩
    | _ => cases h
/-- one of two -/
noncomputable def sel (c : Bool) (a b : Option β) : Option β := match c with
  | true => a
  | false => b
end

/-! the run -/
structure Prm where
  scr : Bool
  fns : Nat → Option Fn
  prim : Nat → List V → AH → Option (V × AH)
  known : List (List (Bool × Lin))

noncomputable def joinO {α : Type} (o : Option (Option α)) : Option α := match o with
  | some a => a
  | none => none
theorem joinO_some {α : Type} {o : Option (Option α)} {a : α} (h : joinO o = some a) : o = some (some a) := by
  cases o with
  | none => cases h
  | some b => exact congrArg some h
noncomputable def getV (e : AEnv) (H : AH) : Var → Option V
  | .loc x => bN H[e.loc]? fun sc m => gd (sc == e.sc) (joinO m[x]?)
  | .cel x => bO (joinO e.cells[x]?) fun i => bCl H[i]? fun v => v
noncomputable def setV (e : AEnv) (H : AH) (x : Var) (v : V) : Option AH := match x with
  | .loc x => bN H[e.loc]? fun sc m => gd (sc == e.sc) (bO m[x]? fun _ => some (H.set e.loc (.ns sc (m.set x (some v)))))
  | .cel x => bO (joinO e.cells[x]?) fun i => bCl H[i]? fun _ => some (H.set i (.cell (some v)))
noncomputable def setAll (e : AEnv) : AH → List Var → List V → Option AH
  | H, [], vs => gd vs.isEmpty (some H)
  | H, x :: xs, vs => match vs with
    | [] => none
    | v :: r => bO (setV e H x v) fun H' => setAll e H' xs r
noncomputable def small (c : Int) : Bool := decide (c.natAbs < 1000000)
noncomputable def opI (o : Op) (a b : Int) : Option Int := match o with
  | .fdiv => gd (!(b == 0)) (gd (small a && small b) (some (a.fdiv b)))
  | .mod => gd (!(b == 0)) (some (a.fmod b))
  | .pow => gd ((decide (0 ≤ b) && decide (b ≤ 1000)) && small a) (some (a ^ b.toNat))
  | .band => some (Builtin.bitAnd a b)
  | .bxor => some (Builtin.bitXor a b)
  | .shl => gd ((decide (0 ≤ b) && decide (b ≤ 1000)) && small a) (some (a * 2 ^ b.toNat))
  | .shr => gd (decide (0 ≤ b)) (some (a.fdiv (2 ^ b.toNat)))
  | _ => none
noncomputable def isMod : Op → Bool
  | .mod => true
  | _ => false
noncomputable def mulP (p q : Lin) : Option V := match lconst p with
  | some c => gd (small c) (some (.int (lscale c q)))
  | none => bC q fun c => gd (small c) (some (.int (lscale c p)))
noncomputable def intP (o : Op) (p q : Lin) : Option V := match o with
  | .add => some (.int (ladd p q))
  | .sub => some (.int (ladd p (lscale (-1) q)))
  | .mul => mulP p q
  | o => bC p fun x => bC q fun y => bO (opI o x y) fun z => some (.int [z])
noncomputable def bin2 (o : Op) (a b : V) : Option V := match a with
  | .int p => bI b fun q => intP o p q
  | .raw i => bI b fun q => bC q fun c => gd (isMod o && c == 10) (some (.int (lunit (i + 1))))
  | _ => none
noncomputable def pairL (o : Op) (pl : Bool) (vs : List V) (b : V) (H : AH) : Option (V × AH) := match o with
  | .add => bRf b fun j => bL H[j]? fun _ us => gd (decide (vs.length + us.length ≤ 10000)) (some (.ref H.length, H ++ [.list true (vs ++ us)]))
  | .mul => bI b fun q => bC q fun k => b1 vs fun v => gd (pl && (decide (0 ≤ k) && decide (k ≤ 1000))) (some (.ref H.length, H ++ [.list true (List.replicate k.toNat v)]))
  | _ => none
noncomputable def evBin (o : Op) (a b : V) (H : AH) : Option (V × AH) := match a with
  | .ref i => bL H[i]? fun pl vs => pairL o pl vs b H
  | a => bO (bin2 o a b) fun v => some (v, H)
noncomputable def sameLin (p q : Lin) : Bool := lzero (ladd p (lscale (-1) q))
noncomputable def oB (o : Option Bool) : Bool := match o with
  | some b => b
  | none => false
theorem oB_true {o : Option Bool} (h : oB o = true) : o = some true := by
  cases o with
  | none => cases h
  | some b => exact congrArg some h
noncomputable def sameI (u v : V) : Option Bool := bI u fun p => bI v fun q => some (sameLin p q)
noncomputable def sameInts : List V → List V → Bool
  | [], vs => vs.isEmpty
  | u :: r, vs => match vs with
    | [] => false
    | v :: t => oB (sameI u v) && sameInts r t
noncomputable def sameL (H : AH) (u v : V) : Option Bool := bRf u fun a => bRf v fun b => bL H[a]? fun _ vs => bL H[b]? fun _ us => some (sameInts vs us)
noncomputable def sameLists (H : AH) : List V → List V → Bool
  | [], vs => vs.isEmpty
  | u :: r, vs => match vs with
    | [] => false
    | v :: t => oB (sameL H u v) && sameLists H r t
noncomputable def constInts : List V → Option (List Int)
  | [] => some []
  | v :: r => bI v fun p => bC p fun c => bO (constInts r) fun cs => some (c :: cs)
noncomputable def cmpI (o : Cm) (d : Int) : Option Bool := match o with
  | .eq => some (d == 0)
  | .ne => some (!(d == 0))
  | .lt => some (decide (d < 0))
  | .le => some (decide (d ≤ 0))
  | _ => none
noncomputable def cmpS (o : Cm) : Option Bool := match o with
  | .eq => some true
  | .ne => some false
  | _ => none
noncomputable def isIn : Cm → Bool
  | .isin => true
  | _ => false
noncomputable def isIs : Cm → Bool
  | .is => true
  | _ => false
noncomputable def cmp2 (o : Cm) (a b : V) (H : AH) : Option Bool := match a with
  | .int p => match b with
    | .int q => bC (ladd p (lscale (-1) q)) fun d => cmpI o d
    | .ref j => gd (isIn o) (bL H[j]? fun _ vs => bC p fun c => bO (constInts vs) fun cs => some (cs.any (· == c)))
    | _ => none
  | .ref i => match b with
    | .ref j => bL H[i]? fun _ vs => bL H[j]? fun _ us => sel (sameInts vs us) (cmpS o) (gd (sameLists H vs us) (cmpS o))
    | .none => gd (isIs o) (some false)
    | _ => none
  | _ => none
noncomputable def truth (v : V) (H : AH) : Option Bool := match v with
  | .bool b => some b
  | .int p => bC p fun c => some (c != 0)
  | .ref i => bL H[i]? fun _ vs => gd (decide (vs.length ≤ 1000)) (some (!vs.isEmpty))
  | _ => none
noncomputable def allInts : List V → Option (List Lin)
  | [] => some []
  | v :: r => bI v fun p => bO (allInts r) fun ps => some (p :: ps)
noncomputable def normAll : List Lin → Nat
  | [] => 0
  | p :: r => lnorm p + normAll r
noncomputable def sumAll : List Lin → Lin
  | [] => []
  | p :: r => ladd p (sumAll r)
noncomputable def natC (p : Lin) : Option Nat := bC p fun c => gd (decide (0 ≤ c) && decide (c ≤ 1000000)) (some c.toNat)
noncomputable def range1 (v : V) (H : AH) : Option (V × AH) := bI v fun p => bO (natC p) fun n => some (.ref H.length, H ++ [.range 0 n])
noncomputable def range2 (v u : V) (H : AH) : Option (V × AH) := bI v fun p => bI u fun q => bO (natC p) fun a => bO (natC q) fun b => gd (decide (a ≤ b)) (some (.ref H.length, H ++ [.range a (b - a)]))
noncomputable def intB (v : V) (H : AH) : Option (V × AH) := match v with
  | .bool c => some (.int [if c then 1 else 0], H)
  | _ => none
noncomputable def evBI (b : BI) (vs : List V) (H : AH) : Option (V × AH) := match b with
  | .len => b1 vs fun v => bRf v fun i => bL H[i]? fun _ us => gd (decide (us.length ≤ 1000)) (some (.int [(us.length : Int)], H))
  | .sum => b1 vs fun v => bRf v fun i => bL H[i]? fun _ us => bO (allInts us) fun ps => gd (decide (normAll ps ≤ 1000000) && decide (us.length ≤ 1000)) (some (.int (sumAll ps), H))
  | .range => match vs with
    | [] => none
    | v :: r => match r with
      | [] => range1 v H
      | u :: t => gd t.isEmpty (range2 v u H)
  | .int => b1 vs fun v => intB v H
  | .divmod => b2 vs fun v u => bI v fun p => bI u fun q => bC p fun a => bC q fun b => bO (opI .fdiv a b) fun x => bO (opI .mod a b) fun y => some (.ref H.length, H ++ [.tup [.int [x], .int [y]]])
noncomputable def findC (c : Int) : List Int → Nat → Option Nat
  | [], _ => none
  | d :: r, k => sel (d == c) (some k) (findC c r (k + 1))
noncomputable def evME (o : V) (m : ME) (vs : List V) (H : AH) : Option (V × AH) := match m with
  | .bitLength => bI o fun p => gd vs.isEmpty (bC p fun c => some (.int [(Builtin.Int.intBits c : Int)], H))
  | .index => bRf o fun i => b1 vs fun v => bI v fun p => bT H[i]? fun us => bC p fun c => bO (constInts us) fun cs => bO (findC c cs 0) fun k => some (.int [(k : Int)], H)
  | .append => bRf o fun i => b1 vs fun v => bL H[i]? fun pl us => gd (pl && decide (us.length ≤ 1000)) (some (.none, H.set i (.list true (us ++ [v]))))
  | .reverse => bRf o fun i => gd vs.isEmpty (bL H[i]? fun pl us => gd (pl && decide (us.length ≤ 1000)) (some (.none, H.set i (.list true us.reverse))))
noncomputable def okME (o : V) (m : ME) (H : AH) : Bool := oB (match m with
  | .bitLength => bI o fun _ => some true
  | .index => bRf o fun i => bT H[i]? fun _ => some true
  | .append => bRf o fun i => bL H[i]? fun pl _ => some pl
  | .reverse => bRf o fun i => bL H[i]? fun pl _ => some pl)
noncomputable def itemsOf (o : Option AO) (k : List V → Option V) : Option V := match o with
  | some a => (match a with
    | .list _ us => k us
    | .tup us => k us
    | _ => none)
  | none => none
noncomputable def evItem (o i : V) (H : AH) : Option V := bRf o fun j => bI i fun p => bO (natC p) fun k => itemsOf H[j]? fun us => us[k]?
noncomputable def evUpto (o u : V) (H : AH) : Option (V × AH) := bRf o fun j => bI u fun p => bT H[j]? fun us => bO (natC p) fun k => gd (decide (us.length ≤ 1000) && decide (k < us.length)) (some (.ref H.length, H ++ [.tup (us.take k)]))
noncomputable def plainSrc (i : Nat) (o : Option AO) : Option Src := match o with
  | some a => (match a with
    | .list _ _ => some (.list i)
    | .tup _ => some (.tup i)
    | .range a n => gd (decide (a + n ≤ 2000000)) (some (.range a n))
    | _ => none)
  | none => none
noncomputable def srcOf (sk : SK) (v : V) (H : AH) : Option Src := bRf v fun i => match sk with
  | .plain => plainSrc i H[i]?
  | .rev => bL H[i]? fun _ us => some (.rev i us.length)
  | .enu => bL H[i]? fun _ _ => some (.enu i)
inductive It where
  | one (v : V)
  | tup (vs : List V)
/-- the end, or one more -/
noncomputable def nx1 (o : Option V) (f : V → It) : Option (Option It) := match o with
  | some v => some (some (f v))
  | none => some none
noncomputable def nextIt (H : AH) (src : Src) (k : Nat) : Option (Option It) := match src with
  | .list i => bL H[i]? fun _ vs => nx1 vs[k]? .one
  | .tup i => bT H[i]? fun vs => nx1 vs[k]? .one
  | .range a n => sel (decide (k < n)) (some (some (.one (.int [((a + k : Nat) : Int)])))) (some none)
  | .rev i m => bL H[i]? fun _ vs => gd (vs.length == m) (nx1 vs.reverse[k]? .one)
  | .enu i => bL H[i]? fun _ vs => nx1 vs[k]? fun v => .tup [.int [(k : Int)], v]
noncomputable def bindT (e : AEnv) (H : AH) (tg : TG) (it : It) : Option AH := match tg with
  | .one x => (match it with
    | .one v => setV e H x v
    | .tup _ => none)
  | .tup xs => (match it with
    | .one v => bRf v fun j => bT H[j]? fun vs => setAll e H xs vs
    | .tup vs => setAll e H xs vs)
noncomputable def freeCells (e : AEnv) : List (Option Nat) → List (Option Nat)
  | [] => []
  | o :: r => (bO o fun x => joinO e.cells[x]?) :: freeCells e r
noncomputable def cellOk (e : AEnv) (o : Option Nat) : Bool := match o with
  | some x => (joinO e.cells[x]?).isSome
  | none => true
noncomputable def cellsOk (e : AEnv) : List (Option Nat) → Bool
  | [] => true
  | o :: r => cellOk e o && cellsOk e r
noncomputable def pureV (e : AEnv) (H : AH) : X → Option V
  | .cint i => some (.int [i])
  | .var x => getV e H x
  | .item o i => bO (pureV e H o) fun a => bO (pureV e H i) fun b => evItem a b H
  | .bin o a b => bO (pureV e H a) fun x => bO (pureV e H b) fun y => bin2 o x y
  | _ => none
noncomputable def atomC (o : Cm) (p q : Lin) : Option (Bool × Lin) := match o with
  | .eq => some (true, ladd p (lscale (-1) q))
  | .ne => some (false, ladd p (lscale (-1) q))
  | _ => none
noncomputable def bCmp {β : Type} (x : X) (k : Cm → X → X → Option β) : Option β := match x with
  | .cmp o a b => k o a b
  | _ => none
theorem bCmp_some {β : Type} {x : X} {k : Cm → X → X → Option β} {r : β} (h : bCmp x k = some r) : ∃ o a b, x = .cmp o a b ∧ k o a b = some r := by
  cases x with
  | cmp o a b => exact ⟨o, a, b, rfl, h⟩
  | _ => cases h
noncomputable def atoms (e : AEnv) (H : AH) : List X → Option (List (Bool × Lin))
  | [] => some []
  | x :: r => bCmp x fun o a b => bO (pureV e H a) fun u => bI u fun p => bO (pureV e H b) fun v => bI v fun q => bO (atoms e H r) fun l => bO (atomC o p q) fun t => some (t :: l)
noncomputable abbrev Run := Task → AH → Option (Out × AH)
noncomputable def enter (F : Fn) (args : List V) (H : AH) : AEnv × AH :=
  ({ sc := F.sc, loc := H.length, cells := [] }, H ++ [.ns F.sc (args.map some ++ List.replicate (F.nn - args.length) none)])
noncomputable def stepE (P : Prm) (ih : Run) (e : AEnv) (x : X) (H : AH) : Option (Out × AH) := match x with
  | .cint i => some (.v (.int [i]), H)
  | .cbool b => some (.v (.bool b), H)
  | .cnone => some (.v .none, H)
  | .gint i => some (.v (.int [i]), H)
  | .var x => bO (getV e H x) fun v => some (.v v, H)
  | .list es => bVs (ih (.Es e es) H) fun vs H' => gd (decide (vs.length ≤ 1000)) (some (.v (.ref H'.length), H' ++ [.list true vs]))
  | .tup es => bVs (ih (.Es e es) H) fun vs H' => gd (decide (vs.length ≤ 1000)) (some (.v (.ref H'.length), H' ++ [.tup vs]))
  | .dict0 => some (.v (.ref H.length), H ++ [.dict0])
  | .bin o a b => bV (ih (.E e a) H) fun x H1 => bV (ih (.E e b) H1) fun y H2 => bO (evBin o x y H2) fun r => some (.v r.1, r.2)
  | .cmp o a b => bV (ih (.E e a) H) fun x H1 => bV (ih (.E e b) H1) fun y H2 => bO (cmp2 o x y H2) fun b => some (.v (.bool b), H2)
  | .ife t a b => bB (ih (.T e t) H) fun c H1 => sel c (ih (.E e a) H1) (ih (.E e b) H1)
  | .item o i => bV (ih (.E e o) H) fun x H1 => bV (ih (.E e i) H1) fun y H2 => bO (evItem x y H2) fun v => some (.v v, H2)
  | .upto o u => bV (ih (.E e o) H) fun x H1 => bV (ih (.E e u) H1) fun y H2 => bO (evUpto x y H2) fun r => some (.v r.1, r.2)
  | .callG f as => bVs (ih (.Es e as) H) fun vs H1 => bO (P.prim f vs H1) fun r => some (.v r.1, r.2)
  | .callC x as => bO (getV e H x) fun v => bRf v fun i => bF H[i]? fun _ _ => bVs (ih (.Es e as) H) fun vs H1 => bF H1[i]? fun f cl => bO (P.fns f) fun F => gd (vs.length == F.np && !vs.isEmpty)
      (bS (ih (.B { (enter F vs H1).1 with cells := cl } F.body) (enter F vs H1).2) (fun H2 => some (.v .none, H2)) fun v H2 => some (.v v, H2))
  | .bi b as => bVs (ih (.Es e as) H) fun vs H1 => bO (evBI b vs H1) fun r => some (.v r.1, r.2)
  | .meth o m as => bV (ih (.E e o) H) fun x H1 => gd (okME x m H1) (bVs (ih (.Es e as) H1) fun vs H2 => bO (evME x m vs H2) fun r => some (.v r.1, r.2))
  | .comp sc nn fr tg sk src ift elt => bV (ih (.E e src) H) fun x H1 => bO (srcOf sk x H1) fun s => gd (cellsOk e fr)
      (bS (ih (.Comp { sc := sc, loc := H1.length + 1, cells := freeCells e fr } tg s 0 ift elt H1.length) (H1 ++ [.list true [], .ns sc (List.replicate nn none)]))
        (fun H2 => bN H2[H1.length + 1]? fun _ _ => some (.v (.ref H1.length), H2.set (H1.length + 1) (.ns sc []))) fun _ _ => none)
  | .src7 x => gd P.scr (bO (getV e H x) fun u => match u with
      | .scr => bV (ih (.E e (.bin .mul (.list [.cint 0]) (.cint 7))) H) fun v H1 => bRf v fun j => bL H1[j]? fun _ vs => bO (constInts vs) fun cs => gd (cs == [0, 0, 0, 0, 0, 0, 0])
          (some (.v (.ref H1.length), H1 ++ [.list true [.raw 0, .raw 1, .raw 2, .raw 3, .raw 4, .raw 5, .raw 6]]))
      | _ => none)
  | .band _ => none
  | .bor _ => none
  | .bad => none
noncomputable def stepT (ih : Run) (e : AEnv) (x : X) (H : AH) : Option (Out × AH) := match x with
  | .band es => (match es with
    | [] => some (.b true, H)
    | x :: r => bB (ih (.T e x) H) fun c H1 => sel c (ih (.T e (.band r)) H1) (some (.b false, H1)))
  | .bor es => (match es with
    | [] => some (.b false, H)
    | x :: r => bB (ih (.T e x) H) fun c H1 => sel c (some (.b true, H1)) (ih (.T e (.bor r)) H1))
  | .cmp o a b => bV (ih (.E e a) H) fun x H1 => bV (ih (.E e b) H1) fun y H2 => bO (cmp2 o x y H2) fun b => some (.b b, H2)
  | .var x => bO (getV e H x) fun v => bO (truth v H) fun b => some (.b b, H)
  | _ => none
noncomputable def stepS (P : Prm) (ih : Run) (e : AEnv) (s : XS) (H : AH) : Option (Out × AH) := match s with
  | .assign x y => bV (ih (.E e y) H) fun v H1 => bO (setV e H1 x v) fun H2 => some (.nx, H2)
  | .assignT xs y => bV (ih (.E e y) H) fun v H1 => bRf v fun i => bT H1[i]? fun vs => bO (setAll e H1 xs vs) fun H2 => some (.nx, H2)
  | .assignR xs y => bV (ih (.E e y) H) fun v H1 => bRf v fun i => bT H1[i]? fun vs => bO (setAll e H1 xs.reverse vs.reverse) fun H2 => some (.nx, H2)
  | .bad => none
  | .assignI o i y => bV (ih (.E e y) H) fun v H1 => bV (ih (.E e o) H1) fun u H2 => bRf u fun j => bV (ih (.E e i) H2) fun q H3 => bI q fun p => bL H3[j]? fun _ us => bO (natC p) fun k => bO us[k]? fun _ => some (.nx, H3.set j (.list false (us.set k v)))
  | .ret y => bV (ih (.E e y) H) fun v H1 => some (.rt v, H1)
  | .retNone => some (.rt .none, H)
  | .expr y => bV (ih (.E e y) H) fun v H1 => match v with
    | .none => some (.nx, H1)
    | _ => none
  | .ite t a b => bB (ih (.T e t) H) fun c H1 => sel c (ih (.B e a) H1) (ih (.B e b) H1)
  | .ifNot ts => bO (atoms e H ts) fun l => gd (P.known.contains l) (some (.nx, H))
  | .for_ tg sk src body => bV (ih (.E e src) H) fun x H1 => bO (srcOf sk x H1) fun s => ih (.For e tg s 0 body) H1
  | .forItems x => bO (getV e H x) fun v => bRf v fun i => bO H[i]? fun o => match o with
    | .dict0 => some (.nx, H)
    | _ => none
  | .def_ x f cl => gd ((e.cf == f + 1) && (cellsOk e cl && H.any (fun o => match o with | .tab g => g == f | _ => false)))
      (bO (setV e (H ++ [.clos f (freeCells e cl)]) x (.ref H.length)) fun H1 => some (.nx, H1))
noncomputable def ifT (ih : Run) (e : AEnv) (ift : Option X) (H : AH) : Option (Out × AH) := match ift with
  | none => some (.b true, H)
  | some t => ih (.T e t) H
noncomputable def stepC (ih : Run) (e : AEnv) (tg : TG) (src : Src) (k : Nat) (ift : Option X) (elt : X) (acc : Nat) (c : Bool) (H2 : AH) : Option (Out × AH) :=
  sel c (bV (ih (.E e elt) H2) fun v H3 => bL H3[acc]? fun pl us => gd (pl && decide (us.length ≤ 1000)) (ih (.Comp e tg src (k + 1) ift elt acc) (H3.set acc (.list true (us ++ [v])))))
    (ih (.Comp e tg src (k + 1) ift elt acc) H2)
noncomputable def step (P : Prm) (ih : Run) (t : Task) (H : AH) : Option (Out × AH) := match t with
  | .E e x => stepE P ih e x H
  | .Es e xs => (match xs with
    | [] => some (.vs [], H)
    | x :: r => bV (ih (.E e x) H) fun v H1 => bVs (ih (.Es e r) H1) fun vs H2 => some (.vs (v :: vs), H2))
  | .T e x => stepT ih e x H
  | .S e s => stepS P ih e s H
  | .B e ss => (match ss with
    | [] => some (.nx, H)
    | s :: r => bS (ih (.S e s) H) (fun H1 => ih (.B e r) H1) fun v H1 => some (.rt v, H1))
  | .For e tg src k body => bO (nextIt H src k) fun i => match i with
    | some it => bO (bindT e H tg it) fun H1 => bS (ih (.B e body) H1) (fun H2 => ih (.For e tg src (k + 1) body) H2) fun v H2 => some (.rt v, H2)
    | none => some (.nx, H)
  | .Comp e tg src k ift elt acc => bO (nextIt H src k) fun i => match i with
    | some it => bO (bindT e H tg it) fun H1 => bB (ifT ih e ift H1) fun c H2 => stepC ih e tg src k ift elt acc c H2
    | none => some (.nx, H)
noncomputable def run (P : Prm) : Nat → Run
  | 0 => fun _ _ => none
  | n + 1 => step P (run P n)

end Mine

namespace Mine

/-- a nested def: what its closure object holds, and where its code's table lies -/
structure NInfo where
  name : Str
  qual : Str
  params : Arguments
  body : List Stmt
  scope : Scope
  P : Addr
  c : Addr
  pos : Pos
structure Par where
  hb : Heap
  σ : Nat → Int
  raw : Nat → Int
  sv : Value
  ni : Nat → NInfo
  scs : Nat → Scope

noncomputable def VR (π : Par) (ρ : List Addr) : V → Value → Prop
  | .none, v => v = .none
  | .bool b, v => v = .bool b
  | .int p, v => ∃ t, v = .int (lv π.σ 0 p) t
  | .ref i, v => ∃ a, ρ[i]? = some a ∧ v = .ref a
  | .scr, v => v = π.sv
  | .raw i, v => ∃ t, v = .int (π.raw i) t ∧ π.σ (i + 1) = (π.raw i).fmod 10
noncomputable def VRs (π : Par) (ρ : List Addr) : List V → List Value → Prop
  | [], [] => True
  | v :: vs, c :: cs => VR π ρ v c ∧ VRs π ρ vs cs
  | _, _ => False
/-- the cells that a block sees, by its names' places -/
noncomputable def CellsR (ρ : List Addr) (sc : Scope) (cl : List (Option Nat)) (cs : List (Str × Addr)) : Prop :=
  ∀ (i j : Nat) (nm : Str × NameKind), cl[i]? = some (some j) → sc.names[i]? = some nm → ∃ c, ρ[j]? = some c ∧ cs.lookup nm.1 = some c
noncomputable def TabR (π : Par) (ρ : List Addr) (h : Heap) (a : Addr) (f : Nat) : Prop :=
  a = (π.ni f).P ∧ (h.get? a = some (tabObj #[]) ∨ ∃ c', h.get? a = some (tabObj #[rawInt (π.ni f).pos.line, rawInt (π.ni f).pos.col, .ref c']) ∧ c' ∉ ρ ∧ h.CodeRec (.ref c') (π.ni f).qual)
noncomputable def NsR (π : Par) (ρ : List Addr) (sc : Scope) (m : List (Option V)) (cm : Str → Option Value) : Prop :=
  ∀ (i : Nat) (v : V) (nm : Str × NameKind), m[i]? = some (some v) → sc.names[i]? = some nm → ∃ cv, cm nm.1 = some cv ∧ VR π ρ v cv
noncomputable def ObjR (π : Par) (ρ : List Addr) (h : Heap) (a : Addr) : AO → Prop
  | .list pl vs => ∃ cvs, h.IsList a cvs.toArray ∧ (pl = true → h.PlainList a cvs.toArray) ∧ VRs π ρ vs cvs
  | .tup vs => ∃ cvs n, h.get? a = some { cls := .type "tuple", dict := none, data := .seq cvs.toArray n, slots := #[] } ∧ VRs π ρ vs cvs
  | .dict0 => ∃ n, h.get? a = some { cls := .type "dict", dict := none, data := .dict #[] n, slots := #[] }
  | .range x n => ∃ t u v, IsRange h a (x : Int) ((x + n : Nat) : Int) 1 t u v
  | .ns sc m => ((π.scs sc).names.map (·.1)).Nodup ∧ ∃ cm, h.Ns a cm ∧ NsR π ρ (π.scs sc) m cm
  | .cell none => ∃ u, h.IsCell a u
  | .cell (some v) => ∃ cv, h.IsCell a (some cv) ∧ VR π ρ v cv
  | .clos f cl => ∃ c' doc pm ctv cs, h.get? a = some (fnMade (π.ni f).name (π.ni f).qual (π.ni f).params (π.ni f).body (π.ni f).scope cs doc pm c' ctv) ∧ c' ∉ ρ ∧ h.CodeRec (.ref c') (π.ni f).qual ∧ CellsR ρ (π.ni f).scope cl cs
  | .tab f => TabR π ρ h a f

noncomputable def AO.gone : AO → Bool := fun _ => false
structure Inv (π : Par) (ρ : List Addr) (H : AH) (h : Heap) : Prop where
  len : ρ.length = H.length
  nd : ∀ (i j : Nat) (o o' : AO) (a : Addr), ρ[i]? = some a → ρ[j]? = some a → H[i]? = some o → H[j]? = some o' → o.gone = false → o'.gone = false → i = j
  new : ∀ a ∈ ρ, π.hb.get? a = none
  lo : ∀ a ∈ ρ, a ≠ sysModules
  g3 : ∃ o, π.hb.get? mainGlobals = some o
  base : ∀ b o, π.hb.get? b = some o → h.get? b = some o
  obj : ∀ (i : Nat) (o : AO) (a : Addr), H[i]? = some o → ρ[i]? = some a → ObjR π ρ h a o

/-- what a run makes of the addresses and the heap -/
structure Ext (ρ : List Addr) (h : Heap) (ρ' : List Addr) (h' : Heap) : Prop where
  pre : ∃ ext, ρ' = ρ ++ ext ∧ ∀ a ∈ ext, h.get? a = none ∨ a ∈ ρ
  kept : ∀ b o, b ∉ ρ → h.get? b = some o → h'.get? b = some o

theorem VR.mono {π : Par} {ρ ext : List Addr} {v : V} {c : Value} (x : VR π ρ v c) : VR π (ρ ++ ext) v c := by
  cases v with
  | ref i =>
    obtain ⟨a, e, r⟩ := x
    exact ⟨a, by rw [List.getElem?_append_left (List.getElem?_eq_some_iff.mp e).1]; exact e, r⟩
  | _ => exact x
theorem VRs.mono {π : Par} {ρ ext : List Addr} : ∀ {vs : List V} {cs : List Value}, VRs π ρ vs cs → VRs π (ρ ++ ext) vs cs
  | [], [], _ => trivial
  | _ :: _, _ :: _, x => ⟨x.1.mono, VRs.mono x.2⟩
  | [], _ :: _, x => x.elim
  | _ :: _, [], x => x.elim
theorem VRs.length {π : Par} {ρ : List Addr} : ∀ {vs : List V} {cs : List Value}, VRs π ρ vs cs → vs.length = cs.length
  | [], [], _ => rfl
  | _ :: _, _ :: _, x => congrArg (· + 1) (VRs.length x.2)
  | [], _ :: _, x => x.elim
  | _ :: _, [], x => x.elim
theorem VRs.get {π : Par} {ρ : List Addr} : ∀ {vs : List V} {cs : List Value}, VRs π ρ vs cs → ∀ {i : Nat} {v : V}, vs[i]? = some v → ∃ c, cs[i]? = some c ∧ VR π ρ v c
  | _ :: _, c :: _, x, 0, _, e => by cases e; exact ⟨c, rfl, x.1⟩
  | _ :: _, _ :: _, x, i + 1, _, e => by simpa using VRs.get x.2 (i := i) (by simpa using e)
  | [], [], _, _, _, e => by simp at e
  | [], _ :: _, x, _, _, _ => x.elim
  | _ :: _, [], x, _, _, _ => x.elim
theorem VRs.append {π : Par} {ρ : List Addr} : ∀ {vs us : List V} {cs ds : List Value}, VRs π ρ vs cs → VRs π ρ us ds → VRs π ρ (vs ++ us) (cs ++ ds)
  | [], _, [], _, _, y => y
  | _ :: _, _, _ :: _, _, x, y => ⟨x.1, VRs.append x.2 y⟩
  | [], _, _ :: _, _, x, _ => x.elim
  | _ :: _, _, [], _, x, _ => x.elim
theorem VRs.set {π : Par} {ρ : List Addr} {v : V} {c : Value} (y : VR π ρ v c) : ∀ {vs : List V} {cs : List Value} (i : Nat), VRs π ρ vs cs → VRs π ρ (vs.set i v) (cs.set i c)
  | [], [], _, x => x
  | _ :: _, _ :: _, 0, x => ⟨y, x.2⟩
  | _ :: _, _ :: _, i + 1, x => ⟨x.1, VRs.set y i x.2⟩
  | [], _ :: _, _, x => x.elim
  | _ :: _, [], _, x => x.elim
theorem VRs.take {π : Par} {ρ : List Addr} : ∀ {vs : List V} {cs : List Value} (k : Nat), VRs π ρ vs cs → VRs π ρ (vs.take k) (cs.take k)
  | [], [], _, _ => by simp [VRs]
  | _ :: _, _ :: _, 0, _ => trivial
  | _ :: _, _ :: _, k + 1, x => ⟨x.1, VRs.take k x.2⟩
  | [], _ :: _, _, x => x.elim
  | _ :: _, [], _, x => x.elim
theorem VRs.reverse {π : Par} {ρ : List Addr} : ∀ {vs : List V} {cs : List Value}, VRs π ρ vs cs → VRs π ρ vs.reverse cs.reverse
  | [], [], _ => trivial
  | _ :: _, _ :: _, x => by
    rw [List.reverse_cons, List.reverse_cons]
    exact VRs.append (VRs.reverse x.2) ⟨x.1, trivial⟩
  | [], _ :: _, x => x.elim
  | _ :: _, [], x => x.elim
theorem VRs.replicate {π : Par} {ρ : List Addr} {v : V} {c : Value} (y : VR π ρ v c) : ∀ n, VRs π ρ (List.replicate n v) (List.replicate n c)
  | 0 => trivial
  | n + 1 => ⟨y, VRs.replicate y n⟩
theorem CellsR.mono {ρ ext : List Addr} {sc : Scope} {cl : List (Option Nat)} {cs : List (Str × Addr)} (x : CellsR ρ sc cl cs) : CellsR (ρ ++ ext) sc cl cs := fun i j nm e1 e2 => by
  obtain ⟨c, e, r⟩ := x i j nm e1 e2
  exact ⟨c, by rw [List.getElem?_append_left (List.getElem?_eq_some_iff.mp e).1]; exact e, r⟩
theorem NsR.mono {π : Par} {ρ ext : List Addr} {sc : Scope} {m : List (Option V)} {cm : Str → Option Value} (x : NsR π ρ sc m cm) : NsR π (ρ ++ ext) sc m cm := fun i v nm e1 e2 => by
  obtain ⟨cv, e, r⟩ := x i v nm e1 e2
  exact ⟨cv, e, r.mono⟩
theorem ns_at {h h' : Heap} {a : Addr} {m : Str → Option Value} (x : h.Ns a m) (e : ∀ o, h.get? a = some o → h'.get? a = some o) : h'.Ns a m := let ⟨o, es, ep, y, r⟩ := x; ⟨o, es, ep, e _ y, r⟩

theorem ObjR.live {π : Par} {ρ : List Addr} {h : Heap} {a : Addr} {o : AO} (x : ObjR π ρ h a o) (hg : o.gone = false) : ∃ ob, h.get? a = some ob := by
  cases o with
  | list pl vs => obtain ⟨_, ⟨ob, e, _⟩, _⟩ := x; exact ⟨ob, e⟩
  | tup vs => obtain ⟨_, _, e, _⟩ := x; exact ⟨_, e⟩
  | dict0 => obtain ⟨_, e⟩ := x; exact ⟨_, e⟩
  | range _ _ => obtain ⟨_, _, _, e⟩ := x; exact ⟨_, e⟩
  | ns sc m => obtain ⟨_, _, ⟨ob, _, _, e, _⟩, _⟩ := x; exact ⟨ob, e⟩
  | cell v => cases v with
    | none => obtain ⟨_, ob, e, _⟩ := x; exact ⟨ob, e⟩
    | some v => obtain ⟨_, ⟨ob, e, _⟩, _⟩ := x; exact ⟨ob, e⟩
  | clos f cl => obtain ⟨_, _, _, _, _, e, _⟩ := x; exact ⟨_, e⟩
  | tab f => rcases x.2 with e | ⟨_, e, _⟩ <;> exact ⟨_, e⟩
theorem codeRec_kept {h h' : Heap} {c : Addr} {q : Str} (x : h.CodeRec (.ref c) q) (e : ∀ o, h.get? c = some o → h'.get? c = some o) : h'.CodeRec (.ref c) q := by
  obtain ⟨c2, o, vs, t, e1, e2, r⟩ := x
  cases e1
  exact ⟨c, o, vs, t, rfl, e _ e2, r⟩
theorem codeRec_live {h : Heap} {c : Addr} {q : Str} (x : h.CodeRec (.ref c) q) : ∃ o, h.get? c = some o := by
  obtain ⟨c2, o, vs, t, e1, e2, _⟩ := x
  cases e1
  exact ⟨o, e2⟩
/-- an object stays what it was where its place, and what lies outside, is kept -/
theorem ObjR.keep {π : Par} {ρ ext : List Addr} {h h' : Heap} {a : Addr} {o : AO} (x : ObjR π ρ h a o) (he : ∀ b ∈ ext, h.get? b = none ∨ b ∈ ρ)
    (ha : ∀ ob, h.get? a = some ob → h'.get? a = some ob) (hk : ∀ b ob, b ∉ ρ → h.get? b = some ob → h'.get? b = some ob) : ObjR π (ρ ++ ext) h' a o := by
  have off : ∀ {c : Addr} {q : Str}, c ∉ ρ → h.CodeRec (.ref c) q → c ∉ ρ ++ ext := fun {c q} n r m => by
    rcases List.mem_append.mp m with m | m
    · exact n m
    · obtain ⟨ob, e⟩ := codeRec_live r
      rcases he _ m with q | q
      · rw [q] at e; cases e
      · exact n q
  cases o with
  | list pl vs =>
    obtain ⟨cvs, ⟨ob, e, r⟩, p, v⟩ := x
    exact ⟨cvs, ⟨ob, ha _ e, r⟩, fun q => let ⟨n, e⟩ := p q; ⟨n, ha _ e⟩, v.mono⟩
  | tup vs => obtain ⟨cvs, n, e, v⟩ := x; exact ⟨cvs, n, ha _ e, v.mono⟩
  | dict0 => obtain ⟨n, e⟩ := x; exact ⟨n, ha _ e⟩
  | range _ _ => obtain ⟨t, u, v, e⟩ := x; exact ⟨t, u, v, ha _ e⟩
  | ns sc m => obtain ⟨ndp, cm, hn, r⟩ := x; exact ⟨ndp, cm, ns_at hn ha, r.mono⟩
  | cell v => cases v with
    | none => obtain ⟨u, ob, e, r⟩ := x; exact ⟨u, ob, ha _ e, r⟩
    | some v => obtain ⟨cv, ⟨ob, e, r⟩, y⟩ := x; exact ⟨cv, ⟨ob, ha _ e, r⟩, y.mono⟩
  | clos f cl =>
    obtain ⟨c', doc, pm, ctv, cs, e, n, r, y⟩ := x
    exact ⟨c', doc, pm, ctv, cs, ha _ e, off n r, codeRec_kept r fun o e => hk _ o n e, y.mono⟩
  | tab f =>
    obtain ⟨ea, x⟩ := x
    refine ⟨ea, ?_⟩
    rcases x with e | ⟨c', e, n, r⟩
    · exact .inl (ha _ e)
    · exact .inr ⟨c', ha _ e, off n r, codeRec_kept r fun o e => hk _ o n e⟩

section
variable {π : Par} {ρ ρ' : List Addr} {H : AH} {h h' h'' : Heap}
theorem Inv.live (I : Inv π ρ H h) {i : Nat} {o : AO} {a : Addr} (e1 : H[i]? = some o) (e2 : ρ[i]? = some a) (hg : o.gone = false) : ∃ o, h.get? a = some o := (I.obj i o a e1 e2).live hg
theorem Inv.nin (I : Inv π ρ H h) {a : Addr} (ha : h.get? a = none) : a ∉ ρ := fun m => by
  obtain ⟨i, hi, rfl⟩ := List.getElem_of_mem m
  obtain ⟨o, e⟩ := I.live (List.getElem?_eq_getElem (I.len ▸ hi)) (List.getElem?_eq_getElem hi) rfl
  rw [ha] at e; cases e
theorem Inv.at (I : Inv π ρ H h) {i : Nat} {o : AO} (e : H[i]? = some o) : ∃ a, ρ[i]? = some a ∧ ObjR π ρ h a o := by
  have hi : i < ρ.length := I.len ▸ (List.getElem?_eq_some_iff.mp e).1
  exact ⟨ρ[i], List.getElem?_eq_getElem hi, I.obj i o _ e (List.getElem?_eq_getElem hi)⟩
theorem Ext.refl (ρ : List Addr) (h : Heap) : Ext ρ h ρ h := ⟨⟨[], by simp, by simp⟩, fun _ _ _ e => e⟩
theorem Ext.of_kept (k : ∀ b o, b ∉ ρ → h.get? b = some o → h'.get? b = some o) : Ext ρ h ρ h' := ⟨⟨[], by simp, by simp⟩, k⟩
theorem Ext.trans {ρ1 ρ2 : List Addr} {h1 h2 : Heap} (x : Ext ρ h ρ1 h1) (y : Ext ρ1 h1 ρ2 h2) : Ext ρ h ρ2 h2 := by
  obtain ⟨e1, rfl, f1⟩ := x.pre
  obtain ⟨e2, rfl, f2⟩ := y.pre
  have nin : ∀ b o, b ∉ ρ → h.get? b = some o → b ∉ ρ ++ e1 := fun b o n e m => by
    rcases List.mem_append.mp m with m | m
    · exact n m
    · rcases f1 _ m with q | q
      · rw [q] at e; cases e
      · exact n q
  refine ⟨⟨e1 ++ e2, by rw [List.append_assoc], fun a m => ?_⟩, fun b o n e => y.kept b o (nin b o n e) (x.kept b o n e)⟩
  rcases List.mem_append.mp m with m | m
  · exact f1 a m
  · by_cases hm : a ∈ ρ
    · exact .inr hm
    · left
      cases q : h.get? a with
      | none => rfl
      | some o =>
        rcases f2 a m with z | z
        · rw [x.kept a o hm q] at z; cases z
        · exact absurd z (nin a o hm q)
theorem Ext.vr {v : V} {c : Value} (x : Ext ρ h ρ' h') (y : VR π ρ v c) : VR π ρ' v c := by
  obtain ⟨e, rfl, _⟩ := x.pre; exact y.mono
theorem Ext.vrs {vs : List V} {cs : List Value} (x : Ext ρ h ρ' h') (y : VRs π ρ vs cs) : VRs π ρ' vs cs := by
  obtain ⟨e, rfl, _⟩ := x.pre; exact y.mono
theorem Ext.cells {sc : Scope} {cl : List (Option Nat)} {cs : List (Str × Addr)} (x : Ext ρ h ρ' h') (y : CellsR ρ sc cl cs) : CellsR ρ' sc cl cs := by
  obtain ⟨e, rfl, _⟩ := x.pre; exact y.mono
theorem Ext.get (x : Ext ρ h ρ' h') {i : Nat} {a : Addr} (e : ρ[i]? = some a) : ρ'[i]? = some a := by
  obtain ⟨ext, rfl, _⟩ := x.pre
  rw [List.getElem?_append_left (List.getElem?_eq_some_iff.mp e).1]; exact e

/-- the heap grows, nothing of ours changes -/
theorem Inv.grow (I : Inv π ρ H h) (hk : ∀ b o, h.get? b = some o → h'.get? b = some o) : Inv π ρ H h' :=
  ⟨I.len, I.nd, I.new, I.lo, I.g3, fun b o e => hk b o (I.base b o e), fun i o a e1 e2 => by
    simpa using (I.obj i o a e1 e2).keep (ext := []) (by simp) (fun _ e => hk _ _ e) fun b ob _ e => hk b ob e⟩
/-- .. but at places that are not ours (an iterator's) -/
theorem Inv.grow_but (I : Inv π ρ H h) {wr : List Addr} (hw : ∀ b ∈ wr, b ∉ ρ ∧ π.hb.get? b = none ∧ ∀ q, ¬ h.CodeRec (.ref b) q) (hk : ∀ b o, b ∉ wr → h.get? b = some o → h'.get? b = some o) : Inv π ρ H h' := by
  refine ⟨I.len, I.nd, I.new, I.lo, I.g3, fun b o e => hk b o (fun m => ?_) (I.base b o e), fun i o a e1 e2 => ?_⟩
  · rw [(hw b m).2.1] at e; cases e
  · have ha : a ∉ wr := fun m => (hw a m).1 (List.mem_of_getElem? e2)
    have x := I.obj i o a e1 e2
    have kc : ∀ {c : Addr} {q : Str}, h.CodeRec (.ref c) q → h'.CodeRec (.ref c) q := fun {c q} r => codeRec_kept r fun o e => hk c o (fun m => (hw c m).2.2 q r) e
    cases o with
    | clos f cl =>
      obtain ⟨c', doc, pm, ctv, cs, e, n, r, y⟩ := x
      exact ⟨c', doc, pm, ctv, cs, hk _ _ ha e, n, kc r, y⟩
    | tab f =>
      obtain ⟨ea, x⟩ := x
      refine ⟨ea, ?_⟩
      rcases x with e | ⟨c', e, n, r⟩
      · exact .inl (hk _ _ ha e)
      · exact .inr ⟨c', hk _ _ ha e, n, kc r⟩
    | list pl vs =>
      obtain ⟨cvs, ⟨ob, e, r⟩, p, v⟩ := x
      exact ⟨cvs, ⟨ob, hk _ _ ha e, r⟩, fun q => let ⟨n, e⟩ := p q; ⟨n, hk _ _ ha e⟩, v⟩
    | tup vs => obtain ⟨cvs, n, e, v⟩ := x; exact ⟨cvs, n, hk _ _ ha e, v⟩
    | dict0 => obtain ⟨n, e⟩ := x; exact ⟨n, hk _ _ ha e⟩
    | range _ _ => obtain ⟨t, u, v, e⟩ := x; exact ⟨t, u, v, hk _ _ ha e⟩
    | ns sc m => obtain ⟨ndp, cm, hn, r⟩ := x; exact ⟨ndp, cm, ns_at hn fun _ e => hk _ _ ha e, r⟩
    | cell v => cases v with
      | none => obtain ⟨u, ob, e, r⟩ := x; exact ⟨u, ob, hk _ _ ha e, r⟩
      | some v => obtain ⟨cv, ⟨ob, e, r⟩, y⟩ := x; exact ⟨cv, ⟨ob, hk _ _ ha e, r⟩, y⟩
/-- a new object -/
theorem Inv.alloc (I : Inv π ρ H h) {a : Addr} {o : AO} (hsz : a = h.objs.size) (hk : ∀ b ob, h.get? b = some ob → h'.get? b = some ob)
    (x : ObjR π (ρ ++ [a]) h' a o) : Inv π (ρ ++ [a]) (H ++ [o]) h' ∧ Ext ρ h (ρ ++ [a]) h' := by
  have ha : h.get? a = none := hsz ▸ Heap.get?_none_of_le (Nat.le_refl _)
  have hlo : a ≠ sysModules := by
    obtain ⟨o, q⟩ := I.g3
    have q1 : (3 : Nat) < h.objs.size := Heap.lt_size (I.base _ _ q)
    intro q2
    rw [hsz] at q2
    exact absurd (show (3 : Nat) < 1 from Nat.lt_of_lt_of_eq q1 q2) (by decide)
  have old : ∀ (i : Nat) (o' : AO) (b : Addr), i < H.length → (ρ ++ [a])[i]? = some b → (H ++ [o])[i]? = some o' → ρ[i]? = some b ∧ H[i]? = some o' := fun i o' b hi e2 e1 => by
    rw [List.getElem?_append_left hi] at e1
    rw [List.getElem?_append_left (I.len ▸ hi)] at e2
    exact ⟨e2, e1⟩
  have new : ∀ (i : Nat) (o' : AO) (b : Addr), ¬ i < H.length → (ρ ++ [a])[i]? = some b → (H ++ [o])[i]? = some o' → i = H.length ∧ b = a ∧ o' = o := fun i o' b hi e2 e1 => by
    have hi2 : i = H.length := by
      have := (List.getElem?_eq_some_iff.mp e1).1
      simp at this; omega
    subst hi2
    rw [List.getElem?_append_right (Nat.le_refl _)] at e1
    rw [List.getElem?_append_right (Nat.le_of_eq I.len), I.len] at e2
    simp at e1 e2
    exact ⟨rfl, e2.symm, e1.symm⟩
  have clash : ∀ (i : Nat) (o' : AO), i < H.length → ρ[i]? = some a → H[i]? = some o' → o'.gone = false → False := fun i o' hi e2 e1 hg => by
    obtain ⟨ob, e⟩ := I.live e1 e2 hg
    rw [ha] at e; cases e
  refine ⟨⟨by simp [I.len], ?_, fun b m => ?_, fun b m => (List.mem_append.mp m).elim (I.lo b) fun q => List.mem_singleton.mp q ▸ hlo, I.g3, fun b o e => hk b o (I.base b o e), fun i o' b e1 e2 => ?_⟩, ⟨⟨[a], rfl, by simp [ha]⟩, fun b o _ e => hk b o e⟩⟩
  · intro i j o1 o2 b e1 e2 f1 f2 g1 g2
    by_cases hi : i < H.length
    · by_cases hj : j < H.length
      · exact I.nd i j o1 o2 b (old i o1 b hi e1 f1).1 (old j o2 b hj e2 f2).1 (old i o1 b hi e1 f1).2 (old j o2 b hj e2 f2).2 g1 g2
      · obtain ⟨_, rfl, _⟩ := new j o2 b hj e2 f2
        exact (clash i o1 hi (old i o1 _ hi e1 f1).1 (old i o1 _ hi e1 f1).2 g1).elim
    · by_cases hj : j < H.length
      · obtain ⟨_, rfl, _⟩ := new i o1 b hi e1 f1
        exact (clash j o2 hj (old j o2 _ hj e2 f2).1 (old j o2 _ hj e2 f2).2 g2).elim
      · rw [(new i o1 b hi e1 f1).1, (new j o2 b hj e2 f2).1]
  · rcases List.mem_append.mp m with m | m
    · exact I.new b m
    · simp at m; subst m
      cases q : π.hb.get? b with
      | none => rfl
      | some o' => rw [I.base _ _ q] at ha; cases ha
  · by_cases hi : i < H.length
    · obtain ⟨e2, e1⟩ := old i o' b hi e2 e1
      exact (I.obj i o' b e1 e2).keep (by simp [ha]) (fun _ e => hk _ _ e) fun b ob _ e => hk b ob e
    · obtain ⟨_, rfl, rfl⟩ := new i o' b hi e2 e1
      exact x
/-- one of our objects changes -/
theorem Inv.setE (I : Inv π ρ H h) {i : Nat} {a : Addr} {o o₀ : AO} (hi : H[i]? = some o₀) (hg : o₀.gone = false) (ha : ρ[i]? = some a) (hs : ∀ b ob, b ≠ a → h.get? b = some ob → h'.get? b = some ob) (x : ObjR π ρ h' a o) : Inv π ρ (H.set i o) h' ∧ Ext ρ h ρ h' := by
  have hm := List.mem_of_getElem? ha
  have ne : ∀ (j : Nat) (o' : AO) (b : Addr), j ≠ i → (H.set i o)[j]? = some o' → H[j]? = some o' := fun j o' b hj e => by rwa [List.getElem?_set_ne (Ne.symm hj)] at e
  have gone : ∀ (j : Nat) (o' : AO), (H.set i o)[j]? = some o' → o'.gone = false → ∃ o2, H[j]? = some o2 ∧ o2.gone = false := fun j o' e g => by
    by_cases hj : j = i
    · subst hj; exact ⟨o₀, hi, hg⟩
    · exact ⟨o', ne j o' a hj e, g⟩
  refine ⟨⟨by simp [I.len], ?_, I.new, I.lo, I.g3, fun b ob e => hs b ob (fun q => ?_) (I.base b ob e), fun j o' b e1 e2 => ?_⟩, .of_kept fun b ob n e => hs b ob (fun q => n (q ▸ hm)) e⟩
  · intro i' j' o1 o2 b e1 e2 f1 f2 g1 g2
    obtain ⟨p1, f1, g1⟩ := gone i' o1 f1 g1
    obtain ⟨p2, f2, g2⟩ := gone j' o2 f2 g2
    exact I.nd i' j' p1 p2 b e1 e2 f1 f2 g1 g2
  · subst q; rw [I.new _ hm] at e; cases e
  · by_cases hj : j = i
    · subst hj
      rw [ha] at e2; cases e2
      rw [List.getElem?_set_self', hi] at e1
      cases e1; exact x
    · have e1 := ne j o' b hj e1
      cases hg' : o'.gone with
      | true => cases o' with
              | _ => cases hg'
      | false =>
        have hb : b ≠ a := fun q => by
          subst q
          exact hj (I.nd j i o' o₀ b e2 ha e1 hi hg' hg)
        simpa using (I.obj j o' b e1 e2).keep (ext := []) (by simp) (fun _ e => hs b _ hb e) fun c ob n e => hs c ob (fun q => n (q ▸ hm)) e
theorem Inv.set (I : Inv π ρ H h) {i : Nat} {a : Addr} {o o₀ : AO} (hi : H[i]? = some o₀) (hg : o₀.gone = false) (ha : ρ[i]? = some a) (hs : Heap.SameBut a h h') (x : ObjR π ρ h' a o) : Inv π ρ (H.set i o) h' ∧ Ext ρ h ρ h' :=
  I.setE hi hg ha (fun b ob hb e => (hs.2 b hb).trans e) x
end
end Mine

namespace Mine
noncomputable abbrev MM (w : World) : Model := model PySem.Challenge.rw_hf0007_01.prog w
noncomputable abbrev NoE : Value → Shared → Prop := fun _ _ => False
/-- room for n more frames -/
structure Room (n : Nat) (A : Around) : Prop where
  hd : A.handled = none
  dp : A.depth + n < 1000
  un : A.units + 4 * n + 100 < 9900
theorem Room.dn {n : Nat} {A : Around} (R : Room (n + 1) A) : Room n A := ⟨R.hd, by have := R.dp; omega, by have := R.un; omega⟩
theorem Room.lim {n : Nat} {A : Around} (R : Room n A) : A.depth < recursionLimit := by have := R.dp; show A.depth < 1000; omega
theorem Room.line {n : Nat} {A : Around} (R : Room n A) {k : Nat} (hk : k ≤ 100) : A.units + k < cLine := by have := R.un; show _ < 9900; omega
theorem Room.deep {n : Nat} {A : Around} (R : Room (n + 1) A) (env : Env) : Room n (A.deeper env) :=
  ⟨R.hd, by have := R.dp; show A.depth + 1 + n < 1000; omega, by have := R.un; show A.units + 3 + 4 * n + 100 < 9900; omega⟩

/-- what the unknowns obey -/
structure Sig (π : Par) : Prop where
  one : π.σ 0 = 1
  bnd : ∀ i, (π.σ i).natAbs ≤ 1000000

noncomputable def Op.py : Op → Operator
  | .add => .Add | .sub => .Sub | .mul => .Mult | .fdiv => .FloorDiv | .mod => .Mod | .pow => .Pow | .band => .BitAnd | .bxor => .BitXor | .shl => .LShift | .shr => .RShift
noncomputable def Cm.py : Cm → CmpOp
  | .eq => .Eq | .ne => .NotEq | .lt => .Lt | .le => .LtE | .is => .Is | .isin => .In

section
variable {w : World} {π : Par} {A : Around} {s : Shared} {ρ : List Addr} {H H' : AH} {n : Nat}

/-- the state behind a step that makes a value -/
noncomputable abbrev OnV (π : Par) (ρ : List Addr) (s : Shared) (H' : AH) (v : V) (Q : Value → Shared → Prop) : Prop :=
  ∀ ρ' cv h' tk', VR π ρ' v cv → Inv π ρ' H' h' → Ext ρ s.heap ρ' h' → Q cv { s with heap := h', toks := tk' }

theorem isList_ints {cvs : List Value} : ∀ {vs : List V} {cs : List Value} {ps : List Lin}, VRs π ρ vs cs → allInts vs = some ps → IntsAre cs (ps.map fun p => lv π.σ 0 p)
  | [], cs, ps, x, e => by
    cases cs with
    | nil => cases e; exact .nil
    | cons _ _ => exact x.elim
  | v :: r, cs, ps, x, e => by
    cases cs with
    | nil => exact x.elim
    | cons c cs =>
      obtain ⟨p, rfl, e⟩ := bI_some e
      obtain ⟨qs, hq, e⟩ := bO_some e
      cases e
      obtain ⟨t, rfl⟩ := x.1
      exact .cons _ _ (isList_ints (cvs := cvs) x.2 hq)
theorem isList_consts (S : Sig π) : ∀ {vs : List V} {cs : List Value} {ns : List Int}, VRs π ρ vs cs → constInts vs = some ns → IntsAre cs ns
  | [], cs, ps, x, e => by
    cases cs with
    | nil => cases e; exact .nil
    | cons _ _ => exact x.elim
  | v :: r, cs, ps, x, e => by
    cases cs with
    | nil => exact x.elim
    | cons c cs =>
      obtain ⟨p, rfl, e⟩ := bI_some e
      obtain ⟨k, hk, e⟩ := bO_some e
      obtain ⟨ks, hks, e⟩ := bO_some e
      cases e
      obtain ⟨t, rfl⟩ := x.1
      rw [lv_lconst S.one hk]
      exact .cons _ _ (isList_consts S x.2 hks)

theorem mul_ok_l {c x : Int} (h : small c = true) : IntMulOk c x := by
  have hc : c.natAbs < 1000000 := of_decide_eq_true h
  have := intBits_le_64 (k := c) (by omega) (by omega)
  unfold IntMulOk
  have e : decide (Builtin.Int.intBits c > shortFactorBits) = false := decide_eq_false (by unfold shortFactorBits; omega)
  rw [e]; simp
theorem mul_ok_r {c x : Int} (h : small c = true) : IntMulOk x c := by
  have hc : c.natAbs < 1000000 := of_decide_eq_true h
  have := intBits_le_64 (k := c) (by omega) (by omega)
  unfold IntMulOk
  have e : decide (Builtin.Int.intBits c > shortFactorBits) = false := decide_eq_false (by unfold shortFactorBits; omega)
  rw [e]; simp

theorem opI_sound (S : Sig π) {o : Op} {a b z : Int} {t u : Tok} {Q : Value → Shared → Prop} (e : opI o a b = some z) (I : Inv π ρ H s.heap)
    (hQ : OnV π ρ s H (.int [z]) Q) : wpAny (MM w) A (binaryOp o.py (.int a t) (.int b u)) Q NoE s := by
  have go : ∀ {z' : Int}, z' = z → Q (.int z' s.toks) { s with toks := s.toks + 1 } := fun {z'} h => by
    subst h
    exact hQ ρ _ s.heap (s.toks + 1) ⟨s.toks, by rw [lv_one S.one]⟩ I (.refl _ _)
  cases o with
  | add => cases e
  | sub => cases e
  | mul => cases e
  | fdiv =>
    obtain ⟨hb, e⟩ := gd_some e
    obtain ⟨hs, e⟩ := gd_some e
    simp only [small, Bool.and_eq_true, decide_eq_true_eq] at hs
    have h1 : Builtin.divisionGoesByPylong a b = false := PyProof.noPylong_small (by omega)
    have h2 : b ≠ 0 := by simpa using hb
    have h3 := go (Option.some.inj e)
    show wpAny (MM w) A (binaryOp .FloorDiv (.int a t) (.int b u)) Q NoE s
    with_reducible exact PyProof.Rows.floordiv_int h2 h3 (.inl h1)
  | mod =>
    obtain ⟨hb, e⟩ := gd_some e
    have h2 : b ≠ 0 := by simpa using hb
    have h3 := go (Option.some.inj e)
    show wpAny (MM w) A (binaryOp .Mod (.int a t) (.int b u)) Q NoE s
    with_reducible exact mod_int' h2 h3
  | pow =>
    obtain ⟨hs, e⟩ := gd_some e
    simp only [small, Bool.and_eq_true, decide_eq_true_eq] at hs
    have h1 : b ≤ 1000000 := by omega
    have h2 : a.natAbs < 2 ^ 64 := by omega
    have h3 := go (Option.some.inj e)
    show wpAny (MM w) A (binaryOp .Pow (.int a t) (.int b u)) Q NoE s
    with_reducible exact pow_int_small hs.1.1 h1 h2 h3
  | band =>
    have h3 := go (Option.some.inj e)
    show wpAny (MM w) A (binaryOp .BitAnd (.int a t) (.int b u)) Q NoE s
    with_reducible exact and_int h3
  | bxor =>
    have h3 := go (Option.some.inj e)
    show wpAny (MM w) A (binaryOp .BitXor (.int a t) (.int b u)) Q NoE s
    with_reducible exact xor_int h3
  | shl =>
    obtain ⟨hs, e⟩ := gd_some e
    simp only [small, Bool.and_eq_true, decide_eq_true_eq] at hs
    have h1 : b ≤ 1000000 := by omega
    have h2 : a.natAbs < 2 ^ 64 := by omega
    have h3 := go (Option.some.inj e)
    show wpAny (MM w) A (binaryOp .LShift (.int a t) (.int b u)) Q NoE s
    with_reducible exact lshift_int_small hs.1.1 h1 h2 h3
  | shr =>
    obtain ⟨hs, e⟩ := gd_some e
    have h2 := of_decide_eq_true hs
    have h3 := go (Option.some.inj e)
    show wpAny (MM w) A (binaryOp .RShift (.int a t) (.int b u)) Q NoE s
    with_reducible exact rshift_int h2 h3

theorem mulP_sound (S : Sig π) {p q : Lin} {v : V} (e : mulP p q = some v) : ∃ r, v = .int r ∧ lv π.σ 0 r = lv π.σ 0 p * lv π.σ 0 q ∧ IntMulOk (lv π.σ 0 p) (lv π.σ 0 q) := by
  unfold mulP at e
  split at e
  · rename_i c hc
    obtain ⟨hs, e⟩ := gd_some e
    cases e
    exact ⟨_, rfl, by rw [lv_lscale, lv_lconst S.one hc], by rw [lv_lconst S.one hc]; exact mul_ok_l hs⟩
  · obtain ⟨c, hc, e⟩ := bO_some e
    obtain ⟨hs, e⟩ := gd_some e
    cases e
    exact ⟨_, rfl, by rw [lv_lscale, lv_lconst S.one hc, Int.mul_comm], by rw [lv_lconst S.one hc]; exact mul_ok_r hs⟩
theorem bin2_sound (S : Sig π) {o : Op} {a b v : V} {ca cb : Value} {Q : Value → Shared → Prop} (e : bin2 o a b = some v) (I : Inv π ρ H s.heap) (va : VR π ρ a ca) (vb : VR π ρ b cb)
    (hQ : OnV π ρ s H v Q) : wpAny (MM w) A (binaryOp o.py ca cb) Q NoE s := by
  cases a with
  | int p =>
    obtain ⟨q, rfl, e⟩ := bI_some e
    obtain ⟨t, rfl⟩ := va
    obtain ⟨u, rfl⟩ := vb
    have other : (bC p fun x => bC q fun y => bO (opI o x y) fun z => some (V.int [z])) = some v → wpAny (MM w) A (binaryOp o.py (.int (lv π.σ 0 p) t) (.int (lv π.σ 0 q) u)) Q NoE s := fun e => by
      obtain ⟨x, hp, e⟩ := bO_some e
      obtain ⟨y, hq, e⟩ := bO_some e
      obtain ⟨z, hz, e⟩ := bO_some e
      cases e
      rw [lv_lconst S.one hp, lv_lconst S.one hq]
      with_reducible exact opI_sound S hz I hQ
    cases o with
    | add =>
      cases e
      have h3 := hQ ρ (.int (lv π.σ 0 p + lv π.σ 0 q) s.toks) s.heap (s.toks + 1) ⟨s.toks, by rw [lv_ladd]⟩ I (.refl _ _)
      show wpAny (MM w) A (binaryOp .Add (.int _ t) (.int _ u)) Q NoE s
      with_reducible exact PyProof.Rows.add_int h3
    | sub =>
      cases e
      have h3 := hQ ρ (.int (lv π.σ 0 p - lv π.σ 0 q) s.toks) s.heap (s.toks + 1) ⟨s.toks, by rw [lv_ladd, lv_lscale]; congr 1; omega⟩ I (.refl _ _)
      show wpAny (MM w) A (binaryOp .Sub (.int _ t) (.int _ u)) Q NoE s
      with_reducible exact PyProof.Rows.sub_int h3
    | mul =>
      obtain ⟨r, rfl, h1, h4⟩ := mulP_sound S e
      have h3 := hQ ρ (.int (lv π.σ 0 p * lv π.σ 0 q) s.toks) s.heap (s.toks + 1) ⟨s.toks, by rw [h1]⟩ I (.refl _ _)
      show wpAny (MM w) A (binaryOp .Mult (.int _ t) (.int _ u)) Q NoE s
      with_reducible exact PyProof.Rows.mul_int h3 h4
    | _ => exact other e
  | raw i =>
    obtain ⟨q, rfl, e⟩ := bI_some e
    obtain ⟨c, hc, e⟩ := bO_some e
    obtain ⟨h10, e⟩ := gd_some e
    cases e
    rw [Bool.and_eq_true, beq_iff_eq] at h10
    obtain ⟨ho, rfl⟩ := h10
    obtain ⟨t, rfl, hraw⟩ := va
    obtain ⟨u, rfl⟩ := vb
    cases o with
    | mod =>
      rw [lv_lconst S.one hc]
      have h3 := hQ ρ (.int ((π.raw i).fmod 10) s.toks) s.heap (s.toks + 1) ⟨s.toks, by rw [lv_unit, Nat.zero_add, hraw]⟩ I (.refl _ _)
      have h2 : (10 : Int) ≠ 0 := by decide
      show wpAny (MM w) A (binaryOp .Mod (.int _ t) (.int _ u)) Q NoE s
      with_reducible exact mod_int' h2 h3
    | _ => cases ho
  | _ => cases e
end
end Mine

namespace Mine
section
variable {w : World} {π : Par} {A : Around} {s : Shared} {ρ : List Addr} {H H' : AH} {n : Nat}

/-- a list of ours, as the heap has it -/
theorem Inv.list (I : Inv π ρ H s.heap) {i : Nat} {pl : Bool} {vs : List V} (e : H[i]? = some (.list pl vs)) : ∃ a cvs, ρ[i]? = some a ∧ s.heap.IsList a cvs.toArray ∧ (pl = true → s.heap.PlainList a cvs.toArray) ∧ VRs π ρ vs cvs := by
  obtain ⟨a, ea, cvs, x⟩ := I.at e
  exact ⟨a, cvs, ea, x⟩
theorem Inv.tuple (I : Inv π ρ H s.heap) {i : Nat} {vs : List V} (e : H[i]? = some (.tup vs)) : ∃ a cvs n, ρ[i]? = some a ∧ s.heap.get? a = some { cls := .type "tuple", dict := none, data := .seq cvs.toArray n, slots := #[] } ∧ VRs π ρ vs cvs := by
  obtain ⟨a, ea, cvs, n, x⟩ := I.at e
  exact ⟨a, cvs, n, ea, x⟩
theorem VR.ref_at {i : Nat} {c : Value} {a : Addr} (x : VR π ρ (.ref i) c) (e : ρ[i]? = some a) : c = .ref a := by
  obtain ⟨b, e2, r⟩ := x
  rw [e] at e2; cases e2; exact r
theorem free_size (h : Heap) : h.get? h.objs.size = none := Heap.get?_none_of_le (Nat.le_refl _)
theorem get_app_len {α : Type} (l : List α) (x : α) : (l ++ [x])[l.length]? = some x := by simp

/-- a new object of ours at the heap's end -/
theorem Inv.push (I : Inv π ρ H s.heap) {ob : Obj} {o : AO} (x : ObjR π (ρ ++ [s.heap.objs.size]) (s.heap.push ob) s.heap.objs.size o) :
    Inv π (ρ ++ [s.heap.objs.size]) (H ++ [o]) (s.heap.push ob) ∧ Ext ρ s.heap (ρ ++ [s.heap.objs.size]) (s.heap.push ob) :=
  I.alloc rfl (fun _ _ e => Heap.get?_push_of_some _ e) x
theorem push_list {h : Heap} {ρ' : List Addr} {vs : List V} {cvs : List Value} (y : VRs π ρ' vs cvs) : ObjR π ρ' (h.push { cls := .type "list", data := .seq cvs.toArray }) h.objs.size (.list true vs) :=
  ⟨cvs, ⟨_, Heap.get?_push_size _ rfl, rfl, _, rfl⟩, fun _ => ⟨_, Heap.get?_push_size _ rfl⟩, y⟩
theorem push_tup {h : Heap} {ρ' : List Addr} {vs : List V} {cvs : List Value} (y : VRs π ρ' vs cvs) : ObjR π ρ' (h.push { cls := .type "tuple", data := .seq cvs.toArray }) h.objs.size (.tup vs) :=
  ⟨cvs, _, Heap.get?_push_size _ rfl, y⟩
/-- .. and its value -/
theorem ref_new (I : Inv π ρ H s.heap) (a : Addr) : VR π (ρ ++ [a]) (.ref H.length) (.ref a) := ⟨a, by rw [← I.len]; exact get_app_len ρ a, rfl⟩

theorem addL_sound {i j : Nat} {p1 p2 : Bool} {vs us : List V} {ca cb : Value} {Q : Value → Shared → Prop} (I : Inv π ρ H s.heap) (ei : H[i]? = some (.list p1 vs)) (ej : H[j]? = some (.list p2 us))
    (va : VR π ρ (.ref i) ca) (vb : VR π ρ (.ref j) cb) (hz : vs.length + us.length ≤ 10000) (hQ : OnV π ρ s (H ++ [.list true (vs ++ us)]) (.ref H.length) Q) : wpAny (MM w) A (binaryOp .Add ca cb) Q NoE s := by
  obtain ⟨a, cvs, ea, la, _, xa⟩ := I.list ei
  obtain ⟨b, cus, eb, lb, _, xb⟩ := I.list ej
  cases va.ref_at ea
  cases vb.ref_at eb
  obtain ⟨⟨cls, dd, data, sl⟩, ho, hc, n, hd⟩ := id la
  obtain ⟨⟨cls2, dd2, data2, sl2⟩, ho2, hc2, n2, hd2⟩ := id lb
  simp only at hc hd hc2 hd2
  subst hc hd hc2 hd2
  have hl1 := xa.length
  have hl2 := xb.length
  have hsz : cvs.toArray.size + cus.toArray.size ≤ sizeLine := by rw [List.size_toArray, List.size_toArray, sizeLine_eq]; omega
  have e : cvs.toArray ++ cus.toArray = (cvs ++ cus).toArray := by simp
  have hp := I.push (o := .list true (vs ++ us)) (push_list (VRs.append xa.mono xb.mono))
  have h3 := hQ _ _ _ s.toks (ref_new I _) hp.1 hp.2
  rw [← e] at h3
  have ta : s.TypeIs (.ref a) "list" := ⟨_, ho, rfl⟩
  have tb : s.TypeIs (.ref b) "list" := ⟨_, ho2, rfl⟩
  exact concat_meets ta tb noFill_list_add seq_list_add PySem.F.slot_list_add PySem.F.entry_list_add (PySem.F.args_list_add_2 _ _) (list_addW a b cvs.toArray cus.toArray n n2 dd dd2 sl sl2 hsz) ⟨ho, ho2, h3⟩

theorem foldl_app {α : Type} : ∀ (l : List (Array α)) (acc : Array α), (List.foldl (fun x1 x2 => x1 ++ x2) acc l).toList = acc.toList ++ (l.map Array.toList).flatten
  | [], acc => by simp
  | x :: r, acc => by rw [List.foldl_cons, foldl_app r]; simp
theorem rep_one (c : Value) : ∀ k, ((List.replicate k #[c]).map Array.toList).flatten = List.replicate k c
  | 0 => rfl
  | k + 1 => by rw [List.replicate_succ, List.map_cons, List.flatten_cons, rep_one c k]; rfl
theorem mulL_sound {i : Nat} {p1 : Bool} {v : V} {k : Int} {t : Tok} {ca : Value} {Q : Value → Shared → Prop} (I : Inv π ρ H s.heap) (ei : H[i]? = some (.list p1 [v])) (hp1 : p1 = true)
    (va : VR π ρ (.ref i) ca) (hk : 0 ≤ k ∧ k ≤ 1000) (hQ : OnV π ρ s (H ++ [.list true (List.replicate k.toNat v)]) (.ref H.length) Q) : wpAny (MM w) A (binaryOp .Mult ca (.int k t)) Q NoE s := by
  obtain ⟨a, cvs, ea, la, pa, xa⟩ := I.list ei
  cases va.ref_at ea
  obtain ⟨n, ho⟩ := pa hp1
  match cvs, xa with
  | [c], xa =>
    have hw : ObjR π (ρ ++ [s.heap.objs.size]) (s.heap.push { cls := .type "list", data := .seq (List.replicate k.toNat c).toArray }) s.heap.objs.size (.list true (List.replicate k.toNat v)) := push_list (VRs.replicate xa.1.mono k.toNat)
    have hp := I.push hw
    have h3 := hQ _ _ _ s.toks (ref_new I _) hp.1 hp.2
    have e : (List.replicate k.toNat c).toArray = List.foldl (fun x1 x2 => x1 ++ x2) #[] (List.replicate (if ([c].toArray).isEmpty = true then 0 else k.toNat) [c].toArray) := by
      apply Array.toList_inj.mp
      rw [foldl_app]
      have q : ([c].toArray).isEmpty = false := rfl
      rw [q]
      simp only [Bool.false_eq_true, if_false]
      show List.replicate k.toNat c = [] ++ _
      rw [List.nil_append]
      exact (rep_one c k.toNat).symm
    rw [e] at h3
    have a1 : ¬(!Builtin.List.listFitsIndex k) = true := by simp [Builtin.List.listFitsIndex]; omega
    have a2 : ¬[c].toArray.size * k.toNat > (2 ^ 63 - 1) / 8 := by simp; omega
    have a3 : ¬Builtin.List.listTooLong ([c].toArray.size * k.toNat) = true := by simp [Builtin.List.listTooLong, sizeLine]; omega
    have ta : s.TypeIs (.ref a) "list" := ⟨_, ho, rfl⟩
    have h4 : wpAny (MM w) A (call (.builtin "list.__mul__") [.ref a, .int k t]) Q NoE s := call_meets PySem.F.slot_list_mul ta PySem.F.entry_list_mul (PySem.F.args_list_mul_2 _ _)
      (AutoListH.list___mul___list_int_3 a [c].toArray n k t a1 a2 a3) ⟨ho, h3⟩
    have h5 : wpAny (MM w) A (call (.builtin "int.__rmul__") [.int k t, .ref a]) (fun v s' => v = .notImplemented ∧ s'.TypeIs (.ref a) "list" ∧ wpAny (MM w) A (call (.builtin "list.__mul__") [.ref a, .int k t]) Q NoE s') NoE s :=
      call_meets PySem.F.slot_int_rmul (typeIs_int s k t) PySem.F.entry_int_rmul (PySem.F.args_int_rmul_2 _ _) (int___rmul___int_list k t a [c].toArray n) ⟨ho, rfl, ta, h4⟩
    have hTU : (Value.type "list" == Value.type "int") = false := by decide
    with_reducible
      exact wpAny_binaryOp_repeat_ref (T := "list") (U := "int") hTU ta (fun s' => typeIs_int s' k t) noFill_list_mul PySem.F.fills_int_mul PySem.F.slot_int_rmul repeat_list PySem.F.slot_int_index.lookup h5
  | [], xa => exact xa.elim
  | _ :: _ :: _, xa => exact xa.2.elim

theorem evBin_sound (S : Sig π) {o : Op} {a b v : V} {ca cb : Value} {Q : Value → Shared → Prop} (e : evBin o a b H = some (v, H')) (I : Inv π ρ H s.heap) (va : VR π ρ a ca) (vb : VR π ρ b cb)
    (hQ : OnV π ρ s H' v Q) : wpAny (MM w) A (binaryOp o.py ca cb) Q NoE s := by
  have plain : (bO (bin2 o a b) fun v => some (v, H)) = some (v, H') → wpAny (MM w) A (binaryOp o.py ca cb) Q NoE s := fun e => by
    obtain ⟨v', hv, e⟩ := bO_some e
    cases e
    with_reducible exact bin2_sound S hv I va vb hQ
  cases a with
  | ref i =>
    obtain ⟨p1, vs, ei, e⟩ := bL_some e
    cases o with
    | add =>
      obtain ⟨j, rfl, e⟩ := bRf_some e
      obtain ⟨p2, us, ej, e⟩ := bL_some e
      obtain ⟨hz, e⟩ := gd_some e
      cases e
      show wpAny (MM w) A (binaryOp .Add ca cb) Q NoE s
      with_reducible exact addL_sound I ei ej va vb (of_decide_eq_true hz) hQ
    | mul =>
      obtain ⟨q, rfl, e⟩ := bI_some e
      obtain ⟨k, hk, e⟩ := bO_some e
      obtain ⟨v0, rfl, e⟩ := b1_some e
      obtain ⟨hb, e⟩ := gd_some e
      cases e
      simp only [Bool.and_eq_true, decide_eq_true_eq] at hb
      obtain ⟨t, rfl⟩ := vb
      rw [lv_lconst S.one hk]
      show wpAny (MM w) A (binaryOp .Mult ca (.int k t)) Q NoE s
      with_reducible exact mulL_sound I ei hb.1 va hb.2 hQ
    | _ => cases e
  | _ => exact plain e

theorem sameLin_sound {p q : Lin} (h : sameLin p q = true) : lv π.σ 0 p = lv π.σ 0 q := by
  have := lv_lzero π.σ _ 0 h
  rw [lv_ladd, lv_lscale] at this
  omega
theorem sameInts_sound : ∀ {vs us : List V} {cs ds : List Value}, sameInts vs us = true → VRs π ρ vs cs → VRs π ρ us ds → ∃ ns, IntsAre cs ns ∧ IntsAre ds ns
  | [], us, cs, ds, h, x, y => by
    cases us with
    | nil => cases cs with
      | nil => cases ds with
        | nil => exact ⟨[], .nil, .nil⟩
        | cons _ _ => exact y.elim
      | cons _ _ => exact x.elim
    | cons _ _ => cases h
  | u :: r, us, cs, ds, h, x, y => by
    cases us with
    | nil => cases h
    | cons v t => cases cs with
      | nil => exact x.elim
      | cons c cs => cases ds with
        | nil => exact y.elim
        | cons d ds =>
          obtain ⟨h1, h2⟩ := (Bool.and_eq_true _ _).mp (show (oB (sameI u v) && sameInts r t) = true from h)
          obtain ⟨p, rfl, k1⟩ := bI_some (oB_true h1)
          obtain ⟨q, rfl, k2⟩ := bI_some k1
          obtain ⟨ns, h3, h4⟩ := sameInts_sound h2 x.2 y.2
          obtain ⟨tc, rfl⟩ := x.1
          obtain ⟨td, rfl⟩ := y.1
          refine ⟨lv π.σ 0 p :: ns, .cons _ _ h3, ?_⟩
          rw [sameLin_sound (Option.some.inj k2)]
          exact .cons _ _ h4
end
end Mine

namespace Mine
section
variable {w : World} {π : Par} {A : Around} {s : Shared} {ρ : List Addr} {H H' : AH} {n : Nat}

/-- a list of lists of ints, read as data, both sides the same -/
theorem sameLists_reads (I : Inv π ρ H s.heap) : ∀ {vs us : List V} {cs ds : List Value}, sameLists H vs us = true → VRs π ρ vs cs → VRs π ρ us ds →
    ∃ (dd : List PyData) (as bs : List Addr), ReadsAll s.heap cs dd as ∧ ReadsAll s.heap ds dd bs ∧ PyData.canLayAll0 dd = true ∧ PyData.depthAll dd ≤ 3 ∧ PyData.eqvAll dd dd = true
  | [], us, cs, ds, h, x, y => by
    cases us with
    | nil => cases cs with
      | nil => cases ds with
        | nil => exact ⟨[], [], [], .nil, .nil, by simp [PyData.canLayAll0], by simp [PyData.depthAll], by simp [PyData.eqvAll]⟩
        | cons _ _ => exact y.elim
      | cons _ _ => exact x.elim
    | cons _ _ => cases h
  | u :: r, us, cs, ds, h, x, y => by
    cases us with
    | nil => cases h
    | cons v t => cases cs with
      | nil => exact x.elim
      | cons c cs => cases ds with
        | nil => exact y.elim
        | cons d ds =>
          obtain ⟨h1, h2⟩ := (Bool.and_eq_true _ _).mp (show (oB (sameL H u v) && sameLists H r t) = true from h)
          obtain ⟨dd, as, bs, r1, r2, l1, l2, l3⟩ := sameLists_reads I h2 x.2 y.2
          obtain ⟨a, rfl, k1⟩ := bRf_some (oB_true h1)
          obtain ⟨b, rfl, k2⟩ := bRf_some k1
          obtain ⟨p1, vs, ea, k3⟩ := bL_some k2
          obtain ⟨p2, us, eb, k4⟩ := bL_some k3
          obtain ⟨aa, cvs, e1, la, _, xa⟩ := I.list ea
          obtain ⟨bb, cus, e2, lb, _, xb⟩ := I.list eb
          cases x.1.ref_at e1
          cases y.1.ref_at e2
          obtain ⟨ns, i1, i2⟩ := sameInts_sound (Option.some.inj k4) xa xb
          refine ⟨.list (ns.map PyData.int) :: dd, [aa] ++ as, [bb] ++ bs, .cons (reads_of_ints la i1) r1, .cons (reads_of_ints lb i2) r2, ?_, ?_, ?_⟩
          · have := shaped_ints ns
            have q := (Bool.and_eq_true _ _).mp (show (PyData.canLay0 (.list (ns.map PyData.int)) && decide (PyData.depth (.list (ns.map PyData.int)) ≤ 64)) = true from this)
            simp only [PyData.canLayAll0, Bool.and_eq_true]
            exact ⟨q.1, l1⟩
          · have := PySem.W.depthAll_ints ns
            simp only [PyData.depthAll, PyData.depth]
            omega
          · simp only [PyData.eqvAll, PyData.eqv, ked_eqvAll, decide_true, Bool.true_and]
            exact l3

theorem cmp2_sound (S : Sig π) (R : Room n A) {o : Cm} {a b : V} {r : Bool} {ca cb : Value} {Q : Value → Shared → Prop} (e : cmp2 o a b H = some r) (I : Inv π ρ H s.heap) (va : VR π ρ a ca) (vb : VR π ρ b cb)
    (hQ : OnV π ρ s H (.bool r) Q) : wpAny (MM w) A (compareOp o.py ca cb) Q NoE s := by
  have go : ∀ {r' : Bool}, r' = r → Q (.bool r') s := fun {r'} h => by subst h; exact hQ ρ (.bool r') s.heap s.toks rfl I (.refl _ _)
  cases a with
  | int p =>
    obtain ⟨t, rfl⟩ := va
    cases b with
    | int q =>
      obtain ⟨u, rfl⟩ := vb
      obtain ⟨d, hd, e⟩ := bO_some e
      have hd' := lv_lconst S.one hd
      rw [lv_ladd, lv_lscale] at hd'
      cases o with
      | eq =>
        have h3 := go (r' := (lv π.σ 0 p == lv π.σ 0 q)) (by rw [← Option.some.inj e, Bool.eq_iff_iff]; simp only [beq_iff_eq]; omega)
        show wpAny (MM w) A (compareOp .Eq (.int _ t) (.int _ u)) Q NoE s
        with_reducible exact PyProof.Rows.eq_int h3
      | ne =>
        have h3 := go (r' := (lv π.σ 0 p != lv π.σ 0 q)) (by rw [← Option.some.inj e, Bool.eq_iff_iff]; simp only [bne_iff_ne, ne_eq, Bool.not_eq_true', beq_eq_false_iff_ne]; omega)
        show wpAny (MM w) A (compareOp .NotEq (.int _ t) (.int _ u)) Q NoE s
        with_reducible exact PyProof.Rows.ne_int h3
      | lt =>
        have h3 := go (r' := decide (lv π.σ 0 p < lv π.σ 0 q)) (by rw [← Option.some.inj e, Bool.eq_iff_iff]; simp only [decide_eq_true_eq]; omega)
        show wpAny (MM w) A (compareOp .Lt (.int _ t) (.int _ u)) Q NoE s
        with_reducible exact PyProof.Rows.lt_int h3
      | le =>
        have h3 := go (r' := decide (lv π.σ 0 p ≤ lv π.σ 0 q)) (by rw [← Option.some.inj e, Bool.eq_iff_iff]; simp only [decide_eq_true_eq]; omega)
        show wpAny (MM w) A (compareOp .LtE (.int _ t) (.int _ u)) Q NoE s
        with_reducible exact PyProof.Rows.le_int h3
      | is => cases e
      | isin => cases e
    | ref j =>
      obtain ⟨ho, e⟩ := gd_some e
      obtain ⟨pl, vs, ej, e⟩ := bL_some e
      obtain ⟨c, hc, e⟩ := bO_some e
      obtain ⟨cs, hcs, e⟩ := bO_some e
      obtain ⟨b, cvs, eb, lb, _, xb⟩ := I.list ej
      cases vb.ref_at eb
      rw [lv_lconst S.one hc]
      have h3 := go (r' := cs.any (· == c)) (Option.some.inj e)
      cases o with
      | isin =>
        show wpAny (MM w) A (compareOp .In (.int c t) (.ref b)) Q NoE s
        with_reducible exact in_list_ints lb (isList_consts S xb hcs) h3
      | _ => cases ho
    | _ => cases e
  | ref i =>
    cases b with
    | ref j =>
      obtain ⟨p1, vs, ei, e⟩ := bL_some e
      obtain ⟨p2, us, ej, e⟩ := bL_some e
      obtain ⟨a, cvs, ea, la, _, xa⟩ := I.list ei
      obtain ⟨b, cus, eb, lb, _, xb⟩ := I.list ej
      cases va.ref_at ea
      cases vb.ref_at eb
      have hu : A.units + 64 < cLine := R.line (by omega)
      cases hs : sameInts vs us with
      | true =>
        rw [hs] at e
        obtain ⟨ns, i1, i2⟩ := sameInts_sound hs xa xb
        cases o with
        | eq =>
          have h3 := go (r' := decide (ns = ns)) (by rw [← Option.some.inj e]; simp)
          show wpAny (MM w) A (compareOp .Eq (.ref a) (.ref b)) Q NoE s
          with_reducible exact eq_intsK la i1 lb i2 hu h3
        | ne =>
          have h3 := go (r' := !decide (ns = ns)) (by rw [← Option.some.inj e]; simp)
          show wpAny (MM w) A (compareOp .NotEq (.ref a) (.ref b)) Q NoE s
          with_reducible exact ne_intsK la i1 lb i2 hu h3
        | _ => cases e
      | false =>
        rw [hs] at e
        obtain ⟨hs, e⟩ := gd_some (show gd (sameLists H vs us) (cmpS o) = some r from e)
        obtain ⟨dd, as, bs, r1, r2, l1, l2, l3⟩ := sameLists_reads I hs xa xb
        obtain ⟨oa, hoa, hca, na, hda⟩ := la
        obtain ⟨ob, hob, hcb, nb, hdb⟩ := lb
        have ra : Reads s.heap (.ref a) (.list dd) (a :: as) := Reads.list hoa hca hda r1
        have rb : Reads s.heap (.ref b) (.list dd) (b :: bs) := Reads.list hob hcb hdb r2
        have hsh : PySem.SeqAt.shaped (.list dd) = true := by
          show (PyData.canLay0 (.list dd) && decide (PyData.depth (.list dd) ≤ 64)) = true
          rw [Bool.and_eq_true]
          exact ⟨by simp only [PyData.canLay0]; exact l1, decide_eq_true (by simp only [PyData.depth]; omega)⟩
        have hq : PyData.eqv (.list dd) (.list dd) = true := by simp only [PyData.eqv]; exact l3
        cases o with
        | eq =>
          have h3 := go (r' := PyData.eqv (.list dd) (.list dd)) (by rw [← Option.some.inj e, hq])
          show wpAny (MM w) A (compareOp .Eq (.ref a) (.ref b)) Q NoE s
          with_reducible exact eq_dataH ra rb hsh hsh hu h3
        | ne =>
          have h3 := go (r' := !PyData.eqv (.list dd) (.list dd)) (by rw [← Option.some.inj e, hq]; rfl)
          show wpAny (MM w) A (compareOp .NotEq (.ref a) (.ref b)) Q NoE s
          with_reducible exact ne_dataH ra rb hsh hsh hu h3
        | _ => cases e
    | none =>
      obtain ⟨ho, e⟩ := gd_some e
      obtain ⟨a, _, rfl⟩ := va
      cases vb
      have h3 := go (r' := false) (Option.some.inj e)
      cases o with
      | is =>
        show wpAny (MM w) A (compareOp .Is (.ref a) .none) Q NoE s
        with_reducible exact is_ref_none h3
      | _ => cases ho
    | _ => cases e
  | _ => cases e

/-- the state behind a test -/
noncomputable abbrev OnB (π : Par) (ρ : List Addr) (s : Shared) (H' : AH) (b : Bool) (Q : Bool → Shared → Prop) : Prop :=
  ∀ ρ' h' tk', Inv π ρ' H' h' → Ext ρ s.heap ρ' h' → Q b { s with heap := h', toks := tk' }
theorem truth_sound (S : Sig π) {v : V} {b : Bool} {c : Value} {Q : Bool → Shared → Prop} (e : truth v H = some b) (I : Inv π ρ H s.heap) (vv : VR π ρ v c)
    (hQ : OnB π ρ s H b Q) : wpAny (MM w) A (truthy c) Q NoE s := by
  cases v with
  | bool x => cases e; cases vv; exact wpAny_truthy_bool (hQ ρ s.heap s.toks I (.refl _ _))
  | ref i =>
    obtain ⟨pl, vs, ei, e⟩ := bL_some e
    obtain ⟨h1, e⟩ := gd_some e
    have h1 := of_decide_eq_true h1
    cases e
    obtain ⟨a, cvs, ea, la, _, xa⟩ := I.list ei
    cases vv.ref_at ea
    have hl := xa.length
    have hfit : ((cvs.toArray.size : Nat) : Int) < 2 ^ 63 := by rw [List.size_toArray]; omega
    have h3 := hQ ρ s.heap (s.toks + 1 + 1) I (.refl _ _)
    have e2 : vs.isEmpty = cvs.toArray.isEmpty := by
      cases vs <;> cases cvs <;> first | rfl | exact xa.elim
    rw [e2] at h3
    with_reducible exact wpAny_truthy_list la hfit h3
  | int p =>
    obtain ⟨c, hc, e⟩ := bO_some e
    obtain ⟨t, rfl⟩ := vv
    rw [lv_lconst S.one hc]
    have h3 := hQ ρ s.heap s.toks I (.refl _ _)
    rw [← Option.some.inj e] at h3
    exact PyProof.Rows.truthy_int h3
  | _ => cases e
end
end Mine

namespace Mine
/-- the base's namespaces -/
structure Base (π : Par) (mg mb : Str → Option Value) : Prop where
  g : π.hb.Ns mainGlobals mg
  b : π.hb.Ns builtinsNs mb
  lim : π.hb.NoLimit
  sig : Sig π
noncomputable def BI.val : BI → Value
  | .len => .builtin "len" | .sum => .builtin "sum" | .range => .type "range" | .int => .type "int" | .divmod => .builtin "divmod"
noncomputable def ME.name : ME → Str
  | .bitLength => "bit_length" | .index => "index" | .append => "append" | .reverse => "reverse"
noncomputable def ME.id : ME → String
  | .bitLength => "int.bit_length" | .index => "tuple.index" | .append => "list.append" | .reverse => "list.reverse"
section
variable {w : World} {π : Par} {A : Around} {s : Shared} {ρ : List Addr} {H H' : AH} {n : Nat} {mg mb : Str → Option Value}

/-- a frame of the whole heap, for rules that ask for one -/
theorem anyFr (Bs : Base π mg mb) (I : Inv π ρ H s.heap) : Fr ({ objs := #[] } : Heap) mainGlobals s.heap mg :=
  ⟨ns_at Bs.g (fun _ e => I.base _ _ e), fun b o e => absurd e (by rw [Heap.get?_none_of_le (show ({ objs := #[] } : Heap).objs.size ≤ b from Nat.zero_le _)]; simp), Nat.zero_le _⟩
theorem lv_sumAll {σ : Nat → Int} : ∀ (ps : List Lin), lv σ 0 (sumAll ps) = (ps.map fun p => lv σ 0 p).sum
  | [] => rfl
  | p :: r => by rw [sumAll, lv_ladd, lv_sumAll r, List.map_cons, List.sum_cons]
theorem norm_each {σ : Nat → Int} {B : Nat} (hB : ∀ i, (σ i).natAbs ≤ B) : ∀ {ps : List Lin} {j : Nat}, ((ps.map fun p => lv σ 0 p).getD j 0).natAbs ≤ normAll ps * B
  | [], j => by simp
  | p :: r, 0 => by
    have := lv_norm hB p 0
    simp only [List.map_cons, List.getD_cons_zero, normAll, Nat.add_mul]
    omega
  | p :: r, j + 1 => by
    have := norm_each hB (ps := r) (j := j)
    simp only [List.map_cons, List.getD_cons_succ, normAll, Nat.add_mul]
    omega
theorem preSum_get (l : List Int) : ∀ j, j ≤ l.length → preSum (fun i => l.getD i 0) j = (l.take j).sum
  | 0, _ => by simp [preSum]
  | j + 1, h => by
    rw [preSum, preSum_get l j (by omega), List.take_add_one, List.sum_append]
    have : l[j]? = some l[j] := List.getElem?_eq_getElem (by omega)
    rw [List.getD_eq_getElem?_getD, this]; simp
theorem norm_pre {σ : Nat → Int} {B : Nat} (hB : ∀ i, (σ i).natAbs ≤ B) : ∀ (ps : List Lin) (j : Nat), (((ps.map fun p => lv σ 0 p).take j).sum).natAbs ≤ normAll ps * B
  | [], j => by simp
  | p :: r, 0 => by simp
  | p :: r, j + 1 => by
    have h1 := norm_pre hB r j
    have h2 := lv_norm hB p 0
    simp only [List.map_cons, List.take_succ_cons, List.sum_cons, normAll, Nat.add_mul]
    have := Int.natAbs_add_le (lv σ 0 p) ((r.map fun p => lv σ 0 p).take j).sum
    omega
theorem ints_get : ∀ {cs : List Value} {ns : List Int}, IntsAre cs ns → ∀ {i : Nat} {v : Value}, cs[i]? = some v → ∃ t, v = .int (ns.getD i 0) t
  | _, _, .nil, i, v, e => by simp at e
  | _, _, .cons k t r, 0, v, e => by cases e; exact ⟨t, rfl⟩
  | _, _, .cons k t r, i + 1, v, e => by simpa using ints_get r (i := i) (by simpa using e)
theorem VRs.ints : ∀ {vs : List V} {cs : List Value} {ps : List Lin}, VRs π ρ vs cs → allInts vs = some ps → IntsAre cs (ps.map fun p => lv π.σ 0 p) := fun x e => isList_ints (cvs := []) x e

theorem natC_at {p : Lin} {k : Nat} (e : natC p = some k) : ∃ c, lconst p = some c ∧ c = (k : Int) ∧ k ≤ 1000000 := by
  obtain ⟨c, hc, e⟩ := bO_some e
  obtain ⟨h, e⟩ := gd_some e
  rw [Bool.and_eq_true, decide_eq_true_eq, decide_eq_true_eq] at h
  have e := Option.some.inj e
  exact ⟨c, hc, by omega, by omega⟩
theorem natC_sound {π : Par} (S : Sig π) {p : Lin} {k : Nat} (e : natC p = some k) : lv π.σ 0 p = (k : Int) := by
  obtain ⟨c, hc, rfl, _⟩ := natC_at e
  exact lv_lconst S.one hc
theorem natC_le {p : Lin} {k : Nat} (e : natC p = some k) : k ≤ 1000000 := by
  obtain ⟨c, _, _, h⟩ := natC_at e
  exact h
theorem evBI_sound (Bs : Base π mg mb) (R : Room n A) {b : BI} {vs : List V} {cs : List Value} {v : V} {Q : Value → Shared → Prop} (e : evBI b vs H = some (v, H')) (I : Inv π ρ H s.heap) (x : VRs π ρ vs cs)
    (hQ : OnV π ρ s H' v Q) : wpAny (MM w) A (call b.val cs) Q NoE s := by
  have S := Bs.sig
  have one : ∀ {u : V} {r : List Value}, VRs π ρ [u] r → ∃ c, r = [c] ∧ VR π ρ u c := fun {u r} y => by
    cases r with
    | nil => exact y.elim
    | cons c r => cases r with
      | nil => exact ⟨c, rfl, y.1⟩
      | cons _ _ => exact y.2.elim
  have two : ∀ {u u' : V} {r : List Value}, VRs π ρ [u, u'] r → ∃ c d, r = [c, d] ∧ VR π ρ u c ∧ VR π ρ u' d := fun {u u' r} y => by
    cases r with
    | nil => exact y.elim
    | cons c r =>
      obtain ⟨d, rfl, h⟩ := one (r := r) y.2
      exact ⟨c, d, rfl, y.1, h⟩
  cases b with
  | len =>
    obtain ⟨u, rfl, e⟩ := b1_some e
    obtain ⟨i, rfl, e⟩ := bRf_some e
    obtain ⟨pl, us, ei, e⟩ := bL_some e
    obtain ⟨hl, e⟩ := gd_some e
    obtain ⟨c, rfl, xc⟩ := one x
    have hl := of_decide_eq_true hl
    obtain ⟨a, cvs, ea, la, _, xa⟩ := I.list ei
    cases xc.ref_at ea
    have hlen := xa.length
    cases e
    have hfit : ((cvs.toArray.size : Nat) : Int) < 2 ^ 63 := by rw [List.size_toArray]; omega
    have h3 := hQ ρ (.int (cvs.toArray.size : Nat) (s.toks + 1)) s.heap (s.toks + 1 + 1) ⟨s.toks + 1, by rw [lv_one S.one, List.size_toArray, hlen]⟩ I (.refl _ _)
    show wpAny (MM w) A (call (.builtin "len") [.ref a]) Q NoE s
    with_reducible exact call_len_list la hfit h3
  | sum =>
    obtain ⟨u, rfl, e⟩ := b1_some e
    obtain ⟨i, rfl, e⟩ := bRf_some e
    obtain ⟨pl, us, ei, e⟩ := bL_some e
    obtain ⟨ps, hps, e⟩ := bO_some e
    obtain ⟨hl, e⟩ := gd_some e
    obtain ⟨c, rfl, xc⟩ := one x
    rw [Bool.and_eq_true, decide_eq_true_eq, decide_eq_true_eq] at hl
    obtain ⟨a, cvs, ea, la, _, xa⟩ := I.list ei
    cases xc.ref_at ea
    have hlen := xa.length
    have hi := xa.ints hps
    have hil := hi.length
    cases e
    show wpAny (MM w) A (call (.builtin "sum") [.ref a]) Q NoE s
    refine call_sum_walk ?_
    have hax : a < s.heap.objs.size := by obtain ⟨_, q, _⟩ := la; exact Heap.lt_size q
    refine wpAny_pyIter_list la ?_
    have hps_len : (ps.map fun p => lv π.σ 0 p).length = cvs.length := by rw [hil]
    refine ⟨s.heap.objs.size, [s.heap.objs.size, a], [s.heap.objs.size], cvs.toArray.size, _, _, fun i => (ps.map fun p => lv π.σ 0 p).getD i 0, rfl, Walks.list (by exact R.hd) s.heap.objs.size a (Nat.ne_of_lt hax) cvs.toArray, ?_, ?_, ?_, ?_, ?_⟩
    · exact ⟨⟨_, Heap.get?_push_size _ rfl, rfl, rfl⟩, la.push _⟩
    · intro b hb
      show b < (s.heap.push _).objs.size
      rw [Heap.size_push]
      rcases List.mem_cons.mp hb with rfl | hb
      · exact Nat.lt_succ_self _
      · rw [List.mem_singleton.mp hb]; exact Nat.lt_succ_of_lt hax
    · intro i v hv
      exact ints_get hi (by simpa using hv)
    · intro j hj
      have h1 := norm_each S.bnd (ps := ps) (j := j)
      have h2 := norm_pre S.bnd ps (j + 1)
      rw [preSum_get _ (j + 1) (by rw [hps_len]; rw [List.size_toArray] at hj; omega)]
      unfold InLong
      dsimp only
      omega
    · intro h' tk t' hk
      have hk' : ∀ b o, s.heap.get? b = some o → h'.get? b = some o := fun b o q => hk b o (by simp only [List.mem_singleton]; exact Nat.ne_of_lt (Heap.lt_size q)) (Heap.get?_push_of_some _ q)
      refine hQ ρ _ h' tk ⟨t', ?_⟩ (I.grow hk') (.of_kept fun b o _ q => hk' b o q)
      rw [lv_sumAll, List.size_toArray, ← hps_len, preSum_get _ _ (Nat.le_refl _), List.take_length]
  | range =>
    cases vs with
    | nil => cases e
    | cons u r => cases r with
      | nil =>
        obtain ⟨p, rfl, e⟩ := bI_some e
        obtain ⟨k, hk, e⟩ := bO_some e
        cases e
        obtain ⟨c, rfl, t, rfl⟩ := one x
        have hc := natC_sound S hk
        rw [hc]
        show wpAny (MM w) A (call (.type "range") [.int (k : Int) t]) Q NoE s
        refine range1_rows (anyFr Bs I) News.nil fun h' tk t₁ u₁ v₁ hr _ _ hk' => ?_
        have hp := I.alloc (o := .range 0 k) rfl hk' ⟨t₁, u₁, v₁, by simpa using hr⟩
        exact hQ _ _ _ tk (ref_new I _) hp.1 hp.2
      | cons u' r =>
        obtain ⟨hr, e⟩ := gd_some e
        cases r with
        | cons _ _ => cases hr
        | nil =>
        obtain ⟨p, rfl, e⟩ := bI_some e
        obtain ⟨q, rfl, e⟩ := bI_some e
        obtain ⟨k, hk, e⟩ := bO_some e
        obtain ⟨l, hl, e⟩ := bO_some e
        obtain ⟨hkl, e⟩ := gd_some e
        have hkl := of_decide_eq_true hkl
        cases e
        obtain ⟨c, d, rfl, ⟨t, rfl⟩, ⟨u, rfl⟩⟩ := two x
        rw [natC_sound S hk, natC_sound S hl]
        show wpAny (MM w) A (call (.type "range") [.int (k : Int) t, .int (l : Int) u]) Q NoE s
        refine range2_rows (anyFr Bs I) News.nil fun h' tk t₁ u₁ v₁ hr _ _ hk' => ?_
        have hp := I.alloc (o := .range k (l - k)) rfl hk' ⟨t₁, u₁, v₁, by rw [Nat.add_sub_cancel' hkl]; exact hr⟩
        exact hQ _ _ _ tk (ref_new I _) hp.1 hp.2
  | int =>
    obtain ⟨u, rfl, e⟩ := b1_some e
    obtain ⟨c, rfl, xc⟩ := one x
    cases u with
    | bool b =>
      cases e
      cases xc
      have h3 := hQ ρ (.int (if b then 1 else 0) s.toks) s.heap (s.toks + 1) ⟨s.toks, by rw [lv_one S.one]⟩ I (.refl _ _)
      show wpAny (MM w) A (call (.type "int") [.bool b]) Q NoE s
      with_reducible exact call_int_bool h3
    | _ => cases e
  | divmod =>
    obtain ⟨u1, u2, rfl, e⟩ := b2_some e
    obtain ⟨p, rfl, e⟩ := bI_some e
    obtain ⟨q, rfl, e⟩ := bI_some e
    obtain ⟨a, ha, e⟩ := bO_some e
    obtain ⟨b, hb, e⟩ := bO_some e
    obtain ⟨y, hy, e⟩ := bO_some e
    obtain ⟨z, hz, e⟩ := bO_some e
    cases e
    obtain ⟨c, d, rfl, ⟨t, rfl⟩, ⟨u, rfl⟩⟩ := two x
    rw [lv_lconst S.one ha, lv_lconst S.one hb]
    obtain ⟨h0, hy⟩ := gd_some hy
    obtain ⟨h1, hy⟩ := gd_some hy
    obtain ⟨_, hz⟩ := gd_some hz
    simp only [small, Bool.and_eq_true, decide_eq_true_eq] at h1
    have h0 : b ≠ 0 := by simpa using h0
    cases hy
    cases hz
    have hw : ObjR π (ρ ++ [s.heap.objs.size]) (s.heap.push { cls := .type "tuple", data := .seq [Value.int (a.fdiv b) s.toks, Value.int (a.fmod b) (s.toks + 1)].toArray }) s.heap.objs.size (.tup [.int [a.fdiv b], .int [a.fmod b]]) :=
      push_tup ⟨⟨s.toks, by rw [lv_one S.one]⟩, ⟨s.toks + 1, by rw [lv_one S.one]⟩, trivial⟩
    have hp := I.push hw
    have h3 := hQ _ _ _ (s.toks + 1 + 1) (ref_new I _) hp.1 hp.2
    have h1 : Builtin.divisionGoesByPylong a b = false := PyProof.noPylong_small (by omega)
    show wpAny (MM w) A (call (.builtin "divmod") [.int a t, .int b u]) Q NoE s
    exact divmod_int h0 h3 (.inl h1)
end
end Mine

namespace Mine
section
variable {w : World} {π : Par} {A : Around} {s : Shared} {ρ : List Addr} {H H' : AH} {n : Nat} {mg mb : Str → Option Value}

theorem findC_sound {c : Int} : ∀ {cs : List Int} {i k : Nat}, findC c cs i = some k → i ≤ k ∧ k - i < cs.length ∧ cs[k - i]? = some c ∧ ∀ j, j < k - i → cs[j]? ≠ some c
  | [], i, k, e => by cases e
  | d :: r, i, k, e => by
    have e : sel (d == c) (some i) (findC c r (i + 1)) = some k := e
    cases h : d == c with
    | true =>
      rw [h] at e
      have hk := Option.some.inj e
      subst hk
      have hd : d = c := by simpa using h
      subst hd
      simp
    | false =>
      rw [h] at e
      have hd : d ≠ c := by simpa using h
      obtain ⟨h1, h2, h3, h4⟩ := findC_sound (show findC c r (i + 1) = some k from e)
      have e1 : k - i = (k - (i + 1)) + 1 := by omega
      refine ⟨by omega, by rw [List.length_cons]; omega, by rw [e1]; simpa using h3, fun j hj => ?_⟩
      cases j with
      | zero => simpa using hd
      | succ j => simpa using h4 j (by omega)

/-- the place of an int in a tuple of ints -/
theorem index_loop {cs : List Value} {ns : List Int} {c : Int} {t : Tok} {k : Nat} {Q : Fin → Shared → Prop} (x : IntsAre cs ns) (hk : ns[k]? = some c) (hno : ∀ j, j < k → ns[j]? ≠ some c)
    (f : Nat → Option Fin × PUnit → Sem (ForInStep (Option Fin × PUnit)))
    (hf : ∀ i v u b, cs[i]? = some (.int v u) → f i b = (do let q ← eqBool (.int v u) (.int c t); if q = true then (do let r ← retInt i; pure (.done (some r, ⟨⟩))) else pure (.yield (none, ⟨⟩))))
    (g : Option Fin × PUnit → Sem Fin) (hg : ∀ r, g (some r, ⟨⟩) = pure r)
    (hQ : Q (.done (.ret (.int (k : Int) s.toks))) { s with toks := s.toks + 1 }) : ∀ (m i : Nat), i ≤ k → i + m = cs.length → wpAny (MM w) A (forIn (List.range' i m) (none, ⟨⟩) f >>= g) Q NoE s := by
  intro m
  induction m with
  | zero =>
    intro i hi hm
    have := (List.getElem?_eq_some_iff.mp hk).1
    have := x.length
    omega
  | succ m ih =>
    intro i hi hm
    have hl := x.length
    have hin : i < cs.length := by omega
    obtain ⟨u, hv⟩ := ints_get x (List.getElem?_eq_getElem hin)
    have hci : cs[i]? = some (.int (ns.getD i 0) u) := by rw [List.getElem?_eq_getElem hin, hv]
    rw [List.range'_succ, List.forIn_cons, hf i _ u _ hci, bind_assoc]
    simp only [bind_assoc]
    refine wpAny_bind (wpAny_eqBool_int ?_)
    have hget : ns.getD i 0 = ns[i]'(by omega) := by rw [List.getD_eq_getElem?_getD, List.getElem?_eq_getElem (by omega)]; rfl
    by_cases hik : i = k
    · subst hik
      have hc : ns.getD i 0 = c := by rw [List.getD_eq_getElem?_getD, hk]; rfl
      have : (ns.getD i 0 == c) = true := by rw [hc]; simp
      rw [this]
      simp only [if_true, bind_assoc, pure_bind]
      unfold retInt
      simp only [bind_assoc]
      refine wpAny_bind (wpAny_mkInt ?_)
      unfold ret
      simp only [pure_bind]
      show wpAny (MM w) A (g (some (Fin.done (.ret (.int (i : Int) s.toks))), ⟨⟩)) Q NoE _
      rw [hg]
      exact wpAny_pure hQ
    · have hne := hno i (by omega)
      have : (ns.getD i 0 == c) = false := by
        rw [beq_eq_false_iff_ne]
        intro q
        exact hne (by rw [List.getElem?_eq_getElem (by omega), ← hget, q])
      rw [this]
      simp only [Bool.false_eq_true, if_false, pure_bind]
      exact ih (i + 1) (by omega) (by omega)
theorem tuple_index {a : Addr} {cs : List Value} {nn : Nat} {ns : List Int} {c : Int} {t : Tok} {k : Nat} {Q : Value → Shared → Prop} (ho : s.heap.get? a = some { cls := .type "tuple", dict := none, data := .seq cs.toArray nn, slots := #[] }) (x : IntsAre cs ns)
    (hk : ns[k]? = some c) (hno : ∀ j, j < k → ns[j]? ≠ some c) (hQ : Q (.int (k : Int) s.toks) { s with toks := s.toks + 1 }) : wpAny (MM w) A (call (.builtin "tuple.index") [.ref a, .int c t]) Q NoE s := by
  have ta : s.TypeIs (.ref a) "tuple" := ⟨_, ho, rfl⟩
  refine wpAny_call_entry PySem.F.slot_tuple_index ta PySem.F.entry_tuple_index ?_ (PySem.F.args_tuple_index_2 _ _)
  show wpAny (MM w) A.in1 (Builtin.Tuple.tupleItemsOf (.ref a) >>= _) _ _ s
  refine wpAny_bind (tupleItemsOf_ ⟨_, ho, rfl, _, rfl⟩ ?_)
  simp only [pure_bind]
  rw [Nat.min_self]
  rw [Std.Legacy.Range.forIn_eq_forIn_range']
  refine index_loop (ns := ns) (c := c) (t := t) (k := k) x hk hno _ ?_ _ ?_ ⟨_, rfl, hQ⟩ _ 0 (Nat.zero_le _) ?_
  · intro i v u b e
    rw [List.getElem?_toArray, e]
  · intro r
    rfl
  · show 0 + (cs.toArray.size - 0 + 1 - 1) / 1 = cs.length
    simp

theorem getMethod_sound {o : V} {m : ME} {c : Value} {pl : Sem Bool} {Q : Value × List Value → Shared → Prop} (e : okME o m H = true) (I : Inv π ρ H s.heap) (x : VR π ρ o c) (hQ : Q (.builtin m.id, [c]) s) :
    wpAny (MM w) A (getMethod c m.name pl) Q NoE s := by
  have e := oB_true e
  cases m with
  | bitLength =>
    obtain ⟨p, rfl, _⟩ := bI_some e
    obtain ⟨t, rfl⟩ := x
    exact getMethod_int_bit_length hQ
  | index =>
    obtain ⟨i, rfl, k1⟩ := bRf_some e
    obtain ⟨us, ei, _⟩ := bT_some k1
    obtain ⟨a, cvs, n, ea, ho, _⟩ := I.tuple ei
    cases x.ref_at ea
    have ta : s.TypeIs (.ref a) "tuple" := ⟨_, ho, rfl⟩
    exact getMethod_builtin ta PySem.F.plainAttrs_tuple PySem.F.slot_tuple_index PySem.F.type_tuple_index (fun b hb => by cases hb; exact ⟨_, ho, rfl⟩) hQ
  | append =>
    obtain ⟨i, rfl, k1⟩ := bRf_some e
    obtain ⟨pl, us, ei, k2⟩ := bL_some k1
    obtain ⟨a, cvs, ea, _, la, _⟩ := I.list ei
    cases x.ref_at ea
    obtain ⟨n, ho⟩ := la (Option.some.inj k2)
    have ta : s.TypeIs (.ref a) "list" := ⟨_, ho, rfl⟩
    exact getMethod_builtin ta PySem.F.plainAttrs_list PySem.F.slot_list_append PySem.F.type_list_append (fun b hb => by cases hb; exact ⟨_, ho, rfl⟩) hQ
  | reverse =>
    obtain ⟨i, rfl, k1⟩ := bRf_some e
    obtain ⟨pl, us, ei, k2⟩ := bL_some k1
    obtain ⟨a, cvs, ea, _, la, _⟩ := I.list ei
    cases x.ref_at ea
    obtain ⟨n, ho⟩ := la (Option.some.inj k2)
    have ta : s.TypeIs (.ref a) "list" := ⟨_, ho, rfl⟩
    exact getMethod_builtin ta PySem.F.plainAttrs_list PySem.F.slot_list_reverse PySem.F.type_list_reverse (fun b hb => by cases hb; exact ⟨_, ho, rfl⟩) hQ

theorem evME_sound (S : Sig π) {o : V} {m : ME} {vs : List V} {c : Value} {cs : List Value} {v : V} {Q : Value → Shared → Prop} (e : evME o m vs H = some (v, H')) (I : Inv π ρ H s.heap) (xo : VR π ρ o c) (x : VRs π ρ vs cs)
    (hQ : OnV π ρ s H' v Q) : wpAny (MM w) A (call (.builtin m.id) (c :: cs)) Q NoE s := by
  have one : ∀ {u : V} {r : List Value}, VRs π ρ [u] r → ∃ c, r = [c] ∧ VR π ρ u c := fun {u r} y => by
    cases r with
    | nil => exact y.elim
    | cons c r => cases r with
      | nil => exact ⟨c, rfl, y.1⟩
      | cons _ _ => exact y.2.elim
  have nov : ∀ {vs : List V} {r : List Value}, vs.isEmpty = true → VRs π ρ vs r → r = [] := fun {vs r} h y => by
    cases vs with
    | nil => cases r with
      | nil => rfl
      | cons _ _ => exact y.elim
    | cons _ _ => cases h
  cases m with
  | bitLength =>
    obtain ⟨p, rfl, k1⟩ := bI_some e
    obtain ⟨hv, k2⟩ := gd_some k1
    obtain ⟨k, hk, k3⟩ := bO_some k2
    cases nov hv x
    cases k3
    obtain ⟨t, rfl⟩ := xo
    rw [lv_lconst S.one hk]
    have h3 := hQ ρ (.int (Builtin.Int.intBits k) s.toks) s.heap (s.toks + 1) ⟨s.toks, by rw [lv_one S.one]⟩ I (.refl _ _)
    exact call_int_bit_length h3
  | index =>
    obtain ⟨i, rfl, k1⟩ := bRf_some e
    obtain ⟨u, rfl, k2⟩ := b1_some k1
    obtain ⟨p, rfl, k3⟩ := bI_some k2
    obtain ⟨us, ei, k4⟩ := bT_some k3
    obtain ⟨k, hk, k5⟩ := bO_some k4
    obtain ⟨ns, hns, k6⟩ := bO_some k5
    obtain ⟨j, hj, k7⟩ := bO_some k6
    cases k7
    obtain ⟨d, rfl, t, rfl⟩ := one x
    obtain ⟨a, cvs, n, ea, ho, xa⟩ := I.tuple ei
    cases xo.ref_at ea
    rw [lv_lconst S.one hk]
    obtain ⟨_, _, h3, h4⟩ := findC_sound hj
    rw [Nat.sub_zero] at h3 h4
    have h5 := hQ ρ (.int (j : Int) s.toks) s.heap (s.toks + 1) ⟨s.toks, by rw [lv_one S.one]⟩ I (.refl _ _)
    exact tuple_index ho (isList_consts S xa hns) h3 h4 h5
  | append =>
    obtain ⟨i, rfl, k1⟩ := bRf_some e
    obtain ⟨u, rfl, k2⟩ := b1_some k1
    obtain ⟨pl, us, ei, k3⟩ := bL_some k2
    obtain ⟨hl, k4⟩ := gd_some k3
    cases k4
    rw [Bool.and_eq_true, decide_eq_true_eq] at hl
    obtain ⟨d, rfl, xd⟩ := one x
    obtain ⟨a, cvs, ea, _, la, xa⟩ := I.list ei
    cases xo.ref_at ea
    have hlen := xa.length
    have hsz : cvs.toArray.size ≤ sizeLine := by rw [List.size_toArray, sizeLine_eq]; omega
    refine wpAny_list_append_plain (la hl.1) (fun h' hp hs => ?_) hsz
    obtain ⟨n, hp⟩ := hp
    have hob : ObjR π ρ h' a (.list true (us ++ [_])) := ⟨cvs ++ [d], ⟨_, hp, rfl, n, by simp⟩, fun _ => ⟨n, by rw [hp]; simp⟩, VRs.append xa ⟨xd, trivial⟩⟩
    have hq := I.set ei rfl ea hs hob
    exact hQ ρ .none h' s.toks rfl hq.1 hq.2
  | reverse =>
    obtain ⟨i, rfl, k1⟩ := bRf_some e
    obtain ⟨hv, k2⟩ := gd_some k1
    obtain ⟨pl, us, ei, k3⟩ := bL_some k2
    obtain ⟨hl, k4⟩ := gd_some k3
    cases k4
    cases nov hv x
    rw [Bool.and_eq_true, decide_eq_true_eq] at hl
    obtain ⟨a, cvs, ea, _, la, xa⟩ := I.list ei
    cases xo.ref_at ea
    obtain ⟨n, ho⟩ := la hl.1
    have hlen := xa.length
    have hsz : cvs.toArray.size ≤ sizeLine := by rw [List.size_toArray, sizeLine_eq]; omega
    have ta : s.TypeIs (.ref a) "list" := ⟨_, ho, rfl⟩
    have hat : (s.heap.update a (Obj.mapSeq fun x => x.reverse)).get? a = some { cls := .type "list", dict := none, data := .seq cvs.toArray.reverse n, slots := #[] } := Heap.get?_update_self (o := { cls := .type "list", dict := none, data := .seq cvs.toArray n, slots := #[] }) (Obj.mapSeq fun x => x.reverse) ho rfl |>.trans (by simp [Obj.mapSeq])
    have hob : ObjR π ρ (s.heap.update a (Obj.mapSeq fun x => x.reverse)) a (.list true us.reverse) := ⟨cvs.reverse, ⟨_, hat, rfl, n, by simp⟩, fun _ => ⟨n, by rw [hat]; simp⟩, xa.reverse⟩
    have hq := I.set ei rfl ea (Heap.SameBut.update _ _ _) hob
    have h5 := hQ ρ .none _ s.toks rfl hq.1 hq.2
    exact call_meets PySem.F.slot_list_reverse ta PySem.F.entry_list_reverse (PySem.F.args_list_reverse_1 _) (AutoSeq1.list_reverse_list_0 a cvs.toArray n hsz) ⟨ho, h5⟩
end
end Mine

namespace Mine
section
variable {w : World} {π : Par} {A : Around} {s : Shared} {ρ : List Addr} {H H' : AH} {n : Nat} {mg mb : Str → Option Value}
theorem adjust_to (b n : Nat) (hb : b ≤ n) : Builtin.Slice.sliceAdjust none (some (b : Int)) 1 (n : Int) = (0, (b : Int)) := by
  unfold Builtin.Slice.sliceAdjust
  have h1 : ¬ ((1 : Int) < 0) := by omega
  have h2 : ¬ ((b : Int) < 0) := by omega
  simp only [h1, h2, if_false]
  congr 1
  omega
theorem places_to (b : Nat) : Builtin.Slice.slicePlaces 0 (b : Int) 1 = b := by
  unfold Builtin.Slice.slicePlaces
  have h1 : (1 : Int) > 0 := by omega
  simp only [h1, if_true, Int.ediv_one]
  split <;> omega
theorem sliceApplied_to {sl : Addr} {b n : Nat} {u : Tok} {Q : Int × Int × Nat → Shared → Prop} (hs : s.heap.IsSliceOf sl .none (.int b u) .none) (hb : b ≤ n) (h : Q (0, 1, b) s) :
    wpAny (MM w) A (Builtin.Slice.sliceApplied (.ref sl) (pure (n : Int))) Q NoE s := by
  obtain ⟨os, hos, hcs, hds⟩ := id hs
  unfold Builtin.Slice.sliceApplied Builtin.Slice.sliceFields
  refine wpAny_bind (wpAny_bind (wpAny_field hos hds (x := .none) rfl (wpAny_bind (wpAny_field hos hds (x := .int b u) rfl (wpAny_bind (wpAny_field hos hds (x := .none) rfl (wpAny_pure ?_)))))))
  refine wpAny_bind (slicePart_none ?_)
  show wpAny _ _ (if ((1 : Int) == 0) = true then _ else _) _ _ s
  rw [if_neg (by decide)]
  refine wpAny_bind (slicePart_none (wpAny_bind (slicePart_int (wpAny_bind (wpAny_pure ?_)))))
  show wpAny _ _ (match Builtin.Slice.sliceAdjust none (some (b : Int)) 1 (n : Int) with | (lo, hi) => pure (lo, (1 : Int), Builtin.Slice.slicePlaces lo hi 1)) _ _ s
  rw [adjust_to b n hb]
  show wpAny _ _ (pure ((0 : Int), (1 : Int), Builtin.Slice.slicePlaces 0 (b : Int) 1)) _ _ s
  rw [places_to b]
  exact wpAny_pure h
theorem pick_to (xs : Array Value) (b : Nat) : ((List.range b).filterMap fun (k : Nat) => xs[((0 : Int) + (k : Int) * 1).toNat]?).toArray = (xs.toList.take b).toArray := by
  have e : (fun (k : Nat) => xs[((0 : Int) + (k : Int) * 1).toNat]?) = fun k => xs[0 + k]? := by
    funext k
    have : ((0 : Int) + (k : Int) * 1).toNat = 0 + k := by omega
    rw [this]
  rw [e]
  have := PySem.pick_run xs 0 b
  rw [List.filterMap_map] at this
  have e2 : ((fun x => xs[x]?) ∘ fun x => 0 + x) = fun k => xs[0 + k]? := rfl
  rw [e2] at this
  rw [this, List.drop_zero]
theorem getItem_tuple_to {t sl : Addr} {items : Array Value} {b : Nat} {u : Tok} {Q : Value → Shared → Prop} (ht : IsTup s.heap t items) (hs : s.heap.IsSliceOf sl .none (.int b u) .none) (hb : b < items.size)
    (h : Q (.ref s.heap.objs.size) { s with heap := s.heap.push { cls := .type "tuple", data := .seq (items.toList.take b).toArray } })
    (hsz : items.size ≤ sizeLine) : wpAny (MM w) A (getItem (.ref t) (.ref sl)) Q NoE s := by
  have hdrop : sizeOk (.seq (items.toList.take b).toArray) := by
    show (items.toList.take b).toArray.size ≤ sizeLine
    rw [List.size_toArray, List.length_take, Array.length_toList]
    omega
  obtain ⟨os, hos, hcs, hds⟩ := id hs
  have hTs : s.TypeIs (.ref sl) "slice" := ⟨os, hos, hcs⟩
  unfold getItem
  try with_reducible refine wpAny_holding ?_
  first | refine wpAny_bind (wpAny_pure ?_) | skip
  refine wpAny_bind (wpAny_sequenceKey ht.typeIs (by decide) ?_)
  refine wpAny_bind (wpAny_callSpecial?_slot (name := Str.ofString "__getitem__") ht.typeIs PySem.F.slot_tuple_getitem
    (wpAny_call_entry PySem.F.slot_tuple_getitem ht.typeIs PySem.F.entry_tuple_getitem ?_ (PySem.F.args_tuple_getitem_2 _ _)))
  show wpAny _ _ (Builtin.Tuple.tupleItemsOf (.ref t) >>= _) _ _ s
  refine wpAny_bind (tupleItemsOf_ ht ?_)
  refine wpAny_bind (wpAny_typeOf hTs ?_)
  rw [if_pos (by decide)]
  refine wpAny_bind (sliceApplied_to hs (Nat.le_of_lt hb) ?_)
  have hno : ¬ (((0 : Int) == 0 && (1 : Int) == 1 && b == items.size) = true) := by
    have : (b == items.size) = false := by rw [beq_eq_false_iff_ne]; omega
    rw [this]; simp
  show wpAny _ _ (if ((0 : Int) == 0 && (1 : Int) == 1 && b == items.size) = true then _ else _) _ _ s
  rw [if_neg hno, pick_to items b]
  first
    | exact wpAny_bind (m := Builtin.Tuple.tupleExact _) (wpAny_newObj_type (wpAny_pure ⟨_, rfl, wpAny_pure h⟩) hdrop)
    | exact wpAny_bind (m := Builtin.Tuple.tupleExact _) (wpAny_newObj_type (wpAny_bind (wpAny_pure (wpAny_pure ⟨_, rfl, wpAny_pure h⟩))) hdrop)
    | exact wpAny_bind (wpAny_bind (m := Builtin.Tuple.tupleExact _) (wpAny_newObj_type (wpAny_pure (wpAny_pure ⟨_, rfl, wpAny_pure h⟩)) hdrop))
    | exact wpAny_bind (wpAny_bind (m := Builtin.Tuple.tupleExact _) (wpAny_newObj_type (wpAny_pure ⟨_, rfl, wpAny_pure h⟩) hdrop))

/-- o[i] -/
theorem item_sound (S : Sig π) {o i v : V} {c d : Value} {value slice : Expr} {Q : Value → Shared → Prop} (e : evItem o i H = some v) (I : Inv π ρ H s.heap) (xo : VR π ρ o c) (xi : VR π ρ i d)
    (hs : ∀ a b, subscripted slice false a b = operate [a, b] (getItem a b)) (hQ : OnV π ρ s H v Q) : wpAny (MM w) A (subscriptTail value slice c d) Q NoE s := by
  obtain ⟨j, rfl, k1⟩ := bRf_some e
  obtain ⟨p, rfl, k2⟩ := bI_some k1
  obtain ⟨k, hk, k3⟩ := bO_some k2
  obtain ⟨t, rfl⟩ := xi
  cases ej : H[j]? with
  | none => rw [ej] at k3; cases k3
  | some ob =>
    rw [ej] at k3
    cases ob with
    | list pl us =>
      have e : us[k]? = some v := k3
      obtain ⟨a, cvs, ea, la, _, xa⟩ := I.list ej
      cases xo.ref_at ea
      rw [natC_sound S hk]
      have hkl := natC_le hk
      obtain ⟨cv, hc, hv⟩ := xa.get e
      have h3 := hQ ρ cv s.heap s.toks hv I (.refl _ _)
      have hx : cvs.toArray[(k : Int).toNat]? = some cv := by simpa using hc
      have h0 : (0 : Int) ≤ (k : Int) := by omega
      have hf : (k : Int) < 2 ^ 63 := by omega
      have h4 : wpAny (MM w) A (getItem (.ref a) (.int (k : Int) t)) Q NoE s := wpAny_getItem_list la h0 hf hx h3
      have ta : s.TypeIs (.ref a) "list" := by obtain ⟨o, q, c, _⟩ := la; exact ⟨o, q, c⟩
      exact tail_any ta PySem.F.slot_list_getitem.lookup h4 (hs _ _)
    | tup us =>
      have e : us[k]? = some v := k3
      obtain ⟨a, cvs, n, ea, ho, xa⟩ := I.tuple ej
      cases xo.ref_at ea
      rw [natC_sound S hk]
      have hkl := natC_le hk
      obtain ⟨cv, hc, hv⟩ := xa.get e
      have h3 := hQ ρ cv s.heap s.toks hv I (.refl _ _)
      have ht : IsTup s.heap a cvs.toArray := ⟨_, ho, rfl, n, rfl⟩
      have hlt := (List.getElem?_eq_some_iff.mp hc).1
      have hj : seqIndex? (k : Int) cvs.length = some k := by
        unfold seqIndex?
        have h1 : ¬ ((k : Int) < 0) := by omega
        simp only [h1, if_false]
        rw [if_pos (by simp; omega)]
        simp
      exact item_tupleT ht (by omega) (by omega) hj hc h3 (hs _ _)
    | _ => cases k3

/-- o[:u], the slice object made -/
theorem upto_sound (S : Sig π) {o i v : V} {c d : Value} {value slice : Expr} {Q : Value → Shared → Prop} (e : evUpto o i H = some (v, H')) (I : Inv π ρ H s.heap) (xo : VR π ρ o c) (xi : VR π ρ i d)
    (hs : ∀ a b, subscripted slice false a b = operate [b, a] (getItem a b)) (hQ : OnV π ρ s H' v Q) :
    wpAny (MM w) A (subscriptTail value slice c (.ref s.heap.objs.size)) Q NoE { s with heap := s.heap.push { cls := .type "slice", data := .fields #[.none, d, .none] } } := by
  obtain ⟨j, rfl, k1⟩ := bRf_some e
  obtain ⟨p, rfl, k2⟩ := bI_some k1
  obtain ⟨us, ej, k3⟩ := bT_some k2
  obtain ⟨k, hk, k4⟩ := bO_some k3
  obtain ⟨hb, k5⟩ := gd_some k4
  obtain ⟨t, rfl⟩ := xi
  simp only [Bool.and_eq_true, decide_eq_true_eq] at hb
  cases k5
  obtain ⟨a, cvs, n, ea, ho, xa⟩ := I.tuple ej
  cases xo.ref_at ea
  rw [natC_sound S hk]
  have hkl := natC_le hk
  have hlen := xa.length
  have I' : Inv π ρ H ({ s with heap := s.heap.push { cls := .type "slice", data := .fields #[.none, .int (k : Int) t, .none] } } : Shared).heap := I.grow fun _ _ e => Heap.get?_push_of_some _ e
  have ht : IsTup (s.heap.push { cls := .type "slice", data := .fields #[.none, .int (k : Int) t, .none] }) a cvs.toArray := ⟨_, Heap.get?_push_of_some _ ho, rfl, n, rfl⟩
  have hp := I'.push (o := .tup (us.take k)) (push_tup (VRs.take k xa.mono))
  have hE : Ext ρ s.heap ρ (s.heap.push { cls := .type "slice", data := .fields #[.none, .int (k : Int) t, .none] }) := .of_kept fun _ _ _ e => Heap.get?_push_of_some _ e
  have h3 := hQ _ _ _ s.toks (ref_new I' _) hp.1 (.trans hE hp.2)
  have hsz : cvs.toArray.size ≤ sizeLine := by rw [List.size_toArray, sizeLine_eq]; omega
  have h4 := getItem_tuple_to (w := w) (A := A) (s := { s with heap := s.heap.push { cls := .type "slice", data := .fields #[.none, .int (k : Int) t, .none] } }) (Q := Q) ht (Heap.IsSliceOf.new ..) (by rw [List.size_toArray]; omega) h3 hsz
  exact tail_any ht.typeIs PySem.F.slot_tuple_getitem.lookup h4 (hs _ _)

theorem setItem_sound (S : Sig π) {j : Nat} {pl : Bool} {us : List V} {p : Lin} {k : Nat} {u v : V} {a : Addr} {d cv : Value} {Q : Unit → Shared → Prop} (ej : H[j]? = some (.list pl us)) (hk : natC p = some k) (hu : us[k]? = some u)
    (I : Inv π ρ H s.heap) (xo : ρ[j]? = some a) (xi : VR π ρ (.int p) d) (xv : VR π ρ v cv)
    (hQ : ∀ h' tk', Inv π ρ (H.set j (.list false (us.set k v))) h' → Ext ρ s.heap ρ h' → Q () { s with heap := h', toks := tk' }) : wpAny (MM w) A (setItem (.ref a) d cv) Q NoE s := by
  obtain ⟨t, rfl⟩ := xi
  obtain ⟨b, cvs, eb, la, _, xa⟩ := I.list ej
  rw [xo] at eb; cases eb
  rw [natC_sound S hk]
  have hkl := natC_le hk
  have hlt := (List.getElem?_eq_some_iff.mp hu).1
  have hlen := xa.length
  have h0 : (0 : Int) ≤ (k : Int) := by omega
  have hf : (k : Int) < 2 ^ 63 := by omega
  have hn : (k : Int) < cvs.toArray.size := by rw [List.size_toArray]; omega
  refine wpAny_setItem_list la h0 hf hn fun h' hl hs => ?_
  have e : cvs.toArray.setIfInBounds (k : Int).toNat cv = (cvs.set k cv).toArray := by simp
  rw [e] at hl
  have hob : ObjR π ρ h' a (.list false (us.set k v)) := ⟨cvs.set k cv, hl, fun q => (by cases q), VRs.set xv k xa⟩
  have hq := I.set ej rfl xo hs hob
  exact hQ h' s.toks hq.1 hq.2
end
end Mine

namespace Mine
/-- a block's frame, as the run has it -/
structure EnvR (π : Par) (ρ : List Addr) (e : AEnv) (env : Env) : Prop where
  sc : env.scope = π.scs e.sc
  kind : (π.scs e.sc).kind = .function
  loc : ρ[e.loc]? = some env.locals
  glob : env.globals = mainGlobals
  blt : env.builtins = builtinsNs
  cells : CellsR ρ (π.scs e.sc) e.cells env.cells
  cf : ∀ f, e.cf = f + 1 → env.code = .ref (π.ni f).c ∧ env.qual ++ (π.ni f).name = (π.ni f).qual
/-- a name, by its place -/
inductive VarR (sc : Scope) : Var → Str → Prop
  | loc {x : Nat} {nm : Str} : sc.names[x]? = some (nm, .local) → sc.names.lookup nm = some .local → (nm == ("__debug__" : Str)) = false → VarR sc (.loc x) nm
  | cell {x : Nat} {nm : Str} : sc.names[x]? = some (nm, .cell) → sc.names.lookup nm = some .cell → (nm == ("__debug__" : Str)) = false → VarR sc (.cel x) nm
  | free {x : Nat} {nm : Str} : sc.names[x]? = some (nm, .free) → sc.names.lookup nm = some .free → (nm == ("__debug__" : Str)) = false → (nm == ("__classdict__" : Str)) = false → VarR sc (.cel x) nm
/-- .. where it is stored -/
inductive StoR (sc : Scope) : Var → Str → Prop
  | loc {x : Nat} {nm : Str} : sc.names[x]? = some (nm, .local) → sc.names.lookup nm = some .local → StoR sc (.loc x) nm
  | cell {x : Nat} {nm : Str} : sc.names[x]? = some (nm, .cell) → sc.names.lookup nm = some .cell → StoR sc (.cel x) nm
inductive NamesR (sc : Scope) : List Var → List Expr → Prop
  | nil : NamesR sc [] []
  | cons {x : Var} {nm : Str} {pos : Pos} {xs : List Var} {es : List Expr} : StoR sc x nm → NamesR sc xs es → NamesR sc (x :: xs) (.Name nm pos :: es)
section
variable {w : World} {π : Par} {A : Around} {s : Shared} {ρ ρ' : List Addr} {H H' : AH} {n : Nat} {mg mb : Str → Option Value} {e : AEnv} {env : Env}

theorem EnvR.ext {h h' : Heap} (x : EnvR π ρ e env) (y : Ext ρ h ρ' h') : EnvR π ρ' e env := ⟨x.sc, x.kind, y.get x.loc, x.glob, x.blt, y.cells x.cells, x.cf⟩
theorem EnvR.kindOf (x : EnvR π ρ e env) (nm : Str) : env.kindOf nm = (π.scs e.sc).names.lookup nm := by rw [← x.sc]; rfl
theorem EnvR.fn (x : EnvR π ρ e env) : env.scope.kind = .function := by rw [x.sc]; exact x.kind
theorem EnvR.hp (x : EnvR π ρ e env) : (env.scope.kind == .class || (env.scope.kind == .module && env.locals != env.globals)) = false := by rw [x.fn]; rfl

theorem name_sound {x : Var} {v : V} {nm : Str} {pos : Pos} {Q : Value → Shared → Prop} (ev : getV e H x = some v) (I : Inv π ρ H s.heap) (N : EnvR π ρ e env) (r : VarR (π.scs e.sc) x nm) (hQ : OnV π ρ s H v Q) :
    wpAny (MM w) A (eval (.Name nm pos) env) Q NoE s := by
  have cel : ∀ {x : Nat}, getV e H (.cel x) = some v → ∀ {k : NameKind}, (π.scs e.sc).names[x]? = some (nm, k) → ∃ c cv, env.cells.lookup nm = some c ∧ s.heap.IsCell c (some cv) ∧ VR π ρ v cv := fun {x} ev {k} hk => by
    obtain ⟨i, hi, k1⟩ := bO_some ev
    obtain ⟨u, hu, k2⟩ := bCl_some k1
    subst k2
    obtain ⟨a, ea, cv, hc, hv⟩ := I.at hu
    obtain ⟨c, e1, e2⟩ := N.cells x i _ (joinO_some hi) hk
    rw [ea] at e1; cases e1
    exact ⟨_, cv, e2, hc, hv⟩
  cases r with
  | loc h1 h2 hd =>
    rename_i x
    refine wpAny_Name ?_ hd
    obtain ⟨sc, m, hm, k1⟩ := bN_some ev
    obtain ⟨hsc, k2⟩ := gd_some k1
    have hsc : sc = e.sc := by simpa using hsc
    subst hsc
    obtain ⟨a, ea, _, cm, hn, r⟩ := I.at hm
    rw [N.loc] at ea; cases ea
    obtain ⟨cv, hcv, hv⟩ := r _ _ _ (joinO_some k2) h1
    exact wpAny_loadName_local N.fn ((N.kindOf nm).trans h2) hn hcv (hQ ρ cv s.heap s.toks hv I (.refl _ _))
  | cell h1 h2 hd =>
    refine wpAny_Name ?_ hd
    obtain ⟨c, cv, e1, e2, e3⟩ := cel ev h1
    exact wpAny_loadName_cell N.fn ((N.kindOf nm).trans h2) e1 e2 (hQ ρ cv s.heap s.toks e3 I (.refl _ _))
  | free h1 h2 hd hcd =>
    refine wpAny_Name ?_ hd
    obtain ⟨c, cv, e1, e2, e3⟩ := cel ev h1
    exact wpAny_loadName_free N.fn ((N.kindOf nm).trans h2) e1 e2 (hQ ρ cv s.heap s.toks e3 I (.refl _ _)) hcd

/-- nothing that our run follows changes but H -/
noncomputable abbrev OnH (π : Par) (ρ : List Addr) (s : Shared) (H' : AH) (Q : Shared → Prop) : Prop :=
  ∀ h' tk', Inv π ρ H' h' → Ext ρ s.heap ρ h' → Q { s with heap := h', toks := tk' }
theorem store_sound {x : Var} {v : V} {cv : Value} {nm : Str} {Q : Unit → Shared → Prop} (ev : setV e H x v = some H') (I : Inv π ρ H s.heap) (N : EnvR π ρ e env) (r : StoR (π.scs e.sc) x nm) (vv : VR π ρ v cv)
    (hQ : OnH π ρ s H' (Q ())) : wpAny (MM w) A (storeName env nm cv) Q NoE s := by
  cases r with
  | loc h1 h2 =>
    rename_i x
    obtain ⟨sc, m, hm, k1⟩ := bN_some ev
    obtain ⟨hsc, k2⟩ := gd_some k1
    obtain ⟨u, hu, k3⟩ := bO_some k2
    have hsc : sc = e.sc := by simpa using hsc
    subst hsc
    cases k3
    obtain ⟨a, ea, hnd, cm, hn, r⟩ := I.at hm
    rw [N.loc] at ea; cases ea
    refine wpAny_storeName_local ((N.kindOf nm).trans h2) hn (fun h' hn' hs => ?_) N.hp
    have hob : ObjR π ρ h' env.locals (.ns e.sc (m.set x (some v))) := by
      refine ⟨hnd, _, hn', fun i v' nm' e1 e2 => ?_⟩
      by_cases hi : i = x
      · subst hi
        rw [h1] at e2; cases e2
        have hlt := (List.getElem?_eq_some_iff.mp hu).1
        rw [List.getElem?_set_self hlt] at e1
        cases e1
        exact ⟨cv, by simp, vv⟩
      · rw [List.getElem?_set_ne (Ne.symm hi)] at e1
        obtain ⟨cv', h3, h4⟩ := r i v' nm' e1 e2
        refine ⟨cv', ?_, h4⟩
        have hne : nm'.1 ≠ nm := fun q => hi (by
          have q1 : ((π.scs e.sc).names.map (·.1))[i]? = some nm := by rw [List.getElem?_map, e2, ← q]; rfl
          have q2 : ((π.scs e.sc).names.map (·.1))[x]? = some nm := by rw [List.getElem?_map, h1]; rfl
          exact (List.getElem?_inj (List.getElem?_eq_some_iff.mp q1).1 hnd).mp (q1.trans q2.symm))
        rw [if_neg hne]; exact h3
    have hq := I.set hm rfl N.loc hs hob
    exact hQ h' _ hq.1 hq.2
  | cell h1 h2 =>
    rename_i x
    obtain ⟨i, hi, k1⟩ := bO_some ev
    obtain ⟨u, hu, k2⟩ := bCl_some k1
    cases k2
    obtain ⟨a, ea, ho⟩ := I.at hu
    obtain ⟨c, e1, e2⟩ := N.cells x i _ (joinO_some hi) h1
    rw [ea] at e1; cases e1
    have hc : ∃ v₀, s.heap.IsCell a v₀ := by
      cases u with
      | none => exact ho
      | some u => obtain ⟨cv, q, _⟩ := ho; exact ⟨_, q⟩
    obtain ⟨v₀, hc⟩ := hc
    refine wpAny_storeName_cell N.fn ((N.kindOf nm).trans h2) e2 hc fun h' hc' hs => ?_
    have hob : ObjR π ρ h' a (.cell (some v)) := ⟨cv, hc', vv⟩
    have hq := I.set hu rfl ea hs hob
    exact hQ h' _ hq.1 hq.2

theorem setAll_len : ∀ {xs : List Var} {vs : List V} {H H' : AH}, setAll e H xs vs = some H' → xs.length = vs.length
  | [], vs, _, _, h => by
    obtain ⟨h, _⟩ := gd_some h
    cases vs with
    | nil => rfl
    | cons _ _ => cases h
  | x :: xs, vs, H, H', h => by
    cases vs with
    | nil => cases h
    | cons v vs =>
      obtain ⟨H1, _, k⟩ := bO_some h
      rw [List.length_cons, List.length_cons, setAll_len k]
theorem NamesR.each {sc : Scope} : ∀ {xs : List Var} {es : List Expr}, NamesR sc xs es → (assignEach es env).length = xs.length ∧ (assignEach es env).findIdx? (·.1) = none
  | _, _, .nil => ⟨rfl, rfl⟩
  | _, _, .cons (nm := nm) (pos := pos) (es := es) _ r => by
    obtain ⟨h1, h2⟩ := NamesR.each r
    have e : assignEach (.Name nm pos :: es) env = (false, assign (.Name nm pos) env) :: assignEach es env := rfl
    rw [e]
    refine ⟨by rw [List.length_cons, List.length_cons, h1], ?_⟩
    rw [List.findIdx?_cons, h2]; rfl
theorem setAll_sound {xs : List Var} {es : List Expr} (r : NamesR (π.scs e.sc) xs es) : ∀ {vs : List V} {cvs : List Value} {H H' : AH} {s : Shared} {Q : Unit → Shared → Prop}, setAll e H xs vs = some H' → Inv π ρ H s.heap → EnvR π ρ e env → VRs π ρ vs cvs →
    OnH π ρ s H' (Q ()) → wpAny (MM w) A (assignInOrder ((assignEach es env).map (·.2)) cvs) Q NoE s := by
  induction r with
  | nil =>
    intro vs cvs H H' s Q ev I N y hQ
    obtain ⟨h, ev⟩ := gd_some ev
    cases vs with
    | cons _ _ => cases h
    | nil => cases cvs with
      | cons _ _ => exact y.elim
      | nil =>
        cases ev
        exact wpAny_pure (hQ s.heap s.toks I (.refl _ _))
  | cons r rs ih =>
    rename_i x nm pos xs es
    intro vs cvs H H' s Q ev I N y hQ
    cases vs with
    | nil => cases ev
    | cons v vs => cases cvs with
      | nil => exact y.elim
      | cons c cvs =>
        obtain ⟨H1, h1, ev⟩ := bO_some ev
        show wpAny (MM w) A (holding cvs (assign (.Name nm pos) env c) >>= fun _ => assignInOrder ((assignEach es env).map (·.2)) cvs) Q NoE s
        refine wpAny_bind (wpAny_holding (wpAny_assign_Name (store_sound h1 I N r y.1 fun h' tk' I' x' => ?_)))
        exact ih (s := { s with heap := h', toks := tk' }) ev I' N y.2 fun h2 tk2 I2 x2 => hQ h2 tk2 I2 (x'.trans x2)
/-- a, b = the tuple at t -/
theorem unpack_sound {xs : List Var} {es : List Expr} {k : Nat} {pos : Pos} {vs : List V} {cvs : List Value} {t : Addr} {Q : Unit → Shared → Prop} (R : Room n A) (r : NamesR (π.scs e.sc) xs es) (ev : setAll e H xs vs = some H') (I : Inv π ρ H s.heap) (N : EnvR π ρ e env)
    (ht : s.heap.IsTuple t cvs.toArray) (x : VRs π ρ vs cvs) (hQ : OnH π ρ s H' (Q ())) : wpAny (MM w) A (assign (.Tuple es k pos) env (.ref t)) Q NoE s := by
  obtain ⟨h1, h2⟩ := NamesR.each (env := env) r
  refine wpAny_assign_Tuple R.hd ht (by rw [h1, setAll_len ev, x.length, List.size_toArray]) h2 fun h' hk => ?_
  have hk' : ∀ b o, s.heap.get? b = some o → h'.get? b = some o := fun b o q => hk b o (Nat.ne_of_lt (Heap.lt_size q)) q
  rw [List.toList_toArray]
  exact setAll_sound r (s := { s with heap := h' }) ev (I.grow hk') N x fun h2 tk2 I2 x2 => hQ h2 tk2 I2 (Ext.trans (.of_kept fun b o _ q => hk' b o q) x2)
end
end Mine

namespace Mine
inductive TgR (sc : Scope) : TG → Expr → Prop
  | one {x : Var} {nm : Str} {pos : Pos} : StoR sc x nm → TgR sc (.one x) (.Name nm pos)
  | tup {xs : List Var} {es : List Expr} {k : Nat} {pos : Pos} : NamesR sc xs es → TgR sc (.tup xs) (.Tuple es k pos)
/-- an address of nobody's -/
structure Off (π : Par) (h0 : Heap) (ρ : List Addr) (a : Addr) : Prop where
  nin : a ∉ ρ
  hb : π.hb.get? a = none
  h0 : h0.get? a = none
/-- an iterator, k items on -/
noncomputable def ItR (π : Par) (h0 : Heap) (ρ : List Addr) (h : Heap) (src : Src) (k : Nat) (I : Addr) : Prop := Off π h0 ρ I ∧ match src with
  | .list i => ∃ a, ρ[i]? = some a ∧ h.IsListIter I a k
  | .tup i => ∃ a, ρ[i]? = some a ∧ h.IsTupleIter I a k
  | .range x n => IsRangeIter h I ((x : Int) + (k : Nat) * 1) ((n : Int) - (k : Nat)) 1 ∧ k ≤ n
  | .rev i m => ∃ a, ρ[i]? = some a ∧ k ≤ m ∧ h.IsRevIter I a ((m : Int) - 1 - (k : Int))
  | .enu i => ∃ a it, Off π h0 ρ it ∧ I ≠ it ∧ ρ[i]? = some a ∧ (∃ old, IsEnum h I it k old) ∧ h.IsListIter it a k
noncomputable def ItV (π : Par) (ρ : List Addr) (h : Heap) (it : It) (c : Value) : Prop := match it with
  | .one v => VR π ρ v c
  | .tup vs => ∃ T cvs, c = .ref T ∧ h.IsTuple T (List.toArray cvs) ∧ VRs π ρ vs cvs
noncomputable abbrev Kept (h0 h h' : Heap) : Prop := ∀ b o, h0.get? b = some o → h.get? b = some o → h'.get? b = some o
noncomputable abbrev owners : List String := ["enumerate", "zip", "dict_itemiterator", "dict_reverseitemiterator", "odict_iterator", "itertools.zip_longest", "itertools.pairwise"]

section
variable {w : World} {π : Par} {A : Around} {s : Shared} {ρ ρ' : List Addr} {H H' H1 : AH} {n : Nat} {mg mb : Str → Option Value} {e : AEnv} {env : Env} {h0 : Heap}

theorem Off.ext {h h' : Heap} {a : Addr} {o : Obj} (x : Off π h0 ρ a) (y : Ext ρ h ρ' h') (e : h.get? a = some o) : Off π h0 ρ' a ∧ h'.get? a = some o := by
  refine ⟨⟨fun m => ?_, x.hb, x.h0⟩, y.kept a o x.nin e⟩
  obtain ⟨ext, rfl, f⟩ := y.pre
  rcases List.mem_append.mp m with m | m
  · exact x.nin m
  · rcases f a m with q | q
    · rw [q] at e; cases e
    · exact x.nin q
theorem ItR.ext {h h' : Heap} {src : Src} {k : Nat} {I : Addr} (x : ItR π h0 ρ h src k I) (y : Ext ρ h ρ' h') : ItR π h0 ρ' h' src k I := by
  obtain ⟨off, x⟩ := x
  cases src with
  | list i =>
    obtain ⟨a, ea, o, ho, hc, hd⟩ := x
    obtain ⟨q, ho'⟩ := off.ext y ho
    exact ⟨q, a, y.get ea, o, ho', hc, hd⟩
  | tup i =>
    obtain ⟨a, ea, o, ho, hc, hd⟩ := x
    obtain ⟨q, ho'⟩ := off.ext y ho
    exact ⟨q, a, y.get ea, o, ho', hc, hd⟩
  | range a n =>
    obtain ⟨q, ho'⟩ := off.ext y x.1
    exact ⟨q, ho', x.2⟩
  | rev i m =>
    obtain ⟨a, ea, hk, o, ho, hc, hd⟩ := x
    obtain ⟨q, ho'⟩ := off.ext y ho
    exact ⟨q, a, y.get ea, hk, o, ho', hc, hd⟩
  | enu i =>
    obtain ⟨a, it, off2, hne, ea, ⟨old, he⟩, o, ho, hc, hd⟩ := x
    obtain ⟨q, he'⟩ := off.ext y he
    obtain ⟨q2, ho'⟩ := off2.ext y ho
    exact ⟨q, a, it, q2, hne, y.get ea, ⟨old, he'⟩, o, ho', hc, hd⟩

theorem own_other {tgt : Expr} {I : Addr} {v : Value} {o : Obj} {T : String} {Q : Unit → Shared → Prop} (ho : s.heap.get? I = some o) (hc : o.cls = .type T) (hT : owners.contains T = false) (h : Q () s) :
    wpAny (MM w) A (letOwnedTupleGo tgt (.ref I) v) Q NoE s := by
  have key : wpAny (MM w) A (do
      let (.ref r, .ref a) := ((Value.ref I), v) | return
      let o ← load r
      match o.cls, o.data with
      | .type n, .fields vs =>
        if owners.contains n && vs[0]? == some (rawInt a) then
          rule "for.unpacks-the-owned-tuple"
          updateField r 0 .none
      | _, _ => pure () : Sem Unit) Q NoE s := by
    cases v with
    | ref a =>
      refine wpAny_bind (wpAny_load ho ?_)
      rw [hc]
      cases hd : o.data with
      | fields vs =>
        dsimp only
        rw [hT]
        simp only [Bool.false_and, Bool.false_eq_true, if_false]
        exact wpAny_pure h
      | _ => exact wpAny_pure h
    | _ => exact wpAny_pure h
  unfold letOwnedTupleGo
  cases tgt with
  | Tuple => exact key
  | List => exact key
  | _ => exact wpAny_pure h

/-- a step of the iteration -/
noncomputable abbrev Turn (w : World) (A : Around) (I : Addr) (tgt : Expr) (Qn : Shared → Prop) (Qs : Value → Shared → Prop) (s : Shared) : Prop :=
  wpAny (MM w) A (pyNext (.ref I)) (fun r s₁ => match r with
    | none => Qn s₁
    | some v => wpAny (MM w) A (letOwnedTupleGo tgt (.ref I) v) (fun _ s₂ => Qs v s₂) NoE s₁) NoE s
theorem grow_off (Iv : Inv π ρ H s.heap) {I : Addr} {h' : Heap} (off : Off π h0 ρ I) (nc : ∀ q, ¬ s.heap.CodeRec (.ref I) q) (hk : ∀ b o, b ∉ [I] → s.heap.get? b = some o → h'.get? b = some o) : Inv π ρ H h' ∧ Kept h0 s.heap h' := by
  refine ⟨Iv.grow_but (wr := [I]) (fun b hb => ?_) hk, fun b o e1 e2 => hk b o (fun m => ?_) e2⟩
  · rw [List.mem_singleton.mp hb]; exact ⟨off.nin, off.hb, nc⟩
  · rw [List.mem_singleton.mp m, off.h0] at e1; cases e1
theorem nocode_cls {I : Addr} {o : Obj} {vs : Array Value} (ho : s.heap.get? I = some o) (hd : o.data = .fields vs) (hv : ∀ x t, vs[1]? ≠ some (.str x t)) : ∀ q, ¬ s.heap.CodeRec (.ref I) q := fun q x => by
  obtain ⟨c, o', vs', t, e1, e2, e3, e4⟩ := x
  cases e1
  rw [ho] at e2; cases e2
  rw [hd] at e3; cases e3
  exact hv _ _ e4

theorem turn_item {m k : Nat} {P : Nat → Value → Prop} {St : Nat → Heap → Prop} {I : Addr} {fp : List Addr} {tgt : Expr} {Qn : Shared → Prop} {Qs : Value → Shared → Prop} (W : Walks PySem.Challenge.rw_hf0007_01.prog w A I fp [I] m P St) (hk : k < m) (hst : St k s.heap)
    (off : Off π h0 ρ I) (nc : ∀ q, ¬ s.heap.CodeRec (.ref I) q) (Iv : Inv π ρ H s.heap) (hown : ∀ h', St (k + 1) h' → ∃ o T, h'.get? I = some o ∧ o.cls = .type T ∧ owners.contains T = false)
    (hs : ∀ cv h' tk, P k cv → Inv π ρ H h' → St (k + 1) h' → Kept h0 s.heap h' → Qs cv { s with heap := h', toks := tk }) : Turn w A I tgt Qn Qs s := by
  refine W.item k s _ _ hk hst fun v h' tk hp hst' hk' => ?_
  obtain ⟨o, T, e1, e2, e3⟩ := hown h' hst'
  obtain ⟨g1, g2⟩ := grow_off (h0 := h0) Iv off nc hk'
  exact own_other (s := { s with heap := h', toks := tk }) e1 e2 e3 (hs v h' tk hp g1 hst' g2)
theorem turn_end {m : Nat} {P : Nat → Value → Prop} {St : Nat → Heap → Prop} {I : Addr} {fp : List Addr} {tgt : Expr} {Qn : Shared → Prop} {Qs : Value → Shared → Prop} (W : Walks PySem.Challenge.rw_hf0007_01.prog w A I fp [I] m P St) (hst : St m s.heap)
    (off : Off π h0 ρ I) (nc : ∀ q, ¬ s.heap.CodeRec (.ref I) q) (Iv : Inv π ρ H s.heap)
    (hs : ∀ h' tk, Inv π ρ H h' → Kept h0 s.heap h' → Qn { s with heap := h', toks := tk }) : Turn w A I tgt Qn Qs s := by
  refine W.done s _ _ hst fun h' tk hk' => ?_
  obtain ⟨g1, g2⟩ := grow_off (h0 := h0) Iv off nc hk'
  exact hs h' tk g1 g2

theorem next_sound (S : Sig π) (R : Room n A) {src : Src} {k : Nat} {r : Option It} {I : Addr} {tg : TG} {tgt : Expr} {Qn : Shared → Prop} {Qs : Value → Shared → Prop} {sc : Scope} (en : nextIt H src k = some r) (Iv : Inv π ρ H s.heap) (T : ItR π h0 ρ s.heap src k I)
    (tr : TgR sc tg tgt) (hb : ∀ it, r = some it → ∃ e H1, bindT e H tg it = some H1)
    (hn : r = none → ∀ h' tk, Inv π ρ H h' → Kept h0 s.heap h' → Qn { s with heap := h', toks := tk })
    (hs : ∀ it, r = some it → ∀ cv h' tk, ItV π ρ h' it cv → Inv π ρ H h' → ItR π h0 ρ h' src (k + 1) I → Kept h0 s.heap h' → Qs cv { s with heap := h', toks := tk }) : Turn w A I tgt Qn Qs s := by
  obtain ⟨off, T⟩ := T
  cases src with
  | list i =>
    obtain ⟨a, ea, hit⟩ := T
    replace en := bL_some en
    obtain ⟨pl, vs, ei, en⟩ := en
    obtain ⟨b, cvs, eb, la, _, xa⟩ := Iv.list ei
    rw [ea] at eb; cases eb
    have hne : a ≠ I := fun q => off.nin (q ▸ List.mem_of_getElem? ea)
    have nc : ∀ q, ¬ s.heap.CodeRec (.ref I) q := by
      obtain ⟨o, ho, hc, hd⟩ := hit
      exact nocode_cls ho hd (by simp)
    have W := Walks.list (prog := PySem.Challenge.rw_hf0007_01.prog) (w := w) (A := A) R.hd I a hne cvs.toArray
    have hlen := xa.length
    cases hv : vs[k]? with
    | some v =>
      rw [hv] at en
      cases en
      obtain ⟨c, hc, hvc⟩ := xa.get hv
      have hlt : k < cvs.toArray.size := by rw [List.size_toArray]; exact (List.getElem?_eq_some_iff.mp hc).1
      refine turn_item (h0 := h0) W hlt ⟨hit, la⟩ off nc Iv (fun h' x => ?_) fun cv h' tk hp g1 g2 g3 => ?_
      · obtain ⟨⟨o, ho, hcl, _⟩, _⟩ := x
        exact ⟨o, _, ho, hcl, by decide⟩
      · have : cv = c := by
          have hp' : cvs[k]? = some cv := by simpa using hp
          rw [hc] at hp'; exact (Option.some.inj hp').symm
        subst this
        exact hs _ rfl cv h' tk hvc g1 ⟨off, a, ea, g2.1⟩ g3
    | none =>
      rw [hv] at en
      cases en
      have hge : vs.length ≤ k := List.getElem?_eq_none_iff.mp hv
      have hx : cvs.toArray[k]? = none := by simp; omega
      refine wpAny_pyNext_list_end R.hd hit la hx fun h' hk => ?_
      obtain ⟨g1, g2⟩ := grow_off (h0 := h0) Iv off nc (fun b o hb e => hk b o (fun q => hb (by simp [q])) e)
      exact hn rfl h' s.toks g1 g2
  | tup i =>
    obtain ⟨a, ea, hit⟩ := T
    replace en := bT_some en
    obtain ⟨vs, ei, en⟩ := en
    obtain ⟨b, cvs, nn, eb, ho, xa⟩ := Iv.tuple ei
    rw [ea] at eb; cases eb
    have la : s.heap.IsTuple a cvs.toArray := ⟨_, ho, rfl, nn, rfl⟩
    have hne : a ≠ I := fun q => off.nin (q ▸ List.mem_of_getElem? ea)
    have nc : ∀ q, ¬ s.heap.CodeRec (.ref I) q := by
      obtain ⟨o, ho, hc, hd⟩ := hit
      exact nocode_cls ho hd (by simp)
    have W := Walks.tuple (prog := PySem.Challenge.rw_hf0007_01.prog) (w := w) (A := A) R.hd I a hne cvs.toArray
    have hlen := xa.length
    cases hv : vs[k]? with
    | some v =>
      rw [hv] at en
      cases en
      obtain ⟨c, hc, hvc⟩ := xa.get hv
      have hlt : k < cvs.toArray.size := by rw [List.size_toArray]; exact (List.getElem?_eq_some_iff.mp hc).1
      refine turn_item (h0 := h0) W hlt ⟨hit, la⟩ off nc Iv (fun h' x => ?_) fun cv h' tk hp g1 g2 g3 => ?_
      · obtain ⟨⟨o, ho, hcl, _⟩, _⟩ := x
        exact ⟨o, _, ho, hcl, by decide⟩
      · have : cv = c := by
          have hp' : cvs[k]? = some cv := by simpa using hp
          rw [hc] at hp'; exact (Option.some.inj hp').symm
        subst this
        exact hs _ rfl cv h' tk hvc g1 ⟨off, a, ea, g2.1⟩ g3
    | none =>
      rw [hv] at en
      cases en
      have hge : vs.length ≤ k := List.getElem?_eq_none_iff.mp hv
      have hx : cvs.toArray[k]? = none := by simp; omega
      refine wpAny_pyNext_tuple_end R.hd hit la hx fun h' hk => ?_
      obtain ⟨g1, g2⟩ := grow_off (h0 := h0) Iv off nc (fun b o hb e => hk b o (fun q => hb (by simp [q])) e)
      exact hn rfl h' s.toks g1 g2
  | range a m =>
    obtain ⟨hit, hkm⟩ := T
    have nc : ∀ q, ¬ s.heap.CodeRec (.ref I) q := nocode_cls hit rfl (by simp [rawInt])
    have W := Walks.range (prog := PySem.Challenge.rw_hf0007_01.prog) (w := w) (A := A) R.hd I (a : Int) 1 m
    have en : sel (decide (k < m)) (some (some (It.one (.int [((a + k : Nat) : Int)])))) (some none) = some r := en
    cases hk : decide (k < m) with
    | true =>
      rw [hk] at en
      have hk := of_decide_eq_true hk
      cases en
      refine turn_item (h0 := h0) W hk hit off nc Iv (fun h' x => ⟨_, _, x, rfl, by decide⟩) fun cv h' tk hp g1 g2 g3 => ?_
      obtain ⟨t, rfl⟩ := hp
      exact hs _ rfl _ h' tk ⟨t, by rw [lv_one S.one]; congr 1; omega⟩ g1 ⟨off, g2, hk⟩ g3
    | false =>
      rw [hk] at en
      have hk := of_decide_eq_false hk
      cases en
      have hkm : k = m := by omega
      subst hkm
      exact turn_end (h0 := h0) W hit off nc Iv fun h' tk g1 g2 => hn rfl h' tk g1 g2
  | rev i m =>
    obtain ⟨a, ea, hkm, hit⟩ := T
    replace en := bL_some en
    obtain ⟨pl, vs, ei, en⟩ := en
    obtain ⟨b, cvs, eb, la, _, xa⟩ := Iv.list ei
    rw [ea] at eb; cases eb
    have hne : a ≠ I := fun q => off.nin (q ▸ List.mem_of_getElem? ea)
    have nc : ∀ q, ¬ s.heap.CodeRec (.ref I) q := by
      obtain ⟨o, ho, hc, hd⟩ := hit
      exact nocode_cls ho hd (by simp [rawInt])
    have W := Walks.listRev (prog := PySem.Challenge.rw_hf0007_01.prog) (w := w) (A := A) R.hd I a hne cvs.toArray
    have hlen := xa.length
    replace en := gd_some en
    obtain ⟨hm, en⟩ := en
    have hm : vs.length = m := by simpa using hm
    subst hm
    have hst : k ≤ cvs.toArray.size ∧ s.heap.IsRevIter I a ((cvs.toArray.size : Int) - 1 - (k : Int)) ∧ s.heap.IsList a cvs.toArray := by
      rw [List.size_toArray, ← hlen]; exact ⟨hkm, hit, la⟩
    cases hv : vs.reverse[k]? with
    | some v =>
      rw [hv] at en
      cases en
      obtain ⟨c, hc, hvc⟩ := xa.reverse.get hv
      have hk : k < vs.length := by have := (List.getElem?_eq_some_iff.mp hv).1; rwa [List.length_reverse] at this
      have hlt : k < cvs.toArray.size := by rw [List.size_toArray]; omega
      refine turn_item (h0 := h0) W hlt hst off nc Iv (fun h' x => ?_) fun cv h' tk hp g1 g2 g3 => ?_
      · obtain ⟨_, ⟨o, ho, hcl, _⟩, _⟩ := x
        exact ⟨o, _, ho, hcl, by decide⟩
      · have : cv = c := by
          rw [List.getElem?_reverse (by omega)] at hc
          have hp' : cvs[cvs.length - 1 - k]? = some cv := by simpa using hp
          rw [hc] at hp'; exact (Option.some.inj hp').symm
        subst this
        refine hs _ rfl cv h' tk hvc g1 ⟨off, a, ea, hk, ?_⟩ g3
        have := g2.2.1
        rwa [List.size_toArray, ← hlen] at this
    | none =>
      rw [hv] at en
      cases en
      have hge : vs.length ≤ k := by have := List.getElem?_eq_none_iff.mp hv; rwa [List.length_reverse] at this
      have hk : k = cvs.toArray.size := by rw [List.size_toArray]; omega
      rw [hk] at hst
      exact turn_end (h0 := h0) W hst off nc Iv fun h' tk g1 g2 => hn rfl h' tk g1 g2
  | enu i =>
    obtain ⟨a, it, off2, hne2, ea, ⟨old, he⟩, hit⟩ := T
    replace en := bL_some en
    obtain ⟨pl, vs, ei, en⟩ := en
    obtain ⟨b, cvs, eb, la, _, xa⟩ := Iv.list ei
    rw [ea] at eb; cases eb
    have hne : a ≠ I := fun q => off.nin (q ▸ List.mem_of_getElem? ea)
    have hne3 : a ≠ it := fun q => off2.nin (q ▸ List.mem_of_getElem? ea)
    have nc : ∀ q, ¬ s.heap.CodeRec (.ref I) q := nocode_cls he rfl (by simp)
    have nc2 : ∀ q, ¬ s.heap.CodeRec (.ref it) q := by
      obtain ⟨o, ho, hc, hd⟩ := hit
      exact nocode_cls ho hd (by simp)
    have W := WalksT.enumerate (prog := PySem.Challenge.rw_hf0007_01.prog) (w := w) (A := A) R.hd I it a hne2 hne hne3 cvs.toArray
    have hlen := xa.length
    have grow2 : ∀ {h' : Heap}, (∀ b o, b ∉ [I, it] → s.heap.get? b = some o → h'.get? b = some o) → Inv π ρ H h' ∧ Kept h0 s.heap h' := fun {h'} hk => by
      refine ⟨Iv.grow_but (wr := [I, it]) (fun b hb => ?_) hk, fun b o e1 e2 => hk b o (fun m => ?_) e2⟩
      · rcases List.mem_cons.mp hb with rfl | hb
        · exact ⟨off.nin, off.hb, nc⟩
        · rw [List.mem_singleton.mp hb]; exact ⟨off2.nin, off2.hb, nc2⟩
      · rcases List.mem_cons.mp m with rfl | m
        · rw [off.h0] at e1; cases e1
        · rw [List.mem_singleton.mp m, off2.h0] at e1; cases e1
    cases hv : vs[k]? with
    | some v =>
      rw [hv] at en
      cases en
      obtain ⟨c, hc, hvc⟩ := xa.get hv
      have hlt : k < cvs.toArray.size := by rw [List.size_toArray]; exact (List.getElem?_eq_some_iff.mp hc).1
      obtain ⟨e', H1, hb⟩ := hb _ rfl
      cases tr with
      | one _ => cases hb
      | tup rs =>
        refine W.item k s _ _ hlt ⟨⟨old, he⟩, hit, la⟩ fun T vals h1 tk hp hT hIT hMid hk1 => ?_
        obtain ⟨t, x, hx, rfl⟩ := hp
        have hxc : x = c := by
          have hp' : cvs[k]? = some x := by simpa using hx
          rw [hc] at hp'; exact (Option.some.inj hp').symm
        subst hxc
        refine W.go _ _ _ k T { s with heap := h1, toks := tk } _ _ hMid fun h2 hst2 hk2 => ?_
        obtain ⟨g1, g2⟩ := grow2 (h' := h2) fun b o hb e => hk2 b o hb (hk1 b o hb e)
        obtain ⟨he2, hit2, _⟩ := hst2
        have hT2 : h2.IsTuple T [Value.int (k : Int) t, x].toArray := by
          obtain ⟨o, e1, e2, e3⟩ := hIT
          exact ⟨o, hk2 T o (W.apart _ _ _ hMid) e1, e2, e3⟩
        exact hs _ rfl (.ref T) h2 tk ⟨T, _, rfl, hT2, ⟨t, by rw [lv_one S.one]⟩, hvc, trivial⟩ g1 ⟨off, a, it, off2, hne2, ea, he2, hit2⟩ g2
    | none =>
      rw [hv] at en
      cases en
      have hge : vs.length ≤ k := List.getElem?_eq_none_iff.mp hv
      have hx : cvs.toArray[k]? = none := by simp; omega
      refine wpAny_pyNext_enum_end R.hd he hit la hx fun h' hk => ?_
      obtain ⟨g1, g2⟩ := grow2 (h' := h') fun b o hb e => hk b o (fun q => hb (by simp [q])) e
      exact hn rfl h' s.toks g1 g2

theorem bind_sound (R : Room n A) {tg : TG} {tgt : Expr} {it : It} {cv : Value} {Q : Unit → Shared → Prop} (eb : bindT e H tg it = some H') (I : Inv π ρ H s.heap) (N : EnvR π ρ e env) (tr : TgR (π.scs e.sc) tg tgt) (x : ItV π ρ s.heap it cv)
    (hQ : OnH π ρ s H' (Q ())) : wpAny (MM w) A (assign tgt env cv) Q NoE s := by
  cases tr with
  | one r =>
    cases it with
    | one v =>
      refine wpAny_assign_Name (store_sound (e := e) eb I N r x hQ)
    | tup vs => cases eb
  | tup rs =>
    cases it with
    | one v =>
      obtain ⟨j, rfl, k1⟩ := bRf_some eb
      obtain ⟨vs, ej, k2⟩ := bT_some k1
      obtain ⟨a, cvs, nn, ea, ho, xa⟩ := I.tuple ej
      have x : VR π ρ (.ref j) cv := x
      cases x.ref_at ea
      exact unpack_sound R rs k2 I N ⟨_, ho, rfl, nn, rfl⟩ xa hQ
    | tup vs =>
      obtain ⟨T, cvs, rfl, hT, xa⟩ := x
      exact unpack_sound R rs eb I N hT xa hQ
end
end Mine

namespace Mine
/-- what a nested def's text says -/
structure NS where
  name : Str
  params : Arguments
  body : List Stmt
  scope : Scope
  pos : Pos
/-- the functions' places, and the constant -/
noncomputable def fnsT : List (Str × Nat) := [("add_func_stats", 21), ("add_callers", 28), ("_div2n1n", 35), ("_int2digits", 49), ("_digits2int", 56), ("_divmod_pos", 63), ("int_divmod", 70), ("_law_players", 75), ("_law_parts", 80), ("_law_own", 85)]
noncomputable def gisT : List (Str × Int) := [("_DIV_LIMIT", 4000)]
/-- what the texts say -/
structure Static where
  scs : List Scope
  defs : List NS
noncomputable def BI.str : BI → Str
  | .len => "len" | .sum => "sum" | .range => "range" | .int => "int" | .divmod => "divmod"
noncomputable def relabelS (scope outer : Scope) : Scope :=
  { scope with names := scope.names.map fun (n, k) => if (k == .free && outer.kind == .function && outer.names.lookup n == some .cell) then (n, .cell) else (n, k) }
/-- where a block's free names lie in the block around it -/
inductive FrR (outer : Scope) : List (Str × NameKind) → List (Option Nat) → Prop
  | nil : FrR outer [] []
  | skip {nm : Str} {k : NameKind} {r : List (Str × NameKind)} {fr : List (Option Nat)} : (k == NameKind.free) = false → FrR outer r fr → FrR outer ((nm, k) :: r) (none :: fr)
  | free {nm : Str} {k : NameKind} {x : Nat} {r : List (Str × NameKind)} {fr : List (Option Nat)} : outer.names[x]? = some (nm, k) → FrR outer r fr → FrR outer ((nm, .free) :: r) (some x :: fr)
inductive StosR (sc : Scope) : List Var → List Str → Prop
  | nil : StosR sc [] []
  | cons {x : Var} {nm : Str} {xs : List Var} {nms : List Str} : StoR sc x nm → StosR sc xs nms → StosR sc (x :: xs) (nm :: nms)
noncomputable def scOf (st : Static) (i : Nat) : Scope := st.scs.getD i default
mutual
inductive TrE (st : Static) : Scope → X → Expr → Prop
  | cint {S : Scope} {i : Int} {k : Nat} {pos : Pos} : TrE st S (.cint i) (.Constant (.int i) k pos)
  | cbool {S : Scope} {b : Bool} {k : Nat} {pos : Pos} : TrE st S (.cbool b) (.Constant (.bool b) k pos)
  | cnone {S : Scope} {k : Nat} {pos : Pos} : TrE st S .cnone (.Constant .none k pos)
  | var {S : Scope} {x : Var} {nm : Str} {pos : Pos} : VarR S x nm → TrE st S (.var x) (.Name nm pos)
  | gint {S : Scope} {i : Int} {nm : Str} {pos : Pos} : gisT.lookup nm = some i → S.names.lookup nm = some .globalImplicit → (nm == ("__debug__" : Str)) = false → TrE st S (.gint i) (.Name nm pos)
  | list {S : Scope} {es : List X} {l : List Expr} {pos : Pos} : TrEs st S es l → TrE st S (.list es) (.List l pos)
  | tup {S : Scope} {es : List X} {l : List Expr} {k : Nat} {pos : Pos} : TrEs st S es l → TrE st S (.tup es) (.Tuple l k pos)
  | dict0 {S : Scope} {pos : Pos} : TrE st S .dict0 (.Dict [] [] pos)
  | bin {S : Scope} {o : Op} {a b : X} {l r : Expr} {pos : Pos} : TrE st S a l → TrE st S b r → TrE st S (.bin o a b) (.BinOp l o.py r pos)
  | cmp {S : Scope} {o : Cm} {a b : X} {l r : Expr} {pos : Pos} : behindInMarks o.py r = false → TrE st S a l → TrE st S b r → TrE st S (.cmp o a b) (.Compare l [o.py] [r] pos)
  | band {S : Scope} {es : List X} {l : List Expr} {pos : Pos} : TrEs st S es l → TrE st S (.band es) (.BoolOp .And l pos)
  | bor {S : Scope} {es : List X} {l : List Expr} {pos : Pos} : TrEs st S es l → TrE st S (.bor es) (.BoolOp .Or l pos)
  | ife {S : Scope} {t a b : X} {t' a' b' : Expr} {pos : Pos} : TrE st S t t' → TrE st S a a' → TrE st S b b' → TrE st S (.ife t a b) (.IfExp t' a' b' pos)
  | item {S : Scope} {o i : X} {o' i' : Expr} {pos : Pos} : (∀ a b, subscripted i' false a b = operate [a, b] (getItem a b)) → TrE st S o o' → TrE st S i i' → TrE st S (.item o i) (.Subscript o' i' pos)
  | upto {S : Scope} {o u : X} {o' u' : Expr} {p pos : Pos} : TrE st S o o' → TrE st S u u' → TrE st S (.upto o u) (.Subscript o' (.Slice none (some u') none p) pos)
  | callG {S : Scope} {f : Nat} {as : List X} {nm : Str} {l : List Expr} {p pos : Pos} : fnsT.lookup nm = some f → S.names.lookup nm = some .globalImplicit → (nm == ("__debug__" : Str)) = false → TrEs st S as l → TrE st S (.callG f as) (.Call (.Name nm p) l [] pos)
  | callC {S : Scope} {x : Var} {as : List X} {nm : Str} {l : List Expr} {p pos : Pos} : VarR S x nm → TrEs st S as l → TrE st S (.callC x as) (.Call (.Name nm p) l [] pos)
  | bi {S : Scope} {b : BI} {as : List X} {l : List Expr} {p pos : Pos} : S.names.lookup b.str = some .globalImplicit → (b.str == ("__debug__" : Str)) = false → TrEs st S as l → TrE st S (.bi b as) (.Call (.Name b.str p) l [] pos)
  | meth {S : Scope} {o : X} {m : ME} {as : List X} {o' : Expr} {l : List Expr} {apos pos : Pos} :
      (∀ env, ∃ pl, eval (.Call (.Attribute o' m.name apos) l [] pos) env = (do
        let ov ← eval o' env
        standAt apos.atName
        let (f, first) ← holding [ov] (getMethod ov m.name pl)
        callWith pos f first (backTo pos (starEach l env)) [])) → TrE st S o o' → TrEs st S as l → TrE st S (.meth o m as) (.Call (.Attribute o' m.name apos) l [] pos)
  | comp {S : Scope} {c nn : Nat} {fr : List (Option Nat)} {tg : TG} {sk : SK} {src elt : X} {ift : Option X} {scope : Scope} {tgt iter elt' : Expr} {ifs : List Expr} {pos : Pos} :
      scOf st c = relabelS scope S → nn = scope.names.length → scope.kind = .function → (scope.names.map (·.1)).Nodup → (∀ y ∈ scope.names, y.2 ≠ .cell) → (∀ y ∈ scope.names, y.2 = .local → scope.names.lookup y.1 = some .local) → (∀ env x, foldedSetIterable iter env x = pure x) →
      FrR S scope.names fr → TrSrc st S sk src iter → TgR (relabelS scope S) tg tgt → TrIf st (relabelS scope S) ift ifs → TrE st (relabelS scope S) elt elt' →
      TrE st S (.comp c nn fr tg sk src ift elt) (.ListComp elt' [⟨tgt, iter, ifs, 0⟩] scope pos)
  | src7 {S : Scope} {x : Var} {nm : Str} {k1 k2 k3 : Nat} {p1 p2 p3 p4 p5 p6 p7 p8 pos : Pos} : VarR S x nm →
      TrE st S (.src7 x) (.Subscript (.BinOp (.Name nm p1) .Add (.BinOp (.List [.Constant (.int 0) k1 p2] p3) .Mult (.Constant (.int 7) k2 p4) p5) p6) (.Slice none (some (.Constant (.int 7) k3 p7)) none p8) pos)
  | bad {S : Scope} {e : Expr} : TrE st S .bad e
inductive TrEs (st : Static) : Scope → List X → List Expr → Prop
  | nil {S : Scope} : TrEs st S [] []
  | cons {S : Scope} {x : X} {e : Expr} {xs : List X} {es : List Expr} : TrE st S x e → TrEs st S xs es → TrEs st S (x :: xs) (e :: es)
inductive TrSrc (st : Static) : Scope → SK → X → Expr → Prop
  | plain {S : Scope} {x : X} {e : Expr} : TrE st S x e → TrSrc st S .plain x e
  | rev {S : Scope} {x : X} {e : Expr} {p pos : Pos} : S.names.lookup ("reversed" : Str) = some .globalImplicit → TrE st S x e → TrSrc st S .rev x (.Call (.Name "reversed" p) [e] [] pos)
  | enu {S : Scope} {x : X} {e : Expr} {p pos : Pos} : S.names.lookup ("enumerate" : Str) = some .globalImplicit → TrE st S x e → TrSrc st S .enu x (.Call (.Name "enumerate" p) [e] [] pos)
inductive TrIf (st : Static) : Scope → Option X → List Expr → Prop
  | none {S : Scope} : TrIf st S none []
  | some {S : Scope} {x : X} {e : Expr} : TrE st S x e → TrIf st S (some x) [e]
end
mutual
inductive TrS (st : Static) : Scope → XS → Stmt → Prop
  | assign {S : Scope} {x : Var} {y : X} {nm : Str} {e : Expr} {p pos : Pos} : (∀ env : Env, env.scope = S → swapsWith e (some (.Name nm p)) pos.line env = pure false) → StoR S x nm → TrE st S y e → TrS st S (.assign x y) (.Assign [.Name nm p] e pos)
  | assignC {S : Scope} {x : Var} {c nn : Nat} {fr : List (Option Nat)} {tg : TG} {sk : SK} {src elt : X} {ift : Option X} {nm : Str} {e : Expr} {p pos : Pos} : (∀ env : Env, env.scope = S → swapsWith e (some (.Name nm p)) pos.line env = pure true) → StoR S x nm →
      TrE st S (.comp c nn fr tg sk src ift elt) e → TrS st S (.assign x (.comp c nn fr tg sk src ift elt)) (.Assign [.Name nm p] e pos)
  | assignT {S : Scope} {xs : List Var} {y : X} {es : List Expr} {e : Expr} {k : Nat} {p pos : Pos} : (∀ env : Env, swapsWithSole [.Tuple es k p] e pos.line env = pure false) →
      (∀ env : Env, env.scope = S → swappedStores [.Tuple es k p] e env = pure none) → NamesR S xs es → TrE st S y e → TrS st S (.assignT xs y) (.Assign [.Tuple es k p] e pos)
  | assignR {S : Scope} {xs : List Var} {y : X} {nms : List Str} {es : List Expr} {e : Expr} {k : Nat} {p pos : Pos} : (∀ env : Env, swapsWithSole [.Tuple es k p] e pos.line env = pure false) →
      (∀ env : Env, env.scope = S → swappedStores [.Tuple es k p] e env = pure (some nms)) → StosR S xs nms → TrE st S y e → TrS st S (.assignR xs y) (.Assign [.Tuple es k p] e pos)
  | assignI {S : Scope} {o i y : X} {o' i' e : Expr} {p pos : Pos} : (∀ env, swapsWith e (some (.Subscript o' i' p)) pos.line env = pure false) → TrE st S o o' → TrE st S i i' → TrE st S y e → TrS st S (.assignI o i y) (.Assign [.Subscript o' i' p] e pos)
  | ret {S : Scope} {y : X} {e : Expr} {pos : Pos} : TrE st S y e → TrS st S (.ret y) (.Return (some e) pos)
  | retNone {S : Scope} {pos : Pos} : TrS st S .retNone (.Return none pos)
  | expr {S : Scope} {y : X} {e : Expr} {pos : Pos} : (∀ env, swapsWith e none pos.line env = pure false) → TrE st S y e → TrS st S (.expr y) (.Expr e pos)
  | ifNot {S : Scope} {ts : List X} {l : List Expr} {b : List Stmt} {p pos : Pos} : TrEs st S ts l → TrS st S (.ifNot ts) (.If (.BoolOp .And l p) b [] pos)
  | ite {S : Scope} {t : X} {a b : List XS} {t' : Expr} {a' b' : List Stmt} {pos : Pos} : TrE st S t t' → TrB st S a a' → TrB st S b b' → TrS st S (.ite t a b) (.If t' a' b' pos)
  | for_ {S : Scope} {tg : TG} {sk : SK} {src : X} {body : List XS} {tgt iter : Expr} {body' : List Stmt} {pos : Pos} : (∀ env x, foldedSetIterable iter env x = pure x) → TgR S tg tgt → TrSrc st S sk src iter → TrB st S body body' →
      TrS st S (.for_ tg sk src body) (.For tgt iter body' [] pos)
  | forItems {S : Scope} {x : Nat} {nm xk xv : Str} {body' : List Stmt} {x1 : Nat} {p pk pv pt apos cpos pos : Pos} : (apos.endLine == cpos.line) = true → VarR S (.loc x) nm → S.names.lookup xk = some .local → S.names.lookup xv = some .local →
      TrS st S (.forItems (.loc x)) (.For (.Tuple [.Name xk pk, .Name xv pv] x1 pt) (.Call (.Attribute (.Name nm p) "items" apos) [] [] cpos) body' [] pos)
  | def_ {S : Scope} {x : Var} {f : Nat} {cl : List (Option Nat)} {name : Str} {params : Arguments} {body : List Stmt} {scope : Scope} {pos : Pos} : st.defs[f]? = some ⟨name, params, body, scope, pos⟩ → S.names.lookup name ≠ some .globalExplicit → params.defaults = [] → params.kw_defaults = [] → (∀ env, annTrees params none env = []) →
      StoR S x name → FrR S scope.names cl →
      TrS st S (.def_ x f cl) (.FunctionDef name params body [] none [] scope none name pos)
  | bad {S : Scope} {s : Stmt} : TrS st S .bad s
inductive TrB (st : Static) : Scope → List XS → List Stmt → Prop
  | nil {S : Scope} : TrB st S [] []
  | cons {S : Scope} {x : XS} {s : Stmt} {xs : List XS} {ss : List Stmt} : TrS st S x s → TrB st S xs ss → TrB st S (x :: xs) (s :: ss)
end
end Mine

namespace Mine
structure Ctx (w : World) (π : Par) (mg mb : Str → Option Value) (st : Static) (P : Prm) (K : Nat) : Prop where
  base : Base π mg mb
  scs : ∀ i, π.scs i = scOf st i
  fn : ∀ nm f, fnsT.lookup nm = some f → mg nm = some (.ref f) ∧ ∃ o fd, π.hb.get? f = some o ∧ o.data = .func fd
  gi : ∀ nm i, gisT.lookup nm = some i → ∃ t, mg nm = some (.int i t)
  bi : ∀ b : BI, mg b.str = none ∧ mb b.str = some b.val
  rev : mg "reversed" = none ∧ mb "reversed" = some (.type "reversed")
  enu : mg "enumerate" = none ∧ mb "enumerate" = some (.type "enumerate")
  bm : ∃ bm ob, mg "__builtins__" = some (.ref bm) ∧ bm ≠ builtinsNs ∧ bm ≠ mainGlobals ∧ π.hb.get? bm = some ob ∧ ob.cls = .type "module" ∧ ob.dict = some builtinsNs ∧ ob.data = .plain
  prim : ∀ f vs H v H', P.prim f vs H = some (v, H') → ∀ A s ρ cvs Q, Room K A → Inv π ρ H s.heap → VRs π ρ vs cvs → OnV π ρ s H' v Q → wpAny (MM w) A (call (.ref f) cvs) Q NoE s
  known : ∀ l ∈ P.known, ¬ ∀ q ∈ l, (q.1 = true → lv π.σ 0 q.2 = 0) ∧ (q.1 = false → lv π.σ 0 q.2 ≠ 0)
  defs : ∀ (f : Nat) (d : NS), st.defs[f]? = some d → (π.ni f).name = d.name ∧ (π.ni f).params = d.params ∧ (π.ni f).body = d.body ∧ (π.ni f).scope = d.scope ∧ (π.ni f).pos = d.pos ∧ CodeHd π.hb (π.ni f).c (π.ni f).P
  clos : ∀ f F, P.fns f = some F → scOf st F.sc = (π.ni f).scope ∧ TrB st (π.ni f).scope F.body (π.ni f).body ∧ F.nn = (π.ni f).scope.names.length ∧ (π.ni f).scope.kind = .function ∧ ((π.ni f).scope.names.map (·.1)).Nodup ∧ (∀ y ∈ (π.ni f).scope.names, y.2 ≠ .cell) ∧
    (π.ni f).scope.isCoroutine = false ∧ (π.ni f).scope.isGenerator = false ∧ ∃ ps : List Str, ps.length = F.np ∧ (∀ (i : Nat) (nm : Str), ps[i]? = some nm → (π.ni f).scope.names[i]? = some (nm, .local) ∧ (π.ni f).scope.names.lookup nm = some .local) ∧
    ∀ cs : List Value, cs.length = F.np → ∀ (s : Shared) (cl : List (Str × Addr)) (doc pm cdv ct : Value), BindsTo s (fnX (π.ni f).name (π.ni f).qual (π.ni f).params (π.ni f).body (π.ni f).scope cl .none .none doc pm none cdv ct) ⟨cs, []⟩ (ps.zip cs)
  scr : P.scr = true → ∃ a cvs ns, π.sv = .ref a ∧ π.hb.IsList a (List.toArray cvs) ∧ IntsAre cvs ns ∧ ns.length ≤ 63 ∧ ∀ i, i < 7 → (ns ++ List.replicate 7 0)[i]? = some (π.raw i) ∧ π.σ (i + 1) = (π.raw i).fmod 10

noncomputable def OutR (π : Par) (ρ : List Addr) : Out → Flow → Prop
  | .nx, .next => True
  | .rt v, .ret c => VR π ρ v c
  | _, _ => False
/-- behind a statement -/
noncomputable abbrev OnS (π : Par) (ρ : List Addr) (s : Shared) (H' : AH) (o : Out) (Q : Flow → Shared → Prop) : Prop :=
  ∀ ρ' f h' tk', OutR π ρ' o f → Inv π ρ' H' h' → Ext ρ s.heap ρ' h' → Q f { s with heap := h', toks := tk' }
noncomputable abbrev OnVs (π : Par) (ρ : List Addr) (s : Shared) (H' : AH) (vs : List V) (Q : List Value → Shared → Prop) : Prop :=
  ∀ ρ' cvs h' tk', VRs π ρ' vs cvs → Inv π ρ' H' h' → Ext ρ s.heap ρ' h' → Q cvs { s with heap := h', toks := tk' }

structure SoundAt (w : World) (π : Par) (st : Static) (P : Prm) (K : Nat) (n : Nat) : Prop where
  E : ∀ e x H v H', run P n (.E e x) H = some (.v v, H') → ∀ ex, TrE st (scOf st e.sc) x ex → ∀ A s ρ env Q, Room (n + K) A → Inv π ρ H s.heap → EnvR π ρ e env → OnV π ρ s H' v Q → wpAny (MM w) A (eval ex env) Q NoE s
  Es : ∀ e xs H vs H', run P n (.Es e xs) H = some (.vs vs, H') → ∀ es, TrEs st (scOf st e.sc) xs es → ∀ A s ρ env Q, Room (n + K) A → Inv π ρ H s.heap → EnvR π ρ e env → OnVs π ρ s H' vs Q → wpAny (MM w) A (spliced (starEach es env)) Q NoE s
  T : ∀ e x H b H', run P n (.T e x) H = some (.b b, H') → ∀ ex, TrE st (scOf st e.sc) x ex → ∀ A s ρ env Q, Room (n + K) A → Inv π ρ H s.heap → EnvR π ρ e env → OnB π ρ s H' b Q → wpAny (MM w) A (isTrue ex env (eval ex env)) Q NoE s
  S : ∀ e x H o H', run P n (.S e x) H = some (o, H') → ∀ ss, TrS st (scOf st e.sc) x ss → ∀ A s ρ env Q, Room (n + K) A → Inv π ρ H s.heap → EnvR π ρ e env → OnS π ρ s H' o Q → wpAny (MM w) A (exec ss env) Q NoE s
  B : ∀ e x H o H', run P n (.B e x) H = some (o, H') → ∀ ss, TrB st (scOf st e.sc) x ss → ∀ A s ρ env Q, Room (n + K) A → Inv π ρ H s.heap → EnvR π ρ e env → OnS π ρ s H' o Q → wpAny (MM w) A (execs ss env) Q NoE s

theorem Room.le {n m : Nat} {A : Around} (R : Room n A) (h : m ≤ n) : Room m A := ⟨R.hd, by have := R.dp; omega, by have := R.un; omega⟩
theorem Room.units {n : Nat} {A : Around} (R : Room (n + 1) A) {A' : Around} (h1 : A'.handled = A.handled) (h2 : A'.depth = A.depth) (h3 : A'.units ≤ A.units + 4) : Room n A' := ⟨h1.trans R.hd, by have := R.dp; omega, by have := R.un; omega⟩
theorem star_plain {st : Static} {S : Scope} {x : X} {e : Expr} (h : TrE st S x e) (r : List Expr) (env : Env) (hb : x ≠ .bad) : starEach (e :: r) env = (false, eval e env) :: starEach r env := by
  cases h with
  | bad => exact absurd rfl hb
  | _ => rfl
section
variable {w : World} {π : Par} {A : Around} {s : Shared} {ρ ρ' : List Addr} {H H' : AH} {n K : Nat} {mg mb : Str → Option Value} {e : AEnv} {env : Env} {st : Static} {P : Prm}

theorem global_ok (C : Ctx w π mg mb st P K) (I : Inv π ρ H s.heap) (N : EnvR π ρ e env) {nm : Str} {v : Value} {pos : Pos} {Q : Value → Shared → Prop} (hl : (scOf st e.sc).names.lookup nm = some .globalImplicit) (hd : (nm == ("__debug__" : Str)) = false)
    (hv : mg nm = some v) (h : Q v s) : wpAny (MM w) A (eval (.Name nm pos) env) Q NoE s := by
  have hk : env.kindOf nm = some .globalImplicit := by rw [N.kindOf, C.scs]; exact hl
  have hg : s.heap.Ns env.globals mg := by rw [N.glob]; exact ns_at C.base.g fun o e => I.base _ _ e
  exact Name_function_global N.fn hk (loadGlobal_global hg hv h) hd
theorem builtin_ok (C : Ctx w π mg mb st P K) (I : Inv π ρ H s.heap) (N : EnvR π ρ e env) {nm : Str} {v : Value} {pos : Pos} {Q : Value → Shared → Prop} (hl : (scOf st e.sc).names.lookup nm = some .globalImplicit) (hd : (nm == ("__debug__" : Str)) = false)
    (hn : mg nm = none) (hv : mb nm = some v) (h : Q v s) : wpAny (MM w) A (eval (.Name nm pos) env) Q NoE s := by
  have hk : env.kindOf nm = some .globalImplicit := by rw [N.kindOf, C.scs]; exact hl
  have hg : s.heap.Ns env.globals mg := by rw [N.glob]; exact ns_at C.base.g fun o e => I.base _ _ e
  have hb : s.heap.Ns env.builtins mb := by rw [N.blt]; exact ns_at C.base.b fun o e => I.base _ _ e
  exact Name_function_global N.fn hk (loadGlobal_builtin hg hn hb hv h) hd

/-- a list of arguments, evaluated -/
theorem Es_step (hn : n = 0 ∨ ∃ m, n = m + 1 ∧ SoundAt w π st P K m) {xs : List X} {vs : List V} (er : run P n (.Es e xs) H = some (.vs vs, H')) {es : List Expr} (tr : TrEs st (scOf st e.sc) xs es) {Q : List Value → Shared → Prop} (R : Room (n + K) A) (I : Inv π ρ H s.heap) (N : EnvR π ρ e env)
    (hQ : OnVs π ρ s H' vs Q) : wpAny (MM w) A (spliced (starEach es env)) Q NoE s := by
  rcases hn with rfl | ⟨m, rfl, ih⟩
  · cases er
  · cases tr with
    | nil =>
      cases er
      exact spliced_nil (hQ ρ [] s.heap s.toks trivial I (.refl _ _))
    | cons t ts =>
      rename_i x e' xs es
      obtain ⟨v, H1, h1, k1⟩ := bV_some (show (bV (run P m (.E e x) H) fun v H1 => bVs (run P m (.Es e xs) H1) fun vs H2 => some (Out.vs (v :: vs), H2)) = some (.vs vs, H') from er)
      obtain ⟨us, H2, h2, k2⟩ := bVs_some k1
      cases k2
      have hb : x ≠ .bad := fun q => by subst q; cases m <;> cases h1
      rw [star_plain t _ _ hb]
      refine spliced_cons (ih.E _ _ _ _ _ h1 _ t _ _ _ _ _ (R.le (by omega)) I N fun ρ1 cv h' tk' hv I1 x1 => ?_)
      refine ih.Es _ _ _ _ _ h2 _ ts _ _ _ _ _ (R.le (by omega)) I1 (N.ext x1) fun ρ2 cvs h2' tk2 hvs I2 x2 => ?_
      exact hQ ρ2 (cv :: cvs) h2' tk2 ⟨x2.vr hv, hvs⟩ I2 (x1.trans x2)
theorem back_plain {es : List Expr} {xs : List X} {S : Scope} (pos : Pos) : TrEs st S xs es → (∀ x ∈ xs, x ≠ .bad) → backTo pos (starEach es env) = starEach es env ∧ (starEach es env).any (·.1) = false := by
  intro tr
  induction es generalizing xs with
  | nil => intro _; exact ⟨rfl, rfl⟩
  | cons e' es ih =>
    cases tr with
    | cons t ts =>
      intro hb
      obtain ⟨h1, h2⟩ := ih ts fun x m => hb x (List.mem_cons_of_mem _ m)
      rw [star_plain t _ _ (hb _ (List.mem_cons_self ..))]
      refine ⟨?_, by simpa using h2⟩
      show (false, eval e' env) :: backTo pos (starEach es env) = _
      rw [h1]
theorem Es_nobad : ∀ {xs : List X} {n : Nat} {H H' : AH} {vs : List V}, run P n (.Es e xs) H = some (.vs vs, H') → ∀ x ∈ xs, x ≠ .bad
  | [], _, _, _, _, _ => fun _ m => nomatch m
  | x :: xs, n, H, H', vs, h => by
    cases n with
    | zero => cases h
    | succ n =>
      obtain ⟨v, H1, h1, k1⟩ := bV_some (show (bV (run P n (.E e x) H) fun v H1 => bVs (run P n (.Es e xs) H1) fun vs H2 => some (Out.vs (v :: vs), H2)) = some (.vs vs, H') from h)
      obtain ⟨us, H2, h2, k2⟩ := bVs_some k1
      intro y hy
      rcases List.mem_cons.mp hy with rfl | hy
      · intro q; subst q; cases n <;> cases h1
      · exact Es_nobad h2 y hy
end
end Mine

namespace Mine
section
variable {w : World} {π : Par} {A : Around} {s : Shared} {ρ ρ' : List Addr} {H H' : AH} {n m K : Nat} {mg mb : Str → Option Value} {e : AEnv} {env : Env} {st : Static} {P : Prm}

/-- arguments of a call to a function or a method -/
theorem args_ok (ih : SoundAt w π st P K m) {as : List X} {vs : List V} (er : run P m (.Es e as) H = some (.vs vs, H')) {es : List Expr} (tr : TrEs st (scOf st e.sc) as es) {f : Value} {pos : Pos} {Q : Args → Shared → Prop} (R : Room (m + K) A) (I : Inv π ρ H s.heap) (N : EnvR π ρ e env)
    (hQ : OnVs π ρ s H' vs fun cvs s' => Q ⟨cvs, []⟩ s') : wpAny (MM w) A (evalArgs f true (backTo pos (starEach es env)) []) Q NoE s ∧ (backTo pos (starEach es env)).any (·.1) = false := by
  obtain ⟨h1, h2⟩ := back_plain (env := env) pos tr (Es_nobad er)
  rw [h1]
  refine ⟨?_, h2⟩
  have key := ih.Es _ _ _ _ _ er es tr A s ρ env (fun cvs s' => Q ⟨cvs, []⟩ s') R I N hQ
  cases tr with
  | nil =>
    have hv : vs = [] ∧ H' = H := by
      cases m with
      | zero => cases er
      | succ m => cases er; exact ⟨rfl, rfl⟩
    obtain ⟨rfl, rfl⟩ := hv
    exact evalArgs_nil3 (hQ ρ [] s.heap s.toks trivial I (.refl _ _))
  | cons t ts =>
    have hb := Es_nobad er _ (List.mem_cons_self ..)
    rw [star_plain t _ _ hb] at key ⊢
    exact evalArgs_plain key

theorem callWith_bi (b : BI) {pos : Pos} {args : List (Bool × Sem Value)} {Q : Value → Shared → Prop} (hp : args.any (·.1) = false) (h : wpAny (MM w) A (evalArgs b.val true args []) (fun a s₁ => wpAny (MM w) A (call b.val ([] ++ a.pos) a.kw) Q NoE s₁) NoE s) :
    wpAny (MM w) A (callWith pos b.val [] args []) Q NoE s := by
  cases b with
  | len => exact callWith_builtin hp h
  | sum => exact callWith_builtin hp h
  | range => exact PySem.callWith_type hp h
  | int => exact PySem.callWith_type hp h
  | divmod => exact callWith_builtin hp h
theorem EnvR.scs {C : Ctx w π mg mb st P K} (N : EnvR π ρ e env) : env.scope = scOf st e.sc := by rw [N.sc, C.scs]
/-- an expression but a comprehension or a call to a closure -/
theorem E_step (C : Ctx w π mg mb st P K) (ih : SoundAt w π st P K m) {x : X} {v : V} (er : run P (m + 1) (.E e x) H = some (.v v, H')) {ex : Expr} (tr : TrE st (scOf st e.sc) x ex) {Q : Value → Shared → Prop} (R : Room (m + 1 + K) A) (I : Inv π ρ H s.heap) (N : EnvR π ρ e env)
    (hQ : OnV π ρ s H' v Q)
    (hcomp : ∀ c nn fr tg sk src ift elt, x = .comp c nn fr tg sk src ift elt → wpAny (MM w) A (eval ex env) Q NoE s)
    (hcall : ∀ y as, x = .callC y as → wpAny (MM w) A (eval ex env) Q NoE s)
    (hsrc : ∀ y, x = .src7 y → wpAny (MM w) A (eval ex env) Q NoE s) : wpAny (MM w) A (eval ex env) Q NoE s := by
  have S := C.base.sig
  have R' : Room (m + K) A := R.le (by omega)
  replace er : stepE P (run P m) e x H = some (.v v, H') := er
  cases tr with
  | cint =>
    cases er
    exact wpAny_Constant_int (hQ ρ _ s.heap (s.toks + 1) ⟨s.toks, by rw [lv_one S.one]⟩ I (.refl _ _))
  | cbool => cases er; exact wpAny_Constant_bool (hQ ρ _ s.heap s.toks rfl I (.refl _ _))
  | cnone => cases er; exact wpAny_Constant_none (hQ ρ _ s.heap s.toks rfl I (.refl _ _))
  | var r =>
    obtain ⟨u, hu, k1⟩ := bO_some er
    cases k1
    rw [← C.scs] at r
    exact name_sound hu I N r hQ
  | gint h1 h2 h3 =>
    cases er
    obtain ⟨t, ht⟩ := C.gi _ _ h1
    exact global_ok C I N h2 h3 ht (hQ ρ _ s.heap s.toks ⟨t, by rw [lv_one S.one]⟩ I (.refl _ _))
  | list ts =>
    obtain ⟨vs, H1, h1, k1⟩ := bVs_some er
    obtain ⟨hl, k2⟩ := gd_some k1
    have hl := of_decide_eq_true hl
    cases k2
    refine wpAny_List ?_
    rw [(back_plain _ ts (Es_nobad h1)).1]
    refine ih.Es _ _ _ _ _ h1 _ ts _ _ _ _ _ R' I N fun ρ1 cvs h' tk' hv I1 x1 => ?_
    have hlen := hv.length
    have hp := I1.push (s := { s with heap := h', toks := tk' }) (o := .list true vs) (push_list hv.mono)
    refine ⟨by rw [sizeLine_eq]; omega, hQ _ _ _ _ (ref_new (s := { s with heap := h', toks := tk' }) I1 _) hp.1 (x1.trans hp.2)⟩
  | tup ts =>
    obtain ⟨vs, H1, h1, k1⟩ := bVs_some er
    obtain ⟨hl, k2⟩ := gd_some k1
    have hl := of_decide_eq_true hl
    cases k2
    refine wpAny_Tuple ?_
    rw [(back_plain _ ts (Es_nobad h1)).1]
    refine ih.Es _ _ _ _ _ h1 _ ts _ _ _ _ _ R' I N fun ρ1 cvs h' tk' hv I1 x1 => ?_
    have hlen := hv.length
    have hp := I1.push (s := { s with heap := h', toks := tk' }) (o := .tup vs) (push_tup hv.mono)
    refine ⟨by rw [sizeLine_eq]; omega, hQ _ _ _ _ (ref_new (s := { s with heap := h', toks := tk' }) I1 _) hp.1 (x1.trans hp.2)⟩
  | dict0 =>
    cases er
    have hp := I.push (ob := ({ cls := .type "dict", data := .dict #[] } : Obj)) (o := .dict0) ⟨_, Heap.get?_push_size _ rfl⟩
    exact wpAny_Dict_empty (hQ _ _ _ s.toks (ref_new I _) hp.1 hp.2)
  | bin t1 t2 =>
    obtain ⟨x1, H1, h1, k1⟩ := bV_some er
    obtain ⟨x2, H2, h2, k2⟩ := bV_some k1
    obtain ⟨⟨v3, H3⟩, h3, k3⟩ := bO_some k2
    cases k3
    refine wpAny_BinOp (ih.E _ _ _ _ _ h1 _ t1 _ _ _ _ _ R' I N fun ρ1 c1 h' tk' hv1 I1 e1 => ?_)
    refine ih.E _ _ _ _ _ h2 _ t2 _ _ _ _ _ R' I1 (N.ext e1) fun ρ2 c2 h2' tk2 hv2 I2 e2 => ?_
    exact evBin_sound (s := { s with heap := h2', toks := tk2 }) S h3 I2 (e2.vr hv1) hv2 fun ρ3 cv h3' tk3 hv3 I3 e3 => hQ ρ3 cv h3' tk3 hv3 I3 ((e1.trans e2).trans e3)
  | cmp hm t1 t2 =>
    obtain ⟨x1, H1, h1, k1⟩ := bV_some er
    obtain ⟨x2, H2, h2, k2⟩ := bV_some k1
    obtain ⟨b, hb, k3⟩ := bO_some k2
    cases k3
    refine wpAny_Compare1 (ih.E _ _ _ _ _ h1 _ t1 _ _ _ _ _ R' I N fun ρ1 c1 h' tk' hv1 I1 e1 => ?_) hm
    refine ih.E _ _ _ _ _ h2 _ t2 _ _ _ _ _ R' I1 (N.ext e1) fun ρ2 c2 h2' tk2 hv2 I2 e2 => ?_
    exact cmp2_sound (s := { s with heap := h2', toks := tk2 }) S R hb I2 (e2.vr hv1) hv2 fun ρ3 cv h3' tk3 hv3 I3 e3 => hQ ρ3 cv h3' tk3 hv3 I3 ((e1.trans e2).trans e3)
  | band _ => cases er
  | bor _ => cases er
  | ife t1 t2 t3 =>
    obtain ⟨c, H1, h1, er⟩ := bB_some er
    refine wpAny_IfExp (ih.T _ _ _ _ _ h1 _ t1 _ _ _ _ _ R' I N fun ρ1 h' tk' I1 e1 => ?_)
    cases c with
    | true => exact ih.E _ _ _ _ _ (show run P m (.E e _) H1 = some (.v v, H') from er) _ t2 _ _ _ _ _ R' I1 (N.ext e1) fun ρ2 c2 h2' tk2 hv2 I2 e2 => hQ ρ2 c2 h2' tk2 hv2 I2 (e1.trans e2)
    | false => exact ih.E _ _ _ _ _ (show run P m (.E e _) H1 = some (.v v, H') from er) _ t3 _ _ _ _ _ R' I1 (N.ext e1) fun ρ2 c2 h2' tk2 hv2 I2 e2 => hQ ρ2 c2 h2' tk2 hv2 I2 (e1.trans e2)
  | item hs t1 t2 =>
    obtain ⟨x1, H1, h1, k1⟩ := bV_some er
    obtain ⟨x2, H2, h2, k2⟩ := bV_some k1
    obtain ⟨v3, h3, k3⟩ := bO_some k2
    cases k3
    refine Subscript_ (ih.E _ _ _ _ _ h1 _ t1 _ _ _ _ _ R' I N fun ρ1 c1 h' tk' hv1 I1 e1 => ?_)
    refine ih.E _ _ _ _ _ h2 _ t2 _ _ _ _ _ R' I1 (N.ext e1) fun ρ2 c2 h2' tk2 hv2 I2 e2 => ?_
    exact item_sound (s := { s with heap := h2', toks := tk2 }) S h3 I2 (e2.vr hv1) hv2 hs fun ρ3 cv h3' tk3 hv3 I3 e3 => hQ ρ3 cv h3' tk3 hv3 I3 ((e1.trans e2).trans e3)
  | upto t1 t2 =>
    obtain ⟨x1, H1, h1, k1⟩ := bV_some er
    obtain ⟨x2, H2, h2, k2⟩ := bV_some k1
    obtain ⟨⟨v3, H3⟩, h3, k3⟩ := bO_some k2
    cases k3
    refine Subscript_ (ih.E _ _ _ _ _ h1 _ t1 _ _ _ _ _ R' I N fun ρ1 c1 h' tk' hv1 I1 e1 => ?_)
    refine wpAny_Slice ?_
    refine wpAny_pure ?_
    refine ih.E _ _ _ _ _ h2 _ t2 _ _ _ _ _ R' I1 (N.ext e1) fun ρ2 c2 h2' tk2 hv2 I2 e2 => ?_
    refine wpAny_pure ?_
    exact upto_sound (s := { s with heap := h2', toks := tk2 }) S h3 I2 (e2.vr hv1) hv2 (fun _ _ => rfl) fun ρ3 cv h3' tk3 hv3 I3 e3 => hQ ρ3 cv h3' tk3 hv3 I3 ((e1.trans e2).trans e3)
  | callG h1 h2 h3 ts =>
    obtain ⟨vs, H1, hes, k1⟩ := bVs_some er
    obtain ⟨⟨v3, H3⟩, hp, k2⟩ := bO_some k1
    cases k2
    obtain ⟨hg, o, fd, ho, hd⟩ := C.fn _ _ h1
    refine Call_ (global_ok C I N h2 h3 hg ?_)
    refine callWith_function (o := o) (fd := fd) ?_
    refine (args_ok ih hes ts R' I N fun ρ1 cvs h' tk' hv I1 e1 => ?_).1
    refine ⟨⟨I1.base _ _ ho, hd⟩, ?_⟩
    exact C.prim _ _ _ _ _ hp A { s with heap := h', toks := tk' } ρ1 cvs Q (R.le (by omega)) I1 hv fun ρ2 cv h2 tk2 hv2 I2 e2 => hQ ρ2 cv h2 tk2 hv2 I2 (e1.trans e2)
  | callC _ _ => exact hcall _ _ rfl
  | bi h1 h2 ts =>
    obtain ⟨vs, H1, hes, k1⟩ := bVs_some er
    obtain ⟨⟨v3, H3⟩, hp, k2⟩ := bO_some k1
    cases k2
    obtain ⟨hg, hb⟩ := C.bi _
    refine Call_ (builtin_ok C I N h1 h2 hg hb ?_)
    obtain ⟨k1, k2⟩ := args_ok (e := e) (s := s) (f := BI.val _) (Q := fun a s₁ => wpAny (MM w) A (call (BI.val _) ([] ++ a.pos) a.kw) Q NoE s₁) ih hes ts R' I N fun ρ2 cvs h2' tk2 hv2 I2 e2 =>
      evBI_sound (s := { s with heap := h2', toks := tk2 }) C.base R hp I2 hv2 fun ρ3 cv h3' tk3 hv3 I3 e3 => hQ ρ3 cv h3' tk3 hv3 I3 (e2.trans e3)
    exact callWith_bi _ k2 k1
  | meth he t1 ts =>
    obtain ⟨x1, H1, h1, k1⟩ := bV_some er
    obtain ⟨hok, k2⟩ := gd_some k1
    obtain ⟨vs, H2, hes, k3⟩ := bVs_some k2
    obtain ⟨⟨v3, H3⟩, hp, k4⟩ := bO_some k3
    cases k4
    obtain ⟨pl, he⟩ := he env
    refine MethodCall_ (pl := pl) (ih.E _ _ _ _ _ h1 _ t1 _ _ _ _ _ R' I N fun ρ1 c1 h' tk' hv1 I1 e1 => ?_) he
    refine getMethod_sound (s := { s with heap := h', toks := tk' }) hok I1 hv1 ?_
    obtain ⟨k1, k2⟩ := args_ok (e := e) (s := { s with heap := h', toks := tk' }) (f := .builtin (ME.id _)) (Q := fun a s₁ => wpAny (MM w) A (call (.builtin (ME.id _)) ([c1] ++ a.pos) a.kw) Q NoE s₁) ih hes ts R' I1 (N.ext e1) fun ρ2 cvs h2' tk2 hv2 I2 e2 =>
      evME_sound (s := { s with heap := h2', toks := tk2 }) S hp I2 (e2.vr hv1) hv2 fun ρ3 cv h3' tk3 hv3 I3 e3 => hQ ρ3 cv h3' tk3 hv3 I3 ((e1.trans e2).trans e3)
    exact callWith_builtin k2 k1
  | comp _ _ _ _ _ _ _ _ _ _ _ _ => exact hcomp _ _ _ _ _ _ _ _ rfl
  | src7 _ => exact hsrc _ rfl
  | bad => cases er
end
end Mine

namespace Mine
section
variable {w : World} {π : Par} {A : Around} {s : Shared} {ρ ρ' : List Addr} {H H' : AH} {n m K : Nat} {mg mb : Str → Option Value} {e : AEnv} {env : Env} {st : Static} {P : Prm}

theorem T_step (C : Ctx w π mg mb st P K) (ih : SoundAt w π st P K m) {x : X} {b : Bool} (er : run P (m + 1) (.T e x) H = some (.b b, H')) {ex : Expr} (tr : TrE st (scOf st e.sc) x ex) {Q : Bool → Shared → Prop} (R : Room (m + 1 + K) A) (I : Inv π ρ H s.heap) (N : EnvR π ρ e env)
    (hQ : OnB π ρ s H' b Q) : wpAny (MM w) A (isTrue ex env (eval ex env)) Q NoE s := by
  have S := C.base.sig
  have R' : Room (m + K) A := R.le (by omega)
  replace er : stepT (run P m) e x H = some (.b b, H') := er
  cases tr with
  | band ts =>
    cases ts with
    | nil => cases er; exact isTrue_and_nil (hQ ρ s.heap s.toks I (.refl _ _))
    | cons t ts =>
      obtain ⟨c, H1, h1, k1⟩ := bB_some er
      show wpAny (MM w) A (PySem.isTrue _ env (eval _ env) >>= _) Q NoE s
      refine wpAny_bind (ih.T _ _ _ _ _ h1 _ t _ _ _ _ _ R' I N fun ρ1 h' tk' I1 e1 => ?_)
      cases c with
      | true => exact ih.T _ _ _ _ _ (show run P m (.T e (.band _)) H1 = some (.b b, H') from k1) _ (.band (pos := default) ts) _ _ _ _ _ R' I1 (N.ext e1) fun ρ2 h2 tk2 I2 e2 => hQ ρ2 h2 tk2 I2 (e1.trans e2)
      | false => cases k1; exact wpAny_pure (hQ ρ1 h' tk' I1 e1)
  | bor ts =>
    cases ts with
    | nil => cases er; exact isTrue_or_nil (hQ ρ s.heap s.toks I (.refl _ _))
    | cons t ts =>
      obtain ⟨c, H1, h1, k1⟩ := bB_some er
      show wpAny (MM w) A (PySem.isTrue _ env (eval _ env) >>= _) Q NoE s
      refine wpAny_bind (ih.T _ _ _ _ _ h1 _ t _ _ _ _ _ R' I N fun ρ1 h' tk' I1 e1 => ?_)
      cases c with
      | false => exact ih.T _ _ _ _ _ (show run P m (.T e (.bor _)) H1 = some (.b b, H') from k1) _ (.bor (pos := default) ts) _ _ _ _ _ R' I1 (N.ext e1) fun ρ2 h2 tk2 I2 e2 => hQ ρ2 h2 tk2 I2 (e1.trans e2)
      | true => cases k1; exact wpAny_pure (hQ ρ1 h' tk' I1 e1)
  | cmp hm t1 t2 =>
    obtain ⟨x1, H1, h1, k1⟩ := bV_some er
    obtain ⟨x2, H2, h2, k2⟩ := bV_some k1
    obtain ⟨b', hb, k3⟩ := bO_some k2
    cases k3
    refine wpAny_isTrue_Compare1 (ih.E _ _ _ _ _ h1 _ t1 _ _ _ _ _ R' I N fun ρ1 c1 h' tk' hv1 I1 e1 => ?_) hm
    refine ih.E _ _ _ _ _ h2 _ t2 _ _ _ _ _ R' I1 (N.ext e1) fun ρ2 c2 h2' tk2 hv2 I2 e2 => ?_
    refine cmp2_sound (s := { s with heap := h2', toks := tk2 }) S R hb I2 (e2.vr hv1) hv2 fun ρ3 cv h3' tk3 hv3 I3 e3 => ?_
    cases hv3
    exact wpAny_truthy_bool (hQ ρ3 h3' tk3 I3 ((e1.trans e2).trans e3))
  | var r =>
    obtain ⟨u, hu, k1⟩ := bO_some er
    obtain ⟨b', hb, k2⟩ := bO_some k1
    cases k2
    rw [← C.scs] at r
    refine isTrue_plain (name_sound hu I N r fun ρ1 cv h' tk' hv I1 e1 => ?_)
    exact truth_sound (s := { s with heap := h', toks := tk' }) S hb (by
      exact I1) hv fun ρ2 h2 tk2 I2 e2 => hQ ρ2 h2 tk2 I2 (e1.trans e2)
  | _ => cases er

theorem addC_sound {a b : Addr} {xs ys : List Value} {Q : Value → Shared → Prop} (la : s.heap.IsList a xs.toArray) (lb : s.heap.IsList b ys.toArray) (hz : xs.length + ys.length ≤ 10000)
    (hQ : Q (.ref s.heap.objs.size) { s with heap := s.heap.push { cls := .type "list", data := .seq (xs ++ ys).toArray } }) : wpAny (MM w) A (binaryOp .Add (.ref a) (.ref b)) Q NoE s := by
  obtain ⟨⟨cls, dd, data, sl⟩, ho, hc, n, hd⟩ := id la
  obtain ⟨⟨cls2, dd2, data2, sl2⟩, ho2, hc2, n2, hd2⟩ := id lb
  simp only at hc hd hc2 hd2
  subst hc hd hc2 hd2
  have hsz : xs.toArray.size + ys.toArray.size ≤ sizeLine := by rw [List.size_toArray, List.size_toArray, sizeLine_eq]; omega
  have e : xs.toArray ++ ys.toArray = (xs ++ ys).toArray := by simp
  rw [← e] at hQ
  have ta : s.TypeIs (.ref a) "list" := ⟨_, ho, rfl⟩
  have tb : s.TypeIs (.ref b) "list" := ⟨_, ho2, rfl⟩
  exact concat_meets ta tb noFill_list_add seq_list_add PySem.F.slot_list_add PySem.F.entry_list_add (PySem.F.args_list_add_2 _ _) (list_addW a b xs.toArray ys.toArray n n2 dd dd2 sl sl2 hsz) ⟨ho, ho2, hQ⟩
theorem raws_ok {cvs : List Value} {ns : List Int} (hi : IntsAre cvs ns) : ∀ (k : Nat) (l : List Nat), l.length = k → (∀ j, j < k → ∃ i, l[j]? = some i ∧ ns[j]? = some (π.raw i) ∧ π.σ (i + 1) = (π.raw i).fmod 10) → k ≤ ns.length → VRs π ρ (l.map V.raw) (cvs.take k) := by
  induction hi with
  | nil =>
    intro k l hl _ hk
    have : k = 0 := by simpa using hk
    subst this
    rw [List.length_eq_zero_iff] at hl
    subst hl
    trivial
  | cons n t r ih =>
    intro k l hl h hk
    cases k with
    | zero =>
      rw [List.length_eq_zero_iff] at hl
      subst hl
      trivial
    | succ k =>
      cases l with
      | nil => cases hl
      | cons i l =>
        obtain ⟨i', e1, e2, e3⟩ := h 0 (by omega)
        have e1 : i = i' := by simpa using e1
        subst e1
        have e2 : n = π.raw i := by simpa using e2
        refine ⟨⟨t, by rw [e2], e3⟩, ih k l (by simpa using hl) (fun j hj => ?_) (by simpa using hk)⟩
        obtain ⟨i2, f1, f2, f3⟩ := h (j + 1) (by omega)
        exact ⟨i2, by simpa using f1, by simpa using f2, f3⟩
theorem IntsAre.app {xs ys : List Value} {ns ms : List Int} (h : IntsAre xs ns) (g : IntsAre ys ms) : IntsAre (xs ++ ys) (ns ++ ms) := by
  induction h with
  | nil => exact g
  | cons n t r ih => exact .cons n t ih

/-- (script + [0] * 7)[:7] -/
theorem src7_step (C : Ctx w π mg mb st P K) (ih : SoundAt w π st P K m) {y : Var} {v : V} (er : run P (m + 1) (.E e (.src7 y)) H = some (.v v, H')) {ex : Expr} (tr : TrE st (scOf st e.sc) (.src7 y) ex) {Q : Value → Shared → Prop} (R : Room (m + 1 + K) A) (I : Inv π ρ H s.heap) (N : EnvR π ρ e env)
    (hQ : OnV π ρ s H' v Q) : wpAny (MM w) A (eval ex env) Q NoE s := by
  have S := C.base.sig
  have R' : Room (m + K) A := R.le (by omega)
  replace er : stepE P (run P m) e (.src7 y) H = some (.v v, H') := er
  cases tr with
  | src7 r =>
    obtain ⟨hscr, k1⟩ := gd_some er
    obtain ⟨u, hu, k2⟩ := bO_some k1
    cases u with
    | scr =>
      obtain ⟨v1, H1, h1, k3⟩ := bV_some k2
      obtain ⟨j, rfl, k4⟩ := bRf_some k3
      obtain ⟨pl, vs, ej, k5⟩ := bL_some k4
      obtain ⟨cs, hcs, k6⟩ := bO_some k5
      obtain ⟨hz, k7⟩ := gd_some k6
      have hz : cs = [0, 0, 0, 0, 0, 0, 0] := by simpa using hz
      subst hz
      cases k7
      obtain ⟨a, cvs, ns, hsv, hl, hi, hlen, hraw⟩ := C.scr hscr
      rw [← C.scs] at r
      refine Subscript_ (wpAny_BinOp (name_sound hu I N r fun ρ1 cv h' tk' hv I1 e1 => ?_))
      have hv : cv = π.sv := hv
      rw [hsv] at hv
      subst hv
      refine ih.E _ _ _ _ _ h1 _ (.bin (o := .mul) (.list (.cons .cint .nil)) .cint) A { s with heap := h', toks := tk' } ρ1 env _ R' I1 (N.ext e1) fun ρ2 c2 h2 tk2 hv2 I2 e2 => ?_
      obtain ⟨b, cus, eb, lb, _, xb⟩ := I2.list (s := { s with heap := h2, toks := tk2 }) ej
      cases hv2.ref_at eb
      have hcu := isList_consts S xb hcs
      have la : h2.IsList a cvs.toArray := by obtain ⟨o, q, r⟩ := hl; exact ⟨o, I2.base _ _ q, r⟩
      have hl1 := hi.length
      have hl2 := hcu.length
      have hl2 : cus.length = 7 := by first | exact hl2 | exact hl2.symm | simpa using hl2 | simpa using hl2.symm
      refine addC_sound (s := { s with heap := h2, toks := tk2 }) la lb (by omega) ?_
      refine wpAny_Slice ?_
      refine wpAny_pure ?_
      rw [evalPart_some]
      refine wpAny_Constant_int ?_
      refine wpAny_pure ?_
      have lT : (h2.push { cls := .type "list", data := .seq (cvs ++ cus).toArray }).IsList h2.objs.size (cvs ++ cus).toArray := ⟨_, Heap.get?_push_size _ rfl, rfl, _, rfl⟩
      generalize hh3 : h2.push { cls := .type "list", data := .seq (cvs ++ cus).toArray } = h3 at lT
      have k3 : ∀ b o, h2.get? b = some o → h3.get? b = some o := fun b o q => by rw [← hh3]; exact Heap.get?_push_of_some _ q
      have lT4 : (h3.push { cls := .type "slice", data := .fields #[.none, .int 7 tk2, .none] }).IsList h2.objs.size (cvs ++ cus).toArray := by
        obtain ⟨o, q, r⟩ := lT
        exact ⟨o, Heap.get?_push_of_some _ q, r⟩
      have k4 : ∀ b o, h2.get? b = some o → (h3.push { cls := .type "slice", data := .fields #[.none, .int 7 tk2, .none] }).get? b = some o := fun b o q => Heap.get?_push_of_some _ (k3 b o q)
      have I4 : Inv π ρ2 H1 ({ s with heap := h3.push { cls := .type "slice", data := .fields #[.none, .int 7 tk2, .none] }, toks := tk2 + 1 } : Shared).heap := I2.grow k4
      have hx : VRs π ρ2 ([0, 1, 2, 3, 4, 5, 6].map V.raw) ((cvs ++ cus).take 7) := by
        refine raws_ok (IntsAre.app hi hcu) 7 [0, 1, 2, 3, 4, 5, 6] rfl (fun j hj => ⟨j, ?_, ?_⟩) (by simp)
        · match j, hj with
          | 0, _ => rfl
          | 1, _ => rfl
          | 2, _ => rfl
          | 3, _ => rfl
          | 4, _ => rfl
          | 5, _ => rfl
          | 6, _ => rfl
          | n + 7, h => omega
        · exact hraw j hj
      have hp := I4.push (o := .list true ([0, 1, 2, 3, 4, 5, 6].map V.raw)) (push_list hx.mono)
      have ta : ({ s with heap := h3.push { cls := .type "slice", data := .fields #[.none, .int 7 tk2, .none] }, toks := tk2 + 1 } : Shared).TypeIs (.ref h2.objs.size) "list" := by obtain ⟨o, q, c, _⟩ := lT4; exact ⟨o, q, c⟩
      have hsz : (cvs ++ cus).toArray.size ≤ sizeLine := by rw [List.size_toArray, List.length_append, sizeLine_eq]; omega
      have h9 := hQ _ _ _ (tk2 + 1) (ref_new I4 _) hp.1 ((e1.trans e2).trans (Ext.trans (.of_kept fun b o _ q => k4 b o q) hp.2))
      have pk : (.seq ((cvs ++ cus).take 7).toArray 0 : Data) = .seq (slicePick (cvs ++ cus).toArray none (some 7) none) 0 := by rw [show (some 7 : Option Int) = some ((7 : Nat) : Int) from rfl, slicePick_upto']
      rw [show ({ cls := .type "list", data := .seq ((cvs ++ cus).take 7).toArray } : Obj) = { cls := .type "list", data := .seq (slicePick (cvs ++ cus).toArray none (some 7) none) } by rw [pk]] at h9
      have h5 := wpAny_getItem_list_slice (prog := PySem.Challenge.rw_hf0007_01.prog) (w := w) (A := A) (E := NoE) (s := { s with heap := h3.push { cls := .type "slice", data := .fields #[.none, .int 7 tk2, .none] }, toks := tk2 + 1 }) (Q := Q) lT4 (Heap.IsSliceOf.new ..) .none (.int 7 tk2) .none (by simp) h9 hsz
      exact tail_any ta PySem.F.slot_list_getitem.lookup h5 rfl
    | _ => cases k2
end
end Mine

namespace Mine
section
variable {w : World} {π : Par} {A : Around} {s : Shared} {ρ ρ' ρ0 : List Addr} {H H' : AH} {n m K : Nat} {mg mb : Str → Option Value} {e : AEnv} {env : Env} {st : Static} {P : Prm} {h0 : Heap}

theorem noE_mono {α : Type} {t : Sem α} {Q : α → Shared → Prop} {E : Value → Shared → Prop} (h : wpAny (MM w) A t Q NoE s) : wpAny (MM w) A t Q E s := wpAny_mono h (fun _ _ q => q) fun _ _ f => f.elim
theorem Ext.kept0 {h h' : Heap} (x : Ext ρ0 h0 ρ h) (k : Kept h0 h h') : Ext ρ0 h0 ρ h' := ⟨x.pre, fun b o n e => k b o e (x.kept b o n e)⟩

theorem for_sound (C : Ctx w π mg mb st P K) {o : Out} {tg : TG} {tgt : Expr} {src : Src} {body : List XS} {body' : List Stmt} {I : Addr} {R : Result → Shared → Prop} (trT : TgR (π.scs e.sc) tg tgt) (trB : TrB st (scOf st e.sc) body body')
    (ihs : ∀ k, k < n → SoundAt w π st P K k) (Rm : Room (n + K) A)
    (hR : ∀ ρ' f h' tk', OutR π ρ' o f → Inv π ρ' H' h' → Ext ρ0 h0 ρ' h' → R (.ok f) { s with heap := h', toks := tk' })
    {k : Nat} (er : run P n (.For e tg src k body) H = some (o, H')) (Iv : Inv π ρ H s.heap) (N : EnvR π ρ e env) (T : ItR π h0 ρ s.heap src k I) (x : Ext ρ0 h0 ρ s.heap) :
    codeAny (MM w) A (.forLoop tgt (.ref I) body' [] env) R s := by
  refine codeAny_forLoop_any (fun j s' => j ≤ n ∧ ∃ H1 ρ1 k1 h tk, run P j (.For e tg src k1 body) H1 = some (o, H') ∧ s' = { s with heap := h, toks := tk } ∧ Inv π ρ1 H1 h ∧ EnvR π ρ1 e env ∧ ItR π h0 ρ1 h src k1 I ∧ Ext ρ0 h0 ρ1 h) ?_ n ⟨Nat.le_refl _, H, ρ, k, s.heap, s.toks, er, rfl, Iv, N, T, x⟩
  rintro j s' ⟨hj, H1, ρ1, k1, h, tk, er, rfl, Iv, N, T, x⟩
  cases j with
  | zero => cases er
  | succ j =>
    have ih := ihs j (by omega)
    obtain ⟨i0, hit, er⟩ := bO_some (show (bO (nextIt H1 src k1) fun i => match i with
      | some it => bO (bindT e H1 tg it) fun H1 => bS (run P j (.B e body) H1) (fun H2 => run P j (.For e tg src (k1 + 1) body) H2) fun v H2 => some (Out.rt v, H2)
      | none => some (Out.nx, H1)) = some (o, H') from er)
    have key : ∀ r, nextIt H1 src k1 = some r → (∀ it, r = some it → ∃ e2 H2, bindT e2 H1 tg it = some H2) →
        (r = none → ∀ h' tk', Inv π ρ1 H1 h' → Kept h0 h h' → R (.ok .next) { s with heap := h', toks := tk' }) →
        (∀ it, r = some it → ∀ cv h' tk', ItV π ρ1 h' it cv → Inv π ρ1 H1 h' → ItR π h0 ρ1 h' src (k1 + 1) I → Kept h0 h h' →
          wpAny (MM w) A (assign tgt env cv) (fun _ s₂ => wpAny (MM w) A (execs body' env) (fun f s₃ => match f with
            | .next | .cont => ∃ m, m < j + 1 ∧ m ≤ n ∧ ∃ H1 ρ1 k1 h tk, run P m (.For e tg src k1 body) H1 = some (o, H') ∧ s₃ = { s with heap := h, toks := tk } ∧ Inv π ρ1 H1 h ∧ EnvR π ρ1 e env ∧ ItR π h0 ρ1 h src k1 I ∧ Ext ρ0 h0 ρ1 h
            | .brk => R (.ok .next) s₃
            | .ret v => R (.ok (.ret v)) s₃) NoE s₂) NoE { s with heap := h', toks := tk' }) → _ := fun r hr hb hn hs =>
      next_sound (w := w) (A := A) (s := { s with heap := h, toks := tk }) (h0 := h0) (Qn := fun s' => R (.ok .next) s') (Qs := fun cv s' => wpAny (MM w) A (assign tgt env cv) (fun _ s₂ => wpAny (MM w) A (execs body' env) (fun f s₃ => match f with
            | .next | .cont => ∃ m, m < j + 1 ∧ m ≤ n ∧ ∃ H1 ρ1 k1 h tk, run P m (.For e tg src k1 body) H1 = some (o, H') ∧ s₃ = { s with heap := h, toks := tk } ∧ Inv π ρ1 H1 h ∧ EnvR π ρ1 e env ∧ ItR π h0 ρ1 h src k1 I ∧ Ext ρ0 h0 ρ1 h
            | .brk => R (.ok .next) s₃
            | .ret v => R (.ok (.ret v)) s₃) NoE s₂) NoE s') C.base.sig Rm hr Iv T trT hb hn hs
    have fin : Turn w A I tgt (fun s' => R (.ok .next) s') (fun cv s' => wpAny (MM w) A (assign tgt env cv) (fun _ s₂ => wpAny (MM w) A (execs body' env) (fun f s₃ => match f with
            | .next | .cont => ∃ m, m < j + 1 ∧ m ≤ n ∧ ∃ H1 ρ1 k1 h tk, run P m (.For e tg src k1 body) H1 = some (o, H') ∧ s₃ = { s with heap := h, toks := tk } ∧ Inv π ρ1 H1 h ∧ EnvR π ρ1 e env ∧ ItR π h0 ρ1 h src k1 I ∧ Ext ρ0 h0 ρ1 h
            | .brk => R (.ok .next) s₃
            | .ret v => R (.ok (.ret v)) s₃) NoE s₂) NoE s') { s with heap := h, toks := tk } := by
      cases i0 with
      | some it =>
        obtain ⟨H2, hb, er⟩ := bO_some er
        refine key (some it) hit (fun it' q => by cases q; exact ⟨e, H2, hb⟩) (fun q => by cases q) fun it' q cv h1 tk1 hv I1 T1 k1' => ?_
        cases q
        refine bind_sound (s := { s with heap := h1, toks := tk1 }) Rm hb I1 N trT hv fun h2 tk2 I2 x2 => ?_
        have T2 := T1.ext x2
        have xx := (x.kept0 k1').trans x2
        rcases bS_some er with ⟨H3, h3, er⟩ | ⟨v, H3, h3, er⟩
        · refine ih.B _ _ _ _ _ h3 _ trB A { s with heap := h2, toks := tk2 } ρ1 env _ (Rm.le (by omega)) I2 N fun ρ3 f h3' tk3 hf I3 x3 => ?_
          cases f with
          | next => exact ⟨j, by omega, by omega, _, ρ3, _, h3', tk3, er, rfl, I3, N.ext x3, T2.ext x3, xx.trans x3⟩
          | _ => exact hf.elim
        · cases er
          refine ih.B _ _ _ _ _ h3 _ trB A { s with heap := h2, toks := tk2 } ρ1 env _ (Rm.le (by omega)) I2 N fun ρ3 f h3' tk3 hf I3 x3 => ?_
          cases f with
          | ret c => exact hR ρ3 (.ret c) h3' tk3 hf I3 (xx.trans x3)
          | _ => exact hf.elim
      | none =>
        cases er
        exact key none hit (fun _ q => by cases q) (fun _ h1 tk1 I1 k1' => hR ρ1 .next h1 tk1 trivial I1 (x.kept0 k1')) (fun _ q => by cases q)
    refine noE_mono (wpAny_mono fin (fun r s₁ h₁ => ?_) fun _ _ f => f)
    cases r with
    | none => exact noE_mono (wpAny_execs_nil h₁)
    | some v => exact noE_mono (wpAny_mono h₁ (fun _ s₂ h₂ => noE_mono (wpAny_mono h₂ (fun _ s₃ h₃ => noE_mono h₃) fun _ _ f => f)) fun _ _ f => f)
end
end Mine

namespace Mine
/-- the cells that a block takes from the block around it -/
noncomputable def closL (env : Env) : List (Str × NameKind) → List (Str × Addr) → List (Str × Addr)
  | [], acc => acc
  | (nm, k) :: r, acc => match k with
    | .free => closL env r ((nm, (env.cells.lookup nm).getD 0) :: acc)
    | _ => closL env r acc
theorem closL_lookup {env : Env} {nm : Str} : ∀ {names : List (Str × NameKind)} {acc : List (Str × Addr)}, (∀ y, (y, NameKind.free) ∈ names → ∃ c, env.cells.lookup y = some c) →
    ((nm, NameKind.free) ∈ names ∨ acc.lookup nm = env.cells.lookup nm) → (closL env names acc).lookup nm = env.cells.lookup nm
  | [], acc, _, h => by
    rcases h with h | h
    · cases h
    · exact h
  | (y, k) :: r, acc, hc, h => by
    have hr : ∀ y, (y, NameKind.free) ∈ r → ∃ c, env.cells.lookup y = some c := fun y m => hc y (List.mem_cons_of_mem _ m)
    have go : ∀ {acc : List (Str × Addr)}, (nm, NameKind.free) ∈ r ∨ acc.lookup nm = env.cells.lookup nm → (closL env r acc).lookup nm = env.cells.lookup nm := fun h => closL_lookup hr h
    have tl : ∀ {k : NameKind}, k ≠ .free → (nm, NameKind.free) ∈ (y, k) :: r → (nm, NameKind.free) ∈ r := fun hk m => by
      rcases List.mem_cons.mp m with q | q
      · exact absurd (congrArg Prod.snd q).symm hk
      · exact q
    cases k with
    | free =>
      show (closL env r ((y, (env.cells.lookup y).getD 0) :: acc)).lookup nm = _
      obtain ⟨c, hcy⟩ := hc y (List.mem_cons_self ..)
      apply go
      by_cases q : nm = y
      · subst q
        right
        rw [hcy]; simp
      · rcases h with h | h
        · rcases List.mem_cons.mp h with q2 | q2
          · exact absurd (congrArg Prod.fst q2) q
          · exact .inl q2
        · right
          have : (nm == y) = false := by simpa using q
          rw [List.lookup_cons, this]; exact h
    | «local» => exact go (h.imp (tl (by decide)) id)
    | cell => exact go (h.imp (tl (by decide)) id)
    | globalExplicit => exact go (h.imp (tl (by decide)) id)
    | globalImplicit => exact go (h.imp (tl (by decide)) id)
theorem closureFor_is {scope : Scope} {env : Env} (hc : ∀ y, (y, NameKind.free) ∈ scope.names → ∃ c, env.cells.lookup y = some c) : closureFor scope env = pure (closL env scope.names []) := by
  unfold closureFor
  have key : ∀ (names : List (Str × NameKind)) (acc : List (Str × Addr)), (∀ y, (y, NameKind.free) ∈ names → ∃ c, env.cells.lookup y = some c) →
      (forIn names acc fun x r => (match x with
        | (name, kind) => if (kind == NameKind.free) = true then do let a ← cellOf env name; pure (ForInStep.yield ((name, a) :: r)) else pure (ForInStep.yield r) : Sem (ForInStep (List (Str × Addr))))) = pure (closL env names acc) := by
    intro names
    induction names with
    | nil => intro acc _; rfl
    | cons x r ih =>
      intro acc hc
      obtain ⟨y, k⟩ := x
      have hr : ∀ y, (y, NameKind.free) ∈ r → ∃ c, env.cells.lookup y = some c := fun y m => hc y (List.mem_cons_of_mem _ m)
      rw [List.forIn_cons]
      cases k with
      | free =>
        obtain ⟨c, hcy⟩ := hc y (List.mem_cons_self ..)
        have e1 : cellOf env y = pure c := by unfold cellOf; rw [hcy]
        have e2 : (NameKind.free == NameKind.free) = true := rfl
        simp only [e2, if_true, e1, pure_bind]
        rw [ih _ hr]
        show _ = pure (closL env r ((y, (env.cells.lookup y).getD 0) :: acc))
        rw [hcy]; rfl
      | «local» => simp only [show (NameKind.local == NameKind.free) = false from rfl, Bool.false_eq_true, if_false, pure_bind]; rw [ih _ hr]; rfl
      | cell => simp only [show (NameKind.cell == NameKind.free) = false from rfl, Bool.false_eq_true, if_false, pure_bind]; rw [ih _ hr]; rfl
      | globalExplicit => simp only [show (NameKind.globalExplicit == NameKind.free) = false from rfl, Bool.false_eq_true, if_false, pure_bind]; rw [ih _ hr]; rfl
      | globalImplicit => simp only [show (NameKind.globalImplicit == NameKind.free) = false from rfl, Bool.false_eq_true, if_false, pure_bind]; rw [ih _ hr]; rfl
  have := key scope.names [] hc
  simp only [bind_pure]
  exact this

section
variable {w : World} {π : Par} {A : Around} {s : Shared} {ρ ρ' ρ0 : List Addr} {H H' : AH} {n m K : Nat} {mg mb : Str → Option Value} {e : AEnv} {env : Env} {st : Static} {P : Prm} {h0 : Heap}

theorem fr_cells (N : EnvR π ρ e env) {S : Scope} (hS : π.scs e.sc = S) : ∀ {names : List (Str × NameKind)} {fr : List (Option Nat)}, FrR S names fr → cellsOk e fr = true →
    (∀ y, (y, NameKind.free) ∈ names → ∃ c, env.cells.lookup y = some c) ∧
    ∀ (i j : Nat) (nm : Str × NameKind), (freeCells e fr)[i]? = some (some j) → names[i]? = some nm → ∃ c, ρ[j]? = some c ∧ env.cells.lookup nm.1 = some c ∧ nm.2 = .free
  | _, _, .nil, _ => ⟨fun _ m => (nomatch m), fun i j nm e1 e2 => by simp at e2⟩
  | _, _, .skip (nm := nm) (k := k) hk r, ok => by
    obtain ⟨h1, h2⟩ := fr_cells N hS r ((Bool.and_eq_true _ _).mp ok).2
    refine ⟨fun y m => ?_, fun i j nm' e1 e2 => ?_⟩
    · rcases List.mem_cons.mp m with q | q
      · have : k = .free := (congrArg Prod.snd q).symm
        subst this; cases hk
      · exact h1 y q
    · cases i with
      | zero => cases e1
      | succ i => exact h2 i j nm' (by simpa [freeCells] using e1) (by simpa using e2)
  | _, _, .free (nm := nm) (k := k) (x := x) (fr := fr) hx r, ok => by
    have ok := (Bool.and_eq_true _ _).mp (show (cellOk e (some x) && cellsOk e fr) = true from ok)
    obtain ⟨h1, h2⟩ := fr_cells N hS r ok.2
    have hc : ∃ i, e.cells[x]? = some (some i) := by
      obtain ⟨i, hi⟩ := Option.isSome_iff_exists.mp (show (joinO e.cells[x]?).isSome = true from ok.1)
      exact ⟨i, joinO_some hi⟩
    obtain ⟨i0, hi0⟩ := hc
    obtain ⟨c, e3, e4⟩ := N.cells x i0 (nm, k) hi0 (by rw [hS]; exact hx)
    refine ⟨fun y m => ?_, fun i j nm' e1 e2 => ?_⟩
    · rcases List.mem_cons.mp m with q | q
      · have : y = nm := congrArg Prod.fst q
        subst this; exact ⟨c, e4⟩
      · exact h1 y q
    · cases i with
      | zero =>
        have e1 : some (joinO e.cells[x]?) = some (some j) := e1
        rw [hi0] at e1
        cases e1
        cases e2
        exact ⟨c, e3, e4, rfl⟩
      | succ i => exact h2 i j nm' (by simpa [freeCells] using e1) (by simpa using e2)

theorem iter_self {src : Src} {k : Nat} {I : Addr} {Q : Value → Shared → Prop} (T : ItR π h0 ρ s.heap src k I) (hQ : Q (.ref I) s) : wpAny (MM w) A (pyIter (.ref I)) Q NoE s := by
  obtain ⟨off, T⟩ := T
  cases src with
  | list i => obtain ⟨a, ea, hit⟩ := T; exact wpAny_pyIter_listiter hit hQ
  | tup i => obtain ⟨a, ea, hit⟩ := T; exact wpAny_pyIter_tupleiter hit hQ
  | range a n => exact wpAny_pyIter_rangeiter T.1 hQ
  | rev i m => obtain ⟨a, ea, hk, hit⟩ := T; exact wpAny_pyIter_revIter hit hQ
  | enu i => obtain ⟨a, it, off2, hne, ea, ⟨old, he⟩, hit⟩ := T; exact wpAny_pyIter_enum he hQ

theorem range_small {a n : Nat} (h : a + n ≤ 2000000) : Builtin.Range.rangeSize (a : Int) ((a + n : Nat) : Int) 1 = (n : Int) ∧ Builtin.Range.small (a : Int) ((a + n : Nat) : Int) 1 = true := by
  have e : Builtin.Range.rangeSize (a : Int) ((a + n : Nat) : Int) 1 = (n : Int) := by
    unfold Builtin.Range.rangeSize
    simp
    omega
  refine ⟨e, ?_⟩
  unfold Builtin.Range.small
  rw [e]
  unfold Builtin.Range.rangeFitsLong
  simp
  omega

/-- the iterator over a source -/
theorem src_sound (C : Ctx w π mg mb st P K) (ih : SoundAt w π st P K m) {sk : SK} {x : X} {v : V} {src : Src} {iter : Expr} {Q : Value → Shared → Prop} (er : run P m (.E e x) H = some (.v v, H')) (es : srcOf sk v H' = some src) (tr : TrSrc st (scOf st e.sc) sk x iter)
    (R : Room (m + K) A) (I : Inv π ρ H s.heap) (N : EnvR π ρ e env)
    (hQ : ∀ ρ' hA h' tk' a, Inv π ρ' H' h' → Ext ρ s.heap ρ' hA → Ext ρ' hA ρ' h' → ItR π hA ρ' h' src 0 a → Q (.ref a) { s with heap := h', toks := tk' }) :
    wpAny (MM w) A (eval iter env) (fun xv s₁ => wpAny (MM w) A (pyIter xv) Q NoE s₁) NoE s := by
  have S := C.base.sig
  have off : ∀ {ρ' : List Addr} {h' : Heap} {a : Addr}, Inv π ρ' H' h' → h'.get? a = none → Off π h' ρ' a := fun {ρ' h' a} I1 ha => ⟨I1.nin ha, (by
    cases q : π.hb.get? a with
    | none => rfl
    | some o => rw [I1.base _ _ q] at ha; cases ha), ha⟩
  have oneArg : ∀ {f : Value} {ee : Expr} {Q' : Args → Shared → Prop}, TrE st (scOf st e.sc) x ee → (∀ ρ1 cv h1 tk1, VR π ρ1 v cv → Inv π ρ1 H' h1 → Ext ρ s.heap ρ1 h1 → Q' ⟨[cv], []⟩ { s with heap := h1, toks := tk1 }) →
      ∀ pos, wpAny (MM w) A (evalArgs f true (backTo pos (starEach [ee] env)) []) Q' NoE s ∧ (backTo pos (starEach [ee] env)).any (·.1) = false := fun {f ee Q'} t hq pos => by
    have hb : x ≠ .bad := fun q => by subst q; cases m <;> cases er
    rw [star_plain t _ _ hb]
    refine ⟨?_, rfl⟩
    show wpAny (MM w) A (evalArgs f true [(false, eval ee env)] []) Q' NoE s
    refine evalArgs_plain (spliced_cons (ih.E _ _ _ _ _ er _ t _ _ _ _ _ R I N fun ρ1 cv h1 tk1 hv I1 e1 => ?_))
    exact spliced_nil (hq ρ1 cv h1 tk1 hv I1 e1)
  replace es := bRf_some es
  obtain ⟨i, rfl, es⟩ := es
  cases tr with
  | plain t =>
    refine ih.E _ _ _ _ _ er _ t _ _ _ _ _ R I N fun ρ1 cv h1 tk1 hv I1 e1 => ?_
    replace es : plainSrc i H'[i]? = some src := es
    cases ei : H'[i]? with
    | none => rw [ei] at es; cases es
    | some ob =>
      rw [ei] at es
      cases ob with
      | list pl us =>
        cases es
        obtain ⟨a, cvs, ea, la, _, xa⟩ := Inv.list (s := { s with heap := h1, toks := tk1 }) I1 ei
        cases hv.ref_at ea
        refine wpAny_pyIter_list (s := { s with heap := h1, toks := tk1 }) la ?_
        refine hQ ρ1 h1 _ tk1 h1.objs.size (I1.grow fun _ _ q => Heap.get?_push_of_some _ q) e1 (.of_kept fun _ _ _ q => Heap.get?_push_of_some _ q) ⟨off I1 (free_size _), a, ea, ?_⟩
        exact ⟨_, Heap.get?_push_size _ rfl, rfl, rfl⟩
      | tup us =>
        cases es
        obtain ⟨a, cvs, nn, ea, ho, xa⟩ := Inv.tuple (s := { s with heap := h1, toks := tk1 }) I1 ei
        cases hv.ref_at ea
        refine wpAny_pyIter_tuple (s := { s with heap := h1, toks := tk1 }) (items := cvs.toArray) ⟨_, ho, rfl, nn, rfl⟩ ?_
        refine hQ ρ1 h1 _ tk1 h1.objs.size (I1.grow fun _ _ q => Heap.get?_push_of_some _ q) e1 (.of_kept fun _ _ _ q => Heap.get?_push_of_some _ q) ⟨off I1 (free_size _), a, ea, ?_⟩
        exact ⟨_, Heap.get?_push_size _ rfl, rfl, rfl⟩
      | range a0 nn =>
        obtain ⟨hs, es⟩ := gd_some (show gd (decide (a0 + nn ≤ 2000000)) (some (Src.range a0 nn)) = some src from es)
        have hs := of_decide_eq_true hs
        cases es
        obtain ⟨a, ea, t, u, v, hr⟩ := I1.at ei
        cases hv.ref_at ea
        obtain ⟨r1, r2⟩ := range_small hs
        refine wpAny_pyIter_range (s := { s with heap := h1, toks := tk1 }) hr r2 ?_
        rw [r1]
        refine hQ ρ1 h1 _ tk1 h1.objs.size (I1.grow fun _ _ q => Heap.get?_push_of_some _ q) e1 (.of_kept fun _ _ _ q => Heap.get?_push_of_some _ q) ⟨off I1 (free_size _), ?_, Nat.zero_le _⟩
        have e0 : ((a0 : Int) + ((0 : Nat) : Int) * 1) = a0 := by omega
        have e1 : ((nn : Int) - ((0 : Nat) : Int)) = nn := by omega
        rw [e0, e1]
        exact Heap.get?_push_size _ rfl
      | _ => cases es
  | rev hl t =>
    have hd : (("reversed" : Str) == ("__debug__" : Str)) = false := by decide +kernel
    replace es := bL_some es
    obtain ⟨pl, us, ei, es⟩ := es
    cases es
    refine Call_ (builtin_ok C I N hl hd C.rev.1 C.rev.2 ?_)
    have kk := oneArg (f := .type "reversed") (Q' := fun a s₁ => wpAny (MM w) A (call (.type "reversed") ([] ++ a.pos) a.kw) (fun xv s₁ => wpAny (MM w) A (pyIter xv) Q NoE s₁) NoE s₁) t fun ρ1 cv h1 tk1 hv I1 e1 => by
      obtain ⟨a, cvs, ea, la, _, xa⟩ := Inv.list (s := { s with heap := h1, toks := tk1 }) I1 ei
      cases hv.ref_at ea
      have hlen := xa.length
      refine call_reversed_list (s := { s with heap := h1, toks := tk1 }) la ?_
      have hit : (h1.push (revObj a ((cvs.toArray.size : Int) - 1))).IsRevIter h1.objs.size a ((us.length : Int) - 1 - ((0 : Nat) : Int)) := ⟨_, Heap.get?_push_size _ rfl, rfl, by
        show (revObj a ((cvs.toArray.size : Int) - 1)).data = _
        unfold revObj
        rw [List.size_toArray, ← hlen]
        simp⟩
      refine wpAny_pyIter_revIter (s := { s with heap := h1.push (revObj a ((cvs.toArray.size : Int) - 1)), toks := tk1 }) hit ?_
      exact hQ ρ1 h1 _ tk1 h1.objs.size (I1.grow fun _ _ q => Heap.get?_push_of_some _ q) e1 (.of_kept fun _ _ _ q => Heap.get?_push_of_some _ q) ⟨off I1 (free_size _), a, ea, Nat.zero_le _, hit⟩
    exact PySem.callWith_type (kk _).2 (kk _).1
  | enu hl t =>
    have hd : (("enumerate" : Str) == ("__debug__" : Str)) = false := by decide +kernel
    replace es := bL_some es
    obtain ⟨pl, us, ei, es⟩ := es
    cases es
    refine Call_ (builtin_ok C I N hl hd C.enu.1 C.enu.2 ?_)
    have kk := oneArg (f := .type "enumerate") (Q' := fun a s₁ => wpAny (MM w) A (call (.type "enumerate") ([] ++ a.pos) a.kw) (fun xv s₁ => wpAny (MM w) A (pyIter xv) Q NoE s₁) NoE s₁) t fun ρ1 cv h1 tk1 hv I1 e1 => by
      obtain ⟨a, cvs, ea, la, _, xa⟩ := Inv.list (s := { s with heap := h1, toks := tk1 }) I1 ei
      cases hv.ref_at ea
      refine call_enumerate_list (s := { s with heap := h1, toks := tk1 }) la fun h' he hit hsz hk => ?_
      have f2 : h1.get? (h1.objs.size + 1) = none := Heap.get?_none_of_le (Nat.le_succ _)
      refine wpAny_pyIter_enum (s := { s with heap := h', toks := tk1 }) he ?_
      exact hQ ρ1 h1 _ tk1 (h1.objs.size + 1) (I1.grow hk) e1 (.of_kept fun b o _ q => hk b o q) ⟨off I1 f2, a, h1.objs.size, off I1 (free_size _), Nat.succ_ne_self _, ea, ⟨_, he⟩, hit⟩
    exact PySem.callWith_type (kk _).2 (kk _).1
end
end Mine

namespace Mine
section
variable {w : World} {π : Par} {A : Around} {s : Shared} {ρ ρ' ρ0 : List Addr} {H H' : AH} {n m K : Nat} {mg mb : Str → Option Value} {e : AEnv} {env : Env} {st : Static} {P : Prm} {h0 : Heap}

/-- what the end of a comprehension must show: its names' space stays one -/
noncomputable def Post (w : World) (A : Around) (use : Option (Value → Sem Unit)) (Q : Value → Shared → Prop) (acc : Value) (C : Addr) (r : Result) (s' : Shared) : Prop :=
  match r, use with
  | .ok _, none => ∃ m, s'.heap.Ns C m ∧ ∀ h' m', h'.Ns C m' → Heap.SameBut C s'.heap h' → Q acc { s' with heap := h' }
  | .ok _, some u => wpAny (MM w) A (u acc) (fun _ s'' => ∃ m, s''.heap.Ns C m ∧ ∀ h' m', h'.Ns C m' → Heap.SameBut C s''.heap h' → Q .none { s'' with heap := h' }) NoE s'
  | .error _, _ => False

theorem comp_rule {ex : Expr} {scope : Scope} {pos : Pos} {newAcc first : Sem Value} {g : Comprehension} {gs : List Comprehension} {cl : List (Str × Addr)} {use : Option (Value → Sem Unit)} {Q : Value → Shared → Prop}
    (hcl : clausesOf ex = g :: gs) (hs : ∀ x, foldedSetIterable g.iter env x = pure x) (hclos : closureFor scope env = pure cl) (hkind : scope.kind = .function) (hnames : ∀ x ∈ scope.names, x.2 = .local → scope.names.lookup x.1 = some .local)
    (h : wpAny (MM w) A first (fun x s₁ => wpAny (MM w) A (pyIter x) (fun it s₂ => wpAny (MM w) A newAcc (fun acc s₃ =>
      wpAny (MM w) A (newFunctionEnv scope env.globals cl [] env.qual none .none (some env)) (fun cenv s₄ =>
        codeAny (MM w) A (.compStart ex 0 it acc { cenv with scope := relabel scope env }) (Post w A use Q acc cenv.locals) s₄) NoE s₃) NoE s₂) NoE s₁) NoE s) :
    wpAny (MM w) A (comprehension ex scope env pos newAcc false first use) Q NoE s := by
  unfold comprehension
  rw [hclos, hcl]
  refine wpAny_bind (wpAny_mono h (fun x s₁ h₁ => wpAny_bind (wpAny_standAt (wpAny_bind (wpAny_of_eq (hs x) (wpAny_bind (wpAny_holding (wpAny_mono h₁ (fun it s₂ h₂ =>
    wpAny_standIf (wpAny_bind (wpAny_mono h₂ (fun acc s₃ h₃ => wpAny_bind (wpAny_pure (wpAny_bind (wpAny_mono h₃ (fun cenv s₄ h₄ => ?_) fun _ _ h' => h')))) fun _ _ h' => h')))
      fun _ _ h' => h'))))))) fun _ _ h' => h')
  dsimp only
  have hv : ∀ x ∈ (scope.names.filter fun x => (x.2 == .local || x.2 == .cell) && x.1 != (".0" : Str)).reverse, x.2 = .local →
      Env.kindOf { cenv with scope := relabel scope env } x.1 = some .local := fun x hx hl => lookup_relabel_local (hnames x (List.mem_filter.mp (List.mem_reverse.mp hx)).1 hl)
  have hv' : ∀ x ∈ (scope.names.filter fun x => (x.2 == .local || x.2 == .cell) && x.1 != (".0" : Str)).reverse.drop 1 ++ (scope.names.filter fun x => (x.2 == .local || x.2 == .cell) && x.1 != (".0" : Str)).reverse.take 1,
      x.2 = .local → Env.kindOf { cenv with scope := relabel scope env } x.1 = some .local := fun x hx hl => by
    rcases List.mem_append.mp hx with h1 | h1
    · exact hv x (List.mem_of_mem_drop h1) hl
    · exact hv x (List.mem_of_mem_take h1) hl
  refine wpAny_holding (wpAny_bind (wpAny_attempt (wpAny_holding (wpAny_run (codeAny_mono h₄ fun r s' hr => ?_)))))
  cases r with
  | ok f =>
    cases use with
    | none =>
      obtain ⟨m, hn, hr⟩ := hr
      exact wpAny_bind (wpAny_holding (wpAny_comp_letGo (cenv := { cenv with scope := relabel scope env }) hkind _ s' m hv hn fun h' m' hn' hs' => wpAny_pure (hr h' m' hn' hs')))
    | some u =>
      refine wpAny_bind (wpAny_rule (wpAny_bind (wpAny_holding (wpAny_mono hr (fun _ s'' hr' => ?_) fun _ _ h' => h'))))
      obtain ⟨m, hn, hr'⟩ := hr'
      exact wpAny_bind (wpAny_comp_letGo (cenv := { cenv with scope := relabel scope env }) hkind _ s'' m hv' hn fun h' m' hn' hs' => wpAny_pure (hr' h' m' hn' hs'))
  | error x => exact False.elim (by cases use <;> exact hr)

theorem loop_rule {elt target iter : Expr} {ifs : List Expr} {scope : Scope} {pos : Pos} {it acc : Value} {R : Result → Shared → Prop} (I : Nat → Shared → Prop)
    (turn : ∀ n s, I n s → wpAny (MM w) A (pyNext it) (fun r s₁ => match r with
      | none => R (.ok .next) s₁
      | some v => wpAny (MM w) A (letOwnedTupleGo target it v) (fun _ s₁' => wpAny (MM w) A (assign target env v) (fun _ s₂ =>
          wpAny (MM w) A (forIn ifs true fun c r => if r = true then do let ok ← isTrue c env (eval c env); pure (ForInStep.yield ok) else pure (ForInStep.yield r)) (fun ok s₃ =>
            if ok = true then wpAny (MM w) A (eval elt env) (fun x s₄ => wpAny (MM w) A (call (.builtin "list.append") [acc, x]) (fun _ s₅ => ∃ m, m < n ∧ I m s₅) NoE s₄) NoE s₃
            else ∃ m, m < n ∧ I m s₃) NoE s₂) NoE s₁') NoE s₁) NoE s)
    (n : Nat) (h : I n s) : codeAny (MM w) A (.compLoop (.ListComp elt [⟨target, iter, ifs, 0⟩] scope pos) 0 it acc env) R s := by
  refine codeAny_loop rfl I (fun n s hI => ?_) n h
  show wpAny _ A ((compTurn (.ListComp elt [⟨target, iter, ifs, 0⟩] scope pos) 0 it acc env).onRaise (fun x => do noteFrame x env; theTreesLotGoes x)) _ _ s
  refine wpAny_noted ?_
  rw [compTurn_list]
  refine wpAny_bind (wpAny_standAt (wpAny_bind (noE_mono (wpAny_mono (turn n s hI) (fun r s₁ h₁ => ?_) fun _ _ h' => h'))))
  cases r with
  | none => exact wpAny_pure h₁
  | some v =>
    refine wpAny_bind (noE_mono (wpAny_mono h₁ (fun _ s₁' h₁' => ?_) fun _ _ h' => h'))
    refine wpAny_bind (noE_mono (wpAny_mono h₁' (fun _ s₂ h₂ => wpAny_bind (noE_mono (wpAny_mono h₂ (fun ok s₃ h₃ => ?_) fun _ _ h' => h'))) fun _ _ h' => h'))
    cases ok with
    | false => exact wpAny_pure ⟨rfl, h₃⟩
    | true =>
      exact wpAny_bind (wpAny_bind (noE_mono (wpAny_mono h₃ (fun x s₄ h₄ => wpAny_bind (noE_mono (wpAny_mono h₄ (fun _ s₅ h₅ => wpAny_pure (wpAny_pure ⟨rfl, h₅⟩)) fun _ _ h' => h'))) fun _ _ h' => h')))
end
end Mine

namespace Mine
section
variable {w : World} {π : Par} {A : Around} {s : Shared} {ρ ρ' ρ0 : List Addr} {H H' : AH} {n m K : Nat} {mg mb : Str → Option Value} {e : AEnv} {env : Env} {st : Static} {P : Prm} {h0 : Heap}

theorem comp_loop (C : Ctx w π mg mb st P K) {tg : TG} {tgt elt' iter : Expr} {src : Src} {ift : Option X} {ifs : List Expr} {elt : X} {acc : Nat} {scope : Scope} {pos : Pos} {I D : Addr} {R : Result → Shared → Prop} (trT : TgR (π.scs e.sc) tg tgt) (trI : TrIf st (scOf st e.sc) ift ifs) (trE : TrE st (scOf st e.sc) elt elt')
    (ihs : ∀ k, k < n → SoundAt w π st P K k) (Rm : Room (n + K) A) (hD0 : ρ0[acc]? = some D)
    (hR : ∀ ρ' h' tk', Inv π ρ' H' h' → Ext ρ0 h0 ρ' h' → R (.ok .next) { s with heap := h', toks := tk' })
    {k : Nat} (er : run P n (.Comp e tg src k ift elt acc) H = some (.nx, H')) (Iv : Inv π ρ H s.heap) (N : EnvR π ρ e env) (T : ItR π h0 ρ s.heap src k I) (x : Ext ρ0 h0 ρ s.heap) :
    codeAny (MM w) A (.compLoop (.ListComp elt' [⟨tgt, iter, ifs, 0⟩] scope pos) 0 (.ref I) (.ref D) env) R s := by
  refine loop_rule (fun j s' => j ≤ n ∧ ∃ H1 ρ1 k1 h tk, run P j (.Comp e tg src k1 ift elt acc) H1 = some (.nx, H') ∧ s' = { s with heap := h, toks := tk } ∧ Inv π ρ1 H1 h ∧ EnvR π ρ1 e env ∧ ItR π h0 ρ1 h src k1 I ∧ Ext ρ0 h0 ρ1 h) ?_ n ⟨Nat.le_refl _, H, ρ, k, s.heap, s.toks, er, rfl, Iv, N, T, x⟩
  rintro j s' ⟨hj, H1, ρ1, k1, h, tk, er, rfl, Iv, N, T, x⟩
  cases j with
  | zero => cases er
  | succ j =>
    have ih := ihs j (by omega)
    have Rj : Room (j + K) A := Rm.le (by omega)
    obtain ⟨i0, hit, er⟩ := bO_some (show (bO (nextIt H1 src k1) fun i => match i with
      | some it => bO (bindT e H1 tg it) fun H1 => bB (ifT (run P j) e ift H1) fun c H2 => stepC (run P j) e tg src k1 ift elt acc c H2
      | none => some (Out.nx, H1)) = some (.nx, H') from er)
    cases i0 with
    | some it =>
      obtain ⟨H2, hb, er⟩ := bO_some er
      obtain ⟨c, H3, hc, er⟩ := bB_some er
      refine next_sound (s := { s with heap := h, toks := tk }) (h0 := h0) C.base.sig Rm hit Iv T trT (fun it' q => by cases q; exact ⟨e, H2, hb⟩) (fun q => by cases q) fun it' q cv h1 tk1 hv I1 T1 k1' => ?_
      cases q
      refine bind_sound (s := { s with heap := h1, toks := tk1 }) Rm hb I1 N trT hv fun h2 tk2 I2 x2 => ?_
      have T2 := T1.ext x2
      have xx := (x.kept0 k1').trans x2
      -- behind the test
      have after : ∀ ρ3 h3 tk3, Inv π ρ3 H3 h3 → Ext ρ1 h2 ρ3 h3 →
          (if c = true then wpAny (MM w) A (eval elt' env) (fun x s₄ => wpAny (MM w) A (call (.builtin "list.append") [.ref D, x]) (fun _ s₅ => ∃ m, m < j + 1 ∧ m ≤ n ∧ ∃ H1 ρ1 k1 h tk, run P m (.Comp e tg src k1 ift elt acc) H1 = some (.nx, H') ∧ s₅ = { s with heap := h, toks := tk } ∧ Inv π ρ1 H1 h ∧ EnvR π ρ1 e env ∧ ItR π h0 ρ1 h src k1 I ∧ Ext ρ0 h0 ρ1 h) NoE s₄) NoE { s with heap := h3, toks := tk3 }
          else ∃ m, m < j + 1 ∧ m ≤ n ∧ ∃ H1 ρ1 k1 h tk, run P m (.Comp e tg src k1 ift elt acc) H1 = some (.nx, H') ∧ ({ s with heap := h3, toks := tk3 } : Shared) = { s with heap := h, toks := tk } ∧ Inv π ρ1 H1 h ∧ EnvR π ρ1 e env ∧ ItR π h0 ρ1 h src k1 I ∧ Ext ρ0 h0 ρ1 h) := by
        intro ρ3 h3 tk3 I3 x3
        cases c with
        | false => exact ⟨j, by omega, by omega, H3, ρ3, _, h3, tk3, er, rfl, I3, N.ext x3, T2.ext x3, xx.trans x3⟩
        | true =>
          obtain ⟨v, H4, h4, er⟩ := bV_some (show (bV (run P j (.E e elt) H3) fun v H3 => bL H3[acc]? fun pl us => gd (pl && decide (us.length ≤ 1000)) (run P j (.Comp e tg src (k1 + 1) ift elt acc) (H3.set acc (.list true (us ++ [v]))))) = some (.nx, H') from er)
          obtain ⟨pl, us, ea, er⟩ := bL_some er
          obtain ⟨hl, er⟩ := gd_some er
          refine ih.E _ _ _ _ _ h4 _ trE A { s with heap := h3, toks := tk3 } ρ3 env _ Rj I3 (N.ext x3) fun ρ4 cv4 h4' tk4 hv4 I4 x4 => ?_
          have hD : ρ4[acc]? = some D := ((xx.trans x3).trans x4).get hD0
          have ev : evME (.ref acc) .append [v] H4 = some (.none, H4.set acc (.list true (us ++ [v]))) := by
            show (bL H4[acc]? fun pl us => gd (pl && decide (us.length ≤ 1000)) (some (V.none, H4.set acc (.list true (us ++ [v]))))) = _
            rw [ea]
            show gd (pl && decide (us.length ≤ 1000)) _ = _
            rw [hl]; rfl
          refine evME_sound (s := { s with heap := h4', toks := tk4 }) (m := .append) C.base.sig ev I4 (c := .ref D) ⟨D, hD, rfl⟩ (cs := [cv4]) ⟨hv4, trivial⟩ fun ρ5 c5 h5 tk5 _ I5 x5 => ?_
          exact ⟨j, by omega, by omega, _, ρ5, _, h5, tk5, er, rfl, I5, ((N.ext x3).ext x4).ext x5, ((T2.ext x3).ext x4).ext x5, ((xx.trans x3).trans x4).trans x5⟩
      cases trI with
      | none =>
        refine wpAny_tests_nil ?_
        cases hc
        exact after ρ1 h2 tk2 I2 (.refl _ _)
      | some t =>
        refine wpAny_tests_one ?_
        exact ih.T _ _ _ _ _ hc _ t A { s with heap := h2, toks := tk2 } ρ1 env _ Rj I2 N fun ρ3 h3 tk3 I3 x3 => after ρ3 h3 tk3 I3 x3
    | none =>
      cases er
      exact next_sound (s := { s with heap := h, toks := tk }) (h0 := h0) C.base.sig Rm hit Iv T trT (fun _ q => by cases q) (fun _ h1 tk1 I1 k1' => hR ρ1 h1 tk1 I1 (x.kept0 k1')) (fun _ q => by cases q)
end
end Mine

namespace Mine
section
variable {w : World} {π : Par} {A : Around} {s : Shared} {ρ ρ' ρ0 : List Addr} {H H' : AH} {n m K : Nat} {mg mb : Str → Option Value} {e : AEnv} {env : Env} {st : Static} {P : Prm} {h0 : Heap}

theorem relabel_fst (scope outer : Scope) : (relabelS scope outer).names.map (·.1) = scope.names.map (·.1) := by
  unfold relabelS
  rw [List.map_map]
  apply List.map_congr_left
  rintro ⟨a, b⟩ _
  simp only [Function.comp]
  split <;> rfl
theorem relabel_at {scope outer : Scope} {i : Nat} {nm : Str × NameKind} (h : (relabelS scope outer).names[i]? = some nm) : ∃ k, scope.names[i]? = some (nm.1, k) := by
  have e : ((relabelS scope outer).names.map (·.1))[i]? = some nm.1 := by rw [List.getElem?_map, h]; rfl
  rw [relabel_fst, List.getElem?_map] at e
  cases q : scope.names[i]? with
  | none => rw [q] at e; cases e
  | some y => rw [q] at e; obtain ⟨a, b⟩ := y; cases e; exact ⟨b, rfl⟩

theorem Ext.glue {ρ1 new ρ' : List Addr} {hA hB h' : Heap} (eAB : Ext ρ1 hA ρ1 hB) (hnew : ∀ a ∈ new, hB.get? a = none) (x : Ext (ρ1 ++ new) hA ρ' h') : Ext ρ1 hA ρ' h' := by
  obtain ⟨ext, rfl, f⟩ := x.pre
  have fresh : ∀ a ∈ new, hA.get? a = none ∨ a ∈ ρ1 := fun a m => by
    by_cases hm : a ∈ ρ1
    · exact .inr hm
    · left
      cases q : hA.get? a with
      | none => rfl
      | some o => have := eAB.kept a o hm q; rw [hnew a m] at this; cases this
  refine ⟨⟨new ++ ext, by rw [List.append_assoc], fun a m => ?_⟩, fun b o hb q => ?_⟩
  · rcases List.mem_append.mp m with m | m
    · exact fresh a m
    · rcases f a m with q | q
      · exact .inl q
      · rcases List.mem_append.mp q with q | q
        · exact .inr q
        · exact fresh a q
  · refine x.kept b o (fun m => ?_) q
    rcases List.mem_append.mp m with m | m
    · exact hb m
    · rcases fresh b m with q2 | q2
      · rw [q2] at q; cases q
      · exact hb q2
theorem comp_core (C : Ctx w π mg mb st P K) (ihs : ∀ k, k ≤ m → SoundAt w π st P K k) {c nn : Nat} {fr : List (Option Nat)} {tg : TG} {sk : SK} {src elt : X} {ift : Option X} {v : V} {elt' tgt iter : Expr} {ifs : List Expr} {scope : Scope} {pos p : Pos} {use : Option (Value → Sem Unit)} {Q : Value → Shared → Prop}
    (er : run P (m + 1) (.E e (.comp c nn fr tg sk src ift elt)) H = some (.v v, H')) (tr : TrE st (scOf st e.sc) (.comp c nn fr tg sk src ift elt) (.ListComp elt' [⟨tgt, iter, ifs, 0⟩] scope pos)) (R : Room (m + 1 + K) A) (I : Inv π ρ H s.heap) (N : EnvR π ρ e env)
    (hpost : ∀ ρ' D Cl h' tk' H2 k sc' mm', VR π ρ' v (.ref D) → Inv π ρ' H2 h' → H2[k]? = some (.ns sc' mm') → H' = H2.set k (.ns c []) → ρ'[k]? = some Cl → ((π.scs c).names.map (·.1)).Nodup → (∃ mm, h'.Ns Cl mm) → Ext ρ s.heap ρ' h' → Post w A use Q (.ref D) Cl (.ok .next) { s with heap := h', toks := tk' }) :
    wpAny (MM w) A (comprehension (.ListComp elt' [⟨tgt, iter, ifs, 0⟩] scope pos) scope env p (newList []) false (eval iter env) use) Q NoE s := by
  have ih := ihs m (Nat.le_refl _)
  have R' : Room (m + K) A := R.le (by omega)
  replace er : stepE P (run P m) e (.comp c nn fr tg sk src ift elt) H = some (.v v, H') := er
  cases tr with
  | comp hsc hnn hkind hnd hcell hnames hfold frr trS trT trI trE =>
    obtain ⟨x, H1, h1, k1⟩ := bV_some er
    obtain ⟨so, hso, k2⟩ := bO_some k1
    obtain ⟨hok, k3⟩ := gd_some k2
    rcases bS_some k3 with ⟨H2, h2, k4⟩ | ⟨_, _, _, k4⟩
    rotate_left
    · cases k4
    obtain ⟨sc', mm', hns2, k5⟩ := bN_some k4
    cases k5
    have hS : π.scs e.sc = scOf st e.sc := C.scs _
    obtain ⟨hc1, hc2⟩ := fr_cells N hS frr hok
    refine comp_rule rfl (hfold env) (closureFor_is hc1) hkind hnames ?_
    refine src_sound C ih h1 hso trS R' I N fun ρ1 hA hB tkB a I1 e1 eAB T => ?_
    refine wpAny_newObj_type (wpAny_newFunctionEnv hcell (by intro y hy; simp at hy) (fun h₁ hns₁ hsb₁ => ?_) hkind)
    dsimp only at hns₁ hsb₁ ⊢
    -- the list
    have hpl := I1.push (s := { s with heap := hB, toks := tkB }) (ob := { cls := .type "list", dict := none, data := .seq ([] : List Value).toArray }) (o := .list true []) (push_list (ρ' := ρ1 ++ [hB.objs.size]) (vs := []) (cvs := []) trivial)
    generalize hhC : hB.push { cls := .type "list", dict := none, data := .seq ([] : List Value).toArray } = hC at hns₁ hsb₁ hpl
    -- the names
    have kC : ∀ b o, hC.get? b = some o → h₁.get? b = some o := fun b o q => hsb₁.extBut b o (Nat.ne_of_lt (Heap.lt_size q)) (Heap.get?_push_of_some _ q)
    have hnd' : ((π.scs c).names.map (·.1)).Nodup := by rw [C.scs, hsc, relabel_fst]; exact hnd
    have hpn := hpl.1.alloc (h' := h₁) (a := hC.objs.size) (o := .ns c (List.replicate nn none)) rfl kC ⟨hnd', _, hns₁, fun i v nm q1 q2 => by
      rw [List.getElem?_replicate] at q1
      split at q1 <;> cases q1⟩
    have eBC := hpl.2.trans hpn.2
    have T2 := T.ext eBC
    have hl1 : ρ1.length = H1.length := I1.len
    have N2 : EnvR π (ρ1 ++ [hB.objs.size] ++ [hC.objs.size]) { sc := c, loc := H1.length + 1, cells := freeCells e fr } { newEnv scope hC.objs.size env.globals (closL env scope.names []) env.qual none .none (some env) builtinsNs with scope := relabel scope env } := by
      refine ⟨?_, ?_, ?_, N.glob, N.blt, ?_, fun f q => by cases q⟩
      · show relabel scope env = π.scs c
        rw [C.scs, hsc, ← C.scs e.sc, ← N.sc]; rfl
      · show (π.scs c).kind = .function
        rw [C.scs, hsc]; exact hkind
      · show (ρ1 ++ [hB.objs.size] ++ [hC.objs.size])[H1.length + 1]? = some hC.objs.size
        rw [List.getElem?_append_right (by simp [hl1])]
        simp [hl1]
      · intro i j nm q1 q2
        have q2 : (π.scs c).names[i]? = some nm := q2
        rw [C.scs, hsc] at q2
        obtain ⟨k, q3⟩ := relabel_at q2
        obtain ⟨cc, q4, q5, q6⟩ := hc2 i j _ q1 q3
        refine ⟨cc, ((e1.trans eAB).trans eBC).get q4, ?_⟩
        show (closL env scope.names []).lookup nm.1 = some cc
        have q6 : k = .free := q6
        subst q6
        rw [closL_lookup hc1 (.inl (List.mem_of_getElem? q3))]
        exact q5
    have hlA : (H1 ++ [AO.list true []]).length = H1.length + 1 := by simp
    have hacc : (ρ1 ++ [hB.objs.size] ++ [hC.objs.size])[H1.length]? = some hB.objs.size := by
      rw [List.append_assoc, List.getElem?_append_right (by omega), hl1]; simp
    have loop : codeAny (MM w) A (.compLoop (.ListComp elt' [⟨tgt, iter, ifs, 0⟩] scope pos) 0 (.ref a) (.ref hB.objs.size) { newEnv scope hC.objs.size env.globals (closL env scope.names []) env.qual none .none (some env) builtinsNs with scope := relabel scope env })
        (Post w A use Q (.ref hB.objs.size) hC.objs.size) { s with heap := h₁, toks := tkB + 0 } := by
      have trT' : TgR (π.scs c) tg tgt := by rw [C.scs, hsc]; exact trT
      have trI' : TrIf st (scOf st c) ift ifs := by rw [hsc]; exact trI
      have trE' : TrE st (scOf st c) elt elt' := by rw [hsc]; exact trE
      refine comp_loop (s := { s with heap := h₁, toks := tkB + 0 }) (h0 := hA) (ρ0 := ρ1 ++ [hB.objs.size] ++ [hC.objs.size]) (e := { sc := c, loc := H1.length + 1, cells := freeCells e fr }) C trT' trI' trE' (fun k hk => ihs k (by omega)) R' hacc (fun ρ' h' tk' I' x' => ?_) h2 (by simpa using hpn.1) N2 T2 ?_
      · have hCl : ρ'[H1.length + 1]? = some hC.objs.size := x'.get N2.loc
        obtain ⟨ad, q1, _, mm, q2, _⟩ := I'.at hns2
        rw [hCl] at q1; cases q1
        have hv : VR π ρ' (.ref H1.length) (.ref hB.objs.size) := ⟨_, x'.get hacc, rfl⟩
        have xx : Ext ρ s.heap ρ' h' := by
          refine e1.trans (Ext.glue (new := [hB.objs.size, hC.objs.size]) eAB (fun a m => ?_) (by simpa using x'))
          rcases List.mem_cons.mp m with rfl | m
          · exact free_size _
          · rw [List.mem_singleton.mp m]
            cases q : hB.get? hC.objs.size with
            | none => rfl
            | some o =>
              have q' : hC.get? hC.objs.size = some o := by rw [← hhC]; exact Heap.get?_push_of_some _ (by rw [hhC]; exact q)
              rw [free_size] at q'; cases q'
        exact hpost ρ' hB.objs.size hC.objs.size h' tk' H2 (H1.length + 1) _ _ hv I' hns2 rfl hCl hnd' ⟨mm, q2⟩ xx
      · refine ⟨⟨[], by simp, by simp⟩, fun b o hb q => ?_⟩
        have hb1 : b ∉ ρ1 := fun m => hb (by simp [m])
        exact eBC.kept b o hb1 (eAB.kept b o hb1 q)
    exact codeAny_compStart_list loop (noE_mono (iter_self T2 loop))
end
end Mine

namespace Mine
section
variable {w : World} {π : Par} {A : Around} {s : Shared} {ρ ρ' ρ0 : List Addr} {H H' : AH} {n m K : Nat} {mg mb : Str → Option Value} {e : AEnv} {env : Env} {st : Static} {P : Prm} {h0 : Heap}

theorem comp_E (C : Ctx w π mg mb st P K) (ihs : ∀ k, k ≤ m → SoundAt w π st P K k) {c nn : Nat} {fr : List (Option Nat)} {tg : TG} {sk : SK} {src elt : X} {ift : Option X} {v : V} {ex : Expr} {Q : Value → Shared → Prop}
    (er : run P (m + 1) (.E e (.comp c nn fr tg sk src ift elt)) H = some (.v v, H')) (tr : TrE st (scOf st e.sc) (.comp c nn fr tg sk src ift elt) ex) (R : Room (m + 1 + K) A) (I : Inv π ρ H s.heap) (N : EnvR π ρ e env)
    (hQ : OnV π ρ s H' v Q) : wpAny (MM w) A (eval ex env) Q NoE s := by
  have key : ∃ elt' tgt iter ifs scope pos, ex = .ListComp elt' [⟨tgt, iter, ifs, 0⟩] scope pos := by
    cases tr with
    | comp _ _ _ _ _ _ _ _ _ _ _ _ => exact ⟨_, _, _, _, _, _, rfl⟩
  obtain ⟨elt', tgt, iter, ifs, scope, pos, rfl⟩ := key
  rw [eval_ListComp]
  refine comp_core (use := none) C ihs er tr R I N fun ρ' D Cl h' tk' H2 k sc' mm' hv I' hk hH hCl hnd hns xx => ?_
  obtain ⟨mm, hns⟩ := hns
  refine ⟨mm, hns, fun h'' m' hns' hs => ?_⟩
  have hq := I'.set hk rfl hCl hs (o := .ns c []) ⟨hnd, _, hns', fun i v nm q1 _ => by simp at q1⟩
  rw [← hH] at hq
  exact hQ ρ' (.ref D) h'' tk' hv hq.1 (xx.trans hq.2)

theorem setV_swap {x : Var} {v : V} {k c : Nat} {H2 H3 : AH} (h : setV e (H2.set k (.ns c [])) x v = some H3) : ∃ H4, setV e H2 x v = some H4 ∧ H3 = H4.set k (.ns c []) ∧ ∀ o₀, H2[k]? = some o₀ → H4[k]? = some o₀ := by
  cases x with
  | loc x =>
    obtain ⟨sc, m, hm, k1⟩ := bN_some h
    obtain ⟨hsc, k2⟩ := gd_some k1
    obtain ⟨u, hu, k3⟩ := bO_some k2
    cases k3
    by_cases hk : e.loc = k
    · subst hk
      rw [List.getElem?_set_self'] at hm
      cases q : H2[e.loc]? with
      | none => rw [q] at hm; cases hm
      | some o => rw [q] at hm; cases hm; simp at hu
    · rw [List.getElem?_set_ne (Ne.symm hk)] at hm
      refine ⟨H2.set e.loc (.ns sc (m.set x (some v))), ?_, ?_, fun o₀ h₀ => by rw [List.getElem?_set_ne hk]; exact h₀⟩
      · show (bN H2[e.loc]? fun sc m => gd (sc == e.sc) (bO m[x]? fun _ => some (H2.set e.loc (.ns sc (m.set x (some v)))))) = _
        rw [hm]
        show gd (sc == e.sc) (bO m[x]? fun _ => some (H2.set e.loc (.ns sc (m.set x (some v))))) = _
        rw [hsc, hu]; rfl
      · rw [List.set_comm _ _ (Ne.symm hk)]
  | cel x =>
    obtain ⟨i, hi, k1⟩ := bO_some h
    obtain ⟨u, hu, k2⟩ := bCl_some k1
    cases k2
    by_cases hk : i = k
    · subst hk
      rw [List.getElem?_set_self'] at hu
      cases q : H2[i]? with
      | none => rw [q] at hu; cases hu
      | some o => rw [q] at hu; cases hu
    · rw [List.getElem?_set_ne (Ne.symm hk)] at hu
      refine ⟨H2.set i (.cell (some v)), ?_, ?_, fun o₀ h₀ => by rw [List.getElem?_set_ne hk]; exact h₀⟩
      · show (bO (joinO e.cells[x]?) fun i => bCl H2[i]? fun _ => some (H2.set i (.cell (some v)))) = _
        rw [hi]
        show (bCl H2[i]? fun _ => some (H2.set i (.cell (some v)))) = _
        rw [hu]; rfl
      · rw [List.set_comm _ _ (Ne.symm hk)]

/-- x = [comprehension], x local: the value is used before the names go -/
theorem assignC_step (C : Ctx w π mg mb st P K) (ihs : ∀ k, k ≤ m → SoundAt w π st P K k) {x : Var} {y : X} {v : V} {H1 : AH} {nm : Str} {ex : Expr} {p pos : Pos} {Q : Flow → Shared → Prop}
    (hs : swapsWith ex (some (.Name nm p)) pos.line env = pure true) (r : StoR (scOf st e.sc) x nm) (tr : TrE st (scOf st e.sc) y ex)
    (er : run P (m + 1) (.E e y) H = some (.v v, H1)) (ev : setV e H1 x v = some H') (hcomp : ∃ c nn fr tg sk src ift elt, y = .comp c nn fr tg sk src ift elt) (R : Room (m + 1 + K) A) (I : Inv π ρ H s.heap) (N : EnvR π ρ e env)
    (hQ : OnS π ρ s H' .nx Q) : wpAny (MM w) A (exec (.Assign [.Name nm p] ex pos) env) Q NoE s := by
  obtain ⟨c, nn, fr, tg, sk, src, ift, elt, rfl⟩ := hcomp
  have key : ∃ elt' tgt iter ifs scope pos, ex = .ListComp elt' [⟨tgt, iter, ifs, 0⟩] scope pos := by
    cases tr with
    | comp _ _ _ _ _ _ _ _ _ _ _ _ => exact ⟨_, _, _, _, _, _, rfl⟩
  obtain ⟨elt', tgt, iter, ifs, scope, cpos, rfl⟩ := key
  rw [exec_Assign_Name_used _ _ _ _ hs]
  refine wpAny_bind (wpAny_standAt (wpAny_bind ?_))
  show wpAny _ A (do let _ ← comprehension (.ListComp elt' [⟨tgt, iter, ifs, 0⟩] scope cpos) scope env _ (newList []) false (eval iter env) (some (assign (.Name nm p) env))) _ _ s
  refine wpAny_bind (comp_core (use := some (assign (.Name nm p) env)) C ihs er tr R I N fun ρ' D Cl h' tk' H2 k sc' mm' hv I' hk hH hCl hnd hns xx => ?_)
  rw [hH] at ev
  obtain ⟨H4, h4, hH', hlive⟩ := setV_swap ev
  rw [← C.scs] at r
  show wpAny (MM w) A (assign (.Name nm p) env (.ref D)) _ NoE _
  refine wpAny_assign_Name (store_sound (s := { s with heap := h', toks := tk' }) h4 I' (N.ext xx) r hv fun h2 tk2 I2 x2 => ?_)
  obtain ⟨ad, q1, _, mm, q2, _⟩ := I2.at (hlive _ hk)
  rw [hCl] at q1; cases q1
  refine ⟨mm, q2, fun h3 m' hns' hs3 => ?_⟩
  have hq := I2.set (hlive _ hk) rfl hCl hs3 (o := .ns c []) ⟨hnd, _, hns', fun i v nm q1 _ => by simp at q1⟩
  rw [← hH'] at hq
  exact wpAny_pure (wpAny_pure (hQ ρ' .next h3 tk2 trivial hq.1 ((xx.trans x2).trans hq.2)))
end
end Mine

namespace Mine
theorem lookup_zip_rev : ∀ {ps : List Str} {cs : List Value} {i : Nat} {p : Str} {c : Value}, ps.Nodup → ps[i]? = some p → cs[i]? = some c → (ps.zip cs).reverse.lookup p = some c
  | [], _, _, _, _, _, h, _ => by simp at h
  | _ :: _, [], _, _, _, _, _, h => by simp at h
  | q :: ps, d :: cs, i, p, c, hn, h1, h2 => by
    rw [List.nodup_cons] at hn
    rw [List.zip_cons_cons, List.reverse_cons, List.lookup_append]
    cases i with
    | zero =>
      have e1 : q = p := by simpa using h1
      have e2 : d = c := by simpa using h2
      subst e1; subst e2
      have : (ps.zip cs).reverse.lookup q = none := by
        rw [List.lookup_eq_none_iff]
        intro x hx
        have hx := List.mem_reverse.mp hx
        have := (List.of_mem_zip (a := x.1) (b := x.2) hx).1
        first
          | (intro e; exact hn.1 (e ▸ this))
          | (rw [beq_eq_false_iff_ne]; intro e; exact hn.1 (e ▸ this))
          | (simp; intro e; exact hn.1 (e ▸ this))
      rw [this]; simp
    | succ i =>
      rw [lookup_zip_rev hn.2 (by simpa using h1) (by simpa using h2)]; rfl
section
variable {w : World} {π : Par} {A : Around} {s : Shared} {ρ ρ' ρ0 : List Addr} {H H' : AH} {n m K : Nat} {mg mb : Str → Option Value} {e : AEnv} {env : Env} {st : Static} {P : Prm} {h0 : Heap}

theorem clos_call (C : Ctx w π mg mb st P K) (ih : SoundAt w π st P K m) {i f : Nat} {cl : List (Option Nat)} {F : Fn} {vs : List V} {cvs : List Value} {o : Out} {c : Value} {Q : Value → Shared → Prop}
    (hi : H[i]? = some (.clos f cl)) (hF : P.fns f = some F) (hnp : vs.length = F.np) (er : run P m (.B { (enter F vs H).1 with cells := cl } F.body) (enter F vs H).2 = some (o, H')) (xi : VR π ρ (.ref i) c) (xs : VRs π ρ vs cvs)
    (R : Room (m + 1 + K) A) (I : Inv π ρ H s.heap) (hQ : ∀ v, o = .rt v ∨ (o = .nx ∧ v = .none) → OnV π ρ s H' v Q) :
    ∃ a oo fd, c = .ref a ∧ (s.heap.get? a = some oo ∧ oo.data = .func fd) ∧ wpAny (MM w) A (call (.ref a) cvs) Q NoE s := by
  obtain ⟨a, ea, c', doc, pm, ctv, cs, ho, hc', hrec, hcells⟩ := I.at hi
  cases xi.ref_at ea
  refine ⟨a, _, _, rfl, ⟨ho, rfl⟩, ?_⟩
  obtain ⟨h1, h2, h3, h4, h5, h6, h7, h8, ps, h9, h10, h11⟩ := C.clos f F hF
  have hl := xs.length
  have hnd : ps.Nodup := by
    have : ps = ((π.ni f).scope.names.map (·.1)).take ps.length := by
      apply List.ext_getElem?
      intro j
      by_cases hj : j < ps.length
      · obtain ⟨q1, _⟩ := h10 j ps[j] (List.getElem?_eq_getElem hj)
        rw [List.getElem?_take_of_lt hj, List.getElem?_map, q1, List.getElem?_eq_getElem hj]; rfl
      · rw [List.getElem?_eq_none (by omega), List.getElem?_eq_none (by rw [List.length_take]; omega)]
    rw [this]
    exact List.Nodup.sublist (List.take_sublist _ _) h5
  refine wpAny_call (codeAny_call_def (binds := ps.zip cvs) R.lim ho rfl ?_ hrec rfl (h11 cvs (by omega) s cs doc pm _ ctv) h6 ?_ (fun hh hns hk => ?_) h7 h8 h4)
  · obtain ⟨mc, q1, q2⟩ := C.base.lim
    exact ⟨mc, ns_at q1 fun o e => I.base _ _ e, q2⟩
  · intro x hx
    have := (List.of_mem_zip (a := x.1) (b := x.2) hx).1
    obtain ⟨j, hj, q⟩ := List.getElem_of_mem this
    exact (h10 j x.1 (by rw [List.getElem?_eq_getElem hj, q])).2
  · have hk' : ∀ b o, s.heap.get? b = some o → hh.get? b = some o := hk
    have hal := I.alloc (h' := hh) (a := s.heap.objs.size) (o := .ns F.sc (vs.map some ++ List.replicate (F.nn - vs.length) none)) rfl hk' ⟨by rw [C.scs, h1]; exact h5, _, hns, fun j v nm q1 q2 => by
      rw [C.scs, h1] at q2
      by_cases hj : j < vs.length
      · rw [List.getElem?_append_left (by simpa using hj), List.getElem?_map] at q1
        cases q3 : vs[j]? with
        | none => rw [q3] at q1; cases q1
        | some u =>
          rw [q3] at q1
          cases q1
          obtain ⟨cv, q4, q5⟩ := xs.get q3
          have hjp : j < ps.length := by omega
          obtain ⟨q6, _⟩ := h10 j ps[j] (List.getElem?_eq_getElem hjp)
          rw [q2] at q6
          cases q6
          exact ⟨cv, lookup_zip_rev hnd (List.getElem?_eq_getElem hjp) q4, q5.mono⟩
      · rw [List.getElem?_append_right (by simpa using hj), List.getElem?_replicate] at q1
        split at q1 <;> cases q1⟩
    have N2 : EnvR π (ρ ++ [s.heap.objs.size]) { (enter F vs H).1 with cells := cl } (callEnv (fnX (π.ni f).name (π.ni f).qual (π.ni f).params (π.ni f).body (π.ni f).scope cs .none .none doc pm none (.ref c') ctv) s.heap.objs.size a) := by
      refine ⟨?_, ?_, ?_, rfl, rfl, ?_, fun f q => by cases q⟩
      · show (π.ni f).scope = π.scs F.sc
        rw [C.scs, h1]
      · show (π.scs F.sc).kind = .function
        rw [C.scs, h1]; exact h4
      · show (ρ ++ [s.heap.objs.size])[H.length]? = some s.heap.objs.size
        rw [← I.len]; exact get_app_len _ _
      · show CellsR _ (π.scs F.sc) cl cs
        rw [C.scs, h1]
        exact hcells.mono
    refine noE_mono (ih.B _ _ _ _ _ er _ ?_ (A.deeper _) { s with heap := hh, toks := s.toks + (ps.zip cvs).length } _ _ _ ?_ hal.1 N2 fun ρ3 fl h3 tk3 hf I3 x3 => ?_)
    · show TrB st (scOf st F.sc) F.body (π.ni f).body
      rw [h1]; exact h2
    · have : Room (m + K + 1) A := R.le (by omega)
      exact this.deep _
    · cases o with
      | nx =>
        cases fl with
        | next => exact hQ .none (.inr ⟨rfl, rfl⟩) ρ3 .none h3 tk3 rfl I3 (hal.2.trans x3)
        | _ => exact hf.elim
      | rt v =>
        cases fl with
        | ret cv => exact hQ v (.inl rfl) ρ3 cv h3 tk3 hf I3 (hal.2.trans x3)
        | _ => exact hf.elim
      | _ => exact hf.elim
end
end Mine

namespace Mine
section
variable {w : World} {π : Par} {A : Around} {s : Shared} {ρ ρ' ρ0 : List Addr} {H H' : AH} {n m K : Nat} {mg mb : Str → Option Value} {e : AEnv} {env : Env} {st : Static} {P : Prm} {h0 : Heap}

/-- a nested def -/
theorem def_step (C : Ctx w π mg mb st P K) {x : Var} {f : Nat} {cl : List (Option Nat)} {name : Str} {params : Arguments} {body : List Stmt} {scope : Scope} {pos : Pos} {Q : Flow → Shared → Prop}
    (hd : st.defs[f]? = some ⟨name, params, body, scope, pos⟩) (hgl : (scOf st e.sc).names.lookup name ≠ some .globalExplicit) (hp1 : params.defaults = []) (hp2 : params.kw_defaults = []) (hann : ∀ env, annTrees params none env = [])
    (r : StoR (scOf st e.sc) x name) (frr : FrR (scOf st e.sc) scope.names cl) (hcf : e.cf = f + 1) (hok : cellsOk e cl = true) {it : Nat} (htab : H[it]? = some (.tab f))
    (ev : setV e (H ++ [.clos f (freeCells e cl)]) x (.ref H.length) = some H') (I : Inv π ρ H s.heap) (N : EnvR π ρ e env)
    (hQ : OnS π ρ s H' .nx Q) : wpAny (MM w) A (exec (.FunctionDef name params body [] none [] scope none name pos) env) Q NoE s := by
  obtain ⟨d1, d2, d3, d4, d5, d6⟩ := C.defs f _ hd
  dsimp only at d1 d2 d3 d4 d5
  obtain ⟨hcode, hqual⟩ := N.cf f hcf
  have hS : π.scs e.sc = scOf st e.sc := C.scs _
  obtain ⟨hc1, hc2⟩ := fr_cells N hS frr hok
  have hg : s.heap.Ns mainGlobals mg := ns_at C.base.g fun o e => I.base _ _ e
  obtain ⟨bm, ob, b1, b2, b3, b4, b5, b6, b7⟩ := C.bm
  obtain ⟨aP, eP, htr, htb⟩ := I.at htab
  have hPnb : π.hb.get? (π.ni f).P = none := htr ▸ I.new _ (List.mem_of_getElem? eP)
  have hbmP : bm ≠ (π.ni f).P := fun q => by rw [q, hPnb] at b4; cases b4
  have hgP : mainGlobals ≠ (π.ni f).P := fun q => by
    obtain ⟨o, es, ep, q2, _⟩ := C.base.g
    rw [q, hPnb] at q2; cases q2
  have hB : s.heap.BuiltinsAt mg (π.ni f).P := ⟨bm, ob, b1, b2, b3, hbmP, I.base _ _ b4, b5, b6, b7⟩
  have hCd : CodeHd s.heap (π.ni f).c (π.ni f).P := by
    obtain ⟨o, vs, file, tf, flags, tg, inF, text, tt, q1, q2⟩ := d6
    exact ⟨o, vs, file, tf, flags, tg, inF, text, tt, I.base _ _ q1, q2⟩
  have hqn : qualnameIn env name name = (π.ni f).qual := by
    unfold qualnameIn
    have : (env.kindOf name == some .globalExplicit) = false := by
      rw [N.kindOf, hS, beq_eq_false_iff_ne]; exact hgl
    rw [this]
    simp only [Bool.false_eq_true, if_false]
    rw [← hqual, d1]
  have hclos : CellsR ρ (π.ni f).scope (freeCells e cl) (closL env scope.names []) := by
    intro i j nm q1 q2
    rw [d4] at q2
    obtain ⟨cc, q4, q5, q6⟩ := hc2 i j _ q1 q2
    refine ⟨cc, q4, ?_⟩
    have hm : (nm.1, NameKind.free) ∈ scope.names := by
      have := List.mem_of_getElem? q2
      obtain ⟨y, k⟩ := nm
      have q6 : k = .free := q6
      subst q6
      exact this
    rw [closL_lookup hc1 (.inl hm)]; exact q5
  rw [← hS] at r
  refine nestDef_K hp1 hp2 (hann env) ?_
  rw [hqn]
  -- the end: a closure at the heap's end
  have fin : ∀ (c' : Addr) (doc pm ctv : Value) (h' : Heap) (tk : Tok), Inv π ρ H h' → Ext ρ s.heap ρ h' → c' ∉ ρ → c' < h'.objs.size → h'.CodeRec (.ref c') (π.ni f).qual →
      wpAny (MM w) A (storeName env name (.ref h'.objs.size)) (fun _ s'' => Q .next s'') NoE { s with heap := h'.push (fnMade name (π.ni f).qual params body scope (closL env scope.names []) doc pm c' ctv), toks := tk } := by
    intro c' doc pm ctv h' tk I' x' hn hlt hrec
    have hob : ObjR π (ρ ++ [h'.objs.size]) (h'.push (fnMade name (π.ni f).qual params body scope (closL env scope.names []) doc pm c' ctv)) h'.objs.size (.clos f (freeCells e cl)) := by
      refine ⟨c', doc, pm, ctv, closL env scope.names [], ?_, ?_, codeRec_kept hrec fun o q => Heap.get?_push_of_some _ q, hclos.mono⟩
      · rw [d1, d2, d3, d4]
        exact Heap.get?_push_size _ rfl
      · intro m
        rcases List.mem_append.mp m with m | m
        · exact hn m
        · exact absurd (List.mem_singleton.mp m) (Nat.ne_of_lt hlt)
    have hal := I'.alloc (h' := h'.push (fnMade name (π.ni f).qual params body scope (closL env scope.names []) doc pm c' ctv)) rfl (fun _ _ q => Heap.get?_push_of_some _ q) hob
    have hv : VR π (ρ ++ [h'.objs.size]) (.ref H.length) (.ref h'.objs.size) := ⟨_, by rw [← I.len]; exact get_app_len _ _, rfl⟩
    exact store_sound (s := { s with heap := h'.push (fnMade name (π.ni f).qual params body scope (closL env scope.names []) doc pm c' ctv), toks := tk }) ev hal.1 (N.ext (x'.trans hal.2)) r hv fun h3 tk3 I3 x3 => hQ _ .next h3 tk3 trivial I3 ((x'.trans hal.2).trans x3)
  rcases htb with hP | ⟨c', hP, hcn, hcr⟩
  · rw [htr] at hP
    refine makeFunction_K (mg := mg) (closureFor_is hc1) N.glob hg hcode hCd hP trivial rfl hgP hB fun c' ctv doc h' tk hx hge hlt hrec htb => ?_
    have hcn : c' ∉ ρ := I.nin (Heap.get?_none_of_le hge)
    have hq := I.setE htab rfl eP (h' := h') (o := .tab f) (fun b o hb q => hx b o (htr ▸ hb) q) ⟨htr, .inr ⟨c', by rw [htr, htb, d5]; rfl, hcn, hrec⟩⟩
    have hset : H.set it (.tab f) = H := by
      apply List.ext_getElem?
      intro j
      by_cases hj : j = it
      · subst hj; rw [List.getElem?_set_self', htab]; rfl
      · rw [List.getElem?_set_ne (Ne.symm hj)]
    rw [hset] at hq
    exact fin c' doc _ ctv h' tk hq.1 hq.2 hcn hlt hrec
  · rw [htr] at hP
    have hf : codeAmong pos [rawInt (π.ni f).pos.line, rawInt (π.ni f).pos.col, .ref c'] = some (.ref c') := by
      rw [d5]
      simp [codeAmong, rawInt]
    refine makeFunction_hit (mg := mg) (closureFor_is hc1) N.glob hg hcode hCd hP trivial hf hB fun ctv doc h' tk hk hsz => ?_
    have hlt : c' < h'.objs.size := by
      obtain ⟨o, q⟩ := codeRec_live hcr
      exact Heap.lt_size (hk _ _ q)
    exact fin c' doc _ ctv h' tk (I.grow hk) (.of_kept fun b o _ q => hk b o q) hcn hlt (codeRec_kept hcr fun o q => hk _ o q)
end
end Mine

namespace Mine
section
variable {w : World} {π : Par} {A : Around} {s : Shared} {ρ ρ' ρ0 : List Addr} {H H' : AH} {n m K : Nat} {mg mb : Str → Option Value} {e : AEnv} {env : Env} {st : Static} {P : Prm} {h0 : Heap}

theorem pure_sound (C : Ctx w π mg mb st P K) : ∀ (x : X) (v : V) (s : Shared) (ρ : List Addr) (ex : Expr) (Q : Value → Shared → Prop), pureV e H x = some v → TrE st (scOf st e.sc) x ex → Inv π ρ H s.heap → EnvR π ρ e env → OnV π ρ s H v Q → wpAny (MM w) A (eval ex env) Q NoE s
  | .cint i, v, s, ρ, ex, Q, ev, tr, I, N, hQ => by
    cases tr; cases ev
    exact wpAny_Constant_int (hQ ρ _ s.heap (s.toks + 1) ⟨s.toks, by rw [lv_one C.base.sig.one]⟩ I (.refl _ _))
  | .var x, v, s, ρ, ex, Q, ev, tr, I, N, hQ => by
    cases tr with
    | var r =>
      rw [← C.scs] at r
      exact name_sound (show getV e H _ = some v from ev) I N r hQ
  | .item o i, v, s, ρ, ex, Q, ev, tr, I, N, hQ => by
    cases tr with
    | item hs t1 t2 =>
      obtain ⟨a, ha, ev1⟩ := bO_some (show (bO (pureV e H o) fun a => bO (pureV e H i) fun b => evItem a b H) = some v from ev)
      obtain ⟨b, hb, ev2⟩ := bO_some ev1
      refine Subscript_ (pure_sound C o a s ρ _ _ ha t1 I N fun ρ1 c1 h1 tk1 hv1 I1 e1 => ?_)
      refine pure_sound C i b { s with heap := h1, toks := tk1 } ρ1 _ _ hb t2 I1 (N.ext e1) fun ρ2 c2 h2 tk2 hv2 I2 e2 => ?_
      exact item_sound (s := { s with heap := h2, toks := tk2 }) C.base.sig ev2 I2 (e2.vr hv1) hv2 hs fun ρ3 cv h3 tk3 hv3 I3 e3 => hQ ρ3 cv h3 tk3 hv3 I3 ((e1.trans e2).trans e3)
  | .bin o x y, v, s, ρ, ex, Q, ev, tr, I, N, hQ => by
    cases tr with
    | bin t1 t2 =>
      obtain ⟨a, ha, ev1⟩ := bO_some (show (bO (pureV e H x) fun a => bO (pureV e H y) fun b => bin2 o a b) = some v from ev)
      obtain ⟨b, hb, ev2⟩ := bO_some ev1
      refine wpAny_BinOp (pure_sound C x a s ρ _ _ ha t1 I N fun ρ1 c1 h1 tk1 hv1 I1 e1 => ?_)
      refine pure_sound C y b { s with heap := h1, toks := tk1 } ρ1 _ _ hb t2 I1 (N.ext e1) fun ρ2 c2 h2 tk2 hv2 I2 e2 => ?_
      exact bin2_sound (s := { s with heap := h2, toks := tk2 }) C.base.sig ev2 I2 (e2.vr hv1) hv2 fun ρ3 cv h3 tk3 hv3 I3 e3 => hQ ρ3 cv h3 tk3 hv3 I3 ((e1.trans e2).trans e3)
  | .cbool _, _, _, _, _, _, ev, _, _, _, _ => by cases ev
  | .cnone, _, _, _, _, _, ev, _, _, _, _ => by cases ev
  | .gint _, _, _, _, _, _, ev, _, _, _, _ => by cases ev
  | .list _, _, _, _, _, _, ev, _, _, _, _ => by cases ev
  | .tup _, _, _, _, _, _, ev, _, _, _, _ => by cases ev
  | .dict0, _, _, _, _, _, ev, _, _, _, _ => by cases ev
  | .cmp _ _ _, _, _, _, _, _, ev, _, _, _, _ => by cases ev
  | .band _, _, _, _, _, _, ev, _, _, _, _ => by cases ev
  | .bor _, _, _, _, _, _, ev, _, _, _, _ => by cases ev
  | .ife _ _ _, _, _, _, _, _, ev, _, _, _, _ => by cases ev
  | .upto _ _, _, _, _, _, _, ev, _, _, _, _ => by cases ev
  | .callG _ _, _, _, _, _, _, ev, _, _, _, _ => by cases ev
  | .callC _ _, _, _, _, _, _, ev, _, _, _, _ => by cases ev
  | .bi _ _, _, _, _, _, _, ev, _, _, _, _ => by cases ev
  | .meth _ _ _, _, _, _, _, _, ev, _, _, _, _ => by cases ev
  | .comp _ _ _ _ _ _ _ _, _, _, _, _, _, ev, _, _, _, _ => by cases ev
  | .src7 _, _, _, _, _, _, ev, _, _, _, _ => by cases ev
  | .bad, _, _, _, _, _, ev, _, _, _, _ => by cases ev

/-- what an atom says -/
noncomputable def holds (π : Par) (q : Bool × Lin) : Prop := (q.1 = true → lv π.σ 0 q.2 = 0) ∧ (q.1 = false → lv π.σ 0 q.2 ≠ 0)
theorem atoms_sound (C : Ctx w π mg mb st P K) (ts : List X) : ∀ {l : List (Bool × Lin)} {es : List Expr} {s : Shared} {ρ : List Addr} {Q : Bool → Shared → Prop}, atoms e H ts = some l → TrEs st (scOf st e.sc) ts es → Inv π ρ H s.heap → EnvR π ρ e env →
    (∀ b, (b = true → ∀ q ∈ l, holds π q) → OnB π ρ s H b Q) → wpAny (MM w) A (allTrue .And es env) Q NoE s := by
  induction ts with
  | nil =>
    intro l es s ρ Q ha tr I N hQ
    cases tr
    cases ha
    exact wpAny_pure (hQ true (fun _ q m => (nomatch m)) ρ s.heap s.toks I (.refl _ _))
  | cons x0 ts ih =>
    intro l es s ρ Q ha tr I N hQ
    replace ha := bCmp_some ha
    obtain ⟨o, x, y, rfl, ha⟩ := ha
    cases tr with
    | cons t tt =>
    rename_i ex es
    have S := C.base.sig
    obtain ⟨u1, h1, ha⟩ := bO_some ha
    obtain ⟨p, rfl, ha⟩ := bI_some ha
    obtain ⟨u2, h2, ha⟩ := bO_some ha
    obtain ⟨q, rfl, ha⟩ := bI_some ha
    obtain ⟨l', h3, ha⟩ := bO_some ha
    obtain ⟨q1, hq1, ha⟩ := bO_some ha
    have core : ∀ {q0 : Bool × Lin}, l = q0 :: l' → (∀ {Q' : Bool → Shared → Prop} {ee : Expr}, TrE st (scOf st e.sc) (.cmp o x y) ee → (∀ b, (b = true → holds π q0) → OnB π ρ s H b Q') → wpAny (MM w) A (PySem.isTrue ee env (eval ee env)) Q' NoE s) →
        wpAny (MM w) A (allTrue .And (ex :: es) env) Q NoE s := fun {q0} hl hc => by
      subst hl
      show wpAny (MM w) A (PySem.isTrue ex env (eval ex env) >>= _) Q NoE s
      refine wpAny_bind (hc t fun b hb ρ1 h1' tk1 I1 e1 => ?_)
      cases b with
      | true => exact ih (s := { s with heap := h1', toks := tk1 }) h3 tt I1 (N.ext e1) fun b' hb' ρ2 h2' tk2 I2 e2 => hQ b' (fun hbt q hq => by
          rcases List.mem_cons.mp hq with rfl | hq
          · exact hb rfl
          · exact hb' hbt q hq) ρ2 h2' tk2 I2 (e1.trans e2)
      | false => exact wpAny_pure (hQ false (fun q => by cases q) ρ1 h1' tk1 I1 e1)
    have cmpI : ∀ {Q' : Bool → Shared → Prop} {ee : Expr} {r : Int → Int → Bool}, TrE st (scOf st e.sc) (.cmp o x y) ee → (∀ b, b = r (lv π.σ 0 p) (lv π.σ 0 q) → OnB π ρ s H b Q') →
        (∀ {s : Shared} {a b : Int} {t u : Tok} {Q : Value → Shared → Prop}, Q (.bool (r a b)) s → wpAny (MM w) A (compareOp o.py (.int a t) (.int b u)) Q NoE s) → wpAny (MM w) A (PySem.isTrue ee env (eval ee env)) Q' NoE s := fun {Q' ee r} t hq' hcmp => by
      cases t with
      | cmp hm t1 t2 =>
        refine wpAny_isTrue_Compare1 (pure_sound C x _ s ρ _ _ h1 t1 I N fun ρ1 c1 h1' tk1 hv1 I1 e1 => ?_) hm
        refine pure_sound C y _ { s with heap := h1', toks := tk1 } ρ1 _ _ h2 t2 I1 (N.ext e1) fun ρ2 c2 h2' tk2 hv2 I2 e2 => ?_
        obtain ⟨ta, rfl⟩ := e2.vr hv1
        obtain ⟨tb, rfl⟩ := hv2
        refine hcmp ?_
        exact wpAny_truthy_bool (hq' _ rfl ρ2 h2' tk2 I2 (e1.trans e2))
    cases o with
    | eq =>
      cases hq1
      cases ha
      refine core rfl fun {Q' ee} t hq' => cmpI (r := fun a b => a == b) t (fun b hb => hq' b fun hbt => ?_) fun h => PyProof.Rows.eq_int h
      rw [hbt] at hb
      have : lv π.σ 0 p = lv π.σ 0 q := by simpa using hb.symm
      refine ⟨fun _ => ?_, fun h => by cases h⟩
      rw [lv_ladd, lv_lscale]; omega
    | ne =>
      cases hq1
      cases ha
      refine core rfl fun {Q' ee} t hq' => cmpI (r := fun a b => a != b) t (fun b hb => hq' b fun hbt => ?_) fun h => PyProof.Rows.ne_int h
      rw [hbt] at hb
      have : lv π.σ 0 p ≠ lv π.σ 0 q := by simpa using hb.symm
      refine ⟨(fun h => by cases h), fun _ => ?_⟩
      rw [lv_ladd, lv_lscale]; omega
    | _ => cases hq1
end
end Mine

namespace Mine
section
variable {w : World} {π : Par} {A : Around} {s : Shared} {ρ ρ' ρ0 : List Addr} {H H' : AH} {n m K : Nat} {mg mb : Str → Option Value} {e : AEnv} {env : Env} {st : Static} {P : Prm} {h0 : Heap}

theorem bindAll_sound {xs : List Var} {nms : List Str} (r : StosR (π.scs e.sc) xs nms) : ∀ {vs : List V} {cvs : List Value} {H H' : AH} {s : Shared} {Q : Unit → Shared → Prop}, setAll e H xs vs = some H' → Inv π ρ H s.heap → EnvR π ρ e env → VRs π ρ vs cvs →
    OnH π ρ s H' (Q ()) → wpAny (MM w) A (assignInOrder (nms.map fun n => bindName env n) cvs) Q NoE s := by
  induction r with
  | nil =>
    intro vs cvs H H' s Q ev I N y hQ
    obtain ⟨h, ev⟩ := gd_some ev
    cases vs with
    | cons _ _ => cases h
    | nil => cases cvs with
      | cons _ _ => exact y.elim
      | nil =>
        cases ev
        exact wpAny_pure (hQ s.heap s.toks I (.refl _ _))
  | cons r rs ih =>
    rename_i x nm xs nms
    intro vs cvs H H' s Q ev I N y hQ
    cases vs with
    | nil => cases ev
    | cons v vs => cases cvs with
      | nil => exact y.elim
      | cons c cvs =>
        obtain ⟨H1, h1, ev⟩ := bO_some ev
        show wpAny (MM w) A (holding cvs (bindName env nm c) >>= fun _ => assignInOrder (nms.map fun n => bindName env n) cvs) Q NoE s
        refine wpAny_bind (wpAny_holding (wpAny_bindName (store_sound h1 I N r y.1 fun h' tk' I' x' => ?_)))
        exact ih (s := { s with heap := h', toks := tk' }) ev I' N y.2 fun h2 tk2 I2 x2 => hQ h2 tk2 I2 (x'.trans x2)
theorem StosR.len {sc : Scope} : ∀ {xs : List Var} {nms : List Str}, StosR sc xs nms → nms.length = xs.length
  | _, _, .nil => rfl
  | _, _, .cons _ r => by rw [List.length_cons, List.length_cons, StosR.len r]
theorem StosR.app {sc : Scope} : ∀ {xs ys : List Var} {ns ms : List Str}, StosR sc xs ns → StosR sc ys ms → StosR sc (xs ++ ys) (ns ++ ms)
  | _, _, _, _, .nil, y => y
  | _, _, _, _, .cons a r, y => .cons a (StosR.app r y)
theorem StosR.rev {sc : Scope} : ∀ {xs : List Var} {nms : List Str}, StosR sc xs nms → StosR sc xs.reverse nms.reverse
  | _, _, .nil => .nil
  | _, _, .cons a r => by
    rw [List.reverse_cons, List.reverse_cons]
    exact StosR.app (StosR.rev r) (.cons a .nil)

theorem S_step (C : Ctx w π mg mb st P K) (ihs : ∀ k, k ≤ m → SoundAt w π st P K k) {x : XS} {o : Out} (er : run P (m + 1) (.S e x) H = some (o, H')) {ss : Stmt} (tr : TrS st (scOf st e.sc) x ss) {Q : Flow → Shared → Prop} (R : Room (m + 1 + K) A) (I : Inv π ρ H s.heap) (N : EnvR π ρ e env)
    (hQ : OnS π ρ s H' o Q)
    (hitems : ∀ y, x = .forItems y → wpAny (MM w) A (exec ss env) Q NoE s) : wpAny (MM w) A (exec ss env) Q NoE s := by
  have ih := ihs m (Nat.le_refl _)
  have R' : Room (m + K) A := R.le (by omega)
  have hsc : env.scope = scOf st e.sc := by rw [N.sc, C.scs]
  replace er : stepS P (run P m) e x H = some (o, H') := er
  cases tr with
  | assign hs r t =>
    obtain ⟨v, H1, h1, k1⟩ := bV_some er
    obtain ⟨H2, h2, k2⟩ := bO_some k1
    cases k2
    rw [← C.scs] at r
    refine wpAny_Assign_Name (ih.E _ _ _ _ _ h1 _ t _ _ _ _ _ R' I N fun ρ1 cv h' tk' hv I1 e1 => ?_) (hs env hsc)
    exact store_sound (s := { s with heap := h', toks := tk' }) h2 I1 (N.ext e1) r hv fun h3 tk3 I3 e3 => hQ ρ1 .next h3 tk3 trivial I3 (e1.trans e3)
  | assignC hs r t =>
    obtain ⟨v, H1, h1, k1⟩ := bV_some er
    obtain ⟨H2, h2, k2⟩ := bO_some k1
    cases k2
    cases m with
    | zero => cases h1
    | succ k => exact assignC_step C (fun j hj => ihs j (by omega)) (hs env hsc) r t h1 h2 ⟨_, _, _, _, _, _, _, _, rfl⟩ R' I N hQ
  | assignT h1' h2' rs t =>
    obtain ⟨v1, H1, h1, k1⟩ := bV_some er
    obtain ⟨i, rfl, k2⟩ := bRf_some k1
    obtain ⟨vs, ei, k3⟩ := bT_some k2
    obtain ⟨H2, h2, k4⟩ := bO_some k3
    cases k4
    rw [← C.scs] at rs
    refine Assign_Tuple (ih.E _ _ _ _ _ h1 _ t _ _ _ _ _ R' I N fun ρ1 cv h' tk' hv I1 e1 => ?_) (h1' env) (h2' env hsc)
    obtain ⟨a, cvs, nn, ea, ho, xa⟩ := Inv.tuple (s := { s with heap := h', toks := tk' }) I1 ei
    cases hv.ref_at ea
    exact unpack_sound (s := { s with heap := h', toks := tk' }) R rs h2 I1 (N.ext e1) ⟨_, ho, rfl, nn, rfl⟩ xa fun h3 tk3 I3 e3 => hQ ρ1 .next h3 tk3 trivial I3 (e1.trans e3)
  | assignR h1' h2' rs t =>
    rename_i xs0 y0 nms0 es0 e0 k0 p0 pos0
    obtain ⟨v1, H1, h1, k1⟩ := bV_some er
    obtain ⟨i, rfl, k2⟩ := bRf_some k1
    obtain ⟨vs, ei, k3⟩ := bT_some k2
    obtain ⟨H2, h2, k4⟩ := bO_some k3
    cases k4
    rw [← C.scs] at rs
    refine Assign_Tuple_swapped (ih.E _ _ _ _ _ h1 _ t _ _ _ _ _ R' I N fun ρ1 cv h' tk' hv I1 e1 => ?_) (h1' env) (h2' env hsc)
    obtain ⟨a, cvs, nn, ea, ho, xa⟩ := Inv.tuple (s := { s with heap := h', toks := tk' }) I1 ei
    cases hv.ref_at ea
    have hlen : nms0.length = cvs.toArray.size := by
      have q1 := setAll_len h2
      rw [List.length_reverse, List.length_reverse] at q1
      have q2 := xa.length
      have q3 := rs.len
      exact (q3.trans q1).trans (q2.trans (List.size_toArray ..).symm)
    rw [hlen]
    refine wpAny_unpackItems_tuple (s := { s with heap := h', toks := tk' }) R.hd ⟨_, ho, rfl, nn, rfl⟩ fun h3 hk => ?_
    have hk' : ∀ b o, h'.get? b = some o → h3.get? b = some o := fun b o q => hk b o (Nat.ne_of_lt (Heap.lt_size q)) q
    rw [List.toList_toArray]
    exact bindAll_sound rs.rev (s := { s with heap := h3, toks := tk' }) h2 (I1.grow hk') (N.ext e1) xa.reverse fun h4 tk4 I4 e4 => hQ ρ1 .next h4 tk4 trivial I4 (e1.trans (Ext.trans (.of_kept fun b o _ q => hk' b o q) e4))
  | assignI hs t1 t2 t3 =>
    obtain ⟨v, H1, h1, k1⟩ := bV_some er
    obtain ⟨u1, H2, h2, k2⟩ := bV_some k1
    obtain ⟨j, rfl, k3⟩ := bRf_some k2
    obtain ⟨u2, H3, h3, k4⟩ := bV_some k3
    obtain ⟨p, rfl, k5⟩ := bI_some k4
    obtain ⟨pl, us, ej, k6⟩ := bL_some k5
    obtain ⟨k, hk, k7⟩ := bO_some k6
    obtain ⟨u, hu, k8⟩ := bO_some k7
    cases k8
    refine wpAny_Assign_Subscript (ih.E _ _ _ _ _ h1 _ t3 _ _ _ _ _ R' I N fun ρ1 cv h1' tk1 hv I1 e1 => ?_) (hs env)
    refine ih.E _ _ _ _ _ h2 _ t1 _ _ _ _ _ R' I1 (N.ext e1) fun ρ2 co h2' tk2 hvo I2 e2 => ?_
    refine ih.E _ _ _ _ _ h3 _ t2 _ _ _ _ _ R' I2 ((N.ext e1).ext e2) fun ρ3 ci h3' tk3 hvi I3 e3 => ?_
    obtain ⟨a, ea, rfl⟩ := e3.vr hvo
    exact setItem_sound (s := { s with heap := h3', toks := tk3 }) C.base.sig ej hk hu I3 ea hvi (e3.vr (e2.vr hv)) fun h4 tk4 I4 e4 => hQ ρ3 .next h4 tk4 trivial I4 (((e1.trans e2).trans e3).trans e4)
  | ret t =>
    obtain ⟨v, H1, h1, k1⟩ := bV_some er
    cases k1
    exact wpAny_Return_some (ih.E _ _ _ _ _ h1 _ t _ _ _ _ _ R' I N fun ρ1 cv h' tk' hv I1 e1 => hQ ρ1 (.ret cv) h' tk' hv I1 e1)
  | retNone =>
    cases er
    exact wpAny_Return_none (hQ ρ (.ret .none) s.heap s.toks rfl I (.refl _ _))
  | expr hs t =>
    obtain ⟨v, H1, h1, k1⟩ := bV_some er
    cases v with
    | none =>
    cases k1
    have hi : interactive env = false := by unfold interactive; rw [N.fn]; rfl
    refine wpAny_Expr (ih.E _ _ _ _ _ h1 _ t _ _ _ _ _ R' I N fun ρ1 cv h' tk' hv I1 e1 => ?_) hi (hs env)
    cases hv
    exact hQ ρ1 .next h' tk' trivial I1 e1
    | _ => cases k1
  | ifNot ts =>
    obtain ⟨l, hl, k1⟩ := bO_some er
    obtain ⟨hk, k2⟩ := gd_some k1
    cases k2
    refine wpAny_If ?_
    show wpAny (MM w) A (allTrue .And _ env) _ NoE s
    refine atoms_sound C _ hl ts I N fun b hb ρ1 h' tk' I1 e1 => ?_
    cases b with
    | true =>
      have hm : l ∈ P.known := by simpa using hk
      exact absurd (hb rfl) (C.known l hm)
    | false => exact wpAny_execs_nil (hQ ρ1 .next h' tk' trivial I1 e1)
  | ite t ta tb =>
    obtain ⟨c, H1, h1, k1⟩ := bB_some er
    refine wpAny_If (ih.T _ _ _ _ _ h1 _ t _ _ _ _ _ R' I N fun ρ1 h' tk' I1 e1 => ?_)
    cases c with
    | true => exact ih.B _ _ _ _ _ (show run P m (.B e _) H1 = some (o, H') from k1) _ ta _ _ _ _ _ R' I1 (N.ext e1) fun ρ2 f h2 tk2 hf I2 e2 => hQ ρ2 f h2 tk2 hf I2 (e1.trans e2)
    | false => exact ih.B _ _ _ _ _ (show run P m (.B e _) H1 = some (o, H') from k1) _ tb _ _ _ _ _ R' I1 (N.ext e1) fun ρ2 f h2 tk2 hf I2 e2 => hQ ρ2 f h2 tk2 hf I2 (e1.trans e2)
  | for_ hfold trT trS trB =>
    rw [← C.scs] at trT
    obtain ⟨v, H1, h1, k1⟩ := bV_some er
    obtain ⟨so, hso, k2⟩ := bO_some k1
    refine wpAny_For (src_sound C ih h1 hso trS R' I N fun ρ1 hA h' tk' a I1 e1 eA T => ?_) (hfold env)
    refine for_sound (s := { s with heap := h', toks := tk' }) (h0 := hA) (ρ0 := ρ1) C trT trB (fun k hk => ihs k (by omega)) R' (fun ρ2 f h2 tk2 hf I2 x2 => ?_) k2 I1 ((N.ext e1).ext eA) T eA
    exact hQ ρ2 f h2 tk2 hf I2 (e1.trans x2)
  | forItems _ _ => exact hitems _ rfl
  | def_ hd hgl hp1 hp2 hann r frr =>
    obtain ⟨hc, k1⟩ := gd_some er
    obtain ⟨H1, h1, k2⟩ := bO_some k1
    cases k2
    simp only [Bool.and_eq_true, beq_iff_eq] at hc
    obtain ⟨q1, q2, q3⟩ := hc
    obtain ⟨ob, hm, hob⟩ := List.any_eq_true.mp q3
    obtain ⟨it, hlt, hit⟩ := List.getElem_of_mem hm
    cases ob with
    | tab g =>
      have hg := beq_iff_eq.mp hob
      subst hg
      exact def_step C hd hgl hp1 hp2 hann r frr q1 q2 (it := it) (by rw [List.getElem?_eq_getElem hlt, hit]) h1 I N hQ
    | _ => cases hob
  | bad => cases er
end
end Mine

namespace Mine
section
variable {w : World} {π : Par} {A : Around} {s : Shared} {ρ ρ' ρ0 : List Addr} {H H' : AH} {n m K : Nat} {mg mb : Str → Option Value} {e : AEnv} {env : Env} {st : Static} {P : Prm} {h0 : Heap}

theorem B_step (ihs : ∀ k, k ≤ m → SoundAt w π st P K k) {x : List XS} {o : Out} (er : run P (m + 1) (.B e x) H = some (o, H')) {ss : List Stmt} (tr : TrB st (scOf st e.sc) x ss) {Q : Flow → Shared → Prop} (R : Room (m + 1 + K) A) (I : Inv π ρ H s.heap) (N : EnvR π ρ e env)
    (hQ : OnS π ρ s H' o Q) : wpAny (MM w) A (execs ss env) Q NoE s := by
  have ih := ihs m (Nat.le_refl _)
  have R' : Room (m + K) A := R.le (by omega)
  cases tr with
  | nil => cases er; exact wpAny_execs_nil (hQ ρ .next s.heap s.toks trivial I (.refl _ _))
  | cons t ts =>
    rename_i x1 s1 xs1 ss1
    rcases bS_some (show bS (run P m (.S e x1) H) (fun H1 => run P m (.B e xs1) H1) (fun v H1 => some (Out.rt v, H1)) = some (o, H') from er) with ⟨H1, h1, k1⟩ | ⟨v, H1, h1, k1⟩
    · refine wpAny_execs_cons (ih.S _ _ _ _ _ h1 _ t _ _ _ _ _ R' I N fun ρ1 f h' tk' hf I1 e1 => ?_)
      cases f with
      | next => exact ih.B _ _ _ _ _ k1 _ ts _ _ _ _ _ R' I1 (N.ext e1) fun ρ2 f h2 tk2 hf I2 e2 => hQ ρ2 f h2 tk2 hf I2 (e1.trans e2)
      | _ => exact hf.elim
    · cases k1
      refine wpAny_execs_cons (ih.S _ _ _ _ _ h1 _ t _ _ _ _ _ R' I N fun ρ1 f h' tk' hf I1 e1 => ?_)
      cases f with
      | ret c => exact hQ ρ1 (.ret c) h' tk' hf I1 e1
      | _ => exact hf.elim
end
end Mine

namespace Mine
section
variable {w : World} {π : Par} {A : Around} {s : Shared} {ρ ρ' ρ0 : List Addr} {H H' : AH} {n m K : Nat} {mg mb : Str → Option Value} {e : AEnv} {env : Env} {st : Static} {P : Prm} {h0 : Heap}

theorem fnAt {i f : Nat} {cl : List (Option Nat)} {a : Addr} (I : Inv π ρ H s.heap) (hi : H[i]? = some (.clos f cl)) (ea : ρ[i]? = some a) : FnAt a s.heap := by
  obtain ⟨a', ea', c', doc, pm, ctv, cs, ho, _⟩ := I.at hi
  rw [ea] at ea'; cases ea'
  exact ⟨_, _, _, _, ho⟩
theorem callC_step (C : Ctx w π mg mb st P K) (ih : SoundAt w π st P K m) {y : Var} {as : List X} {v : V} {ex : Expr} {Q : Value → Shared → Prop} (er : run P (m + 1) (.E e (.callC y as)) H = some (.v v, H')) (tr : TrE st (scOf st e.sc) (.callC y as) ex)
    (R : Room (m + 1 + K) A) (I : Inv π ρ H s.heap) (N : EnvR π ρ e env) (hQ : OnV π ρ s H' v Q) : wpAny (MM w) A (eval ex env) Q NoE s := by
  have R' : Room (m + K) A := R.le (by omega)
  replace er : stepE P (run P m) e (.callC y as) H = some (.v v, H') := er
  cases tr with
  | callC r ts =>
    obtain ⟨u0, hu, k1⟩ := bO_some er
    obtain ⟨i, rfl, k2⟩ := bRf_some k1
    obtain ⟨f0, cl0, hi0, k3⟩ := bF_some k2
    obtain ⟨vs, H1, h1, k4⟩ := bVs_some k3
    obtain ⟨f, cl, hi, k5⟩ := bF_some k4
    obtain ⟨F, hF, k5⟩ := bO_some k5
    obtain ⟨hnp, k6⟩ := gd_some k5
    simp only [Bool.and_eq_true, beq_iff_eq] at hnp
    rw [← C.scs] at r
    refine Call_ (name_sound hu I N r fun ρ1 cv h' tk' hv I1 e1 => ?_)
    obtain ⟨a, ea, rfl⟩ := hv
    cases ts with
    | nil =>
      exfalso
      have : vs = [] := by
        cases m with
        | zero => cases h1
        | succ m => cases h1; rfl
      rw [this] at hnp
      exact absurd hnp.2 (by decide)
    | cons t ts =>
      have hb := Es_nobad h1 _ (List.mem_cons_self ..)
      have hbk := back_plain (env := env) default (TrEs.cons t ts) (Es_nobad h1)
      refine callWith_F (fnAt (s := { s with heap := h', toks := tk' }) I1 hi0 ea) ?_ (star_plain t _ _ hb) ?_
      · rw [(back_plain (env := env) _ (TrEs.cons t ts) (Es_nobad h1)).1]
        refine ih.Es _ _ _ _ _ h1 _ (.cons t ts) A { s with heap := h', toks := tk' } ρ1 env _ R' I1 (N.ext e1) fun ρ2 cvs h2 tk2 hvs I2 e2 => ?_
        have ea2 := e2.get ea
        refine ⟨fnAt (s := { s with heap := h2, toks := tk2 }) I2 hi ea2, ?_⟩
        have fin : ∀ o H2, run P m (.B { (enter F vs H1).1 with cells := cl } F.body) (enter F vs H1).2 = some (o, H2) → H2 = H' → (∀ v', o = .rt v' ∨ (o = .nx ∧ v' = .none) → v' = v) → wpAny (MM w) A (call (.ref a) ([] ++ cvs)) Q NoE { s with heap := h2, toks := tk2 } := by
          intro o H2 hB hH hv'
          subst hH
          obtain ⟨a', oo, fd, hc, _, hw⟩ := clos_call (s := { s with heap := h2, toks := tk2 }) (Q := Q) C ih hi hF hnp.1 hB (c := .ref a) ⟨a, ea2, rfl⟩ hvs R I2 fun v' hv2 => by
            have := hv' v' hv2
            subst this
            exact fun ρ3 cv h3 tk3 hv3 I3 e3 => hQ ρ3 cv h3 tk3 hv3 I3 ((e1.trans e2).trans e3)
          cases hc
          exact hw
        rcases bS_some k6 with ⟨H2, hB, k7⟩ | ⟨u, H2, hB, k7⟩
        · cases k7
          exact fin _ _ hB rfl fun v' hv' => by
            rcases hv' with q | ⟨_, q⟩
            · cases q
            · exact q
        · cases k7
          exact fin _ _ hB rfl fun v' hv' => by
            rcases hv' with q | ⟨q, _⟩
            · cases q; rfl
            · cases q
      · have q3 := fun pos => back_plain (env := env) pos ts fun x hx => Es_nobad h1 x (List.mem_cons_of_mem _ hx)
        rw [(q3 _).1]; exact (q3 default).2
end
end Mine

namespace Mine
section
variable {w : World} {π : Par} {A : Around} {s : Shared} {ρ ρ' ρ0 : List Addr} {H H' : AH} {n m K : Nat} {mg mb : Str → Option Value} {e : AEnv} {env : Env} {st : Static} {P : Prm} {h0 : Heap}

/-- the loop over an empty dict's items -/
theorem items_step (C : Ctx w π mg mb st P K) {y : Var} {o : Out} (er : run P (m + 1) (.S e (.forItems y)) H = some (o, H')) {ss : Stmt} (tr : TrS st (scOf st e.sc) (.forItems y) ss) {Q : Flow → Shared → Prop} (R : Room (m + 1 + K) A) (I : Inv π ρ H s.heap) (N : EnvR π ρ e env)
    (hQ : OnS π ρ s H' o Q) : wpAny (MM w) A (exec ss env) Q NoE s := by
  replace er : stepS P (run P m) e (.forItems y) H = some (o, H') := er
  cases tr with
  | forItems hline r hk hv =>
    rename_i x nm xk xv body' x1 p pk pv pt apos cpos pos
    obtain ⟨u0, hu, k1⟩ := bO_some er
    obtain ⟨i, rfl, k2⟩ := bRf_some k1
    obtain ⟨ob, hi, k3⟩ := bO_some k2
    have hob : ob = .dict0 := by
      cases ob with
      | dict0 => rfl
      | _ => cases k3
    subst hob
    cases k3
    have hS : π.scs e.sc = scOf st e.sc := C.scs _
    rw [← hS] at r hk hv
    obtain ⟨a, ea, n, ho⟩ := I.at hi
    cases r with
    | loc h1 h2 hd =>
      obtain ⟨sc, mm, hm, hu1⟩ := bN_some hu
      obtain ⟨hsc, hu2⟩ := gd_some hu1
      have hsc : sc = e.sc := by simpa using hsc
      subst hsc
      obtain ⟨aL, eL, hnd, cm, hn, rr⟩ := I.at hm
      rw [N.loc] at eL; cases eL
      obtain ⟨cv, hcv, hvv⟩ := rr _ _ _ (joinO_some hu2) h1
      cases hvv.ref_at ea
      have hne : a ≠ env.locals := fun q => by
        subst q
        have q1 := I.nd _ _ _ _ _ ea N.loc hi hm rfl rfl
        rw [q1, hm] at hi
        cases hi
      have hdat : s.heap.DictAt (intKind PySem.Challenge.rw_hf0007_01.prog w) a [] n := by
        refine ⟨_, _, ho, ⟨rfl, rfl, rfl⟩, rfl, fun e he => ?_, ?_, ?_⟩
        · simp at he
        · first | trivial | exact .nil | simp [Pairs]
        · simp
      refine wpAny_For_items_locals (d := a) (kvs := []) (ep := n) (m := cm) R.hd ((N.kindOf _).trans hk) ((N.kindOf _).trans hv) N.hp hne (by simpa using I.lo _ (List.mem_of_getElem? ea)) hdat hn rfl hline (fun Q' hq => ?_)
        (fun i m' => m' = cm) rfl (fun i k v key m₁ s₁ q => by simp at q) (fun h' tk m' hn' hJ hkp => ?_)
      · exact wpAny_Name (wpAny_loadName_local N.fn ((N.kindOf nm).trans h2) hn hcv hq) hd
      · have hJ : m' = cm := hJ
        subst hJ
        have hq := I.setE (h' := h') hm rfl N.loc (fun b ob hb q => hkp b ob hb q) (o := .ns e.sc mm) ⟨hnd, _, hn', rr⟩
        have hself : H.set e.loc (.ns e.sc mm) = H := by
          apply List.ext_getElem?
          intro j
          by_cases hj : j = e.loc
          · subst hj
            rw [List.getElem?_set_self', hm]; rfl
          · rw [List.getElem?_set_ne (Ne.symm hj)]
        rw [hself] at hq
        exact hQ ρ .next h' tk trivial hq.1 hq.2
end
end Mine

namespace Mine
section
variable {w : World} {π : Par} {K : Nat} {mg mb : Str → Option Value} {st : Static} {P : Prm}

theorem sound (C : Ctx w π mg mb st P K) (n : Nat) : SoundAt w π st P K n := by
  induction n using Nat.strongRecOn with
  | _ n ihs =>
    cases n with
    | zero =>
      refine ⟨?_, ?_, ?_, ?_, ?_⟩ <;> intro _ _ _ _ _ h <;> cases h
    | succ m =>
      have ih : ∀ k, k ≤ m → SoundAt w π st P K k := fun k hk => ihs k (by omega)
      have ihm := ih m (Nat.le_refl _)
      refine ⟨?_, ?_, ?_, ?_, ?_⟩
      · intro e x H v H' er ex tr A s ρ env Q R I N hQ
        refine E_step C ihm er tr R I N hQ ?_ ?_ ?_
        · intro c nn fr tg sk src ift elt q
          subst q
          exact comp_E C ih er tr R I N hQ
        · intro y as q
          subst q
          exact callC_step C ihm er tr R I N hQ
        · intro y q
          subst q
          exact src7_step C ihm er tr R I N hQ
      · intro e xs H vs H' er es tr A s ρ env Q R I N hQ
        exact Es_step (.inr ⟨m, rfl, ihm⟩) er tr R I N hQ
      · intro e x H b H' er ex tr A s ρ env Q R I N hQ
        exact T_step C ihm er tr R I N hQ
      · intro e x H o H' er ss tr A s ρ env Q R I N hQ
        refine S_step C ih er tr R I N hQ ?_
        intro y q
        subst q
        exact items_step C er tr R I N hQ
      · intro e x H o H' er ss tr A s ρ env Q R I N hQ
        exact B_step ih er tr R I N hQ
end
end Mine

namespace Mine
noncomputable def recAt (k : Nat) : DefRec := match hd.view_39.main.body[k]? with | some (.FunctionDef name params b _ _ _ s _ _ pos) => ⟨name, params, b, s, pos⟩ | _ => ⟨"", ⟨[], [], none, [], [], none, []⟩, [], default, default⟩
noncomputable abbrev bd (k : Nat) : List Stmt := (recAt k).body
noncomputable abbrev sc (k : Nat) : Scope := (recAt k).scope
/-- a name's place -/
noncomputable def nix (S : Scope) (nm : Str) : Nat := S.names.findIdx fun p => p.1 == nm
noncomputable def okV (S : Scope) (k : NameKind) (nm : Str) : Bool := decide (S.names[nix S nm]? = some (nm, k)) && (decide (S.names.lookup nm = some k) && (!(nm == ("__debug__" : Str)) && !(nm == ("__classdict__" : Str))))
theorem okV_all {S : Scope} {k : NameKind} {nm : Str} (h : okV S k nm = true) : S.names[nix S nm]? = some (nm, k) ∧ S.names.lookup nm = some k ∧ (nm == ("__debug__" : Str)) = false ∧ (nm == ("__classdict__" : Str)) = false := by
  simp only [okV, Bool.and_eq_true, decide_eq_true_eq, Bool.not_eq_true'] at h
  exact ⟨h.1, h.2.1, h.2.2.1, h.2.2.2⟩
theorem vLoc {S : Scope} {nm : Str} (h : okV S .local nm = true) : VarR S (.loc (nix S nm)) nm := let ⟨a, b, c, _⟩ := okV_all h; .loc a b c
theorem vCell {S : Scope} {nm : Str} (h : okV S .cell nm = true) : VarR S (.cel (nix S nm)) nm := let ⟨a, b, c, _⟩ := okV_all h; .cell a b c
theorem vFree {S : Scope} {nm : Str} (h : okV S .free nm = true) : VarR S (.cel (nix S nm)) nm := let ⟨a, b, c, d⟩ := okV_all h; .free a b c d
theorem sLoc {S : Scope} {nm : Str} (h : okV S .local nm = true) : StoR S (.loc (nix S nm)) nm := let ⟨a, b, _⟩ := okV_all h; .loc a b
theorem sCell {S : Scope} {nm : Str} (h : okV S .cell nm = true) : StoR S (.cel (nix S nm)) nm := let ⟨a, b, _⟩ := okV_all h; .cell a b
theorem fFree {S : Scope} {nm : Str} {r : List (Str × NameKind)} {fr : List (Option Nat)} (h : decide ((S.names[nix S nm]?).map (·.1) = some nm) = true) (g : FrR S r fr) : FrR S ((nm, .free) :: r) (some (nix S nm) :: fr) := by
  have h := of_decide_eq_true h
  cases q : S.names[nix S nm]? with
  | none => rw [q] at h; cases h
  | some p =>
    rw [q] at h
    obtain ⟨a, k⟩ := p
    cases h
    exact .free q g
theorem cG {st : Static} {S : Scope} {as : List X} {nm : Str} {l : List Expr} {p pos : Pos} (h : ((fnsT.lookup nm).isSome && (decide (S.names.lookup nm = some .globalImplicit) && !(nm == ("__debug__" : Str)))) = true) (t : TrEs st S as l) :
    TrE st S (.callG ((fnsT.lookup nm).getD 0) as) (.Call (.Name nm p) l [] pos) := by
  simp only [Bool.and_eq_true, decide_eq_true_eq, Bool.not_eq_true'] at h
  obtain ⟨f, hf⟩ := Option.isSome_iff_exists.mp h.1
  exact .callG (by rw [hf]; rfl) h.2.1 h.2.2 t
end Mine

namespace Mine
/-- a def of the text's top: which of its names are cells, its parameters first -/
structure GFn where
  sc : Nat
  kinds : List Bool
  np : Nat
  cf : Nat
  body : List XS
noncomputable def nsInit : List Bool → List V → List (Option V)
  | [], _ => []
  | _ :: r, [] => none :: nsInit r []
  | true :: r, _ :: vs => none :: nsInit r vs
  | false :: r, v :: vs => some v :: nsInit r vs
noncomputable def cellsInit : List Bool → List V → AH
  | [], _ => []
  | true :: r, [] => .cell none :: cellsInit r []
  | false :: r, [] => cellsInit r []
  | true :: r, v :: vs => .cell (some v) :: cellsInit r vs
  | false :: r, _ :: vs => cellsInit r vs
noncomputable def cellIdx : Nat → List Bool → List (Option Nat)
  | _, [] => []
  | n, true :: r => some n :: cellIdx (n + 1) r
  | n, false :: r => none :: cellIdx n r
noncomputable def envG (G : GFn) (H : AH) : AEnv := { sc := G.sc, loc := H.length, cells := cellIdx (H.length + 1) G.kinds, cf := G.cf }
noncomputable def heapG (G : GFn) (vs : List V) (H : AH) : AH := H ++ ([.ns G.sc (nsInit G.kinds vs)] ++ cellsInit G.kinds vs)
noncomputable def callG (G : GFn) (P : Prm) (n : Nat) (vs : List V) (H : AH) : Option (V × AH) := match vs.length == G.np with
  | true => match run P n (.B (envG G H) G.body) (heapG G vs H) with
    | some (.rt v, H') => some (v, H')
    | some (.nx, H') => some (.none, H')
    | _ => none
  | false => none
noncomputable def isCell (p : Str × NameKind) : Bool := p.2 == .cell
noncomputable def cntN : List (Str × NameKind) → Nat → Nat
  | [], _ => 0
  | _ :: _, 0 => 0
  | p :: r, i + 1 => (if isCell p then 1 else 0) + cntN r i

theorem cellsFrom_miss : ∀ (names : List (Str × NameKind)) (n : Nat) (acc : List (Str × Addr)) (nm : Str), nm ∉ names.map (·.1) → (cellsFrom n names acc).lookup nm = acc.lookup nm
  | [], _, _, _, _ => rfl
  | (x, k) :: r, n, acc, nm, h => by
    simp only [List.map_cons, List.mem_cons, not_or] at h
    unfold cellsFrom
    split
    · rw [cellsFrom_miss r _ _ nm h.2, List.lookup_cons]
      have : (nm == x) = false := by rw [beq_eq_false_iff_ne]; exact h.1
      rw [this]
    · exact cellsFrom_miss r _ _ nm h.2
theorem cellsFrom_hit : ∀ (names : List (Str × NameKind)) (n : Nat) (acc : List (Str × Addr)) (i : Nat) (nm : Str), (names.map (·.1)).Nodup → names[i]? = some (nm, .cell) → (cellsFrom n names acc).lookup nm = some (n + cntN names i)
  | [], _, _, _, _, _, h => by simp at h
  | (x, k) :: r, n, acc, 0, nm, hn, h => by
    have e : (x, k) = (nm, NameKind.cell) := by simpa using h
    cases e
    rw [List.map_cons, List.nodup_cons] at hn
    unfold cellsFrom
    rw [if_pos (by rfl), cellsFrom_miss r _ _ x hn.1, List.lookup_cons]
    simp [cntN]
  | (x, k) :: r, n, acc, i + 1, nm, hn, h => by
    rw [List.map_cons, List.nodup_cons] at hn
    have h : r[i]? = some (nm, .cell) := by simpa using h
    unfold cellsFrom
    split
    · rename_i hk
      rw [cellsFrom_hit r _ _ i nm hn.2 h]
      have : isCell (x, k) = true := hk
      simp only [cntN, this, if_true]
      congr 1; omega
    · rename_i hk
      rw [cellsFrom_hit r _ _ i nm hn.2 h]
      have : isCell (x, k) = false := by simpa [isCell] using hk
      simp [cntN, this]
theorem cellIdx_at : ∀ (names : List (Str × NameKind)) (n i j : Nat), (cellIdx n (names.map isCell))[i]? = some (some j) → ∃ p, names[i]? = some p ∧ isCell p = true ∧ j = n + cntN names i
  | [], _, _, _, h => by simp [cellIdx] at h
  | p :: r, n, i, j, h => by
    cases hp : isCell p with
    | true =>
      rw [List.map_cons, hp] at h
      cases i with
      | zero =>
        have : n = j := by simpa [cellIdx] using h
        exact ⟨p, rfl, hp, by simp [cntN, this]⟩
      | succ i =>
        obtain ⟨q, e1, e2, e3⟩ := cellIdx_at r (n + 1) i j (by simpa [cellIdx] using h)
        refine ⟨q, by simpa using e1, e2, ?_⟩
        simp only [cntN, hp, if_true]; omega
    | false =>
      rw [List.map_cons, hp] at h
      cases i with
      | zero => simp [cellIdx] at h
      | succ i =>
        obtain ⟨q, e1, e2, e3⟩ := cellIdx_at r n i j (by simpa [cellIdx] using h)
        refine ⟨q, by simpa using e1, e2, ?_⟩
        simp only [cntN, hp, if_neg Bool.false_ne_true]; omega
theorem nsInit_at : ∀ (ks : List Bool) (vs : List V) (i : Nat) (v : V), (nsInit ks vs)[i]? = some (some v) → ks[i]? = some false ∧ vs[i]? = some v
  | [], _, _, _, h => by simp [nsInit] at h
  | true :: r, [], i, v, h => by
    cases i with
    | zero => simp [nsInit] at h
    | succ i =>
      obtain ⟨a, b⟩ := nsInit_at r [] i v (by simpa [nsInit] using h)
      simp at b
  | false :: r, [], i, v, h => by
    cases i with
    | zero => simp [nsInit] at h
    | succ i =>
      obtain ⟨a, b⟩ := nsInit_at r [] i v (by simpa [nsInit] using h)
      simp at b
  | true :: r, u :: vs, i, v, h => by
    cases i with
    | zero => simp [nsInit] at h
    | succ i =>
      obtain ⟨a, b⟩ := nsInit_at r vs i v (by simpa [nsInit] using h)
      exact ⟨by simpa using a, by simpa using b⟩
  | false :: r, u :: vs, i, v, h => by
    cases i with
    | zero => exact ⟨rfl, by simpa [nsInit] using h⟩
    | succ i =>
      obtain ⟨a, b⟩ := nsInit_at r vs i v (by simpa [nsInit] using h)
      exact ⟨by simpa using a, by simpa using b⟩

section
variable {π : Par} {ρ : List Addr} {H : AH} {h : Heap}
/-- one more object of ours, that stands in the heap already -/
theorem Inv.addN (I : Inv π ρ H h) {a : Addr} {o : AO} (hna : a ∉ ρ) (hb : π.hb.get? a = none) (hlo : a ≠ sysModules) (hnc : ∀ q, ¬ h.CodeRec (.ref a) q) (x : ObjR π (ρ ++ [a]) h a o) : Inv π (ρ ++ [a]) (H ++ [o]) h := by
  have old : ∀ (i : Nat) (o' : AO) (b : Addr), i < H.length → (ρ ++ [a])[i]? = some b → (H ++ [o])[i]? = some o' → ρ[i]? = some b ∧ H[i]? = some o' := fun i o' b hi e2 e1 => by
    rw [List.getElem?_append_left hi] at e1
    rw [List.getElem?_append_left (I.len ▸ hi)] at e2
    exact ⟨e2, e1⟩
  have new : ∀ (i : Nat) (o' : AO) (b : Addr), ¬ i < H.length → (ρ ++ [a])[i]? = some b → (H ++ [o])[i]? = some o' → i = H.length ∧ b = a ∧ o' = o := fun i o' b hi e2 e1 => by
    have hi2 : i = H.length := by
      have := (List.getElem?_eq_some_iff.mp e1).1
      simp at this; omega
    subst hi2
    rw [List.getElem?_append_right (Nat.le_refl _)] at e1
    rw [List.getElem?_append_right (Nat.le_of_eq I.len), I.len] at e2
    simp at e1 e2
    exact ⟨rfl, e2.symm, e1.symm⟩
  refine ⟨by simp [I.len], ?_, fun b m => ?_, fun b m => ?_, I.g3, I.base, fun i o' b e1 e2 => ?_⟩
  · intro i j o1 o2 b e1 e2 f1 f2 g1 g2
    by_cases hi : i < H.length
    · by_cases hj : j < H.length
      · exact I.nd i j o1 o2 b (old i o1 b hi e1 f1).1 (old j o2 b hj e2 f2).1 (old i o1 b hi e1 f1).2 (old j o2 b hj e2 f2).2 g1 g2
      · obtain ⟨_, rfl, _⟩ := new j o2 b hj e2 f2
        exact (hna (List.mem_of_getElem? (old i o1 _ hi e1 f1).1)).elim
    · by_cases hj : j < H.length
      · obtain ⟨_, rfl, _⟩ := new i o1 b hi e1 f1
        exact (hna (List.mem_of_getElem? (old j o2 _ hj e2 f2).1)).elim
      · rw [(new i o1 b hi e1 f1).1, (new j o2 b hj e2 f2).1]
  · rcases List.mem_append.mp m with m | m
    · exact I.new b m
    · rw [List.mem_singleton.mp m]; exact hb
  · rcases List.mem_append.mp m with m | m
    · exact I.lo b m
    · rw [List.mem_singleton.mp m]; exact hlo
  · by_cases hi : i < H.length
    · obtain ⟨e2, e1⟩ := old i o' b hi e2 e1
      have y := I.obj i o' b e1 e2
      have off : ∀ {c : Addr} {q : Str}, c ∉ ρ → h.CodeRec (.ref c) q → c ∉ ρ ++ [a] := fun {c q} n r m => by
        rcases List.mem_append.mp m with m | m
        · exact n m
        · rw [List.mem_singleton.mp m] at r; exact hnc q r
      cases o' with
      | list pl vs => obtain ⟨cvs, q, p, v⟩ := y; exact ⟨cvs, q, p, v.mono⟩
      | tup vs => obtain ⟨cvs, n, q, v⟩ := y; exact ⟨cvs, n, q, v.mono⟩
      | dict0 => exact y
      | range _ _ => exact y
      | ns sc m => obtain ⟨ndp, cm, hn, r⟩ := y; exact ⟨ndp, cm, hn, r.mono⟩
      | cell v => cases v with
        | none => exact y
        | some v => obtain ⟨cv, q, z⟩ := y; exact ⟨cv, q, z.mono⟩
      | clos f cl => obtain ⟨c', doc, pm, ctv, cs, q, n, r, z⟩ := y; exact ⟨c', doc, pm, ctv, cs, q, off n r, r, z.mono⟩
      | tab f =>
        obtain ⟨ea, y⟩ := y
        refine ⟨ea, ?_⟩
        rcases y with q | ⟨c', q, n, r⟩
        · exact .inl q
        · exact .inr ⟨c', q, off n r, r⟩
    · obtain ⟨_, rfl, rfl⟩ := new i o' b hi e2 e1
      exact x
theorem Inv.add (I : Inv π ρ H h) {a : Addr} {o : AO} (hlt : ∀ b ∈ ρ, b < a) (hb : π.hb.get? a = none) (hlo : 1 < a) (hnc : ∀ q, ¬ h.CodeRec (.ref a) q) (x : ObjR π (ρ ++ [a]) h a o) : Inv π (ρ ++ [a]) (H ++ [o]) h :=
  I.addN (fun m => Nat.lt_irrefl _ (hlt a m)) hb (fun q => by
    rw [q] at hlo
    exact absurd (show (1 : Nat) < 1 from hlo) (by decide)) hnc x
theorem cell_nocode {a : Addr} {v : Option Value} (x : h.IsCell a v) (q : Str) : ¬ h.CodeRec (.ref a) q := by
  rintro ⟨c, o, vs, t, e1, e2, e3, _⟩
  obtain ⟨o', f1, f2⟩ := x
  cases e1
  rw [e2] at f1; cases f1
  rw [e3] at f2; cases f2
theorem ns_nocode {a : Addr} {m : Str → Option Value} (x : h.Ns a m) (q : Str) : ¬ h.CodeRec (.ref a) q := by
  rintro ⟨c, o, vs, t, e1, e2, e3, _⟩
  obtain ⟨o', es, ep, f1, f2, _⟩ := x
  cases e1
  rw [e2] at f1; cases f1
  rw [e3] at f2; cases f2
theorem add_cells : ∀ (names : List (Str × NameKind)) (vs : List V) (ρ : List Addr) (H : AH) (n : Nat), Inv π ρ H h → (∀ b ∈ ρ, b < n) → (∀ a, n ≤ a → π.hb.get? a = none) → 1 < n →
    (∀ i nm, names[i]? = some (nm, .cell) → ∃ u, h.IsCell (n + cntN names i) u ∧ ∀ v, vs[i]? = some v → ∃ cv, u = some cv ∧ VR π ρ v cv) →
    ∃ ext, Inv π (ρ ++ ext) (H ++ cellsInit (names.map isCell) vs) h ∧ (∀ b ∈ ext, n ≤ b) ∧ ∀ i nm, names[i]? = some (nm, .cell) → (ρ ++ ext)[ρ.length + cntN names i]? = some (n + cntN names i)
  | [], vs, ρ, H, n, I, _, _, _, _ => ⟨[], by simpa [cellsInit] using I, by simp, by simp⟩
  | p :: r, vs, ρ, H, n, I, hlt, hb, hlo, hc => by
    cases hp : isCell p with
    | false =>
      have cs : cellsInit ((p :: r).map isCell) vs = cellsInit (r.map isCell) vs.tail := by
        rw [List.map_cons, hp]; cases vs <;> rfl
      obtain ⟨ext, h1, h2, h3⟩ := add_cells r vs.tail ρ H n I hlt hb hlo fun i nm e => by
        obtain ⟨u, q1, q2⟩ := hc (i + 1) nm (by simpa using e)
        refine ⟨u, by simpa [cntN, hp] using q1, fun v hv => q2 v ?_⟩
        cases vs with
        | nil => simp at hv
        | cons x vs => simpa using hv
      refine ⟨ext, by rw [cs]; exact h1, h2, fun i nm e => ?_⟩
      cases i with
      | zero =>
        have e : p = (nm, .cell) := by simpa using e
        rw [e] at hp; cases hp
      | succ i =>
        have := h3 i nm (by simpa using e)
        simpa [cntN, hp] using this
    | true =>
      obtain ⟨pn, pk⟩ := p
      have hk : pk = .cell := by simpa [isCell] using hp
      subst hk
      obtain ⟨u, q1, q2⟩ := hc 0 pn rfl
      have q1 : h.IsCell n u := by simpa [cntN] using q1
      obtain ⟨o, ho, cs⟩ : ∃ o : AO, ObjR π (ρ ++ [n]) h n o ∧ cellsInit (((pn, NameKind.cell) :: r).map isCell) vs = o :: cellsInit (r.map isCell) vs.tail := by
        cases vs with
        | nil => exact ⟨.cell none, ⟨u, q1⟩, by rw [List.map_cons, hp]; rfl⟩
        | cons v vs =>
          obtain ⟨cv, rfl, q4⟩ := q2 v rfl
          exact ⟨.cell (some v), ⟨cv, q1, q4.mono⟩, by rw [List.map_cons, hp]; rfl⟩
      have I' := I.add hlt (hb n (Nat.le_refl _)) hlo (cell_nocode q1) ho
      obtain ⟨ext, h1, h2, h3⟩ := add_cells r vs.tail (ρ ++ [n]) (H ++ [o]) (n + 1) I' (fun b m => by
          rcases List.mem_append.mp m with m | m
          · exact Nat.lt_succ_of_lt (hlt b m)
          · rw [List.mem_singleton.mp m]; exact Nat.lt_succ_self _) (fun a ha => hb a (Nat.le_of_succ_le ha)) (Nat.lt_succ_of_lt hlo) fun i nm e => by
        obtain ⟨u, q1, q2⟩ := hc (i + 1) nm (by simpa using e)
        refine ⟨u, ?_, fun v hv => ?_⟩
        · have : n + cntN ((pn, NameKind.cell) :: r) (i + 1) = n + 1 + cntN r i := by simp only [cntN, hp, if_true]; omega
          rw [← this]; exact q1
        · obtain ⟨cv, a, b⟩ := q2 v (by
            cases vs with
            | nil => simp at hv
            | cons x vs => simpa using hv)
          exact ⟨cv, a, b.mono⟩
      refine ⟨n :: ext, ?_, ?_, fun i nm e => ?_⟩
      · rw [cs]
        rw [List.append_assoc, List.append_assoc] at h1
        exact h1
      · intro b m
        rcases List.mem_cons.mp m with rfl | m
        · exact Nat.le_refl _
        · exact Nat.le_of_succ_le (h2 b m)
      · have eq : ρ ++ n :: ext = ρ ++ [n] ++ ext := by simp
        rw [eq]
        cases i with
        | zero =>
          simp only [cntN, Nat.add_zero]
          rw [List.getElem?_append_left (by simp)]
          simp
        | succ i =>
          have := h3 i nm (by simpa using e)
          rw [List.length_append, List.length_singleton] at this
          have e1 : ρ.length + cntN ((pn, NameKind.cell) :: r) (i + 1) = ρ.length + 1 + cntN r i := by simp only [cntN, hp, if_true]; omega
          have e2 : n + cntN ((pn, NameKind.cell) :: r) (i + 1) = n + 1 + cntN r i := by simp only [cntN, hp, if_true]; omega
          rw [e1, e2]; exact this
end
end Mine

namespace Mine
theorem bindL_miss (f : Str → Option NameKind) : ∀ (bs : List (Str × Value)) (m : Str → Option Value) (p : Str), p ∉ bs.map (·.1) → bindL f bs m p = m p
  | [], _, _, _ => rfl
  | (n, v) :: r, m, p, h => by
    simp only [List.map_cons, List.mem_cons, not_or] at h
    show bindL f r _ p = m p
    rw [bindL_miss f r _ p h.2]
    split
    · exact if_neg h.1
    · rfl
theorem bindC_miss (f : Str → Option NameKind) : ∀ (bs : List (Str × Value)) (m : Str → Option Value) (p : Str), p ∉ bs.map (·.1) → bindC f bs m p = m p
  | [], _, _, _ => rfl
  | (n, v) :: r, m, p, h => by
    simp only [List.map_cons, List.mem_cons, not_or] at h
    show bindC f r _ p = m p
    rw [bindC_miss f r _ p h.2]
    split
    · rfl
    · exact if_neg h.1
theorem zip_fst_mem {ps : List Str} {cs : List Value} {p : Str} (h : p ∈ (ps.zip cs).map (·.1)) : p ∈ ps := by
  obtain ⟨x, hx, rfl⟩ := List.mem_map.mp h
  exact (List.of_mem_zip (a := x.1) (b := x.2) hx).1
theorem bindL_at (f : Str → Option NameKind) : ∀ (ps : List Str) (cs : List Value) (m : Str → Option Value) (i : Nat) (p : Str) (c : Value), ps.Nodup → ps[i]? = some p → cs[i]? = some c → f p = some .local → bindL f (ps.zip cs) m p = some c
  | [], _, _, _, _, _, _, h, _, _ => by simp at h
  | _ :: _, [], _, _, _, _, _, _, h, _ => by simp at h
  | q :: ps, d :: cs, m, i, p, c, hn, h1, h2, hf => by
    rw [List.nodup_cons] at hn
    rw [List.zip_cons_cons]
    show bindL f (ps.zip cs) _ p = some c
    cases i with
    | zero =>
      have e1 : q = p := by simpa using h1
      have e2 : d = c := by simpa using h2
      subst e1; subst e2
      rw [bindL_miss f _ _ _ fun m => hn.1 (zip_fst_mem m), if_pos hf]
      exact if_pos rfl
    | succ i => exact bindL_at f ps cs _ i p c hn.2 (by simpa using h1) (by simpa using h2) hf
theorem bindC_at (f : Str → Option NameKind) : ∀ (ps : List Str) (cs : List Value) (m : Str → Option Value) (i : Nat) (p : Str) (c : Value), ps.Nodup → ps[i]? = some p → cs[i]? = some c → f p ≠ some .local → bindC f (ps.zip cs) m p = some c
  | [], _, _, _, _, _, _, h, _, _ => by simp at h
  | _ :: _, [], _, _, _, _, _, _, h, _ => by simp at h
  | q :: ps, d :: cs, m, i, p, c, hn, h1, h2, hf => by
    rw [List.nodup_cons] at hn
    rw [List.zip_cons_cons]
    show bindC f (ps.zip cs) _ p = some c
    cases i with
    | zero =>
      have e1 : q = p := by simpa using h1
      have e2 : d = c := by simpa using h2
      subst e1; subst e2
      rw [bindC_miss f _ _ _ fun m => hn.1 (zip_fst_mem m), if_neg hf]
      exact if_pos rfl
    | succ i => exact bindC_at f ps cs _ i p c hn.2 (by simpa using h1) (by simpa using h2) hf
/-- what the text says of a def -/
structure FnP (π : Par) (G : GFn) (scope : Scope) (name : Str) (cd : Value) (ps : List Str) : Prop where
  sc : π.scs G.sc = scope
  kinds : G.kinds = scope.names.map isCell
  kind : scope.kind = .function
  nd : (scope.names.map (·.1)).Nodup
  np : ps.length = G.np
  par : ∀ (i : Nat) (nm : Str), ps[i]? = some nm → ∃ k, scope.names[i]? = some (nm, k) ∧ (k = .local ∨ k = .cell) ∧ scope.names.lookup nm = some k
  cf : ∀ f, G.cf = f + 1 → cd = .ref (π.ni f).c ∧ (name ++ ".<locals>.") ++ (π.ni f).name = (π.ni f).qual
section
variable {w : World} {π : Par} {A : Around} {s : Shared} {ρ : List Addr} {H H' : AH} {n K : Nat} {mg mb : Str → Option Value} {st : Static} {P : Prm} {h : Heap}
theorem FnP.pnd {G : GFn} {scope : Scope} {name : Str} {cd : Value} {ps : List Str} (F : FnP π G scope name cd ps) : ps.Nodup := by
  have : ps = (scope.names.map (·.1)).take ps.length := by
    apply List.ext_getElem?
    intro j
    by_cases hj : j < ps.length
    · obtain ⟨k, q1, _⟩ := F.par j ps[j] (List.getElem?_eq_getElem hj)
      rw [List.getElem?_take_of_lt hj, List.getElem?_map, q1, List.getElem?_eq_getElem hj]; rfl
    · rw [List.getElem?_eq_none (by omega), List.getElem?_eq_none (by rw [List.length_take]; omega)]
  rw [this]
  exact List.Nodup.sublist (List.take_sublist _ _) F.nd
theorem enter_core {G : GFn} {scope : Scope} {name : Str} {cd : Value} {ps : List Str} {vs : List V} {cvs : List Value} {L a : Addr} (F : FnP π G scope name cd ps) (hnp : vs.length = G.np) (xs : VRs π ρ vs cvs)
    (I : Inv π ρ H h) (hlt : ∀ b ∈ ρ, b < L) (hb : ∀ a, L ≤ a → π.hb.get? a = none) (hlo : 1 < L)
    (hns : h.Ns L (bindL (envOfC name scope L a cd).kindOf (ps.zip cvs) fun _ => none)) (hcl : Cl L (cellsFrom (L + 1) scope.names []) h (bindC (envOfC name scope L a cd).kindOf (ps.zip cvs) fun _ => none)) :
    ∃ ext, Inv π (ρ ++ ext) (heapG G vs H) h ∧ EnvR π (ρ ++ ext) (envG G H) (envOfC name scope L a cd) ∧ ∀ b ∈ ext, L ≤ b := by
  have hlen := xs.length
  have hkd : ∀ nm, (envOfC name scope L a cd).kindOf nm = scope.names.lookup nm := fun _ => rfl
  have hvi : ∀ (i : Nat) (v : V), vs[i]? = some v → ∃ p k c, ps[i]? = some p ∧ scope.names[i]? = some (p, k) ∧ (k = .local ∨ k = .cell) ∧ scope.names.lookup p = some k ∧ cvs[i]? = some c ∧ VR π ρ v c := fun i v e => by
    have hi : i < ps.length := by have := (List.getElem?_eq_some_iff.mp e).1; rw [F.np]; omega
    obtain ⟨k, q1, q2, q3⟩ := F.par i ps[i] (List.getElem?_eq_getElem hi)
    obtain ⟨c, q4, q5⟩ := xs.get e
    exact ⟨ps[i], k, c, List.getElem?_eq_getElem hi, q1, q2, q3, q4, q5⟩
  have I1 : Inv π (ρ ++ [L]) (H ++ [.ns G.sc (nsInit G.kinds vs)]) h := by
    refine I.add hlt (hb L (Nat.le_refl _)) hlo (ns_nocode hns) ⟨by rw [F.sc]; exact F.nd, _, hns, fun i v nm e1 e2 => ?_⟩
    rw [F.sc] at e2
    obtain ⟨q1, q2⟩ := nsInit_at _ _ _ _ e1
    obtain ⟨p, k, c, r1, r2, r3, r4, r5, r6⟩ := hvi i v q2
    rw [e2] at r2
    cases r2
    rw [F.kinds, List.getElem?_map, e2] at q1
    have hk : k = .local := by
      rcases r3 with rfl | rfl
      · rfl
      · cases q1
    subst hk
    exact ⟨c, bindL_at _ _ _ _ i p c F.pnd r1 r5 ((hkd _).trans r4), r6.mono⟩
  obtain ⟨ext, J1, J2, J3⟩ := add_cells scope.names vs (ρ ++ [L]) _ (L + 1) I1 (fun b m => by
      rcases List.mem_append.mp m with m | m
      · exact Nat.lt_succ_of_lt (hlt b m)
      · rw [List.mem_singleton.mp m]; exact Nat.lt_succ_self _) (fun a ha => hb a (Nat.le_of_succ_le ha)) (Nat.lt_succ_of_lt hlo) fun i nm e => by
    refine ⟨_, hcl.cell nm _ (cellsFrom_hit scope.names _ _ i nm F.nd e), fun v hv => ?_⟩
    obtain ⟨p, k, c, r1, r2, r3, r4, r5, r6⟩ := hvi i v hv
    rw [e] at r2
    cases r2
    exact ⟨c, bindC_at _ _ _ _ i nm c F.pnd r1 r5 (by rw [hkd, r4]; decide), r6.mono⟩
  have eρ : ρ ++ [L] ++ ext = ρ ++ L :: ext := by simp
  rw [eρ] at J1 J3
  refine ⟨L :: ext, ?_, ?_, fun b m => ?_⟩
  · rw [← F.kinds] at J1
    unfold heapG
    rw [← List.append_assoc]
    exact J1
  · refine ⟨F.sc.symm, by rw [show (envG G H).sc = G.sc from rfl, F.sc]; exact F.kind, ?_, rfl, rfl, ?_, F.cf⟩
    · show (ρ ++ L :: ext)[H.length]? = some L
      rw [← I.len]; simp
    · intro i j nm e1 e2
      have e1 : (cellIdx (H.length + 1) G.kinds)[i]? = some (some j) := e1
      have e2 : (π.scs G.sc).names[i]? = some nm := e2
      rw [F.sc] at e2
      rw [F.kinds] at e1
      obtain ⟨p, q1, q2, q3⟩ := cellIdx_at _ _ _ _ e1
      rw [e2] at q1
      cases q1
      obtain ⟨y, k⟩ := nm
      have hk : k = .cell := by simpa [isCell] using q2
      subst hk
      refine ⟨L + 1 + cntN scope.names i, ?_, cellsFrom_hit scope.names _ _ i y F.nd e2⟩
      have := J3 i y e2
      rw [List.length_append, List.length_singleton, I.len] at this
      rw [q3]; exact this
  · rcases List.mem_cons.mp m with rfl | m
    · exact Nat.le_refl _
    · exact Nat.le_of_succ_le (J2 b m)
/-- a def of the text's top, as the heap has it -/
noncomputable def FnOK (π : Par) (st : Static) (G : GFn) (f : Addr) : Prop := ∃ (o : Obj) (name : Str) (params : Arguments) (body : List Stmt) (scope : Scope) (pm cd doc : Value) (ps : List Str),
  π.hb.get? f = some o ∧ o.data = .func (docDef name params body scope pm cd doc) ∧ π.hb.CodeRec cd name ∧ FnP π G scope name cd ps ∧ scOf st G.sc = scope ∧ TrB st scope G.body body ∧ scope.isCoroutine = false ∧ scope.isGenerator = false ∧
    ∀ cs : List Value, cs.length = G.np → bindArgs (docDef name params body scope pm cd doc) ⟨cs, []⟩ = pure (ps.zip cs)
theorem callG_code (C : Ctx w π mg mb st P K) {G : GFn} {f : Addr} (F : FnOK π st G f) {vs : List V} {cvs : List Value} {v : V} {R' : Result → Shared → Prop} (er : callG G P n vs H = some (v, H')) (R : Room (n + K + 1) A) (I : Inv π ρ H s.heap) (xs : VRs π ρ vs cvs)
    (hQ : OnV π ρ s H' v fun cv s' => R' (.ok (.ret cv)) s') : codeAny (MM w) A (.call (.ref f) ⟨cvs, []⟩) R' s := by
  obtain ⟨o, name, params, body, scope, pm, cd, doc, ps, h1, h2, h3, Fp, h5, h6, h7, h8, h9⟩ := F
  unfold callG at er
  split at er
  · rename_i hnp
    have hnp : vs.length = G.np := by simpa using hnp
    have hl := xs.length
    have hpnd := Fp.pnd
    refine call_cells_ret (binds := ps.zip cvs) R.lim (I.base _ _ h1) h2 ?_ (h3.keeps fun _ _ e => I.base _ _ e) (h9 cvs (by omega)) ?_ (fun h₁ tk F X => ?_) h7 h8 Fp.kind
    · obtain ⟨mc, q1, q2⟩ := C.base.lim
      exact ⟨mc, ns_at q1 fun o e => I.base _ _ e, q2⟩
    · intro x hx
      have hm := (List.of_mem_zip (a := x.1) (b := x.2) hx).1
      obtain ⟨j, hj, q⟩ := List.getElem_of_mem hm
      obtain ⟨k, q1, q2, q3⟩ := Fp.par j x.1 (by rw [List.getElem?_eq_getElem hj, q])
      rcases q2 with rfl | rfl
      · exact .inl q3
      · exact .inr ⟨q3, by rw [cellsFrom_hit _ _ _ j x.1 Fp.nd q1]; rfl⟩
    · have hlow : ∀ b ∈ ρ, b < s.heap.objs.size := fun b m => by
        obtain ⟨i, hi, e⟩ := List.getElem_of_mem m
        obtain ⟨ob, q⟩ := I.live (List.getElem?_eq_getElem (I.len ▸ hi)) (List.getElem?_eq_getElem hi) rfl
        rw [e] at q
        exact Heap.lt_size q
      have hfree : ∀ a, s.heap.objs.size ≤ a → π.hb.get? a = none := fun a ha => by
        cases q : π.hb.get? a with
        | none => rfl
        | some o => exact absurd (Heap.lt_size (I.base _ _ q)) (Nat.not_lt.mpr ha)
      have hlo : 1 < s.heap.objs.size := by
        obtain ⟨o, q⟩ := I.g3
        have q1 : (3 : Nat) < s.heap.objs.size := Heap.lt_size (I.base _ _ q)
        exact Nat.lt_of_le_of_lt (by decide) q1
      obtain ⟨ext, J1, J2, J3⟩ := enter_core (a := f) Fp hnp xs (I.grow F.keep) hlow hfree hlo F.ns X
      have x0 : Ext ρ s.heap (ρ ++ ext) h₁ := ⟨⟨ext, rfl, fun a m => .inl (Heap.get?_none_of_le (J3 a m))⟩, fun b o _ e => F.keep b o e⟩
      have go : ∀ o H2, run P n (.B (envG G H) G.body) (heapG G vs H) = some (o, H2) → H2 = H' → (∀ v', o = .rt v' ∨ (o = .nx ∧ v' = .none) → v' = v) →
          wpAny (MM w) (A.deeper (envOfC name scope s.heap.objs.size f cd)) (execs body (envOfC name scope s.heap.objs.size f cd)) (fun fl s' => R' (.ok (.ret (match fl with | .ret v => v | _ => .none))) s') NoE { s with heap := h₁, toks := tk } := fun o H2 hr hH hv =>
        (sound C n).B _ _ _ _ _ hr body (by show TrB st (scOf st G.sc) G.body body; rw [h5]; exact h6) (A.deeper (envOfC name scope s.heap.objs.size f cd)) { s with heap := h₁, toks := tk } (ρ ++ ext) (envOfC name scope s.heap.objs.size f cd) _
          (R.deep _) J1 J2 fun ρ3 fl h3 tk3 hf I3 x3 => by
            subst hH
            cases o with
            | nx =>
              cases fl with
              | next =>
                have := hv .none (.inr ⟨rfl, rfl⟩)
                exact hQ ρ3 .none h3 tk3 (this ▸ rfl) I3 (x0.trans x3)
              | _ => exact hf.elim
            | rt v' =>
              have := hv v' (.inl rfl)
              subst this
              cases fl with
              | ret cv => exact hQ ρ3 cv h3 tk3 hf I3 (x0.trans x3)
              | _ => exact hf.elim
            | _ => exact hf.elim
      split at er
      · rename_i v' H2 hr
        cases er
        exact go _ _ hr rfl fun v' q => by
          rcases q with q | ⟨q, _⟩
          · cases q; rfl
          · cases q
      · rename_i H2 hr
        cases er
        exact go _ _ hr rfl fun v' q => by
          rcases q with q | ⟨_, q⟩
          · cases q
          · exact q
      · cases er
  · cases er
theorem callG_sound (C : Ctx w π mg mb st P K) {G : GFn} {f : Addr} (F : FnOK π st G f) {vs : List V} {cvs : List Value} {v : V} {Q : Value → Shared → Prop} (er : callG G P n vs H = some (v, H')) (R : Room (n + K + 1) A) (I : Inv π ρ H s.heap) (xs : VRs π ρ vs cvs) (hQ : OnV π ρ s H' v Q) :
    wpAny (MM w) A (call (.ref f) cvs) Q NoE s :=
  wpAny_call (callG_code C F er R I xs hQ)
end
end Mine

namespace Mine
theorem nocode_of {h : Heap} {a : Addr} {ob : Obj} (e : h.get? a = some ob) (n : ∀ vs q t, ob.data = .fields vs → vs[1]? ≠ some (.str q t)) (q : Str) : ¬ h.CodeRec (.ref a) q := by
  rintro ⟨c, o, vs, t, e1, e2, e3, e4⟩
  cases e1
  rw [e] at e2; cases e2
  exact n vs q t e3 e4
theorem ObjR.nocode {π : Par} {ρ : List Addr} {h : Heap} {a : Addr} {o : AO} (x : ObjR π ρ h a o) (q : Str) : ¬ h.CodeRec (.ref a) q := by
  cases o with
  | list pl vs =>
    obtain ⟨_, ⟨ob, e, _, n, d⟩, _⟩ := x
    exact nocode_of e (fun _ _ _ q => by rw [d] at q; cases q) q
  | tup vs =>
    obtain ⟨_, _, e, _⟩ := x
    exact nocode_of e (fun _ _ _ q => by cases q) q
  | dict0 =>
    obtain ⟨_, e⟩ := x
    exact nocode_of e (fun _ _ _ q => by cases q) q
  | range _ _ =>
    obtain ⟨_, _, _, e⟩ := x
    exact nocode_of e (fun _ _ _ q => by cases q; simp) q
  | ns sc m =>
    obtain ⟨_, _, hn, _⟩ := x
    exact ns_nocode hn q
  | cell v => cases v with
    | none => obtain ⟨_, e⟩ := x; exact cell_nocode e q
    | some v => obtain ⟨_, e, _⟩ := x; exact cell_nocode e q
  | clos f cl =>
    obtain ⟨_, _, _, _, _, e, _⟩ := x
    exact nocode_of e (fun _ _ _ q => by cases q) q
  | tab f =>
    rcases x.2 with e | ⟨_, e, _⟩
    · exact nocode_of e (fun _ _ _ q => by cases q; simp) q
    · exact nocode_of e (fun _ _ _ q => by cases q; simp [rawInt]) q

noncomputable def lsubr : List Lin → Lin → Lin
  | q :: ps, c :: r => ladd (lscale c q) (lsubr ps r)
  | _, _ => []
noncomputable def lsub (ps : List Lin) : Lin → Lin
  | [] => []
  | c :: r => ladd [c] (lsubr ps r)
noncomputable def sub (σ : Nat → Int) (ps : List Lin) : Nat → Int
  | 0 => 1
  | k + 1 => lv σ 0 (ps.getD k [])
theorem lv_lsubr (σ : Nat → Int) (ps₀ : List Lin) : ∀ (r : Lin) (ps : List Lin) (k : Nat), (∀ j, ps.getD j [] = ps₀.getD (k + j) []) → lv (sub σ ps₀) (k + 1) r = lv σ 0 (lsubr ps r)
  | [], ps, k, _ => by cases ps <;> rfl
  | c :: r, [], k, h => by
    show c * lv σ 0 (ps₀.getD k []) + lv (sub σ ps₀) (k + 1 + 1) r = 0
    have h0 := h 0
    rw [Nat.add_zero] at h0
    rw [← h0, lv_lsubr σ ps₀ r [] (k + 1) fun j => by
      have := h (j + 1)
      rw [show k + 1 + j = k + (j + 1) by omega, ← this]; simp]
    have e1 : lv σ 0 (([] : List Lin).getD 0 []) = 0 := rfl
    have e2 : lv σ 0 (lsubr [] r) = 0 := by cases r <;> rfl
    rw [e1, e2]; simp
  | c :: r, q :: ps, k, h => by
    show c * lv σ 0 (ps₀.getD k []) + lv (sub σ ps₀) (k + 1 + 1) r = lv σ 0 (ladd (lscale c q) (lsubr ps r))
    have h0 := h 0
    rw [Nat.add_zero] at h0
    rw [← h0, lv_lsubr σ ps₀ r ps (k + 1) fun j => by
      have := h (j + 1)
      rw [show k + 1 + j = k + (j + 1) by omega, ← this]; simp, lv_ladd, lv_lscale]
    rfl
theorem lv_lsub {σ : Nat → Int} (h0 : σ 0 = 1) (ps : List Lin) (p : Lin) : lv (sub σ ps) 0 p = lv σ 0 (lsub ps p) := by
  cases p with
  | nil => rfl
  | cons c r =>
    show c * 1 + lv (sub σ ps) 1 r = lv σ 0 (ladd [c] (lsubr ps r))
    rw [lv_lsubr σ ps r ps 0 fun j => by rw [Nat.zero_add], lv_ladd]
    show c * 1 + _ = (c * σ 0 + 0) + _
    rw [h0]; omega
noncomputable abbrev Par.re (π : Par) (σ : Nat → Int) : Par := { π with σ := σ }
noncomputable def units (n : Nat) : List V := (List.range n).map fun k => .int (lunit (k + 1))
inductive RelO (ps : List Lin) : AO → AO → Prop
  | tab {f : Nat} : RelO ps (.tab f) (.tab f)
  | list {us : List V} : allInts us = some ps → RelO ps (.list true us) (.list true (units ps.length))
section
variable {π : Par} {ρ ρ' : List Addr} {H : AH} {h : Heap}
/-- ints, in the other unknowns -/
theorem ints_to (h0 : π.σ 0 = 1) {σ' : Nat → Int} : ∀ {vs : List V} {us : List V} {cs : List Value} {ps qs : List Lin}, allInts vs = some ps → allInts us = some qs → (ps.map fun p => lv π.σ 0 p) = (qs.map fun q => lv σ' 0 q) → VRs π ρ vs cs → VRs (π.re σ') ρ' us cs
  | [], us, cs, ps, qs, e1, e2, e3, x => by
    cases e1
    have hq : qs = [] := by simpa using e3.symm
    subst hq
    cases us with
    | nil => cases cs with
      | nil => trivial
      | cons _ _ => exact x.elim
    | cons u us =>
      obtain ⟨q, _, k1⟩ := bI_some e2
      obtain ⟨qs, _, k2⟩ := bO_some k1
      cases k2
  | v :: vs, us, cs, ps, qs, e1, e2, e3, x => by
    cases cs with
    | nil => exact x.elim
    | cons c cs =>
      obtain ⟨p, rfl, k1⟩ := bI_some e1
      obtain ⟨ps1, hp, k2⟩ := bO_some k1
      cases k2
      cases qs with
      | nil => simp at e3
      | cons q qs =>
        rw [List.map_cons, List.map_cons, List.cons.injEq] at e3
        cases us with
        | nil => cases e2
        | cons u us =>
          obtain ⟨q', rfl, k3⟩ := bI_some e2
          obtain ⟨qs1, hq, k4⟩ := bO_some k3
          cases k4
          obtain ⟨t, ht⟩ := x.1
          exact ⟨⟨t, by rw [ht, e3.1]⟩, ints_to h0 hp hq e3.2 x.2⟩
theorem units_ints (n : Nat) : allInts (units n) = some ((List.range n).map fun k => lunit (k + 1)) := by
  unfold units
  have : ∀ l : List Nat, allInts (l.map fun k => V.int (lunit (k + 1))) = some (l.map fun k => lunit (k + 1)) := by
    intro l
    induction l with
    | nil => rfl
    | cons a l ih =>
      show bO (allInts (l.map fun k => V.int (lunit (k + 1)))) (fun ps => some (lunit (a + 1) :: ps)) = _
      rw [ih]; rfl
  exact this _
theorem units_vals (σ : Nat → Int) (ps : List Lin) : (ps.map fun p => lv σ 0 p) = (((List.range ps.length).map fun k => lunit (k + 1)).map fun q => lv (sub σ ps) 0 q) := by
  apply List.ext_getElem?
  intro i
  rw [List.map_map, List.getElem?_map, List.getElem?_map]
  by_cases hi : i < ps.length
  · rw [List.getElem?_range hi, List.getElem?_eq_getElem hi]
    show some _ = some (lv (sub σ ps) 0 (lunit (i + 1)))
    rw [lv_unit]
    rw [Nat.zero_add]
    show _ = some (lv σ 0 (ps.getD i []))
    rw [List.getD_eq_getElem?_getD, List.getElem?_eq_getElem hi]; rfl
  · rw [List.getElem?_eq_none (by omega), List.getElem?_eq_none (by rw [List.length_range]; omega)]; rfl
end
end Mine

namespace Mine
noncomputable def RelH (ps : List Lin) (idx : List Nat) (H H0 : AH) : Prop := ∀ (k : Nat) (o0 : AO), H0[k]? = some o0 → ∃ (i : Nat) (o : AO), idx[k]? = some i ∧ H[i]? = some o ∧ RelO ps o o0
section
variable {π : Par} {ρ ρ1 : List Addr} {H H0 H1 : AH} {h h' : Heap} {idx : List Nat} {ps : List Lin}
noncomputable abbrev pick (ρ : List Addr) (idx : List Nat) : List Addr := idx.map fun i => ρ.getD i 0
theorem pick_at (I : Inv π ρ H h) (hrel : RelH ps idx H H0) {k : Nat} {o0 : AO} (e : H0[k]? = some o0) :
    ∃ (i : Nat) (o : AO) (a : Addr), idx[k]? = some i ∧ H[i]? = some o ∧ ρ[i]? = some a ∧ (pick ρ idx)[k]? = some a ∧ RelO ps o o0 := by
  obtain ⟨i, o, e1, e2, e3⟩ := hrel k o0 e
  obtain ⟨a, ea, _⟩ := I.at e2
  exact ⟨i, o, a, e1, e2, ea, by rw [List.getElem?_map, e1]; show some (ρ.getD i 0) = _; rw [List.getD_eq_getElem?_getD, ea]; rfl, e3⟩
theorem pick_mem (I : Inv π ρ H h) (hlen : idx.length = H0.length) (hrel : RelH ps idx H H0) {a : Addr} (m : a ∈ pick ρ idx) : ∃ (k i : Nat) (o o0 : AO), idx[k]? = some i ∧ H[i]? = some o ∧ ρ[i]? = some a ∧ (pick ρ idx)[k]? = some a ∧ H0[k]? = some o0 ∧ RelO ps o o0 := by
  obtain ⟨k, hk, e⟩ := List.getElem_of_mem m
  have hk0 : k < H0.length := by rw [List.length_map] at hk; omega
  obtain ⟨i, o, a', e1, e2, e3, e4, e5⟩ := pick_at I hrel (List.getElem?_eq_getElem hk0)
  rw [List.getElem?_eq_getElem hk, e] at e4
  cases e4
  exact ⟨k, i, o, H0[k], e1, e2, e3, by rw [List.getElem?_eq_getElem hk, e], List.getElem?_eq_getElem hk0, e5⟩
theorem proj_in (h0 : π.σ 0 = 1) (I : Inv π ρ H h) (hnd : idx.Nodup) (hlen : idx.length = H0.length) (hrel : RelH ps idx H H0) : Inv (π.re (sub π.σ ps)) (pick ρ idx) H0 h := by
  refine ⟨by rw [List.length_map]; exact hlen, ?_, fun a m => ?_, fun a m => ?_, I.g3, I.base, fun k o0 a e1 e2 => ?_⟩
  · intro i j o o' a e1 e2 f1 f2 _ _
    obtain ⟨x, ox, ax, q1, q2, q3, q4, _⟩ := pick_at I hrel f1
    obtain ⟨y, oy, ay, r1, r2, r3, r4, _⟩ := pick_at I hrel f2
    rw [e1] at q4; cases q4
    rw [e2] at r4; cases r4
    have := I.nd x y ox oy _ q3 r3 q2 r2 rfl rfl
    subst this
    exact (List.getElem?_inj (List.getElem?_eq_some_iff.mp q1).1 hnd).mp (q1.trans r1.symm)
  · obtain ⟨_, i, _, _, _, _, e, _⟩ := pick_mem I hlen hrel m
    exact I.new a (List.mem_of_getElem? e)
  · obtain ⟨_, i, _, _, _, _, e, _⟩ := pick_mem I hlen hrel m
    exact I.lo a (List.mem_of_getElem? e)
  · obtain ⟨i, o, a', q1, q2, q3, q4, q5⟩ := pick_at I hrel e1
    rw [e2] at q4; cases q4
    have x := I.obj i o a q2 q3
    cases q5 with
    | tab =>
      obtain ⟨ea, x⟩ := x
      refine ⟨ea, ?_⟩
      rcases x with e | ⟨c', e, n, r⟩
      · exact .inl e
      · exact .inr ⟨c', e, fun m => n (by
          obtain ⟨_, i, _, _, _, _, e, _⟩ := pick_mem I hlen hrel m
          exact List.mem_of_getElem? e), r⟩
    | list h1 =>
      obtain ⟨cvs, y1, y2, y3⟩ := x
      exact ⟨cvs, y1, y2, ints_to h0 h1 (units_ints _) (units_vals _ _) y3⟩
theorem proj_out (h0 : π.σ 0 = 1) (I : Inv π ρ H h) (hlen : idx.length = H0.length) (hrel : RelH ps idx H H0)
    (I1 : Inv (π.re (sub π.σ ps)) ρ1 H1 h') (X : Ext (pick ρ idx) h ρ1 h') (hkeep : ∀ (k : Nat) (o0 : AO), H0[k]? = some o0 → H1[k]? = some o0) : Inv π ρ H h' ∧ Ext ρ h ρ h' := by
  have hsub : ∀ {b : Addr}, b ∉ ρ → b ∉ pick ρ idx := fun {b} n m => by
    obtain ⟨_, _, _, _, _, _, e, _⟩ := pick_mem I hlen hrel m
    exact n (List.mem_of_getElem? e)
  have hk : ∀ b ob, b ∉ ρ → h.get? b = some ob → h'.get? b = some ob := fun b ob n e => X.kept b ob (hsub n) e
  refine ⟨⟨I.len, I.nd, I.new, I.lo, I.g3, I1.base, fun i o a e1 e2 => ?_⟩, .of_kept hk⟩
  by_cases hm : a ∈ pick ρ idx
  · obtain ⟨k, i', o', o0, q1, q2, q3, q4, q5, q6⟩ := pick_mem I hlen hrel hm
    have hi := I.nd i i' o o' a e2 q3 e1 q2 rfl rfl
    subst hi
    rw [e1] at q2; cases q2
    have y := I1.obj k o0 a (hkeep k o0 q5) (X.get q4)
    cases q6 with
    | tab =>
      rename_i f
      obtain ⟨ea, y⟩ := y
      refine ⟨ea, ?_⟩
      rcases y with e | ⟨c', e, n, r⟩
      · exact .inl e
      · refine .inr ⟨c', e, fun m => ?_, r⟩
        by_cases hc : c' ∈ pick ρ idx
        · obtain ⟨k2, _, _, _, _, _, _, z4, _, _⟩ := pick_mem I hlen hrel hc
          exact n (List.mem_of_getElem? (X.get z4))
        · obtain ⟨j, hj, ej⟩ := List.getElem_of_mem m
          have hj' : j < H.length := I.len ▸ hj
          have z := I.obj j H[j] c' (List.getElem?_eq_getElem hj') (by rw [List.getElem?_eq_getElem hj, ej])
          obtain ⟨ob, z2⟩ := z.live rfl
          refine z.nocode (π.ni f).qual ?_
          obtain ⟨c2, o2, vs, t, w1, w2, w3⟩ := r
          cases w1
          rw [X.kept c' ob hc z2] at w2
          cases w2
          exact ⟨c', ob, vs, t, rfl, z2, w3⟩
    | list h1 =>
      obtain ⟨cvs, y1, y2, y3⟩ := y
      exact ⟨cvs, y1, y2, ints_to (π := π.re (sub π.σ ps)) (σ' := π.σ) rfl (units_ints _) h1 (units_vals _ _).symm y3⟩
  · simpa using (I.obj i o a e1 e2).keep (ext := []) (by simp) (fun ob e => X.kept a ob hm e) hk
/-- a new address of the small run is new to the great one -/
theorem proj_new (I : Inv π ρ H h) (hlen : idx.length = H0.length) (I1 : Inv (π.re (sub π.σ ps)) ρ1 H1 h') (X : Ext (pick ρ idx) h ρ1 h') {k : Nat} {a : Addr} (hk : H0.length ≤ k) (e : ρ1[k]? = some a) : h.get? a = none := by
  obtain ⟨ext, rfl, hx⟩ := X.pre
  have hl : (pick ρ idx).length = H0.length := by rw [List.length_map]; exact hlen
  have e' : ext[k - H0.length]? = some a := by
    rw [List.getElem?_append_right (by omega), hl] at e; exact e
  rcases hx a (List.mem_of_getElem? e') with q | q
  · exact q
  · exfalso
    obtain ⟨j, hj, ej⟩ := List.getElem_of_mem q
    have ej2 : (pick ρ idx ++ ext)[j]? = some a := by rw [List.getElem?_append_left hj, List.getElem?_eq_getElem hj, ej]
    have l1 := (List.getElem?_eq_some_iff.mp e).1
    have l2 := (List.getElem?_eq_some_iff.mp ej2).1
    have l1 : k < H1.length := I1.len ▸ l1
    have l2 : j < H1.length := I1.len ▸ l2
    have := I1.nd j k (H1[j]'l2) (H1[k]'l1) a ej2 e (List.getElem?_eq_getElem l2) (List.getElem?_eq_getElem l1) rfl rfl
    omega
end
end Mine

namespace Mine
/-- what the great run makes of the small run's result -/
inductive Res (ps : List Lin) (H H0 H1 : AH) : V → V → AH → Prop
  | int {p : Lin} : Res ps H H0 H1 (.int p) (.int (lsub ps p)) H
  | list {k : Nat} {fs : List V} {qs : List Lin} : H0.length ≤ k → H1[k]? = some (.list true fs) → allInts fs = some qs → Res ps H H0 H1 (.ref k) (.ref H.length) (H ++ [.list true (qs.map fun q => .int (lsub ps q))])
  | tup {k : Nat} {fs : List V} {qs : List Lin} : H0.length ≤ k → H1[k]? = some (.tup fs) → allInts fs = some qs → Res ps H H0 H1 (.ref k) (.ref H.length) (H ++ [.tup (qs.map fun q => .int (lsub ps q))])
theorem allInts_map (g : Lin → Lin) : ∀ qs : List Lin, allInts (qs.map fun q => V.int (g q)) = some (qs.map g)
  | [] => rfl
  | q :: qs => by
    show bO (allInts (qs.map fun q => V.int (g q))) (fun ps => some (g q :: ps)) = _
    rw [allInts_map g qs]; rfl
section
variable {w : World} {π : Par} {A : Around} {s : Shared} {ρ ρ1 : List Addr} {H H0 H1 H' : AH} {n K : Nat} {mg mb : Str → Option Value} {st : Static} {P : Prm} {idx : List Nat} {ps : List Lin}
theorem summ {G : GFn} {f : Addr} {vs0 : List V} {cvs : List Value} {v0 v : V} {Q : Value → Shared → Prop} (C : Ctx w (π.re (sub π.σ ps)) mg mb st P K) (F : FnOK (π.re (sub π.σ ps)) st G f) (h0 : π.σ 0 = 1) (I : Inv π ρ H s.heap)
    (hnd : idx.Nodup) (hlen : idx.length = H0.length) (hrel : RelH ps idx H H0) (er : callG G P n vs0 H0 = some (v0, H1)) (hkeep : ∀ (k : Nat) (o0 : AO), H0[k]? = some o0 → H1[k]? = some o0)
    (xs : VRs (π.re (sub π.σ ps)) (pick ρ idx) vs0 cvs) (R : Room (n + K + 1) A) (res : Res ps H H0 H1 v0 v H') (hQ : OnV π ρ s H' v Q) : wpAny (MM w) A (call (.ref f) cvs) Q NoE s := by
  refine callG_sound C F er R (proj_in h0 I hnd hlen hrel) xs fun ρ1 cv h' tk' hv I1 X => ?_
  obtain ⟨J, Y⟩ := proj_out h0 I hlen hrel I1 X hkeep
  have vals : ∀ qs : List Lin, (qs.map fun q => lv (sub π.σ ps) 0 q) = ((qs.map (lsub ps)).map fun q => lv π.σ 0 q) := fun qs => by
    rw [List.map_map]
    exact List.map_congr_left fun q _ => lv_lsub h0 ps q
  have fresh : ∀ {k : Nat} {a : Addr} {o : AO}, H0.length ≤ k → ρ1[k]? = some a → (∀ q, ¬ h'.CodeRec (.ref a) q) → ObjR π (ρ ++ [a]) h' a o → Inv π (ρ ++ [a]) (H ++ [o]) h' ∧ Ext ρ s.heap (ρ ++ [a]) h' ∧ VR π (ρ ++ [a]) (.ref H.length) (.ref a) := fun {k a o} hk e hnc x => by
    have hn := proj_new I hlen I1 X hk e
    refine ⟨J.addN (I.nin hn) ?_ (I1.lo a (List.mem_of_getElem? e)) hnc x, ⟨⟨[a], rfl, by simp [hn]⟩, Y.kept⟩, ⟨a, by rw [← I.len]; exact get_app_len _ _, rfl⟩⟩
    cases q : π.hb.get? a with
    | none => rfl
    | some o => rw [I.base _ _ q] at hn; cases hn
  cases res with
  | int =>
    obtain ⟨t, rfl⟩ := hv
    exact hQ ρ _ h' tk' ⟨t, by rw [← lv_lsub h0]⟩ J Y
  | list hk e hq =>
    obtain ⟨a, ea, rfl⟩ := hv
    have x := I1.obj _ _ a e ea
    have hnc := x.nocode
    obtain ⟨us, y1, y2, y3⟩ := x
    obtain ⟨z1, z2, z3⟩ := fresh (o := .list true _) hk ea hnc ⟨us, y1, y2, ints_to (π := π.re (sub π.σ ps)) (σ' := π.σ) rfl hq (allInts_map _ _) (vals _) y3⟩
    exact hQ _ _ h' tk' z3 z1 z2
  | tup hk e hq =>
    obtain ⟨a, ea, rfl⟩ := hv
    have x := I1.obj _ _ a e ea
    have hnc := x.nocode
    obtain ⟨us, nn, y1, y3⟩ := x
    obtain ⟨z1, z2, z3⟩ := fresh (o := .tup _) hk ea hnc ⟨us, nn, y1, ints_to (π := π.re (sub π.σ ps)) (σ' := π.σ) rfl hq (allInts_map _ _) (vals _) y3⟩
    exact hQ _ _ h' tk' z3 z1 z2
end
end Mine

namespace Mine
noncomputable def H0a : AH := [.tab 0, .tab 1]
noncomputable def H0b : AH := [.tab 0, .tab 1, .list true (units 8)]
noncomputable def isTab (f : Nat) (o : Option AO) : Bool := match o with
  | some a => (match a with
    | .tab g => g == f
    | _ => false)
  | none => false
theorem isTab_at {f : Nat} {o : Option AO} (h : isTab f o = true) : o = some (.tab f) := by
  cases o with
  | none => cases h
  | some a => cases a with
    | tab g =>
      have : g = f := by simpa [isTab] using h
      rw [this]
    | _ => cases h
noncomputable def tabs2 (H : AH) : Bool := isTab 0 H[0]? && isTab 1 H[1]?
/-- the figures by two of a lot, each a player -/
noncomputable def tblP : List (Int × List Lin) := [(0, []), (1, [[0]]), (2, [[1]]), (3, [[0], [1]]), (4, [[2]]), (5, [[0], [2]]), (6, [[1], [2]]), (7, [[0], [1], [2]])]
noncomputable def tblQ : List ((Int × Int) × List Lin) := [((6, 1), [[6], [0]]), ((6, 2), [[3], [0]]), ((6, 3), [[2], [0]])]
/-- six times Shapley's values of a game of eight worths -/
noncomputable def partsL : List Lin := [[0, -2, 2, -1, 1, -1, 1, -2, 2], [0, -2, -1, 2, 1, -1, -2, 1, 2], [0, -2, -1, -1, -2, 2, 1, 1, 2]]
/-- a lot's own part of a game's worths -/
noncomputable def tblO : List (Int × Lin) := [(1, [0, -1, 1]), (2, [0, -1, 0, 1]), (3, [0, 1, -1, -1, 1]), (4, [0, -1, 0, 0, 0, 1]), (5, [0, 1, -1, 0, 0, -1, 1]), (6, [0, 1, 0, -1, 0, -1, 0, 1]), (7, [0, -1, 1, 1, -1, 1, -1, -1, 1])]
theorem look_mem {α β : Type} [BEq α] [LawfulBEq α] : ∀ {l : List (α × β)} {a : α} {b : β}, l.lookup a = some b → (a, b) ∈ l
  | [], _, _, h => by cases h
  | (x, y) :: r, a, b, h => by
    rw [List.lookup_cons] at h
    split at h
    · rename_i q
      cases h
      rw [beq_iff_eq.mp q]
      exact .head _
    · exact .tail _ (look_mem h)
noncomputable def lowAll (ps : List Lin) : Bool := match ps with
  | [] => true
  | p :: r => decide (lnorm p ≤ 100000) && lowAll r
noncomputable def p75 (vs : List V) (H : AH) : Option (V × AH) := b1 vs fun v => bI v fun p => bC p fun c => bO (tblP.lookup c) fun qs => gd (tabs2 H) (some (.ref H.length, H ++ [.list true (qs.map fun q => .int (lsub [] q))]))
noncomputable def p70 (vs : List V) (H : AH) : Option (V × AH) := b2 vs fun v u => bI v fun p => bI u fun q => bC p fun a => bC q fun b => bO (tblQ.lookup (a, b)) fun qs => gd (tabs2 H) (some (.ref H.length, H ++ [.tup (qs.map fun q => .int (lsub [] q))]))
noncomputable def eight (i : Nat) (H : AH) : Option (List Lin) := bL H[i]? fun pl us => bO (allInts us) fun ps => gd ((pl && (ps.length == 8 && lowAll ps)) && (tabs2 H && decide (2 ≤ i))) (some ps)
noncomputable def p80 (vs : List V) (H : AH) : Option (V × AH) := b1 vs fun v => bRf v fun i => bO (eight i H) fun ps => some (.ref H.length, H ++ [.list true (partsL.map fun q => .int (lsub ps q))])
noncomputable def p85 (vs : List V) (H : AH) : Option (V × AH) := b2 vs fun v u => bRf v fun i => bI u fun p => bC p fun c => bO (tblO.lookup c) fun q => bO (eight i H) fun ps => some (.int (lsub ps q), H)
end Mine

namespace Mine
theorem allInts_inj : ∀ {us : List V} {ps : List Lin}, allInts us = some ps → us = ps.map V.int
  | [], ps, h => by cases h; rfl
  | u :: us, ps, h => by
    obtain ⟨p, rfl, k1⟩ := bI_some h
    obtain ⟨qs, hq, k2⟩ := bO_some k1
    cases k2
    rw [List.map_cons, ← allInts_inj hq]
/-- the tables, and the ints of the list behind them -/
noncomputable def keepB (n : Nat) (H1 : AH) : Bool := tabs2 H1 && (n == 2 || oB (bL H1[2]? fun pl us => some (pl && decide (allInts us = allInts (units 8)))))
theorem keepB_a {H1 : AH} (h : keepB 2 H1 = true) : ∀ (k : Nat) (o0 : AO), H0a[k]? = some o0 → H1[k]? = some o0 := fun k o0 e => by
  obtain ⟨h1, _⟩ := (Bool.and_eq_true _ _).mp h
  obtain ⟨h1, h2⟩ := (Bool.and_eq_true _ _).mp h1
  match k with
  | 0 => exact (isTab_at h1).trans e
  | 1 => exact (isTab_at h2).trans e
  | k + 2 => cases e
theorem keepB_b {H1 : AH} (h : keepB 3 H1 = true) : ∀ (k : Nat) (o0 : AO), H0b[k]? = some o0 → H1[k]? = some o0 := fun k o0 e => by
  obtain ⟨h1, h3⟩ := (Bool.and_eq_true _ _).mp h
  obtain ⟨h1, h2⟩ := (Bool.and_eq_true _ _).mp h1
  match k with
  | 0 => exact (isTab_at h1).trans e
  | 1 => exact (isTab_at h2).trans e
  | 2 =>
    obtain ⟨pl, us, k1, k2⟩ := bL_some (oB_true (show oB _ = true from h3))
    have k2 := Option.some.inj k2
    rw [Bool.and_eq_true, decide_eq_true_eq] at k2
    obtain ⟨rfl, k3⟩ := k2
    have : us = units 8 := (allInts_inj (k3.trans (units_ints 8))).trans (allInts_inj (units_ints 8)).symm
    rw [this] at k1
    exact k1.trans e
  | k + 3 => cases e
inductive Rk where
  | int (p : Lin)
  | list (qs : List Lin)
  | tup (qs : List Lin)
noncomputable def isInts (vs : List V) (qs : List Lin) (j n : Nat) (H1 : AH) : Bool := decide (allInts vs = some qs) && (decide (n ≤ j) && keepB n H1)
noncomputable def chk (r : Option (V × AH)) (n : Nat) (k : Rk) : Bool := oB (bO r fun p => match k with
  | .int q => bI p.1 fun x => some (decide (x = q) && keepB n p.2)
  | .list qs => bRf p.1 fun j => bL p.2[j]? fun pl fs => some (pl && isInts fs qs j n p.2)
  | .tup qs => bRf p.1 fun j => bT p.2[j]? fun fs => some (isInts fs qs j n p.2))
noncomputable def outV (ps : List Lin) (H : AH) : Rk → V × AH
  | .int p => (.int (lsub ps p), H)
  | .list qs => (.ref H.length, H ++ [.list true (qs.map fun q => .int (lsub ps q))])
  | .tup qs => (.ref H.length, H ++ [.tup (qs.map fun q => .int (lsub ps q))])
theorem chk_res {r : Option (V × AH)} {H0 : AH} {k : Rk} (h : chk r H0.length k = true) (hk : ∀ {H1 : AH}, keepB H0.length H1 = true → ∀ (k : Nat) (o0 : AO), H0[k]? = some o0 → H1[k]? = some o0) (ps : List Lin) (H : AH) :
    ∃ v0 H1, r = some (v0, H1) ∧ (∀ (k : Nat) (o0 : AO), H0[k]? = some o0 → H1[k]? = some o0) ∧ Res ps H H0 H1 v0 (outV ps H k).1 (outV ps H k).2 := by
  obtain ⟨⟨v0, H1⟩, rfl, k1⟩ := bO_some (oB_true h)
  cases k with
  | int q =>
    obtain ⟨x, rfl, k2⟩ := bI_some k1
    have k2 := Option.some.inj k2
    rw [Bool.and_eq_true, decide_eq_true_eq] at k2
    obtain ⟨rfl, h2⟩ := k2
    exact ⟨_, _, rfl, hk h2, .int⟩
  | list qs =>
    obtain ⟨j, rfl, k2⟩ := bRf_some k1
    obtain ⟨pl, fs, hj, k3⟩ := bL_some k2
    have k3 := Option.some.inj k3
    simp only [isInts, Bool.and_eq_true, decide_eq_true_eq] at k3
    obtain ⟨rfl, h1, h2, h3⟩ := k3
    exact ⟨_, _, rfl, hk h3, .list h2 hj h1⟩
  | tup qs =>
    obtain ⟨j, rfl, k2⟩ := bRf_some k1
    obtain ⟨fs, hj, k3⟩ := bT_some k2
    have k3 := Option.some.inj k3
    simp only [isInts, Bool.and_eq_true, decide_eq_true_eq] at k3
    obtain ⟨h1, h2, h3⟩ := k3
    exact ⟨_, _, rfl, hk h3, .tup h2 hj h1⟩
section
variable {w : World} {π : Par} {A : Around} {s : Shared} {ρ ρ1 : List Addr} {H H0 H1 H' : AH} {n K K' : Nat} {mg mb : Str → Option Value} {st : Static} {P P' : Prm} {idx : List Nat} {ps : List Lin}
noncomputable def PrimOK (w : World) (π : Par) (K : Nat) (f : Addr) (g : List V → AH → Option (V × AH)) : Prop :=
  ∀ vs H v H', g vs H = some (v, H') → ∀ A s ρ cvs Q, Room K A → Inv π ρ H s.heap → VRs π ρ vs cvs → OnV π ρ s H' v Q → wpAny (MM w) A (call (.ref f) cvs) Q NoE s
noncomputable def OkS (σ : Nat → Int) : Prop := σ 0 = 1 ∧ ∀ i, (σ i).natAbs ≤ 1000000
/-- a level: its rules hold whatever the unknowns are -/
noncomputable def Lvl (w : World) (π : Par) (mg mb : Str → Option Value) (st : Static) (P : Prm) (K : Nat) : Prop := ∀ σ, OkS σ → Ctx w (π.re σ) mg mb st P K
theorem FnOK.re {G : GFn} {f : Addr} (F : FnOK π st G f) (σ : Nat → Int) : FnOK (π.re σ) st G f := by
  obtain ⟨o, name, params, body, scope, pm, cd, doc, ps, h1, h2, h3, Fp, h5, h6, h7, h8, h9⟩ := F
  exact ⟨o, name, params, body, scope, pm, cd, doc, ps, h1, h2, h3, ⟨Fp.sc, Fp.kinds, Fp.kind, Fp.nd, Fp.np, Fp.par, Fp.cf⟩, h5, h6, h7, h8, h9⟩
/-- the same texts, other rules and unknowns -/
theorem Ctx.next (C : Ctx w π mg mb st P K) (σ : Nat → Int) (hσ : OkS σ) (hf : P'.fns = P.fns) (hp : ∀ f, PrimOK w (π.re σ) K' f (P'.prim f)) (hk : ∀ l ∈ P'.known, ¬ ∀ q ∈ l, (q.1 = true → lv σ 0 q.2 = 0) ∧ (q.1 = false → lv σ 0 q.2 ≠ 0))
    (hs : P'.scr = true → ∃ a cvs ns, π.sv = .ref a ∧ π.hb.IsList a (List.toArray cvs) ∧ IntsAre cvs ns ∧ ns.length ≤ 63 ∧ ∀ i, i < 7 → (ns ++ List.replicate 7 0)[i]? = some (π.raw i) ∧ σ (i + 1) = (π.raw i).fmod 10) : Ctx w (π.re σ) mg mb st P' K' where
  base := ⟨C.base.g, C.base.b, C.base.lim, ⟨hσ.1, hσ.2⟩⟩
  scs := C.scs
  fn := C.fn
  gi := C.gi
  bi := C.bi
  rev := C.rev
  enu := C.enu
  bm := C.bm
  prim := fun f vs H v H' e => hp f vs H v H' e
  known := hk
  defs := C.defs
  clos := fun f F e => C.clos f F (by rw [← hf]; exact e)
  scr := hs
theorem inl_ok (L : Lvl w π mg mb st P K) {σ : Nat → Int} (hσ : OkS σ) {G : GFn} {f : Addr} (F : FnOK π st G f) (hK : n + K + 1 ≤ K') : PrimOK w (π.re σ) K' f (callG G P n) :=
  fun _ _ _ _ e A s ρ cvs Q R I xs hQ => callG_sound (L σ hσ) (F.re σ) e (R.le hK) I xs hQ
theorem okS_nil (σ : Nat → Int) : OkS (sub σ []) := ⟨rfl, fun i => by
  cases i with
  | zero => show (1 : Int).natAbs ≤ _; decide
  | succ i =>
    show (lv σ 0 (([] : List Lin).getD i [])).natAbs ≤ _
    have : ([] : List Lin).getD i [] = [] := by simp
    rw [this]; exact Nat.zero_le _⟩
theorem tabs2_at {H : AH} (h : tabs2 H = true) : H[0]? = some (.tab 0) ∧ H[1]? = some (.tab 1) := by
  obtain ⟨h1, h2⟩ := (Bool.and_eq_true _ _).mp h
  exact ⟨isTab_at h1, isTab_at h2⟩
theorem rel2 {H : AH} (h : tabs2 H = true) : RelH ps [0, 1] H H0a := fun k o0 e => by
  obtain ⟨h1, h2⟩ := tabs2_at h
  match k with
  | 0 => cases e; exact ⟨0, _, rfl, h1, .tab⟩
  | 1 => cases e; exact ⟨1, _, rfl, h2, .tab⟩
  | k + 2 => cases e
theorem rel3 {H : AH} {i : Nat} {us : List V} (h : tabs2 H = true) (hi : H[i]? = some (.list true us)) (hu : allInts us = some ps) (h8 : ps.length = 8) : RelH ps [0, 1, i] H H0b := fun k o0 e => by
  obtain ⟨h1, h2⟩ := tabs2_at h
  match k with
  | 0 => cases e; exact ⟨0, _, rfl, h1, .tab⟩
  | 1 => cases e; exact ⟨1, _, rfl, h2, .tab⟩
  | 2 => cases e; exact ⟨i, _, rfl, hi, h8 ▸ .list hu⟩
  | k + 3 => cases e
theorem vrs1 {u : V} {r : List Value} (y : VRs π ρ [u] r) : ∃ c, r = [c] ∧ VR π ρ u c := by
  cases r with
  | nil => exact y.elim
  | cons c r => cases r with
    | nil => exact ⟨c, rfl, y.1⟩
    | cons _ _ => exact y.2.elim
theorem vrs2 {u u' : V} {r : List Value} (y : VRs π ρ [u, u'] r) : ∃ c d, r = [c, d] ∧ VR π ρ u c ∧ VR π ρ u' d := by
  cases r with
  | nil => exact y.elim
  | cons c r =>
    obtain ⟨d, rfl, h⟩ := vrs1 (r := r) y.2
    exact ⟨c, d, rfl, y.1, h⟩
theorem const_to (h0 : π.σ 0 = 1) {p : Lin} {c : Int} {x : Value} {ρ' : List Addr} (hp : lconst p = some c) (h : VR π ρ (.int p) x) {σ' : Nat → Int} (h1 : σ' 0 = 1) : VR (π.re σ') ρ' (.int [c]) x := by
  obtain ⟨t, rfl⟩ := h
  exact ⟨t, by rw [lv_lconst h0 hp, lv_one (σ := (π.re σ').σ) h1]⟩
theorem p75_ok (L : Lvl w π mg mb st P K) {σ : Nat → Int} (hσ : OkS σ) {G : GFn} {f : Addr} (F : FnOK π st G f) (hr : (tblP.all fun p => chk (callG G P n [.int [p.1]] H0a) 2 (.list p.2)) = true) (hK : n + K + 1 ≤ K') : PrimOK w (π.re σ) K' f p75 := by
  intro vs H v H' e A s ρ cvs Q R I xs hQ
  obtain ⟨u, rfl, k1⟩ := b1_some e
  obtain ⟨p, rfl, k2⟩ := bI_some k1
  obtain ⟨c, hc, k3⟩ := bO_some k2
  obtain ⟨qs, hq, k4⟩ := bO_some k3
  obtain ⟨ht, k5⟩ := gd_some k4
  cases k5
  obtain ⟨x, rfl, xv⟩ := vrs1 xs
  obtain ⟨v0, H1, e1, e2, e3⟩ := chk_res (H0 := H0a) (List.all_eq_true.mp hr _ (look_mem hq)) keepB_a [] H
  exact summ (π := π.re σ) (ps := []) (L _ (okS_nil σ)) (F.re _) hσ.1 I (idx := [0, 1]) (by decide) rfl (rel2 ht) e1 e2 ⟨const_to hσ.1 hc xv rfl, trivial⟩ (R.le hK) e3 hQ
theorem p70_ok (L : Lvl w π mg mb st P K) {σ : Nat → Int} (hσ : OkS σ) {G : GFn} {f : Addr} (F : FnOK π st G f) (hr : (tblQ.all fun p => chk (callG G P n [.int [p.1.1], .int [p.1.2]] H0a) 2 (.tup p.2)) = true) (hK : n + K + 1 ≤ K') : PrimOK w (π.re σ) K' f p70 := by
  intro vs H v H' e A s ρ cvs Q R I xs hQ
  obtain ⟨u, u', rfl, k1⟩ := b2_some e
  obtain ⟨p, rfl, k11⟩ := bI_some k1
  obtain ⟨q, rfl, k2⟩ := bI_some k11
  obtain ⟨a, ha, k3⟩ := bO_some k2
  obtain ⟨b, hb, k3⟩ := bO_some k3
  obtain ⟨qs, hq, k4⟩ := bO_some k3
  obtain ⟨ht, k5⟩ := gd_some k4
  cases k5
  obtain ⟨x, y, rfl, xv, yv⟩ := vrs2 xs
  obtain ⟨v0, H1, e1, e2, e3⟩ := chk_res (H0 := H0a) (List.all_eq_true.mp hr _ (look_mem hq)) keepB_a [] H
  exact summ (π := π.re σ) (ps := []) (L _ (okS_nil σ)) (F.re _) hσ.1 I (idx := [0, 1]) (by decide) rfl (rel2 ht) e1 e2 ⟨const_to hσ.1 ha xv rfl, const_to hσ.1 hb yv rfl, trivial⟩ (R.le hK) e3 hQ
theorem lowAll_at : ∀ {ps : List Lin}, lowAll ps = true → ∀ i, lnorm (ps.getD i []) ≤ 100000
  | [], _, i => by simp [lnorm]
  | p :: r, h, i => by
    simp only [lowAll, Bool.and_eq_true, decide_eq_true_eq] at h
    cases i with
    | zero => simpa using h.1
    | succ i => simpa using lowAll_at h.2 i
theorem okS_low {σ : Nat → Int} (h9 : ∀ i, (σ i).natAbs ≤ 9) (h : lowAll ps = true) : OkS (sub σ ps) := ⟨rfl, fun i => by
  cases i with
  | zero => show (1 : Int).natAbs ≤ _; decide
  | succ i =>
    have h1 := lv_norm h9 (ps.getD i []) 0
    have h2 := lowAll_at h i
    show (lv σ 0 (ps.getD i [])).natAbs ≤ _
    omega⟩
theorem eight_at {i : Nat} {H : AH} {ps : List Lin} (h : eight i H = some ps) : ∃ us, H[i]? = some (.list true us) ∧ allInts us = some ps ∧ ps.length = 8 ∧ lowAll ps = true ∧ tabs2 H = true ∧ 2 ≤ i := by
  obtain ⟨pl, us, hi, k1⟩ := bL_some h
  obtain ⟨qs, hq, k2⟩ := bO_some k1
  obtain ⟨hc, k3⟩ := gd_some k2
  cases k3
  simp only [Bool.and_eq_true, decide_eq_true_eq, beq_iff_eq] at hc
  obtain ⟨⟨rfl, h1, h2⟩, h3, h4⟩ := hc
  exact ⟨us, hi, hq, h1, h2, h3, h4⟩
theorem idx3 {i : Nat} (h : 2 ≤ i) : [0, 1, i].Nodup := by
  simp; omega
theorem ref_to {ρ : List Addr} {i : Nat} {x : Value} (h : VR π ρ (.ref i) x) (σ' : Nat → Int) : VR (π.re σ') (pick ρ [0, 1, i]) (.ref 2) x := by
  obtain ⟨a, ea, rfl⟩ := h
  exact ⟨a, by show some (ρ.getD i 0) = _; rw [List.getD_eq_getElem?_getD, ea]; rfl, rfl⟩
theorem p80_ok (L : Lvl w π mg mb st P K) {σ : Nat → Int} (hσ : OkS σ) (h9 : ∀ i, (σ i).natAbs ≤ 9) {G : GFn} {f : Addr} (F : FnOK π st G f) (hr : chk (callG G P n [.ref 2] H0b) 3 (.list partsL) = true) (hK : n + K + 1 ≤ K') : PrimOK w (π.re σ) K' f p80 := by
  intro vs H v H' e A s ρ cvs Q R I xs hQ
  obtain ⟨u, rfl, k1⟩ := b1_some e
  obtain ⟨i, rfl, k2⟩ := bRf_some k1
  obtain ⟨ps, hps, k3⟩ := bO_some k2
  cases k3
  obtain ⟨us, q1, q2, q3, q4, q5, q6⟩ := eight_at hps
  obtain ⟨x, rfl, xv⟩ := vrs1 xs
  obtain ⟨v0, H1, e1, e2, e3⟩ := chk_res (H0 := H0b) hr keepB_b ps H
  exact summ (π := π.re σ) (ps := ps) (L _ (okS_low h9 q4)) (F.re _) hσ.1 I (idx := [0, 1, i]) (idx3 q6) rfl (rel3 q5 q1 q2 q3) e1 e2 ⟨ref_to xv _, trivial⟩ (R.le hK) e3 hQ
theorem p85_ok (L : Lvl w π mg mb st P K) {σ : Nat → Int} (hσ : OkS σ) (h9 : ∀ i, (σ i).natAbs ≤ 9) {G : GFn} {f : Addr} (F : FnOK π st G f) (hr : (tblO.all fun p => chk (callG G P n [.ref 2, .int [p.1]] H0b) 3 (.int p.2)) = true) (hK : n + K + 1 ≤ K') : PrimOK w (π.re σ) K' f p85 := by
  intro vs H v H' e A s ρ cvs Q R I xs hQ
  obtain ⟨u, u', rfl, k1⟩ := b2_some e
  obtain ⟨i, rfl, k11⟩ := bRf_some k1
  obtain ⟨p, rfl, k2⟩ := bI_some k11
  obtain ⟨c, hc, k3⟩ := bO_some k2
  obtain ⟨q, hq, k4⟩ := bO_some k3
  obtain ⟨ps, hps, k5⟩ := bO_some k4
  cases k5
  obtain ⟨us, q1, q2, q3, q4, q5, q6⟩ := eight_at hps
  obtain ⟨x, y, rfl, xv, yv⟩ := vrs2 xs
  obtain ⟨v0, H1, e1, e2, e3⟩ := chk_res (H0 := H0b) (List.all_eq_true.mp hr _ (look_mem hq)) keepB_b ps H
  exact summ (π := π.re σ) (ps := ps) (L _ (okS_low h9 q4)) (F.re _) hσ.1 I (idx := [0, 1, i]) (idx3 q6) rfl (rel3 q5 q1 q2 q3) e1 e2 ⟨ref_to xv _, const_to hσ.1 hc yv rfl, trivial⟩ (R.le hK) e3 hQ
end
end Mine

namespace Mine
structure All (st : Static) where
  b5 : List XS
  s5 : scOf st 0 = sc 5
  t5 : TrB st (sc 5) b5 (bd 5)
  b6 : List XS
  s6 : scOf st 1 = sc 6
  t6 : TrB st (sc 6) b6 (bd 6)
  b0 : List XS
  s0 : scOf st 2 = sc 0
  t0 : TrB st (sc 0) b0 (bd 0)
  b1 : List XS
  s1 : scOf st 3 = sc 1
  t1 : TrB st (sc 1) b1 (bd 1)
  b3 : List XS
  s3 : scOf st 4 = sc 3
  t3 : TrB st (sc 3) b3 (bd 3)
  b7 : List XS
  s7 : scOf st 5 = sc 7
  t7 : TrB st (sc 7) b7 (bd 7)
  b8 : List XS
  s8 : scOf st 6 = sc 8
  t8 : TrB st (sc 8) b8 (bd 8)
  b9 : List XS
  s9 : scOf st 7 = sc 9
  t9 : TrB st (sc 9) b9 (bd 9)
  b10 : List XS
  s10 : scOf st 8 = sc 10
  t10 : TrB st (sc 10) b10 (bd 10)
  b11 : List XS
  s11 : scOf st 9 = sc 11
  t11 : TrB st (sc 11) b11 (bd 11)
  b12 : List XS
  s12 : scOf st 10 = sc 12
  t12 : TrB st (sc 12) b12 (bd 12)
  i0 : List XS
  u0 : scOf st 11 = (st.defs[0]?.map NS.scope).getD default
  v0 : TrB st ((st.defs[0]?.map NS.scope).getD default) i0 ((st.defs[0]?.map NS.body).getD [])
  i1 : List XS
  u1 : scOf st 12 = (st.defs[1]?.map NS.scope).getD default
  v1 : TrB st ((st.defs[1]?.map NS.scope).getD default) i1 ((st.defs[1]?.map NS.body).getD [])
noncomputable def mk1 (s0 s1 s2 s3 s4 s5 s6 s7 s8 s9 s10 s11 s12 s13 s14 s15 s16 s17 s18 s19 s20 s21 s22 s23 s24 s25 : Scope) (d0 d1 : NS) (b5 : List XS) (h5 : scOf ⟨[s0, s1, s2, s3, s4, s5, s6, s7, s8, s9, s10, s11, s12, s13, s14, s15, s16, s17, s18, s19, s20, s21, s22, s23, s24, s25], [d0, d1]⟩ 0 = sc 5) (t5 : TrB ⟨[s0, s1, s2, s3, s4, s5, s6, s7, s8, s9, s10, s11, s12, s13, s14, s15, s16, s17, s18, s19, s20, s21, s22, s23, s24, s25], [d0, d1]⟩ (sc 5) b5 (bd 5)) (b6 : List XS) (h6 : scOf ⟨[s0, s1, s2, s3, s4, s5, s6, s7, s8, s9, s10, s11, s12, s13, s14, s15, s16, s17, s18, s19, s20, s21, s22, s23, s24, s25], [d0, d1]⟩ 1 = sc 6) (t6 : TrB ⟨[s0, s1, s2, s3, s4, s5, s6, s7, s8, s9, s10, s11, s12, s13, s14, s15, s16, s17, s18, s19, s20, s21, s22, s23, s24, s25], [d0, d1]⟩ (sc 6) b6 (bd 6)) (b0 : List XS) (h0 : scOf ⟨[s0, s1, s2, s3, s4, s5, s6, s7, s8, s9, s10, s11, s12, s13, s14, s15, s16, s17, s18, s19, s20, s21, s22, s23, s24, s25], [d0, d1]⟩ 2 = sc 0) (t0 : TrB ⟨[s0, s1, s2, s3, s4, s5, s6, s7, s8, s9, s10, s11, s12, s13, s14, s15, s16, s17, s18, s19, s20, s21, s22, s23, s24, s25], [d0, d1]⟩ (sc 0) b0 (bd 0)) (b1 : List XS) (h1 : scOf ⟨[s0, s1, s2, s3, s4, s5, s6, s7, s8, s9, s10, s11, s12, s13, s14, s15, s16, s17, s18, s19, s20, s21, s22, s23, s24, s25], [d0, d1]⟩ 3 = sc 1) (t1 : TrB ⟨[s0, s1, s2, s3, s4, s5, s6, s7, s8, s9, s10, s11, s12, s13, s14, s15, s16, s17, s18, s19, s20, s21, s22, s23, s24, s25], [d0, d1]⟩ (sc 1) b1 (bd 1)) (b3 : List XS) (h3 : scOf ⟨[s0, s1, s2, s3, s4, s5, s6, s7, s8, s9, s10, s11, s12, s13, s14, s15, s16, s17, s18, s19, s20, s21, s22, s23, s24, s25], [d0, d1]⟩ 4 = sc 3) (t3 : TrB ⟨[s0, s1, s2, s3, s4, s5, s6, s7, s8, s9, s10, s11, s12, s13, s14, s15, s16, s17, s18, s19, s20, s21, s22, s23, s24, s25], [d0, d1]⟩ (sc 3) b3 (bd 3)) (b7 : List XS) (h7 : scOf ⟨[s0, s1, s2, s3, s4, s5, s6, s7, s8, s9, s10, s11, s12, s13, s14, s15, s16, s17, s18, s19, s20, s21, s22, s23, s24, s25], [d0, d1]⟩ 5 = sc 7) (t7 : TrB ⟨[s0, s1, s2, s3, s4, s5, s6, s7, s8, s9, s10, s11, s12, s13, s14, s15, s16, s17, s18, s19, s20, s21, s22, s23, s24, s25], [d0, d1]⟩ (sc 7) b7 (bd 7)) (b8 : List XS) (h8 : scOf ⟨[s0, s1, s2, s3, s4, s5, s6, s7, s8, s9, s10, s11, s12, s13, s14, s15, s16, s17, s18, s19, s20, s21, s22, s23, s24, s25], [d0, d1]⟩ 6 = sc 8) (t8 : TrB ⟨[s0, s1, s2, s3, s4, s5, s6, s7, s8, s9, s10, s11, s12, s13, s14, s15, s16, s17, s18, s19, s20, s21, s22, s23, s24, s25], [d0, d1]⟩ (sc 8) b8 (bd 8)) (b9 : List XS) (h9 : scOf ⟨[s0, s1, s2, s3, s4, s5, s6, s7, s8, s9, s10, s11, s12, s13, s14, s15, s16, s17, s18, s19, s20, s21, s22, s23, s24, s25], [d0, d1]⟩ 7 = sc 9) (t9 : TrB ⟨[s0, s1, s2, s3, s4, s5, s6, s7, s8, s9, s10, s11, s12, s13, s14, s15, s16, s17, s18, s19, s20, s21, s22, s23, s24, s25], [d0, d1]⟩ (sc 9) b9 (bd 9)) (b10 : List XS) (h10 : scOf ⟨[s0, s1, s2, s3, s4, s5, s6, s7, s8, s9, s10, s11, s12, s13, s14, s15, s16, s17, s18, s19, s20, s21, s22, s23, s24, s25], [d0, d1]⟩ 8 = sc 10) (t10 : TrB ⟨[s0, s1, s2, s3, s4, s5, s6, s7, s8, s9, s10, s11, s12, s13, s14, s15, s16, s17, s18, s19, s20, s21, s22, s23, s24, s25], [d0, d1]⟩ (sc 10) b10 (bd 10)) (b11 : List XS) (h11 : scOf ⟨[s0, s1, s2, s3, s4, s5, s6, s7, s8, s9, s10, s11, s12, s13, s14, s15, s16, s17, s18, s19, s20, s21, s22, s23, s24, s25], [d0, d1]⟩ 9 = sc 11) (t11 : TrB ⟨[s0, s1, s2, s3, s4, s5, s6, s7, s8, s9, s10, s11, s12, s13, s14, s15, s16, s17, s18, s19, s20, s21, s22, s23, s24, s25], [d0, d1]⟩ (sc 11) b11 (bd 11)) (b12 : List XS) (h12 : scOf ⟨[s0, s1, s2, s3, s4, s5, s6, s7, s8, s9, s10, s11, s12, s13, s14, s15, s16, s17, s18, s19, s20, s21, s22, s23, s24, s25], [d0, d1]⟩ 10 = sc 12) (t12 : TrB ⟨[s0, s1, s2, s3, s4, s5, s6, s7, s8, s9, s10, s11, s12, s13, s14, s15, s16, s17, s18, s19, s20, s21, s22, s23, s24, s25], [d0, d1]⟩ (sc 12) b12 (bd 12)) (i0 : List XS) (u0 : scOf ⟨[s0, s1, s2, s3, s4, s5, s6, s7, s8, s9, s10, s11, s12, s13, s14, s15, s16, s17, s18, s19, s20, s21, s22, s23, s24, s25], [d0, d1]⟩ 11 = d0.scope) (v0 : TrB ⟨[s0, s1, s2, s3, s4, s5, s6, s7, s8, s9, s10, s11, s12, s13, s14, s15, s16, s17, s18, s19, s20, s21, s22, s23, s24, s25], [d0, d1]⟩ d0.scope i0 d0.body) (i1 : List XS) (u1 : scOf ⟨[s0, s1, s2, s3, s4, s5, s6, s7, s8, s9, s10, s11, s12, s13, s14, s15, s16, s17, s18, s19, s20, s21, s22, s23, s24, s25], [d0, d1]⟩ 12 = d1.scope) (v1 : TrB ⟨[s0, s1, s2, s3, s4, s5, s6, s7, s8, s9, s10, s11, s12, s13, s14, s15, s16, s17, s18, s19, s20, s21, s22, s23, s24, s25], [d0, d1]⟩ d1.scope i1 d1.body) : (l : List Scope) × (d : List NS) × All ⟨l, d⟩ := ⟨_, _, ⟨b5, h5, t5, b6, h6, t6, b0, h0, t0, b1, h1, t1, b3, h3, t3, b7, h7, t7, b8, h8, t8, b9, h9, t9, b10, h10, t10, b11, h11, t11, b12, h12, t12, i0, u0, v0, i1, u1, v1⟩⟩
noncomputable def all : (l : List Scope) × (d : List NS) × All ⟨l, d⟩ := by
  apply mk1
  case h5 => exact rfl
  case h6 => exact rfl
  case h0 => exact rfl
  case h1 => exact rfl
  case h3 => exact rfl
  case h7 => exact rfl
  case h8 => exact rfl
  case h9 => exact rfl
  case h10 => exact rfl
  case h11 => exact rfl
  case h12 => exact rfl
  case u0 => exact rfl
  case u1 => exact rfl
  have e : bd 5 = bd 5 := rfl
  conv at e => lhs; whnf
  have e2 : sc 5 = sc 5 := rfl
  conv at e2 => lhs; whnf
  rw [← e, ← e2]
  clear e e2
  rotate_left
  have e : bd 6 = bd 6 := rfl
  conv at e => lhs; whnf
  have e2 : sc 6 = sc 6 := rfl
  conv at e2 => lhs; whnf
  rw [← e, ← e2]
  clear e e2
  rotate_left
  have e : bd 0 = bd 0 := rfl
  conv at e => lhs; whnf
  have e2 : sc 0 = sc 0 := rfl
  conv at e2 => lhs; whnf
  rw [← e, ← e2]
  clear e e2
  rotate_left
  have e : bd 1 = bd 1 := rfl
  conv at e => lhs; whnf
  have e2 : sc 1 = sc 1 := rfl
  conv at e2 => lhs; whnf
  rw [← e, ← e2]
  clear e e2
  rotate_left
  have e : bd 3 = bd 3 := rfl
  conv at e => lhs; whnf
  have e2 : sc 3 = sc 3 := rfl
  conv at e2 => lhs; whnf
  rw [← e, ← e2]
  clear e e2
  rotate_left
  have e : bd 7 = bd 7 := rfl
  conv at e => lhs; whnf
  have e2 : sc 7 = sc 7 := rfl
  conv at e2 => lhs; whnf
  rw [← e, ← e2]
  clear e e2
  rotate_left
  have e : bd 8 = bd 8 := rfl
  conv at e => lhs; whnf
  have e2 : sc 8 = sc 8 := rfl
  conv at e2 => lhs; whnf
  rw [← e, ← e2]
  clear e e2
  rotate_left
  have e : bd 9 = bd 9 := rfl
  conv at e => lhs; whnf
  have e2 : sc 9 = sc 9 := rfl
  conv at e2 => lhs; whnf
  rw [← e, ← e2]
  clear e e2
  rotate_left
  have e : bd 10 = bd 10 := rfl
  conv at e => lhs; whnf
  have e2 : sc 10 = sc 10 := rfl
  conv at e2 => lhs; whnf
  rw [← e, ← e2]
  clear e e2
  rotate_left
  have e : bd 11 = bd 11 := rfl
  conv at e => lhs; whnf
  have e2 : sc 11 = sc 11 := rfl
  conv at e2 => lhs; whnf
  rw [← e, ← e2]
  clear e e2
  rotate_left
  have e : bd 12 = bd 12 := rfl
  conv at e => lhs; whnf
  have e2 : sc 12 = sc 12 := rfl
  conv at e2 => lhs; whnf
  rw [← e, ← e2]
  clear e e2
  rotate_left
  rotate_left 2
  repeat' (first
    | exact TrB.nil
    | exact TrEs.nil
    | exact TrIf.none
    | exact NamesR.nil
    | exact StosR.nil
    | exact FrR.nil
    | (with_reducible apply TrB.cons)
    | (with_reducible apply TrEs.cons)
    | (with_reducible apply NamesR.cons)
    | (with_reducible apply StosR.cons)
    | (with_reducible apply TrIf.some)
    | (with_reducible apply TgR.one)
    | (with_reducible apply TgR.tup)
    | ((with_reducible apply FrR.skip); decide +kernel)
    | ((with_reducible apply fFree); decide +kernel)
    | (first | exact vLoc (by decide +kernel) | exact vCell (by decide +kernel) | exact vFree (by decide +kernel))
    | (first | exact sLoc (by decide +kernel) | exact sCell (by decide +kernel))
    | ((with_reducible apply TrE.var); (first | exact vLoc (by decide +kernel) | exact vCell (by decide +kernel) | exact vFree (by decide +kernel)))
    | ((with_reducible apply TrSrc.rev); decide +kernel)
    | ((with_reducible apply TrSrc.enu); decide +kernel)
    | (with_reducible apply TrSrc.plain)
    | (with_reducible apply TrE.cint)
    | (with_reducible apply TrE.cbool)
    | (with_reducible apply TrE.cnone)
    | (with_reducible apply TrE.list)
    | (with_reducible apply TrE.tup)
    | (with_reducible apply TrE.dict0)
    | (with_reducible apply TrE.src7)
    | (with_reducible apply TrE.ife)
    | (with_reducible apply TrE.upto)
    | ((with_reducible apply TrE.item); exact fun _ _ => rfl)
    | (with_reducible apply TrE.band)
    | (with_reducible apply TrE.bor)
    | ((with_reducible apply cG); decide +kernel)
    | apply (TrE.bin (o := .add))
    | apply (TrE.bin (o := .sub))
    | apply (TrE.bin (o := .mul))
    | apply (TrE.bin (o := .fdiv))
    | apply (TrE.bin (o := .mod))
    | apply (TrE.bin (o := .pow))
    | apply (TrE.bin (o := .band))
    | apply (TrE.bin (o := .bxor))
    | apply (TrE.bin (o := .shl))
    | apply (TrE.bin (o := .shr))
    | (apply (TrE.cmp (o := .eq)); rfl)
    | (apply (TrE.cmp (o := .ne)); rfl)
    | (apply (TrE.cmp (o := .lt)); rfl)
    | (apply (TrE.cmp (o := .le)); rfl)
    | (apply (TrE.cmp (o := .is)); rfl)
    | (apply (TrE.cmp (o := .isin)); rfl)
    | (apply (TrE.meth (m := .bitLength)); exact fun _ => ⟨_, rfl⟩)
    | (apply (TrE.meth (m := .index)); exact fun _ => ⟨_, rfl⟩)
    | (apply (TrE.meth (m := .append)); exact fun _ => ⟨_, rfl⟩)
    | (apply (TrE.meth (m := .reverse)); exact fun _ => ⟨_, rfl⟩)
    | (apply (TrE.bi (b := .len)); decide +kernel; decide +kernel)
    | (apply (TrE.bi (b := .sum)); decide +kernel; decide +kernel)
    | (apply (TrE.bi (b := .range)); decide +kernel; decide +kernel)
    | (apply (TrE.bi (b := .int)); decide +kernel; decide +kernel)
    | (apply (TrE.bi (b := .divmod)); decide +kernel; decide +kernel)
    | (apply (TrE.gint (i := 4000)); decide +kernel; decide +kernel; decide +kernel)
    | ((with_reducible apply TrE.callC); (first | exact vLoc (by decide +kernel) | exact vCell (by decide +kernel) | exact vFree (by decide +kernel)))
    | ((with_reducible apply TrE.comp); (first | exact (rfl : scOf _ 0 = _) | exact (rfl : scOf _ 1 = _) | exact (rfl : scOf _ 2 = _) | exact (rfl : scOf _ 3 = _) | exact (rfl : scOf _ 4 = _) | exact (rfl : scOf _ 5 = _) | exact (rfl : scOf _ 6 = _) | exact (rfl : scOf _ 7 = _) | exact (rfl : scOf _ 8 = _) | exact (rfl : scOf _ 9 = _) | exact (rfl : scOf _ 10 = _) | exact (rfl : scOf _ 11 = _) | exact (rfl : scOf _ 12 = _) | exact (rfl : scOf _ 13 = _) | exact (rfl : scOf _ 14 = _) | exact (rfl : scOf _ 15 = _) | exact (rfl : scOf _ 16 = _) | exact (rfl : scOf _ 17 = _) | exact (rfl : scOf _ 18 = _) | exact (rfl : scOf _ 19 = _) | exact (rfl : scOf _ 20 = _) | exact (rfl : scOf _ 21 = _) | exact (rfl : scOf _ 22 = _) | exact (rfl : scOf _ 23 = _) | exact (rfl : scOf _ 24 = _) | exact (rfl : scOf _ 25 = _)); exact rfl; exact rfl; decide +kernel; decide +kernel; decide +kernel; exact fun _ _ => rfl)
    | (with_reducible apply TrS.retNone)
    | (with_reducible apply TrS.ret)
    | ((with_reducible apply TrS.expr); exact fun _ => rfl)
    | ((with_reducible apply TrS.forItems); decide +kernel; exact vLoc (by decide +kernel); decide +kernel; decide +kernel)
    | ((with_reducible apply TrS.for_); exact fun _ _ => rfl)
    | ((with_reducible apply TrS.assignI); exact fun _ => rfl)
    | ((with_reducible apply TrS.assign); exact fun _ _ => rfl)
    | ((with_reducible apply TrS.assign); (intro env h; unfold swapsWith; simp only [Env.kindOf, Env.blockKind, h]; rfl))
    | ((with_reducible apply TrS.assignC); (intro env h; unfold swapsWith; simp only [Env.kindOf, Env.blockKind, h]; rfl))
    | ((with_reducible apply TrS.assignT); exact fun _ => rfl; exact fun _ _ => rfl)
    | ((with_reducible apply TrS.assignT); exact fun _ => rfl; (intro env h; unfold swappedStores; simp only [Env.kindOf, Env.blockKind, h]; rfl))
    | (apply (TrS.assignR (nms := ["a", "b", "c"])); exact fun _ => rfl; (intro env h; unfold swappedStores; simp only [Env.kindOf, Env.blockKind, h]; rfl))
    | (with_reducible apply TrS.ifNot)
    | (with_reducible apply TrS.ite)
    | (apply (TrS.def_ (f := 0)); exact rfl; decide +kernel; rfl; rfl; exact fun _ => rfl)
    | (apply (TrS.def_ (f := 1)); exact rfl; decide +kernel; rfl; rfl; exact fun _ => rfl)
    | (with_reducible apply TrE.bad)
    | (with_reducible apply TrS.bad))
  all_goals first | exact (default : Scope) | exact (⟨"", ⟨[], [], none, [], [], none, []⟩, [], default, default⟩ : NS) | skip
end Mine

namespace Mine
noncomputable def st : Static := ⟨all.1, all.2.1⟩
noncomputable def tr : All st := all.2.2
structure Nf (b : List XS) where
  x : List XS
  e : b = x
noncomputable def Nb5 : Nf tr.b5 := by
  apply Nf.mk
  case e =>
    conv => lhs; reduce
noncomputable def Nb6 : Nf tr.b6 := by
  apply Nf.mk
  case e =>
    conv => lhs; reduce
noncomputable def Nb0 : Nf tr.b0 := by
  apply Nf.mk
  case e =>
    conv => lhs; reduce
noncomputable def Nb1 : Nf tr.b1 := by
  apply Nf.mk
  case e =>
    conv => lhs; reduce
noncomputable def Nb3 : Nf tr.b3 := by
  apply Nf.mk
  case e =>
    conv => lhs; reduce
noncomputable def Nb7 : Nf tr.b7 := by
  apply Nf.mk
  case e =>
    conv => lhs; reduce
noncomputable def Nb8 : Nf tr.b8 := by
  apply Nf.mk
  case e =>
    conv => lhs; reduce
noncomputable def Nb9 : Nf tr.b9 := by
  apply Nf.mk
  case e =>
    conv => lhs; reduce
noncomputable def Nb10 : Nf tr.b10 := by
  apply Nf.mk
  case e =>
    conv => lhs; reduce
noncomputable def Nb11 : Nf tr.b11 := by
  apply Nf.mk
  case e =>
    conv => lhs; reduce
noncomputable def Nb12 : Nf tr.b12 := by
  apply Nf.mk
  case e =>
    conv => lhs; reduce
noncomputable def Ni0 : Nf tr.i0 := by
  apply Nf.mk
  case e =>
    conv => lhs; reduce
noncomputable def Ni1 : Nf tr.i1 := by
  apply Nf.mk
  case e =>
    conv => lhs; reduce
end Mine

namespace Mine
noncomputable def f13 : List Bool := [false, false, false, false, false, false, false, false, false, false, false, false, false]
noncomputable def fnsS : Nat → Option Fn
  | 0 => some ⟨11, 10, 3, Ni0.x⟩
  | 1 => some ⟨12, 7, 2, Ni1.x⟩
  | _ => none
noncomputable def G21 : GFn := ⟨2, f13, 2, 0, Nb0.x⟩
noncomputable def G28 : GFn := ⟨3, [false, false, false, false, false, false, false, false], 2, 0, Nb1.x⟩
noncomputable def G35 : GFn := ⟨4, false :: f13, 3, 0, Nb3.x⟩
noncomputable def G49 : GFn := ⟨0, [false, true, true, true, false], 2, 1, Nb5.x⟩
noncomputable def G56 : GFn := ⟨1, [true, true, true, false], 2, 2, Nb6.x⟩
noncomputable def G63 : GFn := ⟨5, f13, 2, 0, Nb7.x⟩
noncomputable def G70 : GFn := ⟨6, [false, false, false, false, false, false, false], 2, 0, Nb8.x⟩
noncomputable def G75 : GFn := ⟨7, [false, false, false], 1, 0, Nb9.x⟩
noncomputable def G80 : GFn := ⟨8, [false, false, false, false, false, false, false, false, false], 1, 0, Nb10.x⟩
noncomputable def G85 : GFn := ⟨9, [true, true, false, false, false], 2, 0, Nb11.x⟩
noncomputable def G90 : GFn := ⟨10, [false, true, true, true, true, true, true, false, false, true, true, false, false, false, false, false, false, false, false, false, false, false, false, false], 1, 0, Nb12.x⟩
noncomputable def noP : List V → AH → Option (V × AH) := fun _ _ => none
noncomputable def P0 : Prm := ⟨false, fnsS, fun _ => noP, []⟩
noncomputable def prim1 (f : Nat) : List V → AH → Option (V × AH) := match f with
  | 28 => callG G28 P0 20
  | 35 => callG G35 P0 20
  | 49 => callG G49 P0 60
  | 56 => callG G56 P0 60
  | _ => noP
noncomputable def P1 : Prm := ⟨false, fnsS, prim1, []⟩
noncomputable def prim2 (f : Nat) : List V → AH → Option (V × AH) := match f with
  | 21 => callG G21 P1 20
  | 63 => callG G63 P1 40
  | 75 => p75
  | _ => noP
noncomputable def P2 : Prm := ⟨false, fnsS, prim2, []⟩
noncomputable def prim3 (f : Nat) : List V → AH → Option (V × AH) := match f with
  | 70 => p70
  | 75 => p75
  | 80 => p80
  | 85 => p85
  | _ => noP
noncomputable def known3 : List (List (Bool × Lin)) := [
  [(true, [0, 1, -1]), (true, [0, 0, 0, 0, 0, 1, -1]), (false, [0, 3, -3, 0, 0, 3, -3, 0])],
  [(true, [0, 1]), (true, [0, 0, -1, 1]), (true, [0, 0, 0, 0, -1, 1]), (true, [0, 0, 0, 0, 0, 0, -1, 1]), (false, [0, 2, -1, 1, -1, 1, -2, 2])],
  [(true, [0, 1, 0, 0, -1]), (true, [0, 0, 0, 1, 0, 0, -1]), (false, [0, 3, 0, 3, -3, 0, -3, 0])],
  [(true, [0, 1]), (true, [0, 0, 0, 0, -1, 1]), (true, [0, 0, -1, 1]), (true, [0, 0, 0, 0, 0, 0, -1, 1]), (false, [0, 2, -1, 1, -1, 1, -2, 2])],
  [(true, [0, 0, 1, 0, -1]), (true, [0, 0, 0, 1, 0, -1]), (false, [0, 0, 3, 3, -3, -3, 0, 0])],
  [(true, [0, 0, 1]), (true, [0, 0, 0, 0, -1, 0, 1]), (true, [0, -1, 0, 1]), (true, [0, 0, 0, 0, 0, -1, 0, 1]), (false, [0, -1, 2, 1, -1, -2, 1, 2])]]
noncomputable def P3 : Prm := ⟨true, fnsS, prim3, known3⟩
theorem run75 : (tblP.all fun p => chk (callG G75 P1 40 [.int [p.1]] H0a) 2 (.list p.2)) = true := by decide +kernel
theorem run70 : (tblQ.all fun p => chk (callG G70 P2 40 [.int [p.1.1], .int [p.1.2]] H0a) 2 (.tup p.2)) = true := by decide +kernel
noncomputable def forBody (l : List XS) (i : Nat) : List XS := match (l[i]? : Option XS) with
  | some (.for_ _ _ _ b) => b
  | _ => []
noncomputable def outH (o : Option (Out × AH)) : AH := match o with
  | some p => p.2
  | none => []
noncomputable def outO (o : Option AH) : AH := match o with
  | some h => h
  | none => []
noncomputable def outR (o : Option (Out × AH)) : AH := outH o
section
variable {P : Prm} {n : Nat} {e : AEnv} {H H1 H2 H' : AH}
theorem B_cons {s : XS} {r : List XS} (h : run P n (.S e s) H = some (.nx, H1)) : run P (n + 1) (.B e (s :: r)) H = run P n (.B e r) H1 := by
  show bS (run P n (.S e s) H) (fun H1 => run P n (.B e r) H1) (fun v H1 => some (Out.rt v, H1)) = _
  rw [h]; unfold bS; rfl
theorem B_app {l2 : List XS} : ∀ (l1 : List XS) {H : AH}, run P (n + 1 + l1.length) (.B e l1) H = some (.nx, H1) → run P (n + 1 + l1.length) (.B e (l1 ++ l2)) H = run P (n + 1) (.B e l2) H1
  | [], H, h => by
    have h : some (Out.nx, H) = some (Out.nx, H1) := h
    cases h
    rfl
  | s :: r, H, h => by
    rcases bS_some (show bS (run P (n + 1 + r.length) (.S e s) H) (fun H1 => run P (n + 1 + r.length) (.B e r) H1) (fun v H1 => some (Out.rt v, H1)) = some (.nx, H1) from h) with ⟨H2, h1, k1⟩ | ⟨v, H2, _, k1⟩
    · exact (B_cons (n := n + 1 + r.length) h1).trans (B_app r k1)
    · cases k1
theorem F_turn {tg : TG} {src : Src} {k : Nat} {body : List XS} {it : It} (h1 : nextIt H src k = some (some it)) (h2 : (bO (bindT e H tg it) fun H1 => run P n (.B e body) H1) = some (.nx, H2)) : run P (n + 1) (.For e tg src k body) H = run P n (.For e tg src (k + 1) body) H2 := by
  obtain ⟨H1, hb, hr⟩ := bO_some h2
  show (bO (nextIt H src k) fun i => match i with
    | some it => bO (bindT e H tg it) fun H1 => bS (run P n (.B e body) H1) (fun H2 => run P n (.For e tg src (k + 1) body) H2) fun v H2 => some (Out.rt v, H2)
    | none => some (Out.nx, H)) = _
  rw [h1]
  show (bO (bindT e H tg it) fun H1 => bS (run P n (.B e body) H1) (fun H2 => run P n (.For e tg src (k + 1) body) H2) fun v H2 => some (Out.rt v, H2)) = _
  rw [hb]
  show bS (run P n (.B e body) H1) (fun H2 => run P n (.For e tg src (k + 1) body) H2) (fun v H2 => some (Out.rt v, H2)) = _
  rw [hr]; unfold bS; rfl
theorem F_end {tg : TG} {src : Src} {k : Nat} {body : List XS} (h1 : nextIt H src k = some none) : run P (n + 1) (.For e tg src k body) H = some (.nx, H) := by
  show (bO (nextIt H src k) fun i => match i with
    | some it => bO (bindT e H tg it) fun H1 => bS (run P n (.B e body) H1) (fun H2 => run P n (.For e tg src (k + 1) body) H2) fun v H2 => some (Out.rt v, H2)
    | none => some (Out.nx, H)) = _
  rw [h1]; rfl
theorem S_for {tg : TG} {sk : SK} {src : X} {body : List XS} {v : V} {so : Src} (h1 : run P n (.E e src) H = some (.v v, H1)) (h2 : srcOf sk v H1 = some so) : run P (n + 1) (.S e (.for_ tg sk src body)) H = run P n (.For e tg so 0 body) H1 := by
  show (bV (run P n (.E e src) H) fun x H1 => bO (srcOf sk x H1) fun s => run P n (.For e tg s 0 body) H1) = _
  rw [h1]; unfold bV
  show (bO (srcOf sk v H1) fun s => run P n (.For e tg s 0 body) H1) = _
  rw [h2]; rfl
theorem callG_ret {G : GFn} {vs : List V} {v : V} (h : run P n (.B (envG G H) G.body) (heapG G vs H) = some (.rt v, H')) (hn : (vs.length == G.np) = true) : callG G P n vs H = some (v, H') := by
  unfold callG
  rw [hn, h]
end
theorem bO_go {α β : Type} {o : Option α} {a : α} {k : α → Option β} {r : Option β} (h : o = some a) (h2 : k a = r) : bO o k = r := by
  subst h; exact h2
noncomputable def forSrc (l : List XS) (i : Nat) : X := match (l[i]? : Option XS) with
  | some (.for_ _ _ x _) => x
  | _ => .bad
noncomputable def e80 : AEnv := envG G80 H0b
noncomputable def b80 : List XS := forBody Nb10.x 1
noncomputable def i80 : List XS := forBody b80 1
noncomputable def kA0 : AH := outH (run P2 60 (.B e80 (Nb10.x.take 1)) (heapG G80 [.ref 2] H0b))
theorem r80a : run P2 60 (.B e80 (Nb10.x.take 1)) (heapG G80 [.ref 2] H0b) = some (.nx, kA0) := by kernel_rfl
theorem r80b : run P2 57 (.E e80 (.bi .range [.cint 3])) kA0 = some (.v (.ref 5), kA0 ++ [.range 0 3]) := by kernel_rfl
theorem d80 : Nb10.x.drop 1 = XS.for_ (.one (.loc 2)) .plain (.bi .range [.cint 3]) b80 :: Nb10.x.drop 2 := by kernel_rfl
theorem c80 : b80.drop 1 = XS.for_ (.one (.loc 4)) .plain (forSrc b80 1) i80 :: b80.drop 2 := by kernel_rfl
noncomputable def sA0 : AH := [.tab 0, .tab 1, .list true [.int [0, 1], .int [0, 0, 1], .int [0, 0, 0, 1], .int [0, 0, 0, 0, 1], .int [0, 0, 0, 0, 0, 1], .int [0, 0, 0, 0, 0, 0, 1], .int [0, 0, 0, 0, 0, 0, 0, 1], .int [0, 0, 0, 0, 0, 0, 0, 0, 1]], .ns 8 [some (.ref 2), some (.ref 4), some (.int [0]), some (.ref 7), none, none, none, none, none], .list true [], .range 0 3, .dict0, .tup [.int [0], .int [0], .int [0], .int [0], .ref 6], .tup [.int [0], .int [1], .int [2]], .tup [.int [0], .int [2], .int [1]], .tup [.int [1], .int [0], .int [2]], .tup [.int [1], .int [2], .int [0]], .tup [.int [2], .int [0], .int [1]], .tup [.int [2], .int [1], .int [0]], .list true [.ref 8, .ref 9, .ref 10, .ref 11, .ref 12, .ref 13]]
noncomputable def tA00 : AH := [.tab 0, .tab 1, .list true [.int [0, 1], .int [0, 0, 1], .int [0, 0, 0, 1], .int [0, 0, 0, 0, 1], .int [0, 0, 0, 0, 0, 1], .int [0, 0, 0, 0, 0, 0, 1], .int [0, 0, 0, 0, 0, 0, 0, 1], .int [0, 0, 0, 0, 0, 0, 0, 0, 1]], .ns 8 [some (.ref 2), some (.ref 4), some (.int [0]), some (.ref 23), some (.ref 8), some (.int []), none, none, none], .list true [], .range 0 3, .dict0, .tup [.int [0], .int [0], .int [0], .int [0], .ref 6], .tup [.int [0], .int [1], .int [2]], .tup [.int [0], .int [2], .int [1]], .tup [.int [1], .int [0], .int [2]], .tup [.int [1], .int [2], .int [0]], .tup [.int [2], .int [0], .int [1]], .tup [.int [2], .int [1], .int [0]], .list true [.ref 8, .ref 9, .ref 10, .ref 11, .ref 12, .ref 13], .tup [], .list true [], .ns 14 [], .dict0, .tup [.int [0, -1, 1], .int [1], .int [0], .int [0], .ref 18], .ns 2 [some (.ref 7), some (.ref 19), some (.int [0, -1, 1]), some (.int [1]), some (.int [0]), some (.int [0]), some (.ref 18), some (.int [0]), some (.int [0]), some (.int [0]), some (.int [0]), some (.ref 6), none], .ns 3 [some (.ref 6), some (.ref 18), some (.ref 22), none, none, none, none, none], .dict0, .tup [.int [0, -1, 1], .int [1], .int [0], .int [0], .ref 22]]
noncomputable def tA01 : AH := [.tab 0, .tab 1, .list true [.int [0, 1], .int [0, 0, 1], .int [0, 0, 0, 1], .int [0, 0, 0, 0, 1], .int [0, 0, 0, 0, 0, 1], .int [0, 0, 0, 0, 0, 0, 1], .int [0, 0, 0, 0, 0, 0, 0, 1], .int [0, 0, 0, 0, 0, 0, 0, 0, 1]], .ns 8 [some (.ref 2), some (.ref 4), some (.int [0]), some (.ref 32), some (.ref 9), some (.int []), none, none, none], .list true [], .range 0 3, .dict0, .tup [.int [0], .int [0], .int [0], .int [0], .ref 6], .tup [.int [0], .int [1], .int [2]], .tup [.int [0], .int [2], .int [1]], .tup [.int [1], .int [0], .int [2]], .tup [.int [1], .int [2], .int [0]], .tup [.int [2], .int [0], .int [1]], .tup [.int [2], .int [1], .int [0]], .list true [.ref 8, .ref 9, .ref 10, .ref 11, .ref 12, .ref 13], .tup [], .list true [], .ns 14 [], .dict0, .tup [.int [0, -1, 1], .int [1], .int [0], .int [0], .ref 18], .ns 2 [some (.ref 7), some (.ref 19), some (.int [0, -1, 1]), some (.int [1]), some (.int [0]), some (.int [0]), some (.ref 18), some (.int [0]), some (.int [0]), some (.int [0]), some (.int [0]), some (.ref 6), none], .ns 3 [some (.ref 6), some (.ref 18), some (.ref 22), none, none, none, none, none], .dict0, .tup [.int [0, -1, 1], .int [1], .int [0], .int [0], .ref 22], .tup [], .list true [], .ns 14 [], .dict0, .tup [.int [0, -1, 1], .int [1], .int [0], .int [0], .ref 27], .ns 2 [some (.ref 23), some (.ref 28), some (.int [0, -1, 1]), some (.int [1]), some (.int [0]), some (.int [0]), some (.ref 27), some (.int [0, -1, 1]), some (.int [1]), some (.int [0]), some (.int [0]), some (.ref 22), none], .ns 3 [some (.ref 22), some (.ref 27), some (.ref 31), none, none, none, none, none], .dict0, .tup [.int [0, -2, 2], .int [2], .int [0], .int [0], .ref 31]]
noncomputable def tA02 : AH := [.tab 0, .tab 1, .list true [.int [0, 1], .int [0, 0, 1], .int [0, 0, 0, 1], .int [0, 0, 0, 0, 1], .int [0, 0, 0, 0, 0, 1], .int [0, 0, 0, 0, 0, 0, 1], .int [0, 0, 0, 0, 0, 0, 0, 1], .int [0, 0, 0, 0, 0, 0, 0, 0, 1]], .ns 8 [some (.ref 2), some (.ref 4), some (.int [0]), some (.ref 41), some (.ref 10), some (.int [2]), none, none, none], .list true [], .range 0 3, .dict0, .tup [.int [0], .int [0], .int [0], .int [0], .ref 6], .tup [.int [0], .int [1], .int [2]], .tup [.int [0], .int [2], .int [1]], .tup [.int [1], .int [0], .int [2]], .tup [.int [1], .int [2], .int [0]], .tup [.int [2], .int [0], .int [1]], .tup [.int [2], .int [1], .int [0]], .list true [.ref 8, .ref 9, .ref 10, .ref 11, .ref 12, .ref 13], .tup [], .list true [], .ns 14 [], .dict0, .tup [.int [0, -1, 1], .int [1], .int [0], .int [0], .ref 18], .ns 2 [some (.ref 7), some (.ref 19), some (.int [0, -1, 1]), some (.int [1]), some (.int [0]), some (.int [0]), some (.ref 18), some (.int [0]), some (.int [0]), some (.int [0]), some (.int [0]), some (.ref 6), none], .ns 3 [some (.ref 6), some (.ref 18), some (.ref 22), none, none, none, none, none], .dict0, .tup [.int [0, -1, 1], .int [1], .int [0], .int [0], .ref 22], .tup [], .list true [], .ns 14 [], .dict0, .tup [.int [0, -1, 1], .int [1], .int [0], .int [0], .ref 27], .ns 2 [some (.ref 23), some (.ref 28), some (.int [0, -1, 1]), some (.int [1]), some (.int [0]), some (.int [0]), some (.ref 27), some (.int [0, -1, 1]), some (.int [1]), some (.int [0]), some (.int [0]), some (.ref 22), none], .ns 3 [some (.ref 22), some (.ref 27), some (.ref 31), none, none, none, none, none], .dict0, .tup [.int [0, -2, 2], .int [2], .int [0], .int [0], .ref 31], .tup [.int [1]], .list true [.int [2]], .ns 14 [], .dict0, .tup [.int [0, 0, 0, -1, 1], .int [1], .int [0], .int [0], .ref 36], .ns 2 [some (.ref 32), some (.ref 37), some (.int [0, 0, 0, -1, 1]), some (.int [1]), some (.int [0]), some (.int [0]), some (.ref 36), some (.int [0, -2, 2]), some (.int [2]), some (.int [0]), some (.int [0]), some (.ref 31), none], .ns 3 [some (.ref 31), some (.ref 36), some (.ref 40), none, none, none, none, none], .dict0, .tup [.int [0, -2, 2, -1, 1], .int [3], .int [0], .int [0], .ref 40]]
noncomputable def tA03 : AH := [.tab 0, .tab 1, .list true [.int [0, 1], .int [0, 0, 1], .int [0, 0, 0, 1], .int [0, 0, 0, 0, 1], .int [0, 0, 0, 0, 0, 1], .int [0, 0, 0, 0, 0, 0, 1], .int [0, 0, 0, 0, 0, 0, 0, 1], .int [0, 0, 0, 0, 0, 0, 0, 0, 1]], .ns 8 [some (.ref 2), some (.ref 4), some (.int [0]), some (.ref 50), some (.ref 11), some (.int [6]), none, none, none], .list true [], .range 0 3, .dict0, .tup [.int [0], .int [0], .int [0], .int [0], .ref 6], .tup [.int [0], .int [1], .int [2]], .tup [.int [0], .int [2], .int [1]], .tup [.int [1], .int [0], .int [2]], .tup [.int [1], .int [2], .int [0]], .tup [.int [2], .int [0], .int [1]], .tup [.int [2], .int [1], .int [0]], .list true [.ref 8, .ref 9, .ref 10, .ref 11, .ref 12, .ref 13], .tup [], .list true [], .ns 14 [], .dict0, .tup [.int [0, -1, 1], .int [1], .int [0], .int [0], .ref 18], .ns 2 [some (.ref 7), some (.ref 19), some (.int [0, -1, 1]), some (.int [1]), some (.int [0]), some (.int [0]), some (.ref 18), some (.int [0]), some (.int [0]), some (.int [0]), some (.int [0]), some (.ref 6), none], .ns 3 [some (.ref 6), some (.ref 18), some (.ref 22), none, none, none, none, none], .dict0, .tup [.int [0, -1, 1], .int [1], .int [0], .int [0], .ref 22], .tup [], .list true [], .ns 14 [], .dict0, .tup [.int [0, -1, 1], .int [1], .int [0], .int [0], .ref 27], .ns 2 [some (.ref 23), some (.ref 28), some (.int [0, -1, 1]), some (.int [1]), some (.int [0]), some (.int [0]), some (.ref 27), some (.int [0, -1, 1]), some (.int [1]), some (.int [0]), some (.int [0]), some (.ref 22), none], .ns 3 [some (.ref 22), some (.ref 27), some (.ref 31), none, none, none, none, none], .dict0, .tup [.int [0, -2, 2], .int [2], .int [0], .int [0], .ref 31], .tup [.int [1]], .list true [.int [2]], .ns 14 [], .dict0, .tup [.int [0, 0, 0, -1, 1], .int [1], .int [0], .int [0], .ref 36], .ns 2 [some (.ref 32), some (.ref 37), some (.int [0, 0, 0, -1, 1]), some (.int [1]), some (.int [0]), some (.int [0]), some (.ref 36), some (.int [0, -2, 2]), some (.int [2]), some (.int [0]), some (.int [0]), some (.ref 31), none], .ns 3 [some (.ref 31), some (.ref 36), some (.ref 40), none, none, none, none, none], .dict0, .tup [.int [0, -2, 2, -1, 1], .int [3], .int [0], .int [0], .ref 40], .tup [.int [1], .int [2]], .list true [.int [2], .int [4]], .ns 14 [], .dict0, .tup [.int [0, 0, 0, 0, 0, 0, 0, -1, 1], .int [1], .int [0], .int [0], .ref 45], .ns 2 [some (.ref 41), some (.ref 46), some (.int [0, 0, 0, 0, 0, 0, 0, -1, 1]), some (.int [1]), some (.int [0]), some (.int [0]), some (.ref 45), some (.int [0, -2, 2, -1, 1]), some (.int [3]), some (.int [0]), some (.int [0]), some (.ref 40), none], .ns 3 [some (.ref 40), some (.ref 45), some (.ref 49), none, none, none, none, none], .dict0, .tup [.int [0, -2, 2, -1, 1, 0, 0, -1, 1], .int [4], .int [0], .int [0], .ref 49]]
noncomputable def tA04 : AH := [.tab 0, .tab 1, .list true [.int [0, 1], .int [0, 0, 1], .int [0, 0, 0, 1], .int [0, 0, 0, 0, 1], .int [0, 0, 0, 0, 0, 1], .int [0, 0, 0, 0, 0, 0, 1], .int [0, 0, 0, 0, 0, 0, 0, 1], .int [0, 0, 0, 0, 0, 0, 0, 0, 1]], .ns 8 [some (.ref 2), some (.ref 4), some (.int [0]), some (.ref 59), some (.ref 12), some (.int [4]), none, none, none], .list true [], .range 0 3, .dict0, .tup [.int [0], .int [0], .int [0], .int [0], .ref 6], .tup [.int [0], .int [1], .int [2]], .tup [.int [0], .int [2], .int [1]], .tup [.int [1], .int [0], .int [2]], .tup [.int [1], .int [2], .int [0]], .tup [.int [2], .int [0], .int [1]], .tup [.int [2], .int [1], .int [0]], .list true [.ref 8, .ref 9, .ref 10, .ref 11, .ref 12, .ref 13], .tup [], .list true [], .ns 14 [], .dict0, .tup [.int [0, -1, 1], .int [1], .int [0], .int [0], .ref 18], .ns 2 [some (.ref 7), some (.ref 19), some (.int [0, -1, 1]), some (.int [1]), some (.int [0]), some (.int [0]), some (.ref 18), some (.int [0]), some (.int [0]), some (.int [0]), some (.int [0]), some (.ref 6), none], .ns 3 [some (.ref 6), some (.ref 18), some (.ref 22), none, none, none, none, none], .dict0, .tup [.int [0, -1, 1], .int [1], .int [0], .int [0], .ref 22], .tup [], .list true [], .ns 14 [], .dict0, .tup [.int [0, -1, 1], .int [1], .int [0], .int [0], .ref 27], .ns 2 [some (.ref 23), some (.ref 28), some (.int [0, -1, 1]), some (.int [1]), some (.int [0]), some (.int [0]), some (.ref 27), some (.int [0, -1, 1]), some (.int [1]), some (.int [0]), some (.int [0]), some (.ref 22), none], .ns 3 [some (.ref 22), some (.ref 27), some (.ref 31), none, none, none, none, none], .dict0, .tup [.int [0, -2, 2], .int [2], .int [0], .int [0], .ref 31], .tup [.int [1]], .list true [.int [2]], .ns 14 [], .dict0, .tup [.int [0, 0, 0, -1, 1], .int [1], .int [0], .int [0], .ref 36], .ns 2 [some (.ref 32), some (.ref 37), some (.int [0, 0, 0, -1, 1]), some (.int [1]), some (.int [0]), some (.int [0]), some (.ref 36), some (.int [0, -2, 2]), some (.int [2]), some (.int [0]), some (.int [0]), some (.ref 31), none], .ns 3 [some (.ref 31), some (.ref 36), some (.ref 40), none, none, none, none, none], .dict0, .tup [.int [0, -2, 2, -1, 1], .int [3], .int [0], .int [0], .ref 40], .tup [.int [1], .int [2]], .list true [.int [2], .int [4]], .ns 14 [], .dict0, .tup [.int [0, 0, 0, 0, 0, 0, 0, -1, 1], .int [1], .int [0], .int [0], .ref 45], .ns 2 [some (.ref 41), some (.ref 46), some (.int [0, 0, 0, 0, 0, 0, 0, -1, 1]), some (.int [1]), some (.int [0]), some (.int [0]), some (.ref 45), some (.int [0, -2, 2, -1, 1]), some (.int [3]), some (.int [0]), some (.int [0]), some (.ref 40), none], .ns 3 [some (.ref 40), some (.ref 45), some (.ref 49), none, none, none, none, none], .dict0, .tup [.int [0, -2, 2, -1, 1, 0, 0, -1, 1], .int [4], .int [0], .int [0], .ref 49], .tup [.int [2]], .list true [.int [4]], .ns 14 [], .dict0, .tup [.int [0, 0, 0, 0, 0, -1, 1], .int [1], .int [0], .int [0], .ref 54], .ns 2 [some (.ref 50), some (.ref 55), some (.int [0, 0, 0, 0, 0, -1, 1]), some (.int [1]), some (.int [0]), some (.int [0]), some (.ref 54), some (.int [0, -2, 2, -1, 1, 0, 0, -1, 1]), some (.int [4]), some (.int [0]), some (.int [0]), some (.ref 49), none], .ns 3 [some (.ref 49), some (.ref 54), some (.ref 58), none, none, none, none, none], .dict0, .tup [.int [0, -2, 2, -1, 1, -1, 1, -1, 1], .int [5], .int [0], .int [0], .ref 58]]
noncomputable def tA05 : AH := [.tab 0, .tab 1, .list true [.int [0, 1], .int [0, 0, 1], .int [0, 0, 0, 1], .int [0, 0, 0, 0, 1], .int [0, 0, 0, 0, 0, 1], .int [0, 0, 0, 0, 0, 0, 1], .int [0, 0, 0, 0, 0, 0, 0, 1], .int [0, 0, 0, 0, 0, 0, 0, 0, 1]], .ns 8 [some (.ref 2), some (.ref 4), some (.int [0]), some (.ref 68), some (.ref 13), some (.int [6]), none, none, none], .list true [], .range 0 3, .dict0, .tup [.int [0], .int [0], .int [0], .int [0], .ref 6], .tup [.int [0], .int [1], .int [2]], .tup [.int [0], .int [2], .int [1]], .tup [.int [1], .int [0], .int [2]], .tup [.int [1], .int [2], .int [0]], .tup [.int [2], .int [0], .int [1]], .tup [.int [2], .int [1], .int [0]], .list true [.ref 8, .ref 9, .ref 10, .ref 11, .ref 12, .ref 13], .tup [], .list true [], .ns 14 [], .dict0, .tup [.int [0, -1, 1], .int [1], .int [0], .int [0], .ref 18], .ns 2 [some (.ref 7), some (.ref 19), some (.int [0, -1, 1]), some (.int [1]), some (.int [0]), some (.int [0]), some (.ref 18), some (.int [0]), some (.int [0]), some (.int [0]), some (.int [0]), some (.ref 6), none], .ns 3 [some (.ref 6), some (.ref 18), some (.ref 22), none, none, none, none, none], .dict0, .tup [.int [0, -1, 1], .int [1], .int [0], .int [0], .ref 22], .tup [], .list true [], .ns 14 [], .dict0, .tup [.int [0, -1, 1], .int [1], .int [0], .int [0], .ref 27], .ns 2 [some (.ref 23), some (.ref 28), some (.int [0, -1, 1]), some (.int [1]), some (.int [0]), some (.int [0]), some (.ref 27), some (.int [0, -1, 1]), some (.int [1]), some (.int [0]), some (.int [0]), some (.ref 22), none], .ns 3 [some (.ref 22), some (.ref 27), some (.ref 31), none, none, none, none, none], .dict0, .tup [.int [0, -2, 2], .int [2], .int [0], .int [0], .ref 31], .tup [.int [1]], .list true [.int [2]], .ns 14 [], .dict0, .tup [.int [0, 0, 0, -1, 1], .int [1], .int [0], .int [0], .ref 36], .ns 2 [some (.ref 32), some (.ref 37), some (.int [0, 0, 0, -1, 1]), some (.int [1]), some (.int [0]), some (.int [0]), some (.ref 36), some (.int [0, -2, 2]), some (.int [2]), some (.int [0]), some (.int [0]), some (.ref 31), none], .ns 3 [some (.ref 31), some (.ref 36), some (.ref 40), none, none, none, none, none], .dict0, .tup [.int [0, -2, 2, -1, 1], .int [3], .int [0], .int [0], .ref 40], .tup [.int [1], .int [2]], .list true [.int [2], .int [4]], .ns 14 [], .dict0, .tup [.int [0, 0, 0, 0, 0, 0, 0, -1, 1], .int [1], .int [0], .int [0], .ref 45], .ns 2 [some (.ref 41), some (.ref 46), some (.int [0, 0, 0, 0, 0, 0, 0, -1, 1]), some (.int [1]), some (.int [0]), some (.int [0]), some (.ref 45), some (.int [0, -2, 2, -1, 1]), some (.int [3]), some (.int [0]), some (.int [0]), some (.ref 40), none], .ns 3 [some (.ref 40), some (.ref 45), some (.ref 49), none, none, none, none, none], .dict0, .tup [.int [0, -2, 2, -1, 1, 0, 0, -1, 1], .int [4], .int [0], .int [0], .ref 49], .tup [.int [2]], .list true [.int [4]], .ns 14 [], .dict0, .tup [.int [0, 0, 0, 0, 0, -1, 1], .int [1], .int [0], .int [0], .ref 54], .ns 2 [some (.ref 50), some (.ref 55), some (.int [0, 0, 0, 0, 0, -1, 1]), some (.int [1]), some (.int [0]), some (.int [0]), some (.ref 54), some (.int [0, -2, 2, -1, 1, 0, 0, -1, 1]), some (.int [4]), some (.int [0]), some (.int [0]), some (.ref 49), none], .ns 3 [some (.ref 49), some (.ref 54), some (.ref 58), none, none, none, none, none], .dict0, .tup [.int [0, -2, 2, -1, 1, -1, 1, -1, 1], .int [5], .int [0], .int [0], .ref 58], .tup [.int [2], .int [1]], .list true [.int [4], .int [2]], .ns 14 [], .dict0, .tup [.int [0, 0, 0, 0, 0, 0, 0, -1, 1], .int [1], .int [0], .int [0], .ref 63], .ns 2 [some (.ref 59), some (.ref 64), some (.int [0, 0, 0, 0, 0, 0, 0, -1, 1]), some (.int [1]), some (.int [0]), some (.int [0]), some (.ref 63), some (.int [0, -2, 2, -1, 1, -1, 1, -1, 1]), some (.int [5]), some (.int [0]), some (.int [0]), some (.ref 58), none], .ns 3 [some (.ref 58), some (.ref 63), some (.ref 67), none, none, none, none, none], .dict0, .tup [.int [0, -2, 2, -1, 1, -1, 1, -2, 2], .int [6], .int [0], .int [0], .ref 67]]
noncomputable def kA1 : AH := [.tab 0, .tab 1, .list true [.int [0, 1], .int [0, 0, 1], .int [0, 0, 0, 1], .int [0, 0, 0, 0, 1], .int [0, 0, 0, 0, 0, 1], .int [0, 0, 0, 0, 0, 0, 1], .int [0, 0, 0, 0, 0, 0, 0, 1], .int [0, 0, 0, 0, 0, 0, 0, 0, 1]], .ns 8 [some (.ref 2), some (.ref 4), some (.int [0]), some (.ref 68), some (.ref 13), some (.int [6]), none, none, none], .list true [.int [0, -2, 2, -1, 1, -1, 1, -2, 2]], .range 0 3, .dict0, .tup [.int [0], .int [0], .int [0], .int [0], .ref 6], .tup [.int [0], .int [1], .int [2]], .tup [.int [0], .int [2], .int [1]], .tup [.int [1], .int [0], .int [2]], .tup [.int [1], .int [2], .int [0]], .tup [.int [2], .int [0], .int [1]], .tup [.int [2], .int [1], .int [0]], .list true [.ref 8, .ref 9, .ref 10, .ref 11, .ref 12, .ref 13], .tup [], .list true [], .ns 14 [], .dict0, .tup [.int [0, -1, 1], .int [1], .int [0], .int [0], .ref 18], .ns 2 [some (.ref 7), some (.ref 19), some (.int [0, -1, 1]), some (.int [1]), some (.int [0]), some (.int [0]), some (.ref 18), some (.int [0]), some (.int [0]), some (.int [0]), some (.int [0]), some (.ref 6), none], .ns 3 [some (.ref 6), some (.ref 18), some (.ref 22), none, none, none, none, none], .dict0, .tup [.int [0, -1, 1], .int [1], .int [0], .int [0], .ref 22], .tup [], .list true [], .ns 14 [], .dict0, .tup [.int [0, -1, 1], .int [1], .int [0], .int [0], .ref 27], .ns 2 [some (.ref 23), some (.ref 28), some (.int [0, -1, 1]), some (.int [1]), some (.int [0]), some (.int [0]), some (.ref 27), some (.int [0, -1, 1]), some (.int [1]), some (.int [0]), some (.int [0]), some (.ref 22), none], .ns 3 [some (.ref 22), some (.ref 27), some (.ref 31), none, none, none, none, none], .dict0, .tup [.int [0, -2, 2], .int [2], .int [0], .int [0], .ref 31], .tup [.int [1]], .list true [.int [2]], .ns 14 [], .dict0, .tup [.int [0, 0, 0, -1, 1], .int [1], .int [0], .int [0], .ref 36], .ns 2 [some (.ref 32), some (.ref 37), some (.int [0, 0, 0, -1, 1]), some (.int [1]), some (.int [0]), some (.int [0]), some (.ref 36), some (.int [0, -2, 2]), some (.int [2]), some (.int [0]), some (.int [0]), some (.ref 31), none], .ns 3 [some (.ref 31), some (.ref 36), some (.ref 40), none, none, none, none, none], .dict0, .tup [.int [0, -2, 2, -1, 1], .int [3], .int [0], .int [0], .ref 40], .tup [.int [1], .int [2]], .list true [.int [2], .int [4]], .ns 14 [], .dict0, .tup [.int [0, 0, 0, 0, 0, 0, 0, -1, 1], .int [1], .int [0], .int [0], .ref 45], .ns 2 [some (.ref 41), some (.ref 46), some (.int [0, 0, 0, 0, 0, 0, 0, -1, 1]), some (.int [1]), some (.int [0]), some (.int [0]), some (.ref 45), some (.int [0, -2, 2, -1, 1]), some (.int [3]), some (.int [0]), some (.int [0]), some (.ref 40), none], .ns 3 [some (.ref 40), some (.ref 45), some (.ref 49), none, none, none, none, none], .dict0, .tup [.int [0, -2, 2, -1, 1, 0, 0, -1, 1], .int [4], .int [0], .int [0], .ref 49], .tup [.int [2]], .list true [.int [4]], .ns 14 [], .dict0, .tup [.int [0, 0, 0, 0, 0, -1, 1], .int [1], .int [0], .int [0], .ref 54], .ns 2 [some (.ref 50), some (.ref 55), some (.int [0, 0, 0, 0, 0, -1, 1]), some (.int [1]), some (.int [0]), some (.int [0]), some (.ref 54), some (.int [0, -2, 2, -1, 1, 0, 0, -1, 1]), some (.int [4]), some (.int [0]), some (.int [0]), some (.ref 49), none], .ns 3 [some (.ref 49), some (.ref 54), some (.ref 58), none, none, none, none, none], .dict0, .tup [.int [0, -2, 2, -1, 1, -1, 1, -1, 1], .int [5], .int [0], .int [0], .ref 58], .tup [.int [2], .int [1]], .list true [.int [4], .int [2]], .ns 14 [], .dict0, .tup [.int [0, 0, 0, 0, 0, 0, 0, -1, 1], .int [1], .int [0], .int [0], .ref 63], .ns 2 [some (.ref 59), some (.ref 64), some (.int [0, 0, 0, 0, 0, 0, 0, -1, 1]), some (.int [1]), some (.int [0]), some (.int [0]), some (.ref 63), some (.int [0, -2, 2, -1, 1, -1, 1, -1, 1]), some (.int [5]), some (.int [0]), some (.int [0]), some (.ref 58), none], .ns 3 [some (.ref 58), some (.ref 63), some (.ref 67), none, none, none, none, none], .dict0, .tup [.int [0, -2, 2, -1, 1, -1, 1, -2, 2], .int [6], .int [0], .int [0], .ref 67]]
noncomputable def pA0 : AH := outO (bindT e80 (kA0 ++ [.range 0 3]) (.one (.loc 2)) (.one (.int [0])))
noncomputable def qA0 : AH := outH (run P2 56 (.B e80 (b80.take 1)) pA0)
theorem x80_0p : bindT e80 (kA0 ++ [.range 0 3]) (.one (.loc 2)) (.one (.int [0])) = some pA0 := by kernel_rfl
theorem x80_0q : run P2 56 (.B e80 (b80.take 1)) pA0 = some (.nx, qA0) := by kernel_rfl
theorem x80_0s : run P2 53 (.E e80 (forSrc b80 1)) qA0 = some (.v (.ref 14), sA0) := by kernel_rfl
theorem x80_00 : (bO (bindT e80 sA0 (.one (.loc 4)) (.one (.ref 8))) fun H1 => run P2 52 (.B e80 i80) H1) = some (.nx, tA00) := by kernel_rfl
theorem x80_01 : (bO (bindT e80 tA00 (.one (.loc 4)) (.one (.ref 9))) fun H1 => run P2 51 (.B e80 i80) H1) = some (.nx, tA01) := by kernel_rfl
theorem x80_02 : (bO (bindT e80 tA01 (.one (.loc 4)) (.one (.ref 10))) fun H1 => run P2 50 (.B e80 i80) H1) = some (.nx, tA02) := by kernel_rfl
theorem x80_03 : (bO (bindT e80 tA02 (.one (.loc 4)) (.one (.ref 11))) fun H1 => run P2 49 (.B e80 i80) H1) = some (.nx, tA03) := by kernel_rfl
theorem x80_04 : (bO (bindT e80 tA03 (.one (.loc 4)) (.one (.ref 12))) fun H1 => run P2 48 (.B e80 i80) H1) = some (.nx, tA04) := by kernel_rfl
theorem x80_05 : (bO (bindT e80 tA04 (.one (.loc 4)) (.one (.ref 13))) fun H1 => run P2 47 (.B e80 i80) H1) = some (.nx, tA05) := by kernel_rfl
theorem x80_0e : run P2 54 (.B e80 (b80.drop 2)) tA05 = some (.nx, kA1) := by kernel_rfl
theorem r80_0 : (bO (bindT e80 (kA0 ++ [.range 0 3]) (.one (.loc 2)) (.one (.int [0]))) fun H1 => run P2 56 (.B e80 b80) H1) = some (.nx, kA1) := by
  refine bO_go x80_0p ?_
  rw [← List.take_append_drop 1 b80]
  refine (B_app (n := 54) (b80.take 1) x80_0q).trans ?_
  rw [c80]
  refine (B_cons (n := 54) (H1 := tA05) ?_).trans x80_0e
  refine (S_for (n := 53) (so := .list 14) x80_0s (by kernel_rfl)).trans ?_
  refine (F_turn (n := 52) (by kernel_rfl) x80_00).trans ?_
  refine (F_turn (n := 51) (by kernel_rfl) x80_01).trans ?_
  refine (F_turn (n := 50) (by kernel_rfl) x80_02).trans ?_
  refine (F_turn (n := 49) (by kernel_rfl) x80_03).trans ?_
  refine (F_turn (n := 48) (by kernel_rfl) x80_04).trans ?_
  refine (F_turn (n := 47) (by kernel_rfl) x80_05).trans ?_
  exact F_end (n := 46) (by kernel_rfl)
noncomputable def sA1 : AH := [.tab 0, .tab 1, .list true [.int [0, 1], .int [0, 0, 1], .int [0, 0, 0, 1], .int [0, 0, 0, 0, 1], .int [0, 0, 0, 0, 0, 1], .int [0, 0, 0, 0, 0, 0, 1], .int [0, 0, 0, 0, 0, 0, 0, 1], .int [0, 0, 0, 0, 0, 0, 0, 0, 1]], .ns 8 [some (.ref 2), some (.ref 4), some (.int [1]), some (.ref 70), some (.ref 13), some (.int [6]), none, none, none], .list true [.int [0, -2, 2, -1, 1, -1, 1, -2, 2]], .range 0 3, .dict0, .tup [.int [0], .int [0], .int [0], .int [0], .ref 6], .tup [.int [0], .int [1], .int [2]], .tup [.int [0], .int [2], .int [1]], .tup [.int [1], .int [0], .int [2]], .tup [.int [1], .int [2], .int [0]], .tup [.int [2], .int [0], .int [1]], .tup [.int [2], .int [1], .int [0]], .list true [.ref 8, .ref 9, .ref 10, .ref 11, .ref 12, .ref 13], .tup [], .list true [], .ns 14 [], .dict0, .tup [.int [0, -1, 1], .int [1], .int [0], .int [0], .ref 18], .ns 2 [some (.ref 7), some (.ref 19), some (.int [0, -1, 1]), some (.int [1]), some (.int [0]), some (.int [0]), some (.ref 18), some (.int [0]), some (.int [0]), some (.int [0]), some (.int [0]), some (.ref 6), none], .ns 3 [some (.ref 6), some (.ref 18), some (.ref 22), none, none, none, none, none], .dict0, .tup [.int [0, -1, 1], .int [1], .int [0], .int [0], .ref 22], .tup [], .list true [], .ns 14 [], .dict0, .tup [.int [0, -1, 1], .int [1], .int [0], .int [0], .ref 27], .ns 2 [some (.ref 23), some (.ref 28), some (.int [0, -1, 1]), some (.int [1]), some (.int [0]), some (.int [0]), some (.ref 27), some (.int [0, -1, 1]), some (.int [1]), some (.int [0]), some (.int [0]), some (.ref 22), none], .ns 3 [some (.ref 22), some (.ref 27), some (.ref 31), none, none, none, none, none], .dict0, .tup [.int [0, -2, 2], .int [2], .int [0], .int [0], .ref 31], .tup [.int [1]], .list true [.int [2]], .ns 14 [], .dict0, .tup [.int [0, 0, 0, -1, 1], .int [1], .int [0], .int [0], .ref 36], .ns 2 [some (.ref 32), some (.ref 37), some (.int [0, 0, 0, -1, 1]), some (.int [1]), some (.int [0]), some (.int [0]), some (.ref 36), some (.int [0, -2, 2]), some (.int [2]), some (.int [0]), some (.int [0]), some (.ref 31), none], .ns 3 [some (.ref 31), some (.ref 36), some (.ref 40), none, none, none, none, none], .dict0, .tup [.int [0, -2, 2, -1, 1], .int [3], .int [0], .int [0], .ref 40], .tup [.int [1], .int [2]], .list true [.int [2], .int [4]], .ns 14 [], .dict0, .tup [.int [0, 0, 0, 0, 0, 0, 0, -1, 1], .int [1], .int [0], .int [0], .ref 45], .ns 2 [some (.ref 41), some (.ref 46), some (.int [0, 0, 0, 0, 0, 0, 0, -1, 1]), some (.int [1]), some (.int [0]), some (.int [0]), some (.ref 45), some (.int [0, -2, 2, -1, 1]), some (.int [3]), some (.int [0]), some (.int [0]), some (.ref 40), none], .ns 3 [some (.ref 40), some (.ref 45), some (.ref 49), none, none, none, none, none], .dict0, .tup [.int [0, -2, 2, -1, 1, 0, 0, -1, 1], .int [4], .int [0], .int [0], .ref 49], .tup [.int [2]], .list true [.int [4]], .ns 14 [], .dict0, .tup [.int [0, 0, 0, 0, 0, -1, 1], .int [1], .int [0], .int [0], .ref 54], .ns 2 [some (.ref 50), some (.ref 55), some (.int [0, 0, 0, 0, 0, -1, 1]), some (.int [1]), some (.int [0]), some (.int [0]), some (.ref 54), some (.int [0, -2, 2, -1, 1, 0, 0, -1, 1]), some (.int [4]), some (.int [0]), some (.int [0]), some (.ref 49), none], .ns 3 [some (.ref 49), some (.ref 54), some (.ref 58), none, none, none, none, none], .dict0, .tup [.int [0, -2, 2, -1, 1, -1, 1, -1, 1], .int [5], .int [0], .int [0], .ref 58], .tup [.int [2], .int [1]], .list true [.int [4], .int [2]], .ns 14 [], .dict0, .tup [.int [0, 0, 0, 0, 0, 0, 0, -1, 1], .int [1], .int [0], .int [0], .ref 63], .ns 2 [some (.ref 59), some (.ref 64), some (.int [0, 0, 0, 0, 0, 0, 0, -1, 1]), some (.int [1]), some (.int [0]), some (.int [0]), some (.ref 63), some (.int [0, -2, 2, -1, 1, -1, 1, -1, 1]), some (.int [5]), some (.int [0]), some (.int [0]), some (.ref 58), none], .ns 3 [some (.ref 58), some (.ref 63), some (.ref 67), none, none, none, none, none], .dict0, .tup [.int [0, -2, 2, -1, 1, -1, 1, -2, 2], .int [6], .int [0], .int [0], .ref 67], .dict0, .tup [.int [0], .int [0], .int [0], .int [0], .ref 69], .tup [.int [0], .int [1], .int [2]], .tup [.int [0], .int [2], .int [1]], .tup [.int [1], .int [0], .int [2]], .tup [.int [1], .int [2], .int [0]], .tup [.int [2], .int [0], .int [1]], .tup [.int [2], .int [1], .int [0]], .list true [.ref 71, .ref 72, .ref 73, .ref 74, .ref 75, .ref 76]]
noncomputable def tA10 : AH := [.tab 0, .tab 1, .list true [.int [0, 1], .int [0, 0, 1], .int [0, 0, 0, 1], .int [0, 0, 0, 0, 1], .int [0, 0, 0, 0, 0, 1], .int [0, 0, 0, 0, 0, 0, 1], .int [0, 0, 0, 0, 0, 0, 0, 1], .int [0, 0, 0, 0, 0, 0, 0, 0, 1]], .ns 8 [some (.ref 2), some (.ref 4), some (.int [1]), some (.ref 86), some (.ref 71), some (.int [1]), none, none, none], .list true [.int [0, -2, 2, -1, 1, -1, 1, -2, 2]], .range 0 3, .dict0, .tup [.int [0], .int [0], .int [0], .int [0], .ref 6], .tup [.int [0], .int [1], .int [2]], .tup [.int [0], .int [2], .int [1]], .tup [.int [1], .int [0], .int [2]], .tup [.int [1], .int [2], .int [0]], .tup [.int [2], .int [0], .int [1]], .tup [.int [2], .int [1], .int [0]], .list true [.ref 8, .ref 9, .ref 10, .ref 11, .ref 12, .ref 13], .tup [], .list true [], .ns 14 [], .dict0, .tup [.int [0, -1, 1], .int [1], .int [0], .int [0], .ref 18], .ns 2 [some (.ref 7), some (.ref 19), some (.int [0, -1, 1]), some (.int [1]), some (.int [0]), some (.int [0]), some (.ref 18), some (.int [0]), some (.int [0]), some (.int [0]), some (.int [0]), some (.ref 6), none], .ns 3 [some (.ref 6), some (.ref 18), some (.ref 22), none, none, none, none, none], .dict0, .tup [.int [0, -1, 1], .int [1], .int [0], .int [0], .ref 22], .tup [], .list true [], .ns 14 [], .dict0, .tup [.int [0, -1, 1], .int [1], .int [0], .int [0], .ref 27], .ns 2 [some (.ref 23), some (.ref 28), some (.int [0, -1, 1]), some (.int [1]), some (.int [0]), some (.int [0]), some (.ref 27), some (.int [0, -1, 1]), some (.int [1]), some (.int [0]), some (.int [0]), some (.ref 22), none], .ns 3 [some (.ref 22), some (.ref 27), some (.ref 31), none, none, none, none, none], .dict0, .tup [.int [0, -2, 2], .int [2], .int [0], .int [0], .ref 31], .tup [.int [1]], .list true [.int [2]], .ns 14 [], .dict0, .tup [.int [0, 0, 0, -1, 1], .int [1], .int [0], .int [0], .ref 36], .ns 2 [some (.ref 32), some (.ref 37), some (.int [0, 0, 0, -1, 1]), some (.int [1]), some (.int [0]), some (.int [0]), some (.ref 36), some (.int [0, -2, 2]), some (.int [2]), some (.int [0]), some (.int [0]), some (.ref 31), none], .ns 3 [some (.ref 31), some (.ref 36), some (.ref 40), none, none, none, none, none], .dict0, .tup [.int [0, -2, 2, -1, 1], .int [3], .int [0], .int [0], .ref 40], .tup [.int [1], .int [2]], .list true [.int [2], .int [4]], .ns 14 [], .dict0, .tup [.int [0, 0, 0, 0, 0, 0, 0, -1, 1], .int [1], .int [0], .int [0], .ref 45], .ns 2 [some (.ref 41), some (.ref 46), some (.int [0, 0, 0, 0, 0, 0, 0, -1, 1]), some (.int [1]), some (.int [0]), some (.int [0]), some (.ref 45), some (.int [0, -2, 2, -1, 1]), some (.int [3]), some (.int [0]), some (.int [0]), some (.ref 40), none], .ns 3 [some (.ref 40), some (.ref 45), some (.ref 49), none, none, none, none, none], .dict0, .tup [.int [0, -2, 2, -1, 1, 0, 0, -1, 1], .int [4], .int [0], .int [0], .ref 49], .tup [.int [2]], .list true [.int [4]], .ns 14 [], .dict0, .tup [.int [0, 0, 0, 0, 0, -1, 1], .int [1], .int [0], .int [0], .ref 54], .ns 2 [some (.ref 50), some (.ref 55), some (.int [0, 0, 0, 0, 0, -1, 1]), some (.int [1]), some (.int [0]), some (.int [0]), some (.ref 54), some (.int [0, -2, 2, -1, 1, 0, 0, -1, 1]), some (.int [4]), some (.int [0]), some (.int [0]), some (.ref 49), none], .ns 3 [some (.ref 49), some (.ref 54), some (.ref 58), none, none, none, none, none], .dict0, .tup [.int [0, -2, 2, -1, 1, -1, 1, -1, 1], .int [5], .int [0], .int [0], .ref 58], .tup [.int [2], .int [1]], .list true [.int [4], .int [2]], .ns 14 [], .dict0, .tup [.int [0, 0, 0, 0, 0, 0, 0, -1, 1], .int [1], .int [0], .int [0], .ref 63], .ns 2 [some (.ref 59), some (.ref 64), some (.int [0, 0, 0, 0, 0, 0, 0, -1, 1]), some (.int [1]), some (.int [0]), some (.int [0]), some (.ref 63), some (.int [0, -2, 2, -1, 1, -1, 1, -1, 1]), some (.int [5]), some (.int [0]), some (.int [0]), some (.ref 58), none], .ns 3 [some (.ref 58), some (.ref 63), some (.ref 67), none, none, none, none, none], .dict0, .tup [.int [0, -2, 2, -1, 1, -1, 1, -2, 2], .int [6], .int [0], .int [0], .ref 67], .dict0, .tup [.int [0], .int [0], .int [0], .int [0], .ref 69], .tup [.int [0], .int [1], .int [2]], .tup [.int [0], .int [2], .int [1]], .tup [.int [1], .int [0], .int [2]], .tup [.int [1], .int [2], .int [0]], .tup [.int [2], .int [0], .int [1]], .tup [.int [2], .int [1], .int [0]], .list true [.ref 71, .ref 72, .ref 73, .ref 74, .ref 75, .ref 76], .tup [.int [0]], .list true [.int [1]], .ns 14 [], .dict0, .tup [.int [0, 0, -1, 0, 1], .int [1], .int [0], .int [0], .ref 81], .ns 2 [some (.ref 70), some (.ref 82), some (.int [0, 0, -1, 0, 1]), some (.int [1]), some (.int [0]), some (.int [0]), some (.ref 81), some (.int [0]), some (.int [0]), some (.int [0]), some (.int [0]), some (.ref 69), none], .ns 3 [some (.ref 69), some (.ref 81), some (.ref 85), none, none, none, none, none], .dict0, .tup [.int [0, 0, -1, 0, 1], .int [1], .int [0], .int [0], .ref 85]]
noncomputable def tA11 : AH := [.tab 0, .tab 1, .list true [.int [0, 1], .int [0, 0, 1], .int [0, 0, 0, 1], .int [0, 0, 0, 0, 1], .int [0, 0, 0, 0, 0, 1], .int [0, 0, 0, 0, 0, 0, 1], .int [0, 0, 0, 0, 0, 0, 0, 1], .int [0, 0, 0, 0, 0, 0, 0, 0, 1]], .ns 8 [some (.ref 2), some (.ref 4), some (.int [1]), some (.ref 95), some (.ref 72), some (.int [5]), none, none, none], .list true [.int [0, -2, 2, -1, 1, -1, 1, -2, 2]], .range 0 3, .dict0, .tup [.int [0], .int [0], .int [0], .int [0], .ref 6], .tup [.int [0], .int [1], .int [2]], .tup [.int [0], .int [2], .int [1]], .tup [.int [1], .int [0], .int [2]], .tup [.int [1], .int [2], .int [0]], .tup [.int [2], .int [0], .int [1]], .tup [.int [2], .int [1], .int [0]], .list true [.ref 8, .ref 9, .ref 10, .ref 11, .ref 12, .ref 13], .tup [], .list true [], .ns 14 [], .dict0, .tup [.int [0, -1, 1], .int [1], .int [0], .int [0], .ref 18], .ns 2 [some (.ref 7), some (.ref 19), some (.int [0, -1, 1]), some (.int [1]), some (.int [0]), some (.int [0]), some (.ref 18), some (.int [0]), some (.int [0]), some (.int [0]), some (.int [0]), some (.ref 6), none], .ns 3 [some (.ref 6), some (.ref 18), some (.ref 22), none, none, none, none, none], .dict0, .tup [.int [0, -1, 1], .int [1], .int [0], .int [0], .ref 22], .tup [], .list true [], .ns 14 [], .dict0, .tup [.int [0, -1, 1], .int [1], .int [0], .int [0], .ref 27], .ns 2 [some (.ref 23), some (.ref 28), some (.int [0, -1, 1]), some (.int [1]), some (.int [0]), some (.int [0]), some (.ref 27), some (.int [0, -1, 1]), some (.int [1]), some (.int [0]), some (.int [0]), some (.ref 22), none], .ns 3 [some (.ref 22), some (.ref 27), some (.ref 31), none, none, none, none, none], .dict0, .tup [.int [0, -2, 2], .int [2], .int [0], .int [0], .ref 31], .tup [.int [1]], .list true [.int [2]], .ns 14 [], .dict0, .tup [.int [0, 0, 0, -1, 1], .int [1], .int [0], .int [0], .ref 36], .ns 2 [some (.ref 32), some (.ref 37), some (.int [0, 0, 0, -1, 1]), some (.int [1]), some (.int [0]), some (.int [0]), some (.ref 36), some (.int [0, -2, 2]), some (.int [2]), some (.int [0]), some (.int [0]), some (.ref 31), none], .ns 3 [some (.ref 31), some (.ref 36), some (.ref 40), none, none, none, none, none], .dict0, .tup [.int [0, -2, 2, -1, 1], .int [3], .int [0], .int [0], .ref 40], .tup [.int [1], .int [2]], .list true [.int [2], .int [4]], .ns 14 [], .dict0, .tup [.int [0, 0, 0, 0, 0, 0, 0, -1, 1], .int [1], .int [0], .int [0], .ref 45], .ns 2 [some (.ref 41), some (.ref 46), some (.int [0, 0, 0, 0, 0, 0, 0, -1, 1]), some (.int [1]), some (.int [0]), some (.int [0]), some (.ref 45), some (.int [0, -2, 2, -1, 1]), some (.int [3]), some (.int [0]), some (.int [0]), some (.ref 40), none], .ns 3 [some (.ref 40), some (.ref 45), some (.ref 49), none, none, none, none, none], .dict0, .tup [.int [0, -2, 2, -1, 1, 0, 0, -1, 1], .int [4], .int [0], .int [0], .ref 49], .tup [.int [2]], .list true [.int [4]], .ns 14 [], .dict0, .tup [.int [0, 0, 0, 0, 0, -1, 1], .int [1], .int [0], .int [0], .ref 54], .ns 2 [some (.ref 50), some (.ref 55), some (.int [0, 0, 0, 0, 0, -1, 1]), some (.int [1]), some (.int [0]), some (.int [0]), some (.ref 54), some (.int [0, -2, 2, -1, 1, 0, 0, -1, 1]), some (.int [4]), some (.int [0]), some (.int [0]), some (.ref 49), none], .ns 3 [some (.ref 49), some (.ref 54), some (.ref 58), none, none, none, none, none], .dict0, .tup [.int [0, -2, 2, -1, 1, -1, 1, -1, 1], .int [5], .int [0], .int [0], .ref 58], .tup [.int [2], .int [1]], .list true [.int [4], .int [2]], .ns 14 [], .dict0, .tup [.int [0, 0, 0, 0, 0, 0, 0, -1, 1], .int [1], .int [0], .int [0], .ref 63], .ns 2 [some (.ref 59), some (.ref 64), some (.int [0, 0, 0, 0, 0, 0, 0, -1, 1]), some (.int [1]), some (.int [0]), some (.int [0]), some (.ref 63), some (.int [0, -2, 2, -1, 1, -1, 1, -1, 1]), some (.int [5]), some (.int [0]), some (.int [0]), some (.ref 58), none], .ns 3 [some (.ref 58), some (.ref 63), some (.ref 67), none, none, none, none, none], .dict0, .tup [.int [0, -2, 2, -1, 1, -1, 1, -2, 2], .int [6], .int [0], .int [0], .ref 67], .dict0, .tup [.int [0], .int [0], .int [0], .int [0], .ref 69], .tup [.int [0], .int [1], .int [2]], .tup [.int [0], .int [2], .int [1]], .tup [.int [1], .int [0], .int [2]], .tup [.int [1], .int [2], .int [0]], .tup [.int [2], .int [0], .int [1]], .tup [.int [2], .int [1], .int [0]], .list true [.ref 71, .ref 72, .ref 73, .ref 74, .ref 75, .ref 76], .tup [.int [0]], .list true [.int [1]], .ns 14 [], .dict0, .tup [.int [0, 0, -1, 0, 1], .int [1], .int [0], .int [0], .ref 81], .ns 2 [some (.ref 70), some (.ref 82), some (.int [0, 0, -1, 0, 1]), some (.int [1]), some (.int [0]), some (.int [0]), some (.ref 81), some (.int [0]), some (.int [0]), some (.int [0]), some (.int [0]), some (.ref 69), none], .ns 3 [some (.ref 69), some (.ref 81), some (.ref 85), none, none, none, none, none], .dict0, .tup [.int [0, 0, -1, 0, 1], .int [1], .int [0], .int [0], .ref 85], .tup [.int [0], .int [2]], .list true [.int [1], .int [4]], .ns 14 [], .dict0, .tup [.int [0, 0, 0, 0, 0, 0, -1, 0, 1], .int [1], .int [0], .int [0], .ref 90], .ns 2 [some (.ref 86), some (.ref 91), some (.int [0, 0, 0, 0, 0, 0, -1, 0, 1]), some (.int [1]), some (.int [0]), some (.int [0]), some (.ref 90), some (.int [0, 0, -1, 0, 1]), some (.int [1]), some (.int [0]), some (.int [0]), some (.ref 85), none], .ns 3 [some (.ref 85), some (.ref 90), some (.ref 94), none, none, none, none, none], .dict0, .tup [.int [0, 0, -1, 0, 1, 0, -1, 0, 1], .int [2], .int [0], .int [0], .ref 94]]
noncomputable def tA12 : AH := [.tab 0, .tab 1, .list true [.int [0, 1], .int [0, 0, 1], .int [0, 0, 0, 1], .int [0, 0, 0, 0, 1], .int [0, 0, 0, 0, 0, 1], .int [0, 0, 0, 0, 0, 0, 1], .int [0, 0, 0, 0, 0, 0, 0, 1], .int [0, 0, 0, 0, 0, 0, 0, 0, 1]], .ns 8 [some (.ref 2), some (.ref 4), some (.int [1]), some (.ref 104), some (.ref 73), some (.int []), none, none, none], .list true [.int [0, -2, 2, -1, 1, -1, 1, -2, 2]], .range 0 3, .dict0, .tup [.int [0], .int [0], .int [0], .int [0], .ref 6], .tup [.int [0], .int [1], .int [2]], .tup [.int [0], .int [2], .int [1]], .tup [.int [1], .int [0], .int [2]], .tup [.int [1], .int [2], .int [0]], .tup [.int [2], .int [0], .int [1]], .tup [.int [2], .int [1], .int [0]], .list true [.ref 8, .ref 9, .ref 10, .ref 11, .ref 12, .ref 13], .tup [], .list true [], .ns 14 [], .dict0, .tup [.int [0, -1, 1], .int [1], .int [0], .int [0], .ref 18], .ns 2 [some (.ref 7), some (.ref 19), some (.int [0, -1, 1]), some (.int [1]), some (.int [0]), some (.int [0]), some (.ref 18), some (.int [0]), some (.int [0]), some (.int [0]), some (.int [0]), some (.ref 6), none], .ns 3 [some (.ref 6), some (.ref 18), some (.ref 22), none, none, none, none, none], .dict0, .tup [.int [0, -1, 1], .int [1], .int [0], .int [0], .ref 22], .tup [], .list true [], .ns 14 [], .dict0, .tup [.int [0, -1, 1], .int [1], .int [0], .int [0], .ref 27], .ns 2 [some (.ref 23), some (.ref 28), some (.int [0, -1, 1]), some (.int [1]), some (.int [0]), some (.int [0]), some (.ref 27), some (.int [0, -1, 1]), some (.int [1]), some (.int [0]), some (.int [0]), some (.ref 22), none], .ns 3 [some (.ref 22), some (.ref 27), some (.ref 31), none, none, none, none, none], .dict0, .tup [.int [0, -2, 2], .int [2], .int [0], .int [0], .ref 31], .tup [.int [1]], .list true [.int [2]], .ns 14 [], .dict0, .tup [.int [0, 0, 0, -1, 1], .int [1], .int [0], .int [0], .ref 36], .ns 2 [some (.ref 32), some (.ref 37), some (.int [0, 0, 0, -1, 1]), some (.int [1]), some (.int [0]), some (.int [0]), some (.ref 36), some (.int [0, -2, 2]), some (.int [2]), some (.int [0]), some (.int [0]), some (.ref 31), none], .ns 3 [some (.ref 31), some (.ref 36), some (.ref 40), none, none, none, none, none], .dict0, .tup [.int [0, -2, 2, -1, 1], .int [3], .int [0], .int [0], .ref 40], .tup [.int [1], .int [2]], .list true [.int [2], .int [4]], .ns 14 [], .dict0, .tup [.int [0, 0, 0, 0, 0, 0, 0, -1, 1], .int [1], .int [0], .int [0], .ref 45], .ns 2 [some (.ref 41), some (.ref 46), some (.int [0, 0, 0, 0, 0, 0, 0, -1, 1]), some (.int [1]), some (.int [0]), some (.int [0]), some (.ref 45), some (.int [0, -2, 2, -1, 1]), some (.int [3]), some (.int [0]), some (.int [0]), some (.ref 40), none], .ns 3 [some (.ref 40), some (.ref 45), some (.ref 49), none, none, none, none, none], .dict0, .tup [.int [0, -2, 2, -1, 1, 0, 0, -1, 1], .int [4], .int [0], .int [0], .ref 49], .tup [.int [2]], .list true [.int [4]], .ns 14 [], .dict0, .tup [.int [0, 0, 0, 0, 0, -1, 1], .int [1], .int [0], .int [0], .ref 54], .ns 2 [some (.ref 50), some (.ref 55), some (.int [0, 0, 0, 0, 0, -1, 1]), some (.int [1]), some (.int [0]), some (.int [0]), some (.ref 54), some (.int [0, -2, 2, -1, 1, 0, 0, -1, 1]), some (.int [4]), some (.int [0]), some (.int [0]), some (.ref 49), none], .ns 3 [some (.ref 49), some (.ref 54), some (.ref 58), none, none, none, none, none], .dict0, .tup [.int [0, -2, 2, -1, 1, -1, 1, -1, 1], .int [5], .int [0], .int [0], .ref 58], .tup [.int [2], .int [1]], .list true [.int [4], .int [2]], .ns 14 [], .dict0, .tup [.int [0, 0, 0, 0, 0, 0, 0, -1, 1], .int [1], .int [0], .int [0], .ref 63], .ns 2 [some (.ref 59), some (.ref 64), some (.int [0, 0, 0, 0, 0, 0, 0, -1, 1]), some (.int [1]), some (.int [0]), some (.int [0]), some (.ref 63), some (.int [0, -2, 2, -1, 1, -1, 1, -1, 1]), some (.int [5]), some (.int [0]), some (.int [0]), some (.ref 58), none], .ns 3 [some (.ref 58), some (.ref 63), some (.ref 67), none, none, none, none, none], .dict0, .tup [.int [0, -2, 2, -1, 1, -1, 1, -2, 2], .int [6], .int [0], .int [0], .ref 67], .dict0, .tup [.int [0], .int [0], .int [0], .int [0], .ref 69], .tup [.int [0], .int [1], .int [2]], .tup [.int [0], .int [2], .int [1]], .tup [.int [1], .int [0], .int [2]], .tup [.int [1], .int [2], .int [0]], .tup [.int [2], .int [0], .int [1]], .tup [.int [2], .int [1], .int [0]], .list true [.ref 71, .ref 72, .ref 73, .ref 74, .ref 75, .ref 76], .tup [.int [0]], .list true [.int [1]], .ns 14 [], .dict0, .tup [.int [0, 0, -1, 0, 1], .int [1], .int [0], .int [0], .ref 81], .ns 2 [some (.ref 70), some (.ref 82), some (.int [0, 0, -1, 0, 1]), some (.int [1]), some (.int [0]), some (.int [0]), some (.ref 81), some (.int [0]), some (.int [0]), some (.int [0]), some (.int [0]), some (.ref 69), none], .ns 3 [some (.ref 69), some (.ref 81), some (.ref 85), none, none, none, none, none], .dict0, .tup [.int [0, 0, -1, 0, 1], .int [1], .int [0], .int [0], .ref 85], .tup [.int [0], .int [2]], .list true [.int [1], .int [4]], .ns 14 [], .dict0, .tup [.int [0, 0, 0, 0, 0, 0, -1, 0, 1], .int [1], .int [0], .int [0], .ref 90], .ns 2 [some (.ref 86), some (.ref 91), some (.int [0, 0, 0, 0, 0, 0, -1, 0, 1]), some (.int [1]), some (.int [0]), some (.int [0]), some (.ref 90), some (.int [0, 0, -1, 0, 1]), some (.int [1]), some (.int [0]), some (.int [0]), some (.ref 85), none], .ns 3 [some (.ref 85), some (.ref 90), some (.ref 94), none, none, none, none, none], .dict0, .tup [.int [0, 0, -1, 0, 1, 0, -1, 0, 1], .int [2], .int [0], .int [0], .ref 94], .tup [], .list true [], .ns 14 [], .dict0, .tup [.int [0, -1, 0, 1], .int [1], .int [0], .int [0], .ref 99], .ns 2 [some (.ref 95), some (.ref 100), some (.int [0, -1, 0, 1]), some (.int [1]), some (.int [0]), some (.int [0]), some (.ref 99), some (.int [0, 0, -1, 0, 1, 0, -1, 0, 1]), some (.int [2]), some (.int [0]), some (.int [0]), some (.ref 94), none], .ns 3 [some (.ref 94), some (.ref 99), some (.ref 103), none, none, none, none, none], .dict0, .tup [.int [0, -1, -1, 1, 1, 0, -1, 0, 1], .int [3], .int [0], .int [0], .ref 103]]
noncomputable def tA13 : AH := [.tab 0, .tab 1, .list true [.int [0, 1], .int [0, 0, 1], .int [0, 0, 0, 1], .int [0, 0, 0, 0, 1], .int [0, 0, 0, 0, 0, 1], .int [0, 0, 0, 0, 0, 0, 1], .int [0, 0, 0, 0, 0, 0, 0, 1], .int [0, 0, 0, 0, 0, 0, 0, 0, 1]], .ns 8 [some (.ref 2), some (.ref 4), some (.int [1]), some (.ref 113), some (.ref 74), some (.int []), none, none, none], .list true [.int [0, -2, 2, -1, 1, -1, 1, -2, 2]], .range 0 3, .dict0, .tup [.int [0], .int [0], .int [0], .int [0], .ref 6], .tup [.int [0], .int [1], .int [2]], .tup [.int [0], .int [2], .int [1]], .tup [.int [1], .int [0], .int [2]], .tup [.int [1], .int [2], .int [0]], .tup [.int [2], .int [0], .int [1]], .tup [.int [2], .int [1], .int [0]], .list true [.ref 8, .ref 9, .ref 10, .ref 11, .ref 12, .ref 13], .tup [], .list true [], .ns 14 [], .dict0, .tup [.int [0, -1, 1], .int [1], .int [0], .int [0], .ref 18], .ns 2 [some (.ref 7), some (.ref 19), some (.int [0, -1, 1]), some (.int [1]), some (.int [0]), some (.int [0]), some (.ref 18), some (.int [0]), some (.int [0]), some (.int [0]), some (.int [0]), some (.ref 6), none], .ns 3 [some (.ref 6), some (.ref 18), some (.ref 22), none, none, none, none, none], .dict0, .tup [.int [0, -1, 1], .int [1], .int [0], .int [0], .ref 22], .tup [], .list true [], .ns 14 [], .dict0, .tup [.int [0, -1, 1], .int [1], .int [0], .int [0], .ref 27], .ns 2 [some (.ref 23), some (.ref 28), some (.int [0, -1, 1]), some (.int [1]), some (.int [0]), some (.int [0]), some (.ref 27), some (.int [0, -1, 1]), some (.int [1]), some (.int [0]), some (.int [0]), some (.ref 22), none], .ns 3 [some (.ref 22), some (.ref 27), some (.ref 31), none, none, none, none, none], .dict0, .tup [.int [0, -2, 2], .int [2], .int [0], .int [0], .ref 31], .tup [.int [1]], .list true [.int [2]], .ns 14 [], .dict0, .tup [.int [0, 0, 0, -1, 1], .int [1], .int [0], .int [0], .ref 36], .ns 2 [some (.ref 32), some (.ref 37), some (.int [0, 0, 0, -1, 1]), some (.int [1]), some (.int [0]), some (.int [0]), some (.ref 36), some (.int [0, -2, 2]), some (.int [2]), some (.int [0]), some (.int [0]), some (.ref 31), none], .ns 3 [some (.ref 31), some (.ref 36), some (.ref 40), none, none, none, none, none], .dict0, .tup [.int [0, -2, 2, -1, 1], .int [3], .int [0], .int [0], .ref 40], .tup [.int [1], .int [2]], .list true [.int [2], .int [4]], .ns 14 [], .dict0, .tup [.int [0, 0, 0, 0, 0, 0, 0, -1, 1], .int [1], .int [0], .int [0], .ref 45], .ns 2 [some (.ref 41), some (.ref 46), some (.int [0, 0, 0, 0, 0, 0, 0, -1, 1]), some (.int [1]), some (.int [0]), some (.int [0]), some (.ref 45), some (.int [0, -2, 2, -1, 1]), some (.int [3]), some (.int [0]), some (.int [0]), some (.ref 40), none], .ns 3 [some (.ref 40), some (.ref 45), some (.ref 49), none, none, none, none, none], .dict0, .tup [.int [0, -2, 2, -1, 1, 0, 0, -1, 1], .int [4], .int [0], .int [0], .ref 49], .tup [.int [2]], .list true [.int [4]], .ns 14 [], .dict0, .tup [.int [0, 0, 0, 0, 0, -1, 1], .int [1], .int [0], .int [0], .ref 54], .ns 2 [some (.ref 50), some (.ref 55), some (.int [0, 0, 0, 0, 0, -1, 1]), some (.int [1]), some (.int [0]), some (.int [0]), some (.ref 54), some (.int [0, -2, 2, -1, 1, 0, 0, -1, 1]), some (.int [4]), some (.int [0]), some (.int [0]), some (.ref 49), none], .ns 3 [some (.ref 49), some (.ref 54), some (.ref 58), none, none, none, none, none], .dict0, .tup [.int [0, -2, 2, -1, 1, -1, 1, -1, 1], .int [5], .int [0], .int [0], .ref 58], .tup [.int [2], .int [1]], .list true [.int [4], .int [2]], .ns 14 [], .dict0, .tup [.int [0, 0, 0, 0, 0, 0, 0, -1, 1], .int [1], .int [0], .int [0], .ref 63], .ns 2 [some (.ref 59), some (.ref 64), some (.int [0, 0, 0, 0, 0, 0, 0, -1, 1]), some (.int [1]), some (.int [0]), some (.int [0]), some (.ref 63), some (.int [0, -2, 2, -1, 1, -1, 1, -1, 1]), some (.int [5]), some (.int [0]), some (.int [0]), some (.ref 58), none], .ns 3 [some (.ref 58), some (.ref 63), some (.ref 67), none, none, none, none, none], .dict0, .tup [.int [0, -2, 2, -1, 1, -1, 1, -2, 2], .int [6], .int [0], .int [0], .ref 67], .dict0, .tup [.int [0], .int [0], .int [0], .int [0], .ref 69], .tup [.int [0], .int [1], .int [2]], .tup [.int [0], .int [2], .int [1]], .tup [.int [1], .int [0], .int [2]], .tup [.int [1], .int [2], .int [0]], .tup [.int [2], .int [0], .int [1]], .tup [.int [2], .int [1], .int [0]], .list true [.ref 71, .ref 72, .ref 73, .ref 74, .ref 75, .ref 76], .tup [.int [0]], .list true [.int [1]], .ns 14 [], .dict0, .tup [.int [0, 0, -1, 0, 1], .int [1], .int [0], .int [0], .ref 81], .ns 2 [some (.ref 70), some (.ref 82), some (.int [0, 0, -1, 0, 1]), some (.int [1]), some (.int [0]), some (.int [0]), some (.ref 81), some (.int [0]), some (.int [0]), some (.int [0]), some (.int [0]), some (.ref 69), none], .ns 3 [some (.ref 69), some (.ref 81), some (.ref 85), none, none, none, none, none], .dict0, .tup [.int [0, 0, -1, 0, 1], .int [1], .int [0], .int [0], .ref 85], .tup [.int [0], .int [2]], .list true [.int [1], .int [4]], .ns 14 [], .dict0, .tup [.int [0, 0, 0, 0, 0, 0, -1, 0, 1], .int [1], .int [0], .int [0], .ref 90], .ns 2 [some (.ref 86), some (.ref 91), some (.int [0, 0, 0, 0, 0, 0, -1, 0, 1]), some (.int [1]), some (.int [0]), some (.int [0]), some (.ref 90), some (.int [0, 0, -1, 0, 1]), some (.int [1]), some (.int [0]), some (.int [0]), some (.ref 85), none], .ns 3 [some (.ref 85), some (.ref 90), some (.ref 94), none, none, none, none, none], .dict0, .tup [.int [0, 0, -1, 0, 1, 0, -1, 0, 1], .int [2], .int [0], .int [0], .ref 94], .tup [], .list true [], .ns 14 [], .dict0, .tup [.int [0, -1, 0, 1], .int [1], .int [0], .int [0], .ref 99], .ns 2 [some (.ref 95), some (.ref 100), some (.int [0, -1, 0, 1]), some (.int [1]), some (.int [0]), some (.int [0]), some (.ref 99), some (.int [0, 0, -1, 0, 1, 0, -1, 0, 1]), some (.int [2]), some (.int [0]), some (.int [0]), some (.ref 94), none], .ns 3 [some (.ref 94), some (.ref 99), some (.ref 103), none, none, none, none, none], .dict0, .tup [.int [0, -1, -1, 1, 1, 0, -1, 0, 1], .int [3], .int [0], .int [0], .ref 103], .tup [], .list true [], .ns 14 [], .dict0, .tup [.int [0, -1, 0, 1], .int [1], .int [0], .int [0], .ref 108], .ns 2 [some (.ref 104), some (.ref 109), some (.int [0, -1, 0, 1]), some (.int [1]), some (.int [0]), some (.int [0]), some (.ref 108), some (.int [0, -1, -1, 1, 1, 0, -1, 0, 1]), some (.int [3]), some (.int [0]), some (.int [0]), some (.ref 103), none], .ns 3 [some (.ref 103), some (.ref 108), some (.ref 112), none, none, none, none, none], .dict0, .tup [.int [0, -2, -1, 2, 1, 0, -1, 0, 1], .int [4], .int [0], .int [0], .ref 112]]
noncomputable def tA14 : AH := [.tab 0, .tab 1, .list true [.int [0, 1], .int [0, 0, 1], .int [0, 0, 0, 1], .int [0, 0, 0, 0, 1], .int [0, 0, 0, 0, 0, 1], .int [0, 0, 0, 0, 0, 0, 1], .int [0, 0, 0, 0, 0, 0, 0, 1], .int [0, 0, 0, 0, 0, 0, 0, 0, 1]], .ns 8 [some (.ref 2), some (.ref 4), some (.int [1]), some (.ref 122), some (.ref 75), some (.int [5]), none, none, none], .list true [.int [0, -2, 2, -1, 1, -1, 1, -2, 2]], .range 0 3, .dict0, .tup [.int [0], .int [0], .int [0], .int [0], .ref 6], .tup [.int [0], .int [1], .int [2]], .tup [.int [0], .int [2], .int [1]], .tup [.int [1], .int [0], .int [2]], .tup [.int [1], .int [2], .int [0]], .tup [.int [2], .int [0], .int [1]], .tup [.int [2], .int [1], .int [0]], .list true [.ref 8, .ref 9, .ref 10, .ref 11, .ref 12, .ref 13], .tup [], .list true [], .ns 14 [], .dict0, .tup [.int [0, -1, 1], .int [1], .int [0], .int [0], .ref 18], .ns 2 [some (.ref 7), some (.ref 19), some (.int [0, -1, 1]), some (.int [1]), some (.int [0]), some (.int [0]), some (.ref 18), some (.int [0]), some (.int [0]), some (.int [0]), some (.int [0]), some (.ref 6), none], .ns 3 [some (.ref 6), some (.ref 18), some (.ref 22), none, none, none, none, none], .dict0, .tup [.int [0, -1, 1], .int [1], .int [0], .int [0], .ref 22], .tup [], .list true [], .ns 14 [], .dict0, .tup [.int [0, -1, 1], .int [1], .int [0], .int [0], .ref 27], .ns 2 [some (.ref 23), some (.ref 28), some (.int [0, -1, 1]), some (.int [1]), some (.int [0]), some (.int [0]), some (.ref 27), some (.int [0, -1, 1]), some (.int [1]), some (.int [0]), some (.int [0]), some (.ref 22), none], .ns 3 [some (.ref 22), some (.ref 27), some (.ref 31), none, none, none, none, none], .dict0, .tup [.int [0, -2, 2], .int [2], .int [0], .int [0], .ref 31], .tup [.int [1]], .list true [.int [2]], .ns 14 [], .dict0, .tup [.int [0, 0, 0, -1, 1], .int [1], .int [0], .int [0], .ref 36], .ns 2 [some (.ref 32), some (.ref 37), some (.int [0, 0, 0, -1, 1]), some (.int [1]), some (.int [0]), some (.int [0]), some (.ref 36), some (.int [0, -2, 2]), some (.int [2]), some (.int [0]), some (.int [0]), some (.ref 31), none], .ns 3 [some (.ref 31), some (.ref 36), some (.ref 40), none, none, none, none, none], .dict0, .tup [.int [0, -2, 2, -1, 1], .int [3], .int [0], .int [0], .ref 40], .tup [.int [1], .int [2]], .list true [.int [2], .int [4]], .ns 14 [], .dict0, .tup [.int [0, 0, 0, 0, 0, 0, 0, -1, 1], .int [1], .int [0], .int [0], .ref 45], .ns 2 [some (.ref 41), some (.ref 46), some (.int [0, 0, 0, 0, 0, 0, 0, -1, 1]), some (.int [1]), some (.int [0]), some (.int [0]), some (.ref 45), some (.int [0, -2, 2, -1, 1]), some (.int [3]), some (.int [0]), some (.int [0]), some (.ref 40), none], .ns 3 [some (.ref 40), some (.ref 45), some (.ref 49), none, none, none, none, none], .dict0, .tup [.int [0, -2, 2, -1, 1, 0, 0, -1, 1], .int [4], .int [0], .int [0], .ref 49], .tup [.int [2]], .list true [.int [4]], .ns 14 [], .dict0, .tup [.int [0, 0, 0, 0, 0, -1, 1], .int [1], .int [0], .int [0], .ref 54], .ns 2 [some (.ref 50), some (.ref 55), some (.int [0, 0, 0, 0, 0, -1, 1]), some (.int [1]), some (.int [0]), some (.int [0]), some (.ref 54), some (.int [0, -2, 2, -1, 1, 0, 0, -1, 1]), some (.int [4]), some (.int [0]), some (.int [0]), some (.ref 49), none], .ns 3 [some (.ref 49), some (.ref 54), some (.ref 58), none, none, none, none, none], .dict0, .tup [.int [0, -2, 2, -1, 1, -1, 1, -1, 1], .int [5], .int [0], .int [0], .ref 58], .tup [.int [2], .int [1]], .list true [.int [4], .int [2]], .ns 14 [], .dict0, .tup [.int [0, 0, 0, 0, 0, 0, 0, -1, 1], .int [1], .int [0], .int [0], .ref 63], .ns 2 [some (.ref 59), some (.ref 64), some (.int [0, 0, 0, 0, 0, 0, 0, -1, 1]), some (.int [1]), some (.int [0]), some (.int [0]), some (.ref 63), some (.int [0, -2, 2, -1, 1, -1, 1, -1, 1]), some (.int [5]), some (.int [0]), some (.int [0]), some (.ref 58), none], .ns 3 [some (.ref 58), some (.ref 63), some (.ref 67), none, none, none, none, none], .dict0, .tup [.int [0, -2, 2, -1, 1, -1, 1, -2, 2], .int [6], .int [0], .int [0], .ref 67], .dict0, .tup [.int [0], .int [0], .int [0], .int [0], .ref 69], .tup [.int [0], .int [1], .int [2]], .tup [.int [0], .int [2], .int [1]], .tup [.int [1], .int [0], .int [2]], .tup [.int [1], .int [2], .int [0]], .tup [.int [2], .int [0], .int [1]], .tup [.int [2], .int [1], .int [0]], .list true [.ref 71, .ref 72, .ref 73, .ref 74, .ref 75, .ref 76], .tup [.int [0]], .list true [.int [1]], .ns 14 [], .dict0, .tup [.int [0, 0, -1, 0, 1], .int [1], .int [0], .int [0], .ref 81], .ns 2 [some (.ref 70), some (.ref 82), some (.int [0, 0, -1, 0, 1]), some (.int [1]), some (.int [0]), some (.int [0]), some (.ref 81), some (.int [0]), some (.int [0]), some (.int [0]), some (.int [0]), some (.ref 69), none], .ns 3 [some (.ref 69), some (.ref 81), some (.ref 85), none, none, none, none, none], .dict0, .tup [.int [0, 0, -1, 0, 1], .int [1], .int [0], .int [0], .ref 85], .tup [.int [0], .int [2]], .list true [.int [1], .int [4]], .ns 14 [], .dict0, .tup [.int [0, 0, 0, 0, 0, 0, -1, 0, 1], .int [1], .int [0], .int [0], .ref 90], .ns 2 [some (.ref 86), some (.ref 91), some (.int [0, 0, 0, 0, 0, 0, -1, 0, 1]), some (.int [1]), some (.int [0]), some (.int [0]), some (.ref 90), some (.int [0, 0, -1, 0, 1]), some (.int [1]), some (.int [0]), some (.int [0]), some (.ref 85), none], .ns 3 [some (.ref 85), some (.ref 90), some (.ref 94), none, none, none, none, none], .dict0, .tup [.int [0, 0, -1, 0, 1, 0, -1, 0, 1], .int [2], .int [0], .int [0], .ref 94], .tup [], .list true [], .ns 14 [], .dict0, .tup [.int [0, -1, 0, 1], .int [1], .int [0], .int [0], .ref 99], .ns 2 [some (.ref 95), some (.ref 100), some (.int [0, -1, 0, 1]), some (.int [1]), some (.int [0]), some (.int [0]), some (.ref 99), some (.int [0, 0, -1, 0, 1, 0, -1, 0, 1]), some (.int [2]), some (.int [0]), some (.int [0]), some (.ref 94), none], .ns 3 [some (.ref 94), some (.ref 99), some (.ref 103), none, none, none, none, none], .dict0, .tup [.int [0, -1, -1, 1, 1, 0, -1, 0, 1], .int [3], .int [0], .int [0], .ref 103], .tup [], .list true [], .ns 14 [], .dict0, .tup [.int [0, -1, 0, 1], .int [1], .int [0], .int [0], .ref 108], .ns 2 [some (.ref 104), some (.ref 109), some (.int [0, -1, 0, 1]), some (.int [1]), some (.int [0]), some (.int [0]), some (.ref 108), some (.int [0, -1, -1, 1, 1, 0, -1, 0, 1]), some (.int [3]), some (.int [0]), some (.int [0]), some (.ref 103), none], .ns 3 [some (.ref 103), some (.ref 108), some (.ref 112), none, none, none, none, none], .dict0, .tup [.int [0, -2, -1, 2, 1, 0, -1, 0, 1], .int [4], .int [0], .int [0], .ref 112], .tup [.int [2], .int [0]], .list true [.int [4], .int [1]], .ns 14 [], .dict0, .tup [.int [0, 0, 0, 0, 0, 0, -1, 0, 1], .int [1], .int [0], .int [0], .ref 117], .ns 2 [some (.ref 113), some (.ref 118), some (.int [0, 0, 0, 0, 0, 0, -1, 0, 1]), some (.int [1]), some (.int [0]), some (.int [0]), some (.ref 117), some (.int [0, -2, -1, 2, 1, 0, -1, 0, 1]), some (.int [4]), some (.int [0]), some (.int [0]), some (.ref 112), none], .ns 3 [some (.ref 112), some (.ref 117), some (.ref 121), none, none, none, none, none], .dict0, .tup [.int [0, -2, -1, 2, 1, 0, -2, 0, 2], .int [5], .int [0], .int [0], .ref 121]]
noncomputable def tA15 : AH := [.tab 0, .tab 1, .list true [.int [0, 1], .int [0, 0, 1], .int [0, 0, 0, 1], .int [0, 0, 0, 0, 1], .int [0, 0, 0, 0, 0, 1], .int [0, 0, 0, 0, 0, 0, 1], .int [0, 0, 0, 0, 0, 0, 0, 1], .int [0, 0, 0, 0, 0, 0, 0, 0, 1]], .ns 8 [some (.ref 2), some (.ref 4), some (.int [1]), some (.ref 131), some (.ref 76), some (.int [4]), none, none, none], .list true [.int [0, -2, 2, -1, 1, -1, 1, -2, 2]], .range 0 3, .dict0, .tup [.int [0], .int [0], .int [0], .int [0], .ref 6], .tup [.int [0], .int [1], .int [2]], .tup [.int [0], .int [2], .int [1]], .tup [.int [1], .int [0], .int [2]], .tup [.int [1], .int [2], .int [0]], .tup [.int [2], .int [0], .int [1]], .tup [.int [2], .int [1], .int [0]], .list true [.ref 8, .ref 9, .ref 10, .ref 11, .ref 12, .ref 13], .tup [], .list true [], .ns 14 [], .dict0, .tup [.int [0, -1, 1], .int [1], .int [0], .int [0], .ref 18], .ns 2 [some (.ref 7), some (.ref 19), some (.int [0, -1, 1]), some (.int [1]), some (.int [0]), some (.int [0]), some (.ref 18), some (.int [0]), some (.int [0]), some (.int [0]), some (.int [0]), some (.ref 6), none], .ns 3 [some (.ref 6), some (.ref 18), some (.ref 22), none, none, none, none, none], .dict0, .tup [.int [0, -1, 1], .int [1], .int [0], .int [0], .ref 22], .tup [], .list true [], .ns 14 [], .dict0, .tup [.int [0, -1, 1], .int [1], .int [0], .int [0], .ref 27], .ns 2 [some (.ref 23), some (.ref 28), some (.int [0, -1, 1]), some (.int [1]), some (.int [0]), some (.int [0]), some (.ref 27), some (.int [0, -1, 1]), some (.int [1]), some (.int [0]), some (.int [0]), some (.ref 22), none], .ns 3 [some (.ref 22), some (.ref 27), some (.ref 31), none, none, none, none, none], .dict0, .tup [.int [0, -2, 2], .int [2], .int [0], .int [0], .ref 31], .tup [.int [1]], .list true [.int [2]], .ns 14 [], .dict0, .tup [.int [0, 0, 0, -1, 1], .int [1], .int [0], .int [0], .ref 36], .ns 2 [some (.ref 32), some (.ref 37), some (.int [0, 0, 0, -1, 1]), some (.int [1]), some (.int [0]), some (.int [0]), some (.ref 36), some (.int [0, -2, 2]), some (.int [2]), some (.int [0]), some (.int [0]), some (.ref 31), none], .ns 3 [some (.ref 31), some (.ref 36), some (.ref 40), none, none, none, none, none], .dict0, .tup [.int [0, -2, 2, -1, 1], .int [3], .int [0], .int [0], .ref 40], .tup [.int [1], .int [2]], .list true [.int [2], .int [4]], .ns 14 [], .dict0, .tup [.int [0, 0, 0, 0, 0, 0, 0, -1, 1], .int [1], .int [0], .int [0], .ref 45], .ns 2 [some (.ref 41), some (.ref 46), some (.int [0, 0, 0, 0, 0, 0, 0, -1, 1]), some (.int [1]), some (.int [0]), some (.int [0]), some (.ref 45), some (.int [0, -2, 2, -1, 1]), some (.int [3]), some (.int [0]), some (.int [0]), some (.ref 40), none], .ns 3 [some (.ref 40), some (.ref 45), some (.ref 49), none, none, none, none, none], .dict0, .tup [.int [0, -2, 2, -1, 1, 0, 0, -1, 1], .int [4], .int [0], .int [0], .ref 49], .tup [.int [2]], .list true [.int [4]], .ns 14 [], .dict0, .tup [.int [0, 0, 0, 0, 0, -1, 1], .int [1], .int [0], .int [0], .ref 54], .ns 2 [some (.ref 50), some (.ref 55), some (.int [0, 0, 0, 0, 0, -1, 1]), some (.int [1]), some (.int [0]), some (.int [0]), some (.ref 54), some (.int [0, -2, 2, -1, 1, 0, 0, -1, 1]), some (.int [4]), some (.int [0]), some (.int [0]), some (.ref 49), none], .ns 3 [some (.ref 49), some (.ref 54), some (.ref 58), none, none, none, none, none], .dict0, .tup [.int [0, -2, 2, -1, 1, -1, 1, -1, 1], .int [5], .int [0], .int [0], .ref 58], .tup [.int [2], .int [1]], .list true [.int [4], .int [2]], .ns 14 [], .dict0, .tup [.int [0, 0, 0, 0, 0, 0, 0, -1, 1], .int [1], .int [0], .int [0], .ref 63], .ns 2 [some (.ref 59), some (.ref 64), some (.int [0, 0, 0, 0, 0, 0, 0, -1, 1]), some (.int [1]), some (.int [0]), some (.int [0]), some (.ref 63), some (.int [0, -2, 2, -1, 1, -1, 1, -1, 1]), some (.int [5]), some (.int [0]), some (.int [0]), some (.ref 58), none], .ns 3 [some (.ref 58), some (.ref 63), some (.ref 67), none, none, none, none, none], .dict0, .tup [.int [0, -2, 2, -1, 1, -1, 1, -2, 2], .int [6], .int [0], .int [0], .ref 67], .dict0, .tup [.int [0], .int [0], .int [0], .int [0], .ref 69], .tup [.int [0], .int [1], .int [2]], .tup [.int [0], .int [2], .int [1]], .tup [.int [1], .int [0], .int [2]], .tup [.int [1], .int [2], .int [0]], .tup [.int [2], .int [0], .int [1]], .tup [.int [2], .int [1], .int [0]], .list true [.ref 71, .ref 72, .ref 73, .ref 74, .ref 75, .ref 76], .tup [.int [0]], .list true [.int [1]], .ns 14 [], .dict0, .tup [.int [0, 0, -1, 0, 1], .int [1], .int [0], .int [0], .ref 81], .ns 2 [some (.ref 70), some (.ref 82), some (.int [0, 0, -1, 0, 1]), some (.int [1]), some (.int [0]), some (.int [0]), some (.ref 81), some (.int [0]), some (.int [0]), some (.int [0]), some (.int [0]), some (.ref 69), none], .ns 3 [some (.ref 69), some (.ref 81), some (.ref 85), none, none, none, none, none], .dict0, .tup [.int [0, 0, -1, 0, 1], .int [1], .int [0], .int [0], .ref 85], .tup [.int [0], .int [2]], .list true [.int [1], .int [4]], .ns 14 [], .dict0, .tup [.int [0, 0, 0, 0, 0, 0, -1, 0, 1], .int [1], .int [0], .int [0], .ref 90], .ns 2 [some (.ref 86), some (.ref 91), some (.int [0, 0, 0, 0, 0, 0, -1, 0, 1]), some (.int [1]), some (.int [0]), some (.int [0]), some (.ref 90), some (.int [0, 0, -1, 0, 1]), some (.int [1]), some (.int [0]), some (.int [0]), some (.ref 85), none], .ns 3 [some (.ref 85), some (.ref 90), some (.ref 94), none, none, none, none, none], .dict0, .tup [.int [0, 0, -1, 0, 1, 0, -1, 0, 1], .int [2], .int [0], .int [0], .ref 94], .tup [], .list true [], .ns 14 [], .dict0, .tup [.int [0, -1, 0, 1], .int [1], .int [0], .int [0], .ref 99], .ns 2 [some (.ref 95), some (.ref 100), some (.int [0, -1, 0, 1]), some (.int [1]), some (.int [0]), some (.int [0]), some (.ref 99), some (.int [0, 0, -1, 0, 1, 0, -1, 0, 1]), some (.int [2]), some (.int [0]), some (.int [0]), some (.ref 94), none], .ns 3 [some (.ref 94), some (.ref 99), some (.ref 103), none, none, none, none, none], .dict0, .tup [.int [0, -1, -1, 1, 1, 0, -1, 0, 1], .int [3], .int [0], .int [0], .ref 103], .tup [], .list true [], .ns 14 [], .dict0, .tup [.int [0, -1, 0, 1], .int [1], .int [0], .int [0], .ref 108], .ns 2 [some (.ref 104), some (.ref 109), some (.int [0, -1, 0, 1]), some (.int [1]), some (.int [0]), some (.int [0]), some (.ref 108), some (.int [0, -1, -1, 1, 1, 0, -1, 0, 1]), some (.int [3]), some (.int [0]), some (.int [0]), some (.ref 103), none], .ns 3 [some (.ref 103), some (.ref 108), some (.ref 112), none, none, none, none, none], .dict0, .tup [.int [0, -2, -1, 2, 1, 0, -1, 0, 1], .int [4], .int [0], .int [0], .ref 112], .tup [.int [2], .int [0]], .list true [.int [4], .int [1]], .ns 14 [], .dict0, .tup [.int [0, 0, 0, 0, 0, 0, -1, 0, 1], .int [1], .int [0], .int [0], .ref 117], .ns 2 [some (.ref 113), some (.ref 118), some (.int [0, 0, 0, 0, 0, 0, -1, 0, 1]), some (.int [1]), some (.int [0]), some (.int [0]), some (.ref 117), some (.int [0, -2, -1, 2, 1, 0, -1, 0, 1]), some (.int [4]), some (.int [0]), some (.int [0]), some (.ref 112), none], .ns 3 [some (.ref 112), some (.ref 117), some (.ref 121), none, none, none, none, none], .dict0, .tup [.int [0, -2, -1, 2, 1, 0, -2, 0, 2], .int [5], .int [0], .int [0], .ref 121], .tup [.int [2]], .list true [.int [4]], .ns 14 [], .dict0, .tup [.int [0, 0, 0, 0, 0, -1, 0, 1], .int [1], .int [0], .int [0], .ref 126], .ns 2 [some (.ref 122), some (.ref 127), some (.int [0, 0, 0, 0, 0, -1, 0, 1]), some (.int [1]), some (.int [0]), some (.int [0]), some (.ref 126), some (.int [0, -2, -1, 2, 1, 0, -2, 0, 2]), some (.int [5]), some (.int [0]), some (.int [0]), some (.ref 121), none], .ns 3 [some (.ref 121), some (.ref 126), some (.ref 130), none, none, none, none, none], .dict0, .tup [.int [0, -2, -1, 2, 1, -1, -2, 1, 2], .int [6], .int [0], .int [0], .ref 130]]
noncomputable def kA2 : AH := [.tab 0, .tab 1, .list true [.int [0, 1], .int [0, 0, 1], .int [0, 0, 0, 1], .int [0, 0, 0, 0, 1], .int [0, 0, 0, 0, 0, 1], .int [0, 0, 0, 0, 0, 0, 1], .int [0, 0, 0, 0, 0, 0, 0, 1], .int [0, 0, 0, 0, 0, 0, 0, 0, 1]], .ns 8 [some (.ref 2), some (.ref 4), some (.int [1]), some (.ref 131), some (.ref 76), some (.int [4]), none, none, none], .list true [.int [0, -2, 2, -1, 1, -1, 1, -2, 2], .int [0, -2, -1, 2, 1, -1, -2, 1, 2]], .range 0 3, .dict0, .tup [.int [0], .int [0], .int [0], .int [0], .ref 6], .tup [.int [0], .int [1], .int [2]], .tup [.int [0], .int [2], .int [1]], .tup [.int [1], .int [0], .int [2]], .tup [.int [1], .int [2], .int [0]], .tup [.int [2], .int [0], .int [1]], .tup [.int [2], .int [1], .int [0]], .list true [.ref 8, .ref 9, .ref 10, .ref 11, .ref 12, .ref 13], .tup [], .list true [], .ns 14 [], .dict0, .tup [.int [0, -1, 1], .int [1], .int [0], .int [0], .ref 18], .ns 2 [some (.ref 7), some (.ref 19), some (.int [0, -1, 1]), some (.int [1]), some (.int [0]), some (.int [0]), some (.ref 18), some (.int [0]), some (.int [0]), some (.int [0]), some (.int [0]), some (.ref 6), none], .ns 3 [some (.ref 6), some (.ref 18), some (.ref 22), none, none, none, none, none], .dict0, .tup [.int [0, -1, 1], .int [1], .int [0], .int [0], .ref 22], .tup [], .list true [], .ns 14 [], .dict0, .tup [.int [0, -1, 1], .int [1], .int [0], .int [0], .ref 27], .ns 2 [some (.ref 23), some (.ref 28), some (.int [0, -1, 1]), some (.int [1]), some (.int [0]), some (.int [0]), some (.ref 27), some (.int [0, -1, 1]), some (.int [1]), some (.int [0]), some (.int [0]), some (.ref 22), none], .ns 3 [some (.ref 22), some (.ref 27), some (.ref 31), none, none, none, none, none], .dict0, .tup [.int [0, -2, 2], .int [2], .int [0], .int [0], .ref 31], .tup [.int [1]], .list true [.int [2]], .ns 14 [], .dict0, .tup [.int [0, 0, 0, -1, 1], .int [1], .int [0], .int [0], .ref 36], .ns 2 [some (.ref 32), some (.ref 37), some (.int [0, 0, 0, -1, 1]), some (.int [1]), some (.int [0]), some (.int [0]), some (.ref 36), some (.int [0, -2, 2]), some (.int [2]), some (.int [0]), some (.int [0]), some (.ref 31), none], .ns 3 [some (.ref 31), some (.ref 36), some (.ref 40), none, none, none, none, none], .dict0, .tup [.int [0, -2, 2, -1, 1], .int [3], .int [0], .int [0], .ref 40], .tup [.int [1], .int [2]], .list true [.int [2], .int [4]], .ns 14 [], .dict0, .tup [.int [0, 0, 0, 0, 0, 0, 0, -1, 1], .int [1], .int [0], .int [0], .ref 45], .ns 2 [some (.ref 41), some (.ref 46), some (.int [0, 0, 0, 0, 0, 0, 0, -1, 1]), some (.int [1]), some (.int [0]), some (.int [0]), some (.ref 45), some (.int [0, -2, 2, -1, 1]), some (.int [3]), some (.int [0]), some (.int [0]), some (.ref 40), none], .ns 3 [some (.ref 40), some (.ref 45), some (.ref 49), none, none, none, none, none], .dict0, .tup [.int [0, -2, 2, -1, 1, 0, 0, -1, 1], .int [4], .int [0], .int [0], .ref 49], .tup [.int [2]], .list true [.int [4]], .ns 14 [], .dict0, .tup [.int [0, 0, 0, 0, 0, -1, 1], .int [1], .int [0], .int [0], .ref 54], .ns 2 [some (.ref 50), some (.ref 55), some (.int [0, 0, 0, 0, 0, -1, 1]), some (.int [1]), some (.int [0]), some (.int [0]), some (.ref 54), some (.int [0, -2, 2, -1, 1, 0, 0, -1, 1]), some (.int [4]), some (.int [0]), some (.int [0]), some (.ref 49), none], .ns 3 [some (.ref 49), some (.ref 54), some (.ref 58), none, none, none, none, none], .dict0, .tup [.int [0, -2, 2, -1, 1, -1, 1, -1, 1], .int [5], .int [0], .int [0], .ref 58], .tup [.int [2], .int [1]], .list true [.int [4], .int [2]], .ns 14 [], .dict0, .tup [.int [0, 0, 0, 0, 0, 0, 0, -1, 1], .int [1], .int [0], .int [0], .ref 63], .ns 2 [some (.ref 59), some (.ref 64), some (.int [0, 0, 0, 0, 0, 0, 0, -1, 1]), some (.int [1]), some (.int [0]), some (.int [0]), some (.ref 63), some (.int [0, -2, 2, -1, 1, -1, 1, -1, 1]), some (.int [5]), some (.int [0]), some (.int [0]), some (.ref 58), none], .ns 3 [some (.ref 58), some (.ref 63), some (.ref 67), none, none, none, none, none], .dict0, .tup [.int [0, -2, 2, -1, 1, -1, 1, -2, 2], .int [6], .int [0], .int [0], .ref 67], .dict0, .tup [.int [0], .int [0], .int [0], .int [0], .ref 69], .tup [.int [0], .int [1], .int [2]], .tup [.int [0], .int [2], .int [1]], .tup [.int [1], .int [0], .int [2]], .tup [.int [1], .int [2], .int [0]], .tup [.int [2], .int [0], .int [1]], .tup [.int [2], .int [1], .int [0]], .list true [.ref 71, .ref 72, .ref 73, .ref 74, .ref 75, .ref 76], .tup [.int [0]], .list true [.int [1]], .ns 14 [], .dict0, .tup [.int [0, 0, -1, 0, 1], .int [1], .int [0], .int [0], .ref 81], .ns 2 [some (.ref 70), some (.ref 82), some (.int [0, 0, -1, 0, 1]), some (.int [1]), some (.int [0]), some (.int [0]), some (.ref 81), some (.int [0]), some (.int [0]), some (.int [0]), some (.int [0]), some (.ref 69), none], .ns 3 [some (.ref 69), some (.ref 81), some (.ref 85), none, none, none, none, none], .dict0, .tup [.int [0, 0, -1, 0, 1], .int [1], .int [0], .int [0], .ref 85], .tup [.int [0], .int [2]], .list true [.int [1], .int [4]], .ns 14 [], .dict0, .tup [.int [0, 0, 0, 0, 0, 0, -1, 0, 1], .int [1], .int [0], .int [0], .ref 90], .ns 2 [some (.ref 86), some (.ref 91), some (.int [0, 0, 0, 0, 0, 0, -1, 0, 1]), some (.int [1]), some (.int [0]), some (.int [0]), some (.ref 90), some (.int [0, 0, -1, 0, 1]), some (.int [1]), some (.int [0]), some (.int [0]), some (.ref 85), none], .ns 3 [some (.ref 85), some (.ref 90), some (.ref 94), none, none, none, none, none], .dict0, .tup [.int [0, 0, -1, 0, 1, 0, -1, 0, 1], .int [2], .int [0], .int [0], .ref 94], .tup [], .list true [], .ns 14 [], .dict0, .tup [.int [0, -1, 0, 1], .int [1], .int [0], .int [0], .ref 99], .ns 2 [some (.ref 95), some (.ref 100), some (.int [0, -1, 0, 1]), some (.int [1]), some (.int [0]), some (.int [0]), some (.ref 99), some (.int [0, 0, -1, 0, 1, 0, -1, 0, 1]), some (.int [2]), some (.int [0]), some (.int [0]), some (.ref 94), none], .ns 3 [some (.ref 94), some (.ref 99), some (.ref 103), none, none, none, none, none], .dict0, .tup [.int [0, -1, -1, 1, 1, 0, -1, 0, 1], .int [3], .int [0], .int [0], .ref 103], .tup [], .list true [], .ns 14 [], .dict0, .tup [.int [0, -1, 0, 1], .int [1], .int [0], .int [0], .ref 108], .ns 2 [some (.ref 104), some (.ref 109), some (.int [0, -1, 0, 1]), some (.int [1]), some (.int [0]), some (.int [0]), some (.ref 108), some (.int [0, -1, -1, 1, 1, 0, -1, 0, 1]), some (.int [3]), some (.int [0]), some (.int [0]), some (.ref 103), none], .ns 3 [some (.ref 103), some (.ref 108), some (.ref 112), none, none, none, none, none], .dict0, .tup [.int [0, -2, -1, 2, 1, 0, -1, 0, 1], .int [4], .int [0], .int [0], .ref 112], .tup [.int [2], .int [0]], .list true [.int [4], .int [1]], .ns 14 [], .dict0, .tup [.int [0, 0, 0, 0, 0, 0, -1, 0, 1], .int [1], .int [0], .int [0], .ref 117], .ns 2 [some (.ref 113), some (.ref 118), some (.int [0, 0, 0, 0, 0, 0, -1, 0, 1]), some (.int [1]), some (.int [0]), some (.int [0]), some (.ref 117), some (.int [0, -2, -1, 2, 1, 0, -1, 0, 1]), some (.int [4]), some (.int [0]), some (.int [0]), some (.ref 112), none], .ns 3 [some (.ref 112), some (.ref 117), some (.ref 121), none, none, none, none, none], .dict0, .tup [.int [0, -2, -1, 2, 1, 0, -2, 0, 2], .int [5], .int [0], .int [0], .ref 121], .tup [.int [2]], .list true [.int [4]], .ns 14 [], .dict0, .tup [.int [0, 0, 0, 0, 0, -1, 0, 1], .int [1], .int [0], .int [0], .ref 126], .ns 2 [some (.ref 122), some (.ref 127), some (.int [0, 0, 0, 0, 0, -1, 0, 1]), some (.int [1]), some (.int [0]), some (.int [0]), some (.ref 126), some (.int [0, -2, -1, 2, 1, 0, -2, 0, 2]), some (.int [5]), some (.int [0]), some (.int [0]), some (.ref 121), none], .ns 3 [some (.ref 121), some (.ref 126), some (.ref 130), none, none, none, none, none], .dict0, .tup [.int [0, -2, -1, 2, 1, -1, -2, 1, 2], .int [6], .int [0], .int [0], .ref 130]]
noncomputable def pA1 : AH := outO (bindT e80 kA1 (.one (.loc 2)) (.one (.int [1])))
noncomputable def qA1 : AH := outH (run P2 55 (.B e80 (b80.take 1)) pA1)
theorem x80_1p : bindT e80 kA1 (.one (.loc 2)) (.one (.int [1])) = some pA1 := by kernel_rfl
theorem x80_1q : run P2 55 (.B e80 (b80.take 1)) pA1 = some (.nx, qA1) := by kernel_rfl
theorem x80_1s : run P2 52 (.E e80 (forSrc b80 1)) qA1 = some (.v (.ref 77), sA1) := by kernel_rfl
theorem x80_10 : (bO (bindT e80 sA1 (.one (.loc 4)) (.one (.ref 71))) fun H1 => run P2 51 (.B e80 i80) H1) = some (.nx, tA10) := by kernel_rfl
theorem x80_11 : (bO (bindT e80 tA10 (.one (.loc 4)) (.one (.ref 72))) fun H1 => run P2 50 (.B e80 i80) H1) = some (.nx, tA11) := by kernel_rfl
theorem x80_12 : (bO (bindT e80 tA11 (.one (.loc 4)) (.one (.ref 73))) fun H1 => run P2 49 (.B e80 i80) H1) = some (.nx, tA12) := by kernel_rfl
theorem x80_13 : (bO (bindT e80 tA12 (.one (.loc 4)) (.one (.ref 74))) fun H1 => run P2 48 (.B e80 i80) H1) = some (.nx, tA13) := by kernel_rfl
theorem x80_14 : (bO (bindT e80 tA13 (.one (.loc 4)) (.one (.ref 75))) fun H1 => run P2 47 (.B e80 i80) H1) = some (.nx, tA14) := by kernel_rfl
theorem x80_15 : (bO (bindT e80 tA14 (.one (.loc 4)) (.one (.ref 76))) fun H1 => run P2 46 (.B e80 i80) H1) = some (.nx, tA15) := by kernel_rfl
theorem x80_1e : run P2 53 (.B e80 (b80.drop 2)) tA15 = some (.nx, kA2) := by kernel_rfl
theorem r80_1 : (bO (bindT e80 kA1 (.one (.loc 2)) (.one (.int [1]))) fun H1 => run P2 55 (.B e80 b80) H1) = some (.nx, kA2) := by
  refine bO_go x80_1p ?_
  rw [← List.take_append_drop 1 b80]
  refine (B_app (n := 53) (b80.take 1) x80_1q).trans ?_
  rw [c80]
  refine (B_cons (n := 53) (H1 := tA15) ?_).trans x80_1e
  refine (S_for (n := 52) (so := .list 77) x80_1s (by kernel_rfl)).trans ?_
  refine (F_turn (n := 51) (by kernel_rfl) x80_10).trans ?_
  refine (F_turn (n := 50) (by kernel_rfl) x80_11).trans ?_
  refine (F_turn (n := 49) (by kernel_rfl) x80_12).trans ?_
  refine (F_turn (n := 48) (by kernel_rfl) x80_13).trans ?_
  refine (F_turn (n := 47) (by kernel_rfl) x80_14).trans ?_
  refine (F_turn (n := 46) (by kernel_rfl) x80_15).trans ?_
  exact F_end (n := 45) (by kernel_rfl)
noncomputable def sA2 : AH := [.tab 0, .tab 1, .list true [.int [0, 1], .int [0, 0, 1], .int [0, 0, 0, 1], .int [0, 0, 0, 0, 1], .int [0, 0, 0, 0, 0, 1], .int [0, 0, 0, 0, 0, 0, 1], .int [0, 0, 0, 0, 0, 0, 0, 1], .int [0, 0, 0, 0, 0, 0, 0, 0, 1]], .ns 8 [some (.ref 2), some (.ref 4), some (.int [2]), some (.ref 133), some (.ref 76), some (.int [4]), none, none, none], .list true [.int [0, -2, 2, -1, 1, -1, 1, -2, 2], .int [0, -2, -1, 2, 1, -1, -2, 1, 2]], .range 0 3, .dict0, .tup [.int [0], .int [0], .int [0], .int [0], .ref 6], .tup [.int [0], .int [1], .int [2]], .tup [.int [0], .int [2], .int [1]], .tup [.int [1], .int [0], .int [2]], .tup [.int [1], .int [2], .int [0]], .tup [.int [2], .int [0], .int [1]], .tup [.int [2], .int [1], .int [0]], .list true [.ref 8, .ref 9, .ref 10, .ref 11, .ref 12, .ref 13], .tup [], .list true [], .ns 14 [], .dict0, .tup [.int [0, -1, 1], .int [1], .int [0], .int [0], .ref 18], .ns 2 [some (.ref 7), some (.ref 19), some (.int [0, -1, 1]), some (.int [1]), some (.int [0]), some (.int [0]), some (.ref 18), some (.int [0]), some (.int [0]), some (.int [0]), some (.int [0]), some (.ref 6), none], .ns 3 [some (.ref 6), some (.ref 18), some (.ref 22), none, none, none, none, none], .dict0, .tup [.int [0, -1, 1], .int [1], .int [0], .int [0], .ref 22], .tup [], .list true [], .ns 14 [], .dict0, .tup [.int [0, -1, 1], .int [1], .int [0], .int [0], .ref 27], .ns 2 [some (.ref 23), some (.ref 28), some (.int [0, -1, 1]), some (.int [1]), some (.int [0]), some (.int [0]), some (.ref 27), some (.int [0, -1, 1]), some (.int [1]), some (.int [0]), some (.int [0]), some (.ref 22), none], .ns 3 [some (.ref 22), some (.ref 27), some (.ref 31), none, none, none, none, none], .dict0, .tup [.int [0, -2, 2], .int [2], .int [0], .int [0], .ref 31], .tup [.int [1]], .list true [.int [2]], .ns 14 [], .dict0, .tup [.int [0, 0, 0, -1, 1], .int [1], .int [0], .int [0], .ref 36], .ns 2 [some (.ref 32), some (.ref 37), some (.int [0, 0, 0, -1, 1]), some (.int [1]), some (.int [0]), some (.int [0]), some (.ref 36), some (.int [0, -2, 2]), some (.int [2]), some (.int [0]), some (.int [0]), some (.ref 31), none], .ns 3 [some (.ref 31), some (.ref 36), some (.ref 40), none, none, none, none, none], .dict0, .tup [.int [0, -2, 2, -1, 1], .int [3], .int [0], .int [0], .ref 40], .tup [.int [1], .int [2]], .list true [.int [2], .int [4]], .ns 14 [], .dict0, .tup [.int [0, 0, 0, 0, 0, 0, 0, -1, 1], .int [1], .int [0], .int [0], .ref 45], .ns 2 [some (.ref 41), some (.ref 46), some (.int [0, 0, 0, 0, 0, 0, 0, -1, 1]), some (.int [1]), some (.int [0]), some (.int [0]), some (.ref 45), some (.int [0, -2, 2, -1, 1]), some (.int [3]), some (.int [0]), some (.int [0]), some (.ref 40), none], .ns 3 [some (.ref 40), some (.ref 45), some (.ref 49), none, none, none, none, none], .dict0, .tup [.int [0, -2, 2, -1, 1, 0, 0, -1, 1], .int [4], .int [0], .int [0], .ref 49], .tup [.int [2]], .list true [.int [4]], .ns 14 [], .dict0, .tup [.int [0, 0, 0, 0, 0, -1, 1], .int [1], .int [0], .int [0], .ref 54], .ns 2 [some (.ref 50), some (.ref 55), some (.int [0, 0, 0, 0, 0, -1, 1]), some (.int [1]), some (.int [0]), some (.int [0]), some (.ref 54), some (.int [0, -2, 2, -1, 1, 0, 0, -1, 1]), some (.int [4]), some (.int [0]), some (.int [0]), some (.ref 49), none], .ns 3 [some (.ref 49), some (.ref 54), some (.ref 58), none, none, none, none, none], .dict0, .tup [.int [0, -2, 2, -1, 1, -1, 1, -1, 1], .int [5], .int [0], .int [0], .ref 58], .tup [.int [2], .int [1]], .list true [.int [4], .int [2]], .ns 14 [], .dict0, .tup [.int [0, 0, 0, 0, 0, 0, 0, -1, 1], .int [1], .int [0], .int [0], .ref 63], .ns 2 [some (.ref 59), some (.ref 64), some (.int [0, 0, 0, 0, 0, 0, 0, -1, 1]), some (.int [1]), some (.int [0]), some (.int [0]), some (.ref 63), some (.int [0, -2, 2, -1, 1, -1, 1, -1, 1]), some (.int [5]), some (.int [0]), some (.int [0]), some (.ref 58), none], .ns 3 [some (.ref 58), some (.ref 63), some (.ref 67), none, none, none, none, none], .dict0, .tup [.int [0, -2, 2, -1, 1, -1, 1, -2, 2], .int [6], .int [0], .int [0], .ref 67], .dict0, .tup [.int [0], .int [0], .int [0], .int [0], .ref 69], .tup [.int [0], .int [1], .int [2]], .tup [.int [0], .int [2], .int [1]], .tup [.int [1], .int [0], .int [2]], .tup [.int [1], .int [2], .int [0]], .tup [.int [2], .int [0], .int [1]], .tup [.int [2], .int [1], .int [0]], .list true [.ref 71, .ref 72, .ref 73, .ref 74, .ref 75, .ref 76], .tup [.int [0]], .list true [.int [1]], .ns 14 [], .dict0, .tup [.int [0, 0, -1, 0, 1], .int [1], .int [0], .int [0], .ref 81], .ns 2 [some (.ref 70), some (.ref 82), some (.int [0, 0, -1, 0, 1]), some (.int [1]), some (.int [0]), some (.int [0]), some (.ref 81), some (.int [0]), some (.int [0]), some (.int [0]), some (.int [0]), some (.ref 69), none], .ns 3 [some (.ref 69), some (.ref 81), some (.ref 85), none, none, none, none, none], .dict0, .tup [.int [0, 0, -1, 0, 1], .int [1], .int [0], .int [0], .ref 85], .tup [.int [0], .int [2]], .list true [.int [1], .int [4]], .ns 14 [], .dict0, .tup [.int [0, 0, 0, 0, 0, 0, -1, 0, 1], .int [1], .int [0], .int [0], .ref 90], .ns 2 [some (.ref 86), some (.ref 91), some (.int [0, 0, 0, 0, 0, 0, -1, 0, 1]), some (.int [1]), some (.int [0]), some (.int [0]), some (.ref 90), some (.int [0, 0, -1, 0, 1]), some (.int [1]), some (.int [0]), some (.int [0]), some (.ref 85), none], .ns 3 [some (.ref 85), some (.ref 90), some (.ref 94), none, none, none, none, none], .dict0, .tup [.int [0, 0, -1, 0, 1, 0, -1, 0, 1], .int [2], .int [0], .int [0], .ref 94], .tup [], .list true [], .ns 14 [], .dict0, .tup [.int [0, -1, 0, 1], .int [1], .int [0], .int [0], .ref 99], .ns 2 [some (.ref 95), some (.ref 100), some (.int [0, -1, 0, 1]), some (.int [1]), some (.int [0]), some (.int [0]), some (.ref 99), some (.int [0, 0, -1, 0, 1, 0, -1, 0, 1]), some (.int [2]), some (.int [0]), some (.int [0]), some (.ref 94), none], .ns 3 [some (.ref 94), some (.ref 99), some (.ref 103), none, none, none, none, none], .dict0, .tup [.int [0, -1, -1, 1, 1, 0, -1, 0, 1], .int [3], .int [0], .int [0], .ref 103], .tup [], .list true [], .ns 14 [], .dict0, .tup [.int [0, -1, 0, 1], .int [1], .int [0], .int [0], .ref 108], .ns 2 [some (.ref 104), some (.ref 109), some (.int [0, -1, 0, 1]), some (.int [1]), some (.int [0]), some (.int [0]), some (.ref 108), some (.int [0, -1, -1, 1, 1, 0, -1, 0, 1]), some (.int [3]), some (.int [0]), some (.int [0]), some (.ref 103), none], .ns 3 [some (.ref 103), some (.ref 108), some (.ref 112), none, none, none, none, none], .dict0, .tup [.int [0, -2, -1, 2, 1, 0, -1, 0, 1], .int [4], .int [0], .int [0], .ref 112], .tup [.int [2], .int [0]], .list true [.int [4], .int [1]], .ns 14 [], .dict0, .tup [.int [0, 0, 0, 0, 0, 0, -1, 0, 1], .int [1], .int [0], .int [0], .ref 117], .ns 2 [some (.ref 113), some (.ref 118), some (.int [0, 0, 0, 0, 0, 0, -1, 0, 1]), some (.int [1]), some (.int [0]), some (.int [0]), some (.ref 117), some (.int [0, -2, -1, 2, 1, 0, -1, 0, 1]), some (.int [4]), some (.int [0]), some (.int [0]), some (.ref 112), none], .ns 3 [some (.ref 112), some (.ref 117), some (.ref 121), none, none, none, none, none], .dict0, .tup [.int [0, -2, -1, 2, 1, 0, -2, 0, 2], .int [5], .int [0], .int [0], .ref 121], .tup [.int [2]], .list true [.int [4]], .ns 14 [], .dict0, .tup [.int [0, 0, 0, 0, 0, -1, 0, 1], .int [1], .int [0], .int [0], .ref 126], .ns 2 [some (.ref 122), some (.ref 127), some (.int [0, 0, 0, 0, 0, -1, 0, 1]), some (.int [1]), some (.int [0]), some (.int [0]), some (.ref 126), some (.int [0, -2, -1, 2, 1, 0, -2, 0, 2]), some (.int [5]), some (.int [0]), some (.int [0]), some (.ref 121), none], .ns 3 [some (.ref 121), some (.ref 126), some (.ref 130), none, none, none, none, none], .dict0, .tup [.int [0, -2, -1, 2, 1, -1, -2, 1, 2], .int [6], .int [0], .int [0], .ref 130], .dict0, .tup [.int [0], .int [0], .int [0], .int [0], .ref 132], .tup [.int [0], .int [1], .int [2]], .tup [.int [0], .int [2], .int [1]], .tup [.int [1], .int [0], .int [2]], .tup [.int [1], .int [2], .int [0]], .tup [.int [2], .int [0], .int [1]], .tup [.int [2], .int [1], .int [0]], .list true [.ref 134, .ref 135, .ref 136, .ref 137, .ref 138, .ref 139]]
noncomputable def tA20 : AH := [.tab 0, .tab 1, .list true [.int [0, 1], .int [0, 0, 1], .int [0, 0, 0, 1], .int [0, 0, 0, 0, 1], .int [0, 0, 0, 0, 0, 1], .int [0, 0, 0, 0, 0, 0, 1], .int [0, 0, 0, 0, 0, 0, 0, 1], .int [0, 0, 0, 0, 0, 0, 0, 0, 1]], .ns 8 [some (.ref 2), some (.ref 4), some (.int [2]), some (.ref 149), some (.ref 134), some (.int [3]), none, none, none], .list true [.int [0, -2, 2, -1, 1, -1, 1, -2, 2], .int [0, -2, -1, 2, 1, -1, -2, 1, 2]], .range 0 3, .dict0, .tup [.int [0], .int [0], .int [0], .int [0], .ref 6], .tup [.int [0], .int [1], .int [2]], .tup [.int [0], .int [2], .int [1]], .tup [.int [1], .int [0], .int [2]], .tup [.int [1], .int [2], .int [0]], .tup [.int [2], .int [0], .int [1]], .tup [.int [2], .int [1], .int [0]], .list true [.ref 8, .ref 9, .ref 10, .ref 11, .ref 12, .ref 13], .tup [], .list true [], .ns 14 [], .dict0, .tup [.int [0, -1, 1], .int [1], .int [0], .int [0], .ref 18], .ns 2 [some (.ref 7), some (.ref 19), some (.int [0, -1, 1]), some (.int [1]), some (.int [0]), some (.int [0]), some (.ref 18), some (.int [0]), some (.int [0]), some (.int [0]), some (.int [0]), some (.ref 6), none], .ns 3 [some (.ref 6), some (.ref 18), some (.ref 22), none, none, none, none, none], .dict0, .tup [.int [0, -1, 1], .int [1], .int [0], .int [0], .ref 22], .tup [], .list true [], .ns 14 [], .dict0, .tup [.int [0, -1, 1], .int [1], .int [0], .int [0], .ref 27], .ns 2 [some (.ref 23), some (.ref 28), some (.int [0, -1, 1]), some (.int [1]), some (.int [0]), some (.int [0]), some (.ref 27), some (.int [0, -1, 1]), some (.int [1]), some (.int [0]), some (.int [0]), some (.ref 22), none], .ns 3 [some (.ref 22), some (.ref 27), some (.ref 31), none, none, none, none, none], .dict0, .tup [.int [0, -2, 2], .int [2], .int [0], .int [0], .ref 31], .tup [.int [1]], .list true [.int [2]], .ns 14 [], .dict0, .tup [.int [0, 0, 0, -1, 1], .int [1], .int [0], .int [0], .ref 36], .ns 2 [some (.ref 32), some (.ref 37), some (.int [0, 0, 0, -1, 1]), some (.int [1]), some (.int [0]), some (.int [0]), some (.ref 36), some (.int [0, -2, 2]), some (.int [2]), some (.int [0]), some (.int [0]), some (.ref 31), none], .ns 3 [some (.ref 31), some (.ref 36), some (.ref 40), none, none, none, none, none], .dict0, .tup [.int [0, -2, 2, -1, 1], .int [3], .int [0], .int [0], .ref 40], .tup [.int [1], .int [2]], .list true [.int [2], .int [4]], .ns 14 [], .dict0, .tup [.int [0, 0, 0, 0, 0, 0, 0, -1, 1], .int [1], .int [0], .int [0], .ref 45], .ns 2 [some (.ref 41), some (.ref 46), some (.int [0, 0, 0, 0, 0, 0, 0, -1, 1]), some (.int [1]), some (.int [0]), some (.int [0]), some (.ref 45), some (.int [0, -2, 2, -1, 1]), some (.int [3]), some (.int [0]), some (.int [0]), some (.ref 40), none], .ns 3 [some (.ref 40), some (.ref 45), some (.ref 49), none, none, none, none, none], .dict0, .tup [.int [0, -2, 2, -1, 1, 0, 0, -1, 1], .int [4], .int [0], .int [0], .ref 49], .tup [.int [2]], .list true [.int [4]], .ns 14 [], .dict0, .tup [.int [0, 0, 0, 0, 0, -1, 1], .int [1], .int [0], .int [0], .ref 54], .ns 2 [some (.ref 50), some (.ref 55), some (.int [0, 0, 0, 0, 0, -1, 1]), some (.int [1]), some (.int [0]), some (.int [0]), some (.ref 54), some (.int [0, -2, 2, -1, 1, 0, 0, -1, 1]), some (.int [4]), some (.int [0]), some (.int [0]), some (.ref 49), none], .ns 3 [some (.ref 49), some (.ref 54), some (.ref 58), none, none, none, none, none], .dict0, .tup [.int [0, -2, 2, -1, 1, -1, 1, -1, 1], .int [5], .int [0], .int [0], .ref 58], .tup [.int [2], .int [1]], .list true [.int [4], .int [2]], .ns 14 [], .dict0, .tup [.int [0, 0, 0, 0, 0, 0, 0, -1, 1], .int [1], .int [0], .int [0], .ref 63], .ns 2 [some (.ref 59), some (.ref 64), some (.int [0, 0, 0, 0, 0, 0, 0, -1, 1]), some (.int [1]), some (.int [0]), some (.int [0]), some (.ref 63), some (.int [0, -2, 2, -1, 1, -1, 1, -1, 1]), some (.int [5]), some (.int [0]), some (.int [0]), some (.ref 58), none], .ns 3 [some (.ref 58), some (.ref 63), some (.ref 67), none, none, none, none, none], .dict0, .tup [.int [0, -2, 2, -1, 1, -1, 1, -2, 2], .int [6], .int [0], .int [0], .ref 67], .dict0, .tup [.int [0], .int [0], .int [0], .int [0], .ref 69], .tup [.int [0], .int [1], .int [2]], .tup [.int [0], .int [2], .int [1]], .tup [.int [1], .int [0], .int [2]], .tup [.int [1], .int [2], .int [0]], .tup [.int [2], .int [0], .int [1]], .tup [.int [2], .int [1], .int [0]], .list true [.ref 71, .ref 72, .ref 73, .ref 74, .ref 75, .ref 76], .tup [.int [0]], .list true [.int [1]], .ns 14 [], .dict0, .tup [.int [0, 0, -1, 0, 1], .int [1], .int [0], .int [0], .ref 81], .ns 2 [some (.ref 70), some (.ref 82), some (.int [0, 0, -1, 0, 1]), some (.int [1]), some (.int [0]), some (.int [0]), some (.ref 81), some (.int [0]), some (.int [0]), some (.int [0]), some (.int [0]), some (.ref 69), none], .ns 3 [some (.ref 69), some (.ref 81), some (.ref 85), none, none, none, none, none], .dict0, .tup [.int [0, 0, -1, 0, 1], .int [1], .int [0], .int [0], .ref 85], .tup [.int [0], .int [2]], .list true [.int [1], .int [4]], .ns 14 [], .dict0, .tup [.int [0, 0, 0, 0, 0, 0, -1, 0, 1], .int [1], .int [0], .int [0], .ref 90], .ns 2 [some (.ref 86), some (.ref 91), some (.int [0, 0, 0, 0, 0, 0, -1, 0, 1]), some (.int [1]), some (.int [0]), some (.int [0]), some (.ref 90), some (.int [0, 0, -1, 0, 1]), some (.int [1]), some (.int [0]), some (.int [0]), some (.ref 85), none], .ns 3 [some (.ref 85), some (.ref 90), some (.ref 94), none, none, none, none, none], .dict0, .tup [.int [0, 0, -1, 0, 1, 0, -1, 0, 1], .int [2], .int [0], .int [0], .ref 94], .tup [], .list true [], .ns 14 [], .dict0, .tup [.int [0, -1, 0, 1], .int [1], .int [0], .int [0], .ref 99], .ns 2 [some (.ref 95), some (.ref 100), some (.int [0, -1, 0, 1]), some (.int [1]), some (.int [0]), some (.int [0]), some (.ref 99), some (.int [0, 0, -1, 0, 1, 0, -1, 0, 1]), some (.int [2]), some (.int [0]), some (.int [0]), some (.ref 94), none], .ns 3 [some (.ref 94), some (.ref 99), some (.ref 103), none, none, none, none, none], .dict0, .tup [.int [0, -1, -1, 1, 1, 0, -1, 0, 1], .int [3], .int [0], .int [0], .ref 103], .tup [], .list true [], .ns 14 [], .dict0, .tup [.int [0, -1, 0, 1], .int [1], .int [0], .int [0], .ref 108], .ns 2 [some (.ref 104), some (.ref 109), some (.int [0, -1, 0, 1]), some (.int [1]), some (.int [0]), some (.int [0]), some (.ref 108), some (.int [0, -1, -1, 1, 1, 0, -1, 0, 1]), some (.int [3]), some (.int [0]), some (.int [0]), some (.ref 103), none], .ns 3 [some (.ref 103), some (.ref 108), some (.ref 112), none, none, none, none, none], .dict0, .tup [.int [0, -2, -1, 2, 1, 0, -1, 0, 1], .int [4], .int [0], .int [0], .ref 112], .tup [.int [2], .int [0]], .list true [.int [4], .int [1]], .ns 14 [], .dict0, .tup [.int [0, 0, 0, 0, 0, 0, -1, 0, 1], .int [1], .int [0], .int [0], .ref 117], .ns 2 [some (.ref 113), some (.ref 118), some (.int [0, 0, 0, 0, 0, 0, -1, 0, 1]), some (.int [1]), some (.int [0]), some (.int [0]), some (.ref 117), some (.int [0, -2, -1, 2, 1, 0, -1, 0, 1]), some (.int [4]), some (.int [0]), some (.int [0]), some (.ref 112), none], .ns 3 [some (.ref 112), some (.ref 117), some (.ref 121), none, none, none, none, none], .dict0, .tup [.int [0, -2, -1, 2, 1, 0, -2, 0, 2], .int [5], .int [0], .int [0], .ref 121], .tup [.int [2]], .list true [.int [4]], .ns 14 [], .dict0, .tup [.int [0, 0, 0, 0, 0, -1, 0, 1], .int [1], .int [0], .int [0], .ref 126], .ns 2 [some (.ref 122), some (.ref 127), some (.int [0, 0, 0, 0, 0, -1, 0, 1]), some (.int [1]), some (.int [0]), some (.int [0]), some (.ref 126), some (.int [0, -2, -1, 2, 1, 0, -2, 0, 2]), some (.int [5]), some (.int [0]), some (.int [0]), some (.ref 121), none], .ns 3 [some (.ref 121), some (.ref 126), some (.ref 130), none, none, none, none, none], .dict0, .tup [.int [0, -2, -1, 2, 1, -1, -2, 1, 2], .int [6], .int [0], .int [0], .ref 130], .dict0, .tup [.int [0], .int [0], .int [0], .int [0], .ref 132], .tup [.int [0], .int [1], .int [2]], .tup [.int [0], .int [2], .int [1]], .tup [.int [1], .int [0], .int [2]], .tup [.int [1], .int [2], .int [0]], .tup [.int [2], .int [0], .int [1]], .tup [.int [2], .int [1], .int [0]], .list true [.ref 134, .ref 135, .ref 136, .ref 137, .ref 138, .ref 139], .tup [.int [0], .int [1]], .list true [.int [1], .int [2]], .ns 14 [], .dict0, .tup [.int [0, 0, 0, 0, -1, 0, 0, 0, 1], .int [1], .int [0], .int [0], .ref 144], .ns 2 [some (.ref 133), some (.ref 145), some (.int [0, 0, 0, 0, -1, 0, 0, 0, 1]), some (.int [1]), some (.int [0]), some (.int [0]), some (.ref 144), some (.int [0]), some (.int [0]), some (.int [0]), some (.int [0]), some (.ref 132), none], .ns 3 [some (.ref 132), some (.ref 144), some (.ref 148), none, none, none, none, none], .dict0, .tup [.int [0, 0, 0, 0, -1, 0, 0, 0, 1], .int [1], .int [0], .int [0], .ref 148]]
noncomputable def tA21 : AH := [.tab 0, .tab 1, .list true [.int [0, 1], .int [0, 0, 1], .int [0, 0, 0, 1], .int [0, 0, 0, 0, 1], .int [0, 0, 0, 0, 0, 1], .int [0, 0, 0, 0, 0, 0, 1], .int [0, 0, 0, 0, 0, 0, 0, 1], .int [0, 0, 0, 0, 0, 0, 0, 0, 1]], .ns 8 [some (.ref 2), some (.ref 4), some (.int [2]), some (.ref 158), some (.ref 135), some (.int [1]), none, none, none], .list true [.int [0, -2, 2, -1, 1, -1, 1, -2, 2], .int [0, -2, -1, 2, 1, -1, -2, 1, 2]], .range 0 3, .dict0, .tup [.int [0], .int [0], .int [0], .int [0], .ref 6], .tup [.int [0], .int [1], .int [2]], .tup [.int [0], .int [2], .int [1]], .tup [.int [1], .int [0], .int [2]], .tup [.int [1], .int [2], .int [0]], .tup [.int [2], .int [0], .int [1]], .tup [.int [2], .int [1], .int [0]], .list true [.ref 8, .ref 9, .ref 10, .ref 11, .ref 12, .ref 13], .tup [], .list true [], .ns 14 [], .dict0, .tup [.int [0, -1, 1], .int [1], .int [0], .int [0], .ref 18], .ns 2 [some (.ref 7), some (.ref 19), some (.int [0, -1, 1]), some (.int [1]), some (.int [0]), some (.int [0]), some (.ref 18), some (.int [0]), some (.int [0]), some (.int [0]), some (.int [0]), some (.ref 6), none], .ns 3 [some (.ref 6), some (.ref 18), some (.ref 22), none, none, none, none, none], .dict0, .tup [.int [0, -1, 1], .int [1], .int [0], .int [0], .ref 22], .tup [], .list true [], .ns 14 [], .dict0, .tup [.int [0, -1, 1], .int [1], .int [0], .int [0], .ref 27], .ns 2 [some (.ref 23), some (.ref 28), some (.int [0, -1, 1]), some (.int [1]), some (.int [0]), some (.int [0]), some (.ref 27), some (.int [0, -1, 1]), some (.int [1]), some (.int [0]), some (.int [0]), some (.ref 22), none], .ns 3 [some (.ref 22), some (.ref 27), some (.ref 31), none, none, none, none, none], .dict0, .tup [.int [0, -2, 2], .int [2], .int [0], .int [0], .ref 31], .tup [.int [1]], .list true [.int [2]], .ns 14 [], .dict0, .tup [.int [0, 0, 0, -1, 1], .int [1], .int [0], .int [0], .ref 36], .ns 2 [some (.ref 32), some (.ref 37), some (.int [0, 0, 0, -1, 1]), some (.int [1]), some (.int [0]), some (.int [0]), some (.ref 36), some (.int [0, -2, 2]), some (.int [2]), some (.int [0]), some (.int [0]), some (.ref 31), none], .ns 3 [some (.ref 31), some (.ref 36), some (.ref 40), none, none, none, none, none], .dict0, .tup [.int [0, -2, 2, -1, 1], .int [3], .int [0], .int [0], .ref 40], .tup [.int [1], .int [2]], .list true [.int [2], .int [4]], .ns 14 [], .dict0, .tup [.int [0, 0, 0, 0, 0, 0, 0, -1, 1], .int [1], .int [0], .int [0], .ref 45], .ns 2 [some (.ref 41), some (.ref 46), some (.int [0, 0, 0, 0, 0, 0, 0, -1, 1]), some (.int [1]), some (.int [0]), some (.int [0]), some (.ref 45), some (.int [0, -2, 2, -1, 1]), some (.int [3]), some (.int [0]), some (.int [0]), some (.ref 40), none], .ns 3 [some (.ref 40), some (.ref 45), some (.ref 49), none, none, none, none, none], .dict0, .tup [.int [0, -2, 2, -1, 1, 0, 0, -1, 1], .int [4], .int [0], .int [0], .ref 49], .tup [.int [2]], .list true [.int [4]], .ns 14 [], .dict0, .tup [.int [0, 0, 0, 0, 0, -1, 1], .int [1], .int [0], .int [0], .ref 54], .ns 2 [some (.ref 50), some (.ref 55), some (.int [0, 0, 0, 0, 0, -1, 1]), some (.int [1]), some (.int [0]), some (.int [0]), some (.ref 54), some (.int [0, -2, 2, -1, 1, 0, 0, -1, 1]), some (.int [4]), some (.int [0]), some (.int [0]), some (.ref 49), none], .ns 3 [some (.ref 49), some (.ref 54), some (.ref 58), none, none, none, none, none], .dict0, .tup [.int [0, -2, 2, -1, 1, -1, 1, -1, 1], .int [5], .int [0], .int [0], .ref 58], .tup [.int [2], .int [1]], .list true [.int [4], .int [2]], .ns 14 [], .dict0, .tup [.int [0, 0, 0, 0, 0, 0, 0, -1, 1], .int [1], .int [0], .int [0], .ref 63], .ns 2 [some (.ref 59), some (.ref 64), some (.int [0, 0, 0, 0, 0, 0, 0, -1, 1]), some (.int [1]), some (.int [0]), some (.int [0]), some (.ref 63), some (.int [0, -2, 2, -1, 1, -1, 1, -1, 1]), some (.int [5]), some (.int [0]), some (.int [0]), some (.ref 58), none], .ns 3 [some (.ref 58), some (.ref 63), some (.ref 67), none, none, none, none, none], .dict0, .tup [.int [0, -2, 2, -1, 1, -1, 1, -2, 2], .int [6], .int [0], .int [0], .ref 67], .dict0, .tup [.int [0], .int [0], .int [0], .int [0], .ref 69], .tup [.int [0], .int [1], .int [2]], .tup [.int [0], .int [2], .int [1]], .tup [.int [1], .int [0], .int [2]], .tup [.int [1], .int [2], .int [0]], .tup [.int [2], .int [0], .int [1]], .tup [.int [2], .int [1], .int [0]], .list true [.ref 71, .ref 72, .ref 73, .ref 74, .ref 75, .ref 76], .tup [.int [0]], .list true [.int [1]], .ns 14 [], .dict0, .tup [.int [0, 0, -1, 0, 1], .int [1], .int [0], .int [0], .ref 81], .ns 2 [some (.ref 70), some (.ref 82), some (.int [0, 0, -1, 0, 1]), some (.int [1]), some (.int [0]), some (.int [0]), some (.ref 81), some (.int [0]), some (.int [0]), some (.int [0]), some (.int [0]), some (.ref 69), none], .ns 3 [some (.ref 69), some (.ref 81), some (.ref 85), none, none, none, none, none], .dict0, .tup [.int [0, 0, -1, 0, 1], .int [1], .int [0], .int [0], .ref 85], .tup [.int [0], .int [2]], .list true [.int [1], .int [4]], .ns 14 [], .dict0, .tup [.int [0, 0, 0, 0, 0, 0, -1, 0, 1], .int [1], .int [0], .int [0], .ref 90], .ns 2 [some (.ref 86), some (.ref 91), some (.int [0, 0, 0, 0, 0, 0, -1, 0, 1]), some (.int [1]), some (.int [0]), some (.int [0]), some (.ref 90), some (.int [0, 0, -1, 0, 1]), some (.int [1]), some (.int [0]), some (.int [0]), some (.ref 85), none], .ns 3 [some (.ref 85), some (.ref 90), some (.ref 94), none, none, none, none, none], .dict0, .tup [.int [0, 0, -1, 0, 1, 0, -1, 0, 1], .int [2], .int [0], .int [0], .ref 94], .tup [], .list true [], .ns 14 [], .dict0, .tup [.int [0, -1, 0, 1], .int [1], .int [0], .int [0], .ref 99], .ns 2 [some (.ref 95), some (.ref 100), some (.int [0, -1, 0, 1]), some (.int [1]), some (.int [0]), some (.int [0]), some (.ref 99), some (.int [0, 0, -1, 0, 1, 0, -1, 0, 1]), some (.int [2]), some (.int [0]), some (.int [0]), some (.ref 94), none], .ns 3 [some (.ref 94), some (.ref 99), some (.ref 103), none, none, none, none, none], .dict0, .tup [.int [0, -1, -1, 1, 1, 0, -1, 0, 1], .int [3], .int [0], .int [0], .ref 103], .tup [], .list true [], .ns 14 [], .dict0, .tup [.int [0, -1, 0, 1], .int [1], .int [0], .int [0], .ref 108], .ns 2 [some (.ref 104), some (.ref 109), some (.int [0, -1, 0, 1]), some (.int [1]), some (.int [0]), some (.int [0]), some (.ref 108), some (.int [0, -1, -1, 1, 1, 0, -1, 0, 1]), some (.int [3]), some (.int [0]), some (.int [0]), some (.ref 103), none], .ns 3 [some (.ref 103), some (.ref 108), some (.ref 112), none, none, none, none, none], .dict0, .tup [.int [0, -2, -1, 2, 1, 0, -1, 0, 1], .int [4], .int [0], .int [0], .ref 112], .tup [.int [2], .int [0]], .list true [.int [4], .int [1]], .ns 14 [], .dict0, .tup [.int [0, 0, 0, 0, 0, 0, -1, 0, 1], .int [1], .int [0], .int [0], .ref 117], .ns 2 [some (.ref 113), some (.ref 118), some (.int [0, 0, 0, 0, 0, 0, -1, 0, 1]), some (.int [1]), some (.int [0]), some (.int [0]), some (.ref 117), some (.int [0, -2, -1, 2, 1, 0, -1, 0, 1]), some (.int [4]), some (.int [0]), some (.int [0]), some (.ref 112), none], .ns 3 [some (.ref 112), some (.ref 117), some (.ref 121), none, none, none, none, none], .dict0, .tup [.int [0, -2, -1, 2, 1, 0, -2, 0, 2], .int [5], .int [0], .int [0], .ref 121], .tup [.int [2]], .list true [.int [4]], .ns 14 [], .dict0, .tup [.int [0, 0, 0, 0, 0, -1, 0, 1], .int [1], .int [0], .int [0], .ref 126], .ns 2 [some (.ref 122), some (.ref 127), some (.int [0, 0, 0, 0, 0, -1, 0, 1]), some (.int [1]), some (.int [0]), some (.int [0]), some (.ref 126), some (.int [0, -2, -1, 2, 1, 0, -2, 0, 2]), some (.int [5]), some (.int [0]), some (.int [0]), some (.ref 121), none], .ns 3 [some (.ref 121), some (.ref 126), some (.ref 130), none, none, none, none, none], .dict0, .tup [.int [0, -2, -1, 2, 1, -1, -2, 1, 2], .int [6], .int [0], .int [0], .ref 130], .dict0, .tup [.int [0], .int [0], .int [0], .int [0], .ref 132], .tup [.int [0], .int [1], .int [2]], .tup [.int [0], .int [2], .int [1]], .tup [.int [1], .int [0], .int [2]], .tup [.int [1], .int [2], .int [0]], .tup [.int [2], .int [0], .int [1]], .tup [.int [2], .int [1], .int [0]], .list true [.ref 134, .ref 135, .ref 136, .ref 137, .ref 138, .ref 139], .tup [.int [0], .int [1]], .list true [.int [1], .int [2]], .ns 14 [], .dict0, .tup [.int [0, 0, 0, 0, -1, 0, 0, 0, 1], .int [1], .int [0], .int [0], .ref 144], .ns 2 [some (.ref 133), some (.ref 145), some (.int [0, 0, 0, 0, -1, 0, 0, 0, 1]), some (.int [1]), some (.int [0]), some (.int [0]), some (.ref 144), some (.int [0]), some (.int [0]), some (.int [0]), some (.int [0]), some (.ref 132), none], .ns 3 [some (.ref 132), some (.ref 144), some (.ref 148), none, none, none, none, none], .dict0, .tup [.int [0, 0, 0, 0, -1, 0, 0, 0, 1], .int [1], .int [0], .int [0], .ref 148], .tup [.int [0]], .list true [.int [1]], .ns 14 [], .dict0, .tup [.int [0, 0, -1, 0, 0, 0, 1], .int [1], .int [0], .int [0], .ref 153], .ns 2 [some (.ref 149), some (.ref 154), some (.int [0, 0, -1, 0, 0, 0, 1]), some (.int [1]), some (.int [0]), some (.int [0]), some (.ref 153), some (.int [0, 0, 0, 0, -1, 0, 0, 0, 1]), some (.int [1]), some (.int [0]), some (.int [0]), some (.ref 148), none], .ns 3 [some (.ref 148), some (.ref 153), some (.ref 157), none, none, none, none, none], .dict0, .tup [.int [0, 0, -1, 0, -1, 0, 1, 0, 1], .int [2], .int [0], .int [0], .ref 157]]
noncomputable def tA22 : AH := [.tab 0, .tab 1, .list true [.int [0, 1], .int [0, 0, 1], .int [0, 0, 0, 1], .int [0, 0, 0, 0, 1], .int [0, 0, 0, 0, 0, 1], .int [0, 0, 0, 0, 0, 0, 1], .int [0, 0, 0, 0, 0, 0, 0, 1], .int [0, 0, 0, 0, 0, 0, 0, 0, 1]], .ns 8 [some (.ref 2), some (.ref 4), some (.int [2]), some (.ref 167), some (.ref 136), some (.int [3]), none, none, none], .list true [.int [0, -2, 2, -1, 1, -1, 1, -2, 2], .int [0, -2, -1, 2, 1, -1, -2, 1, 2]], .range 0 3, .dict0, .tup [.int [0], .int [0], .int [0], .int [0], .ref 6], .tup [.int [0], .int [1], .int [2]], .tup [.int [0], .int [2], .int [1]], .tup [.int [1], .int [0], .int [2]], .tup [.int [1], .int [2], .int [0]], .tup [.int [2], .int [0], .int [1]], .tup [.int [2], .int [1], .int [0]], .list true [.ref 8, .ref 9, .ref 10, .ref 11, .ref 12, .ref 13], .tup [], .list true [], .ns 14 [], .dict0, .tup [.int [0, -1, 1], .int [1], .int [0], .int [0], .ref 18], .ns 2 [some (.ref 7), some (.ref 19), some (.int [0, -1, 1]), some (.int [1]), some (.int [0]), some (.int [0]), some (.ref 18), some (.int [0]), some (.int [0]), some (.int [0]), some (.int [0]), some (.ref 6), none], .ns 3 [some (.ref 6), some (.ref 18), some (.ref 22), none, none, none, none, none], .dict0, .tup [.int [0, -1, 1], .int [1], .int [0], .int [0], .ref 22], .tup [], .list true [], .ns 14 [], .dict0, .tup [.int [0, -1, 1], .int [1], .int [0], .int [0], .ref 27], .ns 2 [some (.ref 23), some (.ref 28), some (.int [0, -1, 1]), some (.int [1]), some (.int [0]), some (.int [0]), some (.ref 27), some (.int [0, -1, 1]), some (.int [1]), some (.int [0]), some (.int [0]), some (.ref 22), none], .ns 3 [some (.ref 22), some (.ref 27), some (.ref 31), none, none, none, none, none], .dict0, .tup [.int [0, -2, 2], .int [2], .int [0], .int [0], .ref 31], .tup [.int [1]], .list true [.int [2]], .ns 14 [], .dict0, .tup [.int [0, 0, 0, -1, 1], .int [1], .int [0], .int [0], .ref 36], .ns 2 [some (.ref 32), some (.ref 37), some (.int [0, 0, 0, -1, 1]), some (.int [1]), some (.int [0]), some (.int [0]), some (.ref 36), some (.int [0, -2, 2]), some (.int [2]), some (.int [0]), some (.int [0]), some (.ref 31), none], .ns 3 [some (.ref 31), some (.ref 36), some (.ref 40), none, none, none, none, none], .dict0, .tup [.int [0, -2, 2, -1, 1], .int [3], .int [0], .int [0], .ref 40], .tup [.int [1], .int [2]], .list true [.int [2], .int [4]], .ns 14 [], .dict0, .tup [.int [0, 0, 0, 0, 0, 0, 0, -1, 1], .int [1], .int [0], .int [0], .ref 45], .ns 2 [some (.ref 41), some (.ref 46), some (.int [0, 0, 0, 0, 0, 0, 0, -1, 1]), some (.int [1]), some (.int [0]), some (.int [0]), some (.ref 45), some (.int [0, -2, 2, -1, 1]), some (.int [3]), some (.int [0]), some (.int [0]), some (.ref 40), none], .ns 3 [some (.ref 40), some (.ref 45), some (.ref 49), none, none, none, none, none], .dict0, .tup [.int [0, -2, 2, -1, 1, 0, 0, -1, 1], .int [4], .int [0], .int [0], .ref 49], .tup [.int [2]], .list true [.int [4]], .ns 14 [], .dict0, .tup [.int [0, 0, 0, 0, 0, -1, 1], .int [1], .int [0], .int [0], .ref 54], .ns 2 [some (.ref 50), some (.ref 55), some (.int [0, 0, 0, 0, 0, -1, 1]), some (.int [1]), some (.int [0]), some (.int [0]), some (.ref 54), some (.int [0, -2, 2, -1, 1, 0, 0, -1, 1]), some (.int [4]), some (.int [0]), some (.int [0]), some (.ref 49), none], .ns 3 [some (.ref 49), some (.ref 54), some (.ref 58), none, none, none, none, none], .dict0, .tup [.int [0, -2, 2, -1, 1, -1, 1, -1, 1], .int [5], .int [0], .int [0], .ref 58], .tup [.int [2], .int [1]], .list true [.int [4], .int [2]], .ns 14 [], .dict0, .tup [.int [0, 0, 0, 0, 0, 0, 0, -1, 1], .int [1], .int [0], .int [0], .ref 63], .ns 2 [some (.ref 59), some (.ref 64), some (.int [0, 0, 0, 0, 0, 0, 0, -1, 1]), some (.int [1]), some (.int [0]), some (.int [0]), some (.ref 63), some (.int [0, -2, 2, -1, 1, -1, 1, -1, 1]), some (.int [5]), some (.int [0]), some (.int [0]), some (.ref 58), none], .ns 3 [some (.ref 58), some (.ref 63), some (.ref 67), none, none, none, none, none], .dict0, .tup [.int [0, -2, 2, -1, 1, -1, 1, -2, 2], .int [6], .int [0], .int [0], .ref 67], .dict0, .tup [.int [0], .int [0], .int [0], .int [0], .ref 69], .tup [.int [0], .int [1], .int [2]], .tup [.int [0], .int [2], .int [1]], .tup [.int [1], .int [0], .int [2]], .tup [.int [1], .int [2], .int [0]], .tup [.int [2], .int [0], .int [1]], .tup [.int [2], .int [1], .int [0]], .list true [.ref 71, .ref 72, .ref 73, .ref 74, .ref 75, .ref 76], .tup [.int [0]], .list true [.int [1]], .ns 14 [], .dict0, .tup [.int [0, 0, -1, 0, 1], .int [1], .int [0], .int [0], .ref 81], .ns 2 [some (.ref 70), some (.ref 82), some (.int [0, 0, -1, 0, 1]), some (.int [1]), some (.int [0]), some (.int [0]), some (.ref 81), some (.int [0]), some (.int [0]), some (.int [0]), some (.int [0]), some (.ref 69), none], .ns 3 [some (.ref 69), some (.ref 81), some (.ref 85), none, none, none, none, none], .dict0, .tup [.int [0, 0, -1, 0, 1], .int [1], .int [0], .int [0], .ref 85], .tup [.int [0], .int [2]], .list true [.int [1], .int [4]], .ns 14 [], .dict0, .tup [.int [0, 0, 0, 0, 0, 0, -1, 0, 1], .int [1], .int [0], .int [0], .ref 90], .ns 2 [some (.ref 86), some (.ref 91), some (.int [0, 0, 0, 0, 0, 0, -1, 0, 1]), some (.int [1]), some (.int [0]), some (.int [0]), some (.ref 90), some (.int [0, 0, -1, 0, 1]), some (.int [1]), some (.int [0]), some (.int [0]), some (.ref 85), none], .ns 3 [some (.ref 85), some (.ref 90), some (.ref 94), none, none, none, none, none], .dict0, .tup [.int [0, 0, -1, 0, 1, 0, -1, 0, 1], .int [2], .int [0], .int [0], .ref 94], .tup [], .list true [], .ns 14 [], .dict0, .tup [.int [0, -1, 0, 1], .int [1], .int [0], .int [0], .ref 99], .ns 2 [some (.ref 95), some (.ref 100), some (.int [0, -1, 0, 1]), some (.int [1]), some (.int [0]), some (.int [0]), some (.ref 99), some (.int [0, 0, -1, 0, 1, 0, -1, 0, 1]), some (.int [2]), some (.int [0]), some (.int [0]), some (.ref 94), none], .ns 3 [some (.ref 94), some (.ref 99), some (.ref 103), none, none, none, none, none], .dict0, .tup [.int [0, -1, -1, 1, 1, 0, -1, 0, 1], .int [3], .int [0], .int [0], .ref 103], .tup [], .list true [], .ns 14 [], .dict0, .tup [.int [0, -1, 0, 1], .int [1], .int [0], .int [0], .ref 108], .ns 2 [some (.ref 104), some (.ref 109), some (.int [0, -1, 0, 1]), some (.int [1]), some (.int [0]), some (.int [0]), some (.ref 108), some (.int [0, -1, -1, 1, 1, 0, -1, 0, 1]), some (.int [3]), some (.int [0]), some (.int [0]), some (.ref 103), none], .ns 3 [some (.ref 103), some (.ref 108), some (.ref 112), none, none, none, none, none], .dict0, .tup [.int [0, -2, -1, 2, 1, 0, -1, 0, 1], .int [4], .int [0], .int [0], .ref 112], .tup [.int [2], .int [0]], .list true [.int [4], .int [1]], .ns 14 [], .dict0, .tup [.int [0, 0, 0, 0, 0, 0, -1, 0, 1], .int [1], .int [0], .int [0], .ref 117], .ns 2 [some (.ref 113), some (.ref 118), some (.int [0, 0, 0, 0, 0, 0, -1, 0, 1]), some (.int [1]), some (.int [0]), some (.int [0]), some (.ref 117), some (.int [0, -2, -1, 2, 1, 0, -1, 0, 1]), some (.int [4]), some (.int [0]), some (.int [0]), some (.ref 112), none], .ns 3 [some (.ref 112), some (.ref 117), some (.ref 121), none, none, none, none, none], .dict0, .tup [.int [0, -2, -1, 2, 1, 0, -2, 0, 2], .int [5], .int [0], .int [0], .ref 121], .tup [.int [2]], .list true [.int [4]], .ns 14 [], .dict0, .tup [.int [0, 0, 0, 0, 0, -1, 0, 1], .int [1], .int [0], .int [0], .ref 126], .ns 2 [some (.ref 122), some (.ref 127), some (.int [0, 0, 0, 0, 0, -1, 0, 1]), some (.int [1]), some (.int [0]), some (.int [0]), some (.ref 126), some (.int [0, -2, -1, 2, 1, 0, -2, 0, 2]), some (.int [5]), some (.int [0]), some (.int [0]), some (.ref 121), none], .ns 3 [some (.ref 121), some (.ref 126), some (.ref 130), none, none, none, none, none], .dict0, .tup [.int [0, -2, -1, 2, 1, -1, -2, 1, 2], .int [6], .int [0], .int [0], .ref 130], .dict0, .tup [.int [0], .int [0], .int [0], .int [0], .ref 132], .tup [.int [0], .int [1], .int [2]], .tup [.int [0], .int [2], .int [1]], .tup [.int [1], .int [0], .int [2]], .tup [.int [1], .int [2], .int [0]], .tup [.int [2], .int [0], .int [1]], .tup [.int [2], .int [1], .int [0]], .list true [.ref 134, .ref 135, .ref 136, .ref 137, .ref 138, .ref 139], .tup [.int [0], .int [1]], .list true [.int [1], .int [2]], .ns 14 [], .dict0, .tup [.int [0, 0, 0, 0, -1, 0, 0, 0, 1], .int [1], .int [0], .int [0], .ref 144], .ns 2 [some (.ref 133), some (.ref 145), some (.int [0, 0, 0, 0, -1, 0, 0, 0, 1]), some (.int [1]), some (.int [0]), some (.int [0]), some (.ref 144), some (.int [0]), some (.int [0]), some (.int [0]), some (.int [0]), some (.ref 132), none], .ns 3 [some (.ref 132), some (.ref 144), some (.ref 148), none, none, none, none, none], .dict0, .tup [.int [0, 0, 0, 0, -1, 0, 0, 0, 1], .int [1], .int [0], .int [0], .ref 148], .tup [.int [0]], .list true [.int [1]], .ns 14 [], .dict0, .tup [.int [0, 0, -1, 0, 0, 0, 1], .int [1], .int [0], .int [0], .ref 153], .ns 2 [some (.ref 149), some (.ref 154), some (.int [0, 0, -1, 0, 0, 0, 1]), some (.int [1]), some (.int [0]), some (.int [0]), some (.ref 153), some (.int [0, 0, 0, 0, -1, 0, 0, 0, 1]), some (.int [1]), some (.int [0]), some (.int [0]), some (.ref 148), none], .ns 3 [some (.ref 148), some (.ref 153), some (.ref 157), none, none, none, none, none], .dict0, .tup [.int [0, 0, -1, 0, -1, 0, 1, 0, 1], .int [2], .int [0], .int [0], .ref 157], .tup [.int [1], .int [0]], .list true [.int [2], .int [1]], .ns 14 [], .dict0, .tup [.int [0, 0, 0, 0, -1, 0, 0, 0, 1], .int [1], .int [0], .int [0], .ref 162], .ns 2 [some (.ref 158), some (.ref 163), some (.int [0, 0, 0, 0, -1, 0, 0, 0, 1]), some (.int [1]), some (.int [0]), some (.int [0]), some (.ref 162), some (.int [0, 0, -1, 0, -1, 0, 1, 0, 1]), some (.int [2]), some (.int [0]), some (.int [0]), some (.ref 157), none], .ns 3 [some (.ref 157), some (.ref 162), some (.ref 166), none, none, none, none, none], .dict0, .tup [.int [0, 0, -1, 0, -2, 0, 1, 0, 2], .int [3], .int [0], .int [0], .ref 166]]
noncomputable def tA23 : AH := [.tab 0, .tab 1, .list true [.int [0, 1], .int [0, 0, 1], .int [0, 0, 0, 1], .int [0, 0, 0, 0, 1], .int [0, 0, 0, 0, 0, 1], .int [0, 0, 0, 0, 0, 0, 1], .int [0, 0, 0, 0, 0, 0, 0, 1], .int [0, 0, 0, 0, 0, 0, 0, 0, 1]], .ns 8 [some (.ref 2), some (.ref 4), some (.int [2]), some (.ref 176), some (.ref 137), some (.int [2]), none, none, none], .list true [.int [0, -2, 2, -1, 1, -1, 1, -2, 2], .int [0, -2, -1, 2, 1, -1, -2, 1, 2]], .range 0 3, .dict0, .tup [.int [0], .int [0], .int [0], .int [0], .ref 6], .tup [.int [0], .int [1], .int [2]], .tup [.int [0], .int [2], .int [1]], .tup [.int [1], .int [0], .int [2]], .tup [.int [1], .int [2], .int [0]], .tup [.int [2], .int [0], .int [1]], .tup [.int [2], .int [1], .int [0]], .list true [.ref 8, .ref 9, .ref 10, .ref 11, .ref 12, .ref 13], .tup [], .list true [], .ns 14 [], .dict0, .tup [.int [0, -1, 1], .int [1], .int [0], .int [0], .ref 18], .ns 2 [some (.ref 7), some (.ref 19), some (.int [0, -1, 1]), some (.int [1]), some (.int [0]), some (.int [0]), some (.ref 18), some (.int [0]), some (.int [0]), some (.int [0]), some (.int [0]), some (.ref 6), none], .ns 3 [some (.ref 6), some (.ref 18), some (.ref 22), none, none, none, none, none], .dict0, .tup [.int [0, -1, 1], .int [1], .int [0], .int [0], .ref 22], .tup [], .list true [], .ns 14 [], .dict0, .tup [.int [0, -1, 1], .int [1], .int [0], .int [0], .ref 27], .ns 2 [some (.ref 23), some (.ref 28), some (.int [0, -1, 1]), some (.int [1]), some (.int [0]), some (.int [0]), some (.ref 27), some (.int [0, -1, 1]), some (.int [1]), some (.int [0]), some (.int [0]), some (.ref 22), none], .ns 3 [some (.ref 22), some (.ref 27), some (.ref 31), none, none, none, none, none], .dict0, .tup [.int [0, -2, 2], .int [2], .int [0], .int [0], .ref 31], .tup [.int [1]], .list true [.int [2]], .ns 14 [], .dict0, .tup [.int [0, 0, 0, -1, 1], .int [1], .int [0], .int [0], .ref 36], .ns 2 [some (.ref 32), some (.ref 37), some (.int [0, 0, 0, -1, 1]), some (.int [1]), some (.int [0]), some (.int [0]), some (.ref 36), some (.int [0, -2, 2]), some (.int [2]), some (.int [0]), some (.int [0]), some (.ref 31), none], .ns 3 [some (.ref 31), some (.ref 36), some (.ref 40), none, none, none, none, none], .dict0, .tup [.int [0, -2, 2, -1, 1], .int [3], .int [0], .int [0], .ref 40], .tup [.int [1], .int [2]], .list true [.int [2], .int [4]], .ns 14 [], .dict0, .tup [.int [0, 0, 0, 0, 0, 0, 0, -1, 1], .int [1], .int [0], .int [0], .ref 45], .ns 2 [some (.ref 41), some (.ref 46), some (.int [0, 0, 0, 0, 0, 0, 0, -1, 1]), some (.int [1]), some (.int [0]), some (.int [0]), some (.ref 45), some (.int [0, -2, 2, -1, 1]), some (.int [3]), some (.int [0]), some (.int [0]), some (.ref 40), none], .ns 3 [some (.ref 40), some (.ref 45), some (.ref 49), none, none, none, none, none], .dict0, .tup [.int [0, -2, 2, -1, 1, 0, 0, -1, 1], .int [4], .int [0], .int [0], .ref 49], .tup [.int [2]], .list true [.int [4]], .ns 14 [], .dict0, .tup [.int [0, 0, 0, 0, 0, -1, 1], .int [1], .int [0], .int [0], .ref 54], .ns 2 [some (.ref 50), some (.ref 55), some (.int [0, 0, 0, 0, 0, -1, 1]), some (.int [1]), some (.int [0]), some (.int [0]), some (.ref 54), some (.int [0, -2, 2, -1, 1, 0, 0, -1, 1]), some (.int [4]), some (.int [0]), some (.int [0]), some (.ref 49), none], .ns 3 [some (.ref 49), some (.ref 54), some (.ref 58), none, none, none, none, none], .dict0, .tup [.int [0, -2, 2, -1, 1, -1, 1, -1, 1], .int [5], .int [0], .int [0], .ref 58], .tup [.int [2], .int [1]], .list true [.int [4], .int [2]], .ns 14 [], .dict0, .tup [.int [0, 0, 0, 0, 0, 0, 0, -1, 1], .int [1], .int [0], .int [0], .ref 63], .ns 2 [some (.ref 59), some (.ref 64), some (.int [0, 0, 0, 0, 0, 0, 0, -1, 1]), some (.int [1]), some (.int [0]), some (.int [0]), some (.ref 63), some (.int [0, -2, 2, -1, 1, -1, 1, -1, 1]), some (.int [5]), some (.int [0]), some (.int [0]), some (.ref 58), none], .ns 3 [some (.ref 58), some (.ref 63), some (.ref 67), none, none, none, none, none], .dict0, .tup [.int [0, -2, 2, -1, 1, -1, 1, -2, 2], .int [6], .int [0], .int [0], .ref 67], .dict0, .tup [.int [0], .int [0], .int [0], .int [0], .ref 69], .tup [.int [0], .int [1], .int [2]], .tup [.int [0], .int [2], .int [1]], .tup [.int [1], .int [0], .int [2]], .tup [.int [1], .int [2], .int [0]], .tup [.int [2], .int [0], .int [1]], .tup [.int [2], .int [1], .int [0]], .list true [.ref 71, .ref 72, .ref 73, .ref 74, .ref 75, .ref 76], .tup [.int [0]], .list true [.int [1]], .ns 14 [], .dict0, .tup [.int [0, 0, -1, 0, 1], .int [1], .int [0], .int [0], .ref 81], .ns 2 [some (.ref 70), some (.ref 82), some (.int [0, 0, -1, 0, 1]), some (.int [1]), some (.int [0]), some (.int [0]), some (.ref 81), some (.int [0]), some (.int [0]), some (.int [0]), some (.int [0]), some (.ref 69), none], .ns 3 [some (.ref 69), some (.ref 81), some (.ref 85), none, none, none, none, none], .dict0, .tup [.int [0, 0, -1, 0, 1], .int [1], .int [0], .int [0], .ref 85], .tup [.int [0], .int [2]], .list true [.int [1], .int [4]], .ns 14 [], .dict0, .tup [.int [0, 0, 0, 0, 0, 0, -1, 0, 1], .int [1], .int [0], .int [0], .ref 90], .ns 2 [some (.ref 86), some (.ref 91), some (.int [0, 0, 0, 0, 0, 0, -1, 0, 1]), some (.int [1]), some (.int [0]), some (.int [0]), some (.ref 90), some (.int [0, 0, -1, 0, 1]), some (.int [1]), some (.int [0]), some (.int [0]), some (.ref 85), none], .ns 3 [some (.ref 85), some (.ref 90), some (.ref 94), none, none, none, none, none], .dict0, .tup [.int [0, 0, -1, 0, 1, 0, -1, 0, 1], .int [2], .int [0], .int [0], .ref 94], .tup [], .list true [], .ns 14 [], .dict0, .tup [.int [0, -1, 0, 1], .int [1], .int [0], .int [0], .ref 99], .ns 2 [some (.ref 95), some (.ref 100), some (.int [0, -1, 0, 1]), some (.int [1]), some (.int [0]), some (.int [0]), some (.ref 99), some (.int [0, 0, -1, 0, 1, 0, -1, 0, 1]), some (.int [2]), some (.int [0]), some (.int [0]), some (.ref 94), none], .ns 3 [some (.ref 94), some (.ref 99), some (.ref 103), none, none, none, none, none], .dict0, .tup [.int [0, -1, -1, 1, 1, 0, -1, 0, 1], .int [3], .int [0], .int [0], .ref 103], .tup [], .list true [], .ns 14 [], .dict0, .tup [.int [0, -1, 0, 1], .int [1], .int [0], .int [0], .ref 108], .ns 2 [some (.ref 104), some (.ref 109), some (.int [0, -1, 0, 1]), some (.int [1]), some (.int [0]), some (.int [0]), some (.ref 108), some (.int [0, -1, -1, 1, 1, 0, -1, 0, 1]), some (.int [3]), some (.int [0]), some (.int [0]), some (.ref 103), none], .ns 3 [some (.ref 103), some (.ref 108), some (.ref 112), none, none, none, none, none], .dict0, .tup [.int [0, -2, -1, 2, 1, 0, -1, 0, 1], .int [4], .int [0], .int [0], .ref 112], .tup [.int [2], .int [0]], .list true [.int [4], .int [1]], .ns 14 [], .dict0, .tup [.int [0, 0, 0, 0, 0, 0, -1, 0, 1], .int [1], .int [0], .int [0], .ref 117], .ns 2 [some (.ref 113), some (.ref 118), some (.int [0, 0, 0, 0, 0, 0, -1, 0, 1]), some (.int [1]), some (.int [0]), some (.int [0]), some (.ref 117), some (.int [0, -2, -1, 2, 1, 0, -1, 0, 1]), some (.int [4]), some (.int [0]), some (.int [0]), some (.ref 112), none], .ns 3 [some (.ref 112), some (.ref 117), some (.ref 121), none, none, none, none, none], .dict0, .tup [.int [0, -2, -1, 2, 1, 0, -2, 0, 2], .int [5], .int [0], .int [0], .ref 121], .tup [.int [2]], .list true [.int [4]], .ns 14 [], .dict0, .tup [.int [0, 0, 0, 0, 0, -1, 0, 1], .int [1], .int [0], .int [0], .ref 126], .ns 2 [some (.ref 122), some (.ref 127), some (.int [0, 0, 0, 0, 0, -1, 0, 1]), some (.int [1]), some (.int [0]), some (.int [0]), some (.ref 126), some (.int [0, -2, -1, 2, 1, 0, -2, 0, 2]), some (.int [5]), some (.int [0]), some (.int [0]), some (.ref 121), none], .ns 3 [some (.ref 121), some (.ref 126), some (.ref 130), none, none, none, none, none], .dict0, .tup [.int [0, -2, -1, 2, 1, -1, -2, 1, 2], .int [6], .int [0], .int [0], .ref 130], .dict0, .tup [.int [0], .int [0], .int [0], .int [0], .ref 132], .tup [.int [0], .int [1], .int [2]], .tup [.int [0], .int [2], .int [1]], .tup [.int [1], .int [0], .int [2]], .tup [.int [1], .int [2], .int [0]], .tup [.int [2], .int [0], .int [1]], .tup [.int [2], .int [1], .int [0]], .list true [.ref 134, .ref 135, .ref 136, .ref 137, .ref 138, .ref 139], .tup [.int [0], .int [1]], .list true [.int [1], .int [2]], .ns 14 [], .dict0, .tup [.int [0, 0, 0, 0, -1, 0, 0, 0, 1], .int [1], .int [0], .int [0], .ref 144], .ns 2 [some (.ref 133), some (.ref 145), some (.int [0, 0, 0, 0, -1, 0, 0, 0, 1]), some (.int [1]), some (.int [0]), some (.int [0]), some (.ref 144), some (.int [0]), some (.int [0]), some (.int [0]), some (.int [0]), some (.ref 132), none], .ns 3 [some (.ref 132), some (.ref 144), some (.ref 148), none, none, none, none, none], .dict0, .tup [.int [0, 0, 0, 0, -1, 0, 0, 0, 1], .int [1], .int [0], .int [0], .ref 148], .tup [.int [0]], .list true [.int [1]], .ns 14 [], .dict0, .tup [.int [0, 0, -1, 0, 0, 0, 1], .int [1], .int [0], .int [0], .ref 153], .ns 2 [some (.ref 149), some (.ref 154), some (.int [0, 0, -1, 0, 0, 0, 1]), some (.int [1]), some (.int [0]), some (.int [0]), some (.ref 153), some (.int [0, 0, 0, 0, -1, 0, 0, 0, 1]), some (.int [1]), some (.int [0]), some (.int [0]), some (.ref 148), none], .ns 3 [some (.ref 148), some (.ref 153), some (.ref 157), none, none, none, none, none], .dict0, .tup [.int [0, 0, -1, 0, -1, 0, 1, 0, 1], .int [2], .int [0], .int [0], .ref 157], .tup [.int [1], .int [0]], .list true [.int [2], .int [1]], .ns 14 [], .dict0, .tup [.int [0, 0, 0, 0, -1, 0, 0, 0, 1], .int [1], .int [0], .int [0], .ref 162], .ns 2 [some (.ref 158), some (.ref 163), some (.int [0, 0, 0, 0, -1, 0, 0, 0, 1]), some (.int [1]), some (.int [0]), some (.int [0]), some (.ref 162), some (.int [0, 0, -1, 0, -1, 0, 1, 0, 1]), some (.int [2]), some (.int [0]), some (.int [0]), some (.ref 157), none], .ns 3 [some (.ref 157), some (.ref 162), some (.ref 166), none, none, none, none, none], .dict0, .tup [.int [0, 0, -1, 0, -2, 0, 1, 0, 2], .int [3], .int [0], .int [0], .ref 166], .tup [.int [1]], .list true [.int [2]], .ns 14 [], .dict0, .tup [.int [0, 0, 0, -1, 0, 0, 0, 1], .int [1], .int [0], .int [0], .ref 171], .ns 2 [some (.ref 167), some (.ref 172), some (.int [0, 0, 0, -1, 0, 0, 0, 1]), some (.int [1]), some (.int [0]), some (.int [0]), some (.ref 171), some (.int [0, 0, -1, 0, -2, 0, 1, 0, 2]), some (.int [3]), some (.int [0]), some (.int [0]), some (.ref 166), none], .ns 3 [some (.ref 166), some (.ref 171), some (.ref 175), none, none, none, none, none], .dict0, .tup [.int [0, 0, -1, -1, -2, 0, 1, 1, 2], .int [4], .int [0], .int [0], .ref 175]]
noncomputable def tA24 : AH := [.tab 0, .tab 1, .list true [.int [0, 1], .int [0, 0, 1], .int [0, 0, 0, 1], .int [0, 0, 0, 0, 1], .int [0, 0, 0, 0, 0, 1], .int [0, 0, 0, 0, 0, 0, 1], .int [0, 0, 0, 0, 0, 0, 0, 1], .int [0, 0, 0, 0, 0, 0, 0, 0, 1]], .ns 8 [some (.ref 2), some (.ref 4), some (.int [2]), some (.ref 185), some (.ref 138), some (.int []), none, none, none], .list true [.int [0, -2, 2, -1, 1, -1, 1, -2, 2], .int [0, -2, -1, 2, 1, -1, -2, 1, 2]], .range 0 3, .dict0, .tup [.int [0], .int [0], .int [0], .int [0], .ref 6], .tup [.int [0], .int [1], .int [2]], .tup [.int [0], .int [2], .int [1]], .tup [.int [1], .int [0], .int [2]], .tup [.int [1], .int [2], .int [0]], .tup [.int [2], .int [0], .int [1]], .tup [.int [2], .int [1], .int [0]], .list true [.ref 8, .ref 9, .ref 10, .ref 11, .ref 12, .ref 13], .tup [], .list true [], .ns 14 [], .dict0, .tup [.int [0, -1, 1], .int [1], .int [0], .int [0], .ref 18], .ns 2 [some (.ref 7), some (.ref 19), some (.int [0, -1, 1]), some (.int [1]), some (.int [0]), some (.int [0]), some (.ref 18), some (.int [0]), some (.int [0]), some (.int [0]), some (.int [0]), some (.ref 6), none], .ns 3 [some (.ref 6), some (.ref 18), some (.ref 22), none, none, none, none, none], .dict0, .tup [.int [0, -1, 1], .int [1], .int [0], .int [0], .ref 22], .tup [], .list true [], .ns 14 [], .dict0, .tup [.int [0, -1, 1], .int [1], .int [0], .int [0], .ref 27], .ns 2 [some (.ref 23), some (.ref 28), some (.int [0, -1, 1]), some (.int [1]), some (.int [0]), some (.int [0]), some (.ref 27), some (.int [0, -1, 1]), some (.int [1]), some (.int [0]), some (.int [0]), some (.ref 22), none], .ns 3 [some (.ref 22), some (.ref 27), some (.ref 31), none, none, none, none, none], .dict0, .tup [.int [0, -2, 2], .int [2], .int [0], .int [0], .ref 31], .tup [.int [1]], .list true [.int [2]], .ns 14 [], .dict0, .tup [.int [0, 0, 0, -1, 1], .int [1], .int [0], .int [0], .ref 36], .ns 2 [some (.ref 32), some (.ref 37), some (.int [0, 0, 0, -1, 1]), some (.int [1]), some (.int [0]), some (.int [0]), some (.ref 36), some (.int [0, -2, 2]), some (.int [2]), some (.int [0]), some (.int [0]), some (.ref 31), none], .ns 3 [some (.ref 31), some (.ref 36), some (.ref 40), none, none, none, none, none], .dict0, .tup [.int [0, -2, 2, -1, 1], .int [3], .int [0], .int [0], .ref 40], .tup [.int [1], .int [2]], .list true [.int [2], .int [4]], .ns 14 [], .dict0, .tup [.int [0, 0, 0, 0, 0, 0, 0, -1, 1], .int [1], .int [0], .int [0], .ref 45], .ns 2 [some (.ref 41), some (.ref 46), some (.int [0, 0, 0, 0, 0, 0, 0, -1, 1]), some (.int [1]), some (.int [0]), some (.int [0]), some (.ref 45), some (.int [0, -2, 2, -1, 1]), some (.int [3]), some (.int [0]), some (.int [0]), some (.ref 40), none], .ns 3 [some (.ref 40), some (.ref 45), some (.ref 49), none, none, none, none, none], .dict0, .tup [.int [0, -2, 2, -1, 1, 0, 0, -1, 1], .int [4], .int [0], .int [0], .ref 49], .tup [.int [2]], .list true [.int [4]], .ns 14 [], .dict0, .tup [.int [0, 0, 0, 0, 0, -1, 1], .int [1], .int [0], .int [0], .ref 54], .ns 2 [some (.ref 50), some (.ref 55), some (.int [0, 0, 0, 0, 0, -1, 1]), some (.int [1]), some (.int [0]), some (.int [0]), some (.ref 54), some (.int [0, -2, 2, -1, 1, 0, 0, -1, 1]), some (.int [4]), some (.int [0]), some (.int [0]), some (.ref 49), none], .ns 3 [some (.ref 49), some (.ref 54), some (.ref 58), none, none, none, none, none], .dict0, .tup [.int [0, -2, 2, -1, 1, -1, 1, -1, 1], .int [5], .int [0], .int [0], .ref 58], .tup [.int [2], .int [1]], .list true [.int [4], .int [2]], .ns 14 [], .dict0, .tup [.int [0, 0, 0, 0, 0, 0, 0, -1, 1], .int [1], .int [0], .int [0], .ref 63], .ns 2 [some (.ref 59), some (.ref 64), some (.int [0, 0, 0, 0, 0, 0, 0, -1, 1]), some (.int [1]), some (.int [0]), some (.int [0]), some (.ref 63), some (.int [0, -2, 2, -1, 1, -1, 1, -1, 1]), some (.int [5]), some (.int [0]), some (.int [0]), some (.ref 58), none], .ns 3 [some (.ref 58), some (.ref 63), some (.ref 67), none, none, none, none, none], .dict0, .tup [.int [0, -2, 2, -1, 1, -1, 1, -2, 2], .int [6], .int [0], .int [0], .ref 67], .dict0, .tup [.int [0], .int [0], .int [0], .int [0], .ref 69], .tup [.int [0], .int [1], .int [2]], .tup [.int [0], .int [2], .int [1]], .tup [.int [1], .int [0], .int [2]], .tup [.int [1], .int [2], .int [0]], .tup [.int [2], .int [0], .int [1]], .tup [.int [2], .int [1], .int [0]], .list true [.ref 71, .ref 72, .ref 73, .ref 74, .ref 75, .ref 76], .tup [.int [0]], .list true [.int [1]], .ns 14 [], .dict0, .tup [.int [0, 0, -1, 0, 1], .int [1], .int [0], .int [0], .ref 81], .ns 2 [some (.ref 70), some (.ref 82), some (.int [0, 0, -1, 0, 1]), some (.int [1]), some (.int [0]), some (.int [0]), some (.ref 81), some (.int [0]), some (.int [0]), some (.int [0]), some (.int [0]), some (.ref 69), none], .ns 3 [some (.ref 69), some (.ref 81), some (.ref 85), none, none, none, none, none], .dict0, .tup [.int [0, 0, -1, 0, 1], .int [1], .int [0], .int [0], .ref 85], .tup [.int [0], .int [2]], .list true [.int [1], .int [4]], .ns 14 [], .dict0, .tup [.int [0, 0, 0, 0, 0, 0, -1, 0, 1], .int [1], .int [0], .int [0], .ref 90], .ns 2 [some (.ref 86), some (.ref 91), some (.int [0, 0, 0, 0, 0, 0, -1, 0, 1]), some (.int [1]), some (.int [0]), some (.int [0]), some (.ref 90), some (.int [0, 0, -1, 0, 1]), some (.int [1]), some (.int [0]), some (.int [0]), some (.ref 85), none], .ns 3 [some (.ref 85), some (.ref 90), some (.ref 94), none, none, none, none, none], .dict0, .tup [.int [0, 0, -1, 0, 1, 0, -1, 0, 1], .int [2], .int [0], .int [0], .ref 94], .tup [], .list true [], .ns 14 [], .dict0, .tup [.int [0, -1, 0, 1], .int [1], .int [0], .int [0], .ref 99], .ns 2 [some (.ref 95), some (.ref 100), some (.int [0, -1, 0, 1]), some (.int [1]), some (.int [0]), some (.int [0]), some (.ref 99), some (.int [0, 0, -1, 0, 1, 0, -1, 0, 1]), some (.int [2]), some (.int [0]), some (.int [0]), some (.ref 94), none], .ns 3 [some (.ref 94), some (.ref 99), some (.ref 103), none, none, none, none, none], .dict0, .tup [.int [0, -1, -1, 1, 1, 0, -1, 0, 1], .int [3], .int [0], .int [0], .ref 103], .tup [], .list true [], .ns 14 [], .dict0, .tup [.int [0, -1, 0, 1], .int [1], .int [0], .int [0], .ref 108], .ns 2 [some (.ref 104), some (.ref 109), some (.int [0, -1, 0, 1]), some (.int [1]), some (.int [0]), some (.int [0]), some (.ref 108), some (.int [0, -1, -1, 1, 1, 0, -1, 0, 1]), some (.int [3]), some (.int [0]), some (.int [0]), some (.ref 103), none], .ns 3 [some (.ref 103), some (.ref 108), some (.ref 112), none, none, none, none, none], .dict0, .tup [.int [0, -2, -1, 2, 1, 0, -1, 0, 1], .int [4], .int [0], .int [0], .ref 112], .tup [.int [2], .int [0]], .list true [.int [4], .int [1]], .ns 14 [], .dict0, .tup [.int [0, 0, 0, 0, 0, 0, -1, 0, 1], .int [1], .int [0], .int [0], .ref 117], .ns 2 [some (.ref 113), some (.ref 118), some (.int [0, 0, 0, 0, 0, 0, -1, 0, 1]), some (.int [1]), some (.int [0]), some (.int [0]), some (.ref 117), some (.int [0, -2, -1, 2, 1, 0, -1, 0, 1]), some (.int [4]), some (.int [0]), some (.int [0]), some (.ref 112), none], .ns 3 [some (.ref 112), some (.ref 117), some (.ref 121), none, none, none, none, none], .dict0, .tup [.int [0, -2, -1, 2, 1, 0, -2, 0, 2], .int [5], .int [0], .int [0], .ref 121], .tup [.int [2]], .list true [.int [4]], .ns 14 [], .dict0, .tup [.int [0, 0, 0, 0, 0, -1, 0, 1], .int [1], .int [0], .int [0], .ref 126], .ns 2 [some (.ref 122), some (.ref 127), some (.int [0, 0, 0, 0, 0, -1, 0, 1]), some (.int [1]), some (.int [0]), some (.int [0]), some (.ref 126), some (.int [0, -2, -1, 2, 1, 0, -2, 0, 2]), some (.int [5]), some (.int [0]), some (.int [0]), some (.ref 121), none], .ns 3 [some (.ref 121), some (.ref 126), some (.ref 130), none, none, none, none, none], .dict0, .tup [.int [0, -2, -1, 2, 1, -1, -2, 1, 2], .int [6], .int [0], .int [0], .ref 130], .dict0, .tup [.int [0], .int [0], .int [0], .int [0], .ref 132], .tup [.int [0], .int [1], .int [2]], .tup [.int [0], .int [2], .int [1]], .tup [.int [1], .int [0], .int [2]], .tup [.int [1], .int [2], .int [0]], .tup [.int [2], .int [0], .int [1]], .tup [.int [2], .int [1], .int [0]], .list true [.ref 134, .ref 135, .ref 136, .ref 137, .ref 138, .ref 139], .tup [.int [0], .int [1]], .list true [.int [1], .int [2]], .ns 14 [], .dict0, .tup [.int [0, 0, 0, 0, -1, 0, 0, 0, 1], .int [1], .int [0], .int [0], .ref 144], .ns 2 [some (.ref 133), some (.ref 145), some (.int [0, 0, 0, 0, -1, 0, 0, 0, 1]), some (.int [1]), some (.int [0]), some (.int [0]), some (.ref 144), some (.int [0]), some (.int [0]), some (.int [0]), some (.int [0]), some (.ref 132), none], .ns 3 [some (.ref 132), some (.ref 144), some (.ref 148), none, none, none, none, none], .dict0, .tup [.int [0, 0, 0, 0, -1, 0, 0, 0, 1], .int [1], .int [0], .int [0], .ref 148], .tup [.int [0]], .list true [.int [1]], .ns 14 [], .dict0, .tup [.int [0, 0, -1, 0, 0, 0, 1], .int [1], .int [0], .int [0], .ref 153], .ns 2 [some (.ref 149), some (.ref 154), some (.int [0, 0, -1, 0, 0, 0, 1]), some (.int [1]), some (.int [0]), some (.int [0]), some (.ref 153), some (.int [0, 0, 0, 0, -1, 0, 0, 0, 1]), some (.int [1]), some (.int [0]), some (.int [0]), some (.ref 148), none], .ns 3 [some (.ref 148), some (.ref 153), some (.ref 157), none, none, none, none, none], .dict0, .tup [.int [0, 0, -1, 0, -1, 0, 1, 0, 1], .int [2], .int [0], .int [0], .ref 157], .tup [.int [1], .int [0]], .list true [.int [2], .int [1]], .ns 14 [], .dict0, .tup [.int [0, 0, 0, 0, -1, 0, 0, 0, 1], .int [1], .int [0], .int [0], .ref 162], .ns 2 [some (.ref 158), some (.ref 163), some (.int [0, 0, 0, 0, -1, 0, 0, 0, 1]), some (.int [1]), some (.int [0]), some (.int [0]), some (.ref 162), some (.int [0, 0, -1, 0, -1, 0, 1, 0, 1]), some (.int [2]), some (.int [0]), some (.int [0]), some (.ref 157), none], .ns 3 [some (.ref 157), some (.ref 162), some (.ref 166), none, none, none, none, none], .dict0, .tup [.int [0, 0, -1, 0, -2, 0, 1, 0, 2], .int [3], .int [0], .int [0], .ref 166], .tup [.int [1]], .list true [.int [2]], .ns 14 [], .dict0, .tup [.int [0, 0, 0, -1, 0, 0, 0, 1], .int [1], .int [0], .int [0], .ref 171], .ns 2 [some (.ref 167), some (.ref 172), some (.int [0, 0, 0, -1, 0, 0, 0, 1]), some (.int [1]), some (.int [0]), some (.int [0]), some (.ref 171), some (.int [0, 0, -1, 0, -2, 0, 1, 0, 2]), some (.int [3]), some (.int [0]), some (.int [0]), some (.ref 166), none], .ns 3 [some (.ref 166), some (.ref 171), some (.ref 175), none, none, none, none, none], .dict0, .tup [.int [0, 0, -1, -1, -2, 0, 1, 1, 2], .int [4], .int [0], .int [0], .ref 175], .tup [], .list true [], .ns 14 [], .dict0, .tup [.int [0, -1, 0, 0, 0, 1], .int [1], .int [0], .int [0], .ref 180], .ns 2 [some (.ref 176), some (.ref 181), some (.int [0, -1, 0, 0, 0, 1]), some (.int [1]), some (.int [0]), some (.int [0]), some (.ref 180), some (.int [0, 0, -1, -1, -2, 0, 1, 1, 2]), some (.int [4]), some (.int [0]), some (.int [0]), some (.ref 175), none], .ns 3 [some (.ref 175), some (.ref 180), some (.ref 184), none, none, none, none, none], .dict0, .tup [.int [0, -1, -1, -1, -2, 1, 1, 1, 2], .int [5], .int [0], .int [0], .ref 184]]
noncomputable def tA25 : AH := [.tab 0, .tab 1, .list true [.int [0, 1], .int [0, 0, 1], .int [0, 0, 0, 1], .int [0, 0, 0, 0, 1], .int [0, 0, 0, 0, 0, 1], .int [0, 0, 0, 0, 0, 0, 1], .int [0, 0, 0, 0, 0, 0, 0, 1], .int [0, 0, 0, 0, 0, 0, 0, 0, 1]], .ns 8 [some (.ref 2), some (.ref 4), some (.int [2]), some (.ref 194), some (.ref 139), some (.int []), none, none, none], .list true [.int [0, -2, 2, -1, 1, -1, 1, -2, 2], .int [0, -2, -1, 2, 1, -1, -2, 1, 2]], .range 0 3, .dict0, .tup [.int [0], .int [0], .int [0], .int [0], .ref 6], .tup [.int [0], .int [1], .int [2]], .tup [.int [0], .int [2], .int [1]], .tup [.int [1], .int [0], .int [2]], .tup [.int [1], .int [2], .int [0]], .tup [.int [2], .int [0], .int [1]], .tup [.int [2], .int [1], .int [0]], .list true [.ref 8, .ref 9, .ref 10, .ref 11, .ref 12, .ref 13], .tup [], .list true [], .ns 14 [], .dict0, .tup [.int [0, -1, 1], .int [1], .int [0], .int [0], .ref 18], .ns 2 [some (.ref 7), some (.ref 19), some (.int [0, -1, 1]), some (.int [1]), some (.int [0]), some (.int [0]), some (.ref 18), some (.int [0]), some (.int [0]), some (.int [0]), some (.int [0]), some (.ref 6), none], .ns 3 [some (.ref 6), some (.ref 18), some (.ref 22), none, none, none, none, none], .dict0, .tup [.int [0, -1, 1], .int [1], .int [0], .int [0], .ref 22], .tup [], .list true [], .ns 14 [], .dict0, .tup [.int [0, -1, 1], .int [1], .int [0], .int [0], .ref 27], .ns 2 [some (.ref 23), some (.ref 28), some (.int [0, -1, 1]), some (.int [1]), some (.int [0]), some (.int [0]), some (.ref 27), some (.int [0, -1, 1]), some (.int [1]), some (.int [0]), some (.int [0]), some (.ref 22), none], .ns 3 [some (.ref 22), some (.ref 27), some (.ref 31), none, none, none, none, none], .dict0, .tup [.int [0, -2, 2], .int [2], .int [0], .int [0], .ref 31], .tup [.int [1]], .list true [.int [2]], .ns 14 [], .dict0, .tup [.int [0, 0, 0, -1, 1], .int [1], .int [0], .int [0], .ref 36], .ns 2 [some (.ref 32), some (.ref 37), some (.int [0, 0, 0, -1, 1]), some (.int [1]), some (.int [0]), some (.int [0]), some (.ref 36), some (.int [0, -2, 2]), some (.int [2]), some (.int [0]), some (.int [0]), some (.ref 31), none], .ns 3 [some (.ref 31), some (.ref 36), some (.ref 40), none, none, none, none, none], .dict0, .tup [.int [0, -2, 2, -1, 1], .int [3], .int [0], .int [0], .ref 40], .tup [.int [1], .int [2]], .list true [.int [2], .int [4]], .ns 14 [], .dict0, .tup [.int [0, 0, 0, 0, 0, 0, 0, -1, 1], .int [1], .int [0], .int [0], .ref 45], .ns 2 [some (.ref 41), some (.ref 46), some (.int [0, 0, 0, 0, 0, 0, 0, -1, 1]), some (.int [1]), some (.int [0]), some (.int [0]), some (.ref 45), some (.int [0, -2, 2, -1, 1]), some (.int [3]), some (.int [0]), some (.int [0]), some (.ref 40), none], .ns 3 [some (.ref 40), some (.ref 45), some (.ref 49), none, none, none, none, none], .dict0, .tup [.int [0, -2, 2, -1, 1, 0, 0, -1, 1], .int [4], .int [0], .int [0], .ref 49], .tup [.int [2]], .list true [.int [4]], .ns 14 [], .dict0, .tup [.int [0, 0, 0, 0, 0, -1, 1], .int [1], .int [0], .int [0], .ref 54], .ns 2 [some (.ref 50), some (.ref 55), some (.int [0, 0, 0, 0, 0, -1, 1]), some (.int [1]), some (.int [0]), some (.int [0]), some (.ref 54), some (.int [0, -2, 2, -1, 1, 0, 0, -1, 1]), some (.int [4]), some (.int [0]), some (.int [0]), some (.ref 49), none], .ns 3 [some (.ref 49), some (.ref 54), some (.ref 58), none, none, none, none, none], .dict0, .tup [.int [0, -2, 2, -1, 1, -1, 1, -1, 1], .int [5], .int [0], .int [0], .ref 58], .tup [.int [2], .int [1]], .list true [.int [4], .int [2]], .ns 14 [], .dict0, .tup [.int [0, 0, 0, 0, 0, 0, 0, -1, 1], .int [1], .int [0], .int [0], .ref 63], .ns 2 [some (.ref 59), some (.ref 64), some (.int [0, 0, 0, 0, 0, 0, 0, -1, 1]), some (.int [1]), some (.int [0]), some (.int [0]), some (.ref 63), some (.int [0, -2, 2, -1, 1, -1, 1, -1, 1]), some (.int [5]), some (.int [0]), some (.int [0]), some (.ref 58), none], .ns 3 [some (.ref 58), some (.ref 63), some (.ref 67), none, none, none, none, none], .dict0, .tup [.int [0, -2, 2, -1, 1, -1, 1, -2, 2], .int [6], .int [0], .int [0], .ref 67], .dict0, .tup [.int [0], .int [0], .int [0], .int [0], .ref 69], .tup [.int [0], .int [1], .int [2]], .tup [.int [0], .int [2], .int [1]], .tup [.int [1], .int [0], .int [2]], .tup [.int [1], .int [2], .int [0]], .tup [.int [2], .int [0], .int [1]], .tup [.int [2], .int [1], .int [0]], .list true [.ref 71, .ref 72, .ref 73, .ref 74, .ref 75, .ref 76], .tup [.int [0]], .list true [.int [1]], .ns 14 [], .dict0, .tup [.int [0, 0, -1, 0, 1], .int [1], .int [0], .int [0], .ref 81], .ns 2 [some (.ref 70), some (.ref 82), some (.int [0, 0, -1, 0, 1]), some (.int [1]), some (.int [0]), some (.int [0]), some (.ref 81), some (.int [0]), some (.int [0]), some (.int [0]), some (.int [0]), some (.ref 69), none], .ns 3 [some (.ref 69), some (.ref 81), some (.ref 85), none, none, none, none, none], .dict0, .tup [.int [0, 0, -1, 0, 1], .int [1], .int [0], .int [0], .ref 85], .tup [.int [0], .int [2]], .list true [.int [1], .int [4]], .ns 14 [], .dict0, .tup [.int [0, 0, 0, 0, 0, 0, -1, 0, 1], .int [1], .int [0], .int [0], .ref 90], .ns 2 [some (.ref 86), some (.ref 91), some (.int [0, 0, 0, 0, 0, 0, -1, 0, 1]), some (.int [1]), some (.int [0]), some (.int [0]), some (.ref 90), some (.int [0, 0, -1, 0, 1]), some (.int [1]), some (.int [0]), some (.int [0]), some (.ref 85), none], .ns 3 [some (.ref 85), some (.ref 90), some (.ref 94), none, none, none, none, none], .dict0, .tup [.int [0, 0, -1, 0, 1, 0, -1, 0, 1], .int [2], .int [0], .int [0], .ref 94], .tup [], .list true [], .ns 14 [], .dict0, .tup [.int [0, -1, 0, 1], .int [1], .int [0], .int [0], .ref 99], .ns 2 [some (.ref 95), some (.ref 100), some (.int [0, -1, 0, 1]), some (.int [1]), some (.int [0]), some (.int [0]), some (.ref 99), some (.int [0, 0, -1, 0, 1, 0, -1, 0, 1]), some (.int [2]), some (.int [0]), some (.int [0]), some (.ref 94), none], .ns 3 [some (.ref 94), some (.ref 99), some (.ref 103), none, none, none, none, none], .dict0, .tup [.int [0, -1, -1, 1, 1, 0, -1, 0, 1], .int [3], .int [0], .int [0], .ref 103], .tup [], .list true [], .ns 14 [], .dict0, .tup [.int [0, -1, 0, 1], .int [1], .int [0], .int [0], .ref 108], .ns 2 [some (.ref 104), some (.ref 109), some (.int [0, -1, 0, 1]), some (.int [1]), some (.int [0]), some (.int [0]), some (.ref 108), some (.int [0, -1, -1, 1, 1, 0, -1, 0, 1]), some (.int [3]), some (.int [0]), some (.int [0]), some (.ref 103), none], .ns 3 [some (.ref 103), some (.ref 108), some (.ref 112), none, none, none, none, none], .dict0, .tup [.int [0, -2, -1, 2, 1, 0, -1, 0, 1], .int [4], .int [0], .int [0], .ref 112], .tup [.int [2], .int [0]], .list true [.int [4], .int [1]], .ns 14 [], .dict0, .tup [.int [0, 0, 0, 0, 0, 0, -1, 0, 1], .int [1], .int [0], .int [0], .ref 117], .ns 2 [some (.ref 113), some (.ref 118), some (.int [0, 0, 0, 0, 0, 0, -1, 0, 1]), some (.int [1]), some (.int [0]), some (.int [0]), some (.ref 117), some (.int [0, -2, -1, 2, 1, 0, -1, 0, 1]), some (.int [4]), some (.int [0]), some (.int [0]), some (.ref 112), none], .ns 3 [some (.ref 112), some (.ref 117), some (.ref 121), none, none, none, none, none], .dict0, .tup [.int [0, -2, -1, 2, 1, 0, -2, 0, 2], .int [5], .int [0], .int [0], .ref 121], .tup [.int [2]], .list true [.int [4]], .ns 14 [], .dict0, .tup [.int [0, 0, 0, 0, 0, -1, 0, 1], .int [1], .int [0], .int [0], .ref 126], .ns 2 [some (.ref 122), some (.ref 127), some (.int [0, 0, 0, 0, 0, -1, 0, 1]), some (.int [1]), some (.int [0]), some (.int [0]), some (.ref 126), some (.int [0, -2, -1, 2, 1, 0, -2, 0, 2]), some (.int [5]), some (.int [0]), some (.int [0]), some (.ref 121), none], .ns 3 [some (.ref 121), some (.ref 126), some (.ref 130), none, none, none, none, none], .dict0, .tup [.int [0, -2, -1, 2, 1, -1, -2, 1, 2], .int [6], .int [0], .int [0], .ref 130], .dict0, .tup [.int [0], .int [0], .int [0], .int [0], .ref 132], .tup [.int [0], .int [1], .int [2]], .tup [.int [0], .int [2], .int [1]], .tup [.int [1], .int [0], .int [2]], .tup [.int [1], .int [2], .int [0]], .tup [.int [2], .int [0], .int [1]], .tup [.int [2], .int [1], .int [0]], .list true [.ref 134, .ref 135, .ref 136, .ref 137, .ref 138, .ref 139], .tup [.int [0], .int [1]], .list true [.int [1], .int [2]], .ns 14 [], .dict0, .tup [.int [0, 0, 0, 0, -1, 0, 0, 0, 1], .int [1], .int [0], .int [0], .ref 144], .ns 2 [some (.ref 133), some (.ref 145), some (.int [0, 0, 0, 0, -1, 0, 0, 0, 1]), some (.int [1]), some (.int [0]), some (.int [0]), some (.ref 144), some (.int [0]), some (.int [0]), some (.int [0]), some (.int [0]), some (.ref 132), none], .ns 3 [some (.ref 132), some (.ref 144), some (.ref 148), none, none, none, none, none], .dict0, .tup [.int [0, 0, 0, 0, -1, 0, 0, 0, 1], .int [1], .int [0], .int [0], .ref 148], .tup [.int [0]], .list true [.int [1]], .ns 14 [], .dict0, .tup [.int [0, 0, -1, 0, 0, 0, 1], .int [1], .int [0], .int [0], .ref 153], .ns 2 [some (.ref 149), some (.ref 154), some (.int [0, 0, -1, 0, 0, 0, 1]), some (.int [1]), some (.int [0]), some (.int [0]), some (.ref 153), some (.int [0, 0, 0, 0, -1, 0, 0, 0, 1]), some (.int [1]), some (.int [0]), some (.int [0]), some (.ref 148), none], .ns 3 [some (.ref 148), some (.ref 153), some (.ref 157), none, none, none, none, none], .dict0, .tup [.int [0, 0, -1, 0, -1, 0, 1, 0, 1], .int [2], .int [0], .int [0], .ref 157], .tup [.int [1], .int [0]], .list true [.int [2], .int [1]], .ns 14 [], .dict0, .tup [.int [0, 0, 0, 0, -1, 0, 0, 0, 1], .int [1], .int [0], .int [0], .ref 162], .ns 2 [some (.ref 158), some (.ref 163), some (.int [0, 0, 0, 0, -1, 0, 0, 0, 1]), some (.int [1]), some (.int [0]), some (.int [0]), some (.ref 162), some (.int [0, 0, -1, 0, -1, 0, 1, 0, 1]), some (.int [2]), some (.int [0]), some (.int [0]), some (.ref 157), none], .ns 3 [some (.ref 157), some (.ref 162), some (.ref 166), none, none, none, none, none], .dict0, .tup [.int [0, 0, -1, 0, -2, 0, 1, 0, 2], .int [3], .int [0], .int [0], .ref 166], .tup [.int [1]], .list true [.int [2]], .ns 14 [], .dict0, .tup [.int [0, 0, 0, -1, 0, 0, 0, 1], .int [1], .int [0], .int [0], .ref 171], .ns 2 [some (.ref 167), some (.ref 172), some (.int [0, 0, 0, -1, 0, 0, 0, 1]), some (.int [1]), some (.int [0]), some (.int [0]), some (.ref 171), some (.int [0, 0, -1, 0, -2, 0, 1, 0, 2]), some (.int [3]), some (.int [0]), some (.int [0]), some (.ref 166), none], .ns 3 [some (.ref 166), some (.ref 171), some (.ref 175), none, none, none, none, none], .dict0, .tup [.int [0, 0, -1, -1, -2, 0, 1, 1, 2], .int [4], .int [0], .int [0], .ref 175], .tup [], .list true [], .ns 14 [], .dict0, .tup [.int [0, -1, 0, 0, 0, 1], .int [1], .int [0], .int [0], .ref 180], .ns 2 [some (.ref 176), some (.ref 181), some (.int [0, -1, 0, 0, 0, 1]), some (.int [1]), some (.int [0]), some (.int [0]), some (.ref 180), some (.int [0, 0, -1, -1, -2, 0, 1, 1, 2]), some (.int [4]), some (.int [0]), some (.int [0]), some (.ref 175), none], .ns 3 [some (.ref 175), some (.ref 180), some (.ref 184), none, none, none, none, none], .dict0, .tup [.int [0, -1, -1, -1, -2, 1, 1, 1, 2], .int [5], .int [0], .int [0], .ref 184], .tup [], .list true [], .ns 14 [], .dict0, .tup [.int [0, -1, 0, 0, 0, 1], .int [1], .int [0], .int [0], .ref 189], .ns 2 [some (.ref 185), some (.ref 190), some (.int [0, -1, 0, 0, 0, 1]), some (.int [1]), some (.int [0]), some (.int [0]), some (.ref 189), some (.int [0, -1, -1, -1, -2, 1, 1, 1, 2]), some (.int [5]), some (.int [0]), some (.int [0]), some (.ref 184), none], .ns 3 [some (.ref 184), some (.ref 189), some (.ref 193), none, none, none, none, none], .dict0, .tup [.int [0, -2, -1, -1, -2, 2, 1, 1, 2], .int [6], .int [0], .int [0], .ref 193]]
noncomputable def kA3 : AH := [.tab 0, .tab 1, .list true [.int [0, 1], .int [0, 0, 1], .int [0, 0, 0, 1], .int [0, 0, 0, 0, 1], .int [0, 0, 0, 0, 0, 1], .int [0, 0, 0, 0, 0, 0, 1], .int [0, 0, 0, 0, 0, 0, 0, 1], .int [0, 0, 0, 0, 0, 0, 0, 0, 1]], .ns 8 [some (.ref 2), some (.ref 4), some (.int [2]), some (.ref 194), some (.ref 139), some (.int []), none, none, none], .list true [.int [0, -2, 2, -1, 1, -1, 1, -2, 2], .int [0, -2, -1, 2, 1, -1, -2, 1, 2], .int [0, -2, -1, -1, -2, 2, 1, 1, 2]], .range 0 3, .dict0, .tup [.int [0], .int [0], .int [0], .int [0], .ref 6], .tup [.int [0], .int [1], .int [2]], .tup [.int [0], .int [2], .int [1]], .tup [.int [1], .int [0], .int [2]], .tup [.int [1], .int [2], .int [0]], .tup [.int [2], .int [0], .int [1]], .tup [.int [2], .int [1], .int [0]], .list true [.ref 8, .ref 9, .ref 10, .ref 11, .ref 12, .ref 13], .tup [], .list true [], .ns 14 [], .dict0, .tup [.int [0, -1, 1], .int [1], .int [0], .int [0], .ref 18], .ns 2 [some (.ref 7), some (.ref 19), some (.int [0, -1, 1]), some (.int [1]), some (.int [0]), some (.int [0]), some (.ref 18), some (.int [0]), some (.int [0]), some (.int [0]), some (.int [0]), some (.ref 6), none], .ns 3 [some (.ref 6), some (.ref 18), some (.ref 22), none, none, none, none, none], .dict0, .tup [.int [0, -1, 1], .int [1], .int [0], .int [0], .ref 22], .tup [], .list true [], .ns 14 [], .dict0, .tup [.int [0, -1, 1], .int [1], .int [0], .int [0], .ref 27], .ns 2 [some (.ref 23), some (.ref 28), some (.int [0, -1, 1]), some (.int [1]), some (.int [0]), some (.int [0]), some (.ref 27), some (.int [0, -1, 1]), some (.int [1]), some (.int [0]), some (.int [0]), some (.ref 22), none], .ns 3 [some (.ref 22), some (.ref 27), some (.ref 31), none, none, none, none, none], .dict0, .tup [.int [0, -2, 2], .int [2], .int [0], .int [0], .ref 31], .tup [.int [1]], .list true [.int [2]], .ns 14 [], .dict0, .tup [.int [0, 0, 0, -1, 1], .int [1], .int [0], .int [0], .ref 36], .ns 2 [some (.ref 32), some (.ref 37), some (.int [0, 0, 0, -1, 1]), some (.int [1]), some (.int [0]), some (.int [0]), some (.ref 36), some (.int [0, -2, 2]), some (.int [2]), some (.int [0]), some (.int [0]), some (.ref 31), none], .ns 3 [some (.ref 31), some (.ref 36), some (.ref 40), none, none, none, none, none], .dict0, .tup [.int [0, -2, 2, -1, 1], .int [3], .int [0], .int [0], .ref 40], .tup [.int [1], .int [2]], .list true [.int [2], .int [4]], .ns 14 [], .dict0, .tup [.int [0, 0, 0, 0, 0, 0, 0, -1, 1], .int [1], .int [0], .int [0], .ref 45], .ns 2 [some (.ref 41), some (.ref 46), some (.int [0, 0, 0, 0, 0, 0, 0, -1, 1]), some (.int [1]), some (.int [0]), some (.int [0]), some (.ref 45), some (.int [0, -2, 2, -1, 1]), some (.int [3]), some (.int [0]), some (.int [0]), some (.ref 40), none], .ns 3 [some (.ref 40), some (.ref 45), some (.ref 49), none, none, none, none, none], .dict0, .tup [.int [0, -2, 2, -1, 1, 0, 0, -1, 1], .int [4], .int [0], .int [0], .ref 49], .tup [.int [2]], .list true [.int [4]], .ns 14 [], .dict0, .tup [.int [0, 0, 0, 0, 0, -1, 1], .int [1], .int [0], .int [0], .ref 54], .ns 2 [some (.ref 50), some (.ref 55), some (.int [0, 0, 0, 0, 0, -1, 1]), some (.int [1]), some (.int [0]), some (.int [0]), some (.ref 54), some (.int [0, -2, 2, -1, 1, 0, 0, -1, 1]), some (.int [4]), some (.int [0]), some (.int [0]), some (.ref 49), none], .ns 3 [some (.ref 49), some (.ref 54), some (.ref 58), none, none, none, none, none], .dict0, .tup [.int [0, -2, 2, -1, 1, -1, 1, -1, 1], .int [5], .int [0], .int [0], .ref 58], .tup [.int [2], .int [1]], .list true [.int [4], .int [2]], .ns 14 [], .dict0, .tup [.int [0, 0, 0, 0, 0, 0, 0, -1, 1], .int [1], .int [0], .int [0], .ref 63], .ns 2 [some (.ref 59), some (.ref 64), some (.int [0, 0, 0, 0, 0, 0, 0, -1, 1]), some (.int [1]), some (.int [0]), some (.int [0]), some (.ref 63), some (.int [0, -2, 2, -1, 1, -1, 1, -1, 1]), some (.int [5]), some (.int [0]), some (.int [0]), some (.ref 58), none], .ns 3 [some (.ref 58), some (.ref 63), some (.ref 67), none, none, none, none, none], .dict0, .tup [.int [0, -2, 2, -1, 1, -1, 1, -2, 2], .int [6], .int [0], .int [0], .ref 67], .dict0, .tup [.int [0], .int [0], .int [0], .int [0], .ref 69], .tup [.int [0], .int [1], .int [2]], .tup [.int [0], .int [2], .int [1]], .tup [.int [1], .int [0], .int [2]], .tup [.int [1], .int [2], .int [0]], .tup [.int [2], .int [0], .int [1]], .tup [.int [2], .int [1], .int [0]], .list true [.ref 71, .ref 72, .ref 73, .ref 74, .ref 75, .ref 76], .tup [.int [0]], .list true [.int [1]], .ns 14 [], .dict0, .tup [.int [0, 0, -1, 0, 1], .int [1], .int [0], .int [0], .ref 81], .ns 2 [some (.ref 70), some (.ref 82), some (.int [0, 0, -1, 0, 1]), some (.int [1]), some (.int [0]), some (.int [0]), some (.ref 81), some (.int [0]), some (.int [0]), some (.int [0]), some (.int [0]), some (.ref 69), none], .ns 3 [some (.ref 69), some (.ref 81), some (.ref 85), none, none, none, none, none], .dict0, .tup [.int [0, 0, -1, 0, 1], .int [1], .int [0], .int [0], .ref 85], .tup [.int [0], .int [2]], .list true [.int [1], .int [4]], .ns 14 [], .dict0, .tup [.int [0, 0, 0, 0, 0, 0, -1, 0, 1], .int [1], .int [0], .int [0], .ref 90], .ns 2 [some (.ref 86), some (.ref 91), some (.int [0, 0, 0, 0, 0, 0, -1, 0, 1]), some (.int [1]), some (.int [0]), some (.int [0]), some (.ref 90), some (.int [0, 0, -1, 0, 1]), some (.int [1]), some (.int [0]), some (.int [0]), some (.ref 85), none], .ns 3 [some (.ref 85), some (.ref 90), some (.ref 94), none, none, none, none, none], .dict0, .tup [.int [0, 0, -1, 0, 1, 0, -1, 0, 1], .int [2], .int [0], .int [0], .ref 94], .tup [], .list true [], .ns 14 [], .dict0, .tup [.int [0, -1, 0, 1], .int [1], .int [0], .int [0], .ref 99], .ns 2 [some (.ref 95), some (.ref 100), some (.int [0, -1, 0, 1]), some (.int [1]), some (.int [0]), some (.int [0]), some (.ref 99), some (.int [0, 0, -1, 0, 1, 0, -1, 0, 1]), some (.int [2]), some (.int [0]), some (.int [0]), some (.ref 94), none], .ns 3 [some (.ref 94), some (.ref 99), some (.ref 103), none, none, none, none, none], .dict0, .tup [.int [0, -1, -1, 1, 1, 0, -1, 0, 1], .int [3], .int [0], .int [0], .ref 103], .tup [], .list true [], .ns 14 [], .dict0, .tup [.int [0, -1, 0, 1], .int [1], .int [0], .int [0], .ref 108], .ns 2 [some (.ref 104), some (.ref 109), some (.int [0, -1, 0, 1]), some (.int [1]), some (.int [0]), some (.int [0]), some (.ref 108), some (.int [0, -1, -1, 1, 1, 0, -1, 0, 1]), some (.int [3]), some (.int [0]), some (.int [0]), some (.ref 103), none], .ns 3 [some (.ref 103), some (.ref 108), some (.ref 112), none, none, none, none, none], .dict0, .tup [.int [0, -2, -1, 2, 1, 0, -1, 0, 1], .int [4], .int [0], .int [0], .ref 112], .tup [.int [2], .int [0]], .list true [.int [4], .int [1]], .ns 14 [], .dict0, .tup [.int [0, 0, 0, 0, 0, 0, -1, 0, 1], .int [1], .int [0], .int [0], .ref 117], .ns 2 [some (.ref 113), some (.ref 118), some (.int [0, 0, 0, 0, 0, 0, -1, 0, 1]), some (.int [1]), some (.int [0]), some (.int [0]), some (.ref 117), some (.int [0, -2, -1, 2, 1, 0, -1, 0, 1]), some (.int [4]), some (.int [0]), some (.int [0]), some (.ref 112), none], .ns 3 [some (.ref 112), some (.ref 117), some (.ref 121), none, none, none, none, none], .dict0, .tup [.int [0, -2, -1, 2, 1, 0, -2, 0, 2], .int [5], .int [0], .int [0], .ref 121], .tup [.int [2]], .list true [.int [4]], .ns 14 [], .dict0, .tup [.int [0, 0, 0, 0, 0, -1, 0, 1], .int [1], .int [0], .int [0], .ref 126], .ns 2 [some (.ref 122), some (.ref 127), some (.int [0, 0, 0, 0, 0, -1, 0, 1]), some (.int [1]), some (.int [0]), some (.int [0]), some (.ref 126), some (.int [0, -2, -1, 2, 1, 0, -2, 0, 2]), some (.int [5]), some (.int [0]), some (.int [0]), some (.ref 121), none], .ns 3 [some (.ref 121), some (.ref 126), some (.ref 130), none, none, none, none, none], .dict0, .tup [.int [0, -2, -1, 2, 1, -1, -2, 1, 2], .int [6], .int [0], .int [0], .ref 130], .dict0, .tup [.int [0], .int [0], .int [0], .int [0], .ref 132], .tup [.int [0], .int [1], .int [2]], .tup [.int [0], .int [2], .int [1]], .tup [.int [1], .int [0], .int [2]], .tup [.int [1], .int [2], .int [0]], .tup [.int [2], .int [0], .int [1]], .tup [.int [2], .int [1], .int [0]], .list true [.ref 134, .ref 135, .ref 136, .ref 137, .ref 138, .ref 139], .tup [.int [0], .int [1]], .list true [.int [1], .int [2]], .ns 14 [], .dict0, .tup [.int [0, 0, 0, 0, -1, 0, 0, 0, 1], .int [1], .int [0], .int [0], .ref 144], .ns 2 [some (.ref 133), some (.ref 145), some (.int [0, 0, 0, 0, -1, 0, 0, 0, 1]), some (.int [1]), some (.int [0]), some (.int [0]), some (.ref 144), some (.int [0]), some (.int [0]), some (.int [0]), some (.int [0]), some (.ref 132), none], .ns 3 [some (.ref 132), some (.ref 144), some (.ref 148), none, none, none, none, none], .dict0, .tup [.int [0, 0, 0, 0, -1, 0, 0, 0, 1], .int [1], .int [0], .int [0], .ref 148], .tup [.int [0]], .list true [.int [1]], .ns 14 [], .dict0, .tup [.int [0, 0, -1, 0, 0, 0, 1], .int [1], .int [0], .int [0], .ref 153], .ns 2 [some (.ref 149), some (.ref 154), some (.int [0, 0, -1, 0, 0, 0, 1]), some (.int [1]), some (.int [0]), some (.int [0]), some (.ref 153), some (.int [0, 0, 0, 0, -1, 0, 0, 0, 1]), some (.int [1]), some (.int [0]), some (.int [0]), some (.ref 148), none], .ns 3 [some (.ref 148), some (.ref 153), some (.ref 157), none, none, none, none, none], .dict0, .tup [.int [0, 0, -1, 0, -1, 0, 1, 0, 1], .int [2], .int [0], .int [0], .ref 157], .tup [.int [1], .int [0]], .list true [.int [2], .int [1]], .ns 14 [], .dict0, .tup [.int [0, 0, 0, 0, -1, 0, 0, 0, 1], .int [1], .int [0], .int [0], .ref 162], .ns 2 [some (.ref 158), some (.ref 163), some (.int [0, 0, 0, 0, -1, 0, 0, 0, 1]), some (.int [1]), some (.int [0]), some (.int [0]), some (.ref 162), some (.int [0, 0, -1, 0, -1, 0, 1, 0, 1]), some (.int [2]), some (.int [0]), some (.int [0]), some (.ref 157), none], .ns 3 [some (.ref 157), some (.ref 162), some (.ref 166), none, none, none, none, none], .dict0, .tup [.int [0, 0, -1, 0, -2, 0, 1, 0, 2], .int [3], .int [0], .int [0], .ref 166], .tup [.int [1]], .list true [.int [2]], .ns 14 [], .dict0, .tup [.int [0, 0, 0, -1, 0, 0, 0, 1], .int [1], .int [0], .int [0], .ref 171], .ns 2 [some (.ref 167), some (.ref 172), some (.int [0, 0, 0, -1, 0, 0, 0, 1]), some (.int [1]), some (.int [0]), some (.int [0]), some (.ref 171), some (.int [0, 0, -1, 0, -2, 0, 1, 0, 2]), some (.int [3]), some (.int [0]), some (.int [0]), some (.ref 166), none], .ns 3 [some (.ref 166), some (.ref 171), some (.ref 175), none, none, none, none, none], .dict0, .tup [.int [0, 0, -1, -1, -2, 0, 1, 1, 2], .int [4], .int [0], .int [0], .ref 175], .tup [], .list true [], .ns 14 [], .dict0, .tup [.int [0, -1, 0, 0, 0, 1], .int [1], .int [0], .int [0], .ref 180], .ns 2 [some (.ref 176), some (.ref 181), some (.int [0, -1, 0, 0, 0, 1]), some (.int [1]), some (.int [0]), some (.int [0]), some (.ref 180), some (.int [0, 0, -1, -1, -2, 0, 1, 1, 2]), some (.int [4]), some (.int [0]), some (.int [0]), some (.ref 175), none], .ns 3 [some (.ref 175), some (.ref 180), some (.ref 184), none, none, none, none, none], .dict0, .tup [.int [0, -1, -1, -1, -2, 1, 1, 1, 2], .int [5], .int [0], .int [0], .ref 184], .tup [], .list true [], .ns 14 [], .dict0, .tup [.int [0, -1, 0, 0, 0, 1], .int [1], .int [0], .int [0], .ref 189], .ns 2 [some (.ref 185), some (.ref 190), some (.int [0, -1, 0, 0, 0, 1]), some (.int [1]), some (.int [0]), some (.int [0]), some (.ref 189), some (.int [0, -1, -1, -1, -2, 1, 1, 1, 2]), some (.int [5]), some (.int [0]), some (.int [0]), some (.ref 184), none], .ns 3 [some (.ref 184), some (.ref 189), some (.ref 193), none, none, none, none, none], .dict0, .tup [.int [0, -2, -1, -1, -2, 2, 1, 1, 2], .int [6], .int [0], .int [0], .ref 193]]
noncomputable def pA2 : AH := outO (bindT e80 kA2 (.one (.loc 2)) (.one (.int [2])))
noncomputable def qA2 : AH := outH (run P2 54 (.B e80 (b80.take 1)) pA2)
theorem x80_2p : bindT e80 kA2 (.one (.loc 2)) (.one (.int [2])) = some pA2 := by kernel_rfl
theorem x80_2q : run P2 54 (.B e80 (b80.take 1)) pA2 = some (.nx, qA2) := by kernel_rfl
theorem x80_2s : run P2 51 (.E e80 (forSrc b80 1)) qA2 = some (.v (.ref 140), sA2) := by kernel_rfl
theorem x80_20 : (bO (bindT e80 sA2 (.one (.loc 4)) (.one (.ref 134))) fun H1 => run P2 50 (.B e80 i80) H1) = some (.nx, tA20) := by kernel_rfl
theorem x80_21 : (bO (bindT e80 tA20 (.one (.loc 4)) (.one (.ref 135))) fun H1 => run P2 49 (.B e80 i80) H1) = some (.nx, tA21) := by kernel_rfl
theorem x80_22 : (bO (bindT e80 tA21 (.one (.loc 4)) (.one (.ref 136))) fun H1 => run P2 48 (.B e80 i80) H1) = some (.nx, tA22) := by kernel_rfl
theorem x80_23 : (bO (bindT e80 tA22 (.one (.loc 4)) (.one (.ref 137))) fun H1 => run P2 47 (.B e80 i80) H1) = some (.nx, tA23) := by kernel_rfl
theorem x80_24 : (bO (bindT e80 tA23 (.one (.loc 4)) (.one (.ref 138))) fun H1 => run P2 46 (.B e80 i80) H1) = some (.nx, tA24) := by kernel_rfl
theorem x80_25 : (bO (bindT e80 tA24 (.one (.loc 4)) (.one (.ref 139))) fun H1 => run P2 45 (.B e80 i80) H1) = some (.nx, tA25) := by kernel_rfl
theorem x80_2e : run P2 52 (.B e80 (b80.drop 2)) tA25 = some (.nx, kA3) := by kernel_rfl
theorem r80_2 : (bO (bindT e80 kA2 (.one (.loc 2)) (.one (.int [2]))) fun H1 => run P2 54 (.B e80 b80) H1) = some (.nx, kA3) := by
  refine bO_go x80_2p ?_
  rw [← List.take_append_drop 1 b80]
  refine (B_app (n := 52) (b80.take 1) x80_2q).trans ?_
  rw [c80]
  refine (B_cons (n := 52) (H1 := tA25) ?_).trans x80_2e
  refine (S_for (n := 51) (so := .list 140) x80_2s (by kernel_rfl)).trans ?_
  refine (F_turn (n := 50) (by kernel_rfl) x80_20).trans ?_
  refine (F_turn (n := 49) (by kernel_rfl) x80_21).trans ?_
  refine (F_turn (n := 48) (by kernel_rfl) x80_22).trans ?_
  refine (F_turn (n := 47) (by kernel_rfl) x80_23).trans ?_
  refine (F_turn (n := 46) (by kernel_rfl) x80_24).trans ?_
  refine (F_turn (n := 45) (by kernel_rfl) x80_25).trans ?_
  exact F_end (n := 44) (by kernel_rfl)
theorem r80 : callG G80 P2 60 [.ref 2] H0b = some (.ref 4, kA3) := by
  refine callG_ret ?_ rfl
  have hb : G80.body = Nb10.x.take 1 ++ Nb10.x.drop 1 := (List.take_append_drop 1 Nb10.x).symm
  rw [hb]
  refine (B_app (n := 58) (Nb10.x.take 1) r80a).trans ?_
  rw [d80]
  refine (B_cons (n := 58) (H1 := kA3) ?_).trans (by kernel_rfl)
  refine (S_for (n := 57) (so := .range 0 3) r80b (by kernel_rfl)).trans ?_
  refine (F_turn (n := 56) (by kernel_rfl) r80_0).trans ?_
  refine (F_turn (n := 55) (by kernel_rfl) r80_1).trans ?_
  refine (F_turn (n := 54) (by kernel_rfl) r80_2).trans ?_
  exact F_end (n := 53) (by kernel_rfl)
theorem run80 : chk (callG G80 P2 60 [.ref 2] H0b) 3 (.list partsL) = true := by
  rw [r80]; decide +kernel
theorem run85 : (tblO.all fun p => chk (callG G85 P2 60 [.ref 2, .int [p.1]] H0b) 3 (.int p.2)) = true := by decide +kernel
end Mine

namespace Mine
noncomputable abbrev tabs : List (Addr × Addr) := [(55, 51), (48, 44)]
noncomputable def dfl : NS := ⟨"", ⟨[], [], none, [], [], none, []⟩, [], default, default⟩
noncomputable def niS (f : Nat) : NInfo where
  name := (st.defs.getD f dfl).name
  qual := ((recAt (if f = 0 then 5 else 6)).name ++ ".<locals>.") ++ (st.defs.getD f dfl).name
  params := (st.defs.getD f dfl).params
  body := (st.defs.getD f dfl).body
  scope := (st.defs.getD f dfl).scope
  P := if f = 0 then 44 else 51
  c := if f = 0 then 48 else 55
  pos := (st.defs.getD f dfl).pos
noncomputable def σ0 (i : Nat) : Int := match i with
  | 0 => 1
  | _ => 0
noncomputable def π0 (h1 : Heap) (sv : Value) (raw : Nat → Int) : Par := { hb := ghostOf h1 tabs, σ := σ0, raw := raw, sv := sv, ni := niS, scs := scOf st }
noncomputable def pnames (a : Arguments) : List Str := a.args.map (·.arg)
noncomputable def parB (full : List (Str × NameKind)) : List Str → List (Str × NameKind) → Bool
  | [], _ => true
  | p :: r, (x, k) :: t => (p == x) && ((k == .local || k == .cell) && (decide (full.lookup p = some k) && parB full r t))
  | _ :: _, [] => false
theorem parB_at {full : List (Str × NameKind)} : ∀ {ps : List Str} {ns : List (Str × NameKind)}, parB full ps ns = true → ∀ (i : Nat) (nm : Str), ps[i]? = some nm → ∃ k, ns[i]? = some (nm, k) ∧ (k = .local ∨ k = .cell) ∧ full.lookup nm = some k
  | [], _, _, i, nm, e => by simp at e
  | p :: r, (x, k) :: t, h, i, nm, e => by
    simp only [parB, Bool.and_eq_true, Bool.or_eq_true, beq_iff_eq, decide_eq_true_eq] at h
    obtain ⟨h1, h2, h3, h4⟩ := h
    cases i with
    | zero =>
      have e : p = nm := by simpa using e
      subst e; subst h1
      exact ⟨k, rfl, h2, h3⟩
    | succ i => simpa using parB_at h4 i nm (by simpa using e)
  | _ :: _, [], h, _, _, _ => by cases h
noncomputable def statB (S : Scope) (G : GFn) (ps : List Str) : Bool :=
  decide (G.kinds = S.names.map isCell) && (decide (S.kind = .function) && (decide ((S.names.map (·.1)).Nodup) && ((ps.length == G.np) && (parB S.names ps S.names && (!S.isCoroutine && !S.isGenerator)))))
section
variable {w : World} {pp : Params} {mg mb : Str → Option Value} {h1 : Heap} {loose : List Str} {mean : ExcName → Option Value} {sv : Value} {raw : Nat → Int}
theorem fnp {k : Nat} {G : GFn} {cd : Value} (hst : statB (sc k) G (pnames (recAt k).params) = true) (hsc : scOf st G.sc = sc k) (hcf : ∀ g, G.cf = g + 1 → cd = .ref (niS g).c ∧ ((recAt k).name ++ ".<locals>.") ++ (niS g).name = (niS g).qual) :
    FnP (π0 h1 sv raw) G (sc k) (recAt k).name cd (pnames (recAt k).params) ∧ (sc k).isCoroutine = false ∧ (sc k).isGenerator = false := by
  simp only [statB, Bool.and_eq_true, decide_eq_true_eq, beq_iff_eq, Bool.not_eq_true'] at hst
  obtain ⟨a, b, c, d, e, f, g⟩ := hst
  exact ⟨⟨hsc, a, b, c, d, parB_at e, hcf⟩, f, g⟩
theorem code_ghost {cd : Value} {q : Str} (hT : TabsAt tabs h1) (x : h1.CodeRec cd q) : (ghostOf h1 tabs).CodeRec cd q := by
  obtain ⟨c, o, vs, t, e1, e2, e3, e4⟩ := x
  refine ⟨c, o, vs, t, e1, ghost_get hT e2 fun q => ?_, e3, e4⟩
  rw [q] at e3
  cases e3
  simp at e4
theorem fnok (T : Top hd.view_39 loose mean mg mb h1) (hT : TabsAt tabs h1) (X : (hd.heap_39 pp).In (ghostOf h1 tabs)) (k j : Nat) (f : Addr) (G : GFn) (hj : (recsOf hd.view_39)[j]? = some (recAt k)) (hns : nsIn (hd.heap_39 pp) mainGlobals (recAt k).name = some (some (.ref f)))
    (hsc : scOf st G.sc = sc k) (htr : TrB st (sc k) G.body (bd k)) (hst : statB (sc k) G (pnames (recAt k).params) = true)
    (hbind : ∀ pm cd doc (cs : List Value), cs.length = G.np → bindArgs (docDef (recAt k).name (recAt k).params (bd k) (sc k) pm cd doc) ⟨cs, []⟩ = pure ((pnames (recAt k).params).zip cs))
    (hcf : ∀ g, G.cf = g + 1 → tabIn (hd.heap_39 pp) (recAt k).name = some ((niS g).c, (niS g).P) ∧ ((recAt k).name ++ ".<locals>.") ++ (niS g).name = (niS g).qual) : FnOK (π0 h1 sv raw) st G f := by
  obtain ⟨a, o, pm, code, doc, q1, q2, q3, q4⟩ := T.fn _ (List.mem_of_getElem? hj)
  have g' : (ghostOf h1 tabs).Ns mainGlobals mg := ghost_ns hT T.g
  have e1 := mg_of X g' hns
  rw [q1] at e1
  cases e1
  have q2' : (ghostOf h1 tabs).get? f = some o := ghost_get hT q2 fun q => by rw [q] at q3; cases q3
  obtain ⟨r1, r2, r3⟩ := fnp (h1 := h1) (sv := sv) (raw := raw) (cd := code) hst hsc fun g hg => ⟨law_code X g' (hcf g hg).1 q1 q2' q3, (hcf g hg).2⟩
  exact ⟨o, _, _, _, _, pm, code, doc, _, q2', q3, code_ghost hT q4, r1, hsc, htr, r2, r3, hbind pm code doc⟩
end
end Mine

namespace Mine
theorem len1 {cs : List Value} (h : cs.length = 1) : ∃ a, cs = [a] := List.length_eq_one_iff.mp h
theorem len2 {cs : List Value} (h : cs.length = 2) : ∃ a b, cs = [a, b] := by
  cases cs with
  | nil => cases h
  | cons a cs =>
    obtain ⟨b, rfl⟩ := len1 (Nat.succ.inj h)
    exact ⟨a, b, rfl⟩
theorem len3 {cs : List Value} (h : cs.length = 3) : ∃ a b c, cs = [a, b, c] := by
  cases cs with
  | nil => cases h
  | cons a cs =>
    obtain ⟨b, c, rfl⟩ := len2 (Nat.succ.inj h)
    exact ⟨a, b, c, rfl⟩
theorem trB_x {S : Scope} {b : List XS} {l : List Stmt} (n : Nf b) (h : TrB st S b l) : TrB st S n.x l := n.e ▸ h
section
variable {w : World} {pp : Params} {mg mb : Str → Option Value} {h1 : Heap} {loose : List Str} {mean : ExcName → Option Value} {sv : Value} {raw : Nat → Int}
theorem ok21 (T : Top hd.view_39 loose mean mg mb h1) (hT : TabsAt tabs h1) (X : (hd.heap_39 pp).In (ghostOf h1 tabs)) : FnOK (π0 h1 sv raw) st G21 21 := by
  refine fnok T hT X 0 0 21 G21 (by kernel_rfl) (by kernel_rfl) tr.s0 (trB_x Nb0 tr.t0) (by decide +kernel) ?_ (fun g hg => nomatch (show (0 : Nat) = g + 1 from hg))
  ·
    intro pm cd doc cs hcs
    obtain ⟨a, b, rfl⟩ := len2 hcs
    rfl
theorem ok28 (T : Top hd.view_39 loose mean mg mb h1) (hT : TabsAt tabs h1) (X : (hd.heap_39 pp).In (ghostOf h1 tabs)) : FnOK (π0 h1 sv raw) st G28 28 := by
  refine fnok T hT X 1 1 28 G28 (by kernel_rfl) (by kernel_rfl) tr.s1 (trB_x Nb1 tr.t1) (by decide +kernel) ?_ (fun g hg => nomatch (show (0 : Nat) = g + 1 from hg))
  ·
    intro pm cd doc cs hcs
    obtain ⟨a, b, rfl⟩ := len2 hcs
    rfl
theorem ok35 (T : Top hd.view_39 loose mean mg mb h1) (hT : TabsAt tabs h1) (X : (hd.heap_39 pp).In (ghostOf h1 tabs)) : FnOK (π0 h1 sv raw) st G35 35 := by
  refine fnok T hT X 3 2 35 G35 (by kernel_rfl) (by kernel_rfl) tr.s3 (trB_x Nb3 tr.t3) (by decide +kernel) ?_ (fun g hg => nomatch (show (0 : Nat) = g + 1 from hg))
  ·
    intro pm cd doc cs hcs
    obtain ⟨a, b, c, rfl⟩ := len3 hcs
    rfl
theorem ok49 (T : Top hd.view_39 loose mean mg mb h1) (hT : TabsAt tabs h1) (X : (hd.heap_39 pp).In (ghostOf h1 tabs)) : FnOK (π0 h1 sv raw) st G49 49 := by
  refine fnok T hT X 5 4 49 G49 (by kernel_rfl) (by kernel_rfl) tr.s5 (trB_x Nb5 tr.t5) (by decide +kernel) ?_ (fun g hg => by
    have : g = 0 := by have : (1 : Nat) = g + 1 := hg; omega
    subst this
    exact ⟨by kernel_rfl, rfl⟩)
  ·
    intro pm cd doc cs hcs
    obtain ⟨a, b, rfl⟩ := len2 hcs
    rfl
theorem ok56 (T : Top hd.view_39 loose mean mg mb h1) (hT : TabsAt tabs h1) (X : (hd.heap_39 pp).In (ghostOf h1 tabs)) : FnOK (π0 h1 sv raw) st G56 56 := by
  refine fnok T hT X 6 5 56 G56 (by kernel_rfl) (by kernel_rfl) tr.s6 (trB_x Nb6 tr.t6) (by decide +kernel) ?_ (fun g hg => by
    have : g = 1 := by have : (2 : Nat) = g + 1 := hg; omega
    subst this
    exact ⟨by kernel_rfl, rfl⟩)
  ·
    intro pm cd doc cs hcs
    obtain ⟨a, b, rfl⟩ := len2 hcs
    rfl
theorem ok63 (T : Top hd.view_39 loose mean mg mb h1) (hT : TabsAt tabs h1) (X : (hd.heap_39 pp).In (ghostOf h1 tabs)) : FnOK (π0 h1 sv raw) st G63 63 := by
  refine fnok T hT X 7 6 63 G63 (by kernel_rfl) (by kernel_rfl) tr.s7 (trB_x Nb7 tr.t7) (by decide +kernel) ?_ (fun g hg => nomatch (show (0 : Nat) = g + 1 from hg))
  ·
    intro pm cd doc cs hcs
    obtain ⟨a, b, rfl⟩ := len2 hcs
    rfl
theorem ok70 (T : Top hd.view_39 loose mean mg mb h1) (hT : TabsAt tabs h1) (X : (hd.heap_39 pp).In (ghostOf h1 tabs)) : FnOK (π0 h1 sv raw) st G70 70 := by
  refine fnok T hT X 8 7 70 G70 (by kernel_rfl) (by kernel_rfl) tr.s8 (trB_x Nb8 tr.t8) (by decide +kernel) ?_ (fun g hg => nomatch (show (0 : Nat) = g + 1 from hg))
  ·
    intro pm cd doc cs hcs
    obtain ⟨a, b, rfl⟩ := len2 hcs
    rfl
theorem ok75 (T : Top hd.view_39 loose mean mg mb h1) (hT : TabsAt tabs h1) (X : (hd.heap_39 pp).In (ghostOf h1 tabs)) : FnOK (π0 h1 sv raw) st G75 75 := by
  refine fnok T hT X 9 8 75 G75 (by kernel_rfl) (by kernel_rfl) tr.s9 (trB_x Nb9 tr.t9) (by decide +kernel) ?_ (fun g hg => nomatch (show (0 : Nat) = g + 1 from hg))
  ·
    intro pm cd doc cs hcs
    obtain ⟨a, rfl⟩ := len1 hcs
    rfl
theorem ok80 (T : Top hd.view_39 loose mean mg mb h1) (hT : TabsAt tabs h1) (X : (hd.heap_39 pp).In (ghostOf h1 tabs)) : FnOK (π0 h1 sv raw) st G80 80 := by
  refine fnok T hT X 10 9 80 G80 (by kernel_rfl) (by kernel_rfl) tr.s10 (trB_x Nb10 tr.t10) (by decide +kernel) ?_ (fun g hg => nomatch (show (0 : Nat) = g + 1 from hg))
  ·
    intro pm cd doc cs hcs
    obtain ⟨a, rfl⟩ := len1 hcs
    rfl
theorem ok85 (T : Top hd.view_39 loose mean mg mb h1) (hT : TabsAt tabs h1) (X : (hd.heap_39 pp).In (ghostOf h1 tabs)) : FnOK (π0 h1 sv raw) st G85 85 := by
  refine fnok T hT X 11 10 85 G85 (by kernel_rfl) (by kernel_rfl) tr.s11 (trB_x Nb11 tr.t11) (by decide +kernel) ?_ (fun g hg => nomatch (show (0 : Nat) = g + 1 from hg))
  ·
    intro pm cd doc cs hcs
    obtain ⟨a, b, rfl⟩ := len2 hcs
    rfl
end
end Mine

namespace Mine
noncomputable def fnB (K : Frag) : List (Str × Nat) → Bool
  | [] => true
  | (nm, f) :: r => (match nsIn K mainGlobals nm with | some (some (.ref a)) => a == f | _ => false) && ((match K.lookup f with | some ⟨_, _, .func _, _⟩ => true | _ => false) && fnB K r)
theorem fnB_at {K : Frag} : ∀ {l : List (Str × Nat)}, fnB K l = true → ∀ nm f, l.lookup nm = some f → nsIn K mainGlobals nm = some (some (.ref f)) ∧ ∃ o fd, K.lookup f = some o ∧ o.data = .func fd
  | [], _, _, _, e => by cases e
  | (y, g) :: r, h, nm, f, e => by
    simp only [fnB, Bool.and_eq_true] at h
    rw [List.lookup_cons] at e
    split at e
    · rename_i hy
      have hy : nm = y := by simpa using hy
      cases e
      subst hy
      obtain ⟨h1, h2, _⟩ := h
      refine ⟨?_, ?_⟩
      · split at h1
        · rename_i a q
          rw [q]
          have : a = g := by simpa using h1
          rw [this]
        · cases h1
      · split at h2
        · rename_i q
          exact ⟨_, _, q, rfl⟩
        · cases h2
    · exact fnB_at h.2.2 nm f e
noncomputable def giB (K : Frag) : List (Str × Int) → Bool
  | [] => true
  | (nm, i) :: r => (match nsIn K mainGlobals nm with | some (some (.int a _)) => a == i | _ => false) && giB K r
theorem giB_at {K : Frag} : ∀ {l : List (Str × Int)}, giB K l = true → ∀ nm i, l.lookup nm = some i → ∃ t, nsIn K mainGlobals nm = some (some (.int i t))
  | [], _, _, _, e => by cases e
  | (y, g) :: r, h, nm, f, e => by
    simp only [giB, Bool.and_eq_true] at h
    rw [List.lookup_cons] at e
    split at e
    · rename_i hy
      have hy : nm = y := by simpa using hy
      cases e
      subst hy
      obtain ⟨h1, _⟩ := h
      split at h1
      · rename_i a t q
        have : a = g := by simpa using h1
        exact ⟨t, by rw [q, this]⟩
      · cases h1
    · exact giB_at h.2 nm f e
section
variable {w : World} {pp : Params} {mg mb : Str → Option Value} {h1 : Heap} {loose : List Str} {mean : ExcName → Option Value} {sv : Value} {raw : Nat → Int}
theorem bind3 {name qual : Str} (cs : List Value) (hcs : cs.length = 3) (cl : List (Str × Addr)) (doc pm cdv ct : Value) :
    bindArgs (fnX name qual (niS 0).params (niS 0).body (niS 0).scope cl .none .none doc pm none cdv ct) ⟨cs, []⟩ = pure ((pnames (niS 0).params).zip cs) := by
  obtain ⟨a, b, c, rfl⟩ := len3 hcs
  rfl
theorem bind2 {name qual : Str} (cs : List Value) (hcs : cs.length = 2) (cl : List (Str × Addr)) (doc pm cdv ct : Value) :
    bindArgs (fnX name qual (niS 1).params (niS 1).body (niS 1).scope cl .none .none doc pm none cdv ct) ⟨cs, []⟩ = pure ((pnames (niS 1).params).zip cs) := by
  obtain ⟨a, b, rfl⟩ := len2 hcs
  rfl
noncomputable def parL (full : List (Str × NameKind)) : List Str → List (Str × NameKind) → Bool
  | [], _ => true
  | p :: r, (x, k) :: t => (p == x) && ((k == .local) && (decide (full.lookup p = some k) && parL full r t))
  | _ :: _, [] => false
theorem parL_at {full : List (Str × NameKind)} : ∀ {ps : List Str} {ns : List (Str × NameKind)}, parL full ps ns = true → ∀ (i : Nat) (nm : Str), ps[i]? = some nm → ns[i]? = some (nm, .local) ∧ full.lookup nm = some .local
  | [], _, _, i, nm, e => by simp at e
  | p :: r, (x, k) :: t, h, i, nm, e => by
    simp only [parL, Bool.and_eq_true, beq_iff_eq, decide_eq_true_eq] at h
    obtain ⟨h1, h2, h3, h4⟩ := h
    cases i with
    | zero =>
      have e : p = nm := by simpa using e
      subst e; subst h1; subst h2
      exact ⟨rfl, h3⟩
    | succ i => simpa using parL_at h4 i nm (by simpa using e)
  | _ :: _, [], h, _, _, _ => by cases h
noncomputable def closB (S : Scope) (ps : List Str) (nn np : Nat) : Bool :=
  (nn == S.names.length) && (decide (S.kind = .function) && (decide ((S.names.map (·.1)).Nodup) && (decide (∀ y ∈ S.names, y.2 ≠ .cell) && ((ps.length == np) && (parL S.names ps S.names && (!S.isCoroutine && !S.isGenerator))))))
theorem closB_at {S : Scope} {ps : List Str} {nn np : Nat} (h : closB S ps nn np = true) : nn = S.names.length ∧ S.kind = .function ∧ (S.names.map (·.1)).Nodup ∧ (∀ y ∈ S.names, y.2 ≠ .cell) ∧ S.isCoroutine = false ∧ S.isGenerator = false ∧ ps.length = np ∧
    ∀ (i : Nat) (nm : Str), ps[i]? = some nm → S.names[i]? = some (nm, .local) ∧ S.names.lookup nm = some .local := by
  simp only [closB, Bool.and_eq_true, decide_eq_true_eq, beq_iff_eq, Bool.not_eq_true'] at h
  obtain ⟨a, b, c, d, e, f, g, i⟩ := h
  exact ⟨a, b, c, d, g, i, e, parL_at f⟩
theorem clos0 : closB (niS 0).scope (pnames (niS 0).params) 10 3 = true := by decide +kernel
theorem clos1 : closB (niS 1).scope (pnames (niS 1).params) 7 2 = true := by decide +kernel
theorem ctx0 (T : Top hd.view_39 loose mean mg mb h1) (hT : TabsAt tabs h1) (X : (hd.heap_39 pp).In (ghostOf h1 tabs)) : Ctx w (π0 h1 sv raw) mg mb st P0 0 where
  base := ⟨ghost_ns hT T.g, ghost_ns hT T.b, (ghost_top hT T).nolimit, ⟨rfl, fun i => by
    cases i with
    | zero => show (1 : Int).natAbs ≤ 1000000; decide
    | succ i => exact Nat.zero_le _⟩⟩
  scs := fun _ => rfl
  fn := fun nm f e => by
    obtain ⟨e1, o, fd, e2, e3⟩ := fnB_at (K := hd.heap_39 pp) (l := fnsT) (by kernel_rfl) nm f e
    exact ⟨mg_of X (ghost_ns hT T.g) e1, o, fd, X _ _ e2, e3⟩
  gi := fun nm i e => by
    obtain ⟨t, e1⟩ := giB_at (K := hd.heap_39 pp) (l := gisT) (by kernel_rfl) nm i e
    exact ⟨t, mg_of X (ghost_ns hT T.g) e1⟩
  bi := fun b => by
    have g' := ghost_ns hT T.g
    cases b with
    | len => exact ⟨mg_none_of X g' (by kernel_rfl), (T.builtins _ (by decide)).trans (by kernel_rfl)⟩
    | sum => exact ⟨mg_none_of X g' (by kernel_rfl), (T.builtins _ (by decide)).trans (by kernel_rfl)⟩
    | range => exact ⟨mg_none_of X g' (by kernel_rfl), (T.builtins _ (by decide)).trans (by kernel_rfl)⟩
    | int => exact ⟨mg_none_of X g' (by kernel_rfl), (T.builtins _ (by decide)).trans (by kernel_rfl)⟩
    | divmod => exact ⟨mg_none_of X g' (by kernel_rfl), (T.builtins _ (by decide)).trans (by kernel_rfl)⟩
  rev := ⟨mg_none_of X (ghost_ns hT T.g) (by kernel_rfl), (T.builtins _ (by decide)).trans (by kernel_rfl)⟩
  enu := ⟨mg_none_of X (ghost_ns hT T.g) (by kernel_rfl), (T.builtins _ (by decide)).trans (by kernel_rfl)⟩
  bm := by
    obtain ⟨bm, ob, a1, a2, a3, a4, a5, a6⟩ := (ghost_top hT T).bmain
    refine ⟨bm, ob, a1, a2, fun q => ?_, a3, a4, a5, a6⟩
    obtain ⟨o, es, ep, q1, q2, _⟩ := ghost_ns hT T.g
    subst q
    have a3 : (ghostOf h1 tabs).get? mainGlobals = some ob := a3
    rw [q1] at a3
    cases a3
    rw [q2] at a6
    cases a6
  prim := fun f vs H v H' e => by cases (show (none : Option (V × AH)) = some (v, H') from e)
  known := fun l m => nomatch m
  defs := fun f d e => by
    have hc := ghost_code hT
    match f with
    | 0 =>
      have e2 : st.defs.getD 0 dfl = d := by rw [List.getD_eq_getElem?_getD, e]; rfl
      subst e2
      exact ⟨rfl, rfl, rfl, rfl, rfl, hc.2.1⟩
    | 1 =>
      have e2 : st.defs.getD 1 dfl = d := by rw [List.getD_eq_getElem?_getD, e]; rfl
      subst e2
      exact ⟨rfl, rfl, rfl, rfl, rfl, hc.1⟩
    | f + 2 =>
      have : st.defs.length = 2 := rfl
      rw [List.getElem?_eq_none (by omega)] at e
      cases e
  clos := fun f F e => by
    have e : fnsS f = some F := e
    unfold fnsS at e
    split at e
    · cases e
      obtain ⟨a, b, c, d, e, f, g, i⟩ := closB_at clos0
      exact ⟨tr.u0, trB_x Ni0 tr.v0, a, b, c, d, e, f, _, g, i, fun cs hcs s cl doc pm cdv ct => .of_eq (bind3 cs hcs cl doc pm cdv ct)⟩
    · cases e
      obtain ⟨a, b, c, d, e, f, g, i⟩ := closB_at clos1
      exact ⟨tr.u1, trB_x Ni1 tr.v1, a, b, c, d, e, f, _, g, i, fun cs hcs s cl doc pm cdv ct => .of_eq (bind2 cs hcs cl doc pm cdv ct)⟩
    · cases e
  scr := fun e => by cases e
end
end Mine

namespace Mine
noncomputable def lA0 : AH := [.tab 0, .tab 1, .ns 10 [some (.scr), none, none, none, none, none, none, none, none, none, none, none, none, none, none, none, none, none, none, none, none, none, none, none], .cell (some (.ref 17)), .cell (some (.ref 18)), .cell none, .cell (some (.ref 33)), .cell none, .cell none, .cell none, .cell none, .list true [.int [0]], .list true [.int [0]], .list true [.int [0], .int [0], .int [0], .int [0], .int [0], .int [0], .int [0]], .list true [.raw 0, .raw 1, .raw 2, .raw 3, .raw 4, .raw 5, .raw 6], .list true [.int [0, 1], .int [0, 0, 1], .int [0, 0, 0, 1], .int [0, 0, 0, 0, 1], .int [0, 0, 0, 0, 0, 1], .int [0, 0, 0, 0, 0, 0, 1], .int [0, 0, 0, 0, 0, 0, 0, 1]], .ns 17 [], .list true [.int [0], .int [0, 1], .int [0, 0, 1], .int [0, 0, 0, 1], .int [0, 0, 0, 0, 1], .int [0, 0, 0, 0, 0, 1], .int [0, 0, 0, 0, 0, 0, 1], .int [0, 0, 0, 0, 0, 0, 0, 1]], .list true [.int [0, 2, -1, 1, -1, 1, -2, 2], .int [0, -1, 2, 1, -1, -2, 1, 2], .int [0, -1, -1, -2, 2, 1, 1, 2]], .list true [.int [1], .int [2], .int [3], .int [4], .int [7]], .list true [.ref 22, .ref 23, .ref 24, .ref 25, .ref 26], .ns 18 [], .list true [.int [0]], .list true [.int [1]], .list true [.int [0], .int [1]], .list true [.int [2]], .list true [.int [0], .int [1], .int [2]], .list true [.int [0]], .list true [.int [1]], .list true [.int [0], .int [1]], .list true [.int [2]], .list true [.int [0], .int [1], .int [2]], .list true [.ref 27, .ref 28, .ref 29, .ref 30, .ref 31], .list true [.int [0], .int [0], .int [0]]]
noncomputable def lA1 : AH := [.tab 0, .tab 1, .ns 10 [some (.scr), none, none, none, none, none, none, some (.int [0]), none, none, none, none, none, none, none, none, none, none, none, none, none, none, none, none], .cell (some (.ref 17)), .cell (some (.ref 18)), .cell (some (.int [1])), .cell (some (.ref 45)), .cell (some (.ref 35)), .cell (some (.int [6])), .cell (some (.ref 40)), .cell none, .list true [.int [0]], .list true [.int [0]], .list true [.int [0], .int [0], .int [0], .int [0], .int [0], .int [0], .int [0]], .list true [.raw 0, .raw 1, .raw 2, .raw 3, .raw 4, .raw 5, .raw 6], .list true [.int [0, 1], .int [0, 0, 1], .int [0, 0, 0, 1], .int [0, 0, 0, 0, 1], .int [0, 0, 0, 0, 0, 1], .int [0, 0, 0, 0, 0, 0, 1], .int [0, 0, 0, 0, 0, 0, 0, 1]], .ns 17 [], .list true [.int [0], .int [0, 1], .int [0, 0, 1], .int [0, 0, 0, 1], .int [0, 0, 0, 0, 1], .int [0, 0, 0, 0, 0, 1], .int [0, 0, 0, 0, 0, 0, 1], .int [0, 0, 0, 0, 0, 0, 0, 1]], .list true [.int [0, 2, -1, 1, -1, 1, -2, 2], .int [0, -1, 2, 1, -1, -2, 1, 2], .int [0, -1, -1, -2, 2, 1, 1, 2]], .list true [.int [1], .int [2], .int [3], .int [4], .int [7]], .list true [.ref 22, .ref 23, .ref 24, .ref 25, .ref 26], .ns 18 [], .list true [.int [0]], .list true [.int [1]], .list true [.int [0], .int [1]], .list true [.int [2]], .list true [.int [0], .int [1], .int [2]], .list true [.int [0]], .list true [.int [1]], .list true [.int [0], .int [1]], .list true [.int [2]], .list true [.int [0], .int [1], .int [2]], .list true [.ref 27, .ref 28, .ref 29, .ref 30, .ref 31], .list true [.int [0], .int [0], .int [0]], .range 1 7, .list true [.int [0]], .tup [.int [6], .int [0]], .range 0 8, .list true [.int [0], .int [1], .int [0], .int [1], .int [0], .int [1], .int [0], .int [1]], .ns 19 [], .list true [.int [6], .int [0], .int [0]], .range 0 3, .list true [.int [6], .int [0], .int [0]], .ns 20 [], .range 0 3, .list true [.int [0, 6], .int [0, 0], .int [0, 0]], .ns 21 []]
noncomputable def lA2 : AH := [.tab 0, .tab 1, .ns 10 [some (.scr), none, none, none, none, none, none, some (.int [0]), none, none, none, none, none, none, none, none, none, none, none, none, none, none, none, none], .cell (some (.ref 17)), .cell (some (.ref 18)), .cell (some (.int [2])), .cell (some (.ref 57)), .cell (some (.ref 47)), .cell (some (.int [6])), .cell (some (.ref 52)), .cell none, .list true [.int [0]], .list true [.int [0]], .list true [.int [0], .int [0], .int [0], .int [0], .int [0], .int [0], .int [0]], .list true [.raw 0, .raw 1, .raw 2, .raw 3, .raw 4, .raw 5, .raw 6], .list true [.int [0, 1], .int [0, 0, 1], .int [0, 0, 0, 1], .int [0, 0, 0, 0, 1], .int [0, 0, 0, 0, 0, 1], .int [0, 0, 0, 0, 0, 0, 1], .int [0, 0, 0, 0, 0, 0, 0, 1]], .ns 17 [], .list true [.int [0], .int [0, 1], .int [0, 0, 1], .int [0, 0, 0, 1], .int [0, 0, 0, 0, 1], .int [0, 0, 0, 0, 0, 1], .int [0, 0, 0, 0, 0, 0, 1], .int [0, 0, 0, 0, 0, 0, 0, 1]], .list true [.int [0, 2, -1, 1, -1, 1, -2, 2], .int [0, -1, 2, 1, -1, -2, 1, 2], .int [0, -1, -1, -2, 2, 1, 1, 2]], .list true [.int [1], .int [2], .int [3], .int [4], .int [7]], .list true [.ref 22, .ref 23, .ref 24, .ref 25, .ref 26], .ns 18 [], .list true [.int [0]], .list true [.int [1]], .list true [.int [0], .int [1]], .list true [.int [2]], .list true [.int [0], .int [1], .int [2]], .list true [.int [0]], .list true [.int [1]], .list true [.int [0], .int [1]], .list true [.int [2]], .list true [.int [0], .int [1], .int [2]], .list true [.ref 27, .ref 28, .ref 29, .ref 30, .ref 31], .list true [.int [0], .int [0], .int [0]], .range 1 7, .list true [.int [0]], .tup [.int [6], .int [0]], .range 0 8, .list true [.int [0], .int [1], .int [0], .int [1], .int [0], .int [1], .int [0], .int [1]], .ns 19 [], .list true [.int [6], .int [0], .int [0]], .range 0 3, .list true [.int [6], .int [0], .int [0]], .ns 20 [], .range 0 3, .list true [.int [0, 6], .int [0, 0], .int [0, 0]], .ns 21 [], .list true [.int [1]], .tup [.int [6], .int [0]], .range 0 8, .list true [.int [0], .int [0], .int [1], .int [1], .int [0], .int [0], .int [1], .int [1]], .ns 19 [], .list true [.int [0], .int [6], .int [0]], .range 0 3, .list true [.int [0], .int [6], .int [0]], .ns 20 [], .range 0 3, .list true [.int [0, 6, 0], .int [0, 0, 6], .int [0, 0, 0]], .ns 21 []]
noncomputable def lA3 : AH := [.tab 0, .tab 1, .ns 10 [some (.scr), none, none, none, none, none, none, some (.int [0]), none, none, none, none, none, none, none, none, none, none, none, none, none, none, none, none], .cell (some (.ref 17)), .cell (some (.ref 18)), .cell (some (.int [3])), .cell (some (.ref 69)), .cell (some (.ref 59)), .cell (some (.int [3])), .cell (some (.ref 64)), .cell none, .list true [.int [0]], .list true [.int [0]], .list true [.int [0], .int [0], .int [0], .int [0], .int [0], .int [0], .int [0]], .list true [.raw 0, .raw 1, .raw 2, .raw 3, .raw 4, .raw 5, .raw 6], .list true [.int [0, 1], .int [0, 0, 1], .int [0, 0, 0, 1], .int [0, 0, 0, 0, 1], .int [0, 0, 0, 0, 0, 1], .int [0, 0, 0, 0, 0, 0, 1], .int [0, 0, 0, 0, 0, 0, 0, 1]], .ns 17 [], .list true [.int [0], .int [0, 1], .int [0, 0, 1], .int [0, 0, 0, 1], .int [0, 0, 0, 0, 1], .int [0, 0, 0, 0, 0, 1], .int [0, 0, 0, 0, 0, 0, 1], .int [0, 0, 0, 0, 0, 0, 0, 1]], .list true [.int [0, 2, -1, 1, -1, 1, -2, 2], .int [0, -1, 2, 1, -1, -2, 1, 2], .int [0, -1, -1, -2, 2, 1, 1, 2]], .list true [.int [1], .int [2], .int [3], .int [4], .int [7]], .list true [.ref 22, .ref 23, .ref 24, .ref 25, .ref 26], .ns 18 [], .list true [.int [0]], .list true [.int [1]], .list true [.int [0], .int [1]], .list true [.int [2]], .list true [.int [0], .int [1], .int [2]], .list true [.int [0]], .list true [.int [1]], .list true [.int [0], .int [1]], .list true [.int [2]], .list true [.int [0], .int [1], .int [2]], .list true [.ref 27, .ref 28, .ref 29, .ref 30, .ref 31], .list true [.int [0], .int [0], .int [0]], .range 1 7, .list true [.int [0]], .tup [.int [6], .int [0]], .range 0 8, .list true [.int [0], .int [1], .int [0], .int [1], .int [0], .int [1], .int [0], .int [1]], .ns 19 [], .list true [.int [6], .int [0], .int [0]], .range 0 3, .list true [.int [6], .int [0], .int [0]], .ns 20 [], .range 0 3, .list true [.int [0, 6], .int [0, 0], .int [0, 0]], .ns 21 [], .list true [.int [1]], .tup [.int [6], .int [0]], .range 0 8, .list true [.int [0], .int [0], .int [1], .int [1], .int [0], .int [0], .int [1], .int [1]], .ns 19 [], .list true [.int [0], .int [6], .int [0]], .range 0 3, .list true [.int [0], .int [6], .int [0]], .ns 20 [], .range 0 3, .list true [.int [0, 6, 0], .int [0, 0, 6], .int [0, 0, 0]], .ns 21 [], .list true [.int [0], .int [1]], .tup [.int [3], .int [0]], .range 0 8, .list true [.int [0], .int [0], .int [0], .int [1], .int [0], .int [0], .int [0], .int [1]], .ns 19 [], .list true [.int [3], .int [3], .int [0]], .range 0 3, .list true [.int [3], .int [3], .int [0]], .ns 20 [], .range 0 3, .list true [.int [0, 3, -3, 3], .int [0, -3, 3, 3], .int [0, 0, 0, 0]], .ns 21 []]
noncomputable def lA4 : AH := [.tab 0, .tab 1, .ns 10 [some (.scr), none, none, none, none, none, none, some (.int [0]), none, none, none, none, none, none, none, none, none, none, none, none, none, none, none, none], .cell (some (.ref 17)), .cell (some (.ref 18)), .cell (some (.int [4])), .cell (some (.ref 81)), .cell (some (.ref 71)), .cell (some (.int [6])), .cell (some (.ref 76)), .cell none, .list true [.int [0]], .list true [.int [0]], .list true [.int [0], .int [0], .int [0], .int [0], .int [0], .int [0], .int [0]], .list true [.raw 0, .raw 1, .raw 2, .raw 3, .raw 4, .raw 5, .raw 6], .list true [.int [0, 1], .int [0, 0, 1], .int [0, 0, 0, 1], .int [0, 0, 0, 0, 1], .int [0, 0, 0, 0, 0, 1], .int [0, 0, 0, 0, 0, 0, 1], .int [0, 0, 0, 0, 0, 0, 0, 1]], .ns 17 [], .list true [.int [0], .int [0, 1], .int [0, 0, 1], .int [0, 0, 0, 1], .int [0, 0, 0, 0, 1], .int [0, 0, 0, 0, 0, 1], .int [0, 0, 0, 0, 0, 0, 1], .int [0, 0, 0, 0, 0, 0, 0, 1]], .list true [.int [0, 2, -1, 1, -1, 1, -2, 2], .int [0, -1, 2, 1, -1, -2, 1, 2], .int [0, -1, -1, -2, 2, 1, 1, 2]], .list true [.int [1], .int [2], .int [3], .int [4], .int [7]], .list true [.ref 22, .ref 23, .ref 24, .ref 25, .ref 26], .ns 18 [], .list true [.int [0]], .list true [.int [1]], .list true [.int [0], .int [1]], .list true [.int [2]], .list true [.int [0], .int [1], .int [2]], .list true [.int [0]], .list true [.int [1]], .list true [.int [0], .int [1]], .list true [.int [2]], .list true [.int [0], .int [1], .int [2]], .list true [.ref 27, .ref 28, .ref 29, .ref 30, .ref 31], .list true [.int [0], .int [0], .int [0]], .range 1 7, .list true [.int [0]], .tup [.int [6], .int [0]], .range 0 8, .list true [.int [0], .int [1], .int [0], .int [1], .int [0], .int [1], .int [0], .int [1]], .ns 19 [], .list true [.int [6], .int [0], .int [0]], .range 0 3, .list true [.int [6], .int [0], .int [0]], .ns 20 [], .range 0 3, .list true [.int [0, 6], .int [0, 0], .int [0, 0]], .ns 21 [], .list true [.int [1]], .tup [.int [6], .int [0]], .range 0 8, .list true [.int [0], .int [0], .int [1], .int [1], .int [0], .int [0], .int [1], .int [1]], .ns 19 [], .list true [.int [0], .int [6], .int [0]], .range 0 3, .list true [.int [0], .int [6], .int [0]], .ns 20 [], .range 0 3, .list true [.int [0, 6, 0], .int [0, 0, 6], .int [0, 0, 0]], .ns 21 [], .list true [.int [0], .int [1]], .tup [.int [3], .int [0]], .range 0 8, .list true [.int [0], .int [0], .int [0], .int [1], .int [0], .int [0], .int [0], .int [1]], .ns 19 [], .list true [.int [3], .int [3], .int [0]], .range 0 3, .list true [.int [3], .int [3], .int [0]], .ns 20 [], .range 0 3, .list true [.int [0, 3, -3, 3], .int [0, -3, 3, 3], .int [0, 0, 0, 0]], .ns 21 [], .list true [.int [2]], .tup [.int [6], .int [0]], .range 0 8, .list true [.int [0], .int [0], .int [0], .int [0], .int [1], .int [1], .int [1], .int [1]], .ns 19 [], .list true [.int [0], .int [0], .int [6]], .range 0 3, .list true [.int [0], .int [0], .int [6]], .ns 20 [], .range 0 3, .list true [.int [0, 3, -3, 3, 0], .int [0, -3, 3, 3, 0], .int [0, 0, 0, 0, 6]], .ns 21 []]
noncomputable def lA5 : AH := [.tab 0, .tab 1, .ns 10 [some (.scr), none, none, none, none, none, none, some (.int [0]), none, none, none, none, none, none, none, none, none, none, none, none, none, none, none, none], .cell (some (.ref 17)), .cell (some (.ref 18)), .cell (some (.int [5])), .cell (some (.ref 93)), .cell (some (.ref 83)), .cell (some (.int [3])), .cell (some (.ref 88)), .cell none, .list true [.int [0]], .list true [.int [0]], .list true [.int [0], .int [0], .int [0], .int [0], .int [0], .int [0], .int [0]], .list true [.raw 0, .raw 1, .raw 2, .raw 3, .raw 4, .raw 5, .raw 6], .list true [.int [0, 1], .int [0, 0, 1], .int [0, 0, 0, 1], .int [0, 0, 0, 0, 1], .int [0, 0, 0, 0, 0, 1], .int [0, 0, 0, 0, 0, 0, 1], .int [0, 0, 0, 0, 0, 0, 0, 1]], .ns 17 [], .list true [.int [0], .int [0, 1], .int [0, 0, 1], .int [0, 0, 0, 1], .int [0, 0, 0, 0, 1], .int [0, 0, 0, 0, 0, 1], .int [0, 0, 0, 0, 0, 0, 1], .int [0, 0, 0, 0, 0, 0, 0, 1]], .list true [.int [0, 2, -1, 1, -1, 1, -2, 2], .int [0, -1, 2, 1, -1, -2, 1, 2], .int [0, -1, -1, -2, 2, 1, 1, 2]], .list true [.int [1], .int [2], .int [3], .int [4], .int [7]], .list true [.ref 22, .ref 23, .ref 24, .ref 25, .ref 26], .ns 18 [], .list true [.int [0]], .list true [.int [1]], .list true [.int [0], .int [1]], .list true [.int [2]], .list true [.int [0], .int [1], .int [2]], .list true [.int [0]], .list true [.int [1]], .list true [.int [0], .int [1]], .list true [.int [2]], .list true [.int [0], .int [1], .int [2]], .list true [.ref 27, .ref 28, .ref 29, .ref 30, .ref 31], .list true [.int [0], .int [0], .int [0]], .range 1 7, .list true [.int [0]], .tup [.int [6], .int [0]], .range 0 8, .list true [.int [0], .int [1], .int [0], .int [1], .int [0], .int [1], .int [0], .int [1]], .ns 19 [], .list true [.int [6], .int [0], .int [0]], .range 0 3, .list true [.int [6], .int [0], .int [0]], .ns 20 [], .range 0 3, .list true [.int [0, 6], .int [0, 0], .int [0, 0]], .ns 21 [], .list true [.int [1]], .tup [.int [6], .int [0]], .range 0 8, .list true [.int [0], .int [0], .int [1], .int [1], .int [0], .int [0], .int [1], .int [1]], .ns 19 [], .list true [.int [0], .int [6], .int [0]], .range 0 3, .list true [.int [0], .int [6], .int [0]], .ns 20 [], .range 0 3, .list true [.int [0, 6, 0], .int [0, 0, 6], .int [0, 0, 0]], .ns 21 [], .list true [.int [0], .int [1]], .tup [.int [3], .int [0]], .range 0 8, .list true [.int [0], .int [0], .int [0], .int [1], .int [0], .int [0], .int [0], .int [1]], .ns 19 [], .list true [.int [3], .int [3], .int [0]], .range 0 3, .list true [.int [3], .int [3], .int [0]], .ns 20 [], .range 0 3, .list true [.int [0, 3, -3, 3], .int [0, -3, 3, 3], .int [0, 0, 0, 0]], .ns 21 [], .list true [.int [2]], .tup [.int [6], .int [0]], .range 0 8, .list true [.int [0], .int [0], .int [0], .int [0], .int [1], .int [1], .int [1], .int [1]], .ns 19 [], .list true [.int [0], .int [0], .int [6]], .range 0 3, .list true [.int [0], .int [0], .int [6]], .ns 20 [], .range 0 3, .list true [.int [0, 3, -3, 3, 0], .int [0, -3, 3, 3, 0], .int [0, 0, 0, 0, 6]], .ns 21 [], .list true [.int [0], .int [2]], .tup [.int [3], .int [0]], .range 0 8, .list true [.int [0], .int [0], .int [0], .int [0], .int [0], .int [1], .int [0], .int [1]], .ns 19 [], .list true [.int [3], .int [0], .int [3]], .range 0 3, .list true [.int [3], .int [0], .int [3]], .ns 20 [], .range 0 3, .list true [.int [0, 0, -3, 3, -3, 3], .int [0, -3, 3, 3, 0, 0], .int [0, -3, 0, 0, 3, 3]], .ns 21 []]
noncomputable def lA6 : AH := [.tab 0, .tab 1, .ns 10 [some (.scr), none, none, none, none, none, none, some (.int [0]), none, none, none, none, none, none, none, none, none, none, none, none, none, none, none, none], .cell (some (.ref 17)), .cell (some (.ref 18)), .cell (some (.int [6])), .cell (some (.ref 105)), .cell (some (.ref 95)), .cell (some (.int [3])), .cell (some (.ref 100)), .cell none, .list true [.int [0]], .list true [.int [0]], .list true [.int [0], .int [0], .int [0], .int [0], .int [0], .int [0], .int [0]], .list true [.raw 0, .raw 1, .raw 2, .raw 3, .raw 4, .raw 5, .raw 6], .list true [.int [0, 1], .int [0, 0, 1], .int [0, 0, 0, 1], .int [0, 0, 0, 0, 1], .int [0, 0, 0, 0, 0, 1], .int [0, 0, 0, 0, 0, 0, 1], .int [0, 0, 0, 0, 0, 0, 0, 1]], .ns 17 [], .list true [.int [0], .int [0, 1], .int [0, 0, 1], .int [0, 0, 0, 1], .int [0, 0, 0, 0, 1], .int [0, 0, 0, 0, 0, 1], .int [0, 0, 0, 0, 0, 0, 1], .int [0, 0, 0, 0, 0, 0, 0, 1]], .list true [.int [0, 2, -1, 1, -1, 1, -2, 2], .int [0, -1, 2, 1, -1, -2, 1, 2], .int [0, -1, -1, -2, 2, 1, 1, 2]], .list true [.int [1], .int [2], .int [3], .int [4], .int [7]], .list true [.ref 22, .ref 23, .ref 24, .ref 25, .ref 26], .ns 18 [], .list true [.int [0]], .list true [.int [1]], .list true [.int [0], .int [1]], .list true [.int [2]], .list true [.int [0], .int [1], .int [2]], .list true [.int [0]], .list true [.int [1]], .list true [.int [0], .int [1]], .list true [.int [2]], .list true [.int [0], .int [1], .int [2]], .list true [.ref 27, .ref 28, .ref 29, .ref 30, .ref 31], .list true [.int [0], .int [0], .int [0]], .range 1 7, .list true [.int [0]], .tup [.int [6], .int [0]], .range 0 8, .list true [.int [0], .int [1], .int [0], .int [1], .int [0], .int [1], .int [0], .int [1]], .ns 19 [], .list true [.int [6], .int [0], .int [0]], .range 0 3, .list true [.int [6], .int [0], .int [0]], .ns 20 [], .range 0 3, .list true [.int [0, 6], .int [0, 0], .int [0, 0]], .ns 21 [], .list true [.int [1]], .tup [.int [6], .int [0]], .range 0 8, .list true [.int [0], .int [0], .int [1], .int [1], .int [0], .int [0], .int [1], .int [1]], .ns 19 [], .list true [.int [0], .int [6], .int [0]], .range 0 3, .list true [.int [0], .int [6], .int [0]], .ns 20 [], .range 0 3, .list true [.int [0, 6, 0], .int [0, 0, 6], .int [0, 0, 0]], .ns 21 [], .list true [.int [0], .int [1]], .tup [.int [3], .int [0]], .range 0 8, .list true [.int [0], .int [0], .int [0], .int [1], .int [0], .int [0], .int [0], .int [1]], .ns 19 [], .list true [.int [3], .int [3], .int [0]], .range 0 3, .list true [.int [3], .int [3], .int [0]], .ns 20 [], .range 0 3, .list true [.int [0, 3, -3, 3], .int [0, -3, 3, 3], .int [0, 0, 0, 0]], .ns 21 [], .list true [.int [2]], .tup [.int [6], .int [0]], .range 0 8, .list true [.int [0], .int [0], .int [0], .int [0], .int [1], .int [1], .int [1], .int [1]], .ns 19 [], .list true [.int [0], .int [0], .int [6]], .range 0 3, .list true [.int [0], .int [0], .int [6]], .ns 20 [], .range 0 3, .list true [.int [0, 3, -3, 3, 0], .int [0, -3, 3, 3, 0], .int [0, 0, 0, 0, 6]], .ns 21 [], .list true [.int [0], .int [2]], .tup [.int [3], .int [0]], .range 0 8, .list true [.int [0], .int [0], .int [0], .int [0], .int [0], .int [1], .int [0], .int [1]], .ns 19 [], .list true [.int [3], .int [0], .int [3]], .range 0 3, .list true [.int [3], .int [0], .int [3]], .ns 20 [], .range 0 3, .list true [.int [0, 0, -3, 3, -3, 3], .int [0, -3, 3, 3, 0, 0], .int [0, -3, 0, 0, 3, 3]], .ns 21 [], .list true [.int [1], .int [2]], .tup [.int [3], .int [0]], .range 0 8, .list true [.int [0], .int [0], .int [0], .int [0], .int [0], .int [0], .int [1], .int [1]], .ns 19 [], .list true [.int [0], .int [3], .int [3]], .range 0 3, .list true [.int [0], .int [3], .int [3]], .ns 20 [], .range 0 3, .list true [.int [0, 0, -3, 3, -3, 3, 0], .int [0, -3, 0, 3, -3, 0, 3], .int [0, -3, -3, 0, 0, 3, 3]], .ns 21 []]
noncomputable def lA7 : AH := [.tab 0, .tab 1, .ns 10 [some (.scr), none, none, none, none, none, none, some (.int [0]), none, none, none, none, none, none, none, none, none, none, none, none, none, none, none, none], .cell (some (.ref 17)), .cell (some (.ref 18)), .cell (some (.int [7])), .cell (some (.ref 117)), .cell (some (.ref 107)), .cell (some (.int [2])), .cell (some (.ref 112)), .cell none, .list true [.int [0]], .list true [.int [0]], .list true [.int [0], .int [0], .int [0], .int [0], .int [0], .int [0], .int [0]], .list true [.raw 0, .raw 1, .raw 2, .raw 3, .raw 4, .raw 5, .raw 6], .list true [.int [0, 1], .int [0, 0, 1], .int [0, 0, 0, 1], .int [0, 0, 0, 0, 1], .int [0, 0, 0, 0, 0, 1], .int [0, 0, 0, 0, 0, 0, 1], .int [0, 0, 0, 0, 0, 0, 0, 1]], .ns 17 [], .list true [.int [0], .int [0, 1], .int [0, 0, 1], .int [0, 0, 0, 1], .int [0, 0, 0, 0, 1], .int [0, 0, 0, 0, 0, 1], .int [0, 0, 0, 0, 0, 0, 1], .int [0, 0, 0, 0, 0, 0, 0, 1]], .list true [.int [0, 2, -1, 1, -1, 1, -2, 2], .int [0, -1, 2, 1, -1, -2, 1, 2], .int [0, -1, -1, -2, 2, 1, 1, 2]], .list true [.int [1], .int [2], .int [3], .int [4], .int [7]], .list true [.ref 22, .ref 23, .ref 24, .ref 25, .ref 26], .ns 18 [], .list true [.int [0]], .list true [.int [1]], .list true [.int [0], .int [1]], .list true [.int [2]], .list true [.int [0], .int [1], .int [2]], .list true [.int [0]], .list true [.int [1]], .list true [.int [0], .int [1]], .list true [.int [2]], .list true [.int [0], .int [1], .int [2]], .list true [.ref 27, .ref 28, .ref 29, .ref 30, .ref 31], .list true [.int [0], .int [0], .int [0]], .range 1 7, .list true [.int [0]], .tup [.int [6], .int [0]], .range 0 8, .list true [.int [0], .int [1], .int [0], .int [1], .int [0], .int [1], .int [0], .int [1]], .ns 19 [], .list true [.int [6], .int [0], .int [0]], .range 0 3, .list true [.int [6], .int [0], .int [0]], .ns 20 [], .range 0 3, .list true [.int [0, 6], .int [0, 0], .int [0, 0]], .ns 21 [], .list true [.int [1]], .tup [.int [6], .int [0]], .range 0 8, .list true [.int [0], .int [0], .int [1], .int [1], .int [0], .int [0], .int [1], .int [1]], .ns 19 [], .list true [.int [0], .int [6], .int [0]], .range 0 3, .list true [.int [0], .int [6], .int [0]], .ns 20 [], .range 0 3, .list true [.int [0, 6, 0], .int [0, 0, 6], .int [0, 0, 0]], .ns 21 [], .list true [.int [0], .int [1]], .tup [.int [3], .int [0]], .range 0 8, .list true [.int [0], .int [0], .int [0], .int [1], .int [0], .int [0], .int [0], .int [1]], .ns 19 [], .list true [.int [3], .int [3], .int [0]], .range 0 3, .list true [.int [3], .int [3], .int [0]], .ns 20 [], .range 0 3, .list true [.int [0, 3, -3, 3], .int [0, -3, 3, 3], .int [0, 0, 0, 0]], .ns 21 [], .list true [.int [2]], .tup [.int [6], .int [0]], .range 0 8, .list true [.int [0], .int [0], .int [0], .int [0], .int [1], .int [1], .int [1], .int [1]], .ns 19 [], .list true [.int [0], .int [0], .int [6]], .range 0 3, .list true [.int [0], .int [0], .int [6]], .ns 20 [], .range 0 3, .list true [.int [0, 3, -3, 3, 0], .int [0, -3, 3, 3, 0], .int [0, 0, 0, 0, 6]], .ns 21 [], .list true [.int [0], .int [2]], .tup [.int [3], .int [0]], .range 0 8, .list true [.int [0], .int [0], .int [0], .int [0], .int [0], .int [1], .int [0], .int [1]], .ns 19 [], .list true [.int [3], .int [0], .int [3]], .range 0 3, .list true [.int [3], .int [0], .int [3]], .ns 20 [], .range 0 3, .list true [.int [0, 0, -3, 3, -3, 3], .int [0, -3, 3, 3, 0, 0], .int [0, -3, 0, 0, 3, 3]], .ns 21 [], .list true [.int [1], .int [2]], .tup [.int [3], .int [0]], .range 0 8, .list true [.int [0], .int [0], .int [0], .int [0], .int [0], .int [0], .int [1], .int [1]], .ns 19 [], .list true [.int [0], .int [3], .int [3]], .range 0 3, .list true [.int [0], .int [3], .int [3]], .ns 20 [], .range 0 3, .list true [.int [0, 0, -3, 3, -3, 3, 0], .int [0, -3, 0, 3, -3, 0, 3], .int [0, -3, -3, 0, 0, 3, 3]], .ns 21 [], .list true [.int [0], .int [1], .int [2]], .tup [.int [2], .int [0]], .range 0 8, .list true [.int [0], .int [0], .int [0], .int [0], .int [0], .int [0], .int [0], .int [1]], .ns 19 [], .list true [.int [2], .int [2], .int [2]], .range 0 3, .list true [.int [2], .int [2], .int [2]], .ns 20 [], .range 0 3, .list true [.int [0, 2, -1, 1, -1, 1, -2, 2], .int [0, -1, 2, 1, -1, -2, 1, 2], .int [0, -1, -1, -2, 2, 1, 1, 2]], .ns 21 []]
noncomputable def lB : AH := [.tab 0, .tab 1, .ns 10 [some (.scr), none, none, none, none, none, none, some (.int [0]), none, none, none, some (.ref 125), none, none, none, none, none, none, none, none, none, none, none, none], .cell (some (.ref 17)), .cell (some (.ref 18)), .cell (some (.int [7])), .cell (some (.ref 117)), .cell (some (.ref 107)), .cell (some (.int [2])), .cell (some (.ref 112)), .cell (some (.ref 120)), .list true [.int [0]], .list true [.int [0]], .list true [.int [0], .int [0], .int [0], .int [0], .int [0], .int [0], .int [0]], .list true [.raw 0, .raw 1, .raw 2, .raw 3, .raw 4, .raw 5, .raw 6], .list true [.int [0, 1], .int [0, 0, 1], .int [0, 0, 0, 1], .int [0, 0, 0, 0, 1], .int [0, 0, 0, 0, 0, 1], .int [0, 0, 0, 0, 0, 0, 1], .int [0, 0, 0, 0, 0, 0, 0, 1]], .ns 17 [], .list true [.int [0], .int [0, 1], .int [0, 0, 1], .int [0, 0, 0, 1], .int [0, 0, 0, 0, 1], .int [0, 0, 0, 0, 0, 1], .int [0, 0, 0, 0, 0, 0, 1], .int [0, 0, 0, 0, 0, 0, 0, 1]], .list true [.int [0, 2, -1, 1, -1, 1, -2, 2], .int [0, -1, 2, 1, -1, -2, 1, 2], .int [0, -1, -1, -2, 2, 1, 1, 2]], .list true [.int [1], .int [2], .int [3], .int [4], .int [7]], .list true [.ref 22, .ref 23, .ref 24, .ref 25, .ref 26], .ns 18 [], .list true [.int [0]], .list true [.int [1]], .list true [.int [0], .int [1]], .list true [.int [2]], .list true [.int [0], .int [1], .int [2]], .list true [.int [0]], .list true [.int [1]], .list true [.int [0], .int [1]], .list true [.int [2]], .list true [.int [0], .int [1], .int [2]], .list true [.ref 27, .ref 28, .ref 29, .ref 30, .ref 31], .list true [.int [0], .int [0], .int [0]], .range 1 7, .list true [.int [0]], .tup [.int [6], .int [0]], .range 0 8, .list true [.int [0], .int [1], .int [0], .int [1], .int [0], .int [1], .int [0], .int [1]], .ns 19 [], .list true [.int [6], .int [0], .int [0]], .range 0 3, .list true [.int [6], .int [0], .int [0]], .ns 20 [], .range 0 3, .list true [.int [0, 6], .int [0, 0], .int [0, 0]], .ns 21 [], .list true [.int [1]], .tup [.int [6], .int [0]], .range 0 8, .list true [.int [0], .int [0], .int [1], .int [1], .int [0], .int [0], .int [1], .int [1]], .ns 19 [], .list true [.int [0], .int [6], .int [0]], .range 0 3, .list true [.int [0], .int [6], .int [0]], .ns 20 [], .range 0 3, .list true [.int [0, 6, 0], .int [0, 0, 6], .int [0, 0, 0]], .ns 21 [], .list true [.int [0], .int [1]], .tup [.int [3], .int [0]], .range 0 8, .list true [.int [0], .int [0], .int [0], .int [1], .int [0], .int [0], .int [0], .int [1]], .ns 19 [], .list true [.int [3], .int [3], .int [0]], .range 0 3, .list true [.int [3], .int [3], .int [0]], .ns 20 [], .range 0 3, .list true [.int [0, 3, -3, 3], .int [0, -3, 3, 3], .int [0, 0, 0, 0]], .ns 21 [], .list true [.int [2]], .tup [.int [6], .int [0]], .range 0 8, .list true [.int [0], .int [0], .int [0], .int [0], .int [1], .int [1], .int [1], .int [1]], .ns 19 [], .list true [.int [0], .int [0], .int [6]], .range 0 3, .list true [.int [0], .int [0], .int [6]], .ns 20 [], .range 0 3, .list true [.int [0, 3, -3, 3, 0], .int [0, -3, 3, 3, 0], .int [0, 0, 0, 0, 6]], .ns 21 [], .list true [.int [0], .int [2]], .tup [.int [3], .int [0]], .range 0 8, .list true [.int [0], .int [0], .int [0], .int [0], .int [0], .int [1], .int [0], .int [1]], .ns 19 [], .list true [.int [3], .int [0], .int [3]], .range 0 3, .list true [.int [3], .int [0], .int [3]], .ns 20 [], .range 0 3, .list true [.int [0, 0, -3, 3, -3, 3], .int [0, -3, 3, 3, 0, 0], .int [0, -3, 0, 0, 3, 3]], .ns 21 [], .list true [.int [1], .int [2]], .tup [.int [3], .int [0]], .range 0 8, .list true [.int [0], .int [0], .int [0], .int [0], .int [0], .int [0], .int [1], .int [1]], .ns 19 [], .list true [.int [0], .int [3], .int [3]], .range 0 3, .list true [.int [0], .int [3], .int [3]], .ns 20 [], .range 0 3, .list true [.int [0, 0, -3, 3, -3, 3, 0], .int [0, -3, 0, 3, -3, 0, 3], .int [0, -3, -3, 0, 0, 3, 3]], .ns 21 [], .list true [.int [0], .int [1], .int [2]], .tup [.int [2], .int [0]], .range 0 8, .list true [.int [0], .int [0], .int [0], .int [0], .int [0], .int [0], .int [0], .int [1]], .ns 19 [], .list true [.int [2], .int [2], .int [2]], .range 0 3, .list true [.int [2], .int [2], .int [2]], .ns 20 [], .range 0 3, .list true [.int [0, 2, -1, 1, -1, 1, -2, 2], .int [0, -1, 2, 1, -1, -2, 1, 2], .int [0, -1, -1, -2, 2, 1, 1, 2]], .ns 21 [], .range 0 8, .list true [.int [0], .int [0, 1], .int [0, 0, 2], .int [0, 0, 0, 0], .int [0, 0, 0, 0, 1], .int [0, 0, 0, 0, 0, 2], .int [0, 0, 0, 0, 0, 0, 0], .int [0, 0, 0, 0, 0, 0, 0, 1]], .ns 22 [], .range 0 8, .list true [.int [0], .int [0, 2], .int [0, 0, 3], .int [0, 0, 0, 1], .int [0, 0, 0, 0, 2], .int [0, 0, 0, 0, 0, 3], .int [0, 0, 0, 0, 0, 0, 1], .int [0, 0, 0, 0, 0, 0, 0, 2]], .ns 23 [], .list true [.int [0, 4, -3, 1, -2, 3, -2, 4], .int [0, -2, 6, 1, -2, -6, 1, 4], .int [0, -2, -3, -2, 4, 3, 1, 4]], .range 0 3, .list true [.int [0, 4, -3, 1, -2, 3, -2, 4], .int [0, -2, 6, 1, -2, -6, 1, 4], .int [0, -2, -3, -2, 4, 3, 1, 4]], .ns 24 [], .list true [.int [0, 2, -2, 0, -1, 2, 0, 2], .int [0, -1, 4, 0, -1, -4, 0, 2], .int [0, -1, -2, 0, 2, 2, 0, 2]], .list true [.int [0, 2, -2, 0, -1, 2, 0, 2], .int [0, -1, 4, 0, -1, -4, 0, 2], .int [0, -1, -2, 0, 2, 2, 0, 2]], .list true [.int [0, 2, -2, 0, -1, 2, 0, 2], .int [0, -1, 4, 0, -1, -4, 0, 2], .int [0, -1, -2, 0, 2, 2, 0, 2]]]
noncomputable def e90 : AEnv := envG G90 H0a
noncomputable def b90 : List XS := forBody Nb12.x 4
theorem r90a : run P3 60 (.B e90 (Nb12.x.take 4)) (heapG G90 [.scr] H0a) = some (.nx, lA0) := by kernel_rfl
theorem r90b : run P3 54 (.E e90 (.bi .range [.cint 1, .cint 8])) lA0 = some (.v (.ref 34), lA0 ++ [.range 1 7]) := by kernel_rfl
theorem r90_0 : (bO (bindT e90 (lA0 ++ [.range 1 7]) (.one (.cel 3)) (.one (.int [1]))) fun H1 => run P3 53 (.B e90 b90) H1) = some (.nx, lA1) := by kernel_rfl
theorem r90_1 : (bO (bindT e90 lA1 (.one (.cel 3)) (.one (.int [2]))) fun H1 => run P3 52 (.B e90 b90) H1) = some (.nx, lA2) := by kernel_rfl
theorem r90_2 : (bO (bindT e90 lA2 (.one (.cel 3)) (.one (.int [3]))) fun H1 => run P3 51 (.B e90 b90) H1) = some (.nx, lA3) := by kernel_rfl
theorem r90_3 : (bO (bindT e90 lA3 (.one (.cel 3)) (.one (.int [4]))) fun H1 => run P3 50 (.B e90 b90) H1) = some (.nx, lA4) := by kernel_rfl
theorem r90_4 : (bO (bindT e90 lA4 (.one (.cel 3)) (.one (.int [5]))) fun H1 => run P3 49 (.B e90 b90) H1) = some (.nx, lA5) := by kernel_rfl
theorem r90_5 : (bO (bindT e90 lA5 (.one (.cel 3)) (.one (.int [6]))) fun H1 => run P3 48 (.B e90 b90) H1) = some (.nx, lA6) := by kernel_rfl
theorem r90_6 : (bO (bindT e90 lA6 (.one (.cel 3)) (.one (.int [7]))) fun H1 => run P3 47 (.B e90 b90) H1) = some (.nx, lA7) := by kernel_rfl
theorem r90c : run P3 55 (.B e90 ((Nb12.x.drop 5).take 4)) lA7 = some (.nx, lB) := by kernel_rfl
noncomputable def lE : AH := outR (run P3 51 (.B e90 ((Nb12.x.drop 5).drop 4)) lB)
theorem r90d : run P3 51 (.B e90 ((Nb12.x.drop 5).drop 4)) lB = some (.rt (.bool true), lE) := by kernel_rfl
theorem r90 : callG G90 P3 60 [.scr] H0a = some (.bool true, lE) := by
  refine callG_ret ?_ rfl
  have hb : G90.body = Nb12.x.take 4 ++ Nb12.x.drop 4 := (List.take_append_drop 4 Nb12.x).symm
  have hd : Nb12.x.drop 4 = XS.for_ (.one (.cel 3)) .plain (.bi .range [.cint 1, .cint 8]) b90 :: Nb12.x.drop 5 := by kernel_rfl
  rw [hb]
  refine (B_app (n := 55) (Nb12.x.take 4) r90a).trans ?_
  rw [hd]
  refine (B_cons (n := 55) (H1 := lA7) ?_).trans ?_
  · refine (S_for (n := 54) (so := .range 1 7) r90b (by kernel_rfl)).trans ?_
    refine (F_turn (n := 53) (by kernel_rfl) r90_0).trans ?_
    refine (F_turn (n := 52) (by kernel_rfl) r90_1).trans ?_
    refine (F_turn (n := 51) (by kernel_rfl) r90_2).trans ?_
    refine (F_turn (n := 50) (by kernel_rfl) r90_3).trans ?_
    refine (F_turn (n := 49) (by kernel_rfl) r90_4).trans ?_
    refine (F_turn (n := 48) (by kernel_rfl) r90_5).trans ?_
    refine (F_turn (n := 47) (by kernel_rfl) r90_6).trans ?_
    exact F_end (n := 46) (by kernel_rfl)
  · rw [← List.take_append_drop 4 (Nb12.x.drop 5)]
    exact (B_app (n := 50) ((Nb12.x.drop 5).take 4) r90c).trans r90d
theorem lE_tabs : tabs2 lE = true := by decide +kernel
theorem law_ends : ∃ H1, callG G90 P3 60 [.scr] H0a = some (.bool true, H1) ∧ H1[0]? = some (.tab 0) ∧ H1[1]? = some (.tab 1) := ⟨lE, r90, tabs2_at lE_tabs⟩
noncomputable def σL (raw : Nat → Int) : Nat → Int
  | 0 => 1
  | i + 1 => if i < 7 then (raw i).fmod 10 else 0
theorem σL_9 (raw : Nat → Int) (i : Nat) : (σL raw i).natAbs ≤ 9 := by
  cases i with
  | zero => show (1 : Int).natAbs ≤ 9; decide
  | succ i =>
    show (if i < 7 then (raw i).fmod 10 else 0 : Int).natAbs ≤ 9
    split
    · have h1 := Int.fmod_nonneg_of_pos (raw i) (b := 10) (by decide)
      have h2 := Int.fmod_lt_of_pos (raw i) (b := 10) (by decide)
      omega
    · decide
theorem σL_ok (raw : Nat → Int) : OkS (σL raw) := ⟨rfl, fun i => Nat.le_trans (σL_9 raw i) (by decide)⟩
/-- the last form is made of those before -/
noncomputable def kOK : List Int → List (Bool × Lin) → Lin → Bool
  | [], l, acc => (match l with
    | [] => false
    | q :: r => !q.1 && (r.isEmpty && lzero (ladd q.2 acc)))
  | c :: cs, l, acc => (match l with
    | [] => false
    | q :: r => q.1 && kOK cs r (ladd acc (lscale (-c) q.2)))
theorem kOK_no {σ : Nat → Int} : ∀ {cs : List Int} {l : List (Bool × Lin)} {acc : Lin}, kOK cs l acc = true → lv σ 0 acc = 0 → ¬ ∀ q ∈ l, (q.1 = true → lv σ 0 q.2 = 0) ∧ (q.1 = false → lv σ 0 q.2 ≠ 0)
  | [], l, acc, h, h0, hl => by
    cases l with
    | nil => cases h
    | cons q r =>
      simp only [kOK, Bool.and_eq_true, Bool.not_eq_true'] at h
      refine (hl q (.head _)).2 h.1 ?_
      have := lv_lzero σ _ 0 h.2.2
      rw [lv_ladd] at this
      omega
  | c :: cs, l, acc, h, h0, hl => by
    cases l with
    | nil => cases h
    | cons q r =>
      simp only [kOK, Bool.and_eq_true] at h
      refine kOK_no h.2 ?_ fun p hp => hl p (.tail _ hp)
      rw [lv_ladd, lv_lscale, h0, (hl q (.head _)).1 h.1]; simp
theorem known_ok (σ : Nat → Int) : ∀ l ∈ known3, ¬ ∀ q ∈ l, (q.1 = true → lv σ 0 q.2 = 0) ∧ (q.1 = false → lv σ 0 q.2 ≠ 0) := by
  have hk : (known3.all fun l => kOK [3, 3] l [] || kOK [2, 1, 1, 2] l []) = true := by decide +kernel
  intro l hl
  rcases Bool.or_eq_true_iff.mp (List.all_eq_true.mp hk l hl) with h | h
  · exact kOK_no h rfl
  · exact kOK_no h rfl
section
variable {w : World} {pp : Params} {mg mb : Str → Option Value} {h1 : Heap} {loose : List Str} {mean : ExcName → Option Value} {sv : Value} {raw : Nat → Int}
theorem lvl0 (T : Top hd.view_39 loose mean mg mb h1) (hT : TabsAt tabs h1) (X : (hd.heap_39 pp).In (ghostOf h1 tabs)) : Lvl w (π0 h1 sv raw) mg mb st P0 0 :=
  fun σ hσ => (ctx0 T hT X).next σ hσ rfl (fun _ _ _ _ _ e => by cases (show (none : Option (V × AH)) = _ from e)) (fun _ m => nomatch m) fun e => by cases e
theorem noP_ok {π : Par} {K : Nat} {f : Addr} : PrimOK w π K f noP := fun _ _ _ _ e => by cases e
theorem lvl1 (T : Top hd.view_39 loose mean mg mb h1) (hT : TabsAt tabs h1) (X : (hd.heap_39 pp).In (ghostOf h1 tabs)) : Lvl w (π0 h1 sv raw) mg mb st P1 61 :=
  fun σ hσ => (ctx0 T hT X).next σ hσ rfl (fun f => by
    show PrimOK w _ 61 f (prim1 f)
    unfold prim1
    split
    · exact inl_ok (lvl0 T hT X) hσ (ok28 T hT X) (by decide)
    · exact inl_ok (lvl0 T hT X) hσ (ok35 T hT X) (by decide)
    · exact inl_ok (lvl0 T hT X) hσ (ok49 T hT X) (by decide)
    · exact inl_ok (lvl0 T hT X) hσ (ok56 T hT X) (by decide)
    · exact noP_ok) (fun _ m => nomatch m) fun e => by cases e
theorem lvl2 (T : Top hd.view_39 loose mean mg mb h1) (hT : TabsAt tabs h1) (X : (hd.heap_39 pp).In (ghostOf h1 tabs)) : Lvl w (π0 h1 sv raw) mg mb st P2 102 :=
  fun σ hσ => (ctx0 T hT X).next σ hσ rfl (fun f => by
    show PrimOK w _ 102 f (prim2 f)
    unfold prim2
    split
    · exact inl_ok (lvl1 T hT X) hσ (ok21 T hT X) (by decide)
    · exact inl_ok (lvl1 T hT X) hσ (ok63 T hT X) (by decide)
    · exact p75_ok (lvl1 T hT X) hσ (ok75 T hT X) run75 (by decide)
    · exact noP_ok) (fun _ m => nomatch m) fun e => by cases e
theorem ctx3 (T : Top hd.view_39 loose mean mg mb h1) (hT : TabsAt tabs h1) (X : (hd.heap_39 pp).In (ghostOf h1 tabs))
    (hs : ∃ a cvs ns, sv = .ref a ∧ (ghostOf h1 tabs).IsList a (List.toArray cvs) ∧ IntsAre cvs ns ∧ ns.length ≤ 63 ∧ ∀ i, i < 7 → (ns ++ List.replicate 7 0)[i]? = some (raw i)) : Ctx w ((π0 h1 sv raw).re (σL raw)) mg mb st P3 163 :=
  (ctx0 T hT X).next (σL raw) (σL_ok raw) rfl (fun f => by
    show PrimOK w _ 163 f (prim3 f)
    unfold prim3
    split
    · exact p70_ok (lvl2 T hT X) (σL_ok raw) (ok70 T hT X) run70 (by decide)
    · exact p75_ok (lvl1 T hT X) (σL_ok raw) (ok75 T hT X) run75 (by decide)
    · exact p80_ok (lvl2 T hT X) (σL_ok raw) (σL_9 raw) (ok80 T hT X) run80 (by decide)
    · exact p85_ok (lvl2 T hT X) (σL_ok raw) (σL_9 raw) (ok85 T hT X) run85 (by decide)
    · exact noP_ok) (known_ok _) fun _ => by
      obtain ⟨a, cvs, ns, e1, e2, e3, e4, e5⟩ := hs
      exact ⟨a, cvs, ns, e1, e2, e3, e4, fun i hi => ⟨e5 i hi, by show (if i < 7 then _ else _) = _; rw [if_pos hi]; rfl⟩⟩
theorem ok90 (T : Top hd.view_39 loose mean mg mb h1) (hT : TabsAt tabs h1) (X : (hd.heap_39 pp).In (ghostOf h1 tabs)) : FnOK (π0 h1 sv raw) st G90 90 := by
  refine fnok T hT X 12 11 90 G90 (by kernel_rfl) (by kernel_rfl) tr.s12 (trB_x Nb12 tr.t12) (by decide +kernel) ?_ (fun g hg => nomatch (show (0 : Nat) = g + 1 from hg))
  intro pm cd doc cs hcs
  obtain ⟨a, rfl⟩ := len1 hcs
  rfl
end
end Mine

namespace Mine
theorem inv0 {w : World} {mg mb : Str → Option Value} {s₁ : Shared} {loose : List Str} {mean : ExcName → Option Value} {sv : Value} {raw : Nat → Int} (T : Top hd.view_39 loose mean mg mb s₁.heap) (hT : TabsAt tabs s₁.heap) :
    Inv ((π0 s₁.heap sv raw).re (σL raw)) [44, 51] H0a s₁.heap := by
  refine ⟨rfl, ?_, fun a m => ?_, fun a m => ?_, ?_, fun b o e => of_hideAll _ e, ?_⟩
  · intro i j o o' a e1 e2 _ _ _ _
    match i, j with
    | 0, 0 => rfl
    | 1, 1 => rfl
    | 0, 1 => cases e1; exact absurd (Option.some.inj e2) (by decide)
    | 1, 0 => cases e1; exact absurd (Option.some.inj e2) (by decide)
    | i + 2, _ => cases e1
    | 0, j + 2 => cases e2
    | 1, j + 2 => cases e2
  · refine hideAll_none _ ?_
    simp only [List.mem_cons, List.not_mem_nil, or_false] at m
    rcases m with rfl | rfl
    · exact .tail _ (.head _)
    · exact .head _
  · simp only [List.mem_cons, List.not_mem_nil, or_false] at m
    rcases m with rfl | rfl
    · exact fun q => absurd (show (44 : Nat) = 1 from q) (by decide)
    · exact fun q => absurd (show (51 : Nat) = 1 from q) (by decide)
  · obtain ⟨o, es, ep, q, _⟩ := ghost_ns hT T.g
    exact ⟨o, q⟩
  · intro i o a e1 e2
    match i with
    | 0 => cases e1; cases e2; exact ⟨rfl, .inl (hT (48, 44) (.tail _ (.head _))).2⟩
    | 1 => cases e1; cases e2; exact ⟨rfl, .inl (hT (55, 51) (.head _)).2⟩
    | i + 2 => cases e1
theorem room0 : Room (60 + 163 + 1) callerA := ⟨rfl, by rw [depth_caller]; decide, by rw [units_caller]; decide⟩
theorem tab_grown {π : Par} {ρ : List Addr} {h : Heap} {a : Addr} {f : Nat} (x : ObjR π ρ h a (.tab f)) : GrownAt (π.ni f).P h := by
  obtain ⟨ea, x⟩ := x
  subst ea
  rcases x with e | ⟨_, e, _⟩
  · exact ⟨_, e⟩
  · exact ⟨_, e⟩
theorem law_goal {w : World} {mg mb : Str → Option Value} {s₁ : Shared} {loose : List Str} {mean mean' : ExcName → Option Value} {fa l : Addr} {cvs : List Value} {ns : List Int} {cw : ClaimW} {cl : Str → Option Addr} {args : List WData}
    (T : Top hd.view_39 loose mean' mg mb s₁.heap) (hT : TabsAt tabs s₁.heap) (X : (hd.heap_39 w.params).In s₁.heap) (hm : mg (recAt 12).name = some (.ref fa)) (hl : s₁.heap.IsList l cvs.toArray) (hi : IntsAre cvs ns) (hlen : ns.length ≤ 63) (hg : s₁.gens = #[])
    (hr : ∀ a x, cw.raises a x = false) (hp : cw.post args (.bool true) args = true) : codeAny (MM w) callerA (.call (.ref fa) ⟨[.ref l], []⟩) (GoodWG cw cl mean args s₁) s₁ := by
  have hfa := hm.symm.trans (mg_of (n := (recAt 12).name) (v := .ref 90) X T.g (by kernel_rfl))
  cases hfa
  have Xg : (hd.heap_39 w.params).In (ghostOf s₁.heap tabs) := ghost_K hT X (by kernel_rfl)
  refine kn_post hT hr ?_
  obtain ⟨HL, ht, hL0, hL1⟩ := law_ends
  refine callG_code (ctx3 (sv := .ref l) (raw := fun i => (ns ++ List.replicate 7 0).getD i 0) T hT Xg ⟨l, cvs, ns, rfl, ghost_list hT hl, hi, hlen, fun i h7 => ?_⟩) ((ok90 T hT Xg).re _) ht room0 (inv0 (w := w) T hT) (vs := [.scr]) (cvs := [.ref l]) ⟨rfl, trivial⟩ fun ρ' cv h' tk' hv I' _ => ?_
  · have : i < (ns ++ List.replicate 7 0).length := by rw [List.length_append, List.length_replicate]; omega
    rw [List.getElem?_eq_getElem this, List.getD_eq_getElem?_getD, List.getElem?_eq_getElem this]; rfl
  · have hv : cv = .bool true := hv
    subst hv
    refine ⟨⟨.inl ⟨.bool true, .bool true, [], rfl, hr _, .bool true, hp, fun _ => ⟨List.nodup_nil, fun _ m => nomatch m⟩⟩, I'.base, rfl, hg⟩, ?_, ?_, trivial⟩
    · obtain ⟨a, _, x⟩ := I'.at hL1
      exact tab_grown x
    · obtain ⟨a, _, x⟩ := I'.at hL0
      exact tab_grown x
end Mine

theorem PySem.Challenge.cw_hf0007_01_holds : PySem.Challenge.rw_hf0007_01.Holds :=
  Mine.hd (by
  k_fill
  intro w s₀ s₁ mg mb G Y fa o pm cd doc dV kV ho hd hcd hD hmg hg args vals as hpre hlay hrd hwl hlo
  have KX := km_in_of Y
  km_tabs Y
  refine Ground.open G ?_
  intro T B D TE TW
  km_lay T hmg ho hd cd
  wrow_args hpre hlay hrd hwl hlo
  all_goals (first | refine callC_kw (enter_call ?_) | refine enter_call ?_)
  rename_i ns _ _ _ _ _ _ _ l cvs _ hL _ _ _ hI _ hlen _
  refine Mine.law_goal T hT9 KX hmg hL hI ?_ hg (fun _ _ => rfl) ?_
  · omega
  · first | rfl | kernel_rfl)
