import PyProof.Rows.All
import Wide.All
import OpenK.AllK
import Wide.FinOn
import PySem.Challenge.RW_kl0421_01
set_option autoImplicit false
set_option linter.all false
set_option Elab.async false
section
open PySem PySem.W PyProof.Rows
namespace Mine
inductive D where
  | none
  | bool (b : Bool)
  | int (i : Int)
  | str (t : List Nat)
  | star
  | tup (l : List D)
  | list (l : List D)
inductive V where
  | d (x : D)
  | loc (i : Nat)
  | app (i : Nat)
noncomputable abbrev Cells := List (List D)
noncomputable abbrev Vars := Nat → Option V
noncomputable def vget (vs : Vars) (x : Nat) : Option V := vs x
noncomputable def vset (x : Nat) (v : V) (vs : Vars) : Vars := fun y => bif Nat.beq y x then some v else vs y
noncomputable def vof : List (Nat × V) → Vars
  | [], _ => none
  | z :: r, y => bif Nat.beq y z.1 then some z.2 else vof r y
theorem vget_vset (x : Nat) (v : V) (r : Vars) (y : Nat) : vget (vset x v r) y = if y = x then some v else vget r y := by
  by_cases h : y = x
  · rw [if_pos h]; exact congrArg (fun b => bif b then some v else r y) (Nat.beq_eq.mpr h)
  · rw [if_neg h]; exact congrArg (fun b => bif b then some v else r y) (Bool.eq_false_iff.mpr fun e => h (Nat.eq_of_beq_eq_true e))
theorem noS {α : Type} {a : α} {P : Prop} (h : none = some a) : P := nomatch h
theorem noT {P : Prop} (h : false = true) : P := nomatch h
inductive BO where | add | sub | mul | fdiv | mod | pow | shr
  deriving DecidableEq
inductive CO where | lt | gt | ge | eq | ne | is | isnot | inn | notin
inductive ME where
  | int (i : Int) | str (t : List Nat) | bool (b : Bool) | none
  | var (x : Nat)
  | bin (o : BO) (a b : ME)
  | neg (a : ME) | not (a : ME)
  | and (a b : ME) | or (a b : ME)
  | cmp (o : CO) (a b : ME)
  | ite (c a b : ME)
  | sub (a i : ME)
  | slice (a : ME) (lo hi : Option ME)
  | rev (a : ME)
  | list (es : List ME) | tup (es : List ME)
  | comp (e : ME) (x : Nat) (it : ME) (c : Option ME)
  | comp2 (e : ME) (x : Nat) (it : ME) (y : Nat) (it2 : ME)
  | call (f : Nat) (es : List ME)
  | len (a : ME) | sum (a : ME) | min (a b : ME) | sorted (a : ME) | strOf (a : ME)
  | pop (x : Nat) | count (a b : ME) | replace (a b c : ME) | join (a b : ME)
  | twin (a : ME)
  | fstr (es : List ME)
  | range (a : ME) | rrange (a : ME)
inductive MS where
  | assign (x : Nat) (e : ME)
  | newlist (x : Nat) (e : ME)
  | multi (ts : List (Nat × Bool × ME))
  | bindapp (x r : Nat)
  | aug (x : Nat) (o : BO) (e : ME)
  | setitem (x : Nat) (i v : ME)
  | meth (x : Nat) (e : ME)
  | addc (x : Nat) (e : ME)
  | expr (e : ME)
  | ifs (c : ME) (t e : List MS)
  | while (c : ME) (b : List MS)
  | for (xs : List Nat) (pat : Bool) (it : ME) (b : List MS)
  | forEsc (x y : Nat) (e : ME) (b : List MS)
  | ret (e : Option ME)
  | assert (c : ME)
  | cont | brk
  | opq
inductive Fl where
  | next | brk | cont
  | ret (v : V)
end Mine
end
section
open PySem PySem.W PyProof.Rows
namespace Mine
theorem runs_toks {M : Model} {Γ : Ctx} {p : Pos} {t : Sem Fin} {fs : List Frame} {s : Shared} {e : End} {s' : Shared} (h : Runs M Γ p t fs s e s') : s.toks ≤ s'.toks := by
  induction h <;> (try simp only [Shared.setGen] at *) <;> first | exact Nat.le_refl _ | assumption | omega
theorem wakes_toks {M : Model} {Γ : Ctx} {p : Pos} {g : Nat} {r : Resume} {s : Shared} {res : GenResult} {s' : Shared} (h : Wakes M Γ p g r s res s') : s.toks ≤ s'.toks := by
  unfold Wakes at h
  cases hg : s.gens[g]? with
  | none => rw [hg] at h; exact h.elim
  | some gs =>
    rw [hg] at h
    cases gs with
    | fresh c =>
      cases r with
      | send v =>
        cases v <;> first
          | (obtain ⟨rfl, rfl⟩ := h; exact Nat.le_refl _)
          | (obtain ⟨e₁, s₁, hr, _, rfl, rfl⟩ := h; have := runs_toks hr; simpa [Shared.setGen] using this)
      | throw x => obtain ⟨rfl, rfl⟩ := h; exact Nat.le_refl _
    | suspended k l c p fs cl => obtain ⟨e₁, s₁, hr, _, rfl, rfl⟩ := h; have := runs_toks hr; simpa [Shared.setGen] using this
    | running => obtain ⟨rfl, rfl⟩ := h; exact Nat.le_refl _
    | finished => obtain ⟨rfl, rfl⟩ := h; exact Nat.le_refl _
theorem wp_toks {α : Type} {M : Model} {Γ : Ctx} (t : Sem α) : ∀ {Q : α → Pos → Shared → Prop} {E : Value → Pos → Shared → Prop} {p : Pos} {s : Shared},
    Sem.wp M Γ t Q E p s → Sem.wp M Γ t (fun a p' s' => s.toks ≤ s'.toks ∧ Q a p' s') (fun e p' s' => s.toks ≤ s'.toks ∧ E e p' s') p s := by
  induction t with
  | pure a => intro Q E p s h; exact ⟨Nat.le_refl _, h⟩
  | raise e => intro Q E p s h; exact ⟨Nat.le_refl _, h⟩
  | unsupported | finish | yield | fork | await | register => intro Q E p s h; exact h.elim
  | rule _ k ih => intro Q E p s h; exact ih _ h
  | «at» p' k ih => intro Q E p s h; exact ih _ (p := p') h
  | loadIfAlive _ k ih | point _ k ih | ask k ih | handled _ k ih | stack k ih | thread k ih =>
    intro Q E p s h; exact ih _ h
  | alloc o k ih => intro Q E p s h; exact ih _ (s := { s with heap := s.heap.push o }) h
  | newGen c k ih => intro Q E p s h; exact ih _ (s := { s with gens := s.gens.push (.fresh c) }) h
  | os q l k ih => intro Q E p s h; exact ih _ (s := { s with os := (Os.step s.os q).1 }) h
  | fresh k ih =>
    intro Q E p s h
    refine Sem.wp_mono M Γ _ ?_ ?_ _ _ (ih _ (s := { s with toks := s.toks + 1 }) h)
    · intro x p' s' ⟨a, b⟩; exact ⟨Nat.le_trans (Nat.le_succ _) a, b⟩
    · intro x p' s' ⟨a, b⟩; exact ⟨Nat.le_trans (Nat.le_succ _) a, b⟩
  | load a _ k ih => intro Q E p s h; obtain ⟨o, ho, h⟩ := h; exact ⟨o, ho, ih _ h⟩
  | genState g k ih => intro Q E p s h; obtain ⟨o, ho, h⟩ := h; exact ⟨o, ho, ih _ h⟩
  | update a pt f k ih => intro Q E p s h; obtain ⟨ho, h⟩ := h; exact ⟨ho, ih _ (s := { s with heap := s.heap.update a f }) h⟩
  | choose sr n k ih => intro Q E p s h; obtain ⟨ho, h⟩ := h; exact ⟨ho, ih _ (s := { s with drawn := s.drawn.bump sr }) h⟩
  | call c hh g l k ih =>
    intro Q E p s h
    obtain ⟨r, s', hr, h⟩ := h
    refine ⟨r, s', hr, ?_⟩
    have h1 := runs_toks hr
    refine Sem.wp_mono M Γ _ ?_ ?_ _ _ (ih _ h)
    · intro x p' s' ⟨a, b⟩; exact ⟨Nat.le_trans h1 a, b⟩
    · intro x p' s' ⟨a, b⟩; exact ⟨Nat.le_trans h1 a, b⟩
  | resume g r l k ih =>
    intro Q E p s h
    obtain ⟨r, s', hr, h⟩ := h
    refine ⟨r, s', hr, ?_⟩
    have h1 := wakes_toks hr
    refine Sem.wp_mono M Γ _ ?_ ?_ _ _ (ih _ h)
    · intro x p' s' ⟨a, b⟩; exact ⟨Nat.le_trans h1 a, b⟩
    · intro x p' s' ⟨a, b⟩; exact ⟨Nat.le_trans h1 a, b⟩
theorem wpAny_pos {α : Type} {M : Model} {A : Around} {t : Sem α} {Q : α → Shared → Prop} {E : Value → Shared → Prop} {s : Shared} (hp : 0 < s.toks)
    (h : wpAny M A t (fun a s' => 0 < s'.toks → Q a s') (fun e s' => 0 < s'.toks → E e s') s) : wpAny M A t Q E s := fun Γ p hΓ =>
  Sem.wp_mono M Γ t (fun _ _ _ ⟨a, b⟩ => b (Nat.lt_of_lt_of_le hp a)) (fun _ _ _ ⟨a, b⟩ => b (Nat.lt_of_lt_of_le hp a)) _ _ (wp_toks t (h Γ p hΓ))
theorem codeAny_pos {M : Model} {A : Around} {c : Code} {R : Result → Shared → Prop} {s : Shared} (hp : 0 < s.toks)
    (h : codeAny M A c (fun r s' => 0 < s'.toks → R r s') s) : codeAny M A c R s := fun Γ p hc hΓ =>
  let ⟨r, s', hr, hR⟩ := h Γ p hc hΓ
  ⟨r, s', hr, hR (Nat.lt_of_lt_of_le hp (runs_toks hr))⟩
end Mine
end
section
open PySem PySem.W PyProof.Rows
namespace Mine
noncomputable abbrev FT := Nat → List V → Cells → Option (V × Cells)
noncomputable def dOf : V → Option D
  | .d x => some x
  | _ => none
noncomputable def dInt : D → Option Int
  | .int i => some i
  | _ => none
noncomputable def dStr : D → Option (List Nat)
  | .str t => some t
  | _ => none
noncomputable def dList : D → Option (List D)
  | .list l => some l
  | _ => none
noncomputable def dTup : D → Option (List D)
  | .tup l => some l
  | _ => none
noncomputable def dBool : D → Option Bool
  | .bool b => some b
  | _ => none
noncomputable def dNone : D → Option Unit
  | .none => some ()
  | _ => none
noncomputable def dStar : D → Option Unit
  | .star => some ()
  | _ => none
noncomputable def optInt (v : V) : Option Int := (dOf v).bind dInt
noncomputable def optStr (v : V) : Option (List Nat) := (dOf v).bind dStr
noncomputable def optList (v : V) : Option (List D) := (dOf v).bind dList
noncomputable def optTup (v : V) : Option (List D) := (dOf v).bind dTup
noncomputable def optBool (v : V) : Option Bool := (dOf v).bind dBool
noncomputable def isN (v : V) : Bool := ((dOf v).bind dNone).isSome
noncomputable def isStar (v : V) : Bool := ((dOf v).bind dStar).isSome
noncomputable def optLoc : V → Option Nat
  | .loc i => some i
  | _ => none
noncomputable def optApp : V → Option Nat
  | .app i => some i
  | _ => none
noncomputable def oneOf : List Nat → Option Nat
  | [] => none
  | k :: r => if r.isEmpty then some k else none
noncomputable def orE {α β : Type} (o : Option α) (f : α → Option β) (g : Option β) : Option β := match o with
  | some a => f a
  | none => g
noncomputable def guard' {α : Type} (b : Bool) (x : α) : Option α := if b then some x else none
noncomputable def listOfV (c : Cells) (v : V) : Option (List D) := orE (optLoc v) (fun i => c[i]?) (optList v)
noncomputable def truth (c : Cells) (v : V) : Option Bool :=
  orE (optBool v) some <| orE (optInt v) (fun i => some (i != 0)) <| orE (optStr v) (fun t => some (!t.isEmpty)) <|
    if isN v then some false else (listOfV c v).map fun l => !l.isEmpty
noncomputable def strOk (n : Nat) : Bool := decide (n ≤ 1000000)
noncomputable def two (x y : V) (f : Int → Int → Option D) : Option D := (optInt x).bind fun a => (optInt y).bind fun b => f a b
noncomputable def addV (c : Cells) (x y : V) : Option D :=
  orE (optInt x) (fun a => (optInt y).bind fun b => some (.int (a + b))) <| orE (optStr x) (fun a => (optStr y).bind fun b => if strOk (a.length + b.length) then some (.str (a ++ b)) else none) <|
    (listOfV c x).bind fun a => (listOfV c y).bind fun b => if strOk (a.length + b.length) then some (.list (a ++ b)) else none
noncomputable def mulV (x : V) (b : Int) : Option D :=
  orE (optInt x) (fun a => if decide (a.natAbs < 1000000) && decide (b.natAbs < 1000000) then some (.int (a * b)) else none) <|
    orE (optStr x) (fun a => (oneOf a).bind fun k => if decide (-1000000 < b) && decide (b < 1000000) then some (.str (List.replicate b.toNat k)) else none) <|
      (optList x).bind fun a => if strOk (a.length * b.toNat) && decide (-1000000 < b) && decide (b < 1000000) then some (.list ((List.replicate b.toNat a).flatten)) else none
noncomputable def binV (c : Cells) (o : BO) (x y : V) : Option D := match o with
  | .add => addV c x y
  | .sub => two x y fun a b => some (.int (a - b))
  | .mul => (optInt y).bind (mulV x)
  | .fdiv => two x y fun a b => if b != 0 && decide (b.natAbs < 1000000) then some (.int (Int.fdiv a b)) else none
  | .mod => two x y fun a b => if b != 0 then some (.int (Int.fmod a b)) else none
  | .pow => two x y fun a b => if decide (0 ≤ b) && decide (b ≤ 64) && decide (a.natAbs < 64) then some (.int (a ^ b.toNat)) else none
  | .shr => two x y fun a b => if decide (0 ≤ b) then some (.int (Int.fdiv a (2 ^ b.toNat))) else none
noncomputable def scEq (x y : D) : Option Bool :=
  orE (dInt x) (fun a => (dInt y).map fun b => a == b) <| orE (dStr x) (fun a => (dStr y).map fun b => a == b) <| (dBool x).bind fun a => (dBool y).map fun b => a == b
noncomputable def eqItems : List D → List D → Option Bool
  | [], ys => if ys.isEmpty then some true else none
  | x :: xs, ys => match ys with
    | [] => none
    | y :: ys => (scEq x y).bind fun b => (eqItems xs ys).map fun r => b && r
noncomputable def eqSeq (xs ys : List D) : Option Bool := if xs.length != ys.length then some false else eqItems xs ys
noncomputable def ltTup : List D → List D → Option Bool
  | [], ys => some (!ys.isEmpty)
  | x :: xs, ys => match ys with
    | [] => some false
    | y :: ys => (dInt x).bind fun a => (dInt y).bind fun b => if a == b then ltTup xs ys else some (decide (a < b))
noncomputable def inSeq (x : D) : List D → Option Bool
  | [] => some false
  | y :: ys => (scEq y x).bind fun b => (inSeq x ys).map fun r => b || r
noncomputable def isV (x y : V) : Option Bool :=
  orE (optBool y) (fun b => (optBool x).map fun a => a == b) <| if isN y then (if isN x then some true else (optInt x).map fun _ => false) else if isStar y then (if isStar x then some true else (optStr x).map fun _ => false) else none
noncomputable def eqV (c : Cells) (x y : V) : Option Bool :=
  orE (optTup x) (fun a => (optTup y).bind fun b => eqItems a b) <| orE (optInt x) (fun a => (optInt y).map fun b => a == b) <| orE (optStr x) (fun a => (optStr y).map fun b => a == b) <|
    (listOfV c x).bind fun a => (listOfV c y).bind fun b => eqSeq a b
noncomputable def inV (x y : V) : Option Bool :=
  orE (optStr y) (fun t => (optStr x).bind fun s => (oneOf s).map fun k => t.contains k) <| (dOf x).bind fun d => orE (optList y) (inSeq d) ((optTup y).bind (inSeq d))
noncomputable def cmpV (c : Cells) (o : CO) (x y : V) : Option Bool := match o with
  | .lt => orE (optInt x) (fun a => (optInt y).map fun b => decide (a < b)) ((optTup x).bind fun a => (optTup y).bind fun b => ltTup a b)
  | .gt => (optInt x).bind fun a => (optInt y).map fun b => decide (b < a)
  | .ge => (optInt x).bind fun a => (optInt y).map fun b => decide (b ≤ a)
  | .eq => eqV c x y
  | .ne => (eqV c x y).map not
  | .is => isV x y
  | .isnot => (isV x y).map not
  | .inn => inV x y
  | .notin => (inV x y).map not
noncomputable def idx {α : Type} (l : List α) (i : Int) : Option α := match i with
  | .ofNat k => l[k]?
  | .negSucc _ => none
noncomputable def idxL {α : Type} (l : List α) (i : Int) : Option α := match i with
  | .ofNat k => l[k]?
  | .negSucc k => bif Nat.beq k 0 then l.getLast? else none
noncomputable def subV (c : Cells) (x : V) (y : V) : Option D := (optInt y).bind fun i =>
  orE (optStr x) (fun t => (idx t i).map fun ch => .str [ch]) <| orE (optTup x) (fun l => idx l i) <| (listOfV c x).bind fun l => idxL l i
noncomputable def cutL (l : List D) (lo hi : Option Int) : List D := (l.drop (PySem.W.kms_lo lo l.length)).take (PySem.W.kms_hi hi l.length - PySem.W.kms_lo lo l.length)
noncomputable def cutS (t : List Nat) (i j : Int) : Option (List Nat) := if decide (0 ≤ i) && decide (i ≤ j) && decide (j ≤ t.length) then some ((t.drop i.toNat).take (j - i).toNat) else none
noncomputable def cutV (c : Cells) (x : V) (lo hi : Option Int) : Option D :=
  orE (optStr x) (fun t => lo.bind fun a => hi.bind fun b => (cutS t a b).map .str) <| (listOfV c x).map fun l => .list (cutL l lo hi)
noncomputable def intsOf : List D → Option (List Int)
  | [] => some []
  | x :: r => (dInt x).bind fun i => (intsOf r).map (i :: ·)
noncomputable def strsOf : List D → Option (List (List Nat))
  | [] => some []
  | x :: r => (dStr x).bind fun t => (strsOf r).map (t :: ·)
noncomputable def mkS (t : List Nat) : Str := ⟨t.toArray⟩
noncomputable def replS (a b c : List Nat) : List Nat := (Txt.replace (mkS a) (mkS b) (mkS c)).cps.toList
noncomputable def joinS (a : List Nat) (l : List (List Nat)) : List Nat := (Str.join (mkS a) (l.map mkS)).cps.toList
noncomputable def trueS : List Nat := [84, 114, 117, 101]
noncomputable def falseS : List Nat := [70, 97, 108, 115, 101]
noncomputable def lenV (c : Cells) (v : V) : Option Nat := orE (optStr v) (fun t => some t.length) ((listOfV c v).map List.length)
noncomputable def rangeD (n : Nat) : List D := (List.range n).map fun (k : Nat) => D.int (Int.ofNat k)
noncomputable def esc : Nat → List Nat → List (Nat × List Nat)
  | _, [] => []
  | p, [k] => [(p, [k])]
  | p, k :: l :: r => if k = 92 then (p + 1, [92, l]) :: esc (p + 2) r else (p, [k]) :: esc (p + 1) (l :: r)
termination_by structural _ l => l
noncomputable def escD (t : List Nat) : List D := (esc 0 t).map fun x => .tup [.int x.1, .str x.2]
section
variable (F : FT) (rank : Nat → Nat)
noncomputable def evs (g : ME → Cells → Option (V × Cells)) : List ME → Cells → Option (List V × Cells)
  | [], c => some ([], c)
  | e :: es, c => (g e c).bind fun x => (evs g es x.2).bind fun y => some (x.1 :: y.1, y.2)
noncomputable def dsOf : List V → Option (List D)
  | [] => some []
  | x :: r => (dOf x).bind fun d => (dsOf r).map (d :: ·)
noncomputable def compRun (g : D → Cells → Option (List D × Cells)) : List D → Cells → Option (List D × Cells)
  | [], c => some ([], c)
  | d :: ds, c => (g d c).bind fun x => (compRun g ds x.2).bind fun y => some (x.1 ++ y.1, y.2)
noncomputable abbrev EvT := ME → Vars → Cells → Option (V × Cells)
noncomputable def u1 {α : Type} (w : α → D) (g : EvT) (a : ME) (vs : Vars) (c : Cells) (f : V → Cells → Option α) : Option (V × Cells) := (g a vs c).bind fun x => (f x.1 x.2).map fun r => (.d (w r), x.2)
noncomputable def b2 {α : Type} (w : α → D) (g : EvT) (a b : ME) (vs : Vars) (c : Cells) (f : V → V → Cells → Option α) : Option (V × Cells) := (g a vs c).bind fun x => (g b vs x.2).bind fun y => (f x.1 y.1 y.2).map fun r => (.d (w r), y.2)
noncomputable def t1 (g : EvT) (a : ME) (vs : Vars) (c : Cells) (f : V → Bool → Cells → Option (V × Cells)) : Option (V × Cells) := (g a vs c).bind fun x => (truth x.2 x.1).bind fun t => f x.1 t x.2
noncomputable def es (w : List D → Cells → Option (V × Cells)) (g : EvT) (l : List ME) (vs : Vars) (c : Cells) : Option (V × Cells) := (evs (fun e c => g e vs c) l c).bind fun x => (dsOf x.1).bind fun l => w l x.2
noncomputable def op1 (g : EvT) (o : Option ME) (vs : Vars) (c : Cells) : Option (Option Int × Cells) := match o with
  | none => some (none, c)
  | some e => (g e vs c).bind fun y => (optInt y.1).map fun i => (some i, y.2)
noncomputable def rng (g : EvT) (a : ME) (vs : Vars) (c : Cells) (f : List D → List D) : Option (List D × Cells) := (g a vs c).bind fun x => (optInt x.1).bind fun k => if decide (-100000 < k) && decide (k < 100000) then some (f (rangeD k.toNat), x.2) else none
noncomputable def asRange (m : ME) : Option ME := if h : m.ctorIdx = 31 then ME.range.elim (motive_1 := fun _ => Option ME) m h some else none
noncomputable def asRrange (m : ME) : Option ME := if h : m.ctorIdx = 32 then ME.rrange.elim (motive_1 := fun _ => Option ME) m h some else none
noncomputable def itemsV (v : V) : Option (List D) := orE (optList v) some ((optStr v).map fun t => t.map fun k => .str [k])
noncomputable def itE (g : EvT) (it : ME) (vs : Vars) (c : Cells) : Option (List D × Cells) :=
  orE (asRange it) (fun a => rng g a vs c id) <| orE (asRrange it) (fun a => rng g a vs c List.reverse) <| (g it vs c).bind fun x => (itemsV x.1).map fun l => (l, x.2)
noncomputable def elE (g : EvT) (e : ME) (x : Nat) (vs : Vars) (d : D) (c : Cells) : Option (List D × Cells) := (g e (vset x (.d d) vs) c).bind fun r => (dOf r.1).map fun r' => ([r'], r.2)
noncomputable def elT (g : EvT) (e : ME) (x : Nat) (cnd : Option ME) (vs : Vars) (d : D) (c : Cells) : Option (List D × Cells) := match cnd with
  | none => elE g e x vs d c
  | some t => (g t (vset x (.d d) vs) c).bind fun b => (truth b.2 b.1).bind fun t => if t then elE g e x vs d b.2 else some ([], b.2)
noncomputable def comp' (g : EvT) (it : ME) (vs : Vars) (c : Cells) (f : D → Cells → Option (List D × Cells)) : Option (V × Cells) :=
  (itE g it vs c).bind fun l => (compRun f l.1 l.2).bind fun r => if strOk r.1.length then some (.d (.list r.1), r.2) else none
noncomputable def elP (g : EvT) (e : ME) (x y : Nat) (it2 : ME) (vs : Vars) (d : D) (c : Cells) : Option (List D × Cells) := (itE g it2 (vset x (.d d) vs) c).bind fun m => compRun (elE g e y (vset x (.d d) vs)) m.1 m.2
noncomputable def bits (t : List Nat) : Bool := t.all fun k => k == 40 || k == 41
noncomputable def replV (t p q : List Nat) : Option (List Nat) := if strOk t.length && !(p == q) && decide (q.length ≤ 14) && strOk (replS t p q).length then some (replS t p q) else none
noncomputable def joinV (t : List Nat) (l : List (List Nat)) : Option (List Nat) := if strOk (joinS t l).length && decide ((l.map List.length).sum + l.length * t.length ≤ 16777216) then some (joinS t l) else none
noncomputable def strLit (m : ME) : Option (List Nat) := if h : m.ctorIdx = 1 then ME.str.elim (motive_1 := fun _ => Option (List Nat)) m h some else none
noncomputable def popV (c : Cells) (i : Nat) : Option (V × Cells) := (c[i]?).bind fun l => (l.getLast?).map fun d => (.d d, c.set i l.dropLast)
noncomputable def ev : Nat → ME → Vars → Cells → Option (V × Cells)
  | 0, _, _, _ => none
  | n + 1, e, vs, c => match e with
    | .int i => some (.d (.int i), c)
    | .str t => some (.d (.str t), c)
    | .bool b => some (.d (.bool b), c)
    | .none => some (.d .none, c)
    | .var x => (vget vs x).map fun v => (v, c)
    | .bin o a b => b2 id (ev n) a b vs c fun x y c => binV c o x y
    | .neg a => u1 .int (ev n) a vs c fun x _ => (optInt x).map fun i => -i
    | .not a => u1 .bool (ev n) a vs c fun x c => (truth c x).map not
    | .and a b => t1 (ev n) a vs c fun x t c => if t then ev n b vs c else some (x, c)
    | .or a b => t1 (ev n) a vs c fun x t c => if t then some (x, c) else ev n b vs c
    | .cmp o a b => b2 .bool (ev n) a b vs c fun x y c => cmpV c o x y
    | .ite t a b => t1 (ev n) t vs c fun _ t c => if t then ev n a vs c else ev n b vs c
    | .sub a i => b2 id (ev n) a i vs c fun x y c => subV c x y
    | .slice a lo hi => (ev n a vs c).bind fun x => (op1 (ev n) lo vs x.2).bind fun l => (op1 (ev n) hi vs l.2).bind fun h => (cutV h.2 x.1 l.1 h.1).map fun r => (.d r, h.2)
    | .rev a => u1 .list (ev n) a vs c fun x c => (listOfV c x).map List.reverse
    | .list l => es (fun l c => some (.d (.list l), c)) (ev n) l vs c
    | .tup l => es (fun l c => some (.d (.tup l), c)) (ev n) l vs c
    | .comp e x it cnd => comp' (ev n) it vs c (elT (ev n) e x cnd vs)
    | .comp2 e x it y it2 => if (vget vs y).isSome then none else comp' (ev n) it vs c (elP (ev n) e x y it2 vs)
    | .call f l => (evs (fun e c => ev n e vs c) l c).bind fun x => if Nat.ble (rank f) n then F f x.1 x.2 else none
    | .len a => u1 (fun (k : Nat) => D.int (Int.ofNat k)) (ev n) a vs c fun x c => lenV c x
    | .sum a => u1 .int (ev n) a vs c fun x c => (listOfV c x).bind fun l => (intsOf l).map List.sum
    | .min a b => b2 .int (ev n) a b vs c fun x y _ => (optInt x).bind fun i => (optInt y).map fun j => if j < i then j else i
    | .sorted a => u1 .list (ev n) a vs c fun x c => (listOfV c x).bind fun l => if decide (l.length < 64) then (intsOf l).map fun l => (l.mergeSort (· ≤ ·)).map .int else none
    | .strOf a => u1 .str (ev n) a vs c fun x _ => (optBool x).map fun b => if b then trueS else falseS
    | .pop x => (vget vs x).bind fun v => (optLoc v).bind (popV c)
    | .count a b => b2 .int (ev n) a b vs c fun x y _ => (optStr x).bind fun t => (optStr y).bind fun s => (oneOf s).map fun k => ((t.count k : Nat) : Int)
    | .replace a b d => u1 .str (ev n) a vs c fun x _ => (optStr x).bind fun t => (strLit b).bind fun p => (strLit d).bind fun q => replV t p q
    | .join a b => b2 .str (ev n) a b vs c fun x y c => (optStr x).bind fun t => (listOfV c y).bind fun l => (strsOf l).bind (joinV t)
    | .twin a => u1 .str (ev n) a vs c fun x _ => (optStr x).bind fun t => if strOk t.length && bits t then some t else none
    | .fstr l => es (fun l c => (strsOf l).bind fun l => if strOk l.flatten.length then some (.d (.str l.flatten), c) else none) (ev n) l vs c
    | .range _ => none
    | .rrange _ => none
noncomputable def itemsOf (n : Nat) (it : ME) (vs : Vars) (c : Cells) : Option (List D × Cells) := itE (ev F rank n) it vs c
noncomputable def tr (n : Nat) (e : ME) (vs : Vars) (c : Cells) : Option (Bool × Cells) := (ev F rank n e vs c).bind fun x => (truth x.2 x.1).map fun b => (b, x.2)
noncomputable def after (k : Vars → Cells → Option (Fl × Vars × Cells)) (x : Fl × Vars × Cells) : Option (Fl × Vars × Cells) := match x.1 with
  | .next => k x.2.1 x.2.2
  | _ => some x
noncomputable def exs (g : MS → Vars → Cells → Option (Fl × Vars × Cells)) : List MS → Vars → Cells → Option (Fl × Vars × Cells)
  | [], vs, c => some (.next, vs, c)
  | s :: r, vs, c => (g s vs c).bind (after (exs g r))
noncomputable def turn' (k : Vars → Cells → Option (Fl × Vars × Cells)) (y : Fl × Vars × Cells) : Option (Fl × Vars × Cells) := match y.1 with
  | .next => k y.2.1 y.2.2
  | .cont => k y.2.1 y.2.2
  | .brk => some (.next, y.2.1, y.2.2)
  | .ret v => some (.ret v, y.2.1, y.2.2)
noncomputable def whl (t : Vars → Cells → Option (Bool × Cells)) (b : Vars → Cells → Option (Fl × Vars × Cells)) : Nat → Vars → Cells → Option (Fl × Vars × Cells)
  | 0, _, _ => none
  | n + 1, vs, c => (t vs c).bind fun x => if x.1 then (b vs x.2).bind (turn' (whl t b n)) else some (.next, vs, x.2)
noncomputable def hd1 {α : Type} : List α → Option α
  | [] => none
  | x :: r => if r.isEmpty then some x else none
noncomputable def hd2 {α : Type} : List α → Option (α × α)
  | [] => none
  | x :: r => (hd1 r).map fun y => (x, y)
noncomputable def bindPat (xs : List Nat) (pat : Bool) (d : D) (vs : Vars) : Option Vars := match pat with
  | false => (hd1 xs).map fun x => vset x (.d d) vs
  | true => (hd2 xs).bind fun x => (optTup (.d d)).bind fun l => (hd2 l).map fun a => vset x.2 (.d a.2) (vset x.1 (.d a.1) vs)
noncomputable def forRun (b : Vars → Cells → Option (Fl × Vars × Cells)) (xs : List Nat) (pat : Bool) : List D → Vars → Cells → Option (Fl × Vars × Cells)
  | [], vs, c => some (.next, vs, c)
  | d :: ds, vs, c => (bindPat xs pat d vs).bind fun vs => (b vs c).bind (turn' (forRun b xs pat ds))
noncomputable def multiEv (g : ME → Cells → Option (V × Cells)) : List (Nat × Bool × ME) → Cells → Option (List (Nat × V) × Cells)
  | [], c => some ([], c)
  | z :: r, c => (g z.2.2 c).bind fun y => if z.2.1 then (optList y.1).bind fun l => (multiEv g r (y.2 ++ [l])).map fun w => ((z.1, .loc y.2.length) :: w.1, w.2)
    else (multiEv g r y.2).map fun w => ((z.1, y.1) :: w.1, w.2)
noncomputable def vsets : List (Nat × V) → Vars → Vars
  | [], vs => vs
  | z :: r, vs => vsets r (vset z.1 z.2 vs)
noncomputable def augV (o : BO) (i j : Int) : Option Int := match o with
  | .add => some (i + j)
  | .sub => some (i - j)
  | _ => none
noncomputable def setV (c : Cells) (k : Nat) (i : Int) (d : D) : Option Cells := (c[k]?).bind fun l => match i with
  | .ofNat j => if Nat.blt j l.length then some (c.set k (l.set j d)) else none
  | .negSucc _ => none
noncomputable def appV (c : Cells) (k : Nat) (d : D) : Option Cells := (c[k]?).bind fun l => if strOk (l.length + 1) then some (c.set k (l ++ [d])) else none
noncomputable def ex (fu : Nat) : Nat → MS → Vars → Cells → Option (Fl × Vars × Cells)
  | 0, _, _, _ => none
  | n + 1, s, vs, c => match s with
    | .assign x e => (ev F rank n e vs c).map fun y => (.next, vset x y.1 vs, y.2)
    | .newlist x e => (ev F rank n e vs c).bind fun y => (optList y.1).map fun l => (.next, vset x (.loc y.2.length) vs, y.2 ++ [l])
    | .multi ts => (multiEv (fun e c => ev F rank n e vs c) ts c).map fun z => (.next, vsets z.1 vs, z.2)
    | .bindapp x r => (vget vs r).bind fun v => (optLoc v).bind fun i => if Nat.blt i c.length then some (.next, vset x (.app i) vs, c) else none
    | .aug x o e => (vget vs x).bind fun a => (ev F rank n e vs c).bind fun y => (optInt a).bind fun i => (optInt y.1).bind fun j => (augV o i j).map fun k => (.next, vset x (.d (.int k)) vs, y.2)
    | .setitem x i e => (ev F rank n e vs c).bind fun y => (dOf y.1).bind fun d => (vget vs x).bind fun v => (optLoc v).bind fun k => (ev F rank n i vs y.2).bind fun z => (optInt z.1).bind fun i => (setV z.2 k i d).map fun c => (.next, vs, c)
    | .meth x e => (vget vs x).bind fun v => (optLoc v).bind fun k => (ev F rank n e vs c).bind fun y => (dOf y.1).bind fun d => (appV y.2 k d).map fun c => (.next, vs, c)
    | .addc x e => (vget vs x).bind fun v => (optApp v).bind fun k => (ev F rank n e vs c).bind fun y => (dOf y.1).bind fun d => (appV y.2 k d).map fun c => (.next, vs, c)
    | .expr e => (ev F rank n e vs c).bind fun y => if isN y.1 then some (.next, vs, y.2) else none
    | .ifs t a b => (tr F rank n t vs c).bind fun x => if x.1 then exs (ex fu n) a vs x.2 else exs (ex fu n) b vs x.2
    | .while t b => whl (tr F rank n t) (exs (ex fu n) b) fu vs c
    | .for xs pat it b => (itemsOf F rank n it vs c).bind fun l => forRun (exs (ex fu n) b) xs pat l.1 vs l.2
    | .forEsc x y e b => (ev F rank n e vs c).bind fun z => (optStr z.1).bind fun t => if strOk t.length then forRun (exs (ex fu n) b) [x, y] true (escD t) vs z.2 else none
    | .ret o => match o with
      | none => some (.ret (.d .none), vs, c)
      | some e => (ev F rank n e vs c).map fun y => (.ret y.1, vs, y.2)
    | .assert t => (tr F rank n t vs c).bind fun x => if x.1 then some (.next, vs, x.2) else none
    | .cont => some (.cont, vs, c)
    | .brk => some (.brk, vs, c)
    | .opq => none
structure Fn where
  params : List Nat
  star : Option Nat := none
  body : List MS
mutual
noncomputable def D.noStar : D → Bool
  | .star => false
  | .tup l => noStars l
  | .list l => noStars l
  | _ => true
noncomputable def noStars : List D → Bool
  | [] => true
  | x :: r => x.noStar && noStars r
end
noncomputable def V.noStar : V → Bool
  | .d x => x.noStar
  | _ => true
noncomputable def flV : Fl → Option V
  | .next => some (.d .none)
  | .ret v => some v
  | _ => none
noncomputable def freeze (c : Cells) (k : Nat) (f : Fl) : Option V := (flV f).bind fun v => orE (optLoc v) (fun i => if Nat.ble k i then (c[i]?).map fun l => .d (.list l) else none) ((dOf v).map .d)
noncomputable def exFn (fu n : Nat) (f : Fn) (args : List V) (c : Cells) : Option (V × Cells) :=
  if f.params.length != args.length then none else
  match f.star with
  | none => (exs (ex F rank fu n) f.body (vof (f.params.zip args)) c).bind fun x => (freeze x.2.2 c.length x.1).map fun v => (v, x.2.2.take c.length)
  | some z => if args.all V.noStar && c.all noStars then
      (exs (ex F rank fu n) f.body (vof ((z, .d .star) :: f.params.zip args)) c).bind fun x => (freeze x.2.2 c.length x.1).bind fun v =>
        if v.noStar && (x.2.2.take c.length).all noStars then some (v, x.2.2.take c.length) else none
    else none
end
end Mine
end
section
open PySem PySem.W PyProof.Rows
namespace Mine
noncomputable def nms : List Str := [Str.ofString "heap", Str.ofString "lastelt", Str.ofString "returnitem", Str.ofString "x", Str.ofString "n", Str.ofString "i", Str.ofString "startpos", Str.ofString "pos", Str.ofString "newitem", Str.ofString "parentpos", Str.ofString "parent", Str.ofString "endpos", Str.ofString "childpos", Str.ofString "rightpos", Str.ofString "addr", Str.ofString "opens", Str.ofString "ch", Str.ofString "pat", Str.ofString "STAR", Str.ofString "parts", Str.ofString "QUESTION_MARK", Str.ofString "res", Str.ofString "add", Str.ofString "c", Str.ofString "j", Str.ofString "stuff", Str.ofString "inp", Str.ofString "fixed", Str.ofString "left", Str.ofString "word", Str.ofString "number", Str.ofString "words", Str.ofString "row", Str.ofString "k", Str.ofString "numbers", Str.ofString "more", Str.ofString "rows", Str.ofString "net", Str.ofString "stars", Str.ofString "text", Str.ofString "depth", Str.ofString "low", Str.ofString "sign", Str.ofString "shapes", Str.ofString "keys", Str.ofString "need", Str.ofString "front", Str.ofString "back", Str.ofString "order", Str.ofString "mirror", Str.ofString "key", Str.ofString "reached", Str.ofString "chosen", Str.ofString "shape", Str.ofString "script", Str.ofString "drawn", Str.ofString "made", Str.ofString "forms", Str.ofString "turn", Str.ofString "pattern", Str.ofString "refused", Str.ofString "greatest"]
noncomputable def fn1 : Fn := { params := [0], star := none, body := [
  (.assign 1 (.pop 0)),
  (.ifs (.var 0) [(.assign 2 (.sub (.var 0) (.int 0))), (.setitem 0 (.int 0) (.var 1)), (.expr (.call 6 [(.var 0), (.int 0)])), (.ret (some (.var 2)))] []),
  (.ret (some (.var 1)))] }
noncomputable def fn2 : Fn := { params := [3], star := none, body := [
  (.assign 4 (.len (.var 3))),
  (.for [5] false (.rrange (.bin .fdiv (.var 4) (.int 2))) [(.expr (.call 6 [(.var 3), (.var 5)]))])] }
noncomputable def fn3 : Fn := { params := [0], star := none, body := [
  (.assign 1 (.pop 0)),
  (.ifs (.var 0) [(.assign 2 (.sub (.var 0) (.int 0))), (.setitem 0 (.int 0) (.var 1)), (.expr (.call 8 [(.var 0), (.int 0)])), (.ret (some (.var 2)))] []),
  (.ret (some (.var 1)))] }
noncomputable def fn4 : Fn := { params := [3], star := none, body := [
  (.assign 4 (.len (.var 3))),
  (.for [5] false (.rrange (.bin .fdiv (.var 4) (.int 2))) [(.expr (.call 8 [(.var 3), (.var 5)]))])] }
noncomputable def fn5 : Fn := { params := [0, 6, 7], star := none, body := [
  (.assign 8 (.sub (.var 0) (.var 7))),
  (.while (.cmp .gt (.var 7) (.var 6)) [(.assign 9 (.bin .shr (.bin .sub (.var 7) (.int 1)) (.int 1))), (.assign 10 (.sub (.var 0) (.var 9))), (.ifs (.cmp .lt (.var 8) (.var 10)) [(.setitem 0 (.var 7) (.var 10)), (.assign 7 (.var 9)), .cont] []), .brk]),
  (.setitem 0 (.var 7) (.var 8))] }
noncomputable def fn6 : Fn := { params := [0, 7], star := none, body := [
  (.assign 11 (.len (.var 0))),
  (.assign 6 (.var 7)),
  (.assign 8 (.sub (.var 0) (.var 7))),
  (.assign 12 (.bin .add (.bin .mul (.int 2) (.var 7)) (.int 1))),
  (.while (.cmp .lt (.var 12) (.var 11)) [(.assign 13 (.bin .add (.var 12) (.int 1))), (.ifs (.and (.cmp .lt (.var 13) (.var 11)) (.not (.cmp .lt (.sub (.var 0) (.var 12)) (.sub (.var 0) (.var 13))))) [(.assign 12 (.var 13))] []), (.setitem 0 (.var 7) (.sub (.var 0) (.var 12))), (.assign 7 (.var 12)), (.assign 12 (.bin .add (.bin .mul (.int 2) (.var 7)) (.int 1)))]),
  (.setitem 0 (.var 7) (.var 8)),
  (.expr (.call 5 [(.var 0), (.var 6), (.var 7)]))] }
noncomputable def fn7 : Fn := { params := [0, 6, 7], star := none, body := [
  (.assign 8 (.sub (.var 0) (.var 7))),
  (.while (.cmp .gt (.var 7) (.var 6)) [(.assign 9 (.bin .shr (.bin .sub (.var 7) (.int 1)) (.int 1))), (.assign 10 (.sub (.var 0) (.var 9))), (.ifs (.cmp .lt (.var 10) (.var 8)) [(.setitem 0 (.var 7) (.var 10)), (.assign 7 (.var 9)), .cont] []), .brk]),
  (.setitem 0 (.var 7) (.var 8))] }
noncomputable def fn8 : Fn := { params := [0, 7], star := none, body := [
  (.assign 11 (.len (.var 0))),
  (.assign 6 (.var 7)),
  (.assign 8 (.sub (.var 0) (.var 7))),
  (.assign 12 (.bin .add (.bin .mul (.int 2) (.var 7)) (.int 1))),
  (.while (.cmp .lt (.var 12) (.var 11)) [(.assign 13 (.bin .add (.var 12) (.int 1))), (.ifs (.and (.cmp .lt (.var 13) (.var 11)) (.not (.cmp .lt (.sub (.var 0) (.var 13)) (.sub (.var 0) (.var 12))))) [(.assign 12 (.var 13))] []), (.setitem 0 (.var 7) (.sub (.var 0) (.var 12))), (.assign 7 (.var 12)), (.assign 12 (.bin .add (.bin .mul (.int 2) (.var 7)) (.int 1)))]),
  (.setitem 0 (.var 7) (.var 8)),
  (.expr (.call 7 [(.var 0), (.var 6), (.var 7)]))] }
noncomputable def fn10 : Fn := { params := [14], star := none, body := [
  (.ifs (.cmp .notin (.str [34]) (.var 14)) [(.ret (some (.var 14)))] []),
  .opq] }
noncomputable def fn11 : Fn := { params := [14], star := none, body := [
  (.assign 14 (.call 10 [(.var 14)])),
  (.assign 15 (.int 0)),
  (.forEsc 7 16 (.var 14) [(.ifs (.cmp .eq (.var 16) (.str [40])) [(.aug 15 .add (.int 1))] [(.ifs (.cmp .eq (.var 16) (.str [41])) [(.aug 15 .sub (.int 1)), (.ifs (.cmp .lt (.var 15) (.int 0)) [(.ret (some (.bool false)))] [])] [])])]),
  (.ret (some (.cmp .eq (.var 15) (.int 0))))] }
noncomputable def fn12 : Fn := { params := [17], star := some 18, body := [
  (.assign 19 (.call 14 [(.var 17), (.var 18), (.str [46])])),
  (.ret (some (.call 15 [(.var 19), (.var 18)])))] }
noncomputable def fn14 : Fn := { params := [17, 18, 20], star := none, body := [
  (.newlist 21 (.list [])),
  (.bindapp 22 21),
  (.multi [(5, false, (.int 0)), (4, false, (.len (.var 17)))]),
  (.while (.cmp .lt (.var 5) (.var 4)) [(.assign 23 (.sub (.var 17) (.var 5))), (.assign 5 (.bin .add (.var 5) (.int 1))), (.ifs (.cmp .eq (.var 23) (.str [42])) [(.ifs (.or (.not (.var 21)) (.cmp .isnot (.sub (.var 21) (.neg (.int 1))) (.var 18))) [(.addc 22 (.var 18))] [])] [(.ifs (.cmp .eq (.var 23) (.str [63])) [(.addc 22 (.var 20))] [(.ifs (.cmp .eq (.var 23) (.str [91])) [(.assign 24 (.var 5)), (.ifs (.and (.cmp .lt (.var 24) (.var 4)) (.cmp .eq (.sub (.var 17) (.var 24)) (.str [33]))) [(.assign 24 (.bin .add (.var 24) (.int 1)))] []), (.ifs (.and (.cmp .lt (.var 24) (.var 4)) (.cmp .eq (.sub (.var 17) (.var 24)) (.str [93]))) [(.assign 24 (.bin .add (.var 24) (.int 1)))] []), (.while (.and (.cmp .lt (.var 24) (.var 4)) (.cmp .ne (.sub (.var 17) (.var 24)) (.str [93]))) [(.assign 24 (.bin .add (.var 24) (.int 1)))]), (.ifs (.cmp .ge (.var 24) (.var 4)) [(.addc 22 (.str [92, 91]))] [(.assign 25 (.slice (.var 17) (some (.var 5)) (some (.var 24)))), (.ifs (.cmp .notin (.str [45]) (.var 25)) [(.assign 25 (.replace (.var 25) (.str [92]) (.str [92, 92])))] [.opq]), (.assign 25 (.twin (.var 25))), (.assign 5 (.bin .add (.var 24) (.int 1))), (.ifs (.not (.var 25)) [(.addc 22 (.str [40, 63, 33, 41]))] [(.ifs (.cmp .eq (.var 25) (.str [33])) [(.addc 22 (.str [46]))] [(.ifs (.cmp .eq (.sub (.var 25) (.int 0)) (.str [33])) [(.assign 25 (.bin .add (.str [94]) (.slice (.var 25) (some (.int 1)) none)))] [(.ifs (.cmp .inn (.sub (.var 25) (.int 0)) (.tup [(.str [94]), (.str [91])])) [(.assign 25 (.bin .add (.str [92]) (.var 25)))] [])]), (.addc 22 (.fstr [(.str [91]), (.var 25), (.str [93])]))])])])] [(.addc 22 (.call 13 [(.var 23)]))])])])]),
  (.assert (.cmp .eq (.var 5) (.var 4))),
  (.ret (some (.var 21)))] }
noncomputable def fn15 : Fn := { params := [26, 18], star := none, body := [
  (.newlist 21 (.list [])),
  (.bindapp 22 21),
  (.multi [(5, false, (.int 0)), (4, false, (.len (.var 26)))]),
  (.while (.and (.cmp .lt (.var 5) (.var 4)) (.cmp .isnot (.sub (.var 26) (.var 5)) (.var 18))) [(.addc 22 (.sub (.var 26) (.var 5))), (.aug 5 .add (.int 1))]),
  (.while (.cmp .lt (.var 5) (.var 4)) [(.assert (.cmp .is (.sub (.var 26) (.var 5)) (.var 18))), (.aug 5 .add (.int 1)), (.ifs (.cmp .eq (.var 5) (.var 4)) [(.addc 22 (.str [46, 42])), .brk] []), (.assert (.cmp .isnot (.sub (.var 26) (.var 5)) (.var 18))), (.newlist 27 (.list [])), (.while (.and (.cmp .lt (.var 5) (.var 4)) (.cmp .isnot (.sub (.var 26) (.var 5)) (.var 18))) [(.meth 27 (.sub (.var 26) (.var 5))), (.aug 5 .add (.int 1))]), (.assign 27 (.join (.str []) (.var 27))), (.ifs (.cmp .eq (.var 5) (.var 4)) [(.addc 22 (.str [46, 42])), (.addc 22 (.var 27))] [(.addc 22 (.fstr [(.str [40, 63, 62, 46, 42, 63]), (.var 27), (.str [41])]))])]),
  (.assert (.cmp .eq (.var 5) (.var 4))),
  (.assign 21 (.join (.str []) (.var 21))),
  (.ret (some (.fstr [(.str [40, 63, 115, 58]), (.var 21), (.str [41, 92, 90])])))] }
noncomputable def fn16 : Fn := { params := [28], star := none, body := [
  (.assign 29 (.str [])),
  (.while (.cmp .gt (.var 28) (.int 0)) [(.assign 29 (.bin .add (.var 29) (.sub (.str [41, 40]) (.bin .mod (.var 28) (.int 2))))), (.assign 28 (.bin .fdiv (.bin .sub (.var 28) (.int 1)) (.int 2)))]),
  (.ret (some (.var 29)))] }
noncomputable def fn17 : Fn := { params := [30], star := none, body := [
  (.multi [(31, false, (.list [(.call 16 [(.bin .mod (.bin .fdiv (.var 30) (.int 8)) (.int 31))]), (.call 16 [(.bin .mod (.bin .fdiv (.var 30) (.int 248)) (.int 31))])])), (32, true, (.list []))]),
  (.for [33] false (.range (.int 3)) [(.ifs (.cmp .eq (.bin .mod (.bin .fdiv (.var 30) (.bin .pow (.int 2) (.var 33))) (.int 2)) (.int 1)) [(.meth 32 (.str [42]))] []), (.newlist 32 (.bin .add (.var 32) (.slice (.var 31) (some (.var 33)) (some (.bin .add (.var 33) (.int 1))))))]),
  (.ret (some (.var 32)))] }
noncomputable def fn18 : Fn := { params := [34, 35], star := none, body := [
  (.assign 36 (.comp (.call 17 [(.var 30)]) 30 (.var 34) none)),
  (.assign 37 (.sum (.comp2 (.bin .sub (.count (.var 29) (.str [40])) (.count (.var 29) (.str [41]))) 32 (.var 36) 29 (.var 32)))),
  (.ret (some (.bin .add (.var 36) (.list [(.list [(.bin .add (.bin .mul (.str [41]) (.var 37)) (.bin .mul (.str [40]) (.bin .sub (.var 35) (.min (.var 37) (.int 0)))))])]))))] }
noncomputable def fn19 : Fn := { params := [32], star := none, body := [
  (.ret (some (.join (.str []) (.comp (.ite (.cmp .eq (.var 29) (.str [42])) (.str [42, 42]) (.ite (.cmp .eq (.var 29) (.str [])) (.str [40]) (.bin .add (.bin .add (.str [91]) (.var 29)) (.str [93])))) 29 (.var 32) none))))] }
noncomputable def fn20 : Fn := { params := [32], star := none, body := [
  (.multi [(38, false, (.comp (.var 33) 33 (.range (.len (.var 32))) (some (.cmp .eq (.sub (.var 32) (.var 33)) (.str [42]))))), (39, false, (.str [40, 63, 115, 58]))]),
  (.for [33] false (.range (.len (.var 32))) [(.ifs (.cmp .notin (.var 33) (.var 38)) [(.assign 39 (.bin .add (.var 39) (.ite (.cmp .eq (.sub (.var 32) (.var 33)) (.str [])) (.str [92, 40]) (.bin .add (.bin .add (.str [91]) (.sub (.var 32) (.var 33))) (.str [93])))))] [(.assign 39 (.bin .add (.bin .add (.var 39) (.ite (.cmp .gt (.var 33) (.sub (.var 38) (.int 0))) (.str [41]) (.str []))) (.ite (.cmp .lt (.var 33) (.sub (.var 38) (.neg (.int 1)))) (.str [40, 63, 62, 46, 42, 63]) (.str [46, 42]))))])]),
  (.ret (some (.bin .add (.var 39) (.str [41, 92, 90]))))] }
noncomputable def fn21 : Fn := { params := [39], star := none, body := [
  (.multi [(40, false, (.int 0)), (41, false, (.int 0))]),
  (.for [42] false (.replace (.var 39) (.str [92, 40]) (.str [])) [(.assign 40 (.bin .add (.var 40) (.ite (.cmp .eq (.var 42) (.str [40])) (.int 1) (.ite (.cmp .eq (.var 42) (.str [41])) (.neg (.int 1)) (.int 0))))), (.assign 41 (.min (.var 41) (.var 40)))]),
  (.ret (some (.tup [(.neg (.var 41)), (.var 40)])))] }
noncomputable def fn22 : Fn := { params := [43], star := none, body := [
  (.newlist 44 (.list [])),
  (.for [45, 37] true (.var 43) [(.meth 44 (.ite (.cmp .ge (.var 37) (.int 0)) (.tup [(.int 1), (.neg (.var 45)), (.len (.var 44))]) (.tup [(.int 0), (.bin .add (.var 45) (.var 37)), (.len (.var 44))])))]),
  (.ret (some (.var 44)))] }
noncomputable def fn24 : Fn := { params := [44], star := none, body := [
  (.multi [(46, true, (.slice (.var 44) none none)), (47, true, (.slice (.var 44) none none)), (48, true, (.list [])), (49, true, (.list []))]),
  (.ifs (.or (.cmp .isnot (.call 4 [(.var 46)]) .none) (.cmp .isnot (.call 2 [(.var 47)]) .none)) [(.ret (some (.list [])))] []),
  (.for [50] false (.var 44) [(.meth 48 (.sub (.call 3 [(.var 46)]) (.int 2))), (.meth 49 (.sub (.call 1 [(.var 47)]) (.int 2)))]),
  (.ret (some (.ite (.and (.cmp .eq (.var 48) (.rev (.var 49))) (.and (.call 23 [(.var 46)]) (.call 23 [(.var 47)]))) (.var 48) (.list []))))] }
noncomputable def fn25 : Fn := { params := [43], star := none, body := [
  (.newlist 51 (.bin .add (.list [(.bool true)]) (.bin .mul (.list [(.bool false)]) (.bin .sub (.bin .pow (.int 2) (.len (.var 43))) (.int 1))))),
  (.for [52] false (.range (.bin .pow (.int 2) (.len (.var 43)))) [(.ifs (.sub (.var 51) (.var 52)) [(.assign 28 (.comp (.var 33) 33 (.range (.len (.var 43))) (some (.cmp .eq (.bin .mod (.bin .fdiv (.var 52) (.bin .pow (.int 2) (.var 33))) (.int 2)) (.int 0))))), (.assign 40 (.sum (.comp (.sub (.sub (.var 43) (.var 33)) (.int 1)) 33 (.range (.len (.var 43))) (some (.cmp .notin (.var 33) (.var 28)))))), (.for [33] false (.var 28) [(.ifs (.cmp .ge (.var 40) (.sub (.sub (.var 43) (.var 33)) (.int 0))) [(.setitem 51 (.bin .add (.var 52) (.bin .pow (.int 2) (.var 33))) (.bool true))] [])])] [])]),
  (.ret (some (.and (.sub (.var 51) (.neg (.int 1))) (.cmp .eq (.sum (.comp (.sub (.var 53) (.int 1)) 53 (.var 43) none)) (.int 0)))))] }
noncomputable def fn26 : Fn := { params := [43], star := none, body := [
  (.assign 40 (.int 0)),
  (.for [45, 37] true (.var 43) [(.ifs (.cmp .lt (.var 40) (.var 45)) [(.ret (some (.bool false)))] []), (.assign 40 (.bin .add (.var 40) (.var 37)))]),
  (.ret (some (.cmp .eq (.var 40) (.int 0))))] }
noncomputable def fn27 : Fn := { params := [54], star := none, body := [
  (.assign 55 (.call 18 [(.slice (.bin .add (.slice (.var 54) none (some (.int 5))) (.list [(.int 48), (.int 3768), (.int 527), (.int 16), (.int 3834)])) none (some (.int 5))), (.ite (.cmp .eq (.bin .mod (.sum (.var 54)) (.int 4)) (.int 3)) (.int 1) (.int 0))])),
  (.assign 56 (.comp (.call 12 [(.call 19 [(.var 3)])]) 3 (.var 55) none)),
  (.ifs (.cmp .ne (.var 56) (.comp (.call 20 [(.var 3)]) 3 (.var 55) none)) [(.ret (some (.bool false)))] []),
  (.assign 57 (.comp (.call 21 [(.var 3)]) 3 (.var 56) none)),
  (.ifs (.cmp .ne (.comp (.strOf (.call 11 [(.var 3)])) 3 (.var 56) none) (.comp (.strOf (.cmp .eq (.var 3) (.tup [(.int 0), (.int 0)]))) 3 (.var 57) none)) [(.ret (some (.bool false)))] []),
  (.assign 58 (.call 24 [(.call 22 [(.var 57)])])),
  (.ifs (.or (.cmp .ne (.sorted (.var 58)) (.list [(.int 0), (.int 1), (.int 2), (.int 3), (.int 4), (.int 5)])) (.cmp .isnot (.call 11 [(.join (.str [124]) (.var 56))]) (.call 26 [(.var 57)]))) [(.ret (some (.bool false)))] []),
  (.ret (some (.cmp .is (.call 11 [(.join (.str [124]) (.comp (.sub (.var 56) (.var 24)) 24 (.var 58) none))]) (.call 25 [(.var 57)]))))] }
end Mine
end
section
open PySem PySem.W PyProof.Rows
namespace Mine
structure Im where
  rd : Addr → Option Obj
  st : Addr
noncomputable def Im.le (I J : Im) : Prop := I.st = J.st ∧ ∀ a o, I.rd a = some o → J.rd a = some o
theorem Im.le.refl (I : Im) : I.le I := ⟨rfl, fun _ _ e => e⟩
theorem Im.le.trans {I J K : Im} (x : I.le J) (y : J.le K) : I.le K := ⟨x.1.trans y.1, fun a o e => y.2 a o (x.2 a o e)⟩
noncomputable def Im.add (I : Im) (a : Addr) (o : Obj) : Im := { I with rd := fun b => if b = a then some o else I.rd b }
theorem Im.le.add {I : Im} {a : Addr} {o : Obj} (h : I.rd a = none) : I.le (I.add a o) :=
  ⟨rfl, fun b o' e => by
    show (if b = a then some o else I.rd b) = some o'
    by_cases hb : b = a
    · subst hb; rw [h] at e; cases e
    · rw [if_neg hb]; exact e⟩
noncomputable def seqO (T : String) (its : Array Value) (n : Nat) : Obj := { cls := .type T, dict := none, data := .seq its n, slots := #[] }
noncomputable def IsSeq (T : String) (o : Obj) (its : Array Value) : Prop := ∃ n, o = seqO T its n
inductive SeqR (T : String) (I : Im) (R : List Value → Prop) (n : Nat) : Value → Prop
  | mk {a : Addr} {its : Array Value} (k : Nat) : n ≤ 1000000 → I.rd a = some (seqO T its k) → R its.toList → SeqR T I R n (.ref a)
mutual
noncomputable def DR (I : Im) : D → Value → Prop
  | .none, v => v = .none
  | .bool b, v => v = .bool b
  | .int i, v => ∃ t, v = .int i t
  | .str x, v => x.length ≤ 1000000 ∧ ∃ t, v = .str (mkS x) t
  | .star, v => v = .ref I.st ∧ ∃ o, I.rd I.st = some o ∧ o.cls = .type "object"
  | .tup l, v => SeqR "tuple" I (fun vs => DRs I l vs) l.length v
  | .list l, v => SeqR "list" I (fun vs => DRs I l vs) l.length v
noncomputable def DRs (I : Im) : List D → List Value → Prop
  | [], vs => vs.isEmpty = true
  | x :: xs, vs => match vs with
    | [] => False
    | v :: r => DR I x v ∧ DRs I xs r
end
theorem DRs.inv {I : Im} {x : D} {xs : List D} {vs : List Value} (h : DRs I (x :: xs) vs) : ∃ v r, vs = v :: r ∧ DR I x v ∧ DRs I xs r := by
  cases vs with
  | nil => exact False.elim h
  | cons v r => exact ⟨v, r, rfl, h⟩
theorem DRs.nilv {I : Im} {vs : List Value} (h : DRs I [] vs) : vs = [] := List.isEmpty_iff.mp h
@[elab_as_elim] theorem DR.atInt {I : Im} {i : Int} {v : Value} {G : Value → Prop} (h : DR I (.int i) v) (k : ∀ t, G (.int i t)) : G v := let ⟨t, e⟩ := (show ∃ t, v = .int i t from h); e ▸ k t
@[elab_as_elim] theorem DR.atStr {I : Im} {x : List Nat} {v : Value} {G : Value → Prop} (h : DR I (.str x) v) (k : ∀ t, x.length ≤ 1000000 → G (.str (mkS x) t)) : G v := let ⟨n, t, e⟩ := (show x.length ≤ 1000000 ∧ ∃ t, v = .str (mkS x) t from h); e ▸ k t n
@[elab_as_elim] theorem DR.atBool {I : Im} {b : Bool} {v : Value} {G : Value → Prop} (h : DR I (.bool b) v) (k : G (.bool b)) : G v := (show v = .bool b from h) ▸ k
@[elab_as_elim] theorem DR.atNone {I : Im} {v : Value} {G : Value → Prop} (h : DR I .none v) (k : G .none) : G v := (show v = .none from h) ▸ k
theorem DR.mkInt {I : Im} (i : Int) (t : Tok) : DR I (.int i) (.int i t) := ⟨t, rfl⟩
theorem DR.mkBool {I : Im} (b : Bool) : DR I (.bool b) (.bool b) := rfl
mutual
theorem DR.restar {I J : Im} (h : ∀ a o, I.rd a = some o → J.rd a = some o) : ∀ {x : D} {v : Value}, x.noStar = true ∨ I.st = J.st → DR I x v → DR J x v
  | .none, _, _, e => e
  | .bool _, _, _, e => e
  | .int _, _, _, e => e
  | .str _, _, _, e => e
  | .star, _, n, e => let ⟨e1, o, e2, e3⟩ := e; n.elim nofun fun q => ⟨q ▸ e1, o, q ▸ h _ _ e2, e3⟩
  | .tup _, _, n, .mk k e0 e2 e4 => .mk k e0 (h _ _ e2) (DRs.restar h n e4)
  | .list _, _, n, .mk k e0 e2 e4 => .mk k e0 (h _ _ e2) (DRs.restar h n e4)
theorem DRs.restar {I J : Im} (h : ∀ a o, I.rd a = some o → J.rd a = some o) : ∀ {x : List D} {v : List Value}, noStars x = true ∨ I.st = J.st → DRs I x v → DRs J x v
  | [], _, _, e => e
  | x :: _, vs, n, e => match vs, e with
    | _ :: _, e => ⟨DR.restar h (n.imp (fun n => (Bool.and_eq_true_iff.mp n).1) id) e.1, DRs.restar h (n.imp (fun n => (Bool.and_eq_true_iff.mp n).2) id) e.2⟩
end
theorem DR.mono {I J : Im} (h : I.le J) {x : D} {v : Value} (e : DR I x v) : DR J x v := e.restar h.2 (.inr h.1)
theorem DRs.mono {I J : Im} (h : I.le J) {x : List D} {v : List Value} (e : DRs I x v) : DRs J x v := e.restar h.2 (.inr h.1)
theorem DRs.length {I : Im} {x : List D} : ∀ {v : List Value}, DRs I x v → v.length = x.length := by
  induction x with
  | nil => exact fun e => congrArg _ e.nilv
  | cons x xs ih => intro v e; cases v with
    | nil => exact e.elim
    | cons v r => exact congrArg (· + 1) (ih e.2)
theorem DRs.append {I : Im} {x y : List D} {v u : List Value} (e : DRs I x v) (f : DRs I y u) : DRs I (x ++ y) (v ++ u) := by
  induction x generalizing v with
  | nil => rw [e.nilv]; exact f
  | cons x xs ih => cases v with
    | nil => exact e.elim
    | cons v r => exact ⟨e.1, ih e.2⟩
theorem DRs.get {I : Im} {d : D} {x : List D} : ∀ {v : List Value} {k : Nat}, DRs I x v → x[k]? = some d → ∃ u, v[k]? = some u ∧ DR I d u := by
  induction x with
  | nil => intro v k _ h; rw [List.getElem?_nil] at h; exact nomatch h
  | cons x xs ih => intro v k e h; cases v with
    | nil => exact e.elim
    | cons v r => cases k with
      | zero => cases Option.some.inj h; exact ⟨v, rfl, e.1⟩
      | succ k => exact ih (k := k) e.2 h
theorem DRs.set {I : Im} {d : D} {u : Value} {x : List D} {v : List Value} {k : Nat} (e : DRs I x v) (h : DR I d u) : DRs I (x.set k d) (v.set k u) := by
  induction x generalizing v k with
  | nil => rw [e.nilv]; exact rfl
  | cons x xs ih => cases v with
    | nil => exact e.elim
    | cons v r => cases k with
      | zero => exact ⟨h, e.2⟩
      | succ k => exact ⟨e.1, ih e.2⟩
theorem DRs.nil {I : Im} : DRs I [] [] := rfl
theorem DRs.take {I : Im} {x : List D} : ∀ {v : List Value} (k : Nat), DRs I x v → DRs I (x.take k) (v.take k) := by
  induction x with
  | nil => intro v k e; rw [e.nilv, List.take_nil, List.take_nil]; exact .nil
  | cons x xs ih => intro v k e; cases v with
    | nil => exact e.elim
    | cons v r => cases k with
      | zero => exact .nil
      | succ k => exact ⟨e.1, ih k e.2⟩
theorem DRs.drop {I : Im} {x : List D} : ∀ {v : List Value} (k : Nat), DRs I x v → DRs I (x.drop k) (v.drop k) := by
  induction x with
  | nil => intro v k e; rw [e.nilv, List.drop_nil, List.drop_nil]; exact .nil
  | cons x xs ih => intro v k e; cases v with
    | nil => exact e.elim
    | cons v r => cases k with
      | zero => exact e
      | succ k => exact ih k e.2
theorem DRs.one {I : Im} {x : D} {v : Value} (h : DR I x v) : DRs I [x] [v] := ⟨h, rfl⟩
theorem DRs.cons {I : Im} {x : D} {v : Value} {xs : List D} {vs : List Value} (h : DR I x v) (t : DRs I xs vs) : DRs I (x :: xs) (v :: vs) := ⟨h, t⟩
theorem DRs.cons_inv {I : Im} {x : D} {v : Value} {xs : List D} {vs : List Value} (h : DRs I (x :: xs) (v :: vs)) : DR I x v ∧ DRs I xs vs := h
theorem DRs.reverse {I : Im} {x : List D} : ∀ {v : List Value}, DRs I x v → DRs I x.reverse v.reverse := by
  induction x with
  | nil => intro v e; rw [e.nilv]; exact .nil
  | cons x xs ih => intro v e; cases v with
    | nil => exact e.elim
    | cons v r => rw [List.reverse_cons, List.reverse_cons]; exact (ih e.2).append (.one e.1)
noncomputable abbrev listO (its : Array Value) (n : Nat) : Obj := seqO "list" its n
inductive CR (I : Im) (h : Heap) : List Addr → Cells → Prop
  | nil : CR I h [] []
  | cons {a : Addr} {as : List Addr} {c : List D} {r : Cells} {its : Array Value} {n : Nat} : h.get? a = some (listO its n) → (c.length ≤ 1000000 ∧ DRs I c its.toList) → I.rd a = none → a ∉ as → CR I h as r → CR I h (a :: as) (c :: r)
section
variable {I J : Im} {h h' : Heap} {as : List Addr} {cs : Cells}
theorem CR.restar (hl : ∀ a o, I.rd a = some o → J.rd a = some o) (x : CR I h as cs) : cs.all noStars = true ∨ I.st = J.st → (∀ a ∈ as, ∀ o, h.get? a = some o → h'.get? a = some o) → (∀ a ∈ as, J.rd a = none) → CR J h' as cs := by
  induction x with
  | nil => exact fun _ _ _ => .nil
  | cons h1 h2 h3 h4 _ ih =>
    exact fun n k z => .cons (k _ (List.mem_cons_self ..) _ h1) ⟨h2.1, h2.2.restar hl (n.imp (fun n => (Bool.and_eq_true_iff.mp n).1) id)⟩ (z _ (List.mem_cons_self ..)) h4
      (ih (n.imp (fun n => (Bool.and_eq_true_iff.mp n).2) id) (fun b hb => k b (List.mem_cons_of_mem _ hb)) fun b hb => z b (List.mem_cons_of_mem _ hb))
theorem CR.mono (hl : I.le J) (x : CR I h as cs) (k : ∀ a ∈ as, ∀ o, h.get? a = some o → h'.get? a = some o) (z : ∀ a ∈ as, J.rd a = none) : CR J h' as cs := x.restar hl.2 (.inr hl.1) k z
theorem CR.length (x : CR I h as cs) : as.length = cs.length := by
  induction x with
  | nil => rfl
  | cons _ _ _ _ _ ih => exact congrArg (· + 1) ih
theorem CR.each {P : Addr → Prop} (p : ∀ a its n, h.get? a = some (listO its n) → I.rd a = none → P a) (x : CR I h as cs) : ∀ a ∈ as, P a := by
  induction x with
  | nil => exact fun a ha => nomatch ha
  | cons h1 _ h3 _ _ ih => exact fun a ha => (List.mem_cons.mp ha).elim (fun e => e ▸ p _ _ _ h1 h3) (ih a)
theorem CR.noRd (x : CR I h as cs) : ∀ a ∈ as, I.rd a = none := x.each fun _ _ _ _ e => e
theorem CR.isList (x : CR I h as cs) : ∀ a ∈ as, ∃ its n, h.get? a = some (listO its n) := x.each fun _ its n e _ => ⟨its, n, e⟩
theorem CR.get (x : CR I h as cs) : ∀ {i : Nat} {l : List D}, cs[i]? = some l → ∃ a its n, as[i]? = some a ∧ h.get? a = some (listO its n) ∧ l.length ≤ 1000000 ∧ DRs I l its.toList := by
  induction x with
  | nil => intro i l e; rw [List.getElem?_nil] at e; exact nomatch e
  | cons h1 h2 _ _ _ ih => intro i l e; cases i with
    | zero => cases Option.some.inj e; exact ⟨_, _, _, rfl, h1, h2⟩
    | succ i => exact ih (i := i) e
theorem CR.set {a : Addr} {its : Array Value} {n : Nat} {l : List D} (k : ∀ b, b ≠ a → ∀ o, h.get? b = some o → h'.get? b = some o) (h6 : h'.get? a = some (listO its n)) (h7 : l.length ≤ 1000000 ∧ DRs I l its.toList) (x : CR I h as cs) :
    ∀ {i : Nat}, as[i]? = some a → CR I h' as (cs.set i l) := by
  induction x with
  | nil => intro i e; rw [List.getElem?_nil] at e; exact nomatch e
  | cons h1 h2 h3 h4 h5 ih => intro i e; cases i with
    | zero => cases Option.some.inj e; exact .cons h6 h7 h3 h4 (h5.mono (Im.le.refl I) (fun c hc o e => k c (fun q => h4 (q ▸ hc)) o e) h5.noRd)
    | succ i => exact .cons (k _ (fun q => h4 (by rw [q]; exact List.mem_of_getElem? (i := i) e)) _ h1) h2 h3 h4 (ih (i := i) e)
theorem CR.push {a : Addr} {its : Array Value} {n : Nat} {l : List D} (h1 : h.get? a = some (listO its n)) (h2 : l.length ≤ 1000000 ∧ DRs I l its.toList) (h3 : I.rd a = none) (x : CR I h as cs) : a ∉ as → CR I h (as ++ [a]) (cs ++ [l]) := by
  induction x with
  | nil => exact fun q => .cons h1 h2 h3 q .nil
  | cons g1 g2 g3 g4 _ ih => exact fun h4 => .cons g1 g2 g3 (fun q => (List.mem_append.mp q).elim g4 fun q => h4 (List.mem_singleton.mp q ▸ List.mem_cons_self ..)) (ih fun q => h4 (List.mem_cons_of_mem _ q))
theorem CR.take (x : CR I h as cs) : ∀ k : Nat, CR I h (as.take k) (cs.take k) := by
  induction x with
  | nil => intro k; rw [List.take_nil, List.take_nil]; exact .nil
  | cons h1 h2 h3 h4 _ ih => intro k; cases k with
    | zero => exact .nil
    | succ k => exact .cons h1 h2 h3 (fun q => h4 (List.mem_of_mem_take q)) (ih k)
theorem CR.nodup (x : CR I h as cs) : as.Nodup := by
  induction x with
  | nil => exact List.nodup_nil
  | cons _ _ _ h4 _ ih => exact List.nodup_cons.mpr ⟨h4, ih⟩
end
inductive AppR (I : Im) (as : List Addr) (i : Nat) : Value → Prop
  | mk {a b : Addr} {o : Obj} {vs : Array Value} : as[i]? = some a → I.rd b = some o → o.cls = .type "builtin_function_or_method" → o.data = .fields vs → vs[0]? = some (.builtin "list.append") → vs[1]? = some (.ref a) → AppR I as i (.ref b)
noncomputable def VR (I : Im) (as : List Addr) : V → Value → Prop
  | .d x, v => DR I x v
  | .loc i, v => ∃ a, as[i]? = some a ∧ v = .ref a
  | .app i, v => AppR I as i v
theorem VR.mono {I J : Im} {as : List Addr} {x : V} {v : Value} (h : I.le J) (r : VR I as x v) : VR J as x v := by
  cases x with
  | d x => exact DR.mono h r
  | loc i => exact r
  | app i => exact r.casesOn fun h1 h3 h4 h5 h6 h7 => .mk h1 (h.2 _ _ h3) h4 h5 h6 h7
noncomputable def VRs (I : Im) (as : List Addr) : List V → List Value → Prop
  | [], vs => vs = []
  | x :: xs, vs => ∃ v r, vs = v :: r ∧ VR I as x v ∧ VRs I as xs r
theorem VRs.mono {I J : Im} {as : List Addr} (h : I.le J) {x : List V} : ∀ {v : List Value}, VRs I as x v → VRs J as x v := by
  induction x with
  | nil => exact id
  | cons x xs ih => exact fun ⟨v, r, e, h1, h2⟩ => ⟨v, r, e, h1.mono h, ih h2⟩
end Mine
end
section
open PySem PySem.W PyProof.Rows
namespace Mine
structure Cx where
  prog : Program
  w : World
  h₀ : Heap
  os₀ : OsState
  mg : Str → Option Value
  mb : Str → Option Value
  P : Addr
  ps₀ : Array Value
  lp : Pos
  lq : Str
  gs : Nat → Option GenState
  fl : List Env
structure CxOk (C : Cx) : Prop where
  g : C.h₀.Ns mainGlobals C.mg
  b : C.h₀.Ns builtinsNs C.mb
  nolimit : C.h₀.NoLimit
noncomputable abbrev Fz := Addr → Option Obj
noncomputable def Fz.add (fz : Fz) (a : Addr) (o : Obj) : Fz := fun b => if b = a then some o else fz b
theorem Fz.add_self (fz : Fz) (a : Addr) (o : Obj) : fz.add a o a = some o := if_pos rfl
theorem Fz.add_of {fz : Fz} {a b : Addr} {o o' : Obj} (h : fz a = none) (e : fz b = some o') : fz.add a o b = some o' := by
  show (if b = a then some o else fz b) = some o'
  by_cases hb : b = a
  · subst hb; rw [h] at e; cases e
  · rw [if_neg hb]; exact e
noncomputable def TabOk (C : Cx) (rd : Addr → Option Obj) (ps : Array Value) : Prop :=
  ps = C.ps₀ ∨ ∃ c' : Addr, ps = C.ps₀ ++ #[rawInt C.lp.line, rawInt C.lp.col, .ref c']
theorem TabOk.mono {C : Cx} {rd rd' : Addr → Option Obj} {ps : Array Value} (t : TabOk C rd ps) (h : ∀ a o, rd a = some o → rd' a = some o) : TabOk C rd' ps := t
noncomputable def IsFr (C : Cx) (a : Addr) : Prop := ∃ env ∈ C.fl, env.frame = some a
noncomputable def FzAt (C : Cx) (h : Heap) (a : Addr) (o : Obj) : Prop := ∃ o', h.get? a = some o' ∧ (o' = o ∨ (IsFr C a ∧ ∃ sl, o' = { o with slots := sl }))
theorem FzAt.of {C : Cx} {h : Heap} {a : Addr} {o : Obj} (e : h.get? a = some o) : FzAt C h a o := ⟨o, e, .inl rfl⟩
theorem FzAt.keep {C : Cx} {h h' : Heap} {a : Addr} {o : Obj} (x : FzAt C h a o) (k : ∀ o', h.get? a = some o' → h'.get? a = some o') : FzAt C h' a o := let ⟨o', e, r⟩ := x; ⟨o', k o' e, r⟩
theorem FzAt.exact {C : Cx} {h : Heap} {a : Addr} {o : Obj} (x : FzAt C h a o) (n : ¬ IsFr C a) : h.get? a = some o := by
  obtain ⟨o', e, r⟩ := x
  rcases r with rfl | ⟨f, _⟩
  · exact e
  · exact absurd f n
theorem FzAt.data {C : Cx} {h : Heap} {a : Addr} {o : Obj} (x : FzAt C h a o) : ∃ o', h.get? a = some o' ∧ o'.data = o.data := by
  obtain ⟨o', e, r⟩ := x
  rcases r with rfl | ⟨_, sl, rfl⟩
  · exact ⟨_, e, rfl⟩
  · exact ⟨_, e, rfl⟩
noncomputable def GensOk (C : Cx) (gens : Array GenState) : Prop := AllBare gens ∧ ∀ i g, C.gs i = some g → gens[i]? = some g
structure Gd (C : Cx) (fz : Fz) (I : Im) (as : List Addr) (cells : Cells) (s : Shared) : Prop where
  rd : ∀ a o, I.rd a = some o → s.heap.get? a = some o
  fr : ∀ a o, a ≠ C.P → fz a = some o → FzAt C s.heap a o
  dj : ∀ a o, fz a = some o → I.rd a = none
  fas : ∀ a ∈ as, fz a = none
  base : ∀ a o, C.h₀.get? a = some o → I.rd a = some o
  cel : CR I s.heap as cells
  gens : GensOk C s.gens
  os : s.os = C.os₀
  pos : 0 < s.toks
  tfz : fz C.P ≠ none
  tab : ∃ ps, s.heap.get? C.P = some (tabObj ps) ∧ TabOk C I.rd ps
structure Fm where
  env : Env
  mu : List Addr
  nl : List (Str × NameKind)
structure FrOk (fm : Fm) : Prop where
  kind : fm.env.scope.kind = .function
  glob : fm.env.globals = mainGlobals
  bi : fm.env.builtins = builtinsNs
  loc : fm.env.locals ∈ fm.mu
  names : ∀ id k, fm.nl.lookup id = some k → k ≠ .free → fm.env.kindOf id = some k
  frees : ∀ id, fm.nl.lookup id = some .free → fm.env.kindOf id = some .cell
  cel : ∀ id, fm.nl.lookup id = some .cell → ∃ c, fm.env.cells.lookup id = some c ∧ c ∈ fm.mu ∧ c ≠ fm.env.locals ∧ ∀ id', fm.env.cells.lookup id' = some c → id' = id
noncomputable def At (fm : Fm) (fz : Fz) (h : Heap) (m : Str → Option Value) (nm : Str) (y : Value) : Prop :=
  (fm.env.kindOf nm = some .local ∧ m nm = some y) ∨
    (fm.env.kindOf nm = some .cell ∧ ∃ c, fm.env.cells.lookup nm = some c ∧ h.IsCell c (some y) ∧ (c ∈ fm.mu ∨ ∃ o, fz c = some o))
noncomputable def isVarK : NameKind → Bool
  | .local | .cell | .free => true
  | _ => false
noncomputable def VarsR (fm : Fm) (fz : Fz) (I : Im) (as : List Addr) (h : Heap) (m : Str → Option Value) (vars : Vars) : Prop :=
  ∀ x v nm k, vget vars x = some v → nms[x]? = some nm → fm.nl.lookup nm = some k → isVarK k = true → ∃ y, VR I as v y ∧ At fm fz h m nm y
noncomputable def FlIn (C : Cx) (fz : Fz) (L : Option Addr) : Prop := ∀ env ∈ C.fl, (env.scope.kind ≠ .module ∧ env.frame ≠ some C.P) ∧ ∃ a, env.frame = some a ∧ ((∃ o, fz a = some o ∧ ∀ vs, o.data ≠ .fields vs) ∨ L = some a)
structure St (C : Cx) (fm : Fm) (fz : Fz) (I : Im) (as : List Addr) (vars : Vars) (cells : Cells) (s : Shared) : Prop extends Gd C fz I as cells s where
  ok : FrOk fm
  mu : ∀ a ∈ fm.mu, I.rd a = none ∧ fz a = none ∧ a ∉ as ∧ ∃ o, s.heap.get? a = some o ∧ (a = fm.env.locals ∨ ∃ v, o.data = .cell v)
  vr : ∃ m, s.heap.Ns fm.env.locals m ∧ VarsR fm fz I as s.heap m vars
  fls : FlIn C fz (some fm.env.locals)
theorem FlIn.more {C : Cx} {fz fz' : Fz} {L : Option Addr} (x : FlIn C fz L) (h : ∀ a o, fz a = some o → fz' a = some o) : FlIn C fz' L := fun env he =>
  let ⟨h1, a, h2, h3⟩ := x env he; ⟨h1, a, h2, h3.imp (fun ⟨o, e, r⟩ => ⟨o, h _ _ e, r⟩) id⟩
theorem FlIn.less {C : Cx} {fz : Fz} {L : Option Addr} {a : Addr} {o : Obj} (x : FlIn C (fz.add a o) L) (hf : ¬ IsFr C a) : FlIn C fz L := fun env he => by
  obtain ⟨h1, b, h2, h3⟩ := x env he
  refine ⟨h1, b, h2, h3.imp (fun ⟨o', e, r⟩ => ⟨o', ?_, r⟩) id⟩
  have e' : (if b = a then some o else fz b) = some o' := e
  rwa [if_neg fun (q : b = a) => hf ⟨env, he, q ▸ h2⟩] at e'
theorem St.noFr {C : Cx} {fm : Fm} {fz : Fz} {I : Im} {as : List Addr} {vars : Vars} {cells : Cells} {s : Shared} (t : St C fm fz I as vars cells s) {a : Addr} (h2 : fz a = none) (h4 : a ∉ fm.mu) : ¬ IsFr C a := fun ⟨env, he, hf⟩ => by
  obtain ⟨_, b, e, r⟩ := t.fls env he
  rw [hf] at e; cases e
  rcases r with ⟨o, e, _⟩ | e
  · rw [h2] at e; cases e
  · cases e; exact h4 t.ok.loc
section
variable {C : Cx} {fm : Fm} {fz fz' : Fz} {I J : Im} {as : List Addr} {vars : Vars} {cells : Cells} {s s' : Shared}
theorem At.keep {h h' : Heap} {m : Str → Option Value} {x : Str} {y : Value} (a : At fm fz h m x y) (k : ∀ c, c ∈ fm.mu ∨ (∃ o, fz c = some o) → ∀ o, (∃ v, o.data = .cell v) → h.get? c = some o → ∃ o', h'.get? c = some o' ∧ o'.data = o.data) : At fm fz h' m x y := by
  refine a.imp id ?_
  rintro ⟨h1, c, h2, ⟨o, h3, h4⟩, h5⟩
  obtain ⟨o', k1, k2⟩ := k c h5 o ⟨_, h4⟩ h3
  exact ⟨h1, c, h2, ⟨o', k1, k2.trans h4⟩, h5⟩
theorem Gd.neP (g : Gd C fz I as cells s) {a : Addr} (h : fz a = none) : a ≠ C.P := fun q => g.tfz (q ▸ h)
theorem Gd.asP (g : Gd C fz I as cells s) {a : Addr} (h : a ∈ as) : a ≠ C.P := g.neP (g.fas a h)
theorem Gd.notTab (g : Gd C fz I as cells s) {a : Addr} {o : Obj} (e : s.heap.get? a = some o) (h : ∀ ps, o.data ≠ .fields ps) : a ≠ C.P := fun q => by
  obtain ⟨ps, e', _⟩ := g.tab
  rw [← q, e] at e'; cases e'; exact h _ rfl
theorem Gd.notTab' (g : Gd C fz I as cells s) {a : Addr} {o : Obj} {T : String} (e : s.heap.get? a = some o) (h : o.cls = .type T) : a ≠ C.P := fun q => by
  obtain ⟨ps, e', _⟩ := g.tab
  rw [← q, e] at e'; cases e'; cases h
theorem Gd.fresh_rd (g : Gd C fz I as cells s) {a : Addr} (h : s.heap.get? a = none) : I.rd a = none := by
  cases e : I.rd a with
  | none => rfl
  | some o => rw [g.rd a o e] at h; cases h
theorem Gd.fresh_fz (g : Gd C fz I as cells s) {a : Addr} (h : s.heap.get? a = none) : fz a = none := by
  cases e : fz a with
  | none => rfl
  | some o =>
    by_cases hP : a = C.P
    · obtain ⟨ps, e', _⟩ := g.tab
      rw [← hP, h] at e'; cases e'
    · obtain ⟨o', e', _⟩ := g.fr a o hP e
      rw [e'] at h; cases h
theorem Gd.fresh_as (g : Gd C fz I as cells s) {a : Addr} (h : s.heap.get? a = none) : a ∉ as := fun q => by
  obtain ⟨its, n, e⟩ := g.cel.isList a q
  rw [e] at h; cases h
theorem St.fresh_mu (t : St C fm fz I as vars cells s) {a : Addr} (h : s.heap.get? a = none) : a ∉ fm.mu := fun q => by
  obtain ⟨_, _, _, o, e, _⟩ := t.mu a q
  rw [e] at h; cases h
theorem get?_size_none (h : Heap) : h.get? h.objs.size = none := by
  cases e : h.get? h.objs.size with
  | none => rfl
  | some o => exact absurd (Heap.lt_size e) (Nat.lt_irrefl _)
theorem Gd.step (g : Gd C fz I as cells s) {a : Addr} (h1 : I.rd a = none) (h2 : fz a = none) (h3 : a ∉ as) (k : ∀ b o, b ≠ a → s.heap.get? b = some o → s'.heap.get? b = some o)
    (hg : GensOk C s'.gens) (ho : s'.os = s.os) (hp : 0 < s'.toks) : Gd C fz I as cells s' where
  rd b o e := k b o (fun q => by rw [q, h1] at e; cases e) (g.rd b o e)
  fr b o hP e := (g.fr b o hP e).keep fun o' => k b o' (fun q => by rw [q, h2] at e; cases e)
  dj := g.dj
  fas := g.fas
  base := g.base
  cel := g.cel.mono (Im.le.refl I) (fun b hb o e => k b o (fun q => h3 (q ▸ hb)) e) g.cel.noRd
  gens := hg
  os := ho.trans g.os
  pos := hp
  tfz := g.tfz
  tab := let ⟨ps, e, x⟩ := g.tab; ⟨ps, k _ _ (g.neP h2).symm e, x⟩
theorem St.step (t : St C fm fz I as vars cells s) {a : Addr} (h1 : I.rd a = none) (h2 : fz a = none) (h3 : a ∉ as) (h4 : a ∉ fm.mu) (k : ∀ b o, b ≠ a → s.heap.get? b = some o → s'.heap.get? b = some o)
    (hg : GensOk C s'.gens) (ho : s'.os = s.os) (hp : 0 < s'.toks) : St C fm fz I as vars cells s' where
  fls := t.fls
  toGd := t.toGd.step h1 h2 h3 k hg ho hp
  ok := t.ok
  mu b hb := let ⟨q1, q2, q3, o, q4, q5⟩ := t.mu b hb; ⟨q1, q2, q3, o, k b o (fun q => h4 (q ▸ hb)) q4, q5⟩
  vr := by
    obtain ⟨m, ⟨o, es, ep, e1, e2⟩, v⟩ := t.vr
    refine ⟨m, ⟨o, es, ep, k _ _ (fun q => h4 (q ▸ t.ok.loc)) e1, e2⟩, fun x w nm kk hx hn hk hv => ?_⟩
    obtain ⟨y, r, z⟩ := v x w nm kk hx hn hk hv
    refine ⟨y, r, z.keep fun c hc o _ e => ⟨o, k c o (fun q => ?_) e, rfl⟩⟩
    subst q
    rcases hc with hc | ⟨o', hc⟩
    · exact h4 hc
    · rw [h2] at hc; cases hc
theorem St.keeps (t : St C fm fz I as vars cells s) (k : ∀ b o, s.heap.get? b = some o → s'.heap.get? b = some o)
    (hg : GensOk C s'.gens) (ho : s'.os = s.os) (hp : 0 < s'.toks) : St C fm fz I as vars cells s' :=
  t.step (a := s.heap.objs.size) (t.fresh_rd (get?_size_none _)) (t.fresh_fz (get?_size_none _)) (t.fresh_as (get?_size_none _)) (t.fresh_mu (get?_size_none _)) (fun b o _ => k b o) hg ho hp
theorem St.tok (t : St C fm fz I as vars cells s) {k : Nat} (hp : 0 < k) : St C fm fz I as vars cells { s with toks := k } := t.keeps (fun _ _ e => e) t.gens rfl hp
theorem St.heap_tok (t : St C fm fz I as vars cells s) {h' : Heap} {k : Nat} (kp : ∀ b o, s.heap.get? b = some o → h'.get? b = some o) (hp : 0 < k) : St C fm fz I as vars cells { s with heap := h', toks := k } := t.keeps kp t.gens rfl hp
theorem St.heap (t : St C fm fz I as vars cells s) {h' : Heap} (kp : ∀ b o, s.heap.get? b = some o → h'.get? b = some o) : St C fm fz I as vars cells { s with heap := h' } := t.keeps kp t.gens rfl t.pos
theorem Gd.add (g : Gd C fz I as cells s) {a : Addr} {o : Obj} (h1 : I.rd a = none) (h2 : fz a = none) (h3 : a ∉ as) (e : s.heap.get? a = some o) : Gd C fz (I.add a o) as cells s where
  rd b o' q := by
    have q' : (if b = a then some o else I.rd b) = some o' := q
    by_cases hb : b = a
    · subst hb; rw [if_pos rfl] at q'; cases q'; exact e
    · rw [if_neg hb] at q'; exact g.rd b o' q'
  fr := g.fr
  dj b o' q := by
    show (if b = a then some o else I.rd b) = none
    by_cases hb : b = a
    · subst hb; rw [h2] at q; cases q
    · rw [if_neg hb]; exact g.dj b o' q
  fas := g.fas
  base b o' q := (Im.le.add h1).2 b o' (g.base b o' q)
  cel := g.cel.mono (Im.le.add h1) (fun _ _ _ e => e) fun b hb => by
    show (if b = a then some o else I.rd b) = none
    rw [if_neg fun (q : b = a) => h3 (q ▸ hb)]; exact g.cel.noRd b hb
  gens := g.gens
  os := g.os
  pos := g.pos
  tfz := g.tfz
  tab := let ⟨ps, e, x⟩ := g.tab; ⟨ps, e, x.mono (Im.le.add h1).2⟩
theorem St.add (t : St C fm fz I as vars cells s) {a : Addr} {o : Obj} (h1 : I.rd a = none) (h2 : fz a = none) (h3 : a ∉ as) (h4 : a ∉ fm.mu) (e : s.heap.get? a = some o) : St C fm fz (I.add a o) as vars cells s where
  fls := t.fls
  toGd := t.toGd.add h1 h2 h3 e
  ok := t.ok
  mu b hb := let ⟨q1, q2, q3, q4⟩ := t.mu b hb; ⟨by
    show (if b = a then some o else I.rd b) = none
    rw [if_neg fun (q : b = a) => h4 (q ▸ hb)]; exact q1, q2, q3, q4⟩
  vr := by
    obtain ⟨m, hm, v⟩ := t.vr
    refine ⟨m, hm, fun x w nm kk hx hn hk hv => ?_⟩
    obtain ⟨y, r, z⟩ := v x w nm kk hx hn hk hv
    exact ⟨y, r.mono (Im.le.add h1), z⟩
theorem St.push (t : St C fm fz I as vars cells s) (o : Obj) (hf : o.isFreed = false) {k : Nat} (hp : 0 < k) :
    I.le (I.add s.heap.objs.size o) ∧ St C fm fz (I.add s.heap.objs.size o) as vars cells { s with heap := s.heap.push o, toks := k } ∧ (I.add s.heap.objs.size o).rd s.heap.objs.size = some o := by
  have n := get?_size_none s.heap
  refine ⟨Im.le.add (t.fresh_rd n), ?_, if_pos rfl⟩
  exact (t.heap_tok (h' := s.heap.push o) (fun b o' e => Heap.get?_push_of_some o e) hp).add (t.fresh_rd n) (t.fresh_fz n) (t.fresh_as n) (t.fresh_mu n) (Heap.get?_push_size _ hf)
theorem Gd.weak (g : Gd C fz I as cells s) (h : ∀ a o, fz' a = some o → fz a = some o) (hP : fz' C.P ≠ none) : Gd C fz' I as cells s where
  rd := g.rd
  fr b o hb e := g.fr b o hb (h b o e)
  dj b o e := g.dj b o (h b o e)
  fas b hb := by
    cases e : fz' b with
    | none => rfl
    | some o => have := g.fas b hb; rw [h b o e] at this; cases this
  base := g.base
  cel := g.cel
  gens := g.gens
  os := g.os
  pos := g.pos
  tfz := hP
  tab := g.tab
theorem Gd.strong (g : Gd C fz I as cells s) {a : Addr} {o : Obj} (h1 : I.rd a = none) (h2 : fz a = none) (h3 : a ∉ as) (e : s.heap.get? a = some o) : Gd C (fz.add a o) I as cells s where
  rd := g.rd
  fr b o' hP q := by
    have q' : (if b = a then some o else fz b) = some o' := q
    by_cases hb : b = a
    · subst hb; rw [if_pos rfl] at q'; cases q'; exact FzAt.of e
    · rw [if_neg hb] at q'; exact g.fr b o' hP q'
  dj b o' q := by
    have q' : (if b = a then some o else fz b) = some o' := q
    by_cases hb : b = a
    · subst hb; exact h1
    · rw [if_neg hb] at q'; exact g.dj b o' q'
  fas b hb := by
    show (if b = a then some o else fz b) = none
    rw [if_neg fun (q : b = a) => h3 (q ▸ hb)]; exact g.fas b hb
  base := g.base
  cel := g.cel
  gens := g.gens
  os := g.os
  pos := g.pos
  tfz := by
    show (if C.P = a then some o else fz C.P) ≠ none
    rw [if_neg (g.neP h2).symm]; exact g.tfz
  tab := g.tab
theorem St.strong (t : St C fm fz I as vars cells s) {a : Addr} {o : Obj} (h1 : I.rd a = none) (h2 : fz a = none) (h3 : a ∉ as) (h4 : a ∉ fm.mu) (e : s.heap.get? a = some o) : St C fm (fz.add a o) I as vars cells s where
  fls := t.fls.more fun b o' e => Fz.add_of h2 e
  toGd := t.toGd.strong h1 h2 h3 e
  ok := t.ok
  mu b hb := let ⟨q1, q2, q3, q4⟩ := t.mu b hb; ⟨q1, by
    show (if b = a then some o else fz b) = none
    rw [if_neg fun (q : b = a) => h4 (q ▸ hb)]; exact q2, q3, q4⟩
  vr := by
    obtain ⟨m, hm, v⟩ := t.vr
    refine ⟨m, hm, fun x w nm kk hx hn hk hv => ?_⟩
    obtain ⟨y, r, z2⟩ := v x w nm kk hx hn hk hv
    exact ⟨y, r, z2.imp id fun ⟨q1, c, q2, q3, q4⟩ => ⟨q1, c, q2, q3, q4.imp id fun ⟨o', q⟩ => ⟨o', Fz.add_of h2 q⟩⟩⟩
theorem Gd.addP {a : Addr} {o : Obj} (g : Gd C (fz.add a o) I as cells s) (h2 : fz a = none) (ha : a ≠ C.P) : fz C.P ≠ none := by
  have h : (if C.P = a then some o else fz C.P) ≠ none := g.tfz
  rwa [if_neg ha.symm] at h
theorem St.unstrong {a : Addr} {o : Obj} (t : St C fm (fz.add a o) I as vars cells s) (h2 : fz a = none) (ha : a ≠ C.P) (hf : ¬ IsFr C a) (hc : ∀ v, o.data ≠ .cell v) : St C fm fz I as vars cells s where
  fls := t.fls.less hf
  toGd := t.toGd.weak (fun b o' q => Fz.add_of h2 q) (t.toGd.addP h2 ha)
  ok := t.ok
  mu b hb := let ⟨q1, q2, q3, q4⟩ := t.mu b hb; ⟨q1, (by
    cases e : fz b with
    | none => rfl
    | some o' => rw [Fz.add_of h2 e] at q2; cases q2), q3, q4⟩
  vr := by
    obtain ⟨m, hm, v⟩ := t.vr
    refine ⟨m, hm, fun x w nm kk hx hn hk hv => ?_⟩
    obtain ⟨y, r, z2⟩ := v x w nm kk hx hn hk hv
    refine ⟨y, r, z2.imp id fun ⟨q1, c, q2, q3, q4⟩ => ⟨q1, c, q2, q3, q4.imp id fun ⟨o', q⟩ => ?_⟩⟩
    by_cases hb : c = a
    · subst hb
      obtain ⟨oc, g1, g2⟩ := q3
      obtain ⟨o', e', d'⟩ := (t.fr c o ha (Fz.add_self ..)).data
      rw [e'] at g1
      cases g1
      exact absurd (d'.symm.trans g2) (hc _)
    · exact ⟨o', by have q' : (if c = a then some o else fz c) = some o' := q; rwa [if_neg hb] at q'⟩
theorem St.apart_of_fz {a : Addr} {o : Obj} (t : St C fm fz I as vars cells s) (e : fz a = some o) : I.rd a = none ∧ a ∉ as ∧ a ∉ fm.mu :=
  ⟨t.dj a o e, (fun q => by rw [t.fas a q] at e; cases e), (fun q => by rw [(t.mu a q).2.1] at e; cases e)⟩
theorem vget_weaken {v : V} {x : Nat} {nm : Str} {k : NameKind} (t : St C fm fz I as vars cells s) (h : vget vars x = some v) (hn : nms[x]? = some nm) (hk : fm.nl.lookup nm = some k) (hv : isVarK k = true) : ∃ m y, s.heap.Ns fm.env.locals m ∧ VR I as v y ∧ At fm fz s.heap m nm y := by
  obtain ⟨m, hm, w⟩ := t.vr
  obtain ⟨y, r, z⟩ := w x v nm k h hn hk hv
  exact ⟨m, y, hm, r, z⟩
end
theorem nms_inj : ∀ {i j : Nat} {a : Str}, nms[i]? = some a → nms[j]? = some a → i = j := by
  have h : nms.Nodup := by decide +kernel
  intro i j a h1 h2
  have hi : i < nms.length := (List.getElem?_eq_some_iff.mp h1).1
  have hj : j < nms.length := (List.getElem?_eq_some_iff.mp h2).1
  have e1 := (List.getElem?_eq_some_iff.mp h1).2
  have e2 := (List.getElem?_eq_some_iff.mp h2).2
  exact (List.getElem_inj h).mp (e1.trans e2.symm)
section
variable {C : Cx} {fm : Fm} {fz : Fz} {I : Im} {as : List Addr} {vars : Vars} {cells : Cells} {s : Shared}
variable {M : Model} {A : Around} {E : Value → Shared → Prop}
theorem load_var {x : Nat} {v : V} {id : Str} {k : NameKind} {Q : Value → Shared → Prop} (t : St C fm fz I as vars cells s) (hx : vget vars x = some v) (hid : nms[x]? = some id) (hk : fm.nl.lookup id = some k) (hv : isVarK k = true) (h : ∀ y, VR I as v y → Q y s) :
    wpAny M A (loadName fm.env id) Q E s := by
  obtain ⟨m, y, hm, r, z⟩ := vget_weaken t hx hid hk hv
  rcases z with ⟨z1, z2⟩ | ⟨z1, c, z2, z3, z4⟩
  · exact wpAny_loadName_local t.ok.kind z1 hm z2 (h y r)
  · exact wpAny_loadName_cell t.ok.kind z1 z2 z3 (h y r)
theorem nms_debug : ∀ {x : Nat} {id : Str}, nms[x]? = some id → (id == ("__debug__" : Str)) = false := by
  have h : nms.all (fun id => !(id == ("__debug__" : Str))) = true := by decide +kernel
  intro x id e
  have := List.all_eq_true.mp h id (List.mem_of_getElem? e)
  simpa using this
theorem eval_var {x : Nat} {v : V} {id : Str} {k : NameKind} {pos : Pos} {Q : Value → Shared → Prop} (t : St C fm fz I as vars cells s) (hx : vget vars x = some v) (hid : nms[x]? = some id) (hk : fm.nl.lookup id = some k) (hv : isVarK k = true) (h : ∀ y, VR I as v y → Q y s) :
    wpAny M A (eval (.Name id pos) fm.env) Q E s := wpAny_Name (load_var t hx hid hk hv h) (nms_debug hid)
theorem store_var {x : Nat} {v : V} {y : Value} {id : Str} {k : NameKind} {Q : Unit → Shared → Prop} (t : St C fm fz I as vars cells s) (hid : nms[x]? = some id) (hk : fm.nl.lookup id = some k) (hk2 : k = .local ∨ k = .cell)
    (r : VR I as v y) (h : ∀ s', St C fm fz I as (vset x v vars) cells s' → Q () s') : wpAny M A (storeName fm.env id y) Q E s := by
  refine wpAny_pos t.pos ?_
  obtain ⟨m, hm, w⟩ := t.vr
  have hlm := t.mu _ t.ok.loc
  rcases hk2 with rfl | rfl
  · have hl : fm.env.kindOf id = some .local := t.ok.names id _ hk (by decide)
    refine wpAny_storeName_local hl hm (fun h' hn hs hp => h _ ?_) (by rw [t.ok.kind]; rfl)
    have g := t.toGd.step (s' := { s with heap := h', toks := s.toks + 1 }) hlm.1 hlm.2.1 hlm.2.2.1 (fun b o hb e => (hs.2 b hb).trans e) t.gens rfl hp
    refine ⟨g, t.ok, fun b hb => ?_, ⟨_, hn, fun z u nm kk hz e1 hkk hvk => ?_⟩, t.fls⟩
    · obtain ⟨q1, q2, q3, o, q4, q5⟩ := t.mu b hb
      refine ⟨q1, q2, q3, ?_⟩
      by_cases hbl : b = fm.env.locals
      · subst hbl; obtain ⟨o, es, ep, e1, _⟩ := hn; exact ⟨o, e1, .inl rfl⟩
      · exact ⟨o, (hs.2 b hbl).trans q4, q5⟩
    · rw [vget_vset] at hz
      by_cases hzx : z = x
      · subst hzx
        rw [if_pos rfl] at hz; cases hz
        rw [hid] at e1; cases e1
        exact ⟨y, r, .inl ⟨hl, if_pos rfl⟩⟩
      · rw [if_neg hzx] at hz
        obtain ⟨y', r', e2⟩ := w z u nm kk hz e1 hkk hvk
        refine ⟨y', r', e2.imp (fun ⟨q1, q2⟩ => ⟨q1, ?_⟩) fun ⟨q1, c, q2, ⟨o, q3, q4⟩, q5⟩ => ⟨q1, c, q2, ⟨o, (hs.2 c fun q => ?_).trans q3, q4⟩, q5⟩⟩
        · show (if nm = id then some y else m nm) = some y'
          rw [if_neg fun (q : nm = id) => hzx (nms_inj e1 (q ▸ hid))]; exact q2
        · obtain ⟨o', es, ep, g1, g2, _⟩ := hm
          rw [← q, q3] at g1
          cases g1
          rw [q4] at g2; cases g2
  · have hl : fm.env.kindOf id = some .cell := t.ok.names id _ hk (by decide)
    obtain ⟨c, hc1, hc2, hc0, hc4⟩ := t.ok.cel id hk
    obtain ⟨_, _, _, oc, oc1, oc2⟩ := t.mu c hc2
    have hc3 : ∃ v₀, s.heap.IsCell c v₀ := oc2.elim (fun q => absurd q hc0) fun ⟨v, q⟩ => ⟨v, oc, oc1, q⟩
    obtain ⟨v₀, hc3⟩ := hc3
    have hcm := t.mu _ hc2
    refine wpAny_storeName_cell t.ok.kind hl hc1 hc3 (fun h' hn hs hp => h _ ?_)
    have g := t.toGd.step (s' := { s with heap := h' }) hcm.1 hcm.2.1 hcm.2.2.1 (fun b o hb e => (hs.2 b hb).trans e) t.gens rfl hp
    refine ⟨g, t.ok, fun b hb => ?_, ⟨m, hm.sameBut hs (Ne.symm hc0), fun z u nm kk hz e1 hkk hvk => ?_⟩, t.fls⟩
    · obtain ⟨q1, q2, q3, o, q4, q5⟩ := t.mu b hb
      refine ⟨q1, q2, q3, ?_⟩
      by_cases hbl : b = c
      · subst hbl; obtain ⟨o, e1, e2⟩ := hn; exact ⟨o, e1, .inr ⟨_, e2⟩⟩
      · exact ⟨o, (hs.2 b hbl).trans q4, q5⟩
    · rw [vget_vset] at hz
      by_cases hzx : z = x
      · subst hzx
        rw [if_pos rfl] at hz; cases hz
        rw [hid] at e1; cases e1
        exact ⟨y, r, .inr ⟨hl, c, hc1, hn, .inl hc2⟩⟩
      · rw [if_neg hzx] at hz
        obtain ⟨y', r', e2⟩ := w z u nm kk hz e1 hkk hvk
        refine ⟨y', r', e2.imp (fun q => q) fun ⟨q1, c', q2, ⟨o, q3, q4⟩, q5⟩ => ⟨q1, c', q2, ⟨o, (hs.2 c' fun q => ?_).trans q3, q4⟩, q5⟩⟩
        subst q
        have := hc4 nm q2
        subst this
        exact hzx (nms_inj e1 hid)
end
end Mine
end
section
open PySem PySem.W PyProof.Rows PySem.SeqAt
namespace Mine
section
variable {C : Cx} {fm : Fm} {fz : Fz} {I : Im} {as : List Addr} {vars : Vars} {c : Cells} {s : Shared}
variable {A : Around} {E : Value → Shared → Prop}
theorem sizeLine_is : sizeLine = 16777216 := by rw [sizeLine_eq]
theorem strOk_le {n : Nat} (h : strOk n = true) : n ≤ 1000000 := of_decide_eq_true h
theorem seq_list {h : Heap} {a : Addr} {its : Array Value} {n : Nat} (e : h.get? a = some (seqO "list" its n)) : h.IsList a its := ⟨_, e, rfl, n, rfl⟩
theorem seq_tuple {h : Heap} {a : Addr} {its : Array Value} {n : Nat} (e : h.get? a = some (seqO "tuple" its n)) : h.IsTuple a its := ⟨_, e, rfl, n, rfl⟩
theorem orE_some {α β : Type} {o : Option α} {f : α → Option β} {g : Option β} {b : β} {G : Prop} (h : orE o f g = some b) (k : ∀ a, o = some a → f a = some b → G) (n : g = some b → G) : G := by
  cases o with
  | none => exact n h
  | some a => exact k a rfl h
theorem bind_some' {α β : Type} {o : Option α} {f : α → Option β} {b : β} {G : Prop} (h : o.bind f = some b) (k : ∀ a, o = some a → f a = some b → G) : G := by
  cases o with
  | none => exact noS h
  | some a => exact k a rfl h
@[elab_as_elim] theorem map_some' {α β : Type} {o : Option α} {f : α → β} {b : β} {G : β → Prop} (h : o.map f = some b) (k : ∀ a, o = some a → G (f a)) : G b := by
  cases o with
  | none => exact noS h
  | some a => exact Option.some.inj h ▸ k a rfl
@[elab_as_elim] theorem if_some' {α : Type} {b : Bool} {x : α} {y : α} {G : α → Prop} (h : (if b = true then some x else none) = some y) (k : b = true → G x) : G y := by
  cases b with
  | false => exact noS h
  | true => exact Option.some.inj h ▸ k rfl
theorem ifB {α : Type} {b : Bool} {x y z : α} {G : Prop} (h : (if b = true then x else y) = z) (p : b = true → x = z → G) (q : b = false → y = z → G) : G := by
  cases b with
  | false => exact q rfl h
  | true => exact p rfl h
theorem ifS {α : Type} {b : Bool} {x y : α} {G : Prop} (h : (if b = true then some x else none) = some y) (p : b = true → some x = some y → G) : G := ifB h p fun _ => noS
theorem an {a b : Bool} (h : (a && b) = true) : a = true ∧ b = true := Bool.and_eq_true_iff.mp h
theorem dc {p : Prop} [Decidable p] (h : decide p = true) : p := of_decide_eq_true h
theorem bn {α : Type} [DecidableEq α] {a b : α} (h : (a != b) = true) : a ≠ b := bne_iff_ne.mp h
theorem dOf_is {v : V} {d : D} (h : dOf v = some d) : v = .d d := by
  cases v with
  | d x => exact congrArg V.d (Option.some.inj h)
  | _ => exact noS h
theorem dInt_is {d : D} {i : Int} (h : dInt d = some i) : d = .int i := by
  cases d with
  | int x => exact congrArg D.int (Option.some.inj h)
  | _ => exact noS h
theorem dStr_is {d : D} {i : List Nat} (h : dStr d = some i) : d = .str i := by
  cases d with
  | str x => exact congrArg D.str (Option.some.inj h)
  | _ => exact noS h
theorem dList_is {d : D} {i : List D} (h : dList d = some i) : d = .list i := by
  cases d with
  | list x => exact congrArg D.list (Option.some.inj h)
  | _ => exact noS h
theorem dTup_is {d : D} {i : List D} (h : dTup d = some i) : d = .tup i := by
  cases d with
  | tup x => exact congrArg D.tup (Option.some.inj h)
  | _ => exact noS h
theorem dBool_is {d : D} {i : Bool} (h : dBool d = some i) : d = .bool i := by
  cases d with
  | bool x => exact congrArg D.bool (Option.some.inj h)
  | _ => exact noS h
theorem dNone_is {d : D} {i : Unit} (h : dNone d = some i) : d = .none := by
  cases d with
  | none => rfl
  | _ => exact noS h
theorem dStar_is {d : D} {i : Unit} (h : dStar d = some i) : d = .star := by
  cases d with
  | star => rfl
  | _ => exact noS h
theorem opt_is {α : Type} {f : D → Option α} {g : α → D} (k : ∀ {d i}, f d = some i → d = g i) {v : V} {i : α} (h : (dOf v).bind f = some i) : v = .d (g i) := bind_some' h fun _ h1 h2 => (dOf_is h1).trans (congrArg V.d (k h2))
theorem optInt_is {v : V} {i : Int} (h : optInt v = some i) : v = .d (.int i) := opt_is dInt_is h
theorem optStr_is {v : V} {i : List Nat} (h : optStr v = some i) : v = .d (.str i) := opt_is dStr_is h
theorem optList_is {v : V} {i : List D} (h : optList v = some i) : v = .d (.list i) := opt_is dList_is h
theorem optTup_is {v : V} {i : List D} (h : optTup v = some i) : v = .d (.tup i) := opt_is dTup_is h
theorem optBool_is {v : V} {i : Bool} (h : optBool v = some i) : v = .d (.bool i) := opt_is dBool_is h
theorem isN_is {v : V} (h : isN v = true) : v = .d .none := let ⟨_, e⟩ := Option.isSome_iff_exists.mp h; opt_is (g := fun _ => D.none) dNone_is e
theorem isStar_is {v : V} (h : isStar v = true) : v = .d .star := let ⟨_, e⟩ := Option.isSome_iff_exists.mp h; opt_is (g := fun _ => D.star) dStar_is e
theorem optLoc_is {v : V} {i : Nat} (h : optLoc v = some i) : v = .loc i := by
  cases v with
  | loc x => exact congrArg V.loc (Option.some.inj h)
  | _ => exact noS h
theorem optApp_is {v : V} {i : Nat} (h : optApp v = some i) : v = .app i := by
  cases v with
  | app x => exact congrArg V.app (Option.some.inj h)
  | _ => exact noS h
theorem oneOf_is {l : List Nat} {k : Nat} (h : oneOf l = some k) : l = [k] := by
  cases l with
  | nil => exact noS h
  | cons a r => cases r with
    | nil => exact congrArg (fun x => [x]) (Option.some.inj h)
    | cons => exact noS h
@[elab_as_elim] theorem DR.ofInt {x : D} {i : Int} {v : Value} {G : Value → Prop} (h : dInt x = some i) (r : DR I x v) (k : ∀ t, G (.int i t)) : G v := by cases dInt_is h; exact DR.atInt r k
@[elab_as_elim] theorem DR.ofStr {x : D} {i : List Nat} {v : Value} {G : Value → Prop} (h : dStr x = some i) (r : DR I x v) (k : ∀ u, i.length ≤ 1000000 → G (.str (mkS i) u)) : G v := by cases dStr_is h; exact DR.atStr r k
@[elab_as_elim] theorem DR.ofBool {x : D} {i : Bool} {v : Value} {G : Value → Prop} (h : dBool x = some i) (r : DR I x v) (k : G (.bool i)) : G v := by cases dBool_is h; exact DR.atBool r k
theorem VR.toD {x : V} {d : D} {v : Value} (e : x = .d d) (r : VR I as x v) : DR I d v := by cases e; exact r
@[elab_as_elim] theorem VR.int {x : V} {i : Int} {v : Value} {G : Value → Prop} (h : optInt x = some i) (r : VR I as x v) (k : ∀ t, G (.int i t)) : G v := (r.toD (optInt_is h)).atInt k
@[elab_as_elim] theorem VR.str {x : V} {t : List Nat} {v : Value} {G : Value → Prop} (h : optStr x = some t) (r : VR I as x v) (k : ∀ u, t.length ≤ 1000000 → G (.str (mkS t) u)) : G v := (r.toD (optStr_is h)).atStr k
@[elab_as_elim] theorem VR.bool {x : V} {b : Bool} {v : Value} {G : Value → Prop} (h : optBool x = some b) (r : VR I as x v) (k : G (.bool b)) : G v := (r.toD (optBool_is h)).atBool k
@[elab_as_elim] theorem VR.none {x : V} {v : Value} {G : Value → Prop} (h : isN x = true) (r : VR I as x v) (k : G .none) : G v := (r.toD (isN_is h)).atNone k
@[elab_as_elim] theorem DR.seq {T : String} {n : Nat} {R : List Value → Prop} {v : Value} {G : Value → Prop} (r : SeqR T I R n v) (k : ∀ a its m, I.rd a = some (seqO T its m) → n ≤ 1000000 → R its.toList → G (.ref a)) : G v := r.casesOn fun m h1 h2 h3 => k _ _ m h2 h1 h3
@[elab_as_elim] theorem VR.list {x : V} {l : List D} {v : Value} {G : Value → Prop} (g : Gd C fz I as c s) (h : listOfV c x = some l) (r : VR I as x v) (k : ∀ a its n, s.heap.get? a = some (listO its n) → l.length ≤ 1000000 → DRs I l its.toList → G (.ref a)) : G v := by
  refine orE_some h (fun i hi hc => ?_) fun hl => DR.seq (r.toD (optList_is hl)) fun a its m h1 h2 h3 => k a its m (g.rd _ _ h1) h2 h3
  cases optLoc_is hi
  obtain ⟨a', e4, e5⟩ := r
  obtain ⟨_, its, n, e1, e2, e3⟩ := g.cel.get hc
  cases e4.symm.trans e1
  exact e5 ▸ k a' its n e2 e3.1 e3.2
@[elab_as_elim] theorem VR.tup {x : V} {l : List D} {v : Value} {G : Value → Prop} (h : optTup x = some l) (r : VR I as x v) (k : ∀ a its m, I.rd a = some (seqO "tuple" its m) → l.length ≤ 1000000 → DRs I l its.toList → G (.ref a)) : G v := DR.seq (r.toD (optTup_is h)) k
theorem listO_isList {h : Heap} {a : Addr} {its : Array Value} {n : Nat} (e : h.get? a = some (listO its n)) : h.IsList a its := seq_list e
theorem DRs.size {its : Array Value} {l : List D} (r : DRs I l its.toList) : its.size = l.length := by have := r.length; simpa using this
theorem mkS_length (t : List Nat) : (mkS t).length = t.length := by simp [mkS, Str.length]
theorem isE_len {α β : Type} {a : Array α} {l : List β} (h : a.size = l.length) : a.isEmpty = l.isEmpty := by
  rw [Bool.eq_iff_iff, Array.isEmpty_iff_size_eq_zero, List.isEmpty_iff_length_eq_zero, h]
theorem truthy_list_ok {x : V} {l : List D} {v : Value} {Q : Bool → Shared → Prop} (t : St C fm fz I as vars c s) (h : listOfV c x = some l) (r : VR I as x v)
    (k : ∀ s', St C fm fz I as vars c s' → Q (!l.isEmpty) s') : wpAny (model C.prog C.w) A (truthy v) Q E s :=
  VR.list t.toGd h r fun a its n e hl d => wpAny_truthy_list (listO_isList e) (by rw [d.size]; omega) (isE_len d.size ▸ k _ (t.tok (Nat.succ_pos _)))
theorem len_ne0 (t : List Nat) : ((t.length : Int) != 0) = !t.isEmpty := by
  cases t with
  | nil => rfl
  | cons a r => exact bne_iff_ne.mpr (by rw [List.length_cons]; omega)
theorem truth_ok {x : V} {b : Bool} {v : Value} {Q : Bool → Shared → Prop} (t : St C fm fz I as vars c s) (h : truth c x = some b) (r : VR I as x v)
    (k : ∀ s', St C fm fz I as vars c s' → Q b s') : wpAny (model C.prog C.w) A (truthy v) Q E s := by
  have key : ∀ {b'} {s'}, some b' = some b → St C fm fz I as vars c s' → Q b' s' := fun e t => Option.some.inj e ▸ k _ t
  clear k
  refine orE_some h (fun a h1 h2 => VR.bool h1 r (wpAny_truthy_bool (key h2 t))) fun h => orE_some h (fun a h1 h2 => VR.int h1 r fun u => PyProof.Rows.truthy_int (key h2 t)) fun h =>
    orE_some h (fun a h1 h2 => VR.str h1 r fun u hy => PySem.P.truthy_str (by rw [mkS_length]; omega) (by rw [mkS_length, len_ne0]; exact key h2 (t.tok (Nat.succ_pos _)))) fun h => ?_
  exact ifB h (fun hn h => VR.none hn r (wpAny_pure (key h t))) fun _ h => bind_some' ((Option.map_eq_bind ..).symm.trans h) fun l h1 h2 => truthy_list_ok t h1 r fun s' t' => key h2 t'
end
end Mine
end
section
open PySem PySem.W PyProof.Rows PySem.SeqAt
namespace Mine
noncomputable def KD (C : Cx) (fm : Fm) (fz : Fz) (I : Im) (as : List Addr) (vars : Vars) (c : Cells) (d : D) (Q : Value → Shared → Prop) : Prop :=
  ∀ I' s' x, I.le I' → St C fm fz I' as vars c s' → DR I' d x → Q x s'
noncomputable def KF (C : Cx) (fm : Fm) (fz : Fz) (I : Im) (as : List Addr) (vars : Vars) (c : Cells) (l : List D) (Q : Value → Shared → Prop) : Prop :=
  ∀ I' s' a its n, I.le I' → St C fm fz I' as vars c s' → s'.heap.get? a = some (listO its n) → l.length ≤ 1000000 → DRs I' l its.toList → I'.rd a = none → fz a = none → a ∉ as → a ∉ fm.mu → Q (.ref a) s'
noncomputable def KB (C : Cx) (fm : Fm) (fz : Fz) (I : Im) (as : List Addr) (vars : Vars) (c : Cells) (b : Bool) (Q : Value → Shared → Prop) : Prop :=
  ∀ s', St C fm fz I as vars c s' → Q (.bool b) s'
section
variable {C : Cx} {fm : Fm} {fz : Fz} {I : Im} {as : List Addr} {vars : Vars} {c : Cells} {s : Shared}
variable {A : Around} {E : Value → Shared → Prop}
theorem KD.of {d d' : D} {Q : Value → Shared → Prop} (k : KD C fm fz I as vars c d Q) (e : some d' = some d) : KD C fm fz I as vars c d' Q := Option.some.inj e ▸ k
theorem KF.of_KD {l : List D} {Q : Value → Shared → Prop} (k : KD C fm fz I as vars c (.list l) Q) : KF C fm fz I as vars c l Q := fun I' s' a its n hl t e hn d h1 h2 h3 h4 =>
  k (I'.add a (listO its n)) s' (.ref a) (hl.trans (Im.le.add h1)) (t.add h1 h2 h3 h4 e) (.mk n hn (if_pos rfl) (d.mono (Im.le.add h1)))
theorem KF.pushed {l : List D} {Q : Value → Shared → Prop} (k : KF C fm fz I as vars c l Q) (t : St C fm fz I as vars c s) {its : Array Value} {n : Nat} {tk : Nat} (hp : 0 < tk) (hn : l.length ≤ 1000000) (d : DRs I l its.toList) :
    Q (.ref s.heap.objs.size) { s with heap := s.heap.push (listO its n), toks := tk } :=
  let z := get?_size_none s.heap
  k I _ _ its n (Im.le.refl I) (t.heap_tok (fun b o e => Heap.get?_push_of_some _ e) hp) (Heap.get?_push_size _ rfl) hn d (t.fresh_rd z) (t.fresh_fz z) (t.fresh_as z) (t.fresh_mu z)
theorem KD.int {i : Int} {Q : Value → Shared → Prop} (k : KD C fm fz I as vars c (.int i) Q) (t : St C fm fz I as vars c s) {tk u : Nat} (hp : 0 < tk) : Q (.int i u) { s with toks := tk } :=
  k I _ _ (Im.le.refl I) (t.tok hp) (.mkInt i u)
theorem KD.str {x : List Nat} {Q : Value → Shared → Prop} (k : KD C fm fz I as vars c (.str x) Q) (t : St C fm fz I as vars c s) {tk u : Nat} (hp : 0 < tk) (hn : x.length ≤ 1000000) : Q (.str (mkS x) u) { s with toks := tk } :=
  k I _ _ (Im.le.refl I) (t.tok hp) ⟨hn, _, rfl⟩
theorem KD.intE {i : Int} {r : D} {Q : Value → Shared → Prop} (k : KD C fm fz I as vars c r Q) (e : some (D.int i) = some r) (t : St C fm fz I as vars c s) {u : Nat} : Q (.int i u) { s with toks := s.toks + 1 } := (k.of e).int t (Nat.succ_pos _)
theorem mkS_append (a b : List Nat) : mkS a ++ mkS b = mkS (a ++ b) := by
  show Str.mk (a.toArray ++ b.toArray) = Str.mk (a ++ b).toArray
  simp
theorem mkS_inj {a b : List Nat} (h : mkS a = mkS b) : a = b := by
  have := congrArg (fun x : Str => x.cps.toList) h
  simpa [mkS] using this
theorem mkS_beq (a b : List Nat) : (mkS a == mkS b) = (a == b) := by
  rw [Bool.eq_iff_iff, beq_iff_eq, beq_iff_eq]
  exact ⟨mkS_inj, fun h => by rw [h]⟩
noncomputable def opOf : BO → Operator
  | .add => .Add | .sub => .Sub | .mul => .Mult | .fdiv => .FloorDiv | .mod => .Mod | .pow => .Pow | .shr => .RShift
theorem DRs.rep {l : List D} {v : List Value} (d : DRs I l v) (n : Nat) : DRs I (List.replicate n l).flatten (List.replicate n v).flatten := by
  induction n with
  | zero => exact .nil
  | succ n ih => rw [List.replicate_succ, List.replicate_succ, List.flatten_cons, List.flatten_cons]; exact d.append ih
theorem foldl_cat {α : Type} (v : Array α) (n : Nat) : ∀ acc : Array α, (List.foldl (fun x1 x2 => x1 ++ x2) acc (List.replicate n v)).toList = acc.toList ++ (List.replicate n v.toList).flatten := by
  induction n with
  | zero => exact fun acc => (List.append_nil _).symm
  | succ n ih => intro acc; rw [List.replicate_succ, List.foldl_cons, ih, List.replicate_succ, List.flatten_cons, Array.toList_append, List.append_assoc]
theorem len_rep {α : Type} (l : List α) (n : Nat) : ((List.replicate n l).flatten).length = l.length * n := by
  induction n with
  | zero => rfl
  | succ n ih => rw [List.replicate_succ, List.flatten_cons, List.length_append, ih, Nat.mul_succ, Nat.add_comm]
theorem addL_fresh {x y : V} {a b : List D} {vx vy : Value} {Q : Value → Shared → Prop} (t : St C fm fz I as vars c s) (hx : listOfV c x = some a) (hy : listOfV c y = some b) (rx : VR I as x vx) (ry : VR I as y vy)
    (hn : (a ++ b).length ≤ 1000000) (k : KF C fm fz I as vars c (a ++ b) Q) : wpAny (model C.prog C.w) A (binaryOp .Add vx vy) Q E s :=
  VR.list t.toGd hx rx fun p its n e1 h1 d1 => VR.list t.toGd hy ry fun q its2 n2 e2 h2 d2 =>
    concat_meets ⟨_, e1, rfl⟩ ⟨_, e2, rfl⟩ noFill_list_add seq_list_add PySem.F.slot_list_add PySem.F.entry_list_add (PySem.F.args_list_add_2 _ _)
      (list_addW p q its its2 n n2 none none #[] #[] (by rw [d1.size, d2.size, sizeLine_is, ← List.length_append]; omega)) ⟨e1, e2, k.pushed t t.pos hn (by rw [Array.toList_append]; exact d1.append d2)⟩
theorem mulL_fresh {x : V} {a : List D} {vx : Value} {i : Int} {u : Tok} {Q : Value → Shared → Prop} (t : St C fm fz I as vars c s) (hx : listOfV c x = some a) (rx : VR I as x vx)
    (hn : a.length * i.toNat ≤ 1000000) (hi : i < 1000000) (hi0 : -1000000 < i) (k : KF C fm fz I as vars c (List.replicate i.toNat a).flatten Q) : wpAny (model C.prog C.w) A (binaryOp .Mult vx (.int i u)) Q E s :=
  VR.list t.toGd hx rx fun p its n e1 h1 d1 => by
    have sz : its.size * i.toNat ≤ 1000000 := d1.size ▸ hn
    refine wpAny_binaryOp_repeat_ref (T := "list") (U := "int") (by decide) ⟨_, e1, rfl⟩ (fun s' => typeIs_int s' i u) noFill_list_mul F.fills_int_mul F.slot_int_rmul repeat_list F.slot_int_index.lookup
      (call_meets F.slot_int_rmul (typeIs_int s i u) F.entry_int_rmul (F.args_int_rmul_2 _ _) (int___rmul___int_list i u p its n)
        ⟨e1, rfl, ⟨_, e1, rfl⟩, call_meets F.slot_list_mul ⟨_, e1, rfl⟩ F.entry_list_mul (F.args_list_mul_2 _ _)
          (AutoListH.list___mul___list_int_3 p its n i u (by simp only [Builtin.List.listFitsIndex]; rw [decide_eq_true (by omega), decide_eq_true (by omega)]; exact Bool.false_ne_true) (by omega) (fun h => by have := of_decide_eq_true h; rw [sizeLine_is] at this; omega))
          ⟨e1, k.pushed t t.pos (len_rep a _ ▸ hn) ?_⟩⟩)
    rw [foldl_cat]
    by_cases he : its.isEmpty = true
    · cases Array.isEmpty_iff.mp he
      cases List.length_eq_zero_iff.mp d1.size.symm
      rw [List.flatten_replicate_nil]; exact .nil
    · rw [if_neg he]; exact d1.rep _
@[elab_as_elim] theorem two_ok {f : Int → Int → Option D} {x y : V} {r : D} {vx vy : Value} {G : Value → Value → Prop} (h : two x y f = some r) (rx : VR I as x vx) (ry : VR I as y vy) (k : ∀ a b t u, f a b = some r → G (.int a t) (.int b u)) : G vx vy :=
  bind_some' h fun a h1 h => bind_some' h fun b h2 h3 => VR.int (G := fun v => G v vy) h1 rx fun t => VR.int (G := G _) h2 ry fun u => k a b t u h3
theorem bits_small {a : Int} (h : a.natAbs < 1000000) : Builtin.Int.intBits a ≤ 20 := by
  unfold Builtin.Int.intBits
  by_cases h0 : a.natAbs = 0
  · rw [h0]; split <;> decide
  · have := (Nat.log2_lt h0).mpr (show a.natAbs < 2 ^ 20 by omega)
    split <;> omega
theorem add_ok {x y : V} {r : D} {vx vy : Value} {Q : Value → Shared → Prop} (t : St C fm fz I as vars c s) (h : addV c x y = some r) (rx : VR I as x vx) (ry : VR I as y vy)
    (k : KD C fm fz I as vars c r Q) : wpAny (model C.prog C.w) A (binaryOp .Add vx vy) Q E s :=
  orE_some h (fun a h1 h => bind_some' h fun b h2 h => VR.int h1 rx fun u => VR.int h2 ry fun u' => PyProof.Rows.add_int (k.intE h t)) fun h =>
  orE_some h (fun a h1 h => bind_some' h fun b h2 h => ifS h fun hab h => VR.str h1 rx fun u n1 => VR.str h2 ry fun u' n2 =>
    wpAny_pos t.pos (PyProof.Rows.add_str (fun t' tk hp => mkS_append a b ▸ (k.of h).str t hp (by rw [List.length_append]; exact strOk_le hab)) (by rw [mkS_length, mkS_length, sizeLine_is]; omega))) fun h =>
  bind_some' h fun a h1 h => bind_some' h fun b h2 h => ifS h fun hab h => addL_fresh t h1 h2 rx ry (by rw [List.length_append]; exact strOk_le hab) (KF.of_KD (k.of h))
theorem mulS_is (k : Nat) (b : Int) : Txt.mul (mkS [k]) b = mkS (List.replicate b.toNat k) := congrArg (fun l : List Nat => Str.mk l.toArray) (PyProof.Rows.mul_one_list k b)
theorem mul_ok {x : V} {b : Int} {u : Tok} {r : D} {vx : Value} {Q : Value → Shared → Prop} (t : St C fm fz I as vars c s) (h : mulV x b = some r) (rx : VR I as x vx)
    (k : KD C fm fz I as vars c r Q) : wpAny (model C.prog C.w) A (binaryOp .Mult vx (.int b u)) Q E s :=
  orE_some h (fun a h1 h => ifS h fun hab h => VR.int h1 rx fun u => PyProof.Rows.mul_int (k.intE h t) (IntMulOk.of_left (Nat.le_trans (bits_small (dc (an hab).1)) (by decide)))) fun h =>
  orE_some h (fun a h1 h => bind_some' h fun ch h2 h => ifS h fun hab h => VR.str h1 rx fun u n1 =>
    wpAny_pos t.pos (SB.mul (n := b) (PyProof.Rows.mulOk_of 1 1000000 (by rw [oneOf_is h2]; exact Nat.le_refl 1) (Int.le_of_lt (dc (an hab).2)) (by have := dc (an hab).1; omega) (by decide) (by decide))
      fun t' tk hp => by rw [oneOf_is h2, mulS_is]; exact (k.of h).str t hp (by rw [List.length_replicate]; have := dc (an hab).2; omega))) fun h =>
  bind_some' h fun a h1 h => ifS h fun hab h => mulL_fresh t (c := c) (by rw [optList_is h1]; rfl) rx (strOk_le (an (an hab).1).1) (dc (an hab).2) (dc (an (an hab).1).2) (KF.of_KD (k.of h))
theorem binV_ok {o : BO} {x y : V} {r : D} {vx vy : Value} {Q : Value → Shared → Prop} (t : St C fm fz I as vars c s) (h : binV c o x y = some r) (rx : VR I as x vx) (ry : VR I as y vy)
    (k : KD C fm fz I as vars c r Q) : wpAny (model C.prog C.w) A (binaryOp (opOf o) vx vy) Q E s := by
  cases o with
  | add => exact add_ok t h rx ry k
  | sub => exact two_ok h rx ry fun a b t1 t2 h => PyProof.Rows.sub_int (k.intE h t)
  | mul => exact bind_some' h fun b h1 h => VR.int h1 ry fun u => mul_ok t h rx k
  | fdiv => exact two_ok h rx ry fun a b t1 t2 h => ifS h fun hb h => PyProof.Rows.floordiv_int (bn (an hb).1) (k.intE h t) (.inl (PyProof.noPylong_small (by have := dc (an hb).2; omega)))
  | mod => exact two_ok h rx ry fun a b t1 t2 h => ifS h fun hb h => PyProof.Rows.mod_int' (bn hb) (k.intE h t)
  | pow => exact two_ok h rx ry fun a b t1 t2 h => ifS h fun hb h => PyProof.Rows.pow_int_small (dc (an (an hb).1).1) (by have := dc (an (an hb).1).2; omega) (by have := dc (an hb).2; omega) (k.intE h t)
  | shr => exact two_ok h rx ry fun a b t1 t2 h => ifS h fun hb h => PyProof.Rows.rshift_int (dc hb) (k.intE h t)
end
end Mine
end
section
open PySem PySem.W PyProof.Rows PySem.SeqAt
set_option maxRecDepth 100000
namespace Mine
noncomputable def eVal : Value → Value → Bool
  | .int a _, .int b _ => a == b
  | .str a _, .str b _ => a == b
  | .bool a, .bool b => a == b
  | _, _ => false
section
variable {C : Cx} {fm : Fm} {fz : Fz} {I : Im} {as : List Addr} {vars : Vars} {c : Cells} {s : Shared}
variable {A : Around} {E : Value → Shared → Prop}
noncomputable def ScQ (vx vy : Value) (b : Bool) : Prop := (∀ A s, EqAt A s vx vy b) ∧ eVal vx vy = b
theorem scEq_ok {x y : D} {b : Bool} {vx vy : Value} (h : scEq x y = some b) (rx : DR I x vx) (ry : DR I y vy) : ScQ vx vy b :=
  orE_some h (fun a h1 h => map_some' h fun b h2 => DR.ofInt h1 rx fun t => DR.ofInt h2 ry fun u => ⟨fun A s => EqAt.int_int _ _ _ _, rfl⟩) fun h =>
  orE_some h (fun a h1 h => map_some' h fun b h2 => DR.ofStr h1 rx fun t _ => DR.ofStr h2 ry fun u _ => mkS_beq a b ▸ ⟨fun A s => EqAt.str_str _ _ _ _, rfl⟩) fun h =>
  bind_some' h fun a h1 h => map_some' h fun b h2 => DR.ofBool h1 rx (DR.ofBool h2 ry ⟨fun A s => EqAt.bool_bool _ _, rfl⟩)
noncomputable abbrev eAt (vs ws : List Value) (j : Nat) : Bool := eVal (vs.getD j .none) (ws.getD j .none)
structure EqL (vs ws : List Value) (b : Bool) : Prop where
  at' : ∀ A s j (h1 : j < vs.length) (h2 : j < ws.length), EqAt A s vs[j] ws[j] (eAt vs ws j)
  len : vs.length = ws.length
  all : (List.range vs.length).all (eAt vs ws) = b
theorem eqItems_ok {xs : List D} : ∀ {ys : List D} {b : Bool} {vs ws : List Value}, eqItems xs ys = some b → DRs I xs vs → DRs I ys ws → EqL vs ws b := by
  induction xs with
  | nil =>
    refine fun h r1 r2 => ifS h fun hy h => ?_
    cases List.isEmpty_iff.mp hy
    cases r1.nilv
    cases r2.nilv
    exact ⟨fun _ _ j h1 => absurd h1 (Nat.not_lt_zero j), rfl, Option.some.inj h⟩
  | cons x xs ih => intro ys b vs ws h r1 r2; cases ys with
    | nil => exact noS h
    | cons y ys => cases vs with
      | nil => exact r1.elim
      | cons v vs => cases ws with
        | nil => exact r2.elim
        | cons w ws =>
          refine bind_some' h fun b1 h1 h => map_some' h fun b2 h2 => ?_
          have i := ih h2 r1.2 r2.2
          have s := scEq_ok h1 r1.1 r2.1
          refine ⟨fun A t j g1 g2 => ?_, congrArg (· + 1) i.len, ?_⟩
          · cases j with
            | zero => exact (show eAt (v :: vs) (w :: ws) 0 = b1 from s.2) ▸ s.1 A t
            | succ j => exact i.at' A t j (Nat.lt_of_succ_lt_succ g1) (Nat.lt_of_succ_lt_succ g2)
          · rw [List.length_cons, List.range_succ_eq_map, List.all_cons, List.all_map]
            exact congr (congrArg and s.2) i.all
noncomputable def EqQ (A : Around) (s : Shared) (vx vy : Value) (b : Bool) : Prop := RcAt A s vx vy b ∧ RcNeAt A s vx vy (!b)
theorem EqL.tuples {a a' : Addr} {v w : Array Value} {b : Bool} (x : EqL v.toList w.toList b) (h1 : s.heap.IsTuple a v) (h2 : s.heap.IsTuple a' w) (hu : A.units < cLine) : EqQ A s (.ref a) (.ref a') b := by
  have e : ((List.range (min v.size w.size)).all (eAt v.toList w.toList) && v.size == w.size) = b := by
    have hz : v.size = w.size := x.len
    rw [hz, Nat.min_self, beq_self_eq_true, Bool.and_true, ← hz]; exact x.all
  exact e ▸ ⟨RcAt.tuples h1 h2 hu fun j g1 g2 => x.at' A.in1 s j g1 g2, RcNeAt.tuples h1 h2 hu fun j g1 g2 => x.at' A.in1 s j g1 g2⟩
theorem EqL.lists {a a' : Addr} {v w : Array Value} {b : Bool} (x : EqL v.toList w.toList b) (h1 : s.heap.IsList a v) (h2 : s.heap.IsList a' w) (hu : A.units < cLine) : EqQ A s (.ref a) (.ref a') b :=
  (show (List.range v.size).all (eAt v.toList w.toList) = b from x.all) ▸ ⟨RcAt.lists h1 h2 x.len hu fun j g1 g2 => x.at' A.in1 s j g1 g2, RcNeAt.lists h1 h2 x.len hu fun j g1 g2 => x.at' A.in1 s j g1 g2⟩
theorem eqV_two {x y : V} {b : Bool} {vx vy : Value} (hu : A.units < cLine) (g : Gd C fz I as c s) (h : eqV c x y = some b) (rx : VR I as x vx) (ry : VR I as y vy) : EqQ A s vx vy b :=
  orE_some h (fun a h1 h => bind_some' h fun b h2 h => VR.tup h1 rx fun p its m e1 _ d1 => VR.tup h2 ry fun p' its' m' e2 _ d2 => (eqItems_ok h d1 d2).tuples (seq_tuple (g.rd _ _ e1)) (seq_tuple (g.rd _ _ e2)) hu) fun h =>
  orE_some h (fun a h1 h => map_some' h fun b h2 => VR.int h1 rx fun t => VR.int h2 ry fun u => ⟨fun _ _ _ _ h => PyProof.Rows.eq_int h, fun _ _ _ _ h => PyProof.Rows.ne_int h⟩) fun h =>
  orE_some h (fun a h1 h => map_some' h fun b h2 => VR.str h1 rx fun t _ => VR.str h2 ry fun u _ => mkS_beq a b ▸ ⟨fun _ _ _ _ h => PyProof.Rows.eq_str h, fun _ _ _ _ h => PyProof.Rows.ne_str h⟩) fun h =>
  bind_some' h fun a h1 h => bind_some' h fun b h2 h => VR.list g h1 rx fun p its m e1 _ d1 => VR.list g h2 ry fun p' its' m' e2 _ d2 =>
    ifB h (fun hl h => Option.some.inj h ▸ (by
      have hs : (its.size != its'.size) = true := by rw [d1.size, d2.size]; exact hl
      exact ⟨RcAt.lists_lengths (seq_list e1) (seq_list e2) hs hu, RcNeAt.lists_lengths (seq_list e1) (seq_list e2) hs hu⟩)) fun _ h => (eqItems_ok h d1 d2).lists (seq_list e1) (seq_list e2) hu
structure InL (vx : Value) (ws : List Value) (b : Bool) : Prop where
  at' : ∀ A s y, y ∈ ws → EqAt A s y vx (eVal y vx)
  any : ws.any (fun y => eVal y vx) = b
theorem inSeq_ok {x : D} {vx : Value} (rx : DR I x vx) {ys : List D} : ∀ {b : Bool} {ws : List Value}, inSeq x ys = some b → DRs I ys ws → InL vx ws b := by
  induction ys with
  | nil => intro b ws h r; rw [r.nilv]; exact ⟨fun _ _ y h => (nomatch h), Option.some.inj h⟩
  | cons y ys ih => intro b ws h r; cases ws with
    | nil => exact r.elim
    | cons w ws =>
      refine bind_some' h fun b1 h1 h => map_some' h fun b2 h2 => ?_
      have i := ih h2 r.2
      have s := scEq_ok h1 r.1 rx
      exact ⟨fun A t z hz => (List.mem_cons.mp hz).elim (fun e => e ▸ s.2.symm ▸ s.1 A t) (i.at' A t z), congr (congrArg or s.2) i.any⟩
noncomputable def InQ (C : Cx) (A : Around) (s : Shared) (vx vy : Value) (b : Bool) : Prop := ∀ (E Q : Value → Shared → Prop), (Q (.bool b) s → wpAny (model C.prog C.w) A (compareOp .In vx vy) Q E s) ∧ (Q (.bool (!b)) s → wpAny (model C.prog C.w) A (compareOp .NotIn vx vy) Q E s)
theorem InL.list {vx : Value} {a : Addr} {v : Array Value} {b : Bool} (x : InL vx v.toList b) (h : s.heap.IsList a v) : InQ C A s vx (.ref a) b := fun E Q =>
  (Array.any_toList.symm.trans x.any : v.any (fun y => eVal y vx) = b) ▸ ⟨in_listAt _ h fun y hy => x.at' _ _ y (Array.mem_toList_iff.mpr hy), notIn_listAt _ h fun y hy => x.at' _ _ y (Array.mem_toList_iff.mpr hy)⟩
theorem InL.tup {vx : Value} {a : Addr} {v : Array Value} {b : Bool} (x : InL vx v.toList b) (h : s.heap.IsTuple a v) : InQ C A s vx (.ref a) b := fun E Q =>
  (Array.any_toList.symm.trans x.any : v.any (fun y => eVal y vx) = b) ▸ ⟨in_tupleAt _ h fun y hy => x.at' _ _ y (Array.mem_toList_iff.mpr hy), notIn_tupleAt _ h fun y hy => x.at' _ _ y (Array.mem_toList_iff.mpr hy)⟩
theorem found_is (k : Nat) (t : List Nat) : decide (k ∈ (mkS t).cps.toList) = t.contains k := by
  rw [Bool.eq_iff_iff, decide_eq_true_eq, List.contains_iff_mem]; exact Iff.rfl
theorem inV_two {x y : V} {b : Bool} {vx vy : Value} (g : Gd C fz I as c s) (h : inV x y = some b) (rx : VR I as x vx) (ry : VR I as y vy) : InQ C A s vx vy b :=
  orE_some h (fun t h1 h => bind_some' h fun l h2 h => map_some' h fun k h3 => VR.str h2 rx fun u _ => VR.str h1 ry fun u' _ => fun E Q => by
    rw [oneOf_is h3, ← found_is, ← StrLaws.found_one]
    exact ⟨PyProof.Rows.in_str, PyProof.Rows.notIn_str⟩) fun h =>
  bind_some' h fun d h1 h => orE_some h
    (fun l h2 h => VR.list (l := l) g (by rw [optList_is h2]; rfl) ry fun p its m e _ d1 => (inSeq_ok (rx.toD (dOf_is h1)) h d1).list (seq_list e))
    fun h => bind_some' h fun l h2 h => VR.tup h2 ry fun p its m e _ d1 => (inSeq_ok (rx.toD (dOf_is h1)) h d1).tup (seq_tuple (g.rd _ _ e))
noncomputable def IsQ (C : Cx) (A : Around) (s : Shared) (vx vy : Value) (b : Bool) : Prop := ∀ (E Q : Value → Shared → Prop), (Q (.bool b) s → wpAny (model C.prog C.w) A (compareOp .Is vx vy) Q E s) ∧ (Q (.bool (!b)) s → wpAny (model C.prog C.w) A (compareOp .IsNot vx vy) Q E s)
theorem isQ_none {b : Bool} (h : some true = some b) : IsQ C A s .none .none b := by cases h; exact fun E Q => ⟨PyProof.Rows.is_none_none, PyProof.Rows.isnot_none_none⟩
theorem isQ_ref {a : Addr} {b : Bool} (h : some true = some b) : IsQ C A s (.ref a) (.ref a) b := by cases h; exact fun E Q => ⟨wpAny_is_ref_self, wpAny_isNot_ref_self⟩
theorem isV_two {x y : V} {b : Bool} {vx vy : Value} (h : isV x y = some b) (rx : VR I as x vx) (ry : VR I as y vy) : IsQ C A s vx vy b :=
  orE_some h (fun b h1 h => map_some' h fun a h2 => VR.bool h2 rx (VR.bool h1 ry fun E Q => ⟨PyProof.Rows.is_bool, PyProof.Rows.isnot_bool⟩)) fun h =>
    ifB h (fun h1 h => VR.none h1 ry (ifB h (fun h2 h => VR.none h2 rx (isQ_none h)) fun _ h => map_some' h fun a h2 => VR.int h2 rx fun t => fun E Q => ⟨wpAny_is_other rfl nofun, wpAny_isNot_other rfl nofun⟩)) fun _ h =>
    ifB h (fun h1 h => by
      rw [(ry.toD (isStar_is h1)).1]
      exact ifB h (fun h2 h => by rw [(rx.toD (isStar_is h2)).1]; exact isQ_ref h) fun _ h => map_some' h fun a h2 => VR.str h2 rx fun t _ => fun E Q => ⟨wpAny_is_other rfl nofun, wpAny_isNot_other rfl nofun⟩) fun _ => noS
theorem rc_lt_int {M : Program} {w : World} {a b : Int} {t u : Tok} {Q : Value → Shared → Prop} (h : Q (.bool (decide (a < b))) s) : wpAny (model M w) A (richCompare .Lt (.int a t) (.int b u)) Q E s := PyProof.Rows.lt_int h
inductive LtJ (I : Im) (b : Bool) (m m2 : Nat) : List (Value × Value) → Prop
  | mk (k : Nat) {xs ys : List D} (vs ws : List Value) : DRs I xs vs → DRs I ys ws → ltTup xs ys = some b → m = k + vs.length → m2 = k + ws.length → LtJ I b m m2 (vs.zip ws)
theorem LtJ.nil {b : Bool} {m m2 : Nat} {l : List (Value × Value)} (h : LtJ I b m m2 l) (e : l = []) : m < m2 ↔ b = true := by
  cases h with | @mk k xs ys vs ws h1 h2 h3 h4 h5 =>
  rw [h4, h5, Nat.add_lt_add_iff_left]
  cases xs with
  | nil =>
    cases h1.nilv
    cases Option.some.inj h3
    rw [h2.length]
    cases ys with
    | nil => exact ⟨nofun, nofun⟩
    | cons => exact ⟨fun _ => rfl, fun _ => Nat.succ_pos _⟩
  | cons x xs => cases vs with
    | nil => exact h1.elim
    | cons v vs => cases ys with
      | nil =>
        cases h2.nilv
        cases Option.some.inj h3
        exact ⟨nofun, nofun⟩
      | cons y ys => cases ws with
        | nil => exact h2.elim
        | cons w ws => exact nomatch e
@[elab_as_elim] theorem LtJ.cons {b : Bool} {m m2 : Nat} {l : List (Value × Value)} {z : Value × Value} {r : List (Value × Value)} {G : Value × Value → Prop} (h : LtJ I b m m2 l) (e : l = z :: r)
    (k : ∀ a b1 u u', ((a == b1) = true → LtJ I b m m2 r) → ((a == b1) = false → some (decide (a < b1)) = some b) → G (.int a u, .int b1 u')) : G z := by
  cases h with | @mk k' xs ys vs ws h1 h2 h3 h4 h5 =>
  cases vs with
  | nil => exact nomatch e
  | cons v vs => cases ws with
    | nil => exact nomatch e
    | cons w ws => cases xs with
      | nil => exact nomatch h1
      | cons x xs => cases ys with
        | nil => exact nomatch h2
        | cons y ys =>
          cases e
          exact bind_some' h3 fun a g1 h => bind_some' h fun b1 g2 h => DR.ofInt g1 h1.1 fun u => DR.ofInt g2 h2.1 fun u' => k a b1 u u'
            (fun e => ifB h (fun _ h => .mk (k' + 1) vs ws h1.2 h2.2 h (by rw [h4, List.length_cons, Nat.add_right_comm]; rfl) (by rw [h5, List.length_cons, Nat.add_right_comm]; rfl)) fun e' _ => nomatch e.symm.trans e')
            (fun e => ifB h (fun e' _ => nomatch e.symm.trans e') fun _ h => h)
set_option maxHeartbeats 4000000 in
theorem tuple_lt_ints (I : Im) {xs ys : List D} {b : Bool} (l q : Addr) (items items2 : Array Value) (n n2 : Nat) (h : ltTup xs ys = some b) (d1 : DRs I xs items.toList) (d2 : DRs I ys items2.toList) :
    Meets (Builtin.«tuple.__lt__» ⟨[.ref l, .ref q], []⟩) (fun A R s => s.heap.get? l = some { cls := .type "tuple", dict := none, data := .seq items n, slots := #[] } ∧ s.heap.get? q = some { cls := .type "tuple", dict := none, data := .seq items2 n2, slots := #[] } ∧ R (.ok (.ret (.bool b))) s) :=
  .of_wp fun prog w A R s hh => by
    obtain ⟨hp, g, d, tk, os⟩ := s; obtain ⟨hl, hb, hR⟩ := hh
    have f2 := AutoSeq1.sub_tuple_tuple
    have j0 : LtJ I b items.size items2.size _ := .mk 0 _ _ d1 d2 h (Nat.zero_add _).symm (Nat.zero_add _).symm
    wp_walk using PySem.AutoSeq1.wpAny_loadPart' hl, PySem.AutoSeq1.wpAny_loadPart' hb, wpAny_forIn_list _ (fun rest b' s' => b'.1 = none ∧ s' = ⟨hp, g, d, tk, os⟩ ∧ LtJ I b items.size items2.size rest) _
    case turn =>
      rintro z rest b' s' ⟨hb', rfl, j⟩
      refine j.cons rfl fun a b1 u u' j1 j2 => ?_
      refine wpAny_bind (EqAt.int_int a u b1 u' prog w _ _ ?_)
      cases hab : (a == b1) with
      | true =>
        wp_walk
        exact ⟨rfl, rfl, j1 hab⟩
      | false =>
        cases j2 hab
        wp_walk using rc_lt_int
        exact ⟨_, rfl, hR⟩
    case fin =>
      rintro ⟨b1, b2⟩ s' ⟨hb', rfl, j⟩
      cases hb'
      wp_walk
      refine ⟨_, rfl, ?_⟩
      rw [← show decide (items.size < items2.size) = b from Bool.eq_iff_iff.mpr (decide_eq_true_iff.trans (j.nil rfl))] at hR
      exact hR
    case h =>
      exact ⟨rfl, rfl, j0⟩
noncomputable def cmpOf : CO → CmpOp
  | .lt => .Lt | .gt => .Gt | .ge => .GtE | .eq => .Eq | .ne => .NotEq | .is => .Is | .isnot => .IsNot | .inn => .In | .notin => .NotIn
noncomputable def CmpQ (C : Cx) (A : Around) (s : Shared) (o : CmpOp) (vx vy : Value) (b : Bool) : Prop := ∀ (E Q : Value → Shared → Prop), Q (.bool b) s → wpAny (model C.prog C.w) A (compareOp o vx vy) Q E s
theorem cmpV_is {o : CO} {x y : V} {b : Bool} {vx vy : Value} (hu : A.units < cLine) (g : Gd C fz I as c s) (h : cmpV c o x y = some b) (rx : VR I as x vx) (ry : VR I as y vy) : CmpQ C A s (cmpOf o) vx vy b := by
  cases o with
  | lt =>
    exact orE_some h (fun a h1 h => map_some' h fun b h2 => VR.int h1 rx fun t => VR.int h2 ry fun u => fun _ _ => PyProof.Rows.lt_int) fun h =>
      bind_some' h fun a h1 h => bind_some' h fun b h2 h => VR.tup h1 rx fun p its m e1 _ d1 => VR.tup h2 ry fun q its' m' e2 _ d2 => fun _ _ hq =>
      show wpAny _ _ (richCompare .Lt (.ref p) (.ref q)) _ _ s from
      richCompare_meets_room (op := .Lt) ⟨_, g.rd _ _ e1, rfl⟩ ⟨_, g.rd _ _ e2, rfl⟩ PySem.F.slot_tuple_lt PySem.F.entry_tuple_lt (PySem.F.args_tuple_lt_2 _ _) (tuple_lt_ints I p q its its' m m' h d1 d2)
        ⟨g.rd _ _ e1, g.rd _ _ e2, ⟨(fun x => nomatch x), hq⟩⟩ hu
  | gt => exact bind_some' h fun a h1 h => map_some' h fun b h2 => VR.int h1 rx fun t => VR.int h2 ry fun u => fun _ _ => PyProof.Rows.gt_int
  | ge => exact bind_some' h fun a h1 h => map_some' h fun b h2 => VR.int h1 rx fun t => VR.int h2 ry fun u => fun _ _ => PyProof.Rows.ge_int
  | eq => exact fun E Q => (eqV_two hu g h rx ry).1 C.prog C.w E Q
  | ne => exact map_some' h fun b h E Q => (eqV_two hu g h rx ry).2 C.prog C.w E Q
  | is => exact fun E Q => (isV_two h rx ry E Q).1
  | isnot => exact map_some' h fun b h E Q => (isV_two h rx ry E Q).2
  | inn => exact fun E Q => (inV_two g h rx ry E Q).1
  | notin => exact map_some' h fun b h E Q => (inV_two g h rx ry E Q).2
theorem cmpV_ok {o : CO} {x y : V} {b : Bool} {vx vy : Value} {Q : Value → Shared → Prop} (hu : A.units < cLine) (t : St C fm fz I as vars c s) (h : cmpV c o x y = some b) (rx : VR I as x vx) (ry : VR I as y vy)
    (k : KB C fm fz I as vars c b Q) : wpAny (model C.prog C.w) A (compareOp (cmpOf o) vx vy) Q E s := cmpV_is hu t.toGd h rx ry _ _ (k s t)
end
end Mine
end
section
open PySem PySem.W PyProof.Rows PySem.SeqAt
set_option maxRecDepth 100000
namespace Mine
noncomputable def isSlice : Expr → Bool
  | .Slice .. => true
  | _ => false
theorem subscripted_plain {e : Expr} (h : isSlice e = false) (o i : Value) : subscripted e false o i = operate [o, i] (getItem o i) := by
  cases e with
  | Slice => exact nomatch h
  | _ => rfl
theorem subscripted_slice (l u : Option Expr) (p : Pos) (o i : Value) : subscripted (.Slice l u none p) false o i = operate [i, o] (getItem o i) := rfl
theorem subscripted_step (l u : Option Expr) (st : Expr) (p : Pos) (o i : Value) : subscripted (.Slice l u (some st) p) false o i = operate [o, i] (getItem o i) := rfl
section
variable {C : Cx} {fm : Fm} {fz : Fz} {I : Im} {as : List Addr} {vars : Vars} {c : Cells} {s : Shared}
variable {A : Around} {E : Value → Shared → Prop}
theorem cut_len {α : Type} (l : List α) (a b : Nat) : ((l.drop a).take b).length ≤ l.length := by
  rw [List.length_take, List.length_drop]; exact Nat.le_trans (Nat.min_le_right ..) (Nat.sub_le ..)
theorem neg_at {m n : Nat} (h : m = n) (p : 0 < n) : (-1 + (m : Int)).toNat = n - 1 := by
  cases h; cases m with
  | zero => exact absurd p (Nat.lt_irrefl 0)
  | succ k => rw [Int.natCast_succ, Int.add_comm, Int.add_neg_cancel_right]; rfl
theorem neg_in {m n : Nat} (h : m = n) (p : 0 < n) : -(m : Int) ≤ -1 := by omega
theorem small {n : Nat} (h : n ≤ 1000000) : n ≤ sizeLine := by rw [sizeLine_is]; omega
theorem nat63 {j n : Nat} (h : j < n) (hn : n ≤ 1000000) : (j : Int) < 2 ^ 63 := by omega
theorem nat63' (j : Nat) : -(2 ^ 63 : Int) ≤ (j : Int) := by omega
theorem fits63 {j n : Nat} (h : j < n) (hn : n ≤ 1000000) : (decide ((j : Int) < -(2 ^ 63 : Int)) || decide ((j : Int) ≥ 2 ^ 63)) = false := by
  rw [decide_eq_false (Int.not_lt.mpr (nat63' j)), decide_eq_false (Int.not_le.mpr (nat63 h hn))]; rfl
theorem seq_nat {k n : Nat} (h : k < n) : seqIndex? (k : Int) n = some k := by
  unfold seqIndex?
  rw [if_neg (Int.not_lt.mpr (Int.natCast_nonneg k))]
  exact if_pos (Bool.and_eq_true_iff.mpr ⟨decide_eq_true (Int.natCast_nonneg k), decide_eq_true (Int.ofNat_lt.mpr h)⟩)
theorem len_of {α : Type} {l : List α} {k : Nat} {a : α} (h : l[k]? = some a) : k < l.length := (List.getElem?_eq_some_iff.mp h).1
@[elab_as_elim] theorem idx_elim {α : Type} {l : List α} {i : Int} {a : α} {G : Int → Prop} (h : idx l i = some a) (k : ∀ k : Nat, k < l.length → l[k]? = some a → G (k : Int)) : G i := by
  cases i with
  | ofNat j => exact k j (len_of h) h
  | negSucc j => exact noS h
@[elab_as_elim] theorem idxL_elim {α : Type} {l : List α} {i : Int} {a : α} {G : Int → Prop} (h : idxL l i = some a) (k : ∀ k : Nat, k < l.length → l[k]? = some a → G (k : Int)) (n : 0 < l.length → l[l.length - 1]? = some a → G (-1)) : G i := by
  cases i with
  | ofNat j => exact k j (len_of h) h
  | negSucc j => cases j with
    | zero => exact n (Nat.pos_of_ne_zero fun e => by rw [List.length_eq_zero_iff.mp e] at h; exact nomatch h) (List.getLast?_eq_getElem?.symm.trans h)
    | succ j => exact noS h
theorem subV_ok {value slice : Expr} {x y : V} {r : D} {vx vy : Value} {Q : Value → Shared → Prop} (hs : isSlice slice = false) (t : St C fm fz I as vars c s) (h : subV c x y = some r) (rx : VR I as x vx) (ry : VR I as y vy)
    (k : KD C fm fz I as vars c r Q) : wpAny (model C.prog C.w) A (subscriptTail value slice vx vy) Q E s :=
  bind_some' h fun i h1 h => VR.int h1 ry fun u =>
  orE_some h (fun tx h2 h => map_some' (G := fun r => KD C fm fz I as vars c r Q → _) h (fun ch h3 k => VR.str h2 rx fun u' hl => idx_elim h3 fun j hj h4 =>
    tail_any (typeIs_str _ _ _) PySem.F.slot_str_getitem.lookup (PyProof.Rows.getItem_str (c := ch) (fits63 hj hl) (by rw [mkS_length, seq_nat hj]; exact List.getElem?_toArray.trans h4) (k.str (x := [ch]) t (Nat.succ_pos _) (Nat.le_add_left 1 999999))) (subscripted_plain hs _ _)) k) fun h =>
  orE_some h (fun l h2 h => VR.tup h2 rx fun q its m e1 hl d => idx_elim h fun j hj h4 => by
    obtain ⟨y, hy, ry⟩ := d.get h4
    exact tail_any (T := "tuple") ⟨_, t.rd _ _ e1, rfl⟩ slot_tuple_getitem.lookup (PyProof.Rows.getItem_tuple (j := j) ⟨_, t.rd _ _ e1, rfl, m, rfl⟩ (nat63' j) (nat63 hj hl) (seq_nat (d.size ▸ hj)) (Array.getElem?_toList.symm.trans hy) (k I s y (Im.le.refl I) t ry)) (subscripted_plain hs _ _)) fun h =>
  bind_some' h fun l h2 h => VR.list t.toGd h2 rx fun q its m e1 hl d => idxL_elim h
    (fun j hj h4 => by
      obtain ⟨y, hy, ry⟩ := d.get h4
      exact tail_any (seq_list e1).typeIs slot_list_getitem.lookup (wpAny_getItem_list (seq_list e1) (Int.natCast_nonneg j) (nat63 hj hl) (Array.getElem?_toList.symm.trans hy) (k I s y (Im.le.refl I) t ry)) (subscripted_plain hs _ _))
    fun hp h4 => by
      obtain ⟨y, hy, ry⟩ := d.get h4
      refine tail_any (seq_list e1).typeIs slot_list_getitem.lookup (wpAny_getItem_list_neg (seq_list e1) (by decide) (neg_in d.size hp) (by decide) ?_ (k I s y (Im.le.refl I) t ry)) (subscripted_plain hs _ _)
      rw [neg_at d.size hp]; exact Array.getElem?_toList.symm.trans hy
noncomputable def PartR (o : Option Int) (v : Value) : Prop := match o with
  | none => v = .none
  | some i => ∃ u, v = .int i u
theorem PartR.is {o : Option Int} {v : Value} (h : PartR o v) : IsPart v o := by
  cases o with
  | none => rw [show v = .none from h]; exact .none
  | some i => obtain ⟨u, rfl⟩ := h; exact .int _ _
theorem cutL_fresh {value : Expr} {lo hi : Option Int} {lx ux : Option Expr} {p : Pos} {x : V} {l : List D} {vx vl vu : Value} {Q : Value → Shared → Prop} (t : St C fm fz I as vars c s) (hl : listOfV c x = some l) (rx : VR I as x vx)
    (pl : PartR lo vl) (pu : PartR hi vu) (k : KF C fm fz I as vars c (cutL l lo hi) Q) :
    wpAny (model C.prog C.w) A (subscriptTail value (.Slice lx ux none p) vx (.ref s.heap.objs.size)) Q E { s with heap := s.heap.push { cls := .type "slice", data := .fields #[vl, vu, .none] } } :=
  VR.list t.toGd hl rx fun q its n e1 h1 d1 => by
    have il := seq_list e1
    have hz : its.toList.length = l.length := d1.length
    refine tail_any (Heap.IsList.typeIs (s := { s with heap := s.heap.push _ }) (il.push _)) slot_list_getitem.lookup (wpAny_getItem_list_slice (il.push _) (Heap.IsSliceOf.new ..) pl.is pu.is .none nofun ?_ (small (d1.size ▸ h1))) (subscripted_slice ..)
    rw [kms_pick_eq]
    refine k.pushed (t.heap fun b o e => Heap.get?_push_of_some _ e) t.pos (Nat.le_trans (cut_len ..) h1) ?_
    unfold kms_pick cutL
    rw [hz]
    exact (d1.drop _).take _
theorem revL_fresh {value st : Expr} {p : Pos} {x : V} {l : List D} {vx : Value} {u : Tok} {Q : Value → Shared → Prop} (t : St C fm fz I as vars c s) (hl : listOfV c x = some l) (rx : VR I as x vx)
    (k : KF C fm fz I as vars c l.reverse Q) :
    wpAny (model C.prog C.w) A (subscriptTail value (.Slice none none (some st) p) vx (.ref s.heap.objs.size)) Q E { s with heap := s.heap.push { cls := .type "slice", data := .fields #[.none, .none, .int (-1) u] } } :=
  VR.list t.toGd hl rx fun q its n e1 h1 d1 => by
    have il := seq_list e1
    refine tail_any (Heap.IsList.typeIs (s := { s with heap := s.heap.push _ }) (il.push _)) slot_list_getitem.lookup (wpAny_getItem_list_slice (il.push _) (Heap.IsSliceOf.new ..) .none .none (.int _ _) (by decide) ?_ (small (d1.size ▸ h1))) (subscripted_step ..)
    rw [krv_pick]
    exact k.pushed (t.heap fun b o e => Heap.get?_push_of_some _ e) t.pos (by rw [List.length_reverse]; exact h1) d1.reverse
theorem cutS_ok {value : Expr} {a b : Int} {lx ux : Option Expr} {p : Pos} {x r : List Nat} {u vl vu : Tok} {Q : Value → Shared → Prop} (t : St C fm fz I as vars c s) (hx : x.length ≤ 1000000) (h : cutS x a b = some r)
    (k : KD C fm fz I as vars c (.str r) Q) :
    wpAny (model C.prog C.w) A (subscriptTail value (.Slice lx ux none p) (.str (mkS x) u) (.ref s.heap.objs.size)) Q E { s with heap := s.heap.push { cls := .type "slice", data := .fields #[.int a vl, .int b vu, .none] } } :=
  ifS h fun hc h => wpAny_pos (s := { s with heap := s.heap.push _ }) t.pos <| by
    have e : Txt.slice (mkS x) (some a) (some b) = mkS r := (StrLaws.sliceText_plain (x := mkS x) ⟨dc (an (an hc).1).1, dc (an (an hc).1).2, dc (an hc).2⟩).trans (congrArg mkS (Option.some.inj h))
    obtain ⟨T, id, h1, h2, h3⟩ := SBH.sliceItem_ss (prog := C.prog) (w := C.w) (A := A) (E := fun e s' => 0 < s'.toks → E e s') (P := fun h' => ∀ b o, s.heap.get? b = some o → h'.get? b = some o) (s := s) (x := mkS x) (t := u) (i := a) (ui := vl) (j := b) (uj := vu)
      (Q := fun x s' => 0 < s'.toks → Q x s') (fun h ob hp b o e => Heap.get?_push_of_some _ (hp b o e)) (fun _ _ e => e) (fun h' t' tk hk hp => e ▸ k I _ _ (Im.le.refl I) (t.heap_tok hk hp)
        ⟨by rw [← Option.some.inj h]; exact Nat.le_trans (cut_len ..) hx, _, rfl⟩) (small (mkS_length x ▸ hx))
    exact tail_any h2 h1 h3 (subscripted_slice ..)
theorem cutV_ok {value : PySem.Expr} {lo hi : Option Int} {lx ux : Option PySem.Expr} {p : Pos} {x : V} {d : D} {vx vl vu : Value} {Q : Value → Shared → Prop} (t : St C fm fz I as vars c s) (h : cutV c x lo hi = some d) (rx : VR I as x vx)
    (pl : PartR lo vl) (pu : PartR hi vu) (q : KD C fm fz I as vars c d Q) :
    wpAny (model C.prog C.w) A (subscriptTail value (.Slice lx ux none p) vx (.ref s.heap.objs.size)) Q E { s with heap := s.heap.push { cls := .type "slice", data := .fields #[vl, vu, .none] } } :=
  orE_some h (fun tx h1 h => bind_some' h fun a h2 h => bind_some' h fun b h3 h => by
    cases h2; cases h3
    obtain ⟨u1, rfl⟩ := pl; obtain ⟨u2, rfl⟩ := pu
    exact map_some' (G := fun r => KD C fm fz I as vars c r Q → _) h (fun r h4 q => VR.str h1 rx fun u hl => cutS_ok t hl h4 q) q) fun h =>
  map_some' (G := fun r => KD C fm fz I as vars c r Q → _) h (fun l h1 q => cutL_fresh t h1 rx pl pu (KF.of_KD q)) q
end
end Mine
end
section
open PySem PySem.W PyProof.Rows PySem.SeqAt
set_option maxRecDepth 100000
namespace Mine
section
variable {C : Cx} {fm : Fm} {fz : Fz} {I : Im} {as : List Addr} {vars : Vars} {c : Cells} {s : Shared}
variable {A : Around} {E : Value → Shared → Prop}
theorem Gd.cell_set (g : Gd C fz I as c s) {i : Nat} {a : Addr} {l' : List D} {its' : Array Value} {n' : Nat} {h' : Heap} (hi : as[i]? = some a) (hs : Heap.SameBut a s.heap h') (e : h'.get? a = some (listO its' n')) (hl : l'.length ≤ 1000000) (d : DRs I l' its'.toList) :
    Gd C fz I as (c.set i l') { s with heap := h' } where
  rd b o q := (hs.2 b (fun hb => by rw [hb, g.cel.noRd a (List.mem_of_getElem? hi)] at q; cases q)).trans (g.rd b o q)
  fr b o hP q := (g.fr b o hP q).keep fun o' e => (hs.2 b (fun hb => by rw [hb, g.fas a (List.mem_of_getElem? hi)] at q; cases q)).trans e
  dj := g.dj
  fas := g.fas
  base := g.base
  cel := g.cel.set (fun b hb o q => (hs.2 b hb).trans q) e ⟨hl, d⟩ hi
  gens := g.gens
  os := g.os
  pos := g.pos
  tfz := g.tfz
  tab := let ⟨ps, e, x⟩ := g.tab; ⟨ps, (hs.2 _ (g.asP (List.mem_of_getElem? hi)).symm).trans e, x⟩
theorem St.cell_set (t : St C fm fz I as vars c s) {i : Nat} {a : Addr} {l' : List D} {its' : Array Value} {n' : Nat} {h' : Heap} (hi : as[i]? = some a) (hs : Heap.SameBut a s.heap h') (e : h'.get? a = some (listO its' n')) (hl : l'.length ≤ 1000000) (d : DRs I l' its'.toList) :
    St C fm fz I as vars (c.set i l') { s with heap := h' } where
  toGd := t.toGd.cell_set hi hs e hl d
  fls := t.fls
  ok := t.ok
  mu b hb := by
    obtain ⟨q1, q2, q3, o, q4, q5⟩ := t.mu b hb
    exact ⟨q1, q2, q3, o, (hs.2 b fun q => q3 (q ▸ List.mem_of_getElem? hi)).trans q4, q5⟩
  vr := by
    obtain ⟨m, hm, v⟩ := t.vr
    have hloc : fm.env.locals ≠ a := fun q => (t.mu _ t.ok.loc).2.2.1 (q ▸ List.mem_of_getElem? hi)
    refine ⟨m, hm.sameBut hs hloc, fun x w nm kk hx hn hk hv => ?_⟩
    obtain ⟨y, r, z⟩ := v x w nm kk hx hn hk hv
    refine ⟨y, r, z.keep fun b hb o _ q => ⟨o, (hs.2 b fun hba => ?_).trans q, rfl⟩⟩
    subst hba
    rcases hb with hb | ⟨o', hb⟩
    · exact (t.mu b hb).2.2.1 (List.mem_of_getElem? hi)
    · rw [t.fas b (List.mem_of_getElem? hi)] at hb; cases hb
@[elab_as_elim] theorem cell_of {i : Nat} {l : List D} {v : Value} {G : Value → Prop} (g : Gd C fz I as c s) (h : c[i]? = some l) (r : VR I as (.loc i) v) (k : ∀ a its n, as[i]? = some a → s.heap.get? a = some (listO its n) → l.length ≤ 1000000 → DRs I l its.toList → G (.ref a)) : G v := by
  obtain ⟨a, its, n, e1, e2, e3⟩ := g.cel.get h
  obtain ⟨a', e4, e5⟩ := r
  cases e4.symm.trans e1
  exact e5 ▸ k _ its n e1 e2 e3.1 e3.2
theorem KD.intN {k j : Nat} {Q : Value → Shared → Prop} (q : KD C fm fz I as vars c (.int (j : Int)) Q) (e : some k = some j) (t : St C fm fz I as vars c s) {tk u : Nat} (hp : 0 < tk) : Q (.int (k : Int) u) { s with toks := tk } := (Option.some.inj e ▸ q : KD C fm fz I as vars c (.int (k : Int)) Q).int t hp
theorem len_ok {x : V} {k : Nat} {vx : Value} {Q : Value → Shared → Prop} (t : St C fm fz I as vars c s) (h : lenV c x = some k) (rx : VR I as x vx) (q : KD C fm fz I as vars c (.int k) Q) :
    wpAny (model C.prog C.w) A (call (.builtin "len") [vx]) Q E s :=
  orE_some h (fun tx h1 h => VR.str h1 rx fun u hl => PySem.P.len_str (by rw [mkS_length]; omega) (by rw [mkS_length]; exact q.intN h t (Nat.succ_pos _))) fun h =>
  bind_some' ((Option.map_eq_bind ..).symm.trans h) fun l h1 h => VR.list t.toGd h1 rx fun a its n e1 hl d1 => PyProof.Rows.len_list (seq_list e1) (by rw [d1.size]; omega) (by rw [d1.size]; exact q.intN h t (Nat.succ_pos _))
theorem ints_of {l : List D} : ∀ {ns : List Int} {vs : List Value}, intsOf l = some ns → DRs I l vs → IntsAre vs ns := by
  induction l with
  | nil => intro ns vs h d; cases d.nilv; cases Option.some.inj h; exact .nil
  | cons x l ih => intro ns vs h d; cases vs with
    | nil => exact d.elim
    | cons v vs => exact bind_some' h fun i h1 h => map_some' h fun ns h2 => DR.ofInt h1 d.1 fun t => .cons i t (ih h2 d.2)
theorem strs_of {l : List D} : ∀ {ns : List (List Nat)} {vs : List Value}, strsOf l = some ns → DRs I l vs → StrsAre vs (ns.map mkS) := by
  induction l with
  | nil => intro ns vs h d; cases d.nilv; cases Option.some.inj h; exact .nil
  | cons x l ih => intro ns vs h d; cases vs with
    | nil => exact d.elim
    | cons v vs => exact bind_some' h fun i h1 h => map_some' h fun ns h2 => DR.ofStr h1 d.1 fun t _ => .cons _ t (ih h2 d.2)
theorem sum_ok {x : V} {l : List D} {ns : List Int} {vx : Value} {Q : Value → Shared → Prop} (hh : A.handled = none) (t : St C fm fz I as vars c s) (h : listOfV c x = some l) (hn : intsOf l = some ns) (rx : VR I as x vx) (q : KD C fm fz I as vars c (.int ns.sum) Q) :
    wpAny (model C.prog C.w) A (call (.builtin "sum") [vx]) Q E s :=
  VR.list t.toGd h rx fun a its n e1 hl d1 => by
    have hi := ints_of hn d1
    obtain ⟨xs, hx⟩ := AllInts.items (vs := its) (show AllInts its from hi.allInts)
    refine wpAny_pos t.pos (sum_intListG hh (hx ▸ seq_list e1) fun h' tk t' k hp => ?_)
    rw [preSum_eq, List.take_of_length_le (by rw [List.length_map, Array.length_toList]; exact Nat.le_refl _), ← nums_intItems, ← hx, hi.numsOf]
    exact q I _ _ (Im.le.refl I) (t.heap_tok k hp) (.mkInt ..)
theorem min_ok {a b : Int} {ta tb : Tok} {Q : Value → Shared → Prop} (hh : A.handled = none) (t : St C fm fz I as vars c s) (q : KD C fm fz I as vars c (.int (if b < a then b else a)) Q) :
    wpAny (model C.prog C.w) A (call (.builtin "min") [.int a ta, .int b tb]) Q E s :=
  wpAny_pos t.pos (min_two_ints hh fun h' tk k hp => q I _ _ (Im.le.refl I) (t.heap_tok k hp) (by
    split
    · exact .mkInt ..
    · exact .mkInt ..))
theorem DRs_ints {vs : List Value} {ns : List Int} (h : IntsAre vs ns) : DRs I (ns.map D.int) vs := by
  induction h with
  | nil => exact .nil
  | cons n t _ ih => exact ⟨.mkInt n t, ih⟩
theorem intsAre_length {vs : List Value} {ns : List Int} (h : IntsAre vs ns) : vs.length = ns.length := by
  induction h with
  | nil => rfl
  | cons n t _ ih => exact congrArg (· + 1) ih
theorem sort_is {ns ns' : List Int} (h2 : ns'.Perm ns) (h3 : ns'.Pairwise (· ≤ ·)) : ns' = ns.mergeSort (· ≤ ·) :=
  List.Perm.eq_of_pairwise (le := (· ≤ ·)) (fun a b _ _ h1 h2 => Int.le_antisymm h1 h2) h3
    ((List.pairwise_mergeSort (le := fun a b : Int => decide (a ≤ b)) (fun a b c h1 h2 => decide_eq_true (Int.le_trans (dc h1) (dc h2))) (fun a b => Bool.or_eq_true_iff.mpr ((Int.le_total a b).imp decide_eq_true decide_eq_true)) ns).imp dc) (h2.trans (List.mergeSort_perm ns _).symm)
theorem size1_none (h : Heap) : h.get? (h.objs.size + 1) = none := by
  cases q : h.get? (h.objs.size + 1) with
  | none => rfl
  | some o => exact absurd (Nat.lt_trans (Nat.lt_succ_self _) (Heap.lt_size q)) (Nat.lt_irrefl _)
theorem sorted_ok {x : V} {l : List D} {ns : List Int} {vx : Value} {Q : Value → Shared → Prop} (t : St C fm fz I as vars c s) (h : listOfV c x = some l) (hn : intsOf l = some ns) (h64 : l.length < 64) (rx : VR I as x vx)
    (q : KD C fm fz I as vars c (.list ((ns.mergeSort (· ≤ ·)).map D.int)) Q) :
    wpAny (model C.prog C.w) A (call (.builtin "sorted") [vx]) Q E s :=
  VR.list t.toGd h rx fun a its n e1 hl d1 => sorted_ints (ns := ns) (vs := its.toList) (seq_list e1) (ints_of hn d1) (d1.length ▸ h64) fun out ns' i1 i2 i3 => by
    cases sort_is i2 i3
    obtain ⟨e, he⟩ := sortedAll_at s.heap its.toList out
    have z := size1_none s.heap
    refine (KF.of_KD q) I _ _ out e (Im.le.refl I) (t.heap fun b o => sortedAll_old) he ?_ (DRs_ints i1) (t.fresh_rd z) (t.fresh_fz z) (t.fresh_as z) (t.fresh_mu z)
    rw [List.length_map, List.length_mergeSort, ← intsAre_length (ints_of hn d1), d1.length]; exact hl
theorem boolText (b : Bool) : (if b then "True" else "False" : Str) = mkS (if b then trueS else falseS) := by cases b <;> decide +kernel
theorem strOf_ok {b : Bool} {Q : Value → Shared → Prop} (t : St C fm fz I as vars c s) (q : KD C fm fz I as vars c (.str (if b then trueS else falseS)) Q) :
    wpAny (model C.prog C.w) A (call (.type "str") [.bool b]) Q E s := PySem.P.str_of_bool (by rw [boolText]; exact q.str t (Nat.succ_pos _) (by cases b <;> decide))
theorem count_is (tx : List Nat) (k : Nat) : Txt.count (mkS tx) (mkS [k]) = ((tx.count k : Nat) : Int) := by
  have e := (PyProof.Rows.count_is (mkS tx) k).trans ((congrArg _ (List.map_map (f := fun n : Nat => (⟨#[n]⟩ : Str)) (g := PyData.str)).symm).trans (PySem.W.cnt_strs ⟨#[k]⟩ _))
  exact e.trans (congrArg Nat.cast (List.countP_map.trans (congrArg (fun p => List.countP p tx) (funext fun n => (mkS_beq [n] [k]).trans (Bool.and_true _)))))
theorem count_ok {tx : List Nat} {k : Nat} {u u' : Tok} {Q : Value → Shared → Prop} (t : St C fm fz I as vars c s) (q : KD C fm fz I as vars c (.int ((tx.count k : Nat) : Int)) Q) :
    wpAny (model C.prog C.w) A (call (.builtin "str.count") [.str (mkS tx) u, .str (mkS [k]) u']) Q E s := SC.count (by rw [count_is]; exact q.int t (Nat.succ_pos _))
theorem replace_ok {a b d r : List Nat} {u v w : Tok} {Q : Value → Shared → Prop} (t : St C fm fz I as vars c s) (hv : v ≠ 0) (hw : w ≠ 0) (hvw : v ≠ w) (h : replV a b d = some r) (q : KD C fm fz I as vars c (.str r) Q) :
    wpAny (model C.prog C.w) A (call (.builtin "str.replace") [.str (mkS a) u, .str (mkS b) v, .str (mkS d) w]) Q E s :=
  ifS h fun hc h => by
    obtain ⟨⟨⟨h1, h2⟩, h3⟩, h4⟩ := (an hc).imp (fun h => (an h).imp an id) id
    cases h
    exact wpAny_pos t.pos (SC.replaceW hv hw hvw (by rw [mkS_beq]; exact (Bool.not_eq_true' _).mp h2) (by rw [mkS_length]; have := strOk_le h1; omega) (by rw [mkS_length]; exact dc h3) fun t' k hp => q.str t hp (strOk_le h4))
theorem join_ok {a r : List Nat} {x : V} {l : List D} {ys : List (List Nat)} {u : Tok} {vx : Value} {Q : Value → Shared → Prop} (t : St C fm fz I as vars c s) (h : listOfV c x = some l) (hs : strsOf l = some ys) (rx : VR I as x vx)
    (hj : joinV a ys = some r) (q : KD C fm fz I as vars c (.str r) Q) : wpAny (model C.prog C.w) A (call (.builtin "str.join") [.str (mkS a) u, vx]) Q E s :=
  VR.list t.toGd h rx fun p its n e1 h1 d1 => ifS hj fun hc hj => by
    cases hj
    refine wpAny_pos t.pos (join_list (seq_list e1) (strs_of hs d1) ?_ fun t' k hp => ?_)
    · rw [List.map_map, List.length_map, mkS_length, show (Str.length ∘ mkS) = (List.length : List Nat → Nat) from funext mkS_length]
      exact dc (an hc).2
    · rw [show Txt.join (mkS a) (ys.map mkS) = mkS (joinS a ys) from StrLaws.glued_eq_join ..]
      exact q.str t hp (strOk_le (an hc).1)
theorem erase_last (its : Array Value) (h : 0 < its.size) : (its.eraseIdxIfInBounds (its.size - 1)).toList = its.toList.take (its.size - 1) := by
  unfold Array.eraseIdxIfInBounds
  rw [dif_pos (Nat.sub_lt h Nat.one_pos), Array.toList_eraseIdx, List.eraseIdx_eq_take_drop_succ, List.drop_eq_nil_of_le (by rw [Array.length_toList]; omega), List.append_nil]
theorem pop_ok {i : Nat} {v : V} {c' : Cells} {vx : Value} {Q : Value → Shared → Prop} (t : St C fm fz I as vars c s) (h : popV c i = some (v, c')) (rx : VR I as (.loc i) vx) (q : ∀ s' x, St C fm fz I as vars c' s' → VR I as v x → Q x s') :
    wpAny (model C.prog C.w) A (call (.builtin "list.pop") [vx]) Q E s := by
  obtain ⟨l, h1, h⟩ := Option.bind_eq_some_iff.mp h
  obtain ⟨d, h2, h⟩ := Option.map_eq_some_iff.mp h
  cases h
  refine cell_of t.toGd h1 rx fun a its n ha e1 hl d1 => ?_
  have hz := d1.size
  have h3 : l[l.length - 1]? = some d := List.getLast?_eq_getElem?.symm.trans h2
  have hpos : 0 < l.length := Nat.lt_of_le_of_lt (Nat.zero_le _) (len_of h3)
  obtain ⟨y, hy, ry⟩ := d1.get h3
  refine call_meets PySem.F.slot_list_pop ⟨_, e1, rfl⟩ PySem.F.entry_list_pop (PySem.F.args_list_pop_1 _) (PySem.MeetsSeq.list_pop_last a its n y (by rw [hz]; exact Array.getElem?_toList.symm.trans hy) (small (hz ▸ hl))) ⟨e1, ?_⟩
  refine q _ _ (t.cell_set ha (Heap.SameBut.update ..) (PySem.IsL.update e1 _) (Nat.le_trans (by rw [List.length_dropLast]; exact Nat.sub_le ..) hl) ?_) ry
  rw [erase_last its (hz.symm ▸ hpos), hz, List.dropLast_eq_take]
  exact d1.take _
theorem append_ok {i : Nat} {d : D} {c' : Cells} {vx v : Value} {Q : Value → Shared → Prop} (t : St C fm fz I as vars c s) (h : appV c i d = some c') (rx : VR I as (.loc i) vx) (rd : DR I d v)
    (q : ∀ s', St C fm fz I as vars c' s' → Q .none s') :
    wpAny (model C.prog C.w) A (call (.builtin "list.append") [vx, v]) Q E s :=
  bind_some' h fun l h1 h => ifS h fun hok h => cell_of t.toGd h1 rx fun a its n ha e1 hl d1 => append_at e1 (fun h' hs e => q _ (Option.some.inj h ▸ t.cell_set ha hs e (by rw [List.length_append]; exact strOk_le hok) (by rw [Array.toList_push]; exact d1.append (.one rd)))) (small (d1.size ▸ hl))
theorem setItem_ok {i : Nat} {d : D} {c' : Cells} {k : Int} {u : Tok} {vx v : Value} {Q : Unit → Shared → Prop} (t : St C fm fz I as vars c s) (h : setV c i k d = some c') (rx : VR I as (.loc i) vx) (rd : DR I d v)
    (q : ∀ s', St C fm fz I as vars c' s' → Q () s') :
    wpAny (model C.prog C.w) A (setItem vx (.int k u) v) Q E s := by
  refine bind_some' h fun l h1 h => cell_of t.toGd h1 rx fun a its n ha e1 hl d1 => ?_
  cases k with
  | negSucc => exact noS h
  | ofNat j =>
    refine ifS h fun hj h => ki_setAt e1 (Int.natCast_nonneg j) ?_ ?_ (q _ (Option.some.inj h ▸ t.cell_set ha (Heap.SameBut.update ..) (PySem.IsL.update e1 _) (by rw [List.length_set]; exact hl) (by rw [Array.toList_setIfInBounds]; exact d1.set rd)))
    · exact nat63 (Nat.blt_eq.mp hj) hl
    · exact Int.ofNat_lt.mpr (d1.size ▸ Nat.blt_eq.mp hj)
end
end Mine
end
section
open PySem PySem.W PyProof.Rows PySem.SeqAt
namespace Mine
noncomputable abbrev NL := List (Str × NameKind)
noncomputable def fnms : List Str := [Str.ofString "heappop", Str.ofString "heapify", Str.ofString "_heappop_max", Str.ofString "_heapify_max", Str.ofString "_siftdown", Str.ofString "_siftup", Str.ofString "_siftdown_max", Str.ofString "_siftup_max", Str.ofString "_iter_escaped_chars", Str.ofString "_strip_quoted_realnames", Str.ofString "_check_parenthesis", Str.ofString "translate", Str.ofString "escape", Str.ofString "_translate", Str.ofString "_join_translated_parts", Str.ofString "_law_word", Str.ofString "_law_row", Str.ofString "_law_six", Str.ofString "_law_pattern", Str.ofString "_law_text", Str.ofString "_law_shape", Str.ofString "_law_keys", Str.ofString "_law_refused", Str.ofString "_law_order", Str.ofString "_law_some", Str.ofString "_law_runs", Str.ofString "law"]
noncomputable def acc {T F : Type} {ix : T → Nat} {i : Nat} {mk : F → T} (w : ∀ t, ix t = i → {x : F // t = mk x}) (t : T) : Option F := if h : ix t = i then some (w t h).1 else none
theorem acc_is {T F : Type} {ix : T → Nat} {i : Nat} {mk : F → T} {w : ∀ t, ix t = i → {x : F // t = mk x}} {t : T} {x : F} (h : acc w t = some x) : t = mk x := by
  unfold acc at h
  by_cases e : ix t = i
  · rw [dif_pos e] at h; exact Option.some.inj h ▸ (w t e).2
  · rw [dif_neg e] at h; exact noS h
theorem any_is {α : Type} {o : Option α} {f : α → Bool} {G : Prop} (h : o.any f = true) (k : ∀ x, o = some x → f x = true → G) : G := by
  cases o with
  | none => exact noT h
  | some x => exact k x rfl h
theorem acc_any {T F : Type} {ix : T → Nat} {i : Nat} {mk : F → T} (w : ∀ t, ix t = i → {x : F // t = mk x}) {t : T} {f : F → Bool} {G : T → Prop} (h : (acc w t).any f = true) (k : ∀ x, f x = true → G (mk x)) : G t :=
  any_is h fun x e h => acc_is e ▸ k x h
noncomputable def wBool (t : PySem.Expr) (h : t.ctorIdx = 0) : {x : PySem.BoolOp × List Expr × Pos // t = .BoolOp x.1 x.2.1 x.2.2} := PySem.Expr.BoolOp.elim (motive_1 := fun t => {x : PySem.BoolOp × List Expr × Pos // t = .BoolOp x.1 x.2.1 x.2.2}) t h fun a b c => ⟨(a, b, c), rfl⟩
noncomputable def wBin (t : PySem.Expr) (h : t.ctorIdx = 2) : {x : Expr × Operator × Expr × Pos // t = .BinOp x.1 x.2.1 x.2.2.1 x.2.2.2} := PySem.Expr.BinOp.elim (motive_1 := fun t => {x : Expr × Operator × Expr × Pos // t = .BinOp x.1 x.2.1 x.2.2.1 x.2.2.2}) t h fun a b c d => ⟨(a, b, c, d), rfl⟩
noncomputable def wUn (t : PySem.Expr) (h : t.ctorIdx = 3) : {x : PySem.UnaryOp × Expr × Pos // t = .UnaryOp x.1 x.2.1 x.2.2} := PySem.Expr.UnaryOp.elim (motive_1 := fun t => {x : PySem.UnaryOp × Expr × Pos // t = .UnaryOp x.1 x.2.1 x.2.2}) t h fun a b c => ⟨(a, b, c), rfl⟩
noncomputable def wLam (t : PySem.Expr) (h : t.ctorIdx = 4) : {x : Arguments × Expr × Scope × Pos // t = .Lambda x.1 x.2.1 x.2.2.1 x.2.2.2} := PySem.Expr.Lambda.elim (motive_1 := fun t => {x : Arguments × Expr × Scope × Pos // t = .Lambda x.1 x.2.1 x.2.2.1 x.2.2.2}) t h fun a b c d => ⟨(a, b, c, d), rfl⟩
noncomputable def wIf (t : PySem.Expr) (h : t.ctorIdx = 5) : {x : Expr × Expr × Expr × Pos // t = .IfExp x.1 x.2.1 x.2.2.1 x.2.2.2} := PySem.Expr.IfExp.elim (motive_1 := fun t => {x : Expr × Expr × Expr × Pos // t = .IfExp x.1 x.2.1 x.2.2.1 x.2.2.2}) t h fun a b c d => ⟨(a, b, c, d), rfl⟩
noncomputable def wLC (t : PySem.Expr) (h : t.ctorIdx = 8) : {x : Expr × List Comprehension × Scope × Pos // t = .ListComp x.1 x.2.1 x.2.2.1 x.2.2.2} := PySem.Expr.ListComp.elim (motive_1 := fun t => {x : Expr × List Comprehension × Scope × Pos // t = .ListComp x.1 x.2.1 x.2.2.1 x.2.2.2}) t h fun a b c d => ⟨(a, b, c, d), rfl⟩
noncomputable def wCmp (t : PySem.Expr) (h : t.ctorIdx = 15) : {x : Expr × List CmpOp × List Expr × Pos // t = .Compare x.1 x.2.1 x.2.2.1 x.2.2.2} := PySem.Expr.Compare.elim (motive_1 := fun t => {x : Expr × List CmpOp × List Expr × Pos // t = .Compare x.1 x.2.1 x.2.2.1 x.2.2.2}) t h fun a b c d => ⟨(a, b, c, d), rfl⟩
noncomputable def wCall (t : PySem.Expr) (h : t.ctorIdx = 16) : {x : Expr × List Expr × List Keyword × Pos // t = .Call x.1 x.2.1 x.2.2.1 x.2.2.2} := PySem.Expr.Call.elim (motive_1 := fun t => {x : Expr × List Expr × List Keyword × Pos // t = .Call x.1 x.2.1 x.2.2.1 x.2.2.2}) t h fun a b c d => ⟨(a, b, c, d), rfl⟩
noncomputable def wFmt (t : PySem.Expr) (h : t.ctorIdx = 17) : {x : Expr × Int × Option Expr × Pos // t = .FormattedValue x.1 x.2.1 x.2.2.1 x.2.2.2} := PySem.Expr.FormattedValue.elim (motive_1 := fun t => {x : Expr × Int × Option Expr × Pos // t = .FormattedValue x.1 x.2.1 x.2.2.1 x.2.2.2}) t h fun a b c d => ⟨(a, b, c, d), rfl⟩
noncomputable def wJoin (t : PySem.Expr) (h : t.ctorIdx = 18) : {x : List Expr × Pos // t = .JoinedStr x.1 x.2} := PySem.Expr.JoinedStr.elim (motive_1 := fun t => {x : List Expr × Pos // t = .JoinedStr x.1 x.2}) t h fun a b => ⟨(a, b), rfl⟩
noncomputable def wCon (t : PySem.Expr) (h : t.ctorIdx = 19) : {x : Const × Nat × Pos // t = .Constant x.1 x.2.1 x.2.2} := PySem.Expr.Constant.elim (motive_1 := fun t => {x : Const × Nat × Pos // t = .Constant x.1 x.2.1 x.2.2}) t h fun a b c => ⟨(a, b, c), rfl⟩
noncomputable def wAttr (t : PySem.Expr) (h : t.ctorIdx = 20) : {x : Expr × Str × Pos // t = .Attribute x.1 x.2.1 x.2.2} := PySem.Expr.Attribute.elim (motive_1 := fun t => {x : Expr × Str × Pos // t = .Attribute x.1 x.2.1 x.2.2}) t h fun a b c => ⟨(a, b, c), rfl⟩
noncomputable def wSub (t : PySem.Expr) (h : t.ctorIdx = 21) : {x : Expr × Expr × Pos // t = .Subscript x.1 x.2.1 x.2.2} := PySem.Expr.Subscript.elim (motive_1 := fun t => {x : Expr × Expr × Pos // t = .Subscript x.1 x.2.1 x.2.2}) t h fun a b c => ⟨(a, b, c), rfl⟩
noncomputable def wName (t : PySem.Expr) (h : t.ctorIdx = 23) : {x : Str × Pos // t = .Name x.1 x.2} := PySem.Expr.Name.elim (motive_1 := fun t => {x : Str × Pos // t = .Name x.1 x.2}) t h fun a b => ⟨(a, b), rfl⟩
noncomputable def wList (t : PySem.Expr) (h : t.ctorIdx = 24) : {x : List Expr × Pos // t = .List x.1 x.2} := PySem.Expr.List.elim (motive_1 := fun t => {x : List Expr × Pos // t = .List x.1 x.2}) t h fun a b => ⟨(a, b), rfl⟩
noncomputable def wTup (t : PySem.Expr) (h : t.ctorIdx = 25) : {x : List Expr × Nat × Pos // t = .Tuple x.1 x.2.1 x.2.2} := PySem.Expr.Tuple.elim (motive_1 := fun t => {x : List Expr × Nat × Pos // t = .Tuple x.1 x.2.1 x.2.2}) t h fun a b c => ⟨(a, b, c), rfl⟩
noncomputable def wSl (t : PySem.Expr) (h : t.ctorIdx = 26) : {x : Option Expr × Option Expr × Option Expr × Pos // t = .Slice x.1 x.2.1 x.2.2.1 x.2.2.2} := PySem.Expr.Slice.elim (motive_1 := fun t => {x : Option Expr × Option Expr × Option Expr × Pos // t = .Slice x.1 x.2.1 x.2.2.1 x.2.2.2}) t h fun a b c d => ⟨(a, b, c, d), rfl⟩
noncomputable def wRet (t : PySem.Stmt) (h : t.ctorIdx = 3) : {x : Option Expr × Pos // t = .Return x.1 x.2} := PySem.Stmt.Return.elim (motive_2 := fun t => {x : Option Expr × Pos // t = .Return x.1 x.2}) t h fun a b => ⟨(a, b), rfl⟩
noncomputable def wAsg (t : PySem.Stmt) (h : t.ctorIdx = 5) : {x : List Expr × Expr × Pos // t = .Assign x.1 x.2.1 x.2.2} := PySem.Stmt.Assign.elim (motive_2 := fun t => {x : List Expr × Expr × Pos // t = .Assign x.1 x.2.1 x.2.2}) t h fun a b c => ⟨(a, b, c), rfl⟩
noncomputable def wAug (t : PySem.Stmt) (h : t.ctorIdx = 7) : {x : Expr × Operator × Expr × Pos // t = .AugAssign x.1 x.2.1 x.2.2.1 x.2.2.2} := PySem.Stmt.AugAssign.elim (motive_2 := fun t => {x : Expr × Operator × Expr × Pos // t = .AugAssign x.1 x.2.1 x.2.2.1 x.2.2.2}) t h fun a b c d => ⟨(a, b, c, d), rfl⟩
noncomputable def wFor (t : PySem.Stmt) (h : t.ctorIdx = 9) : {x : Expr × Expr × List Stmt × List Stmt × Pos // t = .For x.1 x.2.1 x.2.2.1 x.2.2.2.1 x.2.2.2.2} := PySem.Stmt.For.elim (motive_2 := fun t => {x : Expr × Expr × List Stmt × List Stmt × Pos // t = .For x.1 x.2.1 x.2.2.1 x.2.2.2.1 x.2.2.2.2}) t h fun a b c d e => ⟨(a, b, c, d, e), rfl⟩
noncomputable def wWhl (t : PySem.Stmt) (h : t.ctorIdx = 11) : {x : Expr × List Stmt × List Stmt × Pos // t = .While x.1 x.2.1 x.2.2.1 x.2.2.2} := PySem.Stmt.While.elim (motive_2 := fun t => {x : Expr × List Stmt × List Stmt × Pos // t = .While x.1 x.2.1 x.2.2.1 x.2.2.2}) t h fun a b c d => ⟨(a, b, c, d), rfl⟩
noncomputable def wIfS (t : PySem.Stmt) (h : t.ctorIdx = 12) : {x : Expr × List Stmt × List Stmt × Pos // t = .If x.1 x.2.1 x.2.2.1 x.2.2.2} := PySem.Stmt.If.elim (motive_2 := fun t => {x : Expr × List Stmt × List Stmt × Pos // t = .If x.1 x.2.1 x.2.2.1 x.2.2.2}) t h fun a b c d => ⟨(a, b, c, d), rfl⟩
noncomputable def wAsr (t : PySem.Stmt) (h : t.ctorIdx = 19) : {x : Expr × Option Expr × Pos // t = .Assert x.1 x.2.1 x.2.2} := PySem.Stmt.Assert.elim (motive_2 := fun t => {x : Expr × Option Expr × Pos // t = .Assert x.1 x.2.1 x.2.2}) t h fun a b c => ⟨(a, b, c), rfl⟩
noncomputable def wEx (t : PySem.Stmt) (h : t.ctorIdx = 24) : {x : Expr × Pos // t = .Expr x.1 x.2} := PySem.Stmt.Expr.elim (motive_2 := fun t => {x : Expr × Pos // t = .Expr x.1 x.2}) t h fun a b => ⟨(a, b), rfl⟩
noncomputable def wBrk (t : PySem.Stmt) (h : t.ctorIdx = 26) : {x : Pos // t = .Break x} := PySem.Stmt.Break.elim (motive_2 := fun t => {x : Pos // t = .Break x}) t h fun a => ⟨a, rfl⟩
noncomputable def wCnt (t : PySem.Stmt) (h : t.ctorIdx = 27) : {x : Pos // t = .Continue x} := PySem.Stmt.Continue.elim (motive_2 := fun t => {x : Pos // t = .Continue x}) t h fun a => ⟨a, rfl⟩
noncomputable def kInt : Const → Option Int
  | .int i => some i
  | _ => none
noncomputable def kStr : Const → Option Str
  | .str s => some s
  | _ => none
theorem kInt_is {c : Const} {i : Int} (h : kInt c = some i) : c = .int i := by
  cases c with
  | int => exact congrArg Const.int (Option.some.inj h)
  | _ => exact noS h
theorem kStr_is {c : Const} {i : Str} (h : kStr c = some i) : c = .str i := by
  cases c with
  | str => exact congrArg Const.str (Option.some.inj h)
  | _ => exact noS h
theorem hd1_is {α : Type} {l : List α} {x : α} (h : hd1 l = some x) : l = [x] := by
  cases l with
  | nil => exact noS h
  | cons a r => cases r with
    | nil => exact congrArg (fun x => [x]) (Option.some.inj h)
    | cons => exact noS h
theorem hd2_is {α : Type} {l : List α} {x : α × α} (h : hd2 l = some x) : l = [x.1, x.2] := by
  cases l with
  | nil => exact noS h
  | cons a r => exact map_some' (G := fun x : α × α => a :: r = [x.1, x.2]) h fun y h => congrArg (a :: ·) (hd1_is h)
@[elab_as_elim] theorem hd1_any {α : Type} {l : List α} {f : α → Bool} {G : List α → Prop} (h : (hd1 l).any f = true) (k : ∀ x, f x = true → G [x]) : G l := any_is h fun x e h => hd1_is e ▸ k x h
@[elab_as_elim] theorem hd2_any {α : Type} {l : List α} {f : α × α → Bool} {G : List α → Prop} (h : (hd2 l).any f = true) (k : ∀ x y, f (x, y) = true → G [x, y]) : G l := any_is h fun x e h => hd2_is e ▸ k x.1 x.2 h
@[elab_as_elim] theorem nil_of {α : Type} {l : List α} {G : List α → Prop} (h : l.isEmpty = true) (k : G []) : G l := (List.isEmpty_iff.mp h : l = []) ▸ k
@[elab_as_elim] theorem none_of {α : Type} {o : Option α} {G : Option α → Prop} (h : o.isNone = true) (k : G none) : G o := (Option.isNone_iff_eq_none.mp h : o = none) ▸ k
theorem dceq {α : Type} [DecidableEq α] {a b : α} {G : α → Prop} (h : decide (a = b) = true) (k : G b) : G a := (dc h : a = b) ▸ k
noncomputable def isVar (k : NameKind) : Bool := decide (k = .local) || decide (k = .cell) || decide (k = .free)
noncomputable def varOk (nl : NL) (x : Nat) (id : Str) : Bool := decide (nms[x]? = some id) && (nl.lookup id).any isVarK
noncomputable def bindOk (nl : NL) (x : Nat) (id : Str) : Bool := decide (nms[x]? = some id) && (decide (nl.lookup id = some .local) || decide (nl.lookup id = some .cell))
noncomputable def globOk (nl : NL) (id s : Str) : Bool := decide (id = s) && decide (nl.lookup id = some .globalImplicit)
noncomputable def chkL {α β : Type} (f : α → β → Bool) : List α → List β → Bool
  | [], es => es.isEmpty
  | m :: ms, es => match es with
    | [] => false
    | e :: es => f m e && chkL f ms es
noncomputable def chkO {α β : Type} (f : α → β → Bool) (o : Option α) (e : Option β) : Bool := match o with
  | none => e.isNone
  | some m => e.any (f m)
noncomputable def compOk (nl : NL) (xs : List Nat) (sc : Scope) : Bool :=
  decide (sc.kind = .function) && (sc.names.all fun p => decide (sc.names.lookup p.1 = some p.2) && !decide (p.2 = .cell) && (!decide (p.2 = .local) || decide (p.1 = Str.ofString ".0") || xs.any fun x => decide (nms[x]? = some p.1)) &&
    (!decide (p.2 = .free) || decide (nl.lookup p.1 = some .cell))) && xs.all fun x => (nms[x]?).any fun id => decide (sc.names.lookup id = some .local)
noncomputable def isIx (e : PySem.Expr) (i : Nat) : Bool := Nat.beq e.ctorIdx i
noncomputable def isSetE (e : PySem.Expr) : Bool := isIx e 7
noncomputable def isCompE (e : PySem.Expr) : Bool := isIx e 8 || isIx e 9 || isIx e 10
noncomputable def recvOk (e : PySem.Expr) : Bool := isIx e 23 || isIx e 19
noncomputable def callN (e : PySem.Expr) (f : Str → List PySem.Expr → Bool) : Bool := (acc wCall e).any fun x => x.2.2.1.isEmpty && (acc wName x.1).any fun y => f y.1 x.2.1
noncomputable def callM (e : PySem.Expr) (s : Str) (f : PySem.Expr → List PySem.Expr → Bool) : Bool := (acc wCall e).any fun x => x.2.2.1.isEmpty && (acc wAttr x.1).any fun y => decide (y.2.1 = s) && (y.2.2.endLine == x.2.2.2.line) && f y.1 x.2.1
noncomputable def call1 (nl : NL) (s : Str) (e : PySem.Expr) (f : PySem.Expr → Bool) : Bool := callN e fun id xs => globOk nl id s && (hd1 xs).any f
section
variable {G : PySem.Expr → Prop} {nl : NL} {e : PySem.Expr} {s : Str}
theorem callN_elim {f : Str → List PySem.Expr → Bool} (h : callN e f = true) (k : ∀ id p xs pos, f id xs = true → G (.Call (.Name id p) xs [] pos)) : G e :=
  acc_any wCall h fun x h => acc_any wName (t := x.1) (G := fun z => G (.Call z x.2.1 x.2.2.1 x.2.2.2)) (an h).2 fun y h' => nil_of (G := fun z => G (.Call _ x.2.1 z x.2.2.2)) (an h).1 (k y.1 y.2 _ _ h')
theorem callM_elim {f : PySem.Expr → List PySem.Expr → Bool} (h : callM e s f = true) (k : ∀ o ap xs pos, (ap.endLine == pos.line) = true → f o xs = true → G (.Call (.Attribute o s ap) xs [] pos)) : G e :=
  acc_any wCall h fun x h => acc_any wAttr (t := x.1) (G := fun z => G (.Call z x.2.1 x.2.2.1 x.2.2.2)) (an h).2 fun y h' => nil_of (G := fun z => G (.Call _ x.2.1 z x.2.2.2)) (an h).1 (dceq (G := fun z => G (.Call (.Attribute y.1 z y.2.2) _ [] _)) (an (an h').1).1 (k y.1 y.2.2 _ _ (an (an h').1).2 (an h').2))
@[elab_as_elim] theorem call1_elim {f : PySem.Expr → Bool} (h : call1 nl s e f = true) (k : ∀ p x pos, nl.lookup s = some .globalImplicit → f x = true → G (.Call (.Name s p) [x] [] pos)) : G e :=
  callN_elim (G := G) h fun id p xs pos h => hd1_any (G := fun xs => G (.Call (.Name id p) xs [] pos)) (an h).2 fun x h' => by
    have e := dc (an (an h).1).1
    subst e
    exact k p x pos (dc (an (an h).1).2) h'
end
noncomputable def conI (e : PySem.Expr) (f : Int → Bool) : Bool := (acc wCon e).any fun x => (kInt x.1).any f
noncomputable def conS (e : PySem.Expr) (f : Str → Bool) : Bool := (acc wCon e).any fun x => (kStr x.1).any f
@[elab_as_elim] theorem conI_elim {e : PySem.Expr} {f : Int → Bool} {G : PySem.Expr → Prop} (h : conI e f = true) (k : ∀ i u p, f i = true → G (.Constant (.int i) u p)) : G e :=
  acc_any wCon h fun x h => any_is h fun i e h => kInt_is e ▸ k i _ _ h
@[elab_as_elim] theorem conS_elim {e : PySem.Expr} {f : Str → Bool} {G : PySem.Expr → Prop} (h : conS e f = true) (k : ∀ i u p, f i = true → G (.Constant (.str i) u p)) : G e :=
  acc_any wCon h fun x h => any_is h fun i e h => kStr_is e ▸ k i _ _ h
noncomputable def chkIt (f : ME → PySem.Expr → Bool) (nl : NL) (it : ME) (e : PySem.Expr) : Bool := !(isSetE e) && match asRange it with
  | some a => call1 nl (Str.ofString "range") e (f a)
  | none => match asRrange it with
    | some a => call1 nl (Str.ofString "reversed") e fun e => call1 nl (Str.ofString "range") e (f a)
    | none => f it e
noncomputable def chkPart (f : ME → PySem.Expr → Bool) (m : ME) (e : PySem.Expr) : Bool := match acc wFmt e with
  | some x => decide (x.2.1 = -1) && x.2.2.1.isNone && f m x.1
  | none => conS e (fun _ => true) && f m e
noncomputable def lamOk (la : Arguments) (sc : Scope) (p : Pos) : Bool := la.defaults.isEmpty && la.kw_defaults.isEmpty && (sc.names.all fun q => !(q.2 == .free)) && decide (p.line = 181) && decide (p.col = 39)
noncomputable def specM (m : ME) : Bool := m.ctorIdx == 7 || m.ctorIdx == 8 || m.ctorIdx == 9 || m.ctorIdx == 10 || m.ctorIdx == 11
noncomputable def isCompM (m : ME) : Bool := m.ctorIdx == 17 || m.ctorIdx == 18
noncomputable def plainT (e : PySem.Expr) : Bool := !(isIx e 0 || isIx e 3 && (acc wUn e).any (fun x => decide (x.1 = .Not)) || isIx e 5 || isIx e 15)
noncomputable def flagOk (m : ME) (e : PySem.Expr) : Bool := (specM m || plainT e) && (isCompM m || !(isCompE e)) && !(isIx e 22)
noncomputable def bits2 (f : ME → PySem.Expr → Bool) (op : PySem.BoolOp) (a b : ME) (e : PySem.Expr) : Bool := (acc wBool e).any fun x => decide (x.1 = op) && match x.2.1 with
  | [] => false
  | v :: r => match r with
    | [] => false
    | w :: r => f a v && match r with
      | [] => f b w
      | u :: r => f b (.BoolOp op (w :: u :: r) x.2.2)
noncomputable def gen1 (x : Nat) (g : Comprehension) (f : PySem.Expr → List PySem.Expr → Bool) : Bool := decide (g.is_async = 0) && (acc wName g.target).any fun y => decide (nms[x]? = some y.1) && f g.iter g.ifs
noncomputable def chkB (F : Bool → NL → ME → PySem.Expr → Bool) (tw : Bool) (nl : NL) (m : ME) (e : PySem.Expr) : Bool := match m with
  | .int i => conI e fun j => decide (i = j)
  | .str t => conS e fun s => decide (s = mkS t) && decide (t.length ≤ 1000000)
  | .bool b => (acc wCon e).any fun x => decide (x.1 = .bool b)
  | .none => (acc wCon e).any fun x => decide (x.1 = .none)
  | .var x => (acc wName e).any fun y => varOk nl x y.1
  | .bin o a b => (acc wBin e).any fun x => decide (x.2.1 = opOf o) && F tw nl a x.1 && F tw nl b x.2.2.1
  | .neg a => (acc wUn e).any fun x => decide (x.1 = .USub) && F tw nl a x.2.1
  | .not a => (acc wUn e).any fun x => decide (x.1 = .Not) && F tw nl a x.2.1
  | .and a b => bits2 (F tw nl) .And a b e
  | .or a b => bits2 (F tw nl) .Or a b e
  | .cmp o a b => (acc wCmp e).any fun x => (hd1 x.2.1).any fun op => (hd1 x.2.2.1).any fun r => decide (op = cmpOf o) && !(behindInMarks op r) && F tw nl a x.1 && F tw nl b r
  | .ite t a b => (acc wIf e).any fun x => F tw nl t x.1 && F tw nl a x.2.1 && F tw nl b x.2.2.1
  | .sub a i => (acc wSub e).any fun x => !(isSlice x.2.1) && F tw nl a x.1 && F tw nl i x.2.1
  | .slice a lo hi => (acc wSub e).any fun x => (acc wSl x.2.1).any fun y => y.2.2.1.isNone && F tw nl a x.1 && chkO (F tw nl) lo y.1 && chkO (F tw nl) hi y.2.1
  | .rev a => (acc wSub e).any fun x => (acc wSl x.2.1).any fun y => y.1.isNone && y.2.1.isNone && F tw nl a x.1 && y.2.2.1.any fun z => (acc wUn z).any fun u => decide (u.1 = .USub) && conI u.2.1 fun j => decide (j = 1)
  | .list es => (acc wList e).any fun x => chkL (F tw nl) es x.1 && decide (es.length ≤ 1000)
  | .tup es => (acc wTup e).any fun x => chkL (F tw nl) es x.1 && decide (es.length ≤ 1000)
  | .comp el x it c => (acc wLC e).any fun y => (hd1 y.2.1).any fun g => compOk nl [x] y.2.2.1 && F false y.2.2.1.names el y.1 && gen1 x g fun iter ifs => chkIt (F tw nl) nl it iter && match c with
      | none => ifs.isEmpty
      | some c => (hd1 ifs).any (F false y.2.2.1.names c)
  | .comp2 el x it y it2 => (acc wLC e).any fun z => (hd2 z.2.1).any fun g => compOk nl [x, y] z.2.2.1 && !(x == y) && F false z.2.2.1.names el z.1 && gen1 x g.1 (fun iter ifs => ifs.isEmpty && chkIt (F tw nl) nl it iter) &&
      gen1 y g.2 fun iter ifs => ifs.isEmpty && chkIt (F false z.2.2.1.names) z.2.2.1.names it2 iter
  | .call f es => callN e fun id args => decide (0 < f) && decide (fnms[f - 1]? = some id) && decide (nl.lookup id = some .globalImplicit) && chkL (F tw nl) es args && !(args.isEmpty)
  | .len a => call1 nl (Str.ofString "len") e (F tw nl a)
  | .sum a => call1 nl (Str.ofString "sum") e (F tw nl a)
  | .min a b => callN e fun id xs => globOk nl id (Str.ofString "min") && (hd2 xs).any fun z => F tw nl a z.1 && F tw nl b z.2
  | .sorted a => call1 nl (Str.ofString "sorted") e (F tw nl a)
  | .strOf a => call1 nl (Str.ofString "str") e (F tw nl a)
  | .pop x => callM e (Str.ofString "pop") fun o xs => xs.isEmpty && (acc wName o).any fun y => varOk nl x y.1
  | .count a b => callM e (Str.ofString "count") fun o xs => recvOk o && F tw nl a o && (hd1 xs).any (F tw nl b)
  | .replace a b d => callM e (Str.ofString "replace") fun o xs => recvOk o && F tw nl a o && (hd2 xs).any fun z => (strLit b).any fun p => (strLit d).any fun q => conS z.1 (fun s => decide (s = mkS p)) && conS z.2 (fun s => decide (s = mkS q))
  | .join a b => callM e (Str.ofString "join") fun o xs => recvOk o && F tw nl a o && (hd1 xs).any (F tw nl b)
  | .twin a => callM e (Str.ofString "sub") fun o xs => tw && (acc wName o).any fun y => globOk nl y.1 (Str.ofString "_twin_re_1") && (hd2 xs).any fun z => (acc wLam z.1).any fun l => lamOk l.1 l.2.2.1 l.2.2.2 && F tw nl a z.2
  | .fstr es => (acc wJoin e).any fun x => (x.1.drop 1).any (fun _ => true) && chkL (chkPart (F tw nl)) es x.1
  | .range _ => false
  | .rrange _ => false
noncomputable def chkE : Nat → Bool → NL → ME → PySem.Expr → Bool
  | 0, _, _, _, _ => false
  | k + 1, tw, nl, m, e => flagOk m e && chkB (chkE k) tw nl m e
noncomputable def nmIs (e : PySem.Expr) (nl : NL) (x : Nat) : Bool := (acc wName e).any fun y => varOk nl x y.1
noncomputable def bnIs (e : PySem.Expr) (nl : NL) (x : Nat) : Bool := (acc wName e).any fun y => bindOk nl x y.1
noncomputable def chkTs (f : ME → PySem.Expr → Bool) (nl : NL) : List (Nat × Bool × ME) → List PySem.Expr → List PySem.Expr → Bool
  | [], ts, vs => ts.isEmpty && vs.isEmpty
  | z :: r, ts, vs => match ts with
    | [] => false
    | t :: ts => match vs with
      | [] => false
      | v :: vs => bnIs t nl z.1 && f z.2.2 v && chkTs f nl r ts vs
noncomputable def isOpq (m : MS) : Bool := m.ctorIdx == 17
noncomputable def freshM (m : ME) : Bool := match m with
  | .list _ => true
  | .bin o _ _ => decide (o = .add)
  | .slice _ lo hi => lo.isNone && hi.isNone
  | _ => false
noncomputable def chkBs (f : MS → PySem.Stmt → Bool) : List MS → List PySem.Stmt → Bool
  | [], ss => ss.isEmpty
  | m :: ms, ss => isOpq m || match ss with
    | [] => false
    | s :: ss => f m s && chkBs f ms ss
noncomputable def chkPat (nl : NL) (xs : List Nat) (pat : Bool) (t : PySem.Expr) : Bool := match pat with
  | false => (hd1 xs).any fun x => bnIs t nl x
  | true => (hd2 xs).any fun x => (acc wTup t).any fun y => (hd2 y.1).any fun z => bnIs z.1 nl x.1 && bnIs z.2 nl x.2 && !(x.1 == x.2)
noncomputable def isAddSub (o : BO) : Bool := match o with
  | .add => true
  | .sub => true
  | _ => false
noncomputable def chkSB (F : NL → ME → PySem.Expr → Bool) (S : MS → PySem.Stmt → Bool) (tw : Bool) (nl : NL) (m : MS) (s : PySem.Stmt) : Bool := match m with
  | .assign x a => (acc wAsg s).any fun y => (hd1 y.1).any fun t => bnIs t nl x && F nl a y.2.1
  | .newlist x a => (acc wAsg s).any fun y => (hd1 y.1).any fun t => bnIs t nl x && F nl a y.2.1 && freshM a
  | .multi ts => (acc wAsg s).any fun y => (hd1 y.1).any fun t => (acc wTup t).any fun u => (acc wTup y.2.1).any fun v => chkTs (F nl) nl ts u.1 v.1 && decide (1 < u.1.length) && decide ((ts.map fun q => q.1).Nodup) && decide (ts.length ≤ 1000) &&
      (!(v.1.all (constantsAlone 8)) || v.1.all (foldedForSure 8)) && ts.all fun q => !q.2.1 || freshM q.2.2
  | .bindapp x r => (acc wAsg s).any fun y => (hd1 y.1).any fun t => (acc wAttr y.2.1).any fun u => (acc wName u.1).any fun v => bnIs t nl x && decide (u.2.1 = Str.ofString "append") && varOk nl r v.1
  | .aug x o a => (acc wAug s).any fun y => (acc wName y.1).any fun u => varOk nl x u.1 && bindOk nl x u.1 && decide (y.2.1 = opOf o) && F nl a y.2.2.1 && isAddSub o
  | .setitem x i a => (acc wAsg s).any fun y => (hd1 y.1).any fun t => (acc wSub t).any fun u => (acc wName u.1).any fun v => varOk nl x v.1 && !(isSlice u.2.1) && F nl i u.2.1 && F nl a y.2.1 && !(isCompE y.2.1)
  | .meth x a => (acc wEx s).any fun y => callM y.1 (Str.ofString "append") fun o xs => (acc wName o).any fun v => varOk nl x v.1 && (hd1 xs).any (F nl a)
  | .addc x a => (acc wEx s).any fun y => callN y.1 fun id xs => varOk nl x id && (hd1 xs).any (F nl a)
  | .expr a => (acc wEx s).any fun y => F nl a y.1 && callN y.1 fun _ _ => true
  | .ifs c a b => (acc wIfS s).any fun y => F nl c y.1 && chkBs S a y.2.1 && chkBs S b y.2.2.1
  | .while c a => (acc wWhl s).any fun y => y.2.2.1.isEmpty && F nl c y.1 && chkBs S a y.2.1
  | .for xs pat it b => (acc wFor s).any fun y => y.2.2.2.1.isEmpty && chkIt (F nl) nl it y.2.1 && chkBs S b y.2.2.1 && chkPat nl xs pat y.1
  | .forEsc x y a b => (acc wFor s).any fun z => z.2.2.2.1.isEmpty && chkPat nl [x, y] true z.1 && (!tw && (nl.all fun p => !(p.2 == .free))) && chkBs S b z.2.2.1 && call1 nl (Str.ofString "_iter_escaped_chars") z.2.1 (F nl a)
  | .ret o => (acc wRet s).any fun y => match o with
    | none => y.1.isNone
    | some a => y.1.any (F nl a)
  | .assert a => (acc wAsr s).any fun y => y.2.1.isNone && F nl a y.1
  | .cont => (acc wCnt s).isSome
  | .brk => (acc wBrk s).isSome
  | .opq => true
noncomputable def chkS : Nat → Bool → NL → MS → PySem.Stmt → Bool
  | 0, _, _, _, _ => false
  | k + 1, tw, nl, m, s => chkSB (chkE k tw) (chkS k tw nl) tw nl m s
end Mine
end
section
open PySem PySem.W PyProof.Rows PySem.SeqAt
set_option maxRecDepth 100000
namespace Mine
noncomputable def Room (C : Cx) (n : Nat) (A : Around) : Prop := A.handled = none ∧ A.depth + 2 * n ≤ 990 ∧ A.units + 20 * n ≤ 9900 ∧ A.frames = some C.fl
theorem Room.le {C : Cx} {n m : Nat} {A : Around} (r : Room C n A) (h : m ≤ n) : Room C m A := ⟨r.1, Nat.le_trans (Nat.add_le_add_left (Nat.mul_le_mul_left 2 h) _) r.2.1, Nat.le_trans (Nat.add_le_add_left (Nat.mul_le_mul_left 20 h) _) r.2.2.1, r.2.2.2⟩
theorem Room.less {C : Cx} {n : Nat} {A : Around} (r : Room C (n + 1) A) : Room C n A := r.le (Nat.le_succ n)
theorem Room.units {C : Cx} {n : Nat} {A : Around} (r : Room C (n + 1) A) : A.units < cLine := by
  exact Nat.lt_of_lt_of_le (Nat.lt_add_of_pos_right (Nat.lt_of_lt_of_le (by decide : 0 < 20) (Nat.le_mul_of_pos_right 20 (Nat.succ_pos n)))) r.2.2.1
noncomputable def bltL : List (Str × Value) := [(Str.ofString "len", .builtin "len"), (Str.ofString "sum", .builtin "sum"), (Str.ofString "min", .builtin "min"), (Str.ofString "sorted", .builtin "sorted"), (Str.ofString "str", .type "str"), (Str.ofString "range", .type "range"), (Str.ofString "reversed", .type "reversed"), (Str.ofString "object", .type "object"), (Str.ofString "enumerate", .type "enumerate"), (Str.ofString "isinstance", .builtin "isinstance"), (Str.ofString "IndexError", .type "IndexError")]
structure CxOk2 (C : Cx) : Prop extends CxOk C where
  blt : ∀ p ∈ bltL, C.mg p.1 = none ∧ C.mb p.1 = some p.2
  fn : ∀ (f : Nat) (id : Str), fnms[f]? = some id → ∃ a o fd, C.mg id = some (.ref a) ∧ C.h₀.get? a = some o ∧ o.data = .func fd
noncomputable def KV (C : Cx) (fm : Fm) (fz : Fz) (I : Im) (as : List Addr) (vars : Vars) (c : Cells) (v : V) (Q : Value → Shared → Prop) : Prop :=
  ∀ I' s' x, I.le I' → St C fm fz I' as vars c s' → VR I' as v x → Q x s'
noncomputable def KT (C : Cx) (fm : Fm) (fz : Fz) (I : Im) (as : List Addr) (vars : Vars) (c : Cells) (b : Bool) (Q : Bool → Shared → Prop) : Prop :=
  ∀ I' s', I.le I' → St C fm fz I' as vars c s' → Q b s'
noncomputable def CallOk (C : Cx) (F : FT) (rank : Nat → Nat) (f : Nat) : Prop := ∀ {A : Around} {fz : Fz} {I : Im} {as : List Addr} {c : Cells} {s : Shared} {args : List V} {vals : List Value} {v : V} {c' : Cells} {Q : Value → Shared → Prop} {E : Value → Shared → Prop} {id : Str} {a : Addr},
  Room C (rank f) A → FlIn C fz none → Gd C fz I as c s → VRs I as args vals → F f args c = some (v, c') → 0 < f → fnms[f - 1]? = some id → C.mg id = some (.ref a) → (∀ I' s' x, I.le I' → Gd C fz I' as c' s' → VR I' as v x → Q x s') →
  wpAny (model C.prog C.w) A (call (.ref a) vals) Q E s
noncomputable def TwOk (C : Cx) (fm : Fm) : Prop := ∀ {A : Around} {fz : Fz} {I : Im} {as : List Addr} {vars : Vars} {c c1 : Cells} {s : Shared} {Q : Value → Shared → Prop} {E : Value → Shared → Prop} {id : Str} {p ap pos p1 : Pos} {la : Arguments} {lb : PySem.Expr} {sc : Scope} {y : PySem.Expr} {t : List Nat},
  Room C 1 A → St C fm fz I as vars c s → id = Str.ofString "_twin_re_1" → fm.nl.lookup id = some .globalImplicit → lamOk la sc p1 = true → starEach [y] fm.env = [(false, eval y fm.env)] → (ap.endLine == pos.line) = true → t.length ≤ 1000000 → bits t = true →
  (∀ {I1 : Im} {s1 : Shared} {Q1 : Value → Shared → Prop}, I.le I1 → St C fm fz I1 as vars c s1 → (∀ I' s' x, I1.le I' → St C fm fz I' as vars c1 s' → DR I' (.str t) x → Q1 x s') → wpAny (model C.prog C.w) A (eval y fm.env) Q1 E s1) →
  (∀ I' s' x, I.le I' → St C fm fz I' as vars c1 s' → DR I' (.str t) x → Q x s') →
  wpAny (model C.prog C.w) A (eval (.Call (.Attribute (.Name id p) (Str.ofString "sub") ap) [.Lambda la lb sc p1, y] [] pos) fm.env) Q E s
noncomputable def EvG (C : Cx) (A : Around) (fm : Fm) (fz : Fz) (I : Im) (as : List Addr) (vars : Vars) (s : Shared) (E : Value → Shared → Prop) (v : V) (c' : Cells) (e : PySem.Expr) : Prop :=
  ∀ Q, KV C fm fz I as vars c' v Q → wpAny (model C.prog C.w) A (eval e fm.env) Q E s
noncomputable def EvOk (C : Cx) (F : FT) (rank : Nat → Nat) (n : Nat) : Prop := ∀ {k : Nat} {tw : Bool} {me : ME} {e : PySem.Expr} {fm : Fm} {fz : Fz} {I : Im} {as : List Addr} {vars : Vars} {c : Cells} {s : Shared} {v : V} {c' : Cells} {A : Around} {Q : Value → Shared → Prop} {E : Value → Shared → Prop},
  chkE k tw fm.nl me e = true → (tw = true → TwOk C fm) → Room C n A → St C fm fz I as vars c s → ev F rank n me vars c = some (v, c') → KV C fm fz I as vars c' v Q → wpAny (model C.prog C.w) A (eval e fm.env) Q E s
noncomputable def TrOk (C : Cx) (F : FT) (rank : Nat → Nat) (n : Nat) : Prop := ∀ {k : Nat} {tw : Bool} {me : ME} {e : PySem.Expr} {fm : Fm} {fz : Fz} {I : Im} {as : List Addr} {vars : Vars} {c : Cells} {s : Shared} {v : V} {c' : Cells} {b : Bool} {A : Around} {Q : Bool → Shared → Prop} {E : Value → Shared → Prop},
  chkE k tw fm.nl me e = true → (tw = true → TwOk C fm) → Room C n A → St C fm fz I as vars c s → ev F rank n me vars c = some (v, c') → truth c' v = some b → KT C fm fz I as vars c' b Q → wpAny (model C.prog C.w) A (isTrue e fm.env (eval e fm.env)) Q E s
structure Wk (C : Cx) (F : FT) (rank : Nat → Nat) (n : Nat) (tw : Bool) (fm : Fm) (A : Around) : Prop where
  g : CxOk2 C
  H : EvOk C F rank n
  T : TrOk C F rank n
  tw : tw = true → TwOk C fm
  r : Room C n A
section
variable {C : Cx} {F : FT} {rank : Nat → Nat} {n : Nat} {k : Nat} {tw : Bool} {fm : Fm} {fz : Fz} {I : Im} {as : List Addr} {vars : Vars} {c : Cells} {s : Shared} {A : Around} {E : Value → Shared → Prop}
theorem Wk.e1 (Z : Wk C F rank n tw fm A) {me : ME} {e : PySem.Expr} {v : V} {c' : Cells} {Q : Value → Shared → Prop} (h : chkE k tw fm.nl me e = true) (t : St C fm fz I as vars c s) (he : ev F rank n me vars c = some (v, c')) (q : KV C fm fz I as vars c' v Q) :
    wpAny (model C.prog C.w) A (eval e fm.env) Q E s := Z.H h Z.tw Z.r t he q
theorem Wk.t1 (Z : Wk C F rank n tw fm A) {me : ME} {e : PySem.Expr} {v : V} {c' : Cells} {b : Bool} {Q : Bool → Shared → Prop} (h : chkE k tw fm.nl me e = true) (t : St C fm fz I as vars c s) (he : ev F rank n me vars c = some (v, c')) (hb : truth c' v = some b) (q : KT C fm fz I as vars c' b Q) :
    wpAny (model C.prog C.w) A (isTrue e fm.env (eval e fm.env)) Q E s := Z.T h Z.tw Z.r t he hb q
theorem chkE_flag {me : ME} {e : PySem.Expr} {nl : NL} (h : chkE k tw nl me e = true) : flagOk me e = true := by
  cases k with
  | zero => exact noT h
  | succ k => exact (an h).1
theorem starEach_plain {e : PySem.Expr} (h : isIx e 22 = false) (rest : List PySem.Expr) (env : Env) : starEach (e :: rest) env = (false, eval e env) :: starEach rest env := by
  cases e with
  | Starred => exact nomatch h
  | _ => rfl
theorem star_plain {me : ME} {e : PySem.Expr} {nl : NL} (h : chkE k tw nl me e = true) (rest : List PySem.Expr) (env : Env) : starEach (e :: rest) env = (false, eval e env) :: starEach rest env := starEach_plain ((Bool.not_eq_true' _).mp (an (chkE_flag h)).2) rest env
theorem KV.step {I1 : Im} {c' : Cells} {v : V} {Q : Value → Shared → Prop} (k : KV C fm fz I as vars c' v Q) (h : I.le I1) : KV C fm fz I1 as vars c' v Q := fun I' s' x hl t r => k I' s' x (h.trans hl) t r
theorem KT.step {I1 : Im} {c' : Cells} {b : Bool} {Q : Bool → Shared → Prop} (k : KT C fm fz I as vars c' b Q) (h : I.le I1) : KT C fm fz I1 as vars c' b Q := fun I' s' hl t => k I' s' (h.trans hl) t
theorem KV.toD {d : D} {Q : Value → Shared → Prop} (k : KV C fm fz I as vars c (.d d) Q) : KD C fm fz I as vars c d Q := k
theorem KV.toB {b : Bool} {Q : Value → Shared → Prop} (k : KV C fm fz I as vars c (.d (.bool b)) Q) : KB C fm fz I as vars c b Q := fun s' t => k I s' _ (Im.le.refl I) t (DR.mkBool (I := I) b)
theorem KV.here {v : V} {x : Value} {Q : Value → Shared → Prop} (k : KV C fm fz I as vars c v Q) (t : St C fm fz I as vars c s) (r : VR I as v x) : Q x s := k I s x (Im.le.refl I) t r
theorem Gd.glob {g : CxOk C} (t : Gd C fz I as c s) : s.heap.Ns mainGlobals C.mg := g.g.keeps fun b o e => t.rd b o (t.base b o e)
theorem Gd.bns {g : CxOk C} (t : Gd C fz I as c s) : s.heap.Ns builtinsNs C.mb := g.b.keeps fun b o e => t.rd b o (t.base b o e)
theorem eval_glob {id : Str} {p : Pos} {v : Value} {Q : Value → Shared → Prop} (g : CxOk C) (t : St C fm fz I as vars c s) (hl : fm.nl.lookup id = some .globalImplicit) (hm : C.mg id = some v) (hd : (id == ("__debug__" : Str)) = false) (h : Q v s) :
    wpAny (model C.prog C.w) A (eval (.Name id p) fm.env) Q E s :=
  Calls.Name_function_global t.ok.kind (t.ok.names id _ hl (by decide)) (Calls.loadGlobal_global (by rw [t.ok.glob]; exact t.toGd.glob (g := g)) hm h) hd
theorem blt_debug {i : Nat} {p : Str × Value} (h : bltL[i]? = some p) : (p.1 == ("__debug__" : Str)) = false :=
  (Bool.not_eq_true' _).mp (List.all_eq_true.mp (show bltL.all (fun p => !(p.1 == ("__debug__" : Str))) = true by decide +kernel) _ (List.mem_of_getElem? h))
theorem eval_blt {id : Str} {p : Pos} {v : Value} {i : Nat} {Q : Value → Shared → Prop} (g : CxOk2 C) (t : St C fm fz I as vars c s) (hl : fm.nl.lookup id = some .globalImplicit) (hm : bltL[i]? = some (id, v)) (h : Q v s) :
    wpAny (model C.prog C.w) A (eval (.Name id p) fm.env) Q E s :=
  Calls.Name_function_global t.ok.kind (t.ok.names id _ hl (by decide)) (Calls.loadGlobal_builtin (by rw [t.ok.glob]; exact t.toGd.glob (g := g.toCxOk)) (g.blt _ (List.mem_of_getElem? hm)).1 (by rw [t.ok.bi]; exact t.toGd.bns (g := g.toCxOk)) (g.blt _ (List.mem_of_getElem? hm)).2 h) (blt_debug hm)
theorem Wk.e2 (Z : Wk C F rank n tw fm A) {ma mb : ME} {a b : PySem.Expr} {x y : V} {c1 c2 : Cells} {Q : Value → Value → Shared → Prop} (ha : chkE k tw fm.nl ma a = true) (hb : chkE k tw fm.nl mb b = true) (t : St C fm fz I as vars c s)
    (h1 : ev F rank n ma vars c = some (x, c1)) (h2 : ev F rank n mb vars c1 = some (y, c2)) (q : ∀ I' s' vx vy, I.le I' → St C fm fz I' as vars c2 s' → VR I' as x vx → VR I' as y vy → Q vx vy s') :
    wpAny (model C.prog C.w) A (eval a fm.env) (fun vx s₁ => wpAny (model C.prog C.w) A (eval b fm.env) (fun vy s₂ => Q vx vy s₂) E s₁) E s :=
  Z.e1 ha t h1 fun I1 s1 vx l1 t1 r1 => Z.e1 hb t1 h2 fun I2 s2 vy l2 t2 r2 => q I2 s2 vx vy (l1.trans l2) t2 (r1.mono l2) r2
theorem evs_cons {gg : ME → Cells → Option (V × Cells)} {e : ME} {es : List ME} {c : Cells} {vs : List V} {c' : Cells} {G : List V → Prop} (h : evs gg (e :: es) c = some (vs, c')) (k : ∀ v c1 ws, gg e c = some (v, c1) → evs gg es c1 = some (ws, c') → G (v :: ws)) : G vs :=
  bind_some' h fun x h1 h => bind_some' h fun y h2 h => by cases h; exact k x.1 x.2 y.1 h1 h2
theorem evs_ok (Z : Wk C F rank n tw fm A) {pos : Pos} {es : List ME} : ∀ {xs : List PySem.Expr} {I : Im} {c : Cells} {s : Shared} {vs : List V} {c' : Cells} {Q : List Value → Shared → Prop}, chkL (chkE k tw fm.nl) es xs = true → St C fm fz I as vars c s →
    evs (fun e c => ev F rank n e vars c) es c = some (vs, c') → (∀ I' s' vals, I.le I' → St C fm fz I' as vars c' s' → VRs I' as vs vals → Q vals s') → wpAny (model C.prog C.w) A (spliced (backTo pos (starEach xs fm.env))) Q E s := by
  induction es with
  | nil => intro xs I c s vs c' Q h t he q; cases List.isEmpty_iff.mp h; cases he; exact Calls.spliced_nil (q I s [] (Im.le.refl I) t rfl)
  | cons m ms ih => intro xs I c s vs c' Q h t he q; cases xs with
    | nil => exact noT h
    | cons x xs =>
      rw [star_plain (an h).1]
      exact evs_cons (G := fun vs => (∀ I' s' vals, I.le I' → St C fm fz I' as vars c' s' → VRs I' as vs vals → Q vals s') → _) he (fun v c1 ws h1 h2 q =>
        Calls.spliced_cons (Z.e1 (an h).1 t h1 fun I1 s1 vx l1 t1 r1 => ih (an h).2 t1 h2 fun I2 s2 vals l2 t2 r2 => q I2 s2 _ (l1.trans l2) t2 ⟨vx, vals, rfl, r1.mono l2, r2⟩)) q
theorem star_any {nl : NL} {es : List ME} : ∀ {xs : List PySem.Expr} {pos : Pos} {env : Env}, chkL (chkE k tw nl) es xs = true → (backTo pos (starEach xs env)).any (·.1) = false := by
  induction es with
  | nil => intro xs pos env h; cases List.isEmpty_iff.mp h; rfl
  | cons m ms ih => intro xs pos env h; cases xs with
    | nil => exact noT h
    | cons x xs => rw [star_plain (an h).1]; exact ih (an h).2
theorem dsOf_ok {l : List V} : ∀ {ds : List D} {vals : List Value}, dsOf l = some ds → VRs I as l vals → DRs I ds vals := by
  induction l with
  | nil => intro ds vals h r; cases h; cases r; exact .nil
  | cons x l ih => intro ds vals h r; obtain ⟨v, vr, rfl, r1, r2⟩ := r; exact bind_some' h fun d h1 h => map_some' h fun ds h2 => ⟨r1.toD (dOf_is h1), ih h2 r2⟩
theorem VRs.length {l : List V} : ∀ {vals : List Value}, VRs I as l vals → vals.length = l.length := by
  induction l with
  | nil => intro vals r; cases r; rfl
  | cons x l ih => intro vals r; obtain ⟨v, vr, rfl, r1, r2⟩ := r; exact congrArg (· + 1) (ih r2)
theorem call_blt1 (Z : Wk C F rank n tw fm A) {ma : ME} {e : PySem.Expr} {x : V} {c1 : Cells} {s0 : Str} {bid : String} (i : Nat) {Q : Value → Shared → Prop} (h : call1 fm.nl s0 e (chkE k tw fm.nl ma) = true) (hm : bltL[i]? = some (s0, .builtin bid)) (t : St C fm fz I as vars c s)
    (h1 : ev F rank n ma vars c = some (x, c1)) (q : ∀ I' s' vx, I.le I' → St C fm fz I' as vars c1 s' → VR I' as x vx → wpAny (model C.prog C.w) A (call (.builtin bid) [vx]) Q E s') :
    wpAny (model C.prog C.w) A (eval e fm.env) Q E s :=
  call1_elim h fun p a pos hl ha => Call_ (eval_blt Z.g t hl hm (PyProof.Rows.callWith_builtin1 (Calls.spliced_cons (x := eval a fm.env) (rest := []) (Z.e1 ha t h1 fun I1 s1 vx l1 t1 r1 => Calls.spliced_nil (q I1 s1 vx l1 t1 r1)) |> fun h => by rw [star_plain ha]; exact h) (star_plain ha _ _)))
theorem call_typ1 (Z : Wk C F rank n tw fm A) {ma : ME} {e : PySem.Expr} {x : V} {c1 : Cells} {s0 : Str} {bid : String} (i : Nat) {Q : Value → Shared → Prop} (h : call1 fm.nl s0 e (chkE k tw fm.nl ma) = true) (hm : bltL[i]? = some (s0, .type bid)) (t : St C fm fz I as vars c s)
    (h1 : ev F rank n ma vars c = some (x, c1)) (q : ∀ I' s' vx, I.le I' → St C fm fz I' as vars c1 s' → VR I' as x vx → wpAny (model C.prog C.w) A (call (.type bid) [vx]) Q E s') :
    wpAny (model C.prog C.w) A (eval e fm.env) Q E s :=
  call1_elim h fun p a pos hl ha => Call_ (eval_blt Z.g t hl hm (by
    rw [star_plain ha]
    exact PySem.callWith_type rfl (Calls.evalArgs_plain (Calls.spliced_cons (Z.e1 ha t h1 fun I1 s1 vx l1 t1 r1 => Calls.spliced_nil (q I1 s1 vx l1 t1 r1))))))
theorem call_blt2 (Z : Wk C F rank n tw fm A) {ma mb : ME} {a b : PySem.Expr} {x y : V} {c1 c2 : Cells} {s0 : Str} {bid : String} (i : Nat) {p pos : Pos} {Q : Value → Shared → Prop} (hl : fm.nl.lookup s0 = some .globalImplicit) (hm : bltL[i]? = some (s0, .builtin bid)) (ha : chkE k tw fm.nl ma a = true) (hb : chkE k tw fm.nl mb b = true) (t : St C fm fz I as vars c s)
    (h1 : ev F rank n ma vars c = some (x, c1)) (h2 : ev F rank n mb vars c1 = some (y, c2)) (q : ∀ I' s' vx vy, I.le I' → St C fm fz I' as vars c2 s' → VR I' as x vx → VR I' as y vy → wpAny (model C.prog C.w) A (call (.builtin bid) [vx, vy]) Q E s') :
    wpAny (model C.prog C.w) A (eval (.Call (.Name s0 p) [a, b] [] pos) fm.env) Q E s := by
  refine Call_ (eval_blt Z.g t hl hm ?_)
  rw [star_plain ha, star_plain hb]
  refine Calls.callWith_builtin rfl (Calls.evalArgs_plain (Calls.spliced_cons ?_))
  exact wpAny_mono (Z.e2 ha hb t h1 h2 q) (fun v s1 h => Calls.spliced_cons (wpAny_mono h (fun w s2 h2 => Calls.spliced_nil h2) fun _ _ e => e)) fun _ _ e => e
end
end Mine
end
section
open PySem PySem.W PyProof.Rows PySem.SeqAt
set_option maxRecDepth 100000
namespace Mine
noncomputable def CmpOk (C : Cx) (F : FT) (rank : Nat → Nat) (n : Nat) : Prop := ∀ {k : Nat} {tw : Bool} {me : ME} {e : PySem.Expr} {fm : Fm} {fz : Fz} {I : Im} {as : List Addr} {vars : Vars} {c : Cells} {s : Shared} {v : V} {c' : Cells} {A : Around} {Q : Value → Shared → Prop} {E : Value → Shared → Prop},
  isCompM me = true → chkE k tw fm.nl me e = true → (tw = true → TwOk C fm) → Room C n A → St C fm fz I as vars c s → ev F rank n me vars c = some (v, c') → KV C fm fz I as vars c' v Q → wpAny (model C.prog C.w) A (eval e fm.env) Q E s
section
variable {C : Cx} {F : FT} {rank : Nat → Nat} {n : Nat} {k : Nat} {tw : Bool} {fm : Fm} {fz : Fz} {I : Im} {as : List Addr} {vars : Vars} {c : Cells} {s : Shared} {A : Around} {E : Value → Shared → Prop}
theorem cs {α β : Type} {o : Option α} {f : α → Option β} {b : β} (h : o.bind f = some b) : ∃ a, o = some a ∧ f a = some b := Option.bind_eq_some_iff.mp h
theorem cm {α β : Type} {o : Option α} {f : α → β} {b : β} (h : o.map f = some b) : ∃ a, o = some a ∧ f a = b := Option.map_eq_some_iff.mp h
theorem ite_some' {α : Type} {b : Bool} {x : Option α} {y : α} (h : (if b = true then x else none) = some y) : b = true ∧ x = some y := ifB h (fun h1 h2 => ⟨h1, h2⟩) fun _ => noS
theorem fnms_debug {x : Nat} {id : Str} (e : fnms[x]? = some id) : (id == ("__debug__" : Str)) = false :=
  (Bool.not_eq_true' _).mp (List.all_eq_true.mp (show fnms.all (fun id => !(id == ("__debug__" : Str))) = true by decide +kernel) id (List.mem_of_getElem? e))
theorem recv_base {o : PySem.Expr} (h : recvOk o = true) (name : Str) (env : Env) : attributeBase o name env (eval o env) = eval o env := by
  cases o with
  | Call => exact noT h
  | _ => rfl
theorem evs_length {gg : ME → Cells → Option (V × Cells)} {es : List ME} : ∀ {c c' : Cells} {vs : List V}, evs gg es c = some (vs, c') → vs.length = es.length := by
  induction es with
  | nil => intro c c' vs h; cases h; rfl
  | cons m ms ih => intro c c' vs h; exact evs_cons (G := fun vs => vs.length = ms.length + 1) h fun v c1 ws h1 h2 => congrArg (· + 1) (ih h2)
section
variable {α : Type} {w : α → D} {gg : EvT} {a b : ME} {v : V} {c' : Cells} {G : V → Cells → Prop}
theorem u1_elim {f : V → Cells → Option α} (h : u1 w gg a vars c f = some (v, c')) (k : ∀ x c1 r, gg a vars c = some (x, c1) → f x c1 = some r → G (.d (w r)) c1) : G v c' :=
  bind_some' h fun x h1 h => map_some' (G := fun z : V × Cells => G z.1 z.2) h fun r h2 => k x.1 x.2 r h1 h2
theorem b2_elim {f : V → V → Cells → Option α} (h : b2 w gg a b vars c f = some (v, c')) (k : ∀ x c1 y c2 r, gg a vars c = some (x, c1) → gg b vars c1 = some (y, c2) → f x y c2 = some r → G (.d (w r)) c2) : G v c' :=
  bind_some' h fun x h1 h => bind_some' h fun y h2 h => map_some' (G := fun z : V × Cells => G z.1 z.2) h fun r h3 => k x.1 x.2 y.1 y.2 r h1 h2 h3
theorem t1_elim {f : V → Bool → Cells → Option (V × Cells)} {G : Prop} (h : t1 gg a vars c f = some (v, c')) (k : ∀ x c1 b, gg a vars c = some (x, c1) → truth c1 x = some b → f x b c1 = some (v, c') → G) : G :=
  bind_some' h fun x h1 h => bind_some' h fun b h2 h => k x.1 x.2 b h1 h2 h
theorem es_elim {f : List D → Cells → Option (V × Cells)} {l : List ME} {G : Prop} (h : es f gg l vars c = some (v, c')) (k : ∀ vs c1 ds, evs (fun e c => gg e vars c) l c = some (vs, c1) → dsOf vs = some ds → f ds c1 = some (v, c') → G) : G :=
  bind_some' h fun x h1 h => bind_some' h fun b h2 h => k x.1 x.2 b h1 h2 h
theorem pure_elim {G : V → Cells → Prop} {v0 : V} (h : some (v0, c) = some (v, c')) (k : G v0 c) : G v c' := by cases h; exact k
end
theorem neg_ok {i : Int} {u : Tok} {Q : Value → Shared → Prop} (t : St C fm fz I as vars c s) (q : KD C fm fz I as vars c (.int (-i)) Q) : wpAny (model C.prog C.w) A (unaryOp .USub (.int i u)) Q E s :=
  PyProof.Rows.neg_int (q.int t (Nat.succ_pos _))
theorem parts_ok (Z : Wk C F rank n tw fm A) {es : List ME} : ∀ {xs : List PySem.Expr} {I : Im} {c : Cells} {s : Shared} {vs : List V} {ds : List D} {ts : List (List Nat)} {c' : Cells} {out : List Nat} {Q : Value → Shared → Prop}, chkL (chkPart (chkE k tw fm.nl)) es xs = true → St C fm fz I as vars c s →
    evs (fun e c => ev F rank n e vars c) es c = some (vs, c') → dsOf vs = some ds → strsOf ds = some ts → (out ++ ts.flatten).length ≤ 1000000 → KD C fm fz I as vars c' (.str (out ++ ts.flatten)) Q → wpAny (model C.prog C.w) A (joinParts (mkS out) (evalEach xs fm.env)) Q E s := by
  induction es with
  | nil =>
    intro xs I c s vs ds ts c' out Q h t he h2 h3 hl q
    cases List.isEmpty_iff.mp h; cases he; cases h2; cases h3
    rw [List.flatten_nil, List.append_nil] at q hl
    exact joinParts_nil (q.str t (Nat.succ_pos _) hl) (small (mkS_length out ▸ hl))
  | cons m ms ih =>
    intro xs I c s vs ds ts c' out Q h t he h2 h3 hl q
    cases xs with
    | nil => exact noT h
    | cons x xs =>
    refine evs_cons (G := fun vs => dsOf vs = some ds → _) he (fun v c1 ws e1 e2 h2 => bind_some' h2 fun d h4 h2 => ?_) h2
    obtain ⟨ds', e3, rfl⟩ := cm h2
    refine bind_some' h3 fun tx h5 h3 => ?_
    obtain ⟨ts', e4, rfl⟩ := cm h3
    rw [List.flatten_cons, ← List.append_assoc] at hl q
    have hn : (mkS out ++ mkS tx).length ≤ sizeLine := by
      rw [mkS_append, mkS_length]
      exact small (Nat.le_trans (by rw [List.length_append (as := out ++ tx)]; exact Nat.le_add_right ..) hl)
    have next : ∀ I1 s1, I.le I1 → St C fm fz I1 as vars c1 s1 → (mkS out ++ mkS tx).length ≤ sizeLine ∧ wpAny (model C.prog C.w) A (joinParts (mkS out ++ mkS tx) (evalEach xs fm.env)) Q E s1 := fun I1 s1 l1 t1 =>
      ⟨hn, by rw [mkS_append]; exact ih (an h).2 t1 e2 e3 e4 hl fun I2 s2 y l2 t2 r2 => q I2 s2 y (l1.trans l2) t2 r2⟩
    have h1 := (an h).1
    refine joinParts_cons ?_
    unfold chkPart at h1
    cases hf : acc wFmt x with
    | some y =>
      rw [hf] at h1
      rw [acc_is hf, dc (an (an h1).1).1, Option.isNone_iff_eq_none.mp (an (an h1).1).2]
      exact FormattedValue_plain (Z.e1 (an h1).2 t e1 fun I1 s1 vx l1 t1 r1 => (r1.toD (dOf_is h4)).ofStr h5 fun u ht =>
        wpAny_pos t1.pos (formatField_str (fun t' tk hp => next I1 _ l1 (t1.tok hp)) (small (mkS_length tx ▸ ht))))
    | none =>
      rw [hf] at h1
      exact conS_elim (an h1).1 (fun i u p _ h => Z.e1 h t e1 fun I1 s1 vx l1 t1 r1 => (r1.toD (dOf_is h4)).ofStr h5 fun u ht => next I1 s1 l1 t1) (an h1).2
noncomputable def Fz.join (fz : Fz) (mu : List Addr) (h : Heap) : Fz := fun a => match fz a with
  | some o => some o
  | none => if a ∈ mu then h.get? a else none
section
variable {fz : Fz} {W : List Addr} {h : Heap} {a : Addr} {o : Obj}
theorem jn_of (e : fz a = some o) : fz.join W h a = some o := by unfold Fz.join; rw [e]
theorem jn_in' (n : fz a = none) (m : a ∈ W) : fz.join W h a = h.get? a := by unfold Fz.join; rw [n]; exact if_pos m
theorem jn_out (n : fz a = none) (m : a ∉ W) : fz.join W h a = none := by unfold Fz.join; rw [n]; exact if_neg m
theorem jn_in (n : fz a = none) (m : a ∈ W) (e : h.get? a = some o) : fz.join W h a = some o := (jn_in' n m).trans e
theorem jn_elim {G : Prop} (e : fz.join W h a = some o) (k1 : fz a = some o → G) (k2 : fz a = none → a ∈ W → h.get? a = some o → G) : G := by
  cases q : fz a with
  | some o' => cases (jn_of q).symm.trans e; exact k1 q
  | none =>
    by_cases m : a ∈ W
    · exact k2 q m ((jn_in' q m).symm.trans e)
    · exact noS ((jn_out q m).symm.trans e)
theorem jn_fz (e : fz.join W h a = none) : fz a = none := by
  cases q : fz a with
  | some o' => exact noS (e.symm.trans (jn_of q))
  | none => rfl
theorem jn_P (e : fz a ≠ none) : fz.join W h a ≠ none := fun q => e (jn_fz q)
end
theorem St.hold (t : St C fm fz I as vars c s) : Gd C (fz.join fm.mu s.heap) I as c s where
  rd := t.rd
  fr a o hP e := jn_elim e (t.fr a o hP) fun _ _ => FzAt.of
  dj a o e := jn_elim e (t.dj a o) fun _ hm _ => (t.mu a hm).1
  fas a ha := jn_out (t.fas a ha) fun hm => (t.mu a hm).2.2.1 ha
  base := t.base
  cel := t.cel
  gens := t.gens
  os := t.os
  pos := t.pos
  tfz := jn_P t.tfz
  tab := t.tab
theorem St.flHold (t : St C fm fz I as vars c s) : FlIn C (fz.join fm.mu s.heap) none := fun env he => by
  obtain ⟨h1, a, h2, h3⟩ := t.fls env he
  refine ⟨h1, a, h2, .inl (h3.elim (fun ⟨o, e, r⟩ => ⟨o, jn_of e, r⟩) fun e => ?_)⟩
  cases e
  obtain ⟨m, ⟨o, es, ep, e1, e2, _⟩, _⟩ := t.vr
  exact ⟨o, jn_in (t.mu _ t.ok.loc).2.1 t.ok.loc e1, fun vs h => nomatch e2.symm.trans h⟩
theorem St.back {I' : Im} {c' : Cells} {s' : Shared} (t : St C fm fz I as vars c s) (l : I.le I') (g : Gd C (fz.join fm.mu s.heap) I' as c' s') : St C fm fz I' as vars c' s' := by
  have hmu : ∀ a ∈ fm.mu, ∀ o, s.heap.get? a = some o → ∃ o', s'.heap.get? a = some o' ∧ o'.data = o.data := fun a ha o e =>
    (g.fr a o (t.neP (t.mu a ha).2.1) (jn_in (t.mu a ha).2.1 ha e)).data
  refine { toGd := g.weak (fun a o => jn_of) t.tfz, ok := t.ok, mu := fun a ha => ?_, vr := ?_, fls := t.fls }
  · obtain ⟨_, q2, q3, o, q4, q5⟩ := t.mu a ha
    obtain ⟨o2, p1, p2⟩ := hmu a ha o q4
    exact ⟨g.dj a o (jn_in q2 ha q4), q2, q3, o2, p1, q5.imp id fun ⟨v, e⟩ => ⟨v, p2.trans e⟩⟩
  · obtain ⟨m, ⟨o, es, ep, e1, e2⟩, v⟩ := t.vr
    obtain ⟨o2, p1, p2⟩ := hmu _ t.ok.loc o e1
    refine ⟨m, ⟨o2, es, ep, p1, p2.trans e2.1, e2.2⟩, fun x w nm kk hx hn hk hv => ?_⟩
    obtain ⟨y, r, z⟩ := v x w nm kk hx hn hk hv
    refine ⟨y, r.mono l, z.keep fun b hb o hcl e => hb.elim (fun hb => hmu b hb o e) fun ⟨o', hb⟩ => ?_⟩
    have hP := t.notTab e fun ps h => let ⟨_, hv⟩ := hcl; nomatch hv.symm.trans h
    obtain ⟨o1, e1, d1⟩ := (t.fr b o' hP hb).data
    obtain ⟨o2, e2, d2⟩ := (g.fr b _ hP (jn_of hb)).data
    exact ⟨o2, e2, d2.trans (d1.symm.trans (congrArg Obj.data (Option.some.inj (e1.symm.trans e))))⟩
theorem call_in_frame {f : Nat} {args : List V} {vals : List Value} {v : V} {c' : Cells} {Q : Value → Shared → Prop} {id : Str} {a : Addr} (H : CallOk C F rank f) (r : Room C (rank f) A) (t : St C fm fz I as vars c s) (rv : VRs I as args vals) (he : F f args c = some (v, c'))
    (h0 : 0 < f) (h1 : fnms[f - 1]? = some id) (h2 : C.mg id = some (.ref a)) (q : KV C fm fz I as vars c' v Q) : wpAny (model C.prog C.w) A (call (.ref a) vals) Q E s :=
  H r t.flHold t.hold rv he h0 h1 h2 fun I' s' x l g rx => q I' s' x l (t.back l g) rx
noncomputable abbrev WE (C : Cx) (A : Around) (fm : Fm) (Q E : Value → Shared → Prop) (s : Shared) (e : PySem.Expr) : Prop := wpAny (model C.prog C.w) A (eval e fm.env) Q E s
theorem varOk_is {nl : NL} {x : Nat} {id : Str} {G : Prop} (h : varOk nl x id = true) (k : ∀ kk, nms[x]? = some id → nl.lookup id = some kk → isVarK kk = true → G) : G :=
  any_is (an h).2 fun kk e h' => k kk (dc (an h).1) e h'
theorem eval_v (t : St C fm fz I as vars c s) {x : Nat} {id : Str} {p : Pos} {v : V} {Q : Value → Shared → Prop} (h : varOk fm.nl x id = true) (hv : vget vars x = some v) (q : ∀ y, VR I as v y → Q y s) : wpAny (model C.prog C.w) A (eval (.Name id p) fm.env) Q E s :=
  varOk_is h fun kk h1 h2 h3 => eval_var t hv h1 h2 h3 q
theorem bits2_elim {e : PySem.Expr} {f : ME → PySem.Expr → Bool} {op : PySem.BoolOp} {a b : ME} {G : PySem.Expr → Prop} (h : bits2 f op a b e = true)
    (k1 : ∀ x y p, f a x = true → f b y = true → G (.BoolOp op [x, y] p)) (k2 : ∀ x y z r p, f a x = true → f b (.BoolOp op (y :: z :: r) p) = true → G (.BoolOp op (x :: y :: z :: r) p)) : G e :=
  acc_any wBool h fun x h => by
    rw [dc (an h).1]
    have h := (an h).2
    generalize x.2.1 = l at h ⊢
    cases l with
    | nil => exact noT h
    | cons v r => cases r with
      | nil => exact noT h
      | cons w r => cases r with
        | nil => exact k1 _ _ _ (an h).1 (an h).2
        | cons u r => exact k2 _ _ _ _ _ (an h).1 (an h).2
section
variable {e : PySem.Expr} {v : V} {c' : Cells} (Z : Wk C F rank n tw fm A) (t : St C fm fz I as vars c s)
include Z t
theorem ok_bin {o : BO} {a b : ME} (h : chkB (chkE k) tw fm.nl (.bin o a b) e = true) (he : b2 id (ev F rank n) a b vars c (fun x y c => binV c o x y) = some (v, c')) : EvG C A fm fz I as vars s E v c' e :=
  acc_any wBin h fun x h Q => b2_elim (G := fun v c' => KV C fm fz I as vars c' v Q → _) he fun x1 c1 y c2 d e1 e2 e3 q => wpAny_BinOp (Z.e2 (an (an h).1).2 (an h).2 t e1 e2 fun I1 s1 vx vy l1 t1 r1 r2 => (dc (an (an h).1).1).symm ▸ binV_ok t1 e3 r1 r2 (q.step l1).toD)
theorem ok_neg {a : ME} (h : chkB (chkE k) tw fm.nl (.neg a) e = true) (he : u1 .int (ev F rank n) a vars c (fun x _ => (optInt x).map fun i => -i) = some (v, c')) : EvG C A fm fz I as vars s E v c' e :=
  acc_any wUn h fun x h Q => u1_elim (G := fun v c' => KV C fm fz I as vars c' v Q → _) he fun y c1 r e1 e2 => map_some' e2 fun i e3 q => by
    rw [dc (an h).1]; exact wpAny_UnaryOp (Z.e1 (an h).2 t e1 fun I1 s1 vx l1 t1 r1 => r1.int e3 fun u => neg_ok t1 (q.step l1).toD)
theorem ok_not {a : ME} (h : chkB (chkE k) tw fm.nl (.not a) e = true) (he : u1 .bool (ev F rank n) a vars c (fun x c => (truth c x).map not) = some (v, c')) : EvG C A fm fz I as vars s E v c' e :=
  acc_any wUn h fun x h Q => u1_elim (G := fun v c' => KV C fm fz I as vars c' v Q → _) he fun y c1 r e1 e2 => map_some' e2 fun i e3 q => by
    rw [dc (an h).1]; exact wpAny_UnaryOp (Z.e1 (an h).2 t e1 fun I1 s1 vx l1 t1 r1 => not_of (truth_ok t1 e3 r1 fun s2 t2 => (q.step l1).toB s2 t2))
omit t in
theorem and_go {b : Bool} {e' : PySem.Expr} {a : ME} {x : V} {c1 : Cells} {I1 : Im} {s1 : Shared} {vx : Value} {Q : Value → Shared → Prop} (hb : chkE k tw fm.nl a e' = true) (he : (if b = true then ev F rank n a vars c1 else some (x, c1)) = some (v, c')) (l1 : I.le I1) (t1 : St C fm fz I1 as vars c1 s1) (r1 : VR I1 as x vx) (q : KV C fm fz I as vars c' v Q) :
    if b = true then wpAny (model C.prog C.w) A (eval e' fm.env) Q E s1 else Q vx s1 := by
  cases b with
  | true => exact Z.e1 hb t1 he (q.step l1)
  | false => cases he; exact (q.step l1).here t1 r1
omit t in
theorem or_go {b : Bool} {e' : PySem.Expr} {a : ME} {x : V} {c1 : Cells} {I1 : Im} {s1 : Shared} {vx : Value} {Q : Value → Shared → Prop} (hb : chkE k tw fm.nl a e' = true) (he : (if b = true then some (x, c1) else ev F rank n a vars c1) = some (v, c')) (l1 : I.le I1) (t1 : St C fm fz I1 as vars c1 s1) (r1 : VR I1 as x vx) (q : KV C fm fz I as vars c' v Q) :
    if b = true then Q vx s1 else wpAny (model C.prog C.w) A (eval e' fm.env) Q E s1 := by
  cases b with
  | false => exact Z.e1 hb t1 he (q.step l1)
  | true => cases he; exact (q.step l1).here t1 r1
theorem ok_and {a b : ME} (h : chkB (chkE k) tw fm.nl (.and a b) e = true) (he : t1 (ev F rank n) a vars c (fun x t c => if t then ev F rank n b vars c else some (x, c)) = some (v, c')) : EvG C A fm fz I as vars s E v c' e :=
  fun Q q => t1_elim he fun x c1 b' e1 e2 he => bits2_elim (G := WE C A fm Q E s) h
    (fun x y p ha hb => BoolOp_and (Z.e1 ha t e1 fun I1 s1 vx l1 t1 r1 => truth_ok t1 e2 r1 fun s2 t2 => and_go Z (e' := y) (E := E) hb he l1 t2 r1 q))
    fun x y z r p ha hb => BoolOp_and (Z.e1 ha t e1 fun I1 s1 vx l1 t1 r1 => truth_ok t1 e2 r1 fun s2 t2 => and_go Z hb he l1 t2 r1 q)
theorem ok_or {a b : ME} (h : chkB (chkE k) tw fm.nl (.or a b) e = true) (he : t1 (ev F rank n) a vars c (fun x t c => if t then some (x, c) else ev F rank n b vars c) = some (v, c')) : EvG C A fm fz I as vars s E v c' e :=
  fun Q q => t1_elim he fun x c1 b' e1 e2 he => bits2_elim (G := WE C A fm Q E s) h
    (fun x y p ha hb => BoolOp_or (Z.e1 ha t e1 fun I1 s1 vx l1 t1 r1 => truth_ok t1 e2 r1 fun s2 t2 => or_go Z (e' := y) (E := E) hb he l1 t2 r1 q))
    fun x y z r p ha hb => BoolOp_or (Z.e1 ha t e1 fun I1 s1 vx l1 t1 r1 => truth_ok t1 e2 r1 fun s2 t2 => or_go Z hb he l1 t2 r1 q)
theorem ok_cmp (hu : A.units < cLine) {o : CO} {a b : ME} (h : chkB (chkE k) tw fm.nl (.cmp o a b) e = true) (he : b2 .bool (ev F rank n) a b vars c (fun x y c => cmpV c o x y) = some (v, c')) : EvG C A fm fz I as vars s E v c' e :=
  acc_any wCmp h fun x h Q => hd1_any (G := fun z => _ → wpAny _ _ (eval (.Compare _ z _ _) _) _ _ _) h fun op h => hd1_any (G := fun z => _ → wpAny _ _ (eval (.Compare _ _ z _) _) _ _ _) h fun rr h => b2_elim (G := fun v c' => KV C fm fz I as vars c' v Q → _) he fun x1 c1 y c2 d e1 e2 e3 q =>
    wpAny_Compare1 (Z.e2 (an (an h).1).2 (an h).2 t e1 e2 fun I1 s1 vx vy l1 t1 r1 r2 => (dc (an (an (an h).1).1).1).symm ▸ cmpV_ok hu t1 e3 r1 r2 (q.step l1).toB) ((Bool.not_eq_true' _).mp (an (an (an h).1).1).2)
omit t in
theorem ite_go {b : Bool} {e1 e2 : PySem.Expr} {x y : ME} {c1 : Cells} {I1 : Im} {s1 : Shared} {Q : Value → Shared → Prop} (h1 : chkE k tw fm.nl x e1 = true) (h2 : chkE k tw fm.nl y e2 = true) (he : (if b = true then ev F rank n x vars c1 else ev F rank n y vars c1) = some (v, c')) (l1 : I.le I1) (t1 : St C fm fz I1 as vars c1 s1) (q : KV C fm fz I as vars c' v Q) :
    if b = true then wpAny (model C.prog C.w) A (eval e1 fm.env) Q E s1 else wpAny (model C.prog C.w) A (eval e2 fm.env) Q E s1 := by
  cases b with
  | true => exact Z.e1 h1 t1 he (q.step l1)
  | false => exact Z.e1 h2 t1 he (q.step l1)
theorem ok_ite {x a b : ME} (h : chkB (chkE k) tw fm.nl (.ite x a b) e = true) (he : t1 (ev F rank n) x vars c (fun _ t c => if t then ev F rank n a vars c else ev F rank n b vars c) = some (v, c')) : EvG C A fm fz I as vars s E v c' e :=
  acc_any wIf h fun y h Q q => t1_elim he fun x c1 b' e1 e2 he => wpAny_IfExp (Z.t1 (an (an h).1).1 t e1 e2 fun I1 s1 l1 t1 => ite_go Z (an (an h).1).2 (an h).2 he l1 t1 q)
theorem ok_sub {a i : ME} (h : chkB (chkE k) tw fm.nl (.sub a i) e = true) (he : b2 id (ev F rank n) a i vars c (fun x y c => subV c x y) = some (v, c')) : EvG C A fm fz I as vars s E v c' e :=
  acc_any wSub h fun x h Q => b2_elim (G := fun v c' => KV C fm fz I as vars c' v Q → _) he fun x1 c1 y c2 d e1 e2 e3 q => Subscript_ (Z.e2 (an (an h).1).2 (an h).2 t e1 e2 fun I1 s1 vx vy l1 t1 r1 r2 => subV_ok ((Bool.not_eq_true' _).mp (an (an h).1).1) t1 e3 r1 r2 (q.step l1).toD)
theorem ok_rev {a : ME} (h : chkB (chkE k) tw fm.nl (.rev a) e = true) (he : u1 .list (ev F rank n) a vars c (fun x c => (listOfV c x).map List.reverse) = some (v, c')) : EvG C A fm fz I as vars s E v c' e :=
  acc_any wSub h fun x h Q => u1_elim (G := fun v c' => KV C fm fz I as vars c' v Q → _) he fun x1 c1 r e1 e2 => map_some' e2 fun l e3 q => any_is h fun y hy h => any_is (an h).2 fun z hz h2 => any_is h2 fun u hu h2 => conI_elim (G := fun w => u.2.1 = w → _) (an h2).2 (fun j p1 p2 hj hw => by
    have h1 := (an (an h).1).1
    rw [acc_is hy, Option.isNone_iff_eq_none.mp (an h1).1, Option.isNone_iff_eq_none.mp (an h1).2, hz, acc_is hu, dc (an h2).1, hw, dc hj]
    refine Subscript_ (Z.e1 (an (an h).1).2 t e1 fun I1 s1 vx l1 t1 r1 => wpAny_Slice (wpAny_pure (wpAny_pure ?_)))
    show wpAny _ _ (eval (.UnaryOp .USub (.Constant (.int 1) _ _) _) _) _ _ _
    exact wpAny_UnaryOp (wpAny_Constant_int (PyProof.Rows.neg_int (revL_fresh (t1.tok (Nat.succ_pos _)) e3 r1 (KF.of_KD (q.step l1).toD))))) rfl
theorem ok_list {Q : Value → Shared → Prop} {l : List ME} (h : chkB (chkE k) tw fm.nl (.list l) e = true) (he : es (fun l c => some (.d (.list l), c)) (ev F rank n) l vars c = some (v, c')) (W : ∀ I', I.le I' → ∀ ds, v = .d (.list ds) → KF C fm fz I' as vars c' ds Q) : wpAny (model C.prog C.w) A (eval e fm.env) Q E s :=
  es_elim he fun vs c1 ds e1 e2 e3 => acc_any (G := WE C A fm Q E s) wList h fun x h => wpAny_List (evs_ok Z (an h).1 t e1 fun I1 s1 vals l1 t1 r1 => by
    have d1 := dsOf_ok e2 r1
    have hl : ds.length ≤ 1000000 := by rw [← d1.length, r1.length, evs_length e1]; exact Nat.le_trans (dc (an h).2) (by decide)
    cases e3
    exact ⟨small (d1.length ▸ hl), (W I1 l1 ds rfl).pushed t1 t1.pos hl d1⟩)
theorem ok_tup {l : List ME} (h : chkB (chkE k) tw fm.nl (.tup l) e = true) (he : es (fun l c => some (.d (.tup l), c)) (ev F rank n) l vars c = some (v, c')) : EvG C A fm fz I as vars s E v c' e :=
  fun Q q => es_elim he fun vs c1 ds e1 e2 e3 => acc_any (G := WE C A fm Q E s) wTup h fun x h => wpAny_Tuple (evs_ok Z (an h).1 t e1 fun I1 s1 vals l1 t1 r1 => by
    have d1 := dsOf_ok e2 r1
    have hl : ds.length ≤ 1000000 := by rw [← d1.length, r1.length, evs_length e1]; exact Nat.le_trans (dc (an h).2) (by decide)
    cases e3
    obtain ⟨l2, t2, e4⟩ := t1.push { cls := .type "tuple", data := .seq vals.toArray } rfl t1.pos
    exact ⟨small (d1.length ▸ hl), q _ _ _ (l1.trans l2) t2 (show DR _ (.tup ds) _ from .mk 0 hl e4 (d1.mono l2))⟩)
theorem ok_call (hc : ∀ f, rank f ≤ n → CallOk C F rank f) {f : Nat} {l : List ME} (h : callN e (fun id args => decide (0 < f) && decide (fnms[f - 1]? = some id) && decide (fm.nl.lookup id = some .globalImplicit) && chkL (chkE k tw fm.nl) l args && !(args.isEmpty)) = true) (he : ((evs (fun e c => ev F rank n e vars c) l c).bind fun x => if Nat.ble (rank f) n then F f x.1 x.2 else none) = some (v, c')) : EvG C A fm fz I as vars s E v c' e :=
  fun Q q => bind_some' he fun y e1 he2 => ifB he2 (fun hr he3 => callN_elim (G := WE C A fm Q E s) h fun id p1 args p2 h => by
    obtain ⟨a, o, fd, m1, m2, m3⟩ := Z.g.fn _ _ (dc (an (an (an (an h).1).1).1).2)
    refine Call_ (eval_glob Z.g.toCxOk t (dc (an (an (an h).1).1).2) m1 (fnms_debug (dc (an (an (an (an h).1).1).1).2)) ?_)
    cases args with
    | nil => exact noT (an h).2
    | cons x xs => cases l with
      | nil => exact noT (an (an h).1).2
      | cons m ms =>
        exact callWith_def (o := o) (fd := fd) m3 (evs_ok Z (an (an h).1).2 t e1 fun I1 s1 vals l1 t1 r1 => ⟨t1.rd _ _ (t1.base _ _ m2),
          call_in_frame (hc f (Nat.le_of_ble_eq_true hr)) (Z.r.le (Nat.le_of_ble_eq_true hr)) t1 r1 he3 (dc (an (an (an (an h).1).1).1).1) (dc (an (an (an (an h).1).1).1).2) m1 (q.step l1)⟩) (star_plain (an (an (an h).1).2).1 _ _)) fun _ => noS
theorem ok_len {a : ME} (h : chkB (chkE k) tw fm.nl (.len a) e = true) (he : u1 (fun (k : Nat) => D.int (Int.ofNat k)) (ev F rank n) a vars c (fun x c => lenV c x) = some (v, c')) : EvG C A fm fz I as vars s E v c' e :=
  fun Q => u1_elim (G := fun v c' => KV C fm fz I as vars c' v Q → _) he fun x c1 r e1 e2 q => call_blt1 Z 0 h rfl t e1 fun I1 s1 vx l1 t1 r1 => len_ok t1 e2 r1 (q.step l1).toD
theorem ok_sum {a : ME} (h : chkB (chkE k) tw fm.nl (.sum a) e = true) (he : u1 .int (ev F rank n) a vars c (fun x c => (listOfV c x).bind fun l => (intsOf l).map List.sum) = some (v, c')) : EvG C A fm fz I as vars s E v c' e :=
  fun Q => u1_elim (G := fun v c' => KV C fm fz I as vars c' v Q → _) he fun x c1 r e1 e2 => bind_some' e2 fun l e3 e2 => map_some' e2 fun ns e4 q => call_blt1 Z 1 h rfl t e1 fun I1 s1 vx l1 t1 r1 => sum_ok Z.r.1 t1 e3 e4 r1 (q.step l1).toD
theorem ok_min {a b : ME} (h : callN e (fun id xs => globOk fm.nl id (Str.ofString "min") && (hd2 xs).any fun z => chkE k tw fm.nl a z.1 && chkE k tw fm.nl b z.2) = true) (he : b2 .int (ev F rank n) a b vars c (fun x y _ => (optInt x).bind fun i => (optInt y).map fun j => if j < i then j else i) = some (v, c')) : EvG C A fm fz I as vars s E v c' e :=
  fun Q => b2_elim (G := fun v c' => KV C fm fz I as vars c' v Q → _) he fun x c1 y c2 r e1 e2 e3 => bind_some' e3 fun i e4 e3 => map_some' e3 fun j e5 q => callN_elim (G := WE C A fm Q E s) h fun id p xs pos h => by
    have hg := dc (an (an h).1).1
    subst hg
    exact hd2_any (an h).2 fun x y h' => call_blt2 Z 2 (dc (an (an h).1).2) rfl (an h').1 (an h').2 t e1 e2 fun I1 s1 vx vy l1 t1 r1 r2 => r1.int e4 fun u1 => r2.int e5 fun u2 => min_ok Z.r.1 t1 (q.step l1).toD
theorem ok_sorted {a : ME} (h : chkB (chkE k) tw fm.nl (.sorted a) e = true) (he : u1 .list (ev F rank n) a vars c (fun x c => (listOfV c x).bind fun l => if decide (l.length < 64) then (intsOf l).map fun l => (l.mergeSort (· ≤ ·)).map .int else none) = some (v, c')) : EvG C A fm fz I as vars s E v c' e :=
  fun Q => u1_elim (G := fun v c' => KV C fm fz I as vars c' v Q → _) he fun x c1 r e1 e2 => bind_some' e2 fun l e3 e2 => ifB e2 (fun h64 e2 => map_some' e2 fun ns e4 q => call_blt1 Z 3 h rfl t e1 fun I1 s1 vx l1 t1 r1 => sorted_ok t1 e3 e4 (dc h64) r1 (q.step l1).toD) fun _ => noS
theorem ok_strOf {a : ME} (h : chkB (chkE k) tw fm.nl (.strOf a) e = true) (he : u1 .str (ev F rank n) a vars c (fun x _ => (optBool x).map fun b => if b then trueS else falseS) = some (v, c')) : EvG C A fm fz I as vars s E v c' e :=
  fun Q => u1_elim (G := fun v c' => KV C fm fz I as vars c' v Q → _) he fun x c1 r e1 e2 => map_some' e2 fun b e3 q => call_typ1 Z 4 h rfl t e1 fun I1 s1 vx l1 t1 r1 => r1.bool e3 (strOf_ok t1 (q.step l1).toD)
omit Z in
theorem ok_pop {x : Nat} (h : callM e (Str.ofString "pop") (fun o xs => xs.isEmpty && (acc wName o).any fun y => varOk fm.nl x y.1) = true) (he : ((vget vars x).bind fun v => (optLoc v).bind (popV c)) = some (v, c')) : EvG C A fm fz I as vars s E v c' e :=
  fun Q q => bind_some' he fun w hw he => bind_some' he fun i hi he => callM_elim (G := WE C A fm Q E s) h fun o ap xs pos hp h => nil_of (G := fun xs => wpAny _ _ (eval (.Call _ xs _ _) _) _ _ _) (an h).1 <| acc_any (G := fun o => wpAny _ _ (eval (.Call (.Attribute o _ _) _ _ _) _) _ _ _) wName (an h).2 fun y h =>
    Call_method0 rfl hp (eval_v t h hw fun z rz => by
      cases optLoc_is hi
      obtain ⟨a, ha, rfl⟩ := id rz
      obtain ⟨its, nn, e3⟩ := t.cel.isList a (List.mem_of_getElem? ha)
      exact ⟨"list", "list.pop", PySem.F.plainAttrs_list, PySem.F.slot_list_pop, PySem.F.type_list_pop, ⟨_, e3, rfl⟩, fun b hb => by cases hb; exact ⟨_, e3, rfl⟩,
        Calls.callWith_builtin rfl (PyProof.Rows.evalArgs_none (pop_ok t he rz fun s1 x t1 r1 => q I s1 x (Im.le.refl I) t1 r1))⟩)
theorem str_meth1 {nm : Str} {bid : String} (sl : Slot "str" nm bid) (ty : typeOf (.builtin bid) = pure (.type "method_descriptor")) {a b : ME} {x y : V} {tx : List Nat} {c1 c2 : Cells} {Q : Value → Shared → Prop} (h : callM e nm (fun o xs => recvOk o && chkE k tw fm.nl a o && (hd1 xs).any (chkE k tw fm.nl b)) = true)
    (e1 : ev F rank n a vars c = some (x, c1)) (hx : optStr x = some tx) (e2 : ev F rank n b vars c1 = some (y, c2)) (q : ∀ I2 s2 u vy, I.le I2 → St C fm fz I2 as vars c2 s2 → VR I2 as y vy → wpAny (model C.prog C.w) A (call (.builtin bid) [.str (mkS tx) u, vy]) Q E s2) : wpAny (model C.prog C.w) A (eval e fm.env) Q E s :=
  callM_elim (G := WE C A fm Q E s) h fun o ap xs pos hp h => hd1_any (G := fun xs => wpAny _ _ (eval (.Call _ xs _ _) _) _ _ _) (an h).2 fun z hz => Call_method1 (recv_base (an (an h).1).1 _ _) (by rw [star_plain hz]; rfl) hp (Z.e1 (an (an h).1).2 t e1 fun I1 s1 vx l1 t1 r1 => r1.str hx fun u hl =>
    ⟨"str", bid, PySem.F.plainAttrs_str, sl, ty, typeIs_str _ _ _, (fun b hb => nomatch hb), Calls.callWith_builtin rfl (Calls.evalArgs_plain (Calls.spliced_cons (Z.e1 hz t1 e2 fun I2 s2 vy l2 t2 r2 => Calls.spliced_nil (q I2 s2 u vy (l1.trans l2) t2 r2))))⟩)
theorem ok_count {a b : ME} (h : chkB (chkE k) tw fm.nl (.count a b) e = true) (he : b2 .int (ev F rank n) a b vars c (fun x y _ => (optStr x).bind fun t => (optStr y).bind fun s => (oneOf s).map fun k => ((t.count k : Nat) : Int)) = some (v, c')) : EvG C A fm fz I as vars s E v c' e :=
  fun Q => b2_elim (G := fun v c' => KV C fm fz I as vars c' v Q → _) he fun x c1 y c2 r e1 e2 e3 => bind_some' e3 fun tx e4 e3 => bind_some' e3 fun ty e5 e3 => map_some' e3 fun kk e6 q =>
    str_meth1 Z t PySem.F.slot_str_count PySem.F.type_str_count h e1 e4 e2 fun I2 s2 u vy l2 t2 r2 => r2.str e5 fun u2 _ => by rw [oneOf_is e6]; exact count_ok t2 (q.step l2).toD
theorem ok_join {a b : ME} (h : chkB (chkE k) tw fm.nl (.join a b) e = true) (he : b2 .str (ev F rank n) a b vars c (fun x y c => (optStr x).bind fun t => (listOfV c y).bind fun l => (strsOf l).bind (joinV t)) = some (v, c')) : EvG C A fm fz I as vars s E v c' e :=
  fun Q => b2_elim (G := fun v c' => KV C fm fz I as vars c' v Q → _) he fun x c1 y c2 r e1 e2 e3 q => bind_some' e3 fun tx e4 e3 => bind_some' e3 fun l e5 e3 => bind_some' e3 fun ys e6 e3 =>
    str_meth1 Z t PySem.F.slot_str_join PySem.F.type_str_join h e1 e4 e2 fun I2 s2 u vy l2 t2 r2 => join_ok t2 e5 e6 r2 e3 (q.step l2).toD
theorem ok_replace {a b d : ME} (h : callM e (Str.ofString "replace") (fun o xs => recvOk o && chkE k tw fm.nl a o && (hd2 xs).any fun z => (strLit b).any fun p => (strLit d).any fun q => conS z.1 (fun s => decide (s = mkS p)) && conS z.2 (fun s => decide (s = mkS q))) = true) (he : u1 .str (ev F rank n) a vars c (fun x _ => (optStr x).bind fun t => (strLit b).bind fun p => (strLit d).bind fun q => replV t p q) = some (v, c')) : EvG C A fm fz I as vars s E v c' e :=
  fun Q => u1_elim (G := fun v c' => KV C fm fz I as vars c' v Q → _) he fun x c1 r e1 e2 q => bind_some' e2 fun tx e4 e2 => bind_some' e2 fun tp e5 e2 => bind_some' e2 fun tq e6 e2 =>
  callM_elim (G := WE C A fm Q E s) h fun o ap xs pos hp h => hd2_any (G := fun xs => wpAny _ _ (eval (.Call _ xs _ _) _) _ _ _) (an h).2 fun z1 z2 hz => by
    rw [e5, e6] at hz
    refine conS_elim (G := fun z => wpAny _ _ (eval (.Call _ [z, _] _ _) _) _ _ _) (an hz).1 fun s1 u1 p1 hs1 => conS_elim (G := fun z => wpAny _ _ (eval (.Call _ [_, z] _ _) _) _ _ _) (an hz).2 fun s2 u2 p2 hs2 => ?_
    rw [dc hs1, dc hs2]
    exact Call_method2 (recv_base (an (an h).1).1 _ _) rfl hp (Z.e1 (an (an h).1).2 t e1 fun I1 s1 vx l1 t1 r1 => r1.str e4 fun u hl =>
      ⟨"str", "str.replace", PySem.F.plainAttrs_str, PySem.F.slot_str_replace, PySem.F.type_str_replace, typeIs_str _ _ _, (fun b hb => nomatch hb),
        Calls.callWith_builtin rfl (Calls.evalArgs_plain (Calls.spliced_cons (wpAny_Constant_str (Calls.spliced_cons (wpAny_Constant_str (Calls.spliced_nil
          (replace_ok (t1.tok (k := s1.toks + 1 + 1) (Nat.succ_pos _)) (Nat.pos_iff_ne_zero.mp t1.pos) (Nat.succ_ne_zero _) (Nat.ne_of_lt (Nat.lt_succ_self _)) e2 (q.step l1).toD)))))))⟩)
theorem ok_fstr {l : List ME} (h : chkB (chkE k) tw fm.nl (.fstr l) e = true) (he : es (fun l c => (strsOf l).bind fun l => if strOk l.flatten.length then some (.d (.str l.flatten), c) else none) (ev F rank n) l vars c = some (v, c')) : EvG C A fm fz I as vars s E v c' e :=
  fun Q q => es_elim he fun vs c1 ds e1 e2 e3 => bind_some' e3 fun ts e4 e3 => ifS e3 fun hok e3 => acc_any (G := WE C A fm Q E s) wJoin h fun x h => by
    cases e3
    have hp := parts_ok (out := []) (E := E) Z (an h).2 t e1 e2 e4 (strOk_le hok) q.toD
    have h1 := (an h).1
    generalize x.1 = xs at hp h1 ⊢
    cases xs with
    | nil => exact noT h1
    | cons a xs => cases xs with
      | nil => exact noT h1
      | cons b xs => exact JoinedStr_many hp
theorem part_ok {o : Option ME} {x : Option PySem.Expr} {r : Option Int} {c1 : Cells} {Q : Value → Shared → Prop} (h : chkO (chkE k tw fm.nl) o x = true) (he : op1 (ev F rank n) o vars c = some (r, c1)) (q : ∀ I' s' v, I.le I' → St C fm fz I' as vars c1 s' → PartR r v → Q v s') :
    wpAny (model C.prog C.w) A (evalPart x fm.env) Q E s := by
  cases o with
  | none => cases he; cases Option.isNone_iff_eq_none.mp h; exact wpAny_pure (q I s _ (Im.le.refl I) t rfl)
  | some a =>
    refine any_is h fun y hy h => ?_
    rw [hy]
    exact bind_some' he fun z h1 h2 => map_some' (G := fun z : Option Int × Cells => z = (r, c1) → _) h2 (fun i h3 e => by
      cases e
      exact Z.e1 h t h1 fun I1 s1 vx l1 t1 r1 => r1.int h3 fun u => q I1 s1 _ l1 t1 ⟨u, rfl⟩) rfl
theorem ok_slice {a : ME} {lo hi : Option ME} (h : chkB (chkE k) tw fm.nl (.slice a lo hi) e = true) (he : ((ev F rank n a vars c).bind fun x => (op1 (ev F rank n) lo vars x.2).bind fun l => (op1 (ev F rank n) hi vars l.2).bind fun h => (cutV h.2 x.1 l.1 h.1).map fun r => (.d r, h.2)) = some (v, c')) : EvG C A fm fz I as vars s E v c' e :=
  acc_any wSub h fun x h Q q => bind_some' he fun y e1 he => bind_some' he fun l e2 he => bind_some' he fun u e3 he => map_some' (G := fun z : V × Cells => z = (v, c') → _) he (fun d e4 ee => any_is h fun z hz h => by
    cases ee
    rw [acc_is hz, Option.isNone_iff_eq_none.mp (an (an (an h).1).1).1]
    exact Subscript_ (Z.e1 (an (an (an h).1).1).2 t e1 fun I1 s1 vx l1 t1 r1 => wpAny_Slice (part_ok Z t1 (an (an h).1).2 e2 fun I2 s2 vl l2 t2 r2 => part_ok Z t2 (an h).2 e3 fun I3 s3 vu l3 t3 r3 =>
      wpAny_pure (cutV_ok t3 e4 ((r1.mono l2).mono l3) r2 r3 (q.step (l1.trans (l2.trans l3))).toD)))) rfl
theorem ok_twin {a : ME} (h : callM e (Str.ofString "sub") (fun o xs => tw && (acc wName o).any fun y => globOk fm.nl y.1 (Str.ofString "_twin_re_1") && (hd2 xs).any fun z => (acc wLam z.1).any fun l => lamOk l.1 l.2.2.1 l.2.2.2 && chkE k tw fm.nl a z.2) = true)
    (he : u1 .str (ev F rank n) a vars c (fun x _ => (optStr x).bind fun t => if strOk t.length && bits t then some t else none) = some (v, c')) : EvG C A fm fz I as vars s E v c' e :=
  fun Q => u1_elim (G := fun v c' => KV C fm fz I as vars c' v Q → _) he fun x c1 r e1 e2 q => bind_some' e2 fun tx e4 e2 => ifS e2 fun hok e2 => callM_elim (G := WE C A fm Q E s) h fun o ap xs pos hp h => any_is (an h).2 fun y hy h2 => hd2_any (G := fun xs => WE C A fm Q E s (.Call _ xs _ _)) (an h2).2 fun z1 z2 hz => any_is hz fun l hl hz => by
    rw [acc_is hy, show z1 = _ from acc_is hl]
    cases e2
    have hn : 1 ≤ n := by
      cases n with
      | zero => exact noS e1
      | succ n => exact Nat.succ_pos n
    exact Z.tw (an h).1 (Z.r.le hn) t (dc (an (an h2).1).1) (dc (an (an h2).1).2) (an hz).1 (star_plain (an hz).2 [] _) hp (strOk_le (an hok).1) (an hok).2 (c1 := c1)
      (fun {I1 s1 Q1} l1 t1 q1 => Z.e1 (an hz).2 t1 e1 fun I' s' x l t' rx => q1 I' s' x l t' (rx.toD (optStr_is e4))) fun I' s' x l t' rx => q I' s' x l t' rx
end
theorem ev_step (g : CxOk2 C) (hc : ∀ f, rank f ≤ n → CallOk C F rank f) (H : EvOk C F rank n) (T : TrOk C F rank n) (HC : CmpOk C F rank (n + 1)) : EvOk C F rank (n + 1) := by
  intro k tw me e fm fz I as vars c s v c' A Q E h htw r t he q
  suffices K : EvG C A fm fz I as vars s E v c' e from K Q q
  clear q
  have Z : Wk C F rank n tw fm A := ⟨g, H, T, htw, r.less⟩
  cases k with
  | zero => exact noT h
  | succ k =>
  have h' := h
  replace h := (an h).2
  cases me with
  | comp _ _ _ _ => exact fun Q q => HC rfl h' htw r t he q
  | comp2 _ _ _ _ _ => exact fun Q q => HC rfl h' htw r t he q
  | range _ => exact noS he
  | rrange _ => exact noS he
  | int i => exact pure_elim (G := fun v c' => EvG C A fm fz I as vars s E v c' e) he fun Q q => conI_elim h fun j u p h => dc h ▸ wpAny_Constant_int (q.toD.int t (Nat.succ_pos _))
  | str x => exact pure_elim (G := fun v c' => EvG C A fm fz I as vars s E v c' e) he fun Q q => conS_elim h fun j u p h => (dc (an h).1).symm ▸ wpAny_Constant_str (q.toD.str t (Nat.succ_pos _) (dc (an h).2))
  | bool b => exact pure_elim (G := fun v c' => EvG C A fm fz I as vars s E v c' e) he (acc_any wCon h fun x h Q q => (dc h).symm ▸ wpAny_Constant_bool (q.toB s t))
  | none => exact pure_elim (G := fun v c' => EvG C A fm fz I as vars s E v c' e) he (acc_any wCon h fun x h Q q => (dc h).symm ▸ wpAny_Constant_none (q.here t (show DR I D.none Value.none from rfl)))
  | var x => exact bind_some' ((Option.map_eq_bind ..).symm.trans he) fun w hw he => pure_elim (G := fun v c' => EvG C A fm fz I as vars s E v c' e) he (acc_any wName h fun y h Q q => eval_v t h hw fun y ry => q.here t ry)
  | bin o a b => exact ok_bin Z t h he
  | neg a => exact ok_neg Z t h he
  | not a => exact ok_not Z t h he
  | and a b => exact ok_and Z t h he
  | or a b => exact ok_or Z t h he
  | cmp o a b => exact ok_cmp Z t r.units h he
  | ite x a b => exact ok_ite Z t h he
  | sub a i => exact ok_sub Z t h he
  | slice a lo hi => exact ok_slice Z t h he
  | rev a => exact ok_rev Z t h he
  | list l => exact fun Q q => ok_list Z t h he fun I' l' ds e => KF.of_KD (e ▸ q.step l').toD
  | tup l => exact ok_tup Z t h he
  | call f l => exact ok_call Z t hc h he
  | len a => exact ok_len Z t h he
  | sum a => exact ok_sum Z t h he
  | min a b => exact ok_min Z t h he
  | sorted a => exact ok_sorted Z t h he
  | strOf a => exact ok_strOf Z t h he
  | pop x => exact ok_pop t h he
  | count a b => exact ok_count Z t h he
  | replace a b d => exact ok_replace Z t h he
  | join a b => exact ok_join Z t h he
  | twin a => exact ok_twin Z t h he
  | fstr l => exact ok_fstr Z t h he
end
end Mine
end
section
open PySem PySem.W PyProof.Rows PySem.SeqAt
set_option maxRecDepth 100000
namespace Mine
theorem plainT_ok {e : PySem.Expr} {env : Env} {whole : Sem Value} (h : plainT e = true) : isTrue e env whole = (do let v ← whole; standAt e.pos; holding [v] (truthy v)) := by
  cases e with
  | UnaryOp op a p => cases op with
    | Not => exact nomatch h
    | _ => rfl
  | BoolOp => exact nomatch h
  | IfExp => exact nomatch h
  | Compare => exact nomatch h
  | _ => rfl
section
variable {C : Cx} {F : FT} {rank : Nat → Nat} {n : Nat} {k : Nat} {tw : Bool} {fm : Fm} {fz : Fz} {I : Im} {as : List Addr} {vars : Vars} {c : Cells} {s : Shared} {A : Around} {E : Value → Shared → Prop}
noncomputable def TrG (C : Cx) (A : Around) (fm : Fm) (fz : Fz) (I : Im) (as : List Addr) (vars : Vars) (s : Shared) (E : Value → Shared → Prop) (Q : Bool → Shared → Prop) (e : PySem.Expr) : Prop := wpAny (model C.prog C.w) A (isTrue e fm.env (eval e fm.env)) Q E s
section
variable {e : PySem.Expr} {v : V} {c' : Cells} {b : Bool} {Q : Bool → Shared → Prop} (Z : Wk C F rank n tw fm A)
include Z
theorem tr_and_go {b' : Bool} {e' : PySem.Expr} {a : ME} {x : V} {c1 : Cells} {I1 : Im} {s1 : Shared} (hb : chkE k tw fm.nl a e' = true) (e2 : truth c1 x = some b') (he : (if b' = true then ev F rank n a vars c1 else some (x, c1)) = some (v, c')) (ht : truth c' v = some b) (l1 : I.le I1) (t1 : St C fm fz I1 as vars c1 s1) (q : KT C fm fz I as vars c' b Q) :
    if b' = true then wpAny (model C.prog C.w) A (isTrue e' fm.env (eval e' fm.env)) Q E s1 else Q false s1 := by
  cases b' with
  | true => exact Z.t1 hb t1 he ht (q.step l1)
  | false => cases he; cases e2.symm.trans ht; exact q I1 s1 l1 t1
theorem tr_or_go {b' : Bool} {e' : PySem.Expr} {a : ME} {x : V} {c1 : Cells} {I1 : Im} {s1 : Shared} (hb : chkE k tw fm.nl a e' = true) (e2 : truth c1 x = some b') (he : (if b' = true then some (x, c1) else ev F rank n a vars c1) = some (v, c')) (ht : truth c' v = some b) (l1 : I.le I1) (t1 : St C fm fz I1 as vars c1 s1) (q : KT C fm fz I as vars c' b Q) :
    if b' = true then Q true s1 else wpAny (model C.prog C.w) A (isTrue e' fm.env (eval e' fm.env)) Q E s1 := by
  cases b' with
  | false => exact Z.t1 hb t1 he ht (q.step l1)
  | true => cases he; cases e2.symm.trans ht; exact q I1 s1 l1 t1
theorem tr_ite_go {b' : Bool} {e1 e2 : PySem.Expr} {x y : ME} {c1 : Cells} {I1 : Im} {s1 : Shared} (h1 : chkE k tw fm.nl x e1 = true) (h2 : chkE k tw fm.nl y e2 = true) (he : (if b' = true then ev F rank n x vars c1 else ev F rank n y vars c1) = some (v, c')) (ht : truth c' v = some b) (l1 : I.le I1) (t1 : St C fm fz I1 as vars c1 s1) (q : KT C fm fz I as vars c' b Q) :
    if b' = true then wpAny (model C.prog C.w) A (isTrue e1 fm.env (eval e1 fm.env)) Q E s1 else wpAny (model C.prog C.w) A (isTrue e2 fm.env (eval e2 fm.env)) Q E s1 := by
  cases b' with
  | true => exact Z.t1 h1 t1 he ht (q.step l1)
  | false => exact Z.t1 h2 t1 he ht (q.step l1)
omit Z in
theorem one_and {whole : Sem Value} {e' : PySem.Expr} {p : Pos} {s1 : Shared} (h : wpAny (model C.prog C.w) A (isTrue e' fm.env (eval e' fm.env)) Q E s1) : wpAny (model C.prog C.w) A (isTrue (.BoolOp .And [e'] p) fm.env whole) Q E s1 :=
  isTrue_and (wpAny_mono h (fun b s h => by
    cases b with
    | false => exact h
    | true => exact isTrue_and_nil h) fun _ _ e => e)
omit Z in
theorem one_or {whole : Sem Value} {e' : PySem.Expr} {p : Pos} {s1 : Shared} (h : wpAny (model C.prog C.w) A (isTrue e' fm.env (eval e' fm.env)) Q E s1) : wpAny (model C.prog C.w) A (isTrue (.BoolOp .Or [e'] p) fm.env whole) Q E s1 :=
  isTrue_or (wpAny_mono h (fun b s h => by
    cases b with
    | true => exact h
    | false => exact isTrue_or_nil h) fun _ _ e => e)
end
theorem specM_cases {P : ME → Prop} {me : ME} (hm : specM me = true) (h1 : ∀ a, P (.not a)) (h2 : ∀ a b, P (.and a b)) (h3 : ∀ a b, P (.or a b)) (h4 : ∀ x a b, P (.ite x a b)) (h5 : ∀ o a b, P (.cmp o a b)) : P me :=
  (Bool.or_eq_true_iff.mp hm).elim (fun h => (Bool.or_eq_true_iff.mp h).elim (fun h => (Bool.or_eq_true_iff.mp h).elim (fun h => (Bool.or_eq_true_iff.mp h).elim (fun h => ME.not.elim me (eq_of_beq h) h1) fun h => ME.and.elim me (eq_of_beq h) h2) fun h => ME.or.elim me (eq_of_beq h) h3) fun h => ME.cmp.elim me (eq_of_beq h) h5) fun h => ME.ite.elim me (eq_of_beq h) h4
theorem tr_step (H : EvOk C F rank n) (T : TrOk C F rank n) (g : CxOk2 C) (H' : EvOk C F rank (n + 1)) : TrOk C F rank (n + 1) := by
  intro k tw me e fm fz I as vars c s v c' b A Q E h htw r t he hb q
  have Z : Wk C F rank n tw fm A := ⟨g, H, T, htw, r.less⟩
  by_cases hs : specM me = true
  case neg =>
    exact isTrue_plain (H' h htw r t he fun I1 s1 x l1 t1 r1 => truth_ok t1 hb r1 fun s2 t2 => q I1 s2 l1 t2) (plainT_ok ((Bool.or_eq_true_iff.mp (an (an (chkE_flag h)).1).1).elim (fun h => absurd h hs) id))
  cases k with
  | zero => exact noT h
  | succ k =>
  replace h := (an h).2
  refine specM_cases (P := fun me => chkB (chkE k) tw fm.nl me e = true → ev F rank (n + 1) me vars c = some (v, c') → TrG C A fm fz I as vars s E Q e) hs (fun a h he => ?_) (fun a b0 h he => ?_) (fun a b0 h he => ?_) (fun x a b0 h he => ?_) (fun o a b0 h he => ?_) h he
  case _ =>
    replace he : u1 .bool (ev F rank n) a vars c (fun x c => (truth c x).map not) = some (v, c') := he
    exact acc_any wUn h fun x h => u1_elim (G := fun v c' => truth c' v = some b → KT C fm fz I as vars c' b Q → _) he (fun y c1 r e1 e2 hb q => bind_some' ((Option.map_eq_bind ..).symm.trans e2) fun b0 e3 e4 => by
      rw [dc (an h).1]
      cases e4
      cases hb
      exact isTrue_not (Z.t1 (an h).2 t e1 e3 fun I1 s1 l1 t1 => q I1 s1 l1 t1)) hb q
  case _ =>
    replace he : t1 (ev F rank n) a vars c (fun x t c => if t then ev F rank n b0 vars c else some (x, c)) = some (v, c') := he
    exact t1_elim he fun x c1 b' e1 e2 he => bits2_elim h
      (fun x y p ha hb2 => isTrue_and (Z.t1 ha t e1 e2 fun I1 s1 l1 t1 => by
        have := tr_and_go Z (e' := y) (E := E) hb2 e2 he hb l1 t1 q
        cases b' with
        | true => exact one_and this
        | false => exact this))
      fun x y z rr p ha hb2 => isTrue_and (Z.t1 ha t e1 e2 fun I1 s1 l1 t1 => tr_and_go Z hb2 e2 he hb l1 t1 q)
  case _ =>
    replace he : t1 (ev F rank n) a vars c (fun x t c => if t then some (x, c) else ev F rank n b0 vars c) = some (v, c') := he
    exact t1_elim he fun x c1 b' e1 e2 he => bits2_elim h
      (fun x y p ha hb2 => isTrue_or (Z.t1 ha t e1 e2 fun I1 s1 l1 t1 => by
        have := tr_or_go Z (e' := y) (E := E) hb2 e2 he hb l1 t1 q
        cases b' with
        | false => exact one_or this
        | true => exact this))
      fun x y z rr p ha hb2 => isTrue_or (Z.t1 ha t e1 e2 fun I1 s1 l1 t1 => tr_or_go Z hb2 e2 he hb l1 t1 q)
  case _ =>
    replace he : t1 (ev F rank n) x vars c (fun _ t c => if t then ev F rank n a vars c else ev F rank n b0 vars c) = some (v, c') := he
    exact acc_any wIf h fun y h => t1_elim he fun x c1 b' e1 e2 he => isTrue_IfExp (Z.t1 (an (an h).1).1 t e1 e2 fun I1 s1 l1 t1 => tr_ite_go Z (an (an h).1).2 (an h).2 he hb l1 t1 q)
  case _ =>
    replace he : b2 .bool (ev F rank n) a b0 vars c (fun x y c => cmpV c o x y) = some (v, c') := he
    exact acc_any wCmp h fun x h => hd1_any (G := fun z => TrG C A fm fz I as vars s E Q (.Compare _ z _ _)) h fun op h => hd1_any (G := fun z => TrG C A fm fz I as vars s E Q (.Compare _ _ z _)) h fun rr h => b2_elim (G := fun v c' => truth c' v = some b → KT C fm fz I as vars c' b Q → _) he (fun x1 c1 y c2 d e1 e2 e3 hb q => by
      cases hb
      exact wpAny_isTrue_Compare1 (Z.e2 (an (an h).1).2 (an h).2 t e1 e2 fun I1 s1 vx vy l1 t1 r1 r2 => (dc (an (an (an h).1).1).1).symm ▸ cmpV_ok r.units t1 e3 r1 r2 fun s2 t2 => wpAny_truthy_bool (q I1 s2 l1 t2)) ((Bool.not_eq_true' _).mp (an (an (an h).1).1).2)) hb q
end
end Mine
end
section
open PySem PySem.W PyProof.Rows PySem.SeqAt
set_option maxRecDepth 100000
namespace Mine
structure IterOk (C : Cx) (I : Im) (ds : List D) (it : Addr) (st : Nat → Heap → Prop) : Prop where
  W : ∃ fp P, (∀ A : Around, A.handled = none → Walks C.prog C.w A it fp [it] ds.length P st) ∧ (∀ b ∈ fp, b = it ∨ ∃ o, I.rd b = some o) ∧ (∀ i v d, P i v → ds[i]? = some d → DR I d v)
  live : ∀ i h, st i h → ∃ o, h.get? it = some o ∧ ∀ v, o.data ≠ .cell v
  tup : ∀ i h, st i h → ∃ o T, h.get? it = some o ∧ o.cls = .type T ∧ ["enumerate", "zip", "dict_itemiterator", "dict_reverseitemiterator", "odict_iterator", "itertools.zip_longest", "itertools.pairwise"].contains T = false
theorem IterOk.mono {C : Cx} {I J : Im} {ds : List D} {it : Addr} {st : Nat → Heap → Prop} (x : IterOk C I ds it st) (h : I.le J) : IterOk C J ds it st where
  W := by obtain ⟨fp, P, h1, h2, h3⟩ := x.W; exact ⟨fp, P, h1, fun b hb => (h2 b hb).imp id fun h' => h'.imp fun o e => h.2 _ _ e, fun i v d hp hd => (h3 i v d hp hd).mono h⟩
  live := x.live
  tup := x.tup
section
variable {C : Cx} {F : FT} {rank : Nat → Nat} {n : Nat} {k : Nat} {tw : Bool} {fm : Fm} {fz : Fz} {I : Im} {as : List Addr} {vars : Vars} {c : Cells} {s : Shared} {A : Around} {E : Value → Shared → Prop}
structure Apart (fm : Fm) (fz : Fz) (I : Im) (as : List Addr) (a : Addr) : Prop where
  rd : I.rd a = none
  fz : fz a = none
  as : a ∉ as
  mu : a ∉ fm.mu
theorem next_item {ds : List D} {it : Addr} {st : Nat → Heap → Prop} {i : Nat} {d : D} {Q : Option Value → Shared → Prop} (hh : A.handled = none) (t : St C fm fz I as vars c s) (x : IterOk C I ds it st) (ap : Apart fm fz I as it) (h : st i s.heap) (hd : ds[i]? = some d)
    (q : ∀ s' v, DR I d v → St C fm fz I as vars c s' → st (i + 1) s'.heap → Q (some v) s') : wpAny (model C.prog C.w) A (pyNext (.ref it)) Q E s := by
  obtain ⟨fp, P, W, h2, h3⟩ := x.W
  refine wpAny_pos t.pos ((W A hh).item i s _ _ (List.getElem?_eq_some_iff.mp hd).1 h fun v h' tk hp hs hk htk => ?_)
  exact q _ v (h3 i v d hp hd) (t.step (s' := { s with heap := h', toks := tk }) ap.rd ap.fz ap.as ap.mu (fun b o hb e => hk b o (by simpa using hb) e) t.gens rfl htk) hs
theorem next_end {ds : List D} {it : Addr} {st : Nat → Heap → Prop} {Q : Option Value → Shared → Prop} (hh : A.handled = none) (t : St C fm fz I as vars c s) (x : IterOk C I ds it st) (ap : Apart fm fz I as it) (h : st ds.length s.heap)
    (q : ∀ s', St C fm fz I as vars c s' → Q none s') : wpAny (model C.prog C.w) A (pyNext (.ref it)) Q E s := by
  obtain ⟨fp, P, W, h2, h3⟩ := x.W
  refine wpAny_pos t.pos ((W A hh).done s _ _ h fun h' tk hk htk => ?_)
  exact q _ (t.step (s' := { s with heap := h', toks := tk }) ap.rd ap.fz ap.as ap.mu (fun b o hb e => hk b o (by simpa using hb) e) t.gens rfl htk)
theorem iter_self {ds : List D} {it : Addr} {st : Nat → Heap → Prop} {i : Nat} {Q : Value → Shared → Prop} (hh : A.handled = none) (x : IterOk C I ds it st) (h : st i s.heap) (q : Q (.ref it) s) : wpAny (model C.prog C.w) A (pyIter (.ref it)) Q E s := by
  obtain ⟨fp, P, W, h2, h3⟩ := x.W
  exact (W A hh).self i s _ _ h q
theorem iter_keep {fm2 : Fm} {fz2 : Fz} {I2 : Im} {as2 : List Addr} {vars2 : Vars} {c2 : Cells} {s2 : Shared} {ds : List D} {it : Addr} {st : Nat → Heap → Prop} {i : Nat} {o : Obj} (t : St C fm fz I as vars c s) (x : IterOk C I ds it st) (h : st i s.heap) (ho : s.heap.get? it = some o)
    (l : I.le I2) (t2 : Gd C fz2 I2 as2 c2 s2) (hf : fz2 it = some o) (nf : ¬ IsFr C it) : st i s2.heap := by
  have hP : it ≠ C.P := let ⟨o', T, h1', h2', _⟩ := x.tup _ _ h; t.notTab' h1' h2'
  obtain ⟨fp, P, W, h2, h3⟩ := x.W
  refine (W { handled := none } rfl).frame i s.heap s2.heap h fun b hb o' e => ?_
  rcases h2 b hb with rfl | ⟨o2, e2⟩
  · rw [ho] at e; cases e; exact (t2.fr _ _ hP hf).exact nf
  · rw [t.rd b o2 e2] at e; cases e; exact t2.rd _ _ (l.2 _ _ e2)
theorem rangeSize_toNat (k : Int) : Builtin.Range.rangeSize 0 k 1 = (k.toNat : Int) := by
  rw [rangeSize_one]; split <;> omega
theorem rangeD_length (n : Nat) : (rangeD n).length = n := by unfold rangeD; rw [List.length_map, List.length_range]
theorem rangeD_get {n i : Nat} {d : D} (h : (rangeD n)[i]? = some d) : i < n ∧ d = .int i := by
  have hi : i < n := rangeD_length n ▸ len_of h
  unfold rangeD at h
  rw [List.getElem?_map, List.getElem?_range hi] at h
  exact ⟨hi, (Option.some.inj h).symm⟩
theorem rr_at {k i : Nat} (h : i < k) : ((k : Int) - 1) + (i : Int) * (-1) = ((k - 1 - i : Nat) : Int) := by omega
theorem IterOk.range (I : Im) (a : Addr) (k : Nat) : IterOk C I (rangeD k) a (fun i h => IsRangeIter h a (0 + (i : Nat) * 1) ((k : Int) - (i : Nat)) 1) where
  W := ⟨[a], fun i v => ∃ t, v = .int (0 + i * 1) t, fun A hh => by rw [rangeD_length]; exact Walks.range hh a 0 1 k, fun b hb => .inl (List.mem_singleton.mp hb), fun i v d hv hd => by
    obtain ⟨u, rfl⟩ := hv
    rw [(rangeD_get hd).2, Int.mul_one, Int.zero_add]; exact .mkInt ..⟩
  live i h e := ⟨_, e, fun v => nofun⟩
  tup i h e := ⟨_, _, e, rfl, by decide⟩
theorem IterOk.rrange (I : Im) (a : Addr) (k : Nat) : IterOk C I (rangeD k).reverse a (fun i h => IsRangeIter h a (((k : Int) - 1) + (i : Nat) * (-1)) ((k : Int) - (i : Nat)) (-1)) where
  W := ⟨[a], fun i v => ∃ t, v = .int (((k : Int) - 1) + i * (-1)) t, fun A hh => by rw [List.length_reverse, rangeD_length]; exact Walks.range hh a ((k : Int) - 1) (-1) k, fun b hb => .inl (List.mem_singleton.mp hb), fun i v d hv hd => by
    obtain ⟨u, rfl⟩ := hv
    have hi := len_of hd
    rw [List.getElem?_reverse (List.length_reverse ▸ hi), rangeD_length] at hd
    rw [List.length_reverse, rangeD_length] at hi
    rw [(rangeD_get hd).2, rr_at hi]; exact .mkInt ..⟩
  live i h e := ⟨_, e, fun v => nofun⟩
  tup i h e := ⟨_, _, e, rfl, by decide⟩
theorem IterOk.list {I : Im} {a l : Addr} {o : Obj} {its : Array Value} {ds : List D} (hne : l ≠ a) (ho : I.rd l = some o) (d : DRs I ds its.toList) : IterOk C I ds a (fun i h => h.IsListIter a l i ∧ h.IsList l its) where
  W := ⟨[a, l], fun i v => its[i]? = some v, fun A hh => by rw [← d.size]; exact Walks.list hh a l hne its, fun b hb => (List.mem_cons.mp hb).imp id fun hb => ⟨o, by rw [List.mem_singleton.mp hb]; exact ho⟩, fun i v x hv hx => by
    obtain ⟨u, hu, r⟩ := d.get hx
    cases (Array.getElem?_toList.trans hv).symm.trans hu
    exact r⟩
  live i h e := let ⟨⟨o, h1, _, h3⟩, _⟩ := e; ⟨o, h1, fun v hv => nomatch h3.symm.trans hv⟩
  tup i h e := let ⟨⟨o, h1, h2, _⟩, _⟩ := e; ⟨o, _, h1, h2, by decide⟩
theorem IterOk.str {I : Im} {a : Addr} {x : List Nat} {u : Tok} (T : String) (hT : ["enumerate", "zip", "dict_itemiterator", "dict_reverseitemiterator", "odict_iterator", "itertools.zip_longest", "itertools.pairwise"].contains T = false)
    (W : ∀ A : Around, A.handled = none → Walks C.prog C.w A a [a] [a] (mkS x).length (SignAt (mkS x)) (fun i h => h.IsStrIter a T (mkS x) u i)) : IterOk C I (x.map fun k => .str [k]) a (fun i h => h.IsStrIter a T (mkS x) u i) where
  W := ⟨[a], SignAt (mkS x), fun A hh => by rw [List.length_map, ← mkS_length x]; exact W A hh, fun b hb => .inl (List.mem_singleton.mp hb), fun i v d hv hd => by
    obtain ⟨ch, u2, h1, rfl⟩ := hv
    rw [List.getElem?_map] at hd
    obtain ⟨k, hk, rfl⟩ := Option.map_eq_some_iff.mp hd
    cases (List.getElem?_toArray.symm.trans h1).symm.trans hk
    exact ⟨Nat.le_add_left 1 999999, u2, rfl⟩⟩
  live i h e := let ⟨o, h1, _, h3⟩ := e; ⟨o, h1, fun v hv => nomatch h3.symm.trans hv⟩
  tup i h e := let ⟨o, h1, h2, _⟩ := e; ⟨o, T, h1, h2, hT⟩
theorem St.fresh (t : St C fm fz I as vars c s) {a : Addr} (z : s.heap.get? a = none) : Apart fm fz I as a := ⟨t.fresh_rd z, t.fresh_fz z, t.fresh_as z, t.fresh_mu z⟩
noncomputable def KI (C : Cx) (fm : Fm) (fz : Fz) (I : Im) (as : List Addr) (vars : Vars) (c : Cells) (ds : List D) (Q : Value → Shared → Prop) : Prop :=
  ∀ I' s' a st, I.le I' → St C fm fz I' as vars c s' → IterOk C I' ds a st → st 0 s'.heap → Apart fm fz I' as a → Q (.ref a) s'
theorem KI.step {ds : List D} {Q : Value → Shared → Prop} {I1 : Im} (q : KI C fm fz I as vars c ds Q) (l : I.le I1) : KI C fm fz I1 as vars c ds Q := fun I' s' a st l' => q I' s' a st (l.trans l')
theorem range_iter {k : Int} {u : Tok} {Q : Value → Shared → Prop} (t : St C fm fz I as vars c s) (hb : -100000 < k) (hk : k < 100000) (q : KI C fm fz I as vars c (rangeD k.toNat) Q) :
    wpAny (model C.prog C.w) A (call (.type "range") [.int k u]) (fun x s₁ => wpAny (model C.prog C.w) A (pyIter x) Q E s₁) E s := by
  refine call_range_1 (wpAny_pyIter_range (IsRange.new ..) (small_one (by decide) (by decide) (by omega) (by omega)) ?_)
  have t1 := t.heap_tok (h' := s.heap.push { cls := .type "range", data := .fields #[.int 0 s.toks, .int k u, .int 1 (s.toks + 1)] }) (k := s.toks + 1 + 1) (fun b o e => Heap.get?_push_of_some _ e) (Nat.succ_pos _)
  refine q I _ _ _ (Im.le.refl I) (t1.heap fun b o e => Heap.get?_push_of_some _ e) (IterOk.range I _ k.toNat) ?_ (t1.fresh (get?_size_none _))
  show Heap.get? _ _ = _
  rw [rangeSize_toNat]
  exact (Heap.get?_push_size _ rfl)
theorem list_iter {x : V} {l : List D} {v : Value} {Q : Value → Shared → Prop} (t : St C fm fz I as vars c s) (h : optList x = some l) (rx : VR I as x v) (q : KI C fm fz I as vars c l Q) : wpAny (model C.prog C.w) A (pyIter v) Q E s :=
  DR.seq (rx.toD (optList_is h)) fun a its m e2 _ e4 => by
    have e1 := t.rd _ _ e2
    have z := get?_size_none s.heap
    exact wpAny_pyIter_list (seq_list e1) (q I _ _ _ (Im.le.refl I) (t.heap fun b o e => Heap.get?_push_of_some _ e) (IterOk.list (fun h => by rw [h, z] at e1; exact noS e1) e2 e4) ⟨⟨_, Heap.get?_push_size _ rfl, rfl, rfl⟩, (seq_list e1).push _⟩ (t.fresh z))
theorem str_iter {y : V} {x : List Nat} {v : Value} {Q : Value → Shared → Prop} (t : St C fm fz I as vars c s) (h : optStr y = some x) (rx : VR I as y v) (q : KI C fm fz I as vars c (x.map fun k => .str [k]) Q) : wpAny (model C.prog C.w) A (pyIter v) Q E s :=
  rx.str h fun u hl => by
    have go : ∀ T hT W, Q (.ref s.heap.objs.size) { s with heap := s.heap.push { cls := .type T, data := .fields #[.str (mkS x) u, .int 0 0] } } := fun T hT W => q I _ _ _ (Im.le.refl I) (t.heap fun b o e => Heap.get?_push_of_some _ e) (IterOk.str (u := u) T hT W) ⟨_, Heap.get?_push_size _ rfl, rfl, rfl⟩ (t.fresh (get?_size_none _))
    cases ha : (mkS x).cps.all (· < 128) with
    | false => exact wpAny_pyIter_wide ha (go "str_iterator" (by decide) (fun A hh => Walks.strWide hh _ _ _))
    | true => exact wpAny_pyIter_ascii ha (go "str_ascii_iterator" (by decide) (fun A hh => Walks.strAscii hh _ _ _))
theorem sub_ri_reversed : isSubtype (.type "range_iterator") (.type "reversed") = pure false := by rw [isSubtype_type]; kernel_rfl
section
variable {prog : Program} {w : World}
noncomputable def ritO (x left step : Int) : Obj := { cls := .type "range_iterator", data := .fields #[rawInt x, rawInt left, rawInt step] }
theorem range_rev_meets (r : Addr) (a b c : Int) (t u v : Tok) (hc0 : ¬(!(Builtin.Range.rangeFitsLong a && Builtin.Range.rangeFitsLong b && Builtin.Range.rangeFitsLong c && Builtin.Range.rangeFitsLong (-c) && Builtin.Range.rangeFitsLong (a - c) && Builtin.Range.rangeFitsLong (Builtin.Range.rangeSize a b c))) = true) :
    Meets (Builtin.«range.__reversed__» ⟨[.ref r], []⟩) (fun _ R s => s.heap.get? r = some { cls := .type "range", dict := none, data := .fields #[.int a t, .int b u, .int c v], slots := #[] } ∧ R (.ok (.ret (Value.ref s.heap.objs.size))) { s with heap := s.heap.push { cls := Value.type (if (Builtin.Range.rangeFitsLong a && Builtin.Range.rangeFitsLong b && Builtin.Range.rangeFitsLong c && Builtin.Range.rangeFitsLong (-c) && Builtin.Range.rangeFitsLong (a - c) && Builtin.Range.rangeFitsLong (Builtin.Range.rangeSize a b c)) then "range_iterator" else "longrange_iterator"), data := .fields #[rawInt (a + (Builtin.Range.rangeSize a b c - 1) * c), rawInt (Builtin.Range.rangeSize a b c), rawInt (-c)] }, toks := s.toks }) :=
  .of_wp fun prog w A R s h => by obtain ⟨hp, g, d, tk, os⟩ := s; obtain ⟨hl, h⟩ := h; wp_walk; exact ⟨_, rfl, h⟩
theorem rev_small {k : Int} (h1 : -100000 < k) (h2 : k < 100000) : (Builtin.Range.rangeFitsLong 0 && Builtin.Range.rangeFitsLong k && Builtin.Range.rangeFitsLong 1 && Builtin.Range.rangeFitsLong (-1) && Builtin.Range.rangeFitsLong (0 - 1) && Builtin.Range.rangeFitsLong (Builtin.Range.rangeSize 0 k 1)) = true := by
  rw [rangeSize_toNat]
  simp only [Builtin.Range.rangeFitsLong, Bool.and_eq_true, decide_eq_true_eq]
  omega
theorem range_reversed {r : Addr} {k : Int} {u v z : Tok} {Q : Value → Shared → Prop} (hr : IsRange s.heap r 0 k 1 u v z) (h1 : -100000 < k) (h2 : k < 100000)
    (q : Q (.ref s.heap.objs.size) { s with heap := s.heap.push (ritO ((k.toNat : Int) - 1) (k.toNat : Int) (-1)) }) : wpAny (model prog w) A (call (.builtin "range.__reversed__") [.ref r]) Q E s := by
  have hT : s.TypeIs (.ref r) "range" := ⟨_, hr, rfl⟩
  refine call_meets PySem.F.slot_range_reversed hT PySem.F.entry_range_reversed (PySem.F.args_range_reversed_1 _) (range_rev_meets r 0 k 1 u v z (by rw [rev_small h1 h2]; decide)) ⟨hr, ?_⟩
  rw [rev_small h1 h2, rangeSize_toNat, if_pos rfl, show (0 : Int) + ((k.toNat : Int) - 1) * 1 = (k.toNat : Int) - 1 by omega]
  exact q
theorem reversed_new {r : Addr} {k : Int} {u v z : Tok} {Q₁ : Value → Shared → Prop} (hr : IsRange s.heap r 0 k 1 u v z) (h1 : -100000 < k) (h2 : k < 100000)
    (q : Q₁ (.ref s.heap.objs.size) { s with heap := s.heap.push (ritO ((k.toNat : Int) - 1) (k.toNat : Int) (-1)) }) :
    codeAny (model prog w) A (.call (.builtin "reversed.__new__") ⟨[.type "reversed", .ref r], []⟩) (wants Q₁ E) s := by
  have hT : s.TypeIs (.ref r) "range" := ⟨_, hr, rfl⟩
  refine codeAny_of_tree ?_
  show wpAny _ A.in1 (do checkBuiltinCall "reversed.__new__" ⟨[.type "reversed", .ref r], []⟩; again (.builtin "reversed.__new__" ⟨[.type "reversed", .ref r], []⟩)) _ _ s
  refine wpAny_bind (wpAny_of_eq (PySem.F.newCall_reversed_1 _) (wpAny_pure ⟨plainId_quiet PySem.F.plain_reversed_new _, codeAny_builtin PySem.F.entry_reversed_new ?_⟩))
  rw [Around.under_plainId PySem.F.plain_reversed_new _]
  unfold Builtin.«reversed.__new__»
  refine wpAny_bind (wpAny_of_eq (newClass_reversed _) ?_)
  refine wpAny_bind (wpAny_of_eq (a := ()) (by kernel_rfl) ?_)
  refine wpAny_bind (wpAny_of_eq (a := ()) (by kernel_rfl) ?_)
  refine wpAny_bind (wpAny_specialOf hT PySem.F.slot_range_reversed.lookup ?_)
  refine wpAny_bind (wpAny_of_eq (PySem.F.slot_range_reversed.bind _) ?_)
  show wpAny _ _ (if (Value.builtin "range.__reversed__" == Value.none) = true then _ else _) _ _ _
  rw [if_neg (show ¬ ((Value.builtin "range.__reversed__" == Value.none) = true) from Bool.false_ne_true)]
  refine wpAny_bind (wpAny_rule ?_)
  refine wpAny_bind (m := runValue (.call (.builtin "range.__reversed__") ⟨[.ref r], []⟩)) (show wpAny _ _ (call (.builtin "range.__reversed__") [.ref r]) _ _ _ from range_reversed hr h1 h2 ?_)
  first
  | exact wpAny_pure q
  | exact wpAny_bind (wpAny_pure (wpAny_pure q))
theorem call_reversed_range {r : Addr} {k : Int} {u v z : Tok} {Q : Value → Shared → Prop} (hr : IsRange s.heap r 0 k 1 u v z) (h1 : -100000 < k) (h2 : k < 100000)
    (q : Q (.ref s.heap.objs.size) { s with heap := s.heap.push (ritO ((k.toNat : Int) - 1) (k.toNat : Int) (-1)) }) : wpAny (model prog w) A (call (.type "reversed") [.ref r]) Q E s := by
  refine callType_other (U := "range_iterator") (Q₁ := fun obj s₁ => obj = .ref s.heap.objs.size ∧ s₁ = { s with heap := s.heap.push (ritO ((k.toNat : Int) - 1) (k.toNat : Int) (-1)) }) (by decide +kernel) PySem.F.create_reversed ⟨_, _, PySem.F.mro_reversed⟩ PySem.F.made_reversed sub_ri_reversed (PySem.F.typeCall_reversed_1 _) (reversed_new hr h1 h2 ⟨rfl, rfl⟩) ?_
  rintro obj s₁ ⟨rfl, rfl⟩
  exact ⟨⟨_, Heap.get?_push_size _ rfl, rfl⟩, q⟩
end
theorem rrange_iter {k : Int} {r : Addr} {u v z : Tok} {Q : Value → Shared → Prop} (t : St C fm fz I as vars c s) (hr : IsRange s.heap r 0 k 1 u v z) (hb : -100000 < k) (hk : k < 100000) (hh : A.handled = none)
    (q : KI C fm fz I as vars c (rangeD k.toNat).reverse Q) :
    wpAny (model C.prog C.w) A (call (.type "reversed") [.ref r]) (fun x s₁ => wpAny (model C.prog C.w) A (pyIter x) Q E s₁) E s := by
  refine call_reversed_range hr hb hk ?_
  have hi : IsRangeIter (s.heap.push (ritO ((k.toNat : Int) - 1) (k.toNat : Int) (-1))) s.heap.objs.size (((k.toNat : Int) - 1) + ((0 : Nat) : Int) * (-1)) ((k.toNat : Int) - ((0 : Nat) : Int)) (-1) := by
    show Heap.get? _ _ = _
    rw [Heap.get?_push_size _ rfl, Int.natCast_zero, Int.zero_mul, Int.add_zero, Int.sub_zero]; rfl
  exact iter_self (C := C) hh (IterOk.rrange I s.heap.objs.size k.toNat) hi (q I _ _ _ (Im.le.refl I) (t.heap fun b o e => Heap.get?_push_of_some _ e) (IterOk.rrange I _ k.toNat) hi (t.fresh (get?_size_none _)))
theorem call_plain {nl : NL} {s0 : Str} {e : PySem.Expr} {f : PySem.Expr → Bool} {env : Env} (h : call1 nl s0 e f = true) : starEach [e] env = [(false, eval e env)] := call1_elim (G := fun e => starEach [e] env = [(false, eval e env)]) h fun _ _ _ _ _ => rfl
theorem rng_elim {gg : EvT} {a : ME} {f : List D → List D} {ds : List D} {c' : Cells} {G : List D → Cells → Prop} (h : rng gg a vars c f = some (ds, c')) (k : ∀ x c1 j, gg a vars c = some (x, c1) → optInt x = some j → -100000 < j → j < 100000 → G (f (rangeD j.toNat)) c1) : G ds c' :=
  bind_some' h fun x h1 h => bind_some' h fun j h2 h => ifS h fun hk h => by cases h; exact k x.1 x.2 j h1 h2 (dc (an hk).1) (dc (an hk).2)
theorem items_ok (Z : Wk C F rank n tw fm A) {it : ME} {e : PySem.Expr} {ds : List D} {c' : Cells} {Q : Value → Shared → Prop} (h : chkIt (chkE k tw fm.nl) fm.nl it e = true) (t : St C fm fz I as vars c s) (he : itemsOf F rank n it vars c = some (ds, c')) (q : KI C fm fz I as vars c' ds Q) :
    wpAny (model C.prog C.w) A (eval e fm.env) (fun x s₁ => wpAny (model C.prog C.w) A (pyIter x) Q E s₁) E s := by
  replace h := (an h).2
  unfold itemsOf itE at he
  cases h1 : asRange it with
  | some a =>
    rw [h1] at h he
    exact rng_elim (G := fun ds c' => KI C fm fz I as vars c' ds Q → _) he (fun x c1 j e1 e2 b1 b2 q => call_typ1 Z 5 h rfl t e1 fun I1 s1 vx l1 t1 r1 => r1.int e2 fun u => range_iter t1 b1 b2 (q.step l1)) q
  | none =>
    rw [h1] at h he
    cases h2 : asRrange it with
    | some a =>
      rw [h2] at h he
      exact rng_elim (G := fun ds c' => KI C fm fz I as vars c' ds Q → _) he (fun x c1 j e1 e2 b1 b2 q => call1_elim (G := fun e => WE C A fm (fun x s₁ => wpAny (model C.prog C.w) A (pyIter x) Q E s₁) E s e) h fun p y pos hl ha => Call_ (eval_blt Z.g t hl (i := 6) rfl (by
        rw [call_plain ha]
        exact PySem.callWith_type (args := [(false, eval y fm.env)]) rfl (Calls.evalArgs_plain (Calls.spliced_cons (call_typ1 Z 5 ha rfl t e1 fun I1 s1 vx l1 t1 r1 => r1.int e2 fun u => call_range_1 (Calls.spliced_nil
          (rrange_iter (t1.heap_tok (k := s1.toks + 1 + 1) (fun b o e => Heap.get?_push_of_some _ e) (Nat.succ_pos _)) (IsRange.new ..) b1 b2 Z.r.1 (q.step l1))))))))) q
    | none =>
      rw [h2] at h he
      exact bind_some' he fun x h3 he => map_some' (G := fun z : List D × Cells => z = (ds, c') → _) he (fun l h4 ee => by
        cases ee
        exact Z.e1 h t h3 fun I1 s1 y l1 t1 r1 => orE_some h4 (fun l' h5 h6 => by cases h6; exact list_iter t1 h5 r1 (q.step l1)) fun h6 => map_some' (G := fun ds => KI C fm fz I as vars x.2 ds Q → _) h6 (fun tx h7 q => str_iter t1 h7 r1 (q.step l1)) q) rfl
end
end Mine
end
section
open PySem PySem.W PyProof.Rows PySem.SeqAt
set_option maxRecDepth 100000
namespace Mine
theorem lookup_mapK {f : Str → NameKind → NameKind} {x : Str} : ∀ {l : NL}, (l.map fun p => (p.1, f p.1 p.2)).lookup x = (l.lookup x).map (f x)
  | [] => rfl
  | (n, k) :: r => by
    rw [List.map_cons, List.lookup_cons, List.lookup_cons]
    cases h : x == n with
    | true => rw [eq_of_beq h]; rfl
    | false => exact lookup_mapK
theorem relabel_lookup (sc : Scope) (env : Env) (x : Str) : (relabel sc env).names.lookup x = (sc.names.lookup x).map fun k => if (k == .free && env.scope.kind == .function && env.kindOf x == some .cell) then .cell else k := by
  refine Eq.trans ?_ (lookup_mapK (f := fun n k => if (k == .free && env.scope.kind == .function && env.kindOf n == some .cell) then .cell else k))
  unfold relabel
  refine congrArg _ (List.map_congr_left fun p _ => ?_)
  show (if _ then _ else _) = _
  split <;> rfl
noncomputable def clOf (env : Env) : NL → List (Str × Addr) → Option (List (Str × Addr))
  | [], acc => some acc
  | p :: r, acc => if p.2 == .free then (env.cells.lookup p.1).bind fun a => clOf env r ((p.1, a) :: acc) else clOf env r acc
theorem closure_of {sc : Scope} {env : Env} {cl : List (Str × Addr)} (h : clOf env sc.names [] = some cl) : closureFor sc env = pure cl := by
  unfold closureFor
  have key : ∀ (l : NL) (acc : List (Str × Addr)), clOf env l acc = some cl → (forIn l acc (fun (x : Str × NameKind) cs => do
      if x.2 == .free then
        let a ← cellOf env x.1
        pure (ForInStep.yield ((x.1, a) :: cs))
      else pure (ForInStep.yield cs)) : Sem (List (Str × Addr))) = pure cl := by
    intro l
    induction l with
    | nil => intro acc h; cases h; rfl
    | cons p r ih =>
      intro acc h
      rw [List.forIn_cons]
      refine ifB h (fun hk h => bind_some' h fun a ha h => ?_) fun hk h => ?_
      · rw [if_pos hk, cellOf, ha]; exact ih _ h
      · rw [if_neg (hk ▸ Bool.false_ne_true)]; exact ih _ h
  have := key sc.names [] h
  simpa using this
noncomputable def ClJ (env : Env) (l : NL) (acc cl : List (Str × Addr)) : Prop := (∀ n a, cl.lookup n = some a → env.cells.lookup n = some a) ∧ (∀ n, ((acc.lookup n).isSome ∨ (n, NameKind.free) ∈ l) → (cl.lookup n).isSome)
theorem cl_lookup {env : Env} {cl : List (Str × Addr)} {l : NL} : ∀ {acc : List (Str × Addr)}, clOf env l acc = some cl → (∀ n a, acc.lookup n = some a → env.cells.lookup n = some a) → ClJ env l acc cl := by
  induction l with
  | nil => intro acc h ha; cases h; exact ⟨ha, fun n hn => hn.elim id fun h => nomatch h⟩
  | cons p r ih =>
    intro acc h ha
    refine ifB h (fun hk h => bind_some' h fun a he h => ?_) fun hk h => ?_
    · have i := ih h fun n b hb => by
        rw [List.lookup_cons] at hb
        cases hn : n == p.1 with
        | true => rw [hn] at hb; exact Option.some.inj hb ▸ eq_of_beq hn ▸ he
        | false => rw [hn] at hb; exact ha n b hb
      refine ⟨i.1, fun n hn => i.2 n (hn.elim (fun hn => .inl ?_) fun hn => (List.mem_cons.mp hn).elim (fun hn => .inl ?_) .inr)⟩
      · rw [List.lookup_cons]
        cases n == p.1 with
        | true => rfl
        | false => exact hn
      · rw [← hn, List.lookup_cons, beq_self_eq_true]; rfl
    · have i := ih h ha
      exact ⟨i.1, fun n hn => i.2 n (hn.imp id fun hn => (List.mem_cons.mp hn).elim (fun hn => by rw [← hn] at hk; exact nomatch hk) id)⟩
theorem cl_some {env : Env} {l : NL} : ∀ {acc : List (Str × Addr)}, (∀ n, (n, NameKind.free) ∈ l → (env.cells.lookup n).isSome) → ∃ cl, clOf env l acc = some cl := by
  induction l with
  | nil => exact fun _ => ⟨_, rfl⟩
  | cons p r ih =>
    intro acc h
    have ih := fun acc => ih (acc := acc) fun m hm => h m (List.mem_cons_of_mem _ hm)
    show ∃ cl, (if (p.2 == .free) = true then (env.cells.lookup p.1).bind fun a => clOf env r ((p.1, a) :: acc) else clOf env r acc) = some cl
    cases hk : (p.2 == .free) with
    | true =>
      obtain ⟨a, ha⟩ := Option.isSome_iff_exists.mp (h p.1 (by rw [← show p.2 = .free from eq_of_beq hk]; exact List.mem_cons_self ..))
      rw [if_pos rfl, ha]; exact ih _
    | false => rw [if_neg Bool.false_ne_true]; exact ih acc
noncomputable def fmC (sc : Scope) (cl : List (Str × Addr)) (Cn : Addr) (env : Env) : Fm := { env := compEnvC sc cl Cn env, mu := [Cn], nl := sc.names }
section
variable {C : Cx} {F : FT} {rank : Nat → Nat} {n : Nat} {k : Nat} {tw : Bool} {fm : Fm} {fz : Fz} {I : Im} {as : List Addr} {vars : Vars} {c : Cells} {s : Shared} {A : Around} {E : Value → Shared → Prop}
structure CompFacts (nl : NL) (xs : List Nat) (sc : Scope) : Prop where
  kind : sc.kind = .function
  self : ∀ id k, (id, k) ∈ sc.names → sc.names.lookup id = some k
  noCell : ∀ id, (id, NameKind.cell) ∉ sc.names
  loc : ∀ id, (id, NameKind.local) ∈ sc.names → id = Str.ofString ".0" ∨ ∃ x ∈ xs, nms[x]? = some id
  free : ∀ id, (id, NameKind.free) ∈ sc.names → nl.lookup id = some .cell
  own : ∀ x ∈ xs, ∃ id, nms[x]? = some id ∧ sc.names.lookup id = some .local
theorem orI {a b : Bool} (h : (!a || b) = true) (ha : a = true) : b = true := (Bool.or_eq_true_iff.mp h).elim (fun h => by rw [ha] at h; exact nomatch h) id
theorem compFacts {nl : NL} {xs : List Nat} {sc : Scope} (h : compOk nl xs sc = true) : CompFacts nl xs sc := by
  have h2 := List.all_eq_true.mp (an (an h).1).2
  refine ⟨dc (an (an h).1).1, fun id k hm => dc (an (an (an (h2 _ hm)).1).1).1, fun id hm => ?_, fun id hm => ?_, fun id hm => dc (orI (an (h2 _ hm)).2 (decide_eq_true rfl)), fun x hx => ?_⟩
  · exact nomatch (an (an (an (h2 _ hm)).1).1).2
  · have h3 := (an (an (h2 _ hm)).1).2
    rw [Bool.or_assoc] at h3
    exact (Bool.or_eq_true_iff.mp (orI h3 (decide_eq_true rfl))).imp dc fun h => (List.any_eq_true.mp h).imp fun x h => ⟨h.1, dc h.2⟩
  · exact any_is (List.all_eq_true.mp (an h).2 x hx) fun id e h => ⟨id, e, dc h⟩
theorem nms_dot {x : Nat} : nms[x]? ≠ some (Str.ofString ".0") := fun e =>
  nomatch List.all_eq_true.mp (show nms.all (fun id => !(id == Str.ofString ".0")) = true by decide +kernel) _ (List.mem_of_getElem? e)
theorem mem_lookup {l : NL} {id : Str} {k : NameKind} (h : l.lookup id = some k) : (id, k) ∈ l := by
  induction l with
  | nil => exact noS h
  | cons p r ih =>
    rw [List.lookup_cons] at h
    cases hx : id == p.1 with
    | true => rw [hx] at h; rw [eq_of_beq hx, ← Option.some.inj h]; exact List.mem_cons_self ..
    | false => rw [hx] at h; exact List.mem_cons_of_mem _ (ih h)
theorem comp_frOk {xs : List Nat} {sc : Scope} {cl : List (Str × Addr)} {Cn : Addr} (x : CompFacts fm.nl xs sc) (ok : FrOk fm) : FrOk (fmC sc cl Cn fm.env) where
  kind := x.kind
  glob := ok.glob
  bi := ok.bi
  loc := List.mem_cons_self ..
  names id k h hk := by
    show (relabel sc fm.env).names.lookup id = some k
    rw [relabel_lookup, show sc.names.lookup id = some k from h, Option.map_some]
    rw [if_neg]
    intro hh
    simp only [Bool.and_eq_true] at hh
    exact hk (eq_of_beq hh.1.1)
  frees id h := by
    show (relabel sc fm.env).names.lookup id = some .cell
    rw [relabel_lookup, show sc.names.lookup id = some .free from h, Option.map_some, if_pos]
    simp only [beq_self_eq_true, Bool.true_and, Bool.and_eq_true, beq_iff_eq]
    refine ⟨ok.kind, ?_⟩
    exact ok.names id _ (x.free id (mem_lookup h)) (by decide)
  cel id h := absurd (mem_lookup h) (x.noCell id)
theorem free_cell {id : Str} {v : V} {y : Nat} (t : St C fm fz I as vars c s) (h : fm.nl.lookup id = some .cell) (hy : nms[y]? = some id) (hv : vget vars y = some v) :
    ∃ u cc, VR I as v u ∧ fm.env.cells.lookup id = some cc ∧ s.heap.IsCell cc (some u) ∧ (cc ∈ fm.mu ∨ ∃ o, fz cc = some o) := by
  have hk : fm.env.kindOf id = some .cell := t.ok.names id _ h (by decide)
  obtain ⟨m, hm, w⟩ := t.vr
  obtain ⟨u, r, z⟩ := w y v id .cell hv hy h rfl
  rcases z with ⟨z1, _⟩ | ⟨_, cc, z2, z3, z4⟩
  · rw [hk] at z1; cases z1
  · exact ⟨u, cc, r, z2, z3, z4⟩
theorem comp_closure {xs : List Nat} {sc : Scope} (x : CompFacts fm.nl xs sc) (ok : FrOk fm) : ∃ cl, clOf fm.env sc.names [] = some cl :=
  cl_some fun n hn => let ⟨cc, h, _⟩ := ok.cel n (x.free n hn); by rw [h]; rfl
theorem comp_kept (t : St C fm fz I as vars c s) {cc : Addr} {o : Obj} (h3 : cc ∈ fm.mu ∨ ∃ o, fz cc = some o) (e1 : s.heap.get? cc = some o) (hP : cc ≠ C.P) : ∃ o2, fz.join fm.mu s.heap cc = some o2 ∧ o2.data = o.data :=
  h3.elim (fun h3 => ⟨o, jn_in (t.mu cc h3).2.1 h3 e1, rfl⟩) fun ⟨o', h3⟩ => let ⟨_, p1, p2⟩ := (t.fr cc o' hP h3).data; ⟨o', jn_of h3, p2.symm.trans (congrArg Obj.data (Option.some.inj (p1.symm.trans e1)))⟩
theorem comp_st {xs : List Nat} {sc : Scope} {cl : List (Str × Addr)} {Cn : Addr} {I' : Im} {c' : Cells} {s' : Shared} {fz3 : Fz} {m : Str → Option Value} {vars' : Vars} (x : CompFacts fm.nl xs sc) (hcl : clOf fm.env sc.names [] = some cl) (t : St C fm fz I as vars c s) (l : I.le I') (g : Gd C fz3 I' as c' s')
    (hfz : ∀ a o, fz.join fm.mu s.heap a = some o → fz3 a = some o) (hn : s'.heap.Ns Cn m) (a1 : I'.rd Cn = none) (a2 : fz3 Cn = none) (a3 : Cn ∉ as)
    (hv : ∀ y v id, vget vars' y = some v → nms[y]? = some id → sc.names.lookup id = some .local → ∃ u, VR I' as v u ∧ m id = some u)
    (hf : ∀ y v id, vget vars' y = some v → nms[y]? = some id → sc.names.lookup id = some .free → vget vars y = some v) : St C (fmC sc cl Cn fm.env) fz3 I' as vars' c' s' where
  fls := fun env he => let ⟨h1, a, h2, h3⟩ := t.flHold.more hfz env he; ⟨h1, a, h2, h3.elim .inl fun e => nomatch e⟩
  toGd := g
  ok := comp_frOk x t.ok
  mu a ha := by
    obtain rfl : a = Cn := List.mem_singleton.mp ha
    obtain ⟨o, es, ep, e1, _⟩ := hn
    exact ⟨a1, a2, a3, o, e1, .inl rfl⟩
  vr := by
    refine ⟨m, hn, fun y v nm kk hy hnm hk hvk => ?_⟩
    have hk' : sc.names.lookup nm = some kk := hk
    cases kk with
    | «local» =>
      obtain ⟨u, r, hm⟩ := hv y v nm hy hnm hk'
      exact ⟨u, r, .inl ⟨(comp_frOk x t.ok).names nm _ hk' (by decide), hm⟩⟩
    | cell => exact absurd (mem_lookup hk') (x.noCell nm)
    | free =>
      obtain ⟨u, cc, r, h1, h2, h3⟩ := free_cell t (x.free nm (mem_lookup hk')) hnm (hf y v nm hy hnm hk')
      refine ⟨u, r.mono l, .inr ⟨(comp_frOk x t.ok).frees nm hk', cc, ?_, ?_, ?_⟩⟩
      · obtain ⟨q1, q2⟩ := cl_lookup hcl (fun n a h => nomatch h)
        obtain ⟨a, ha⟩ := Option.isSome_iff_exists.mp (q2 nm (.inr (mem_lookup hk')))
        have := q1 nm a ha
        rw [h1] at this; cases this
        exact ha
      · obtain ⟨o, e1, e2⟩ := h2
        have hP : cc ≠ C.P := t.notTab e1 fun ps h => by rw [e2] at h; cases h
        obtain ⟨o2, k1, k2⟩ := comp_kept t h3 e1 hP
        obtain ⟨o3, p1, p2⟩ := (g.fr cc o2 hP (hfz cc o2 k1)).data
        exact ⟨o3, p1, p2.trans (k2.trans e2)⟩
      · right
        obtain ⟨o, e1, e2⟩ := h2
        have hP : cc ≠ C.P := t.notTab e1 fun ps h => by rw [e2] at h; cases h
        obtain ⟨o2, k1, k2⟩ := comp_kept t h3 e1 hP
        exact ⟨o2, hfz cc o2 k1⟩
    | globalExplicit => exact noT hvk
    | globalImplicit => exact noT hvk
theorem Gd.next_item {ds : List D} {it : Addr} {st : Nat → Heap → Prop} {i : Nat} {d : D} {Q : Option Value → Shared → Prop} (hh : A.handled = none) (g : Gd C fz I as c s) (x : IterOk C I ds it st) (a1 : I.rd it = none) (a2 : fz it = none) (a3 : it ∉ as) (h : st i s.heap) (hd : ds[i]? = some d)
    (q : ∀ s' v, DR I d v → Gd C fz I as c s' → (∀ b o, b ≠ it → s.heap.get? b = some o → s'.heap.get? b = some o) → st (i + 1) s'.heap → Q (some v) s') : wpAny (model C.prog C.w) A (pyNext (.ref it)) Q E s := by
  obtain ⟨fp, P, W, h2, h3⟩ := x.W
  refine wpAny_pos g.pos ((W A hh).item i s _ _ (List.getElem?_eq_some_iff.mp hd).1 h fun v h' tk hp hs hk htk => ?_)
  exact q _ v (h3 i v d hp hd) (g.step (s' := { s with heap := h', toks := tk }) a1 a2 a3 (fun b o hb e => hk b o (by simpa using hb) e) g.gens rfl htk) (fun b o hb e => hk b o (by simpa using hb) e) hs
theorem Gd.next_end {ds : List D} {it : Addr} {st : Nat → Heap → Prop} {Q : Option Value → Shared → Prop} (hh : A.handled = none) (g : Gd C fz I as c s) (x : IterOk C I ds it st) (a1 : I.rd it = none) (a2 : fz it = none) (a3 : it ∉ as) (h : st ds.length s.heap)
    (q : ∀ s', Gd C fz I as c s' → (∀ b o, b ≠ it → s.heap.get? b = some o → s'.heap.get? b = some o) → Q none s') : wpAny (model C.prog C.w) A (pyNext (.ref it)) Q E s := by
  obtain ⟨fp, P, W, h2, h3⟩ := x.W
  refine wpAny_pos g.pos ((W A hh).done s _ _ h fun h' tk hk htk => ?_)
  exact q _ (g.step (s' := { s with heap := h', toks := tk }) a1 a2 a3 (fun b o hb e => hk b o (by simpa using hb) e) g.gens rfl htk) (fun b o hb e => hk b o (by simpa using hb) e)
theorem IterOk.frame {ds : List D} {it : Addr} {st : Nat → Heap → Prop} {i : Nat} {h h' : Heap} (x : IterOk C I ds it st) (hs : st i h) (k : ∀ b, (b = it ∨ ∃ o, I.rd b = some o) → ∀ o, h.get? b = some o → h'.get? b = some o) : st i h' := by
  obtain ⟨fp, P, W, h2, h3⟩ := x.W
  exact (W { handled := none } rfl).frame i h h' hs fun b hb => k b (h2 b hb)
end
end Mine
end
section
open PySem PySem.W PyProof.Rows PySem.SeqAt
set_option maxRecDepth 100000
namespace Mine
section
variable {C : Cx} {F : FT} {rank : Nat → Nat} {n : Nat} {k : Nat} {tw : Bool} {fm : Fm} {fz : Fz} {I : Im} {as : List Addr} {vars : Vars} {c : Cells} {s : Shared} {A : Around} {E : Value → Shared → Prop}
noncomputable def CQ (C : Cx) (A : Around) (E : Value → Shared → Prop) (fm : Fm) (fz : Fz) (I : Im) (as : List Addr) (vars : Vars) (c : Cells) (l : List D) (use : Option (Value → Sem Unit)) (Q : Value → Shared → Prop) : Prop := match use with
  | none => KF C fm fz I as vars c l Q
  | some u => ∀ fz' I' s' a its nn, I.le I' → (∀ b o, fz b = some o → fz' b = some o) → St C fm fz' I' as vars c s' → s'.heap.get? a = some (listO its nn) → l.length ≤ 1000000 → DRs I' l its.toList → Apart fm fz' I' as a →
      wpAny (model C.prog C.w) A (u (.ref a)) (fun _ s'' => ∃ I'' vars'', I'.le I'' ∧ St C fm fz' I'' as vars'' c s'' ∧ ∀ s3, St C fm fz I'' as vars'' c s3 → Q .none s3) E s'
theorem join_none (t : St C fm fz I as vars c s) {a : Addr} (h : fz.join fm.mu s.heap a = none) : fz a = none ∧ a ∉ fm.mu :=
  ⟨jn_fz h, fun hm => let ⟨_, q2, _, _, q, _⟩ := t.mu a hm; noS (h.symm.trans (jn_in q2 hm q))⟩
theorem join_is {a : Addr} {h : Heap} (e : fz a = none) (hm : a ∉ fm.mu) : fz.join fm.mu h a = none := jn_out e hm
theorem comp_fin {I' : Im} {c' : Cells} {s' : Shared} {l : List D} {use : Option (Value → Sem Unit)} {Q : Value → Shared → Prop} {a Cn : Addr} {its : Array Value} {nn : Nat} {m : Str → Option Value} {f : Flow} (t : St C fm fz I as vars c s) (hl : I.le I') (g : Gd C (fz.join fm.mu s.heap) I' as c' s')
    (ha : s'.heap.get? a = some (listO its nn)) (hn : l.length ≤ 1000000) (d : DRs I' l its.toList) (a1 : I'.rd a = none) (a2 : fz.join fm.mu s.heap a = none) (a3 : a ∉ as)
    (hC : s'.heap.Ns Cn m) (b1 : I'.rd Cn = none) (b2 : fz.join fm.mu s.heap Cn = none) (b3 : Cn ∉ as) (hac : a ≠ Cn) (q : CQ C A E fm fz I as vars c' l use Q) : compPost (model C.prog C.w) A E use Q (.ref a) Cn (.ok f) s' := by
  have t1 := t.back hl g
  obtain ⟨x1, x2⟩ := join_none t a2
  obtain ⟨y1, y2⟩ := join_none t b2
  cases use with
  | none =>
    refine ⟨m, hC, fun h' hs => ?_⟩
    exact q I' _ a its nn hl (t1.step (s' := { s' with heap := h' }) b1 y1 b3 y2 (fun b o hb e => (hs.2 b hb).trans e) t1.gens rfl t1.pos) ((hs.2 a hac).trans ha) hn d a1 x1 a3 x2
  | some u =>
    obtain ⟨o, es, ep, e1, e2, e3⟩ := id hC
    have t2 := t1.strong b1 y1 b3 y2 e1
    refine wpAny_mono (q _ I' s' a its nn hl (fun b o' e => Fz.add_of y1 e) t2 ha hn d ⟨a1, ?_, a3, x2⟩) (fun _ s'' hh => ?_) fun _ _ e => e
    · show (if a = Cn then some o else fz a) = none
      rw [if_neg hac]; exact x1
    · obtain ⟨I'', vars'', l2, t3, q3⟩ := hh
      have hP : Cn ≠ C.P := t1.neP y1
      have nF : ¬ IsFr C Cn := t1.noFr y1 y2
      have eC := (t3.fr Cn o hP (Fz.add_self ..)).exact nF
      refine ⟨m, ⟨o, es, ep, eC, e2, e3⟩, fun h' hs => q3 _ ?_⟩
      have t4 := t3.unstrong y1 hP nF (fun v hv => by rw [e2] at hv; cases hv)
      exact t4.step (s' := { s'' with heap := h' }) (t3.dj Cn o (Fz.add_self ..)) y1 b3 y2 (fun b o hb e => (hs.2 b hb).trans e) t4.gens rfl t4.pos
theorem set_plain {iter : PySem.Expr} {env : Env} (h : isSetE iter = false) (y : Value) : foldedSetIterable iter env y = pure y := by
  cases iter with
  | Set => exact nomatch h
  | _ => rfl
theorem comp_in (Z : Wk C F rank n tw fm A) {it : ME} {iter elt : PySem.Expr} {id : Str} {px pos fp : Pos} {ifs : List PySem.Expr} {more : List Comprehension} {sc : Scope} {xs : List Nat} {ds : List D} {c1 : Cells} {use : Option (Value → Sem Unit)} {Q : Value → Shared → Prop}
    (x : CompFacts fm.nl xs sc) (hit : chkIt (chkE k tw fm.nl) fm.nl it iter = true) (t : St C fm fz I as vars c s) (he : itemsOf F rank n it vars c = some (ds, c1))
    (q : ∀ I' s' s'' itA st cl a Cn, I.le I' → St C fm fz I' as vars c1 s' → IterOk C I' ds itA st → st 0 s''.heap → clOf fm.env sc.names [] = some cl → Gd C (fz.join fm.mu s'.heap) I' as c1 s'' → Apart fm fz I' as itA → s''.heap.get? a = some (listO #[] 0) → s''.heap.Ns Cn (fun _ => none) →
      (I'.rd a = none ∧ fz.join fm.mu s'.heap a = none ∧ a ∉ as) → (I'.rd Cn = none ∧ fz.join fm.mu s'.heap Cn = none ∧ Cn ∉ as) → a ≠ Cn → itA ≠ a → itA ≠ Cn → (∃ o, s''.heap.get? itA = some o) →
      codeAny (model C.prog C.w) A (.compLoop (.ListComp elt (⟨.Name id px, iter, ifs, 0⟩ :: more) sc pos) 0 (.ref itA) (.ref a) (compEnvC sc cl Cn fm.env)) (compPost (model C.prog C.w) A E use Q (.ref a) Cn) s'') :
    wpAny (model C.prog C.w) A (comprehension (.ListComp elt (⟨.Name id px, iter, ifs, 0⟩ :: more) sc pos) sc fm.env fp (newList []) false (eval iter fm.env) use) Q E s := by
  obtain ⟨cl, hcl⟩ := comp_closure x t.ok
  have hset : ∀ y, foldedSetIterable iter fm.env y = pure y := set_plain ((Bool.not_eq_true' _).mp (an hit).1)
  refine wpAny_comprehension_free (g := ⟨.Name id px, iter, ifs, 0⟩) (gs := more) rfl hset (closure_of hcl) x.kind (fun y hy hl => by obtain ⟨y1, y2⟩ := y; cases hl; exact x.self _ _ hy) ?_
  refine items_ok Z hit t he fun I2 s2 itA st l2 t2 i2 h2 ap => ?_
  refine wpAny_newObj_type (wpAny_newFunctionEnv (fun y hy hc => by obtain ⟨y1, y2⟩ := y; cases hc; exact x.noCell _ hy) (fun y hy => nomatch hy) (fun h₁ hns hsb => ?_) x.kind)
  have z := get?_size_none s2.heap
  have z1 := get?_size_none (s2.heap.push { cls := .type "list", data := .seq ([] : List Value).toArray })
  have zC : s2.heap.get? (s2.heap.push { cls := .type "list", data := .seq ([] : List Value).toArray }).objs.size = none := by
    cases e : s2.heap.get? (s2.heap.push { cls := .type "list", data := .seq ([] : List Value).toArray }).objs.size with
    | none => rfl
    | some o => rw [Heap.get?_push_of_some _ e] at z1; cases z1
  have old : ∀ b o, s2.heap.get? b = some o → h₁.get? b = some o := fun b o e => by
    have e1 := Heap.get?_push_of_some ({ cls := .type "list", data := .seq ([] : List Value).toArray } : Obj) e
    have hb : b ≠ (s2.heap.push { cls := .type "list", data := .seq ([] : List Value).toArray }).objs.size := fun hb => by rw [hb, zC] at e; cases e
    exact (hsb.2 b hb).trans (Heap.get?_push_of_some _ e1)
  have hac : s2.heap.objs.size ≠ (s2.heap.push { cls := .type "list", data := .seq ([] : List Value).toArray }).objs.size := by rw [Heap.size_push]; exact Nat.ne_of_lt (Nat.lt_succ_self _)
  have ea : h₁.get? s2.heap.objs.size = some (listO #[] 0) := (hsb.2 _ hac).trans (Heap.get?_push_of_some _ (Heap.get?_push_size _ rfl))
  obtain ⟨oi, hoi, _⟩ := i2.live 0 _ h2
  have hia : itA ≠ s2.heap.objs.size := fun h => by rw [h, z] at hoi; cases hoi
  have hic : itA ≠ (s2.heap.push { cls := .type "list", data := .seq ([] : List Value).toArray }).objs.size := fun h => by rw [h, zC] at hoi; cases hoi
  have jn : ∀ b, s2.heap.get? b = none → fz.join fm.mu s2.heap b = none := fun b hb => join_is (t2.fresh_fz hb) (t2.fresh_mu hb)
  have gg : Gd C (fz.join fm.mu s2.heap) I2 as c1 { s2 with heap := h₁, toks := s2.toks + ([] : List (Str × Value)).length } :=
    t2.hold.step (t2.fresh_rd zC) (jn _ zC) (t2.fresh_as zC) (fun b o _ e => old b o e) t2.gens rfl t2.pos
  have hst : st 0 h₁ := i2.frame h2 fun b _ o e => old b o e
  have loop := q I2 s2 { s2 with heap := h₁, toks := s2.toks + ([] : List (Str × Value)).length } itA st cl _ _ l2 t2 i2 hst hcl gg ap ea hns ⟨t2.fresh_rd z, jn _ z, t2.fresh_as z⟩ ⟨t2.fresh_rd zC, jn _ zC, t2.fresh_as zC⟩ hac hia hic ⟨oi, old _ _ hoi⟩
  exact codeAny_compStart_list loop (iter_self Z.r.1 i2 hst loop)
theorem elE_elim {gg : EvT} {e : ME} {x : Nat} {d : D} {out : List D} {c1 : Cells} {G : List D → Prop} (h : elE gg e x vars d c = some (out, c1)) (k : ∀ w, gg e (vset x (.d d) vars) c = some (.d w, c1) → G [w]) : G out :=
  bind_some' h fun v h1 h => map_some' (G := fun z : List D × Cells => z = (out, c1) → _) h (fun w h2 e => by cases e; exact k w (h1.trans (congrArg some (Prod.ext (dOf_is h2) rfl)))) rfl
structure CB (C : Cx) (fm : Fm) (fz : Fz) (I : Im) (as : List Addr) (vars : Vars) (c : Cells) (s : Shared) (xs : List Nat) (sc : Scope) (cl : List (Str × Addr)) (fzA : Fz) (Cn a it : Addr) : Prop where
  X : CompFacts fm.nl xs sc
  cl : clOf fm.env sc.names [] = some cl
  t : St C fm fz I as vars c s
  hfz : ∀ b o, fz.join fm.mu s.heap b = some o → fzA b = some o
  za : fzA a = none
  zC : fzA Cn = none
  zi : fzA it = none
  na : a ∉ as
  nC : Cn ∉ as
  ni : it ∉ as
  ac : a ≠ Cn
  ia : it ≠ a
  ic : it ≠ Cn
inductive CI (C : Cx) (fzA : Fz) (as : List Addr) (Cn a it : Addr) (st : Nat → Heap → Prop) (ds : List D) (run : D → Cells → Option (List D × Cells)) (I0 : Im) (c' : Cells) (l : List D) (P : Im → (Str → Option Value) → Prop) (rr : Nat) (s1 : Shared) : Prop
  | mk {I' : Im} {c2 : Cells} {acc : List D} {its : Array Value} {nn : Nat} {m : Str → Option Value} {i : Nat} {rest : List D} : rr = ds.length - i → i ≤ ds.length → I0.le I' → Gd C fzA I' as c2 s1 → s1.heap.get? a = some (listO its nn) → DRs I' acc its.toList → I'.rd a = none → I'.rd Cn = none → I'.rd it = none →
      s1.heap.Ns Cn m → P I' m → st i s1.heap → compRun run (ds.drop i) c2 = some (rest, c') → acc ++ rest = l → CI C fzA as Cn a it st ds run I0 c' l P rr s1
noncomputable def fz4 (fzA : Fz) (a it : Addr) (its : Array Value) (nn : Nat) (oi : Obj) : Fz := (fzA.add a (listO its nn)).add it oi
theorem ne_of {f : Addr → Option Obj} {a b : Addr} {o : Obj} (h1 : f a = none) (h2 : f b = some o) : b ≠ a := fun q => by rw [q, h1] at h2; exact noS h2
section
variable {xs : List Nat} {sc : Scope} {cl : List (Str × Addr)} {fzA : Fz} {Cn a it : Addr} {st : Nat → Heap → Prop} {ds : List D} {run : D → Cells → Option (List D × Cells)} {I0 : Im} {c' : Cells} {l : List D} {P : Im → (Str → Option Value) → Prop} {rr : Nat} {s1 : Shared}
theorem CB.nf (B : CB C fm fz I as vars c s xs sc cl fzA Cn a it) {b : Addr} (h : fzA b = none) : ¬ IsFr C b := by
  have h' : fz.join fm.mu s.heap b = none := by
    cases e : fz.join fm.mu s.heap b with
    | none => rfl
    | some o => exact nomatch h.symm.trans (B.hfz b o e)
  exact B.t.noFr (join_none B.t h').1 (join_none B.t h').2
theorem CB.z4 (B : CB C fm fz I as vars c s xs sc cl fzA Cn a it) {its : Array Value} {nn : Nat} : (fzA.add a (listO its nn)) it = none := (if_neg B.ia).trans B.zi
theorem CB.w4 (B : CB C fm fz I as vars c s xs sc cl fzA Cn a it) {its : Array Value} {nn : Nat} {oi : Obj} (b : Addr) (o : Obj) (e : fzA b = some o) : fz4 fzA a it its nn oi b = some o := Fz.add_of B.z4 (Fz.add_of B.za e)
theorem CB.a4 (B : CB C fm fz I as vars c s xs sc cl fzA Cn a it) {its : Array Value} {nn : Nat} {oi : Obj} : fz4 fzA a it its nn oi a = some (listO its nn) := Fz.add_of B.z4 (Fz.add_self ..)
theorem CB.i4 {its : Array Value} {nn : Nat} {oi : Obj} : fz4 fzA a it its nn oi it = some oi := Fz.add_self ..
theorem CB.c4 (B : CB C fm fz I as vars c s xs sc cl fzA Cn a it) {its : Array Value} {nn : Nat} {oi : Obj} : fz4 fzA a it its nn oi Cn = none := (if_neg (Ne.symm B.ic)).trans ((if_neg (Ne.symm B.ac)).trans B.zC)
structure TF (st : Nat → Heap → Prop) (I0 I1 : Im) (ds : List D) (it : Addr) (oi : Obj) (i : Nat) (h3 : Heap) : Prop where
  lt : i < ds.length
  le : I0.le I1
  st : st (i + 1) h3
  oi : h3.get? it = some oi
  rd : ∀ b o, I1.rd b = some o → h3.get? b = some o
theorem CB.w5 (B : CB C fm fz I as vars c s xs sc cl fzA Cn a it) {its : Array Value} {nn : Nat} {oi : Obj} (b : Addr) (o : Obj) (e : (fzA.add it oi) b = some o) : fz4 fzA a it its nn oi b = some o := by
  show (if b = it then some oi else (if b = a then _ else fzA b)) = some o
  have e' : (if b = it then some oi else fzA b) = some o := e
  by_cases h : b = it
  · rw [if_pos h] at e' ⊢; exact e'
  · rw [if_neg h] at e' ⊢; rw [if_neg (ne_of B.za e')]; exact e'
theorem len_part {α : Type} {a b l : List α} {n : Nat} (h : a ++ b = l) (hl : l.length ≤ n) : a.length ≤ n := Nat.le_trans (Nat.le_trans (Nat.le_add_right ..) (Nat.le_of_eq List.length_append.symm)) (h ▸ hl)
theorem CI.again (i2 : IterOk C I0 ds it st) {I1 I7 : Im} {h3 : Heap} {oi : Obj} {i nn' : Nat} {its' : Array Value} {c6 : Cells} {s7 : Shared} {acc' rest : List D} {m6 : Str → Option Value} (T : TF st I0 I1 ds it oi i h3) (lI : I1.le I7) (g : Gd C fzA I7 as c6 s7) (hoi : s7.heap.get? it = some oi) (n1 : I7.rd a = none) (n3 : I7.rd it = none)
    (e7 : s7.heap.get? a = some (listO its' nn')) (d7 : DRs I7 acc' its'.toList) (nC : I7.rd Cn = none) (hm : s7.heap.Ns Cn m6) (p : P I7 m6) (hr : compRun run (ds.drop (i + 1)) c6 = some (rest, c')) (sum : acc' ++ rest = l) : ∃ m', m' < ds.length - i ∧ CI C fzA as Cn a it st ds run I0 c' l P m' s7 :=
  ⟨ds.length - (i + 1), Nat.sub_succ_lt_self _ _ T.lt, .mk rfl T.lt (T.le.trans lI) g e7 d7 n1 nC n3 hm p
    ((i2.mono T.le).frame T.st fun b hb o e => hb.elim (fun q => by rw [q] at e ⊢; exact hoi.trans (T.oi.symm.trans e)) fun ⟨o', hb⟩ => (g.rd b _ (lI.2 _ _ hb)).trans ((T.rd b o' hb).symm.trans e)) hr sum⟩
theorem CI.next (B : CB C fm fz I as vars c s xs sc cl fzA Cn a it) (i2 : IterOk C I0 ds it st) {I1 I6 : Im} {h3 : Heap} {oi : Obj} {i nn nn' : Nat} {its its' : Array Value} {c6 : Cells} {s6 s7 : Shared} {acc' rest : List D} {m6 : Str → Option Value} (T : TF st I0 I1 ds it oi i h3) (lI : I1.le I6) (g : Gd C (fz4 fzA a it its nn oi) I6 as c6 s6) (gP : fzA C.P ≠ none)
    (k : ∀ b o, b ≠ a → s6.heap.get? b = some o → s7.heap.get? b = some o) (sg : GensOk C s7.gens) (so : s7.os = s6.os) (sp : 0 < s7.toks) (e7 : s7.heap.get? a = some (listO its' nn')) (d7 : DRs I6 acc' its'.toList) (nC : I6.rd Cn = none) (hm : s6.heap.Ns Cn m6) (p : P I6 m6)
    (hr : compRun run (ds.drop (i + 1)) c6 = some (rest, c')) (sum : acc' ++ rest = l) : ∃ m', m' < ds.length - i ∧ CI C fzA as Cn a it st ds run I0 c' l P m' s7 :=
  have na := g.dj a _ B.a4
  CI.again i2 T lI ((g.weak B.w4 gP).step na B.za B.na k sg so sp) (k _ _ B.ia ((g.fr it _ (fun q => gP (q ▸ B.zi)) CB.i4).exact (B.nf B.zi))) na (g.dj it _ CB.i4) e7 d7 nC (hm.at' fun o e => k _ o (Ne.symm B.ac) e) p hr sum
theorem CI.turn (B : CB C fm fz I as vars c s xs sc cl fzA Cn a it) (i2 : IterOk C I0 ds it st) (hh : A.handled = none) (lo : I.le I0) {id : Str} {px : Pos} (own : sc.names.lookup id = some .local) (h : CI C fzA as Cn a it st ds run I0 c' l P rr s1) {V : D → Vars} {R B' : Shared → Prop}
    (hv : ∀ {I1 m d v y w nm}, DR I1 d v → P I1 m → vget (V d) y = some w → nms[y]? = some nm → sc.names.lookup nm = some .local → ∃ u, VR I1 as w u ∧ (if nm = id then some v else m nm) = some u)
    (hf : ∀ {d y w nm}, vget (V d) y = some w → nms[y]? = some nm → sc.names.lookup nm = some .free → vget vars y = some w)
    (fin : ∀ I' s2 its nn m, I0.le I' → Gd C fzA I' as c' s2 → s2.heap.get? a = some (listO its nn) → DRs I' l its.toList → I'.rd a = none → I'.rd Cn = none → s2.heap.Ns Cn m → R s2)
    (go : ∀ i I1 c2 c3 s3 acc its nn oi rest out (d : D), rr = ds.length - i → TF st I0 I1 ds it oi i s3.heap → fzA C.P ≠ none → St C (fmC sc cl Cn fm.env) (fz4 fzA a it its nn oi) I1 as (V d) c2 s3 → DRs I1 acc its.toList → run d c2 = some (out, c3) → compRun run (ds.drop (i + 1)) c3 = some (rest, c') → acc ++ (out ++ rest) = l → B' s3) :
    wpAny (model C.prog C.w) A (pyNext (.ref it)) (fun r s₁ => match r with
      | none => R s₁
      | some v => wpAny (model C.prog C.w) A (assign (.Name id px) (compEnvC sc cl Cn fm.env) v) (fun _ s₂ => B' s₂) E s₁) E s1 := by
  cases h with | @mk I1 c2 acc its nn m i rest hrr hi l1 g1 e1 d1 n1 n2 n3 hm hp hst hrun hsum =>
  have fr := comp_frOk (cl := cl) (Cn := Cn) B.X B.t.ok
  by_cases hlt : i < ds.length
  case neg =>
    cases Nat.le_antisymm hi (Nat.not_lt.mp hlt)
    rw [List.drop_eq_nil_of_le (Nat.le_refl _)] at hrun
    cases hrun
    rw [List.append_nil] at hsum
    cases hsum
    exact g1.next_end hh (i2.mono l1) n3 B.zi B.ni hst fun s2 g2 k2 => fin I1 s2 its nn m l1 g2 (k2 a _ (Ne.symm B.ia) e1) d1 n1 n2 (hm.at' fun o e => k2 Cn o (Ne.symm B.ic) e)
  rw [List.drop_eq_getElem_cons hlt] at hrun
  refine bind_some' hrun fun x hg hrun => bind_some' hrun fun y hrest hrun => ?_
  cases hrun
  refine g1.next_item hh (i2.mono l1) n3 B.zi B.ni hst (List.getElem?_eq_getElem hlt) fun s2 v rv g2 k2 hst2 => ?_
  refine wpAny_assign_Name (wpAny_storeName_local (fr.names id _ own (by decide)) (hm.at' fun o e => k2 Cn o (Ne.symm B.ic) e) (fun h3 hm3 hs3 => ?_) (by rw [show (compEnvC sc cl Cn fm.env).scope.kind = .function from fr.kind]; rfl))
  have hs3' : Heap.SameBut Cn s2.heap h3 := hs3
  have e3 : h3.get? a = some (listO its nn) := (hs3'.2 a B.ac).trans (k2 a _ (Ne.symm B.ia) e1)
  have hst3 : st (i + 1) h3 := (i2.mono l1).frame hst2 fun b hb o e => (hs3'.2 b (hb.elim (fun q => q ▸ B.ic) fun ⟨o', hb⟩ => ne_of n2 hb)).trans e
  obtain ⟨oi, hoi, hoi2⟩ := i2.live _ _ hst3
  have g3 : Gd C fzA I1 as c2 { s2 with heap := h3, toks := s2.toks + 1 } := g2.step n2 B.zC B.nC (fun b o hb e => (hs3'.2 b hb).trans e) g2.gens rfl (Nat.succ_pos _)
  exact go i I1 c2 x.2 { s2 with heap := h3, toks := s2.toks + 1 } acc its nn oi y.1 x.1 ds[i] hrr ⟨hlt, l1, hst3, hoi, g3.rd⟩ g3.tfz
    (comp_st B.X B.cl B.t (lo.trans l1) ((g3.strong n1 B.za B.na e3).strong n3 B.z4 B.ni hoi) (fun b o e => B.w4 b o (B.hfz b o e)) hm3 n2 B.c4 B.nC (fun y w nm hy hnm hk => hv rv hp hy hnm hk) fun y w nm hy hnm hk => hf hy hnm hk) d1 hg hrest hsum
theorem CI.emit (B : CB C fm fz I as vars c s xs sc cl fzA Cn a it) (i2 : IterOk C I0 ds it st) {V5 : Vars} {el : ME} {elt : PySem.Expr} {I1 I5 : Im} {h3 : Heap} {oi : Obj} {i nn : Nat} {its : Array Value} {c5 c6 : Cells} {s5 : Shared} {acc rest : List D} {w : D} {E' : Value → Shared → Prop} (H : EvOk C F rank n) (r : Room C n A) (hel : chkE k false sc.names el elt = true)
    (T : TF st I0 I1 ds it oi i h3) (gP : fzA C.P ≠ none) (lI : I1.le I5) (t5 : St C (fmC sc cl Cn fm.env) (fz4 fzA a it its nn oi) I5 as V5 c5 s5) (hev : ev F rank n el V5 c5 = some (.d w, c6)) (hr : compRun run (ds.drop (i + 1)) c6 = some (rest, c')) (d1 : DRs I1 acc its.toList) (sum : acc ++ ([w] ++ rest) = l) (hl : l.length ≤ 1000000)
    (hP : ∀ (I6 : Im) (s6 : Shared) (m6 : Str → Option Value), s6.heap.Ns Cn m6 → VarsR (fmC sc cl Cn fm.env) (fz4 fzA a it its nn oi) I6 as s6.heap m6 V5 → P I6 m6) :
    wpAny (model C.prog C.w) A (eval elt (compEnvC sc cl Cn fm.env)) (fun y s6 => wpAny (model C.prog C.w) A (call (.builtin "list.append") [.ref a, y]) (fun _ s7 => ∃ m', m' < ds.length - i ∧ CI C fzA as Cn a it st ds run I0 c' l P m' s7) E' s6) E' s5 :=
  H (fm := fmC sc cl Cn fm.env) hel (fun h => nomatch h) r t5 hev fun I6 s6 y l6 t6 ry => by
    obtain ⟨m6, hm6, v6⟩ := t6.vr
    refine append_at ((t6.fr a _ (fun q => gP (q ▸ B.za)) B.a4).exact (B.nf B.za)) (fun h7 hs7 e7 => ?_) (small (d1.size ▸ len_part sum hl))
    exact CI.next B i2 T (lI.trans l6) t6.toGd gP (fun b o hb e => (hs7.2 b hb).trans e) t6.gens rfl t6.pos e7 (by rw [Array.toList_push]; exact (d1.mono (lI.trans l6)).append (.one ry)) (t6.mu Cn (List.mem_cons_self ..)).1 hm6 (hP I6 s6 m6 hm6 v6) hr (by rw [List.append_assoc]; exact sum)
end
theorem hv1 {nl : NL} {x : Nat} {id nm : Str} {sc : Scope} (X : CompFacts nl [x] sc) (hid : nms[x]? = some id) {I1 : Im} {d : D} {v : Value} {m : Str → Option Value} {y : Nat} {w : V} (rv : DR I1 d v) (hy : vget (vset x (.d d) vars) y = some w) (hnm : nms[y]? = some nm) (hk : sc.names.lookup nm = some .local) :
    ∃ u, VR I1 as w u ∧ (if nm = id then some v else m nm) = some u := by
  rcases X.loc nm (mem_lookup hk) with e | ⟨z, hz1, hz2⟩
  · exact absurd (e ▸ hnm) nms_dot
  · cases List.mem_singleton.mp hz1
    cases nms_inj hnm hz2
    rw [vget_vset, if_pos rfl] at hy
    exact ⟨v, Option.some.inj hy ▸ rv, if_pos (Option.some.inj (hnm.symm.trans hid))⟩
theorem hf1 {x : Nat} {id nm : Str} {names : NL} {d : V} {y : Nat} {w : V} (hid : nms[x]? = some id) (own : names.lookup id = some .local) (hy : vget (vset x d vars) y = some w) (hnm : nms[y]? = some nm) (hk : names.lookup nm = some .free) : vget vars y = some w := by
  rwa [vget_vset, if_neg fun e => ?_] at hy
  cases (e ▸ hnm : nms[x]? = some nm).symm.trans hid
  exact nomatch own.symm.trans hk
theorem comp1_loop (H : EvOk C F rank n) (T : TrOk C F rank n) {el : ME} {x : Nat} {cnd : Option ME} {iter elt : PySem.Expr} {id : Str} {px pos : Pos} {ifs : List PySem.Expr} {sc : Scope} {ds : List D} {c' : Cells} {l : List D} {use : Option (Value → Sem Unit)} {Q : Value → Shared → Prop}
    {I0 : Im} {s'' : Shared} {it a Cn : Addr} {st : Nat → Heap → Prop} {cl : List (Str × Addr)} (B : CB C fm fz I0 as vars c s [x] sc cl (fz.join fm.mu s.heap) Cn a it) (hid : nms[x]? = some id) (hel : chkE k false sc.names el elt = true)
    (hc : (match cnd with | none => ifs.isEmpty | some c => (hd1 ifs).any (chkE k false sc.names c)) = true) (r : Room C n A) (hl : l.length ≤ 1000000)
    (i2 : IterOk C I0 ds it st) (h0 : CI C (fz.join fm.mu s.heap) as Cn a it st ds (elT (ev F rank n) el x cnd vars) I0 c' l (fun _ _ => True) ds.length s'') (q : CQ C A E fm fz I0 as vars c' l use Q) :
    codeAny (model C.prog C.w) A (.compLoop (.ListComp elt [⟨.Name id px, iter, ifs, 0⟩] sc pos) 0 (.ref it) (.ref a) (compEnvC sc cl Cn fm.env)) (compPost (model C.prog C.w) A E use Q (.ref a) Cn) s'' := by
  obtain ⟨id', q1, own⟩ := B.X.own x (List.mem_cons_self ..)
  rw [Option.some.inj (q1.symm.trans hid)] at own
  refine codeAny_compLoop_tests (CI C (fz.join fm.mu s.heap) as Cn a it st ds (elT (ev F rank n) el x cnd vars) I0 c' l fun _ _ => True) (fun rr s1 h1 => ?_) ds.length h0
  refine h1.turn B i2 r.1 (Im.le.refl I0) own (V := fun d => vset x (.d d) vars) (fun rv _ => hv1 B.X hid rv) (hf1 hid own) (fun I' s2 its nn m l1 g e d n1 n2 hm => comp_fin B.t l1 g e hl d n1 B.za B.na hm n2 B.zC B.nC B.ac q) fun i I1 c2 c3 s3 acc its nn oi rest out d hrr TT gP t4 d1 hg hrest hsum => ?_
  · rw [hrr]
    cases cnd with
    | none =>
      cases List.isEmpty_iff.mp hc
      refine wpAny_tests_nil ?_
      rw [if_pos rfl]
      exact elE_elim (G := fun out => acc ++ (out ++ rest) = l → _) hg (fun w hv hsum => CI.emit B i2 H r hel TT gP (Im.le.refl I1) t4 hv hrest d1 hsum hl fun _ _ _ _ _ => trivial) hsum
    | some tc =>
      refine any_is hc fun f he hf => ?_
      cases hd1_is he
      refine bind_some' hg fun v hv hg => bind_some' hg fun b hb hg => wpAny_tests_one (T (fm := fmC sc cl Cn fm.env) hf (fun h => nomatch h) r t4 hv hb fun I5 s5 l5 t5 => ?_)
      cases b with
      | true => exact elE_elim (G := fun out => acc ++ (out ++ rest) = l → _) hg (fun w hv hsum => CI.emit B i2 H r hel TT gP l5 t5 hv hrest d1 hsum hl fun _ _ _ _ _ => trivial) hsum
      | false =>
        cases hg
        obtain ⟨m6, hm6, v6⟩ := t5.vr
        exact CI.next B i2 TT l5 t5.toGd gP (fun _ _ _ e => e) t5.gens rfl t5.pos ((t5.fr a _ (fun q => gP (q ▸ B.za)) B.a4).exact (B.nf B.za)) (d1.mono l5) (t5.mu Cn (List.mem_cons_self ..)).1 hm6 trivial hrest hsum
end
end Mine
end
section
open PySem PySem.W PyProof.Rows PySem.SeqAt
set_option maxRecDepth 100000
namespace Mine
theorem compTurn_two (elt t1 i1 t2 i2 : PySem.Expr) (scope : Scope) (pos : Pos) (it acc : Value) (env : Env) :
    compTurn (.ListComp elt [⟨t1, i1, [], 0⟩, ⟨t2, i2, [], 0⟩] scope pos) 0 it acc env = (standAt i1.pos >>= fun _ => pyNext it >>= fun r => match r with
      | none => pure (.done .next)
      | some v => letOwnedTupleGo t1 it v >>= fun _ => assign t1 env v >>= fun _ =>
        (eval i2 env >>= fun x => standAt i2.pos >>= fun _ => foldedSetIterable i2 env x >>= fun x => holding [x] (pyIter x) >>= fun it2 =>
          runOwn (.compStart (.ListComp elt [⟨t1, i1, [], 0⟩, ⟨t2, i2, [], 0⟩] scope pos) 1 it2 acc env) env >>= fun _ =>
          again (.compLoop (.ListComp elt [⟨t1, i1, [], 0⟩, ⟨t2, i2, [], 0⟩] scope pos) 0 it acc env))) := by rfl
theorem compTurn_in (elt t1 i1 t2 i2 : PySem.Expr) (scope : Scope) (pos : Pos) (it acc : Value) (env : Env) :
    compTurn (.ListComp elt [⟨t1, i1, [], 0⟩, ⟨t2, i2, [], 0⟩] scope pos) 1 it acc env = (standAt i2.pos >>= fun _ => pyNext it >>= fun r => match r with
      | none => pure (.done .next)
      | some v => letOwnedTupleGo t2 it v >>= fun _ => assign t2 env v >>= fun _ =>
        (eval elt env >>= fun x => call (.builtin "list.append") [acc, x] >>= fun _ => pure ()) >>= fun _ =>
          again (.compLoop (.ListComp elt [⟨t1, i1, [], 0⟩, ⟨t2, i2, [], 0⟩] scope pos) 1 it acc env)) := by rfl
section
variable {prog : Program} {w : World} {A : Around} {E : Value → Shared → Prop} {R : Result → Shared → Prop} {s : Shared}
theorem compStart_in {elt t1 i1 t2 i2 : PySem.Expr} {scope : Scope} {pos : Pos} {it acc : Value} {env : Env}
    (h0 : codeAny (model prog w) A (.compLoop (.ListComp elt [⟨t1, i1, [], 0⟩, ⟨t2, i2, [], 0⟩] scope pos) 1 it acc env) R s)
    (h : wpAny (model prog w) A (pyIter it) (fun it' s' => codeAny (model prog w) A (.compLoop (.ListComp elt [⟨t1, i1, [], 0⟩, ⟨t2, i2, [], 0⟩] scope pos) 1 it' acc env) R s')
      (notedBy (model prog w) A env fun x s' => R (.error x) s') s) :
    codeAny (model prog w) A (.compStart (.ListComp elt [⟨t1, i1, [], 0⟩, ⟨t2, i2, [], 0⟩] scope pos) 1 it acc env) R s := by
  refine codeAny_of_tree ?_
  show wpAny _ _ ((compStart (.ListComp elt [⟨t1, i1, [], 0⟩, ⟨t2, i2, [], 0⟩] scope pos) 1 it acc env).onRaise (fun x => do noteFrame x env; standAt theWindowsPlace)) _ _ s
  refine wpAny_notedAt ?_
  unfold compStart
  show wpAny _ _ (ask >>= _) _ _ s
  refine wpAny_bind (wpAny_askSetting (wpAny_ite ?_))
  split
  · first
      | exact wpAny_bind (wpAny_pure (wpAny_pure (And.intro rfl h0)))
      | exact wpAny_pure (And.intro rfl h0)
  · first
      | exact wpAny_bind (wpAny_rule (wpAny_bind (wpAny_standAt (wpAny_bind (wpAny_mono h (fun it' s' h' => wpAny_pure (And.intro rfl h')) fun _ _ x => x)))))
      | (refine wpAny_bind (wpAny_rule ?_); show wpAny _ _ (standAt i2.pos >>= _) _ _ s; exact wpAny_bind (wpAny_standAt (wpAny_bind (wpAny_mono h (fun it' s' h' => wpAny_pure (And.intro rfl h')) fun _ _ x => x))))
theorem compLoop_in {elt t1 i1 t2 i2 : PySem.Expr} {scope : Scope} {pos : Pos} {it acc : Value} {env : Env} (I : Nat → Shared → Prop)
    (turn : ∀ n s, I n s → wpAny (model prog w) A (pyNext it) (fun r s₁ => match r with
      | none => R (.ok .next) s₁
      | some v => wpAny (model prog w) A (assign t2 env v) (fun _ s₂ => wpAny (model prog w) A (eval elt env) (fun x s₃ =>
          wpAny (model prog w) A (call (.builtin "list.append") [acc, x]) (fun _ s₄ => ∃ m, m < n ∧ I m s₄) (notedBy (model prog w) A env fun e s' => R (.error e) s') s₃)
          (notedBy (model prog w) A env fun e s' => R (.error e) s') s₂) (notedBy (model prog w) A env fun e s' => R (.error e) s') s₁) (notedBy (model prog w) A env fun e s' => R (.error e) s') s)
    (n : Nat) (h : I n s) (ht : ∀ v, letOwnedTupleGo t2 it v = pure ()) :
    codeAny (model prog w) A (.compLoop (.ListComp elt [⟨t1, i1, [], 0⟩, ⟨t2, i2, [], 0⟩] scope pos) 1 it acc env) R s := by
  refine codeAny_loop rfl I (fun n s hI => ?_) n h
  show wpAny _ A ((compTurn (.ListComp elt [⟨t1, i1, [], 0⟩, ⟨t2, i2, [], 0⟩] scope pos) 1 it acc env).onRaise (fun x => do noteFrame x env; theTreesLotGoes x)) _ _ s
  refine wpAny_noted ?_
  rw [compTurn_in]
  refine wpAny_bind (wpAny_standAt (wpAny_bind (wpAny_mono (turn n s hI) (fun r s₁ h₁ => ?_) fun _ _ h' => h')))
  cases r with
  | none => exact wpAny_pure h₁
  | some v =>
    refine wpAny_bind (wpAny_of_eq (ht v) ?_)
    exact wpAny_bind (wpAny_mono h₁ (fun _ s₂ h₂ => wpAny_bind (wpAny_bind (wpAny_mono h₂ (fun x s₃ h₃ => wpAny_bind (wpAny_mono h₃
      (fun _ s₄ h₄ => wpAny_pure (wpAny_pure ⟨rfl, h₄⟩)) fun _ _ h' => h')) fun _ _ h' => h'))) fun _ _ h' => h')
theorem compLoop_two {elt t1 i1 t2 i2 : PySem.Expr} {scope : Scope} {pos : Pos} {it acc : Value} {env : Env} (I : Nat → Shared → Prop)
    (turn : ∀ n s, I n s → wpAny (model prog w) A (pyNext it) (fun r s₁ => match r with
      | none => R (.ok .next) s₁
      | some v => wpAny (model prog w) A (assign t1 env v) (fun _ s₂ => wpAny (model prog w) A (eval i2 env) (fun x s₃ => wpAny (model prog w) A (pyIter x) (fun it2 s₄ =>
          codeAny (model prog w) A (.compStart (.ListComp elt [⟨t1, i1, [], 0⟩, ⟨t2, i2, [], 0⟩] scope pos) 1 it2 acc env) (fun r s₅ => match r with | .ok _ => ∃ m, m < n ∧ I m s₅ | .error _ => False) s₄)
          (notedBy (model prog w) A env fun e s' => R (.error e) s') s₃)
          (notedBy (model prog w) A env fun e s' => R (.error e) s') s₂) (notedBy (model prog w) A env fun e s' => R (.error e) s') s₁) (notedBy (model prog w) A env fun e s' => R (.error e) s') s)
    (n : Nat) (h : I n s) (ht : ∀ v, letOwnedTupleGo t1 it v = pure ()) (hs : ∀ x, foldedSetIterable i2 env x = pure x) :
    codeAny (model prog w) A (.compLoop (.ListComp elt [⟨t1, i1, [], 0⟩, ⟨t2, i2, [], 0⟩] scope pos) 0 it acc env) R s := by
  refine codeAny_loop rfl I (fun n s hI => ?_) n h
  show wpAny _ A ((compTurn (.ListComp elt [⟨t1, i1, [], 0⟩, ⟨t2, i2, [], 0⟩] scope pos) 0 it acc env).onRaise (fun x => do noteFrame x env; theTreesLotGoes x)) _ _ s
  refine wpAny_noted ?_
  rw [compTurn_two]
  refine wpAny_bind (wpAny_standAt (wpAny_bind (wpAny_mono (turn n s hI) (fun r s₁ h₁ => ?_) fun _ _ h' => h')))
  cases r with
  | none => exact wpAny_pure h₁
  | some v =>
    refine wpAny_bind (wpAny_of_eq (ht v) ?_)
    refine wpAny_bind (wpAny_mono h₁ (fun _ s₂ h₂ => wpAny_bind (wpAny_mono h₂ (fun x s₃ h₃ => wpAny_bind (wpAny_standAt (wpAny_bind (wpAny_of_eq (hs x) (wpAny_bind (wpAny_holding (wpAny_mono h₃ (fun it2 s₄ h₄ => ?_) fun _ _ h' => h'))))))) fun _ _ h' => h')) fun _ _ h' => h')
    refine wpAny_bind (wpAny_runOwn (codeAny_mono h₄ fun r s₅ hr => ?_))
    cases r with
    | ok f => exact wpAny_pure ⟨rfl, hr⟩
    | error e => exact hr.elim
end
section
variable {C : Cx} {F : FT} {rank : Nat → Nat} {n : Nat} {k : Nat} {tw : Bool} {fm : Fm} {fz : Fz} {I : Im} {as : List Addr} {vars : Vars} {c : Cells} {s : Shared} {A : Around} {E : Value → Shared → Prop}
theorem Fz.add_none {fz : Fz} {a b : Addr} {o : Obj} (h : fz.add a o b = none) : b ≠ a ∧ fz b = none := by
  have h' : (if b = a then some o else fz b) = none := h
  by_cases hb : b = a
  · rw [if_pos hb] at h'; exact nomatch h'
  · rw [if_neg hb] at h'; exact ⟨hb, h'⟩
theorem hv2 {nl : NL} {x y : Nat} {id id2 nm : Str} {sc : Scope} (X : CompFacts nl [x, y] sc) (hid : nms[x]? = some id) (hid2 : nms[y]? = some id2) (hxy : x ≠ y) {I1 : Im} {d d2 : D} {v : Value} {m : Str → Option Value} {z : Nat} {w : V} (rv : DR I1 d2 v) (hp : ∃ u, m id = some u ∧ DR I1 d u)
    (hy : vget (vset y (.d d2) (vset x (.d d) vars)) z = some w) (hnm : nms[z]? = some nm) (hk : sc.names.lookup nm = some .local) : ∃ u, VR I1 as w u ∧ (if nm = id2 then some v else m nm) = some u := by
  rw [vget_vset] at hy
  by_cases hzy : z = y
  · rw [if_pos hzy] at hy
    rw [hzy, hid2] at hnm
    exact ⟨v, Option.some.inj hy ▸ rv, if_pos (Option.some.inj hnm).symm⟩
  · rw [if_neg hzy, vget_vset] at hy
    have hzx : z = x := by
      rcases X.loc nm (mem_lookup hk) with e | ⟨z', hz1, hz2⟩
      · exact absurd (e ▸ hnm) nms_dot
      · rw [nms_inj hnm hz2] at hzy ⊢
        exact (List.mem_cons.mp hz1).elim (fun h => h) fun h => absurd (List.mem_singleton.mp h) hzy
    rw [if_pos hzx] at hy
    rw [hzx, hid] at hnm
    obtain ⟨u, hu, ru⟩ := hp
    refine ⟨u, Option.some.inj hy ▸ ru, ?_⟩
    rw [← Option.some.inj hnm, if_neg fun (h : id = id2) => hxy (nms_inj hid (h ▸ hid2))]; exact hu
theorem hv3 {nl : NL} {x y : Nat} {id nm : Str} {sc : Scope} (X : CompFacts nl [x, y] sc) (hid : nms[x]? = some id) (hy0 : vget vars y = none) {I1 : Im} {d : D} {v : Value} {m : Str → Option Value} {z : Nat} {w : V} (rv : DR I1 d v)
    (hy : vget (vset x (.d d) vars) z = some w) (hnm : nms[z]? = some nm) (hk : sc.names.lookup nm = some .local) : ∃ u, VR I1 as w u ∧ (if nm = id then some v else m nm) = some u := by
  rw [vget_vset] at hy
  by_cases hzx : z = x
  · rw [if_pos hzx] at hy
    rw [hzx, hid] at hnm
    exact ⟨v, Option.some.inj hy ▸ rv, if_pos (Option.some.inj hnm).symm⟩
  · rw [if_neg hzx] at hy
    rcases X.loc nm (mem_lookup hk) with e | ⟨z', hz1, hz2⟩
    · exact absurd (e ▸ hnm) nms_dot
    · rw [nms_inj hnm hz2] at hzx hy
      rw [(List.mem_cons.mp hz1).elim (fun h => absurd h hzx) List.mem_singleton.mp, hy0] at hy
      exact noS hy
theorem loc_at {sc : Scope} {cl : List (Str × Addr)} {Cn : Addr} {fz1 : Fz} {I1 : Im} {h : Heap} {m : Str → Option Value} {V : Vars} {x : Nat} {id : Str} {d : D} (fr : FrOk (fmC sc cl Cn fm.env)) (v : VarsR (fmC sc cl Cn fm.env) fz1 I1 as h m V) (hx : vget V x = some (.d d)) (hid : nms[x]? = some id) (own : sc.names.lookup id = some .local) : ∃ u, m id = some u ∧ DR I1 d u := by
  obtain ⟨u, ru, za⟩ := v x (.d d) id .local hx hid own rfl
  rcases za with za | za
  · exact ⟨u, za.2, ru⟩
  · exact nomatch (fr.names id _ own (by decide)).symm.trans za.1
noncomputable abbrev InP (I : Im) (d : D) (id : Str) (I' : Im) (m : Str → Option Value) : Prop := ∃ u, m id = some u ∧ DR I' d u
theorem comp2_inner (H : EvOk C F rank n) {el : ME} {x y : Nat} {iter iter2 elt : PySem.Expr} {id id2 : Str} {px px2 pos : Pos} {sc : Scope} {ds : List D} {c' : Cells} {l : List D} {d : D} {R : Result → Shared → Prop}
    {I5 : Im} {s'' : Shared} {it a Cn : Addr} {st : Nat → Heap → Prop} {cl : List (Str × Addr)} {fzA : Fz} (B : CB C fm fz I as vars c s [x, y] sc cl fzA Cn a it) (hid : nms[x]? = some id) (hid2 : nms[y]? = some id2) (hxy : x ≠ y) (hel : chkE k false sc.names el elt = true)
    (r : Room C n A) (hl : l.length ≤ 1000000) (l0 : I.le I5) (i2 : IterOk C I5 ds it st) (h0 : CI C fzA as Cn a it st ds (elE (ev F rank n) el y (vset x (.d d) vars)) I5 c' l (InP I d id) ds.length s'')
    (q : ∀ I' s' its nn m, I5.le I' → Gd C fzA I' as c' s' → s'.heap.get? a = some (listO its nn) → DRs I' l its.toList → I'.rd a = none → I'.rd Cn = none → s'.heap.Ns Cn m → R (.ok .next) s') :
    codeAny (model C.prog C.w) A (.compLoop (.ListComp elt [⟨.Name id px, iter, [], 0⟩, ⟨.Name id2 px2, iter2, [], 0⟩] sc pos) 1 (.ref it) (.ref a) (compEnvC sc cl Cn fm.env)) R s'' := by
  obtain ⟨_, q1, own2⟩ := B.X.own y (List.mem_cons_of_mem _ (List.mem_cons_self ..))
  rw [Option.some.inj (q1.symm.trans hid2)] at own2
  obtain ⟨_, q2, own⟩ := B.X.own x (List.mem_cons_self ..)
  rw [Option.some.inj (q2.symm.trans hid)] at own
  refine compLoop_in (CI C fzA as Cn a it st ds (elE (ev F rank n) el y (vset x (.d d) vars)) I5 c' l (InP I d id)) (fun rr s1 h1 => ?_) ds.length h0 (fun _ => rfl)
  refine h1.turn B i2 r.1 l0 own2 (V := fun d2 => vset y (.d d2) (vset x (.d d) vars)) (hv2 B.X hid hid2 hxy) (fun hy hnm hk => hf1 hid own (hf1 hid2 own2 hy hnm hk) hnm hk) q fun i I1 c2 c3 s3 acc its nn oi rest out d2 hrr TT gP t4 d1 hg hrest hsum => ?_
  rw [hrr]
  exact elE_elim (G := fun out => acc ++ (out ++ rest) = l → _) hg (fun w hv hsum => CI.emit B i2 H r hel TT gP (Im.le.refl I1) t4 hv hrest d1 hsum hl fun I6 s6 m6 _ v6 =>
    loc_at (comp_frOk B.X B.t.ok) v6 (by rw [vget_vset, if_neg hxy, vget_vset, if_pos rfl]) hid own) hsum
theorem comp2_loop (Z : Wk C F rank n tw fm A) {el it2 : ME} {x y : Nat} {iter iter2 elt : PySem.Expr} {id id2 : Str} {px px2 pos : Pos} {sc : Scope} {ds : List D} {c' : Cells} {l : List D} {use : Option (Value → Sem Unit)} {Q : Value → Shared → Prop}
    {I0 : Im} {s'' : Shared} {it a Cn : Addr} {st : Nat → Heap → Prop} {cl : List (Str × Addr)} (B : CB C fm fz I0 as vars c s [x, y] sc cl (fz.join fm.mu s.heap) Cn a it) (hid : nms[x]? = some id) (hid2 : nms[y]? = some id2) (hxy : x ≠ y) (hel : chkE k false sc.names el elt = true) (hy0 : vget vars y = none)
    (hc : chkIt (chkE k false sc.names) sc.names it2 iter2 = true) (hl : l.length ≤ 1000000) (i2 : IterOk C I0 ds it st)
    (h0 : CI C (fz.join fm.mu s.heap) as Cn a it st ds (elP (ev F rank n) el x y it2 vars) I0 c' l (fun _ _ => True) ds.length s'') (q : CQ C A E fm fz I0 as vars c' l use Q) :
    codeAny (model C.prog C.w) A (.compLoop (.ListComp elt [⟨.Name id px, iter, [], 0⟩, ⟨.Name id2 px2, iter2, [], 0⟩] sc pos) 0 (.ref it) (.ref a) (compEnvC sc cl Cn fm.env)) (compPost (model C.prog C.w) A E use Q (.ref a) Cn) s'' := by
  obtain ⟨_, q2, own⟩ := B.X.own x (List.mem_cons_self ..)
  rw [Option.some.inj (q2.symm.trans hid)] at own
  refine compLoop_two (CI C (fz.join fm.mu s.heap) as Cn a it st ds (elP (ev F rank n) el x y it2 vars) I0 c' l fun _ _ => True) (fun rr s1 h1 => ?_) ds.length h0 (fun _ => rfl) (set_plain ((Bool.not_eq_true' _).mp (an hc).1))
  refine h1.turn B i2 Z.r.1 (Im.le.refl I0) own (V := fun d => vset x (.d d) vars) (fun rv _ => hv3 B.X hid hy0 rv) (hf1 hid own) (fun I' s2 its nn m l1 g e d n1 n2 hm => comp_fin B.t l1 g e hl d n1 B.za B.na hm n2 B.zC B.nC B.ac q) fun i I1 c2 c3 s3 acc its nn oi rest out d hrr TT gP t4 d1 hg hrest hsum => ?_
  rw [hrr]
  refine bind_some' hg fun z hv1 hg1 => items_ok (fm := fmC sc cl Cn fm.env) (tw := false) ⟨Z.g, Z.H, Z.T, (fun h => nomatch h), Z.r⟩ hc t4 hv1 fun I5 s5 itB stB l5 t5 iB hB apB => ?_
  obtain ⟨m5, hm5, v5⟩ := t5.vr
  obtain ⟨q1, q2⟩ := Fz.add_none apB.fz
  obtain ⟨q3, q4⟩ := Fz.add_none q2
  have hP : ((fz.join fm.mu s.heap).add it oi) C.P ≠ none := fun h => gP ((if_neg fun (q : C.P = it) => gP (q ▸ B.zi)).symm.trans h)
  have BB : CB C fm fz I0 as vars c s [x, y] sc cl ((fz.join fm.mu s.heap).add it oi) Cn a itB := {
    X := B.X, cl := B.cl, t := B.t, hfz := fun b o e => Fz.add_of B.zi e, za := (if_neg (Ne.symm B.ia)).trans B.za, zC := (if_neg (Ne.symm B.ic)).trans B.zC, zi := (if_neg q1).trans q4, na := B.na, nC := B.nC, ni := apB.as, ac := B.ac, ia := q3, ic := fun h => apB.mu (h ▸ List.mem_cons_self ..) }
  have h5 : CI C ((fz.join fm.mu s.heap).add it oi) as Cn a itB stB z.1 (elE (ev F rank n) el y (vset x (.d d) vars)) I5 c3 (acc ++ out) (InP I0 d id) z.1.length s5 := .mk (i := 0) rfl (Nat.zero_le _) (Im.le.refl _) (t5.toGd.weak B.w5 hP) ((t5.fr a _ (fun q => gP (q ▸ B.za)) B.a4).exact (B.nf B.za)) (d1.mono l5) (t5.dj a _ B.a4) (t5.mu Cn (List.mem_cons_self ..)).1 apB.rd hm5 (loc_at (comp_frOk B.X B.t.ok) v5 (by rw [vget_vset, if_pos rfl]) hid own) hB (by rw [List.drop_zero]; exact hg1) rfl
  have loop := comp2_inner (elt := elt) (iter := iter) (iter2 := iter2) (px := px) (px2 := px2) (pos := pos) (R := fun r s₅ => match r with
      | Except.ok _ => ∃ m', m' < ds.length - i ∧ CI C (fz.join fm.mu s.heap) as Cn a it st ds (elP (ev F rank n) el x y it2 vars) I0 c' l (fun _ _ => True) m' s₅
      | Except.error _ => False) Z.H BB hid hid2 hxy hel Z.r (len_part (by rw [List.append_assoc]; exact hsum) hl) (TT.le.trans l5) iB h5 fun I7 s7 its7 nn7 m7 l7 g7 e7 d7 r7 r7' hm7 => CI.again i2 TT (l5.trans l7) (g7.weak (fun b o e => Fz.add_of B.zi e) gP) ((g7.fr it _ (fun q => gP (q ▸ B.zi)) (Fz.add_self ..)).exact (B.nf B.zi)) r7 (g7.dj it _ (Fz.add_self ..)) e7 d7 r7' hm7 trivial hrest (by rw [List.append_assoc]; exact hsum)
  exact compStart_in loop (iter_self Z.r.1 iB hB loop)
theorem comp'_elim {gg : EvT} {it : ME} {f : D → Cells → Option (List D × Cells)} {v : V} {c' : Cells} {G : V → Prop} (h : comp' gg it vars c f = some (v, c')) (k : ∀ ds c1 l, itE gg it vars c = some (ds, c1) → compRun f ds c1 = some (l, c') → l.length ≤ 1000000 → G (.d (.list l))) : G v :=
  bind_some' h fun x h1 h => bind_some' h fun y h2 h => ifS h fun hl h => by cases h; exact k x.1 x.2 y.1 h1 h2 (strOk_le hl)
theorem gen1_elim {x : Nat} {g : Comprehension} {f : PySem.Expr → List PySem.Expr → Bool} {G : Comprehension → Prop} (h : gen1 x g f = true) (k : ∀ id p iter ifs, nms[x]? = some id → f iter ifs = true → G ⟨.Name id p, iter, ifs, 0⟩) : G g :=
  any_is (an h).2 fun y hy h2 => by
    obtain ⟨t, iter, ifs, as⟩ := g
    cases dc (an h).1
    rw [show t = _ from acc_is hy]
    exact k _ _ _ _ (dc (an h2).1) (an h2).2
noncomputable abbrev CG (C : Cx) (A : Around) (fm : Fm) (use : Option (Value → Sem Unit)) (Q E : Value → Shared → Prop) (s : Shared) (elt : PySem.Expr) (sc : Scope) (pos : Pos) (gens : List Comprehension) : Prop :=
  wpAny (model C.prog C.w) A (comprehension (.ListComp elt gens sc pos) sc fm.env (firstIterPos gens pos) (newList []) (firstAsync gens) (firstIter gens fm.env) use) Q E s
theorem compM_cases {P : ME → Prop} {me : ME} (hm : isCompM me = true) (h1 : ∀ e x it c, P (.comp e x it c)) (h2 : ∀ e x it y it2, P (.comp2 e x it y it2)) : P me :=
  (Bool.or_eq_true_iff.mp hm).elim (fun h => ME.comp.elim me (eq_of_beq h) h1) fun h => ME.comp2.elim me (eq_of_beq h) h2
theorem comp_ok (Z : Wk C F rank n tw fm A) {me : ME} {elt : PySem.Expr} {gens : List Comprehension} {sc : Scope} {pos : Pos} {v : V} {c' : Cells} {use : Option (Value → Sem Unit)} {Q : Value → Shared → Prop} (hm : isCompM me = true)
    (h : chkB (chkE k) tw fm.nl me (.ListComp elt gens sc pos) = true) (t : St C fm fz I as vars c s) (he : ev F rank (n + 1) me vars c = some (v, c')) (q : ∀ l, v = .d (.list l) → ∀ I', I.le I' → CQ C A E fm fz I' as vars c' l use Q) : CG C A fm use Q E s elt sc pos gens := by
  refine compM_cases (P := fun me => chkB (chkE k) tw fm.nl me (.ListComp elt gens sc pos) = true → ev F rank (n + 1) me vars c = some (v, c') → CG C A fm use Q E s elt sc pos gens) hm (fun el x it cnd h he => ?_) (fun el x it y it2 h he => ?_) h he
  case _ =>
    refine any_is (o := hd1 gens) h fun g hg h => ?_
    cases hd1_is hg
    refine gen1_elim (G := fun g => CG C A fm use Q E s _ _ _ [g]) (an h).2 fun id p iter ifs hid h4 => comp'_elim (G := fun v => (∀ l, v = .d (.list l) → ∀ I', I.le I' → CQ C A E fm fz I' as vars c' l use Q) → _) he (fun ds c1 l e1 e2 hl q => ?_) q
    have X := compFacts (an (an h).1).1
    exact comp_in (more := []) Z X (an h4).1 t e1 fun I1 s1 s2 itA st cl a Cn l1 t1 i1 hst hcl gg ap ea hns aa ac hac hia hic _ =>
      have hz := join_is ap.fz ap.mu
      comp1_loop Z.H Z.T ⟨X, hcl, t1, fun _ _ e => e, aa.2.1, ac.2.1, hz, aa.2.2, ac.2.2, ap.as, hac, hia, hic⟩ hid (an (an h).1).2 (an h4).2 Z.r hl i1 (.mk (i := 0) rfl (Nat.zero_le _) (Im.le.refl _) gg ea .nil aa.1 ac.1 ap.rd hns trivial hst (by rw [List.drop_zero]; exact e2) rfl) (q l rfl I1 l1)
  case _ =>
    refine any_is (o := hd2 gens) h fun g hg h => ifB he (fun _ => noS) fun hy he => ?_
    cases hd2_is hg
    refine gen1_elim (G := fun g' => CG C A fm use Q E s _ _ _ [g', g.2]) (an (an h).1).2 fun id p iter ifs hid h4 => gen1_elim (G := fun g' => CG C A fm use Q E s _ _ _ [_, g']) (an h).2 fun id2 p2 iter2 ifs2 hid2 h5 => ?_
    cases List.isEmpty_iff.mp (an h4).1
    cases List.isEmpty_iff.mp (an h5).1
    refine comp'_elim (G := fun v => (∀ l, v = .d (.list l) → ∀ I', I.le I' → CQ C A E fm fz I' as vars c' l use Q) → _) he (fun ds c1 l e1 e2 hl q => ?_) q
    have h1 := (an (an h).1).1
    have X := compFacts (an (an h1).1).1
    exact comp_in (more := [_]) Z X (an h4).2 t e1 fun I1 s1 s2 itA st cl a Cn l1 t1 i1 hst hcl gg ap ea hns aa ac hac hia hic _ =>
      have hz := join_is ap.fz ap.mu
      comp2_loop Z ⟨X, hcl, t1, fun _ _ e => e, aa.2.1, ac.2.1, hz, aa.2.2, ac.2.2, ap.as, hac, hia, hic⟩ hid hid2 (fun e => nomatch (beq_iff_eq.mpr e).symm.trans ((Bool.not_eq_true' _).mp (an (an h1).1).2)) (an h1).2 (Option.not_isSome_iff_eq_none.mp (hy ▸ Bool.false_ne_true)) (an h5).2 hl i1 (.mk (i := 0) rfl (Nat.zero_le _) (Im.le.refl _) gg ea .nil aa.1 ac.1 ap.rd hns trivial hst (by rw [List.drop_zero]; exact e2) rfl) (q l rfl I1 l1)
theorem comp_is {me : ME} {e : PySem.Expr} {nl : NL} {G : PySem.Expr → Prop} (hm : isCompM me = true) (h : chkB (chkE k) tw nl me e = true) (kk : ∀ elt gens sc pos, G (.ListComp elt gens sc pos)) : G e := by
  refine compM_cases (P := fun me => chkB (chkE k) tw nl me e = true → G e) hm (fun _ _ _ _ h => ?_) (fun _ _ _ _ _ h => ?_) h
  · exact any_is (o := acc wLC e) h fun x hx _ => acc_is hx ▸ kk _ _ _ _
  · exact any_is (o := acc wLC e) h fun x hx _ => acc_is hx ▸ kk _ _ _ _
theorem cmp_step (g : CxOk2 C) (H : EvOk C F rank n) (T : TrOk C F rank n) : CmpOk C F rank (n + 1) := by
  intro k tw me e fm fz I as vars c s v c' A Q E hm h htw r t he q
  cases k with
  | zero => exact noT h
  | succ k =>
  refine comp_is (G := fun e => chkB (chkE k) tw fm.nl me e = true → WE C A fm Q E s e) hm (an h).2 (fun elt gens sc pos h => ?_) (an h).2
  show wpAny _ _ (eval _ _) _ _ _
  rw [eval_ListComp]
  exact comp_ok (use := none) ⟨g, H, T, htw, r.less⟩ hm h t he fun l e I1 l1 => KF.of_KD (e ▸ q.step l1).toD
theorem all_ok (g : CxOk2 C) {n : Nat} : (∀ f, rank f < n → CallOk C F rank f) → EvOk C F rank n ∧ TrOk C F rank n := by
  induction n with
  | zero => exact fun _ => ⟨fun _ _ _ _ he _ => noS he, fun _ _ _ _ he _ _ => noS he⟩
  | succ n ih =>
    intro hc
    obtain ⟨H, T⟩ := ih fun f hf => hc f (Nat.lt_succ_of_lt hf)
    have H' : EvOk C F rank (n + 1) := ev_step g (fun f hf => hc f (Nat.lt_succ_of_le hf)) H T (cmp_step g H T)
    exact ⟨H', tr_step H T g H'⟩
end
end Mine
end
section
open PySem PySem.W PyProof.Rows PySem.SeqAt
set_option maxRecDepth 100000
namespace Mine
noncomputable def Ext (as as' : List Addr) : Prop := ∃ x, as' = as ++ x
theorem Ext.refl (as : List Addr) : Ext as as := ⟨[], by simp⟩
theorem Ext.trans {a b c : List Addr} (x : Ext a b) (y : Ext b c) : Ext a c := by
  obtain ⟨u, rfl⟩ := x; obtain ⟨v, rfl⟩ := y; exact ⟨u ++ v, by simp⟩
theorem Ext.get {a b : List Addr} (x : Ext a b) {i : Nat} {p : Addr} (h : a[i]? = some p) : b[i]? = some p := by
  obtain ⟨u, rfl⟩ := x
  rw [List.getElem?_append_left (List.getElem?_eq_some_iff.mp h).1]; exact h
theorem VR.ext {I : Im} {as as' : List Addr} {v : V} {x : Value} (h : Ext as as') (r : VR I as v x) : VR I as' v x := by
  cases v with
  | d y => exact r
  | loc i => exact r.imp fun a h1 => ⟨h.get h1.1, h1.2⟩
  | app i => exact r.casesOn fun h1 => .mk (h.get h1)
inductive FlowR (I : Im) (as : List Addr) : Fl → Flow → Prop
  | next : FlowR I as .next .next
  | brk : FlowR I as .brk .brk
  | cont : FlowR I as .cont .cont
  | ret {v : V} {x : Value} : VR I as v x → FlowR I as (.ret v) (.ret x)
noncomputable def KS (C : Cx) (fm : Fm) (fz : Fz) (I : Im) (as : List Addr) (fl : Fl) (vars : Vars) (c : Cells) (Q : Flow → Shared → Prop) : Prop :=
  ∀ I' as' s' f, I.le I' → Ext as as' → St C fm fz I' as' vars c s' → FlowR I' as' fl f → Q f s'
noncomputable def KA (C : Cx) (fm : Fm) (fz : Fz) (I : Im) (as : List Addr) (vars : Vars) (c : Cells) (Q : Shared → Prop) : Prop :=
  ∀ I' as' s', I.le I' → Ext as as' → St C fm fz I' as' vars c s' → Q s'
section
variable {C : Cx} {F : FT} {rank : Nat → Nat} {n : Nat} {k : Nat} {tw : Bool} {fm : Fm} {fz : Fz} {I : Im} {as : List Addr} {vars : Vars} {c : Cells} {s : Shared} {A : Around} {E : Value → Shared → Prop}
theorem KS.step {I1 : Im} {as1 : List Addr} {fl : Fl} {vars' : Vars} {c' : Cells} {Q : Flow → Shared → Prop} (q : KS C fm fz I as fl vars' c' Q) (l : I.le I1) (e : Ext as as1) : KS C fm fz I1 as1 fl vars' c' Q :=
  fun I' as' s' f l' e' t fr => q I' as' s' f (l.trans l') (e.trans e') t fr
theorem St.vars_ext {vars' : Vars} (t : St C fm fz I as vars c s) (h : ∀ x, vget vars' x = vget vars x) : St C fm fz I as vars' c s where
  fls := t.fls
  toGd := t.toGd
  ok := t.ok
  mu := t.mu
  vr := by
    obtain ⟨m, hm, v⟩ := t.vr
    exact ⟨m, hm, fun x w nm kk hx hn hk hv => v x w nm kk ((h x).symm.trans hx) hn hk hv⟩
theorem St.new_cell {a : Addr} {its : Array Value} {nn : Nat} {l : List D} (t : St C fm fz I as vars c s) (e : s.heap.get? a = some (listO its nn)) (hl : l.length ≤ 1000000) (d : DRs I l its.toList) (a1 : I.rd a = none) (a2 : fz a = none) (a3 : a ∉ as) (a4 : a ∉ fm.mu) :
    St C fm fz I (as ++ [a]) vars (c ++ [l]) s where
  fls := t.fls
  rd := t.rd
  fr := t.fr
  dj := t.dj
  fas b hb := (List.mem_append.mp hb).elim (t.fas b) fun h => by rw [List.mem_singleton.mp h]; exact a2
  base := t.base
  cel := t.cel.push e ⟨hl, d⟩ a1 a3
  gens := t.gens
  os := t.os
  pos := t.pos
  tfz := t.tfz
  tab := t.tab
  ok := t.ok
  mu b hb := by
    obtain ⟨q1, q2, q3, q4⟩ := t.mu b hb
    exact ⟨q1, q2, fun h => (List.mem_append.mp h).elim q3 fun h => a4 (List.mem_singleton.mp h ▸ hb), q4⟩
  vr := by
    obtain ⟨m, hm, v⟩ := t.vr
    refine ⟨m, hm, fun x w nm kk hx hn hk hv => ?_⟩
    obtain ⟨y, r, z⟩ := v x w nm kk hx hn hk hv
    exact ⟨y, r.ext ⟨[a], rfl⟩, z⟩
theorem St.len (t : St C fm fz I as vars c s) : as.length = c.length := t.cel.length
theorem bn_of {e : PySem.Expr} {nl : NL} {x : Nat} {G : PySem.Expr → Prop} (h : bnIs e nl x = true) (k : ∀ id p, nms[x]? = some id → (∃ kk, nl.lookup id = some kk ∧ (kk = .local ∨ kk = .cell)) → G (.Name id p)) : G e :=
  acc_any wName h fun y h => k y.1 y.2 (dc (an h).1) ((Bool.or_eq_true_iff.mp (an h).2).elim (fun h => ⟨_, dc h, .inl rfl⟩) fun h => ⟨_, dc h, .inr rfl⟩)
theorem store_ok {x : Nat} {id : Str} {v : V} {y : Value} {Q : Unit → Shared → Prop} (t : St C fm fz I as vars c s) (h1 : nms[x]? = some id) (h2 : ∃ kk, fm.nl.lookup id = some kk ∧ (kk = .local ∨ kk = .cell)) (r : VR I as v y) (q : ∀ s', St C fm fz I as (vset x v vars) c s' → Q () s') :
    wpAny (model C.prog C.w) A (storeName fm.env id y) Q E s :=
  let ⟨_, hk, hk2⟩ := h2; store_var t h1 hk hk2 r q
theorem swaps_plain {v : PySem.Expr} {o : Option PySem.Expr} {line : Nat} {env : Env} (h : isCompE v = false) : swapsWith v o line env = pure false := by
  cases v with
  | ListComp => exact nomatch h
  | SetComp => exact nomatch h
  | DictComp => exact nomatch h
  | _ => rfl
theorem fn_inter (ok : FrOk fm) : interactive fm.env = false := by
  unfold interactive; rw [ok.kind]; rfl
theorem addV_list {x y : V} {l : List D} {G : List D → Prop} (h : addV c x y = some (.list l)) (k : ∀ a b, listOfV c x = some a → listOfV c y = some b → strOk (a.length + b.length) = true → G (a ++ b)) : G l :=
  orE_some h (fun a _ h => bind_some' h fun b _ h => nomatch h) fun h => orE_some h (fun a _ h => bind_some' h fun b _ h => ifS h fun _ h => nomatch h) fun h =>
    bind_some' h fun a h1 h => bind_some' h fun b h2 h => ifS h fun hok h => by cases h; exact k a b h1 h2 hok
theorem freshM_cases {P : ME → Prop} {me : ME} (hm : freshM me = true) (h1 : ∀ l, P (.list l)) (h2 : ∀ a b, P (.bin .add a b)) (h3 : ∀ a, P (.slice a none none)) : P me := by
  cases me with
  | list l => exact h1 l
  | bin o a b => cases o with
    | add => exact h2 a b
    | _ => exact noT hm
  | slice a lo hi => cases lo with
    | some _ => exact noT hm
    | none => cases hi with
      | some _ => exact noT hm
      | none => exact h3 a
  | _ => exact noT hm
theorem fresh_ok (Z : Wk C F rank n tw fm A) {me : ME} {e : PySem.Expr} {l : List D} {c' : Cells} {Q : Value → Shared → Prop} (hm : freshM me = true)
    (h : chkE k tw fm.nl me e = true) (t : St C fm fz I as vars c s) (he : ev F rank (n + 1) me vars c = some (.d (.list l), c')) (q : ∀ I', I.le I' → KF C fm fz I' as vars c' l Q) : wpAny (model C.prog C.w) A (eval e fm.env) Q E s := by
  cases k with
  | zero => exact noT h
  | succ k =>
  refine freshM_cases (P := fun me => chkB (chkE k) tw fm.nl me e = true → ev F rank (n + 1) me vars c = some (.d (.list l), c') → WE C A fm Q E s e) hm (fun l h he => ok_list Z t h he fun I' l' ds e => by cases e; exact q I' l') (fun a b h he => ?_) (fun a h he => ?_) (an h).2 he
  · exact acc_any wBin h fun x h => bind_some' he fun y1 e1 he => bind_some' he fun y2 e2 he => bind_some' ((Option.map_eq_bind ..).symm.trans he) fun d e3 he => by
      cases he
      rw [dc (an (an h).1).1]
      exact wpAny_BinOp (Z.e2 (an (an h).1).2 (an h).2 t e1 e2 fun I1 s1 vx vy l1 t1 r1 r2 => addV_list (G := fun l => KF C fm fz I1 as vars y2.2 l Q → _) e3 (fun a b ha hb hab q => addL_fresh t1 ha hb r1 r2 (by rw [List.length_append]; exact strOk_le hab) q) (q I1 l1))
  · exact acc_any wSub h fun x h => any_is h fun y hy h => bind_some' he fun z e1 he => bind_some' ((Option.map_eq_bind ..).symm.trans he) fun d e2 he => by
      cases he
      have h1 := (an (an (an h).1).1).1
      rw [acc_is hy, Option.isNone_iff_eq_none.mp h1, Option.isNone_iff_eq_none.mp (an (an h).1).2, Option.isNone_iff_eq_none.mp (an h).2]
      exact Subscript_ (Z.e1 (an (an (an h).1).1).2 t e1 fun I1 s1 vx l1 t1 r1 => wpAny_Slice (wpAny_pure (wpAny_pure (wpAny_pure (orE_some e2 (fun _ _ h => noS h) fun h => bind_some' ((Option.map_eq_bind ..).symm.trans h) fun l' e3 e4 => by
        cases e4; exact cutL_fresh (lo := none) (hi := none) t1 e3 r1 rfl rfl (q I1 l1))))))
end
end Mine
end
section
open PySem PySem.W PyProof.Rows PySem.SeqAt
set_option maxRecDepth 100000
namespace Mine
noncomputable def ExOk (C : Cx) (F : FT) (rank : Nat → Nat) (fu n : Nat) : Prop := ∀ {k : Nat} {tw : Bool} {ms : MS} {st : PySem.Stmt} {fm : Fm} {fz : Fz} {I : Im} {as : List Addr} {vars : Vars} {c : Cells} {s : Shared} {fl : Fl} {vars' : Vars} {c' : Cells} {A : Around} {Q : Flow → Shared → Prop} {E : Value → Shared → Prop},
  chkS k tw fm.nl ms st = true → (tw = true → TwOk C fm) → Room C n A → St C fm fz I as vars c s → ex F rank fu n ms vars c = some (fl, vars', c') → KS C fm fz I as fl vars' c' Q → wpAny (model C.prog C.w) A (exec st fm.env) Q E s
noncomputable def isEscS (m : MS) : Bool := m.ctorIdx == 12
noncomputable def EscOk (C : Cx) (F : FT) (rank : Nat → Nat) (fu n : Nat) : Prop := ∀ {k : Nat} {tw : Bool} {ms : MS} {st : PySem.Stmt} {fm : Fm} {fz : Fz} {I : Im} {as : List Addr} {vars : Vars} {c : Cells} {s : Shared} {fl : Fl} {vars' : Vars} {c' : Cells} {A : Around} {Q : Flow → Shared → Prop} {E : Value → Shared → Prop},
  isEscS ms = true → chkS k tw fm.nl ms st = true → (tw = true → TwOk C fm) → Room C n A → St C fm fz I as vars c s → ex F rank fu n ms vars c = some (fl, vars', c') → KS C fm fz I as fl vars' c' Q → wpAny (model C.prog C.w) A (exec st fm.env) Q E s
section
variable {C : Cx} {F : FT} {rank : Nat → Nat} {n fu : Nat} {k : Nat} {tw : Bool} {fm : Fm} {fz : Fz} {I : Im} {as : List Addr} {vars : Vars} {c : Cells} {s : Shared} {A : Around} {E : Value → Shared → Prop}
theorem KS.at {fl : Fl} {f : Flow} {vars' : Vars} {c' : Cells} {Q : Flow → Shared → Prop} (q : KS C fm fz I as fl vars' c' Q) (t : St C fm fz I as vars' c' s) (fr : FlowR I as fl f) : Q f s := q I as s f (Im.le.refl I) (Ext.refl as) t fr
theorem KS.cong {x y : Fl × Vars × Cells} {Q : Flow → Shared → Prop} (e : some x = some y) (q : KS C fm fz I as y.1 y.2.1 y.2.2 Q) : KS C fm fz I as x.1 x.2.1 x.2.2 Q := Option.some.inj e ▸ q
section
variable {fl : Fl} {vars' : Vars} {c' : Cells} {f0 : Fl} {f : Flow} {N : Prop} {k : Vars → Cells → Option (Fl × Vars × Cells)} {Q : Flow → Shared → Prop}
theorem flow_after (fr : FlowR I as f0 f) (he : after k (f0, vars, c) = some (fl, vars', c')) (t : St C fm fz I as vars c s) (q : KS C fm fz I as fl vars' c' Q) (kn : k vars c = some (fl, vars', c') → N) : match (generalizing := false) f with
    | .next => N
    | f => Q f s := by
  cases fr with
  | next => exact kn he
  | brk => exact (q.cong he).at t .brk
  | cont => exact (q.cong he).at t .cont
  | ret rv => exact (q.cong he).at t (.ret rv)
theorem flow_turn (fr : FlowR I as f0 f) (he : turn' k (f0, vars, c) = some (fl, vars', c')) (t : St C fm fz I as vars c s) (q : KS C fm fz I as fl vars' c' Q) (kn : k vars c = some (fl, vars', c') → N) : match (generalizing := false) f with
    | .next | .cont => N
    | .brk => Q .next s
    | .ret v => Q (.ret v) s := by
  cases fr with
  | next => exact kn he
  | cont => exact kn he
  | brk => exact (q.cong he).at t .next
  | ret rv => exact (q.cong he).at t (.ret rv)
end
theorem exs_ok (X : ExOk C F rank fu n) (htw : tw = true → TwOk C fm) (r : Room C n A) {ms : List MS} : ∀ {sts : List PySem.Stmt} {I : Im} {as : List Addr} {vars : Vars} {c : Cells} {s : Shared} {fl : Fl} {vars' : Vars} {c' : Cells} {Q : Flow → Shared → Prop},
    chkBs (chkS k tw fm.nl) ms sts = true → St C fm fz I as vars c s → exs (ex F rank fu n) ms vars c = some (fl, vars', c') → KS C fm fz I as fl vars' c' Q → wpAny (model C.prog C.w) A (execs sts fm.env) Q E s := by
  induction ms with
  | nil =>
    intro sts I as vars c s fl vars' c' Q h t he q
    cases List.isEmpty_iff.mp h
    exact wpAny_execs_nil ((q.cong he).at t .next)
  | cons m ms ih =>
    intro sts I as vars c s fl vars' c' Q h t he q
    refine bind_some' he fun x h1 he => (Bool.or_eq_true_iff.mp h).elim (fun ho => ?_) fun h => ?_
    · refine MS.opq.elim (motive_1 := fun m => ex F rank fu n m vars c = some x → _) m (eq_of_beq ho) (fun h1 => ?_) h1
      cases n with
      | zero => exact noS h1
      | succ n => exact noS h1
    · cases sts with
      | nil => exact noT h
      | cons st rest =>
        exact wpAny_execs_cons (X (an h).1 htw r t h1 fun I1 as1 s1 f l1 e1 t1 fr => flow_after fr he t1 (q.step l1 e1) fun he => ih (an h).2 t1 he (q.step l1 e1))
theorem owned_go {ds : List D} {it : Addr} {st : Nat → Heap → Prop} {i : Nat} {target : PySem.Expr} {v : Value} {Q : Unit → Shared → Prop} (x : IterOk C I ds it st) (h : st i s.heap) (q : Q () s) : wpAny (model C.prog C.w) A (letOwnedTupleGo target (.ref it) v) Q E s := by
  obtain ⟨o, T, h1, h2, h3⟩ := x.tup i _ h
  have key : ∀ a, wpAny (model C.prog C.w) A (load it >>= fun o => match o.cls, o.data with
    | .type n, .fields vs =>
      if (["enumerate", "zip", "dict_itemiterator", "dict_reverseitemiterator", "odict_iterator", "itertools.zip_longest", "itertools.pairwise"].contains n && vs[0]? == some (rawInt a)) = true then (do rule "for.unpacks-the-owned-tuple"; updateField it 0 .none)
      else pure ()
    | _, _ => pure ()) Q E s := by
    intro a
    refine wpAny_bind (wpAny_load h1 ?_)
    rw [h2]
    cases o.data <;> first
      | exact wpAny_pure q
      | (simp only [h3, Bool.false_and, Bool.false_eq_true, if_false]; exact wpAny_pure q)
  unfold letOwnedTupleGo
  cases target <;> first
    | exact wpAny_pure q
    | (cases v <;> first | exact wpAny_pure q | exact key _)
theorem pat_ok {xs : List Nat} {pat : Bool} {d : D} {vars' : Vars} {target : PySem.Expr} {v : Value} {Q : Unit → Shared → Prop} (h : chkPat fm.nl xs pat target = true) (hh : A.handled = none) (t : St C fm fz I as vars c s) (hb : bindPat xs pat d vars = some vars') (rv : DR I d v)
    (q : ∀ s', St C fm fz I as vars' c s' → Q () s') : wpAny (model C.prog C.w) A (assign target fm.env v) Q E s := by
  cases pat with
  | false =>
    refine any_is h fun x hx h => ?_
    replace hb : (hd1 xs).map (fun x => vset x (.d d) vars) = some vars' := hb
    rw [hx] at hb
    cases hb
    exact bn_of (G := fun e => wpAny _ _ (assign e _ _) _ _ _) h fun id p h1 h2 => PySem.wpAny_assign_Name (store_ok t h1 h2 (v := .d d) rv q)
  | true =>
    refine any_is h fun x hx h => any_is h fun y hy h => any_is h fun z hz h => bind_some' hb fun x' hx' hb => bind_some' hb fun l hl hb => bind_some' ((Option.map_eq_bind ..).symm.trans hb) fun ab hab hb => ?_
    cases hx.symm.trans hx'
    cases hb
    rw [acc_is hy, hd2_is hz]
    refine bn_of (G := fun e => wpAny _ _ (assign (.Tuple [e, _] _ _) _ _) _ _ _) (an (an h).1).1 fun id p n1 n2 => bn_of (G := fun e => wpAny _ _ (assign (.Tuple [_, e] _ _) _ _) _ _ _) (an (an h).1).2 fun id2 p2 n3 n4 => ?_
    refine VR.tup hl (show VR I as (.d d) v from rv) fun ta its m e1 _ e3 => ?_
    rw [hd2_is hab] at e3
    obtain ⟨v1, r1, hi, d1, e4⟩ := e3.inv
    obtain ⟨v2, r2, hi2, d2, e5⟩ := e4.inv
    cases hi2
    cases e5.nilv
    have hsz : its.size = 2 := congrArg List.length hi
    refine PySem.wpAny_assign_Tuple hh (seq_tuple (t.rd _ _ e1)) (by rw [hsz]; rfl) rfl fun h' hk => ?_
    have t1 := t.heap (h' := h') fun b o e => hk b o (fun hb => by rw [hb, get?_size_none] at e; exact noS e) e
    rw [hi]
    exact assignInOrder_cons (PySem.wpAny_assign_Name (store_ok t1 n1 n2 (v := .d ab.1) d1 fun s2 t2 => assignInOrder_cons (PySem.wpAny_assign_Name (store_ok t2 n3 n4 (v := .d ab.2) d2 fun s3 t3 => assignInOrder_nil (q s3 t3)))))
inductive WJ (C : Cx) (fm : Fm) (fz : Fz) (I : Im) (as : List Addr) (run : Nat → Vars → Cells → Option (Fl × Vars × Cells)) (res : Fl × Vars × Cells) (rr : Nat) (s1 : Shared) : Prop
  | mk {I1 : Im} {as1 : List Addr} {v1 : Vars} {c1 : Cells} : I.le I1 → Ext as as1 → St C fm fz I1 as1 v1 c1 s1 → run rr v1 c1 = some res → WJ C fm fz I as run res rr s1
theorem tr_elim {ct : ME} {b : Bool × Cells} {G : Prop} (h : tr F rank n ct vars c = some b) (k : ∀ v, ev F rank n ct vars c = some (v, b.2) → truth b.2 v = some b.1 → G) : G :=
  bind_some' h fun x h1 h => bind_some' ((Option.map_eq_bind ..).symm.trans h) fun y h2 h => by cases h; exact k x.1 h1 h2
theorem while_ok (X : ExOk C F rank fu n) (Z : Wk C F rank n tw fm A) {ct : ME} {test : PySem.Expr} {b : List MS} {body : List PySem.Stmt} {pos : Pos} {fl : Fl} {vars' : Vars} {c' : Cells} {Q : Flow → Shared → Prop} (h1 : chkE k tw fm.nl ct test = true) (h2 : chkBs (chkS k tw fm.nl) b body = true)
    {f0 : Nat} (t : St C fm fz I as vars c s) (he : whl (tr F rank n ct) (exs (ex F rank fu n) b) f0 vars c = some (fl, vars', c')) (q : KS C fm fz I as fl vars' c' Q) : wpAny (model C.prog C.w) A (exec (.While test body [] pos) fm.env) Q E s := by
  refine wpAny_While (codeAny_whileLoop (WJ C fm fz I as (whl (tr F rank n ct) (exs (ex F rank fu n) b)) (fl, vars', c')) (fun rr s1 h => ?_) f0 (.mk (Im.le.refl I) (Ext.refl as) t he))
  cases h with | @mk I1 as1 v1 c1 l1 x1 t1 hw =>
  cases rr with
  | zero => exact noS hw
  | succ rr =>
  refine bind_some' hw fun x hb hw => tr_elim hb fun v hv hb => Z.t1 h1 t1 hv hb fun I2 s2 l2 t2 => ?_
  cases hx : x.1 with
  | false =>
    rw [hx] at hw
    exact wpAny_execs_nil (((q.step (l1.trans l2) x1).cong hw).at t2 .next)
  | true =>
    rw [hx] at hw
    exact bind_some' hw fun y hb4 hw => exs_ok X Z.tw Z.r h2 t2 hb4 fun I3 as3 s3 f l3 x3 t3 fr => flow_turn fr hw t3 (q.step (l1.trans (l2.trans l3)) (x1.trans x3)) fun hw => ⟨rr, Nat.lt_succ_self _, .mk (l1.trans (l2.trans l3)) (x1.trans x3) t3 hw⟩
noncomputable def BodyOk (C : Cx) (fm : Fm) (A : Around) (body : List PySem.Stmt) (run : Vars → Cells → Option (Fl × Vars × Cells)) : Prop := ∀ {fz : Fz} {I : Im} {as : List Addr} {vars : Vars} {c : Cells} {s : Shared} {fl : Fl} {vars' : Vars} {c' : Cells} {Q : Flow → Shared → Prop} {E : Value → Shared → Prop},
  St C fm fz I as vars c s → run vars c = some (fl, vars', c') → KS C fm fz I as fl vars' c' Q → wpAny (model C.prog C.w) A (execs body fm.env) Q E s
inductive FJ (C : Cx) (fm : Fm) (fz : Fz) (I : Im) (as : List Addr) (it : Addr) (st : Nat → Heap → Prop) (ds : List D) (run : List D → Vars → Cells → Option (Fl × Vars × Cells)) (res : Fl × Vars × Cells) (rr : Nat) (s1 : Shared) : Prop
  | mk {I1 : Im} {as1 : List Addr} {v1 : Vars} {c1 : Cells} {i : Nat} : rr = ds.length - i → i ≤ ds.length → I.le I1 → Ext as as1 → St C fm fz I1 as1 v1 c1 s1 → st i s1.heap → Apart fm fz I1 as1 it → run (ds.drop i) v1 c1 = some res → FJ C fm fz I as it st ds run res rr s1
theorem for_keep {ds : List D} {it : Addr} {st : Nat → Heap → Prop} {i : Nat} {oi : Obj} {I2 I3 : Im} {as3 : List Addr} {v3 : Vars} {c3 : Cells} {s3 : Shared} {h2 : Heap} (x : IterOk C I2 ds it st) (hs : st i h2) (hoi : h2.get? it = some oi) (rd : ∀ b o, I2.rd b = some o → h2.get? b = some o) (l : I2.le I3) (g : St C fm (fz.add it oi) I3 as3 v3 c3 s3) (hP : it ≠ C.P) (nF : ¬ IsFr C it) : st i s3.heap :=
  x.frame hs fun b hb o e => hb.elim (fun q => by rw [q] at e ⊢; exact ((g.fr _ _ hP (Fz.add_self ..)).exact nF).trans (hoi.symm.trans e)) fun ⟨o', hb⟩ => (g.rd b _ (l.2 _ _ hb)).trans ((rd b o' hb).symm.trans e)
theorem for_okB {run : Vars → Cells → Option (Fl × Vars × Cells)} (Z : Wk C F rank n tw fm A) {it : ME} {iter target : PySem.Expr} {xs : List Nat} {pat : Bool} {body : List PySem.Stmt} {pos : Pos} {fl : Fl} {vars' : Vars} {c0 c' : Cells} {ds : List D} {Q : Flow → Shared → Prop}
    (h1 : chkIt (chkE k tw fm.nl) fm.nl it iter = true) (B : BodyOk C fm A body run) (h3 : chkPat fm.nl xs pat target = true)
    (t : St C fm fz I as vars c s) (hi : itemsOf F rank n it vars c = some (ds, c0)) (he : forRun run xs pat ds vars c0 = some (fl, vars', c')) (q : KS C fm fz I as fl vars' c' Q) : wpAny (model C.prog C.w) A (exec (.For target iter body [] pos) fm.env) Q E s := by
  refine wpAny_For (items_ok Z h1 t hi fun I1 s1 it st l1 t1 i1 hst ap => ?_) (set_plain ((Bool.not_eq_true' _).mp (an h1).1))
  refine codeAny_forLoop_any (FJ C fm fz I1 as it st ds (forRun run xs pat) (fl, vars', c')) (fun rr s2 h => ?_) ds.length (.mk (i := 0) rfl (Nat.zero_le _) (Im.le.refl _) (Ext.refl as) t1 hst ap (by rw [List.drop_zero]; exact he))
  cases h with | @mk I2 as2 v2 c2 i hrr hi' l2 x2 t2 hst2 ap2 hrun =>
  replace q := q.step (l1.trans l2) x2
  by_cases hlt : i < ds.length
  case neg =>
    cases Nat.le_antisymm hi' (Nat.not_lt.mp hlt)
    rw [List.drop_eq_nil_of_le (Nat.le_refl _)] at hrun
    exact next_end Z.r.1 t2 (i1.mono l2) ap2 hst2 fun s3 t3 => wpAny_execs_nil ((q.cong hrun).at t3 .next)
  rw [List.drop_eq_getElem_cons hlt] at hrun
  refine bind_some' hrun fun v3 hb hrun => bind_some' hrun fun x hx hrun => next_item Z.r.1 t2 (i1.mono l2) ap2 hst2 (List.getElem?_eq_getElem hlt) fun s3 v rv t3 hst3 => owned_go (i1.mono l2) hst3 ?_
  obtain ⟨oi, hoi, hoi2⟩ := i1.live _ _ hst3
  have hP := t3.neP ap2.fz
  have nF : ¬ IsFr C it := t3.noFr ap2.fz ap2.mu
  refine pat_ok h3 Z.r.1 (t3.strong ap2.rd ap2.fz ap2.as ap2.mu hoi) hb rv fun s5 t5 => B t5 hx fun I6 as6 s6 f l6 x6 t6 fr => flow_turn fr hrun (t6.unstrong ap2.fz hP nF hoi2) (q.step l6 x6) fun hrun => ?_
  exact ⟨ds.length - (i + 1), hrr ▸ Nat.sub_succ_lt_self _ _ hlt, .mk rfl hlt (l2.trans l6) (x2.trans x6) (t6.unstrong ap2.fz hP nF hoi2) (for_keep (i1.mono l2) hst3 hoi t3.rd l6 t6 hP nF)
    ⟨t6.dj _ _ (Fz.add_self ..), ap2.fz, (fun hm => nomatch (t6.fas _ hm).symm.trans (Fz.add_self ..)), ap2.mu⟩ hrun⟩
theorem for_ok (Z : Wk C F rank n tw fm A) (X : ExOk C F rank fu n) {it : ME} {iter target : PySem.Expr} {xs : List Nat} {pat : Bool} {b : List MS} {body : List PySem.Stmt} {pos : Pos} {fl : Fl} {vars' : Vars} {c0 c' : Cells} {ds : List D} {Q : Flow → Shared → Prop}
    (h1 : chkIt (chkE k tw fm.nl) fm.nl it iter = true) (h2 : chkBs (chkS k tw fm.nl) b body = true) (h3 : chkPat fm.nl xs pat target = true)
    (t : St C fm fz I as vars c s) (hi : itemsOf F rank n it vars c = some (ds, c0)) (he : forRun (exs (ex F rank fu n) b) xs pat ds vars c0 = some (fl, vars', c')) (q : KS C fm fz I as fl vars' c' Q) : wpAny (model C.prog C.w) A (exec (.For target iter body [] pos) fm.env) Q E s :=
  for_okB Z h1 (fun t he q => exs_ok X Z.tw Z.r h2 t he q) h3 t hi he q
end
end Mine
end
section
open PySem PySem.W PyProof.Rows PySem.SeqAt
set_option maxRecDepth 100000
namespace Mine
section
variable {C : Cx} {F : FT} {rank : Nat → Nat} {n fu : Nat} {k : Nat} {tw : Bool} {fm : Fm} {fz : Fz} {I : Im} {as : List Addr} {vars : Vars} {c : Cells} {s : Shared} {A : Around} {E : Value → Shared → Prop}
noncomputable def swapsB (env : Env) (t : Str) (p vp : Pos) (names : NL) : Bool := env.blockKind == .function && env.kindOf t == some .local && p.line == vp.line && !(names.any fun (n, k) => n == t && (k == .local || k == .cell))
theorem swaps_comp {elt : PySem.Expr} {gens : List Comprehension} {sc : Scope} {pos p : Pos} {t : Str} {line : Nat} {env : Env} : swapsWith (.ListComp elt gens sc pos) (some (.Name t p)) line env = pure (swapsB env t p pos sc.names) := rfl
theorem not_comp {a : ME} {v : PySem.Expr} {nl : NL} (h2 : chkE k tw nl a v = true) (hc : isCompM a = false) : isCompE v = false :=
  (Bool.or_eq_true_iff.mp (an (an (chkE_flag h2)).1).2).elim (fun h => nomatch hc.symm.trans h) (Bool.not_eq_true' _).mp
theorem assign_plain (H : EvOk C F rank (n + 1)) {x : Nat} {a : ME} {v : PySem.Expr} {id : Str} {p pos : Pos} {y : V} {c' : Cells} {Q : Flow → Shared → Prop} (n1 : nms[x]? = some id) (n2 : ∃ kk, fm.nl.lookup id = some kk ∧ (kk = .local ∨ kk = .cell)) (h2 : chkE k tw fm.nl a v = true) (htw : tw = true → TwOk C fm) (r : Room C (n + 1) A) (t : St C fm fz I as vars c s)
    (he : ev F rank (n + 1) a vars c = some (y, c')) (q : KS C fm fz I as .next (vset x y vars) c' Q) (hs : swapsWith v (some (.Name id p)) pos.line fm.env = pure false) : wpAny (model C.prog C.w) A (exec (.Assign [.Name id p] v pos) fm.env) Q E s :=
  wpAny_Assign_Name (H h2 htw r t he fun I1 s1 w l1 t1 r1 => store_ok t1 n1 n2 r1 fun s2 t2 => (q.step l1 (Ext.refl as)).at t2 .next) hs
theorem assign_swap (Z : Wk C F rank n tw fm A) {x : Nat} {a : ME} {elt : PySem.Expr} {gens : List Comprehension} {sc : Scope} {cp : Pos} {id : Str} {p pos : Pos} {y : V} {c' : Cells} {Q : Flow → Shared → Prop} (n1 : nms[x]? = some id) (n2 : ∃ kk, fm.nl.lookup id = some kk ∧ (kk = .local ∨ kk = .cell)) (hc : isCompM a = true) (h2 : chkB (chkE k) tw fm.nl a (.ListComp elt gens sc cp) = true) (t : St C fm fz I as vars c s)
    (he : ev F rank (n + 1) a vars c = some (y, c')) (q : KS C fm fz I as .next (vset x y vars) c' Q) (hb : swapsB fm.env id p cp sc.names = true) : wpAny (model C.prog C.w) A (exec (.Assign [.Name id p] (.ListComp elt gens sc cp) pos) fm.env) Q E s := by
  rw [PyProof.Rows.exec_Assign]
  refine wpAny_bind (wpAny_standAt ?_)
  rw [show swapsWithSole [.Name id p] (.ListComp elt gens sc cp) pos.line fm.env = pure true from (swaps_comp (line := pos.line)).trans (by rw [hb])]
  refine wpAny_bind (wpAny_pure ?_)
  rw [if_pos rfl]
  refine wpAny_bind ?_
  show wpAny _ _ (comprehension (.ListComp elt gens sc cp) sc fm.env (firstIterPos gens cp) (newList []) (firstAsync gens) (firstIter gens fm.env) (some fun v => assign (.Name id p) fm.env v) >>= fun _ => pure PUnit.unit) _ _ _
  refine wpAny_bind (comp_ok (use := some fun v => assign (.Name id p) fm.env v) (Q := fun _ s' => wpAny (model C.prog C.w) A (pure PUnit.unit) (fun _ s'' => wpAny (model C.prog C.w) A (pure Flow.next) Q E s'') E s') Z hc h2 t he fun l e I1 l1 => ?_)
  cases e
  exact fun fz' I2 s2 aa its nn l2 hfz t2 ha hn d ap =>
    have l3 : I2.le (I2.add aa (listO its nn)) := Im.le.add ap.rd
    PySem.wpAny_assign_Name (store_ok (v := .d (.list l)) (t2.add ap.rd ap.fz ap.as ap.mu ha) n1 n2 (.mk nn hn (if_pos rfl) (d.mono l3)) fun s4 t4 => ⟨_, _, l3, t4, fun s5 t5 => wpAny_pure (wpAny_pure ((q.step ((l1.trans l2).trans l3) (Ext.refl as)).at t5 .next))⟩)
theorem assign_ok (H : EvOk C F rank (n + 1)) (Z : Wk C F rank n tw fm A) {x : Nat} {a : ME} {t' v : PySem.Expr} {pos : Pos} {y : V} {c' : Cells} {Q : Flow → Shared → Prop} (h1 : bnIs t' fm.nl x = true) (h2 : chkE k tw fm.nl a v = true) (r : Room C (n + 1) A) (t : St C fm fz I as vars c s)
    (he : ev F rank (n + 1) a vars c = some (y, c')) (q : KS C fm fz I as .next (vset x y vars) c' Q) : wpAny (model C.prog C.w) A (exec (.Assign [t'] v pos) fm.env) Q E s :=
  bn_of (G := fun t' => wpAny _ _ (exec (.Assign [t'] v pos) _) _ _ _) h1 fun id p n1 n2 => by
    cases hc : isCompM a with
    | false => exact assign_plain H n1 n2 h2 Z.tw r t he q (swaps_plain (not_comp h2 hc))
    | true =>
      cases k with
      | zero => exact noT h2
      | succ k =>
      refine comp_is (G := fun v => chkE (k + 1) tw fm.nl a v = true → wpAny _ _ (exec (.Assign [_] v pos) _) _ _ _) hc (an h2).2 (fun elt gens sc cp h2 => ?_) h2
      cases hb : swapsB fm.env id p cp sc.names with
      | false => exact assign_plain H n1 n2 h2 Z.tw r t he q (swaps_comp.trans (congrArg pure hb))
      | true => exact assign_swap Z n1 n2 hc (an h2).2 t he q hb
noncomputable def nameId : PySem.Expr → Option Str
  | .Name id _ => some id
  | _ => none
theorem filterMap_full {α β : Type} (f g : α → Option β) (hfg : ∀ a b, f a = some b → g a = some b) : ∀ (l : List α), (l.filterMap f).length = l.length → l.filterMap f = l.filterMap g
  | [], _ => rfl
  | a :: l, h => by
    have hle := List.length_filterMap_le f l
    cases hf : f a with
    | none => rw [List.filterMap_cons_none hf] at h; rw [List.length_cons] at h; omega
    | some b =>
      rw [List.filterMap_cons_some hf] at h ⊢
      rw [List.filterMap_cons_some (hfg a b hf), filterMap_full f g hfg l (by simpa using h)]
theorem swapped_cases {xs vs : List PySem.Expr} {kk k2 : Nat} {pp p2 : Pos} {env : Env} (hc : (!(vs.all (constantsAlone 8)) || vs.all (foldedForSure 8)) = true) :
    swappedStores [.Tuple xs kk pp] (.Tuple vs k2 p2) env = pure none ∨ swappedStores [.Tuple xs kk pp] (.Tuple vs k2 p2) env = pure (some (xs.filterMap nameId)) := by
  unfold swappedStores
  simp only
  split
  · exact .inl rfl
  · split
    · exact .inl rfl
    · split
      · exact .inl rfl
      · rename_i h3
        split
        · exact .inl rfl
        · rename_i h4
          split
          · rename_i h5
            exact absurd (orI hc h5) h4
          · refine .inr (congrArg (fun l => pure (some l)) (filterMap_full _ nameId (fun a b hab => ?_) xs (Decidable.of_not_not fun h => h3 (Bool.or_eq_true_iff.mpr (.inl (bne_iff_ne.mpr h))))))
            split at hab
            · exact ifB hab (fun _ h => h) fun _ => noS
            · exact noS hab
theorem vget_vsets_ne {zs : List (Nat × V)} : ∀ {vars : Vars} {y : Nat}, y ∉ zs.map (·.1) → vget (vsets zs vars) y = vget vars y := by
  induction zs with
  | nil => exact fun _ => rfl
  | cons z r ih => intro vars y h; exact (ih fun q => h (List.mem_cons_of_mem _ q)).trans ((vget_vset ..).trans (if_neg fun (q : y = z.1) => h (q ▸ List.mem_cons_self ..)))
theorem vget_vsets_mem {y : Nat} {v : V} {zs : List (Nat × V)} : ∀ {vars : Vars}, (zs.map (·.1)).Nodup → (y, v) ∈ zs → vget (vsets zs vars) y = some v := by
  induction zs with
  | nil => exact fun _ h => nomatch h
  | cons z r ih =>
    intro vars hn h
    rcases List.mem_cons.mp h with e | h
    · rw [← e] at hn ⊢
      exact (vget_vsets_ne (List.nodup_cons.mp hn).1).trans ((vget_vset ..).trans (if_pos rfl))
    · exact ih (List.nodup_cons.mp hn).2 h
theorem vsets_rev {zs : List (Nat × V)} {vars : Vars} (hn : (zs.map (·.1)).Nodup) (y : Nat) : vget (vsets zs vars) y = vget (vsets zs.reverse vars) y := by
  have hn' : (zs.reverse.map (·.1)).Nodup := by rw [List.map_reverse]; exact List.pairwise_reverse.mpr (hn.imp Ne.symm)
  by_cases hy : y ∈ zs.map (·.1)
  · obtain ⟨⟨y', v⟩, hm, rfl⟩ := List.mem_map.mp hy
    rw [vget_vsets_mem hn hm, vget_vsets_mem hn' (List.mem_reverse.mpr hm)]
  · rw [vget_vsets_ne hy, vget_vsets_ne (by rw [List.map_reverse]; exact fun h => hy (List.mem_reverse.mp h))]
theorem VRs.mem_ext {as' : List Addr} (h : Ext as as') {x : List V} : ∀ {v : List Value}, VRs I as x v → VRs I as' x v := by
  induction x with
  | nil => exact id
  | cons x xs ih => exact fun ⟨v, r, e, h1, h2⟩ => ⟨v, r, e, h1.ext h, ih h2⟩
theorem multi_elim {gg : ME → Cells → Option (V × Cells)} {z : Nat × Bool × ME} {ts : List (Nat × Bool × ME)} {zs : List (Nat × V)} {c' : Cells} {G : List (Nat × V) → Prop} (h : multiEv gg (z :: ts) c = some (zs, c'))
    (k1 : ∀ l c1 ws, z.2.1 = true → gg z.2.2 c = some (.d (.list l), c1) → multiEv gg ts (c1 ++ [l]) = some (ws, c') → G ((z.1, .loc c1.length) :: ws)) (k2 : ∀ v c1 ws, gg z.2.2 c = some (v, c1) → multiEv gg ts c1 = some (ws, c') → G ((z.1, v) :: ws)) : G zs :=
  bind_some' h fun y h1 h => ifB h (fun hm h => bind_some' h fun l hl h => bind_some' ((Option.map_eq_bind ..).symm.trans h) fun w h2 h => by cases h; exact k1 l y.2 w.1 hm (h1.trans (congrArg some (Prod.ext (optList_is hl) rfl))) h2)
    fun _ h => bind_some' ((Option.map_eq_bind ..).symm.trans h) fun w h2 h => by cases h; exact k2 y.1 y.2 w.1 h1 h2
theorem multi_evs (H : EvOk C F rank (n + 1)) (Z : Wk C F rank n tw fm A) (r : Room C (n + 1) A) {pos : Pos} {ts : List (Nat × Bool × ME)} : ∀ {xs vs : List PySem.Expr} {I : Im} {as : List Addr} {c : Cells} {s : Shared} {zs : List (Nat × V)} {c' : Cells} {Q : List Value → Shared → Prop},
    chkTs (chkE k tw fm.nl) fm.nl ts xs vs = true → (ts.all fun q => !q.2.1 || freshM q.2.2) = true → St C fm fz I as vars c s →
    multiEv (fun e c => ev F rank (n + 1) e vars c) ts c = some (zs, c') → (∀ I' as' s' vals, I.le I' → Ext as as' → St C fm fz I' as' vars c' s' → VRs I' as' (zs.map (·.2)) vals → Q vals s') → wpAny (model C.prog C.w) A (spliced (backTo pos (starEach vs fm.env))) Q E s := by
  induction ts with
  | nil =>
    intro xs vs I as c s zs c' Q h hm t he q
    cases List.isEmpty_iff.mp (an h).2
    cases he
    exact Calls.spliced_nil (q I as s [] (Im.le.refl I) (Ext.refl as) t rfl)
  | cons z ts ih =>
    intro xs vs I as c s zs c' Q h hm t he q
    cases xs with
    | nil => exact noT h
    | cons t' xs => cases vs with
      | nil => exact noT h
      | cons v vs =>
    have h3 := (an h).2
    have h2 := (an (an h).1).2
    rw [List.all_cons] at hm
    rw [star_plain h2]
    refine Calls.spliced_cons (multi_elim (G := fun zs => (∀ I' as' s' vals, I.le I' → Ext as as' → St C fm fz I' as' vars c' s' → VRs I' as' (zs.map (·.2)) vals → Q vals s') → _) he (fun l c1 ws hz e1 e2 q => ?_) (fun y c1 ws e1 e2 q => ?_) q)
    · refine fresh_ok Z (orI (an hm).1 hz) h2 t e1 fun I1 l1 I2 s2 aa its nn l2 t2 ha hn d a1 a2 a3 a4 => ih h3 (an hm).2 (t2.new_cell ha hn d a1 a2 a3 a4) e2 fun I3 as3 s3 vals l3 x3 t4 rv => ?_
      exact q I3 as3 s3 _ ((l1.trans l2).trans l3) (Ext.trans ⟨[aa], rfl⟩ x3) t4 ⟨_, _, rfl, VR.ext x3 (show VR I3 (as ++ [aa]) (.loc c1.length) (.ref aa) from ⟨aa, t2.len ▸ List.getElem?_concat_length, rfl⟩), rv⟩
    · exact H h2 Z.tw r t e1 fun I1 s1 vx l1 t1 r1 => ih h3 (an hm).2 t1 e2 fun I3 as3 s3 vals l3 x3 t4 rv => q I3 as3 s3 _ (l1.trans l3) x3 t4 ⟨_, _, rfl, (r1.mono l3).ext x3, rv⟩
theorem multi_keys {gg : ME → Cells → Option (V × Cells)} {ts : List (Nat × Bool × ME)} : ∀ {c c' : Cells} {zs : List (Nat × V)}, multiEv gg ts c = some (zs, c') → zs.map (·.1) = ts.map (·.1) := by
  induction ts with
  | nil => intro c c' zs h; cases h; rfl
  | cons z ts ih => exact fun h => multi_elim (G := fun zs => zs.map (·.1) = _) h (fun l c1 ws _ _ e2 => congrArg (_ :: ·) (ih e2)) fun v c1 ws _ e2 => congrArg (_ :: ·) (ih e2)
inductive Stores (C : Cx) (fm : Fm) : List Str → List (Value → Sem Unit) → Prop
  | nil : Stores C fm [] []
  | cons {id : Str} {st : Value → Sem Unit} {ids : List Str} {sts : List (Value → Sem Unit)} : (∀ (A : Around) (y : Value) (Q : Unit → Shared → Prop) (E : Value → Shared → Prop) (s : Shared), wpAny (model C.prog C.w) A (storeName fm.env id y) Q E s → wpAny (model C.prog C.w) A (st y) Q E s) → Stores C fm ids sts → Stores C fm (id :: ids) (st :: sts)
theorem stores_bind : ∀ ids : List Str, Stores C fm ids (ids.map fun n => bindName fm.env n)
  | [] => .nil
  | id :: ids => .cons (fun A y Q E s h => PyProof.Rows.bindName_ h) (stores_bind ids)
theorem binds_ok {zs : List (Nat × V)} : ∀ {ids : List Str} {sts : List (Value → Sem Unit)} {vals : List Value} {vars : Vars} {s : Shared} {Q : Unit → Shared → Prop}, Stores C fm ids sts → St C fm fz I as vars c s → VRs I as (zs.map (·.2)) vals → zs.map (fun z => nms[z.1]?) = ids.map some → (∀ id ∈ ids, ∃ kk, fm.nl.lookup id = some kk ∧ (kk = .local ∨ kk = .cell)) →
    (∀ s', St C fm fz I as (vsets zs vars) c s' → Q () s') → wpAny (model C.prog C.w) A (assignInOrder sts vals) Q E s := by
  induction zs with
  | nil =>
    intro ids sts vals vars s Q S t rv hid hk q
    cases S with
    | nil => exact assignInOrder_nil (q s t)
    | cons => exact nomatch hid
  | cons z zs ih =>
    intro ids sts vals vars s Q S t rv hid hk q
    cases S with
    | nil => exact nomatch hid
    | cons hst S =>
    obtain ⟨y, r', rfl, r1, r2⟩ := rv
    have hid := List.cons.inj hid
    exact assignInOrder_cons (hst _ _ _ _ _ (store_ok t hid.1 (hk _ (List.mem_cons_self ..)) r1 fun s2 t2 => ih S t2 r2 hid.2 (fun id h => hk id (List.mem_cons_of_mem _ h)) q))
structure NmsOf (C : Cx) (fm : Fm) (ts : List (Nat × Bool × ME)) (xs vs : List PySem.Expr) (ids : List Str) : Prop where
  i1 : xs.filterMap nameId = ids
  i2 : ts.map (fun z => nms[z.1]?) = ids.map some
  i3 : ∀ id ∈ ids, ∃ kk, fm.nl.lookup id = some kk ∧ (kk = .local ∨ kk = .cell)
  i4 : Stores C fm ids ((assignEach xs fm.env).map (·.2))
  i5 : (assignEach xs fm.env).length = xs.length
  i6 : (assignEach xs fm.env).findIdx? (·.1) = none
  i7 : ids.length = xs.length
theorem names_of {f : ME → PySem.Expr → Bool} {ts : List (Nat × Bool × ME)} : ∀ {xs vs : List PySem.Expr}, chkTs f fm.nl ts xs vs = true → ∃ ids : List Str, NmsOf C fm ts xs vs ids := by
  induction ts with
  | nil =>
    intro xs vs h
    cases List.isEmpty_iff.mp (an h).1
    exact ⟨[], rfl, rfl, (fun _ h => nomatch h), .nil, rfl, rfl, rfl⟩
  | cons z ts ih =>
    intro xs vs h
    cases xs with
    | nil => exact noT h
    | cons t' xs => cases vs with
      | nil => exact noT h
      | cons v vs =>
    refine bn_of (G := fun t' => ∃ ids, NmsOf C fm (z :: ts) (t' :: xs) (v :: vs) ids) (an (an h).1).1 fun id p n1 n2 => ?_
    obtain ⟨ids, i⟩ := ih (an h).2
    refine ⟨id :: ids, (List.filterMap_cons_some (show nameId (.Name id p) = some id from rfl)).trans (congrArg _ i.i1), congr (congrArg List.cons n1) i.i2, fun id' h => (List.mem_cons.mp h).elim (fun e => e ▸ n2) (i.i3 id'), .cons (fun A y Q E s h => PySem.wpAny_assign_Name h) i.i4, congrArg (· + 1) i.i5, ?_, congrArg (· + 1) i.i7⟩
    show ((false, assign (.Name id p) fm.env) :: assignEach xs fm.env).findIdx? (·.1) = none
    rw [List.findIdx?_cons, i.i6]; rfl
theorem VRs.app {x y : List V} {u : List Value} (h2 : VRs I as y u) : ∀ {v : List Value}, VRs I as x v → VRs I as (x ++ y) (v ++ u) := by
  induction x with
  | nil => intro v h1; rw [show v = [] from h1]; exact h2
  | cons a x ih => intro v ⟨b, r, e, h3, h4⟩; exact ⟨b, r ++ u, congrArg (· ++ u) e, h3, ih h4⟩
theorem VRs.rev {x : List V} : ∀ {v : List Value}, VRs I as x v → VRs I as x.reverse v.reverse := by
  induction x with
  | nil => intro v h; rw [show v = [] from h]; rfl
  | cons a x ih => intro v ⟨b, r, e, h3, h4⟩; rw [e, List.reverse_cons, List.reverse_cons]; exact VRs.app (y := [a]) (u := [b]) ⟨b, [], rfl, h3, rfl⟩ (ih h4)
theorem multi_ok (H : EvOk C F rank (n + 1)) (Z : Wk C F rank n tw fm A) {ts : List (Nat × Bool × ME)} {xs vs : List PySem.Expr} {kk k2 : Nat} {pp p2 pos : Pos} {zs : List (Nat × V)} {c' : Cells} {Q : Flow → Shared → Prop} (h1 : chkTs (chkE k tw fm.nl) fm.nl ts xs vs = true) (hnd : (ts.map fun q => q.1).Nodup) (hlen : ts.length ≤ 1000)
    (hc : (!(vs.all (constantsAlone 8)) || vs.all (foldedForSure 8)) = true) (hm : (ts.all fun q => !q.2.1 || freshM q.2.2) = true) (r : Room C (n + 1) A) (t : St C fm fz I as vars c s)
    (he : multiEv (fun e c => ev F rank (n + 1) e vars c) ts c = some (zs, c')) (q : KS C fm fz I as .next (vsets zs vars) c' Q) : wpAny (model C.prog C.w) A (exec (.Assign [.Tuple xs kk pp] (.Tuple vs k2 p2) pos) fm.env) Q E s := by
  obtain ⟨ids, i⟩ := names_of (C := C) h1
  have hkeys := multi_keys he
  have hzn : zs.map (fun z => nms[z.1]?) = ids.map some := by
    have := congrArg (List.map fun x => nms[x]?) hkeys
    rw [List.map_map, List.map_map] at this
    exact this.trans i.i2
  have hzl : zs.length = xs.length := (List.length_map ..).symm.trans ((congrArg List.length hzn).trans ((List.length_map ..).trans i.i7))
  have body : ∀ (Q' : Value → Shared → Prop), (∀ I' as' s' ta its, I.le I' → Ext as as' → St C fm fz I' as' vars c' s' → s'.heap.IsTuple ta its → its.size = xs.length → VRs I' as' (zs.map (·.2)) its.toList → Q' (.ref ta) s') → wpAny (model C.prog C.w) A (eval (.Tuple vs k2 p2) fm.env) Q' E s := fun Q' hq =>
    wpAny_Tuple (multi_evs H Z r h1 hm t he fun I1 as1 s1 vals l1 x1 t1 rv =>
      have hvl : vals.length = xs.length := rv.length.trans ((List.length_map ..).trans hzl)
      ⟨small (by rw [hvl, ← hzl, ← List.length_map (f := fun z : Nat × V => z.1), hkeys, List.length_map]; exact Nat.le_trans hlen (by decide)), hq I1 as1 _ _ vals.toArray l1 x1 (t1.heap fun b o e => Heap.get?_push_of_some _ e) ⟨_, Heap.get?_push_size _ rfl, rfl, 0, rfl⟩ hvl rv⟩)
  rcases swapped_cases (xs := xs) (kk := kk) (pp := pp) (k2 := k2) (p2 := p2) (env := fm.env) hc with hs | hs
  · refine Assign_Tuple (body _ fun I1 as1 s1 ta its l1 x1 t1 ht hsz rv => ?_) rfl hs
    refine PySem.wpAny_assign_Tuple r.1 ht (by rw [i.i5, hsz]) i.i6 fun h' hk => ?_
    have t2 := t1.heap (h' := h') fun b o e => hk b o (fun hb => by rw [hb, get?_size_none] at e; cases e) e
    exact binds_ok i.i4 t2 rv hzn i.i3 fun s3 t3 => q I1 as1 s3 _ l1 x1 t3 .next
  · rw [i.i1] at hs
    refine Assign_Tuple_swapped (body _ fun I1 as1 s1 ta its l1 x1 t1 ht hsz rv => ?_) rfl hs
    rw [show ids.length = its.size from i.i7.trans hsz.symm]
    refine PySem.wpAny_unpackItems_tuple r.1 ht fun h' hk => ?_
    have t2 := t1.heap (h' := h') fun b o e => hk b o (fun hb => by rw [hb, get?_size_none] at e; cases e) e
    refine binds_ok (zs := zs.reverse) (ids := ids.reverse) (stores_bind _) t2 (by rw [List.map_reverse]; exact rv.rev) (by rw [List.map_reverse, List.map_reverse, hzn]) (fun id h => i.i3 id (List.mem_reverse.mp h)) fun s3 t3 => ?_
    exact q I1 as1 s3 _ l1 x1 (t3.vars_ext fun y => vsets_rev (by rw [hkeys]; exact hnd) y) .next
end
end Mine
end
section
open PySem PySem.W PyProof.Rows PySem.SeqAt
set_option maxRecDepth 100000
namespace Mine
theorem slot_md_get : Slot "method_descriptor" "__get__" "method_descriptor.__get__" :=
  .of (owner := "method_descriptor") (n := "__get__") (by rw [typeLookup_type, builtinLookup_eq_fast]; kernel_rfl) (by decide +kernel) (by decide +kernel) (by decide +kernel)
    (by first | exact .inl (by decide +kernel) | exact .inr (by decide +kernel)) (by rw [isSubtype_type]; kernel_rfl)
theorem entry_md_get : entryFor table "method_descriptor.__get__" = some Builtin.«method_descriptor.__get__» := entryFor_of_tree (by kernel_rfl)
theorem args_md_get (a b c : Value) : argsOk "method_descriptor.__get__" ⟨[a, b, c], []⟩ := by unfold argsOk; kernel_rfl
theorem md_noset : typeLookup (.type "method_descriptor") "__set__" = pure none := by rw [typeLookup_type, builtinLookup_eq_fast]; kernel_rfl
theorem md_nodel : typeLookup (.type "method_descriptor") "__delete__" = pure none := by rw [typeLookup_type, builtinLookup_eq_fast]; kernel_rfl
theorem list_ga : Slot "list" "__getattribute__" "list.__getattribute__" :=
  .of (owner := "list") (n := "__getattribute__") (by rw [typeLookup_type, builtinLookup_eq_fast]; kernel_rfl) (by decide +kernel) (by decide +kernel) (by decide +kernel)
    (by first | exact .inl (by decide +kernel) | exact .inr (by decide +kernel)) (by rw [isSubtype_type]; kernel_rfl)
theorem entry_list_ga : entryFor table "list.__getattribute__" = some Builtin.«object.__getattribute__» :=
  entryFor_alias (id' := "object.__getattribute__") (by kernel_rfl) (by first | rfl | decide +kernel) (by decide +kernel) (by kernel_rfl)
theorem args_list_ga (a b : Value) : argsOk "list.__getattribute__" ⟨[a, b], []⟩ := by unfold argsOk; kernel_rfl
noncomputable def appO (a : Addr) : Obj := { cls := .type "builtin_function_or_method", data := .fields #[.builtin "list.append", .ref a] }
theorem told_append : Manifest.toldItsClass.contains "list.append" = false := by decide +kernel
theorem owner_append : (".".intercalate ("list.append".cutAt '.').dropLast) = "list" := by
  have e0 : "list.append".cutAt '.' = ["list", "append"] := by first | rfl | decide +kernel
  rw [e0]; decide +kernel
section
variable {prog : Program} {w : World} {A : Around} {E : Value → Shared → Prop} {h : Heap} {g : Array GenState} {d : Drawn} {t : Nat} {os : OsState} {a : Addr} {o : Obj}
theorem append_get {R : Result → Shared → Prop} (hx : h.get? a = some o) (hc : o.cls = .type "list") (hq : R (.ok (.ret (.ref h.objs.size))) ⟨h.push (appO a), g, d, t, os⟩) :
    codeAny (model prog w) A (.call (.builtin "method_descriptor.__get__") ⟨[.builtin "list.append", .ref a, .type "list"], []⟩) R ⟨h, g, d, t, os⟩ := by
  have hT : (⟨h, g, d, t, os⟩ : Shared).TypeIs (.ref a) "list" := ⟨_, hx, hc⟩
  have hT5 : (⟨h, g, d, t, os⟩ : Shared).TypeIs (.builtin "list.append") "method_descriptor" := PySem.F.type_list_append
  have f8 : isSubtype (.type "list") (.type (".".intercalate ("list.append".cutAt '.').dropLast)) = pure true := by rw [owner_append, isSubtype_type]; kernel_rfl
  refine codeAny_call_builtin slot_md_get.plain entry_md_get (slot_md_get.check _ _ _ _ _ _ _ _ hT5 (args_md_get _ _ _) ?_)
  unfold Builtin.«method_descriptor.__get__»
  refine wpAny_bind (wpAny_of_eq (a := (.builtin "list.append", some (.ref a), some (.type "list"))) (by first | rfl | kernel_rfl) ?_)
  simp only [told_append]
  repeat (any_goals (first | assumption | wp_step))
theorem append_entry {its : Array Value} {nn : Nat} {tk : Tok} {Q : Fin → Shared → Prop} (hx : h.get? a = some { cls := .type "list", dict := none, data := .seq its nn, slots := #[] }) (hq : Q (.done (.ret (.ref h.objs.size))) ⟨h.push (appO a), g, d, t, os⟩) :
    wpAny (model prog w) A (Builtin.«object.__getattribute__» ⟨[.ref a, .str "append" tk], []⟩) Q E ⟨h, g, d, t, os⟩ := by
  have hT : (⟨h, g, d, t, os⟩ : Shared).TypeIs (.ref a) "list" := ⟨_, hx, rfl⟩
  have hT5 : (⟨h, g, d, t, os⟩ : Shared).TypeIs (.builtin "list.append") "method_descriptor" := PySem.F.type_list_append
  have f4 := slot_list_append.lookup
  have f5 := PySem.F.type_list_append
  have f6 := slot_md_get.lookup
  have f7 := md_noset
  have f8 := md_nodel
  repeat (any_goals (first | assumption | wp_step))
  refine append_get hx rfl ?_
  repeat (any_goals (first | assumption | wp_step))
theorem append_attr_call {its : Array Value} {nn : Nat} {tk : Tok} {R : Result → Shared → Prop} (hx : h.get? a = some { cls := .type "list", dict := none, data := .seq its nn, slots := #[] }) (hq : R (.ok (.ret (.ref h.objs.size))) ⟨h.push (appO a), g, d, t, os⟩) :
    codeAny (model prog w) A (.call (.builtin "list.__getattribute__") ⟨[.ref a, .str "append" tk], []⟩) R ⟨h, g, d, t, os⟩ :=
  codeAny_call_builtin list_ga.plain entry_list_ga (list_ga.check _ _ _ _ _ _ _ _ (show (⟨h, g, d, t, os⟩ : Shared).TypeIs (.ref a) "list" from ⟨_, hx, rfl⟩) (args_list_ga _ _) (append_entry hx hq))
theorem append_attr_by {its : Array Value} {nn : Nat} {tk : Tok} {fill expr : Bool} {Q : Value → Shared → Prop} (hx : h.get? a = some { cls := .type "list", dict := none, data := .seq its nn, slots := #[] })
    (hq : Q (.ref h.objs.size) ⟨h.push (appO a), g, d, t, os⟩) : wpAny (model prog w) A (getAttrBy (.ref a) (.str "append" tk) fill expr) Q E ⟨h, g, d, t, os⟩ := by
  have hT : (⟨h, g, d, t, os⟩ : Shared).TypeIs (.ref a) "list" := ⟨_, hx, rfl⟩
  have f2 := list_ga.lookup
  have f3 := list_ga.bind (.ref a)
  have hx0 : (expr && onTheHeap (Value.builtin "list.__getattribute__")) = false := by cases expr <;> rfl
  repeat (any_goals (first | assumption | wp_step))
  refine append_attr_call hx ?_
  repeat (any_goals (first | assumption | wp_step))
theorem append_attr {its : Array Value} {nn : Nat} {expr : Bool} {Q : Value → Shared → Prop} (hx : h.get? a = some { cls := .type "list", dict := none, data := .seq its nn, slots := #[] })
    (hq : Q (.ref h.objs.size) ⟨h.push (appO a), g, d, t + 1, os⟩) : wpAny (model prog w) A (getAttr (.ref a) "append" expr) Q E ⟨h, g, d, t, os⟩ := by
  unfold getAttr
  repeat (any_goals (first | assumption | with_reducible apply append_attr_by hx | wp_step))
end
section
variable {prog : Program} {w : World} {M : Model} {A : Around} {E : Value → Shared → Prop} {s : Shared}
theorem list_not_module : isSubtype (.type "list") (.type "module") = pure false := by rw [isSubtype_type]; kernel_rfl
theorem list_not_type : isSubtype (.type "list") (.type "type") = pure false := by rw [isSubtype_type]; kernel_rfl
theorem check_append {a : Addr} {v : Value} {its : Array Value} {n : Nat} (ho : s.heap.get? a = some { cls := .type "list", dict := none, data := .seq its n, slots := #[] }) {Q : Unit → Shared → Prop} (h : Q () s) : wpAny M A (checkBoundCall "list.append" ⟨[.ref a, v], []⟩) Q E s := by
  obtain ⟨hp, g, d, t, os⟩ := s
  have hT : (⟨hp, g, d, t, os⟩ : Shared).TypeIs (.ref a) "list" := ⟨_, ho, rfl⟩
  have ho' : hp.get? a = some { cls := .type "list", dict := none, data := .seq its n, slots := #[] } := ho
  unfold checkBoundCall
  rw [signature?_of (id := "list.append") (n := ['d', 'n', 'e', 'p', 'p', 'a']) (o := ['t', 's', 'i', 'l']) (by kernel_rfl) PySem.F.owner_list]
  have f1 := list_not_module
  have f2 := list_not_type
  repeat (any_goals (first | assumption | wp_step))
  all_goals exact wpAny_of_eq (a := ()) (by first | rfl | kernel_rfl) h
theorem bound_append {x a : Addr} {v : Value} {ob : Obj} {vs : Array Value} {its : Array Value} {n : Nat} {Q : Value → Shared → Prop} (h1 : s.heap.get? x = some ob) (h2 : ob.cls = .type "builtin_function_or_method") (h3 : ob.data = .fields vs) (h4 : vs[0]? = some (.builtin "list.append")) (h5 : vs[1]? = some (.ref a)) (ho : s.heap.get? a = some (listO its n)) (hsz : its.size ≤ sizeLine)
    (h : ∀ h', Heap.SameBut a s.heap h' → h'.get? a = some (listO (its.push v) (n + 1)) → Q .none { s with heap := h' }) : wpAny (model prog w) A (call (.ref x) [v]) Q E s := by
  refine wpAny_call (codeAny_of_tree ?_)
  show wpAny _ A.in1 (callAny (.ref x) ⟨[v], []⟩) _ _ s
  simp only [callAny]
  refine wpAny_bind (wpAny_load h1 ?_)
  rw [h3]
  simp only [h2, show (Value.type "builtin_function_or_method" == Value.type "method" || Value.type "builtin_function_or_method" == Value.type "builtin_function_or_method" || Value.type "builtin_function_or_method" == Value.type "method-wrapper") = true by decide, if_true, h4, h5]
  refine wpAny_bind (check_append ho ?_)
  refine wpAny_bind (wpAny_pure (wpAny_pure ?_))
  exact ⟨Code.quiet_builtin _ (by decide +kernel), codeAny_builtin entry_list_append (by
    show wpAny _ _ (updateSeq a (·.push v) >>= fun _ => ret .none) _ _ s
    refine wpAny_bind (wpAny_updateSeq ho rfl (hz := hsz) (wpAny_pure ?_))
    exact h _ (Heap.SameBut.update ..) (by rw [Heap.get?_update_self _ ho (by rw [listO, seqO, mapSeq_push]; rfl)]; rw [listO, seqO, mapSeq_push]; rfl))⟩
end
end Mine
end
section
open PySem PySem.W PyProof.Rows PySem.SeqAt
set_option maxRecDepth 100000
namespace Mine
section
variable {M : Model} {A : Around} {E : Value → Shared → Prop} {s : Shared}
theorem callWith_app {pos : Pos} {u : Addr} {args : List (Bool × Sem Value)} {Q : Value → Shared → Prop} (hplain : args.any (·.1) = false)
    (h : wpAny M A (evalArgs (.ref u) true args []) (fun x s₁ => (∃ o vs, s₁.heap.get? u = some o ∧ o.cls = .type "builtin_function_or_method" ∧ o.data = .fields vs) ∧ wpAny M A (call (.ref u) ([] ++ x.pos) x.kw) Q E s₁) E s) : wpAny M A (callWith pos (.ref u) [] args []) Q E s := by
  unfold callWith
  refine wpAny_bind (wpAny_holding (wpAny_mono h (fun x s₁ h₁ => wpAny_bind (wpAny_standAt ?_)) fun _ _ x => x))
  obtain ⟨⟨o, vs, ho, hc, hd⟩, hcall⟩ := h₁
  simp only [hplain, List.any_nil, Bool.or_false]
  refine wpAny_bind (m := keeperOf (.ref u)) ?_
  unfold keeperOf
  refine wpAny_bind (wpAny_load ho ?_)
  simp only [hd, hc, show (Value.type "builtin_function_or_method" != Value.type "method") = true by decide, show (Value.type "builtin_function_or_method" == Value.type "builtin_function_or_method" || Value.type "builtin_function_or_method" == Value.type "method-wrapper") = true by decide, if_true]
  refine wpAny_pure ?_
  exact wpAny_bind (wpAny_mono hcall (fun r s₂ hr => wpAny_bind (wpAny_holding (wpAny_point (wpAny_pure hr)))) fun _ _ x => x)
end
section
variable {C : Cx} {F : FT} {rank : Nat → Nat} {n fu : Nat} {k : Nat} {tw : Bool} {fm : Fm} {fz : Fz} {I : Im} {as : List Addr} {vars : Vars} {c : Cells} {s : Shared} {A : Around} {E : Value → Shared → Prop}
theorem bindapp_ok {x rr : Nat} {t' : PySem.Expr} {id : Str} {p ap pos : Pos} {i : Nat} {Q : Flow → Shared → Prop} (h1 : bnIs t' fm.nl x = true) (h2 : varOk fm.nl rr id = true) (t : St C fm fz I as vars c s) (hv : vget vars rr = some (.loc i)) (hi : i < c.length)
    (q : KS C fm fz I as .next (vset x (.app i) vars) c Q) : wpAny (model C.prog C.w) A (exec (.Assign [t'] (.Attribute (.Name id p) (Str.ofString "append") ap) pos) fm.env) Q E s :=
  bn_of (G := fun t' => wpAny _ _ (exec (.Assign [t'] _ _) _) _ _ _) h1 fun id1 p1 n1 n2 => wpAny_Assign_Name (by
    rw [arm_eval_Attribute]
    refine wpAny_bind (show wpAny _ _ (eval (.Name id p) fm.env) _ _ _ from eval_v t h2 hv fun y ry => cell_of t.toGd (List.getElem?_eq_getElem hi) ry fun a its nn ha e1 _ _ => wpAny_bind (wpAny_standAt (wpAny_bind (wpAny_holding ?_))))
    obtain ⟨hp, gg, dd, tk, os⟩ := s
    obtain ⟨l1, t1, e2⟩ := t.push (appO a) rfl (k := tk + 1) (Nat.succ_pos _)
    exact append_attr e1 (wpAny_bind (wpAny_pure (wpAny_pure (store_ok (v := .app i) t1 n1 n2 (.mk ha e2 rfl rfl rfl rfl) fun s2 t2 => (q.step l1 (Ext.refl as)).at t2 .next))))) rfl
theorem appV_elim {cc : Cells} {i : Nat} {d : D} {c' : Cells} {G : Cells → Prop} (h : appV cc i d = some c') (k : ∀ l, cc[i]? = some l → l.length + 1 ≤ 1000000 → G (cc.set i (l ++ [d]))) : G c' :=
  bind_some' h fun l h1 h => ifS h fun hok h => Option.some.inj h ▸ k l h1 (strOk_le hok)
theorem app_call (Z : Wk C F rank n tw fm A) {x : Nat} {id : Str} {p pos sp : Pos} {v : PySem.Expr} {a : ME} {i : Nat} {d : D} {c1 c' : Cells} {Q : Flow → Shared → Prop} (h1 : varOk fm.nl x id = true) (h2 : chkE k tw fm.nl a v = true) (t : St C fm fz I as vars c s)
    (hv : vget vars x = some (.app i)) (he : ev F rank n a vars c = some (.d d, c1)) (ha : appV c1 i d = some c') (q : KS C fm fz I as .next vars c' Q) :
    wpAny (model C.prog C.w) A (exec (.Expr (.Call (.Name id p) [v] [] pos) sp) fm.env) Q E s :=
  wpAny_Expr_any (Call_ (eval_v t h1 hv fun w rw' => rw'.casesOn fun h0 hb hc hd hv0 hv1 => by
    rw [star_plain h2]
    exact callWith_app rfl (Calls.evalArgs_plain (Calls.spliced_cons (Z.e1 h2 t he fun I1 s1 z l1 t1 rz => Calls.spliced_nil ⟨⟨_, _, t1.rd _ _ (l1.2 _ _ hb), hc, hd⟩,
      appV_elim (G := fun c' => KS C fm fz I as .next vars c' Q → _) ha (fun l hl hok q => by
        obtain ⟨a2, its, nn, ha2, e1, hl2, d1⟩ := t1.cel.get hl
        cases h0.symm.trans ha2
        exact bound_append (t1.rd _ _ (l1.2 _ _ hb)) hc hd hv0 hv1 e1 (small (d1.size ▸ hl2)) fun h' hs e => (q.step l1 (Ext.refl as)).at (t1.cell_set h0 hs e (by rw [List.length_append]; exact hok) (by rw [Array.toList_push]; exact d1.append (.one rz))) .next) q⟩))))) (fn_inter t.ok) rfl
theorem meth_call (Z : Wk C F rank n tw fm A) {x : Nat} {id : Str} {p ap pos sp : Pos} {v : PySem.Expr} {a : ME} {i : Nat} {d : D} {c1 c' : Cells} {Q : Flow → Shared → Prop} (h1 : varOk fm.nl x id = true) (h2 : chkE k tw fm.nl a v = true) (h3 : (ap.endLine == pos.line) = true) (t : St C fm fz I as vars c s)
    (hv : vget vars x = some (.loc i)) (he : ev F rank n a vars c = some (.d d, c1)) (ha : appV c1 i d = some c') (q : KS C fm fz I as .next vars c' Q) :
    wpAny (model C.prog C.w) A (exec (.Expr (.Call (.Attribute (.Name id p) (Str.ofString "append") ap) [v] [] pos) sp) fm.env) Q E s :=
  wpAny_Expr_any (Call_method1 rfl (by rw [star_plain h2]; rfl) h3 (eval_v t h1 hv fun w rw' => by
    obtain ⟨a', h0, rfl⟩ := (show VR I as (.loc i) w from rw')
    obtain ⟨its0, n0, e0⟩ := t.cel.isList a' (List.mem_of_getElem? h0)
    exact ⟨"list", "list.append", PySem.F.plainAttrs_list, slot_list_append, PySem.F.type_list_append, ⟨_, e0, rfl⟩, (fun b hb => by cases hb; exact ⟨_, e0, rfl⟩),
      Calls.callWith_builtin rfl (Calls.evalArgs_plain (Calls.spliced_cons (Z.e1 h2 t he fun I1 s1 z l1 t1 rz => Calls.spliced_nil (append_ok (i := i) t1 ha rw' rz fun s2 t2 => (q.step l1 (Ext.refl as)).at t2 .next))))⟩)) (fn_inter t.ok) rfl
noncomputable def ExG (C : Cx) (A : Around) (fm : Fm) (fz : Fz) (I : Im) (as : List Addr) (vars : Vars) (c : Cells) (s : Shared) (Q : Flow → Shared → Prop) (E : Value → Shared → Prop) (st : PySem.Stmt) : Prop := wpAny (model C.prog C.w) A (exec st fm.env) Q E s
section
variable {st : PySem.Stmt} {fl : Fl} {vars' : Vars} {c' : Cells} {Q : Flow → Shared → Prop} (Z : Wk C F rank n tw fm A) (t : St C fm fz I as vars c s) (q : KS C fm fz I as fl vars' c' Q)
include Z t q
theorem ex_newlist_ok (H0 : Wk C F rank (n - 1) tw fm A) {x : Nat} {a : ME} (h : chkSB (chkE k tw) (chkS k tw fm.nl) tw fm.nl (.newlist x a) st = true) (he : ((ev F rank n a vars c).bind fun y => (optList y.1).map fun l => (.next, vset x (.loc y.2.length) vars, y.2 ++ [l])) = some (fl, vars', c')) : ExG C A fm fz I as vars c s Q E st := by
  refine acc_any wAsg h fun y h => hd1_any (G := fun ts => wpAny _ _ (exec (.Assign ts _ _) _) _ _ _) h fun t' h => bn_of (G := fun t' => wpAny _ _ (exec (.Assign [t'] _ _) _) _ _ _) (an (an h).1).1 fun id p n1 n2 => bind_some' he fun z e1 he => bind_some' ((Option.map_eq_bind ..).symm.trans he) fun l e2 he => ?_
  replace q := q.cong he
  cases n with
  | zero => exact noS e1
  | succ n =>
  refine wpAny_Assign_Name (fresh_ok (n := n) H0 (an h).2 (an (an h).1).2 t (e1.trans (congrArg some (Prod.ext (optList_is e2) rfl))) fun I1 l1 I2 s2 aa its nn l2 t2 ha hn d a1 a2 a3 a4 => ?_) (swaps_plain (not_comp (an (an h).1).2 (freshM_cases (P := fun m => isCompM m = false) (an h).2 (fun _ => rfl) (fun _ _ => rfl) fun _ => rfl)))
  exact store_ok (v := .loc z.2.length) (t2.new_cell ha hn d a1 a2 a3 a4) n1 n2 ⟨aa, t2.len ▸ List.getElem?_concat_length, rfl⟩ fun s4 t4 => (q.step (l1.trans l2) ⟨[aa], rfl⟩).at t4 .next
theorem ex_multi_ok (H : EvOk C F rank n) (H0 : Wk C F rank (n - 1) tw fm A) {ts : List (Nat × Bool × ME)} (h : chkSB (chkE k tw) (chkS k tw fm.nl) tw fm.nl (.multi ts) st = true) (he : ((multiEv (fun e c => ev F rank n e vars c) ts c).map fun z => (.next, vsets z.1 vars, z.2)) = some (fl, vars', c')) : ExG C A fm fz I as vars c s Q E st := by
  refine acc_any wAsg h fun y h => any_is h fun t' ht' h => any_is h fun u hu h => any_is h fun v hv h => bind_some' ((Option.map_eq_bind ..).symm.trans he) fun z e1 he => ?_
  replace q := q.cong he
  rw [hd1_is ht', acc_is hu, acc_is hv]
  have h5 := (an h).1
  have h4 := (an h5).1
  have h3 := (an h4).1
  have h2 := (an h3).1
  cases n with
  | zero =>
    cases ts with
    | nil => rw [List.isEmpty_iff.mp (an (an h2).1).1] at h2; exact noT (an h2).2
    | cons => exact noS e1
  | succ n => exact multi_ok (n := n) H H0 (an h2).1 (dc (an h3).2) (dc (an h4).2) (an h5).2 (an h).2 Z.r t e1 q
omit Z in
theorem ex_bindapp_ok {x rr : Nat} (h : chkSB (chkE k tw) (chkS k tw fm.nl) tw fm.nl (.bindapp x rr) st = true) (he : ((vget vars rr).bind fun v => (optLoc v).bind fun i => if Nat.blt i c.length then some (.next, vset x (.app i) vars, c) else none) = some (fl, vars', c')) : ExG C A fm fz I as vars c s Q E st :=
  acc_any wAsg h fun y h => any_is h fun t' ht' h => any_is h fun u hu h => any_is h fun v hv h => bind_some' he fun w hw he => bind_some' he fun i hi he => ifS he fun hlt he => by
    replace q := q.cong he
    rw [hd1_is ht', acc_is hu, acc_is hv, dc (an (an h).1).2]
    exact bindapp_ok (an (an h).1).1 (an h).2 t (hw.trans (congrArg some (optLoc_is hi))) (Nat.blt_eq.mp hlt) q
theorem ex_aug_ok {x : Nat} {o : BO} {a : ME} (h : chkSB (chkE k tw) (chkS k tw fm.nl) tw fm.nl (.aug x o a) st = true) (he : ((vget vars x).bind fun w => (ev F rank n a vars c).bind fun y => (optInt w).bind fun i => (optInt y.1).bind fun j => (augV o i j).map fun k => (.next, vset x (.d (.int k)) vars, y.2)) = some (fl, vars', c')) : ExG C A fm fz I as vars c s Q E st :=
  acc_any wAug h fun y h => any_is h fun u hu h => bind_some' he fun w hw he => bind_some' he fun z e1 he => bind_some' he fun i e2 he => bind_some' he fun j e3 he => bind_some' ((Option.map_eq_bind ..).symm.trans he) fun kk e4 he => by
    replace q := q.cong he
    rw [acc_is hu, dc (an (an (an h).1).1).2]
    refine varOk_is (an (an (an (an h).1).1).1).1 fun kd n3 n4 n5 => wpAny_AugAssign_Name (load_var t hw n3 n4 n5 fun vx rz => rz.int e2 fun u1 => Z.e1 (an (an h).1).2 t e1 fun I1 s1 vy l1 t1 ry => ry.int e3 fun u2 => ?_)
    have n7 : ∃ kk, fm.nl.lookup u.1 = some kk ∧ (kk = .local ∨ kk = .cell) := (Bool.or_eq_true_iff.mp (an (an (an (an (an h).1).1).1).2).2).elim (fun h => ⟨_, dc h, .inl rfl⟩) fun h => ⟨_, dc h, .inr rfl⟩
    have fin : ∀ v' : Int, some v' = some kk → ∀ {u3 : Tok}, wpAny (model C.prog C.w) A (storeName fm.env u.1 (.int v' u3)) (fun _ s' => Q .next s') E { s1 with toks := s1.toks + 1 } := fun v' e u3 =>
by
      cases e
      exact store_ok (v := .d (.int kk)) (t1.tok (Nat.succ_pos _)) n3 n7 (DR.mkInt (I := I1) kk u3) fun s2 t2 => (q.step l1 (Ext.refl as)).at t2 .next
    cases o with
    | add => exact PyProof.Rows.iadd_int (fin _ e4)
    | sub => exact PyProof.Rows.isub_int (fin _ e4)
    | _ => exact noS e4
theorem ex_setitem_ok {x : Nat} {i a : ME} (h : chkSB (chkE k tw) (chkS k tw fm.nl) tw fm.nl (.setitem x i a) st = true) (he : ((ev F rank n a vars c).bind fun y => (dOf y.1).bind fun d => (vget vars x).bind fun v => (optLoc v).bind fun k => (ev F rank n i vars y.2).bind fun z => (optInt z.1).bind fun i => (setV z.2 k i d).map fun c => (.next, vars, c)) = some (fl, vars', c')) : ExG C A fm fz I as vars c s Q E st :=
  acc_any wAsg h fun y h => any_is h fun t' ht' h => any_is h fun u hu h => any_is h fun v hv h => bind_some' he fun z e1 he => bind_some' he fun d e2 he => bind_some' he fun w hw he => bind_some' he fun kk e3 he => bind_some' he fun z2 e4 he => bind_some' he fun j e5 he => bind_some' ((Option.map_eq_bind ..).symm.trans he) fun cc e6 he => by
    replace q := q.cong he
    cases optLoc_is e3
    rw [hd1_is ht', acc_is hu, acc_is hv]
    exact wpAny_Assign_Subscript (Z.e1 (an (an h).1).2 t e1 fun I1 s1 vy l1 t1 ry => eval_v t1 (an (an (an (an h).1).1).1).1 hw fun vo ro => Z.e1 (an (an (an h).1).1).2 t1 e4 fun I2 s2 vi l2 t2 ri => ri.int e5 fun u =>
      setItem_ok t2 e6 (ro.mono l2) ((ry.toD (dOf_is e2)).mono l2) fun s3 t3 => (q.step (l1.trans l2) (Ext.refl as)).at t3 .next) (swaps_plain ((Bool.not_eq_true' _).mp (an h).2))
theorem ex_meth_ok {x : Nat} {a : ME} (h : (acc wEx st).any (fun y => callM y.1 (Str.ofString "append") fun o xs => (acc wName o).any fun v => varOk fm.nl x v.1 && (hd1 xs).any (chkE k tw fm.nl a)) = true) (he : ((vget vars x).bind fun v => (optLoc v).bind fun k => (ev F rank n a vars c).bind fun y => (dOf y.1).bind fun d => (appV y.2 k d).map fun c => (.next, vars, c)) = some (fl, vars', c')) : ExG C A fm fz I as vars c s Q E st :=
  acc_any wEx h fun y h => callM_elim (G := fun e => wpAny _ _ (exec (.Expr e _) _) _ _ _) h fun o ap xs pos hp h => any_is h fun v hv h => any_is (an h).2 fun w hw h2 => bind_some' he fun z e1 he => bind_some' he fun kk e2 he => bind_some' he fun z2 e3 he => bind_some' he fun d e4 he => bind_some' ((Option.map_eq_bind ..).symm.trans he) fun cc e5 he => by
    replace q := q.cong he
    cases optLoc_is e2
    rw [acc_is hv, hd1_is hw]
    exact meth_call Z (an h).1 h2 hp t e1 (e3.trans (congrArg some (Prod.ext (dOf_is e4) rfl))) e5 q
theorem ex_addc_ok {x : Nat} {a : ME} (h : (acc wEx st).any (fun y => callN y.1 fun id xs => varOk fm.nl x id && (hd1 xs).any (chkE k tw fm.nl a)) = true) (he : ((vget vars x).bind fun v => (optApp v).bind fun k => (ev F rank n a vars c).bind fun y => (dOf y.1).bind fun d => (appV y.2 k d).map fun c => (.next, vars, c)) = some (fl, vars', c')) : ExG C A fm fz I as vars c s Q E st :=
  acc_any wEx h fun y h => callN_elim (G := fun e => wpAny _ _ (exec (.Expr e _) _) _ _ _) h fun id p xs pos h => any_is (an h).2 fun w hw h2 => bind_some' he fun z e1 he => bind_some' he fun kk e2 he => bind_some' he fun z2 e3 he => bind_some' he fun d e4 he => bind_some' ((Option.map_eq_bind ..).symm.trans he) fun cc e5 he => by
    replace q := q.cong he
    cases optApp_is e2
    rw [hd1_is hw]
    exact app_call Z (an h).1 h2 t e1 (e3.trans (congrArg some (Prod.ext (dOf_is e4) rfl))) e5 q
theorem ex_expr_ok {a : ME} (h : (acc wEx st).any (fun y => chkE k tw fm.nl a y.1 && callN y.1 fun _ _ => true) = true) (he : ((ev F rank n a vars c).bind fun y => if isN y.1 then some (.next, vars, y.2) else none) = some (fl, vars', c')) : ExG C A fm fz I as vars c s Q E st :=
  acc_any wEx h fun y h => callN_elim (G := fun e => chkE k tw fm.nl a e = true → wpAny _ _ (exec (.Expr e _) _) _ _ _) (an h).2 (fun id p xs pos _ h => bind_some' he fun z e1 he => ifS he fun hz he => by
    replace q := q.cong he
    exact wpAny_Expr_any (Z.e1 h t e1 fun I1 s1 z l1 t1 rz => (q.step l1 (Ext.refl as)).at t1 .next) (fn_inter t.ok) rfl) (an h).1
theorem ex_ifs_ok (X : ExOk C F rank fu n) {cnd : ME} {a b : List MS} (h : chkSB (chkE k tw) (chkS k tw fm.nl) tw fm.nl (.ifs cnd a b) st = true) (he : ((tr F rank n cnd vars c).bind fun x => if x.1 then exs (ex F rank fu n) a vars x.2 else exs (ex F rank fu n) b vars x.2) = some (fl, vars', c')) : ExG C A fm fz I as vars c s Q E st :=
  acc_any wIfS h fun y h => bind_some' he fun x hx he => tr_elim hx fun v hv hb => wpAny_If (Z.t1 (an (an h).1).1 t hv hb fun I1 s1 l1 t1 => by
    cases hx1 : x.1 with
    | true => rw [hx1] at he; exact exs_ok X Z.tw Z.r (an (an h).1).2 t1 he (q.step l1 (Ext.refl as))
    | false => rw [hx1] at he; exact exs_ok X Z.tw Z.r (an h).2 t1 he (q.step l1 (Ext.refl as)))
theorem ex_assert_ok {a : ME} (h : chkSB (chkE k tw) (chkS k tw fm.nl) tw fm.nl (.assert a) st = true) (he : ((tr F rank n a vars c).bind fun x => if x.1 then some (.next, vars, x.2) else none) = some (fl, vars', c')) : ExG C A fm fz I as vars c s Q E st :=
  acc_any wAsr h fun y h => bind_some' he fun x hx he => ifS he fun hx1 he => tr_elim hx fun v hv hb => by
    replace q := q.cong he
    rw [Option.isNone_iff_eq_none.mp (an h).1]
    exact wpAny_Assert_holds (Z.t1 (an h).2 t hv hb fun I1 s1 l1 t1 => ⟨hx1, (q.step l1 (Ext.refl as)).at t1 .next⟩)
theorem ex_ret_ok {o : Option ME} (h : chkSB (chkE k tw) (chkS k tw fm.nl) tw fm.nl (.ret o) st = true) (he : ex F rank fu (n + 1) (.ret o) vars c = some (fl, vars', c')) : ExG C A fm fz I as vars c s Q E st := by
  cases o with
  | none =>
    refine acc_any wRet h fun y h => ?_
    replace q := q.cong he
    rw [Option.isNone_iff_eq_none.mp h]
    exact wpAny_Return_none (q.at t (.ret (show VR I as (.d .none) .none from rfl)))
  | some a =>
    refine acc_any wRet h fun y h => any_is h fun w hw h => bind_some' ((Option.map_eq_bind ..).symm.trans he) fun z e1 he => ?_
    replace q := q.cong he
    rw [hw]
    exact wpAny_Return_some (Z.e1 h t e1 fun I1 s1 z l1 t1 rz => (q.step l1 (Ext.refl as)).at t1 (.ret rz))
end
theorem ex_step (g : CxOk2 C) (hE : ∀ m, m ≤ n → EvOk C F rank m ∧ TrOk C F rank m) (X : ExOk C F rank fu n) (XE : EscOk C F rank fu (n + 1)) : ExOk C F rank fu (n + 1) := by
  intro k tw ms st fm fz I as vars c s fl vars' c' A Q E h htw r t he q
  have r' := r.less
  have Z : Wk C F rank n tw fm A := ⟨g, (hE n (Nat.le_refl n)).1, (hE n (Nat.le_refl n)).2, htw, r'⟩
  have Z0 : Wk C F rank (n - 1) tw fm A := ⟨g, (hE _ (Nat.sub_le ..)).1, (hE _ (Nat.sub_le ..)).2, htw, r'.le (Nat.sub_le ..)⟩
  cases k with
  | zero => exact noT h
  | succ k =>
  cases ms with
  | forEsc x y e b => exact XE rfl h htw r t he q
  | opq => exact noS he
  | assign x a =>
    refine acc_any (G := ExG C A fm fz I as vars c s Q E) wAsg h fun y h => hd1_any (G := fun ts => wpAny _ _ (exec (.Assign ts _ _) _) _ _ _) h fun t' h => bind_some' ((Option.map_eq_bind ..).symm.trans he) fun z e1 he => ?_
    cases he
    cases n with
    | zero => exact noS e1
    | succ n => exact assign_ok Z.H Z0 (an h).1 (an h).2 r' t e1 q
  | newlist x a => exact ex_newlist_ok Z t q Z0 h he
  | multi ts => exact ex_multi_ok Z t q Z.H Z0 h he
  | bindapp x rr => exact ex_bindapp_ok t q h he
  | aug x o a => exact ex_aug_ok Z t q h he
  | setitem x i a => exact ex_setitem_ok Z t q h he
  | meth x a => exact ex_meth_ok Z t q h he
  | addc x a => exact ex_addc_ok Z t q h he
  | expr a => exact ex_expr_ok Z t q h he
  | ifs cnd a b => exact ex_ifs_ok Z t q X h he
  | «while» cnd a => exact acc_any (G := ExG C A fm fz I as vars c s Q E) wWhl h fun y h => nil_of (G := fun o => wpAny _ _ (exec (.While _ _ o _) _) _ _ _) (an (an h).1).1 (while_ok X Z (an (an h).1).2 (an h).2 t he q)
  | «for» xs pat it b => exact acc_any (G := ExG C A fm fz I as vars c s Q E) wFor h fun y h => nil_of (G := fun o => wpAny _ _ (exec (.For _ _ _ o _) _) _ _ _) (an (an (an h).1).1).1 (bind_some' he fun z e1 he => for_ok Z X (an (an (an h).1).1).2 (an (an h).1).2 (an h).2 t e1 he q)
  | ret o => exact ex_ret_ok Z t q h he
  | assert a => exact ex_assert_ok Z t q h he
  | cont =>
    obtain ⟨y, hy⟩ := Option.isSome_iff_exists.mp (show (acc wCnt st).isSome = true from h)
    rw [acc_is hy]
    exact PySem.wpAny_Continue ((q.cong he).at t .cont)
  | brk =>
    obtain ⟨y, hy⟩ := Option.isSome_iff_exists.mp (show (acc wBrk st).isSome = true from h)
    rw [acc_is hy]
    exact PySem.wpAny_Break ((q.cong he).at t .brk)
end
end Mine
end
section
open PySem PySem.W PyProof.Rows PySem.SeqAt
set_option maxRecDepth 100000
namespace Mine
noncomputable def Cx.fsw (C : Cx) (L : List Env) : Cx := { C with fl := L }
inductive FnIs (C : Cx) (id : Str) (ps : List Str) (body : List PySem.Stmt) (sc : Scope) (ok : Value → Prop) : Prop
  | mk (a : Addr) (o : Obj) (fd : FuncData) : C.mg id = some (.ref a) → C.h₀.get? a = some o → o.data = .func fd → fd.body = .stmts body → fd.scope = sc → fd.closure = [] → fd.globals = mainGlobals → fd.builtins = builtinsNs → C.h₀.CodeRec fd.code fd.qualname → ok fd.code →
    (∀ vals : List Value, vals.length = ps.length → bindArgs fd ⟨vals, []⟩ = pure (ps.zip vals)) → FnIs C id ps body sc ok
structure ChkF (ps : List Str) (sc : Scope) (fn : Fn) : Prop where
  h1 : sc.kind = .function
  h2 : sc.isCoroutine = false
  h3 : sc.isGenerator = false
  h4 : fn.params.map (fun x => nms[x]?) = ps.map some
  h5 : ps.Nodup
  h6 : ∀ p ∈ ps, sc.names.lookup p = some .local ∨ sc.names.lookup p = some .cell
  h7 : ∀ p ∈ sc.names, p.2 ≠ .free
noncomputable def chkF (ps : List Str) (sc : Scope) (fn : Fn) : Bool :=
  decide (sc.kind = .function) && !sc.isCoroutine && !sc.isGenerator && decide (fn.params.map (fun x => nms[x]?) = ps.map some) && decide ps.Nodup && (ps.all fun p => decide (sc.names.lookup p = some .local) || decide (sc.names.lookup p = some .cell)) && sc.names.all fun p => !decide (p.2 = .free)
theorem chkF_is {ps : List Str} {sc : Scope} {fn : Fn} (h : chkF ps sc fn = true) : ChkF ps sc fn :=
  have a := an h
  have b := an a.1
  have c := an b.1
  have d := an c.1
  have e := an d.1
  have f := an e.1
  ⟨dc f.1, (Bool.not_eq_true' _).mp f.2, (Bool.not_eq_true' _).mp e.2, dc d.2, dc c.2, fun p hp => (Bool.or_eq_true_iff.mp (List.all_eq_true.mp b.2 p hp)).imp dc dc, fun p hp => of_decide_eq_false ((Bool.not_eq_true' _).mp (List.all_eq_true.mp a.2 p hp))⟩
theorem ChkF.len {ps : List Str} {sc : Scope} {fn : Fn} (h : ChkF ps sc fn) : fn.params.length = ps.length := by
  have := congrArg List.length h.h4
  rwa [List.length_map, List.length_map] at this
theorem cellsFrom_has {id : Str} (l : NL) : ∀ (n : Nat) (acc : List (Str × Addr)), ((acc.lookup id).isSome ∨ (id, NameKind.cell) ∈ l) → ((cellsFrom n l acc).lookup id).isSome := by
  induction l with
  | nil => exact fun n acc h => h.elim (fun h => h) fun h => nomatch h
  | cons p r ih =>
    obtain ⟨x, k⟩ := p
    intro n acc h
    unfold cellsFrom
    split
    · refine ih _ _ (h.elim (fun h => .inl ?_) fun h => (List.mem_cons.mp h).elim (fun e => .inl ?_) .inr)
      · rw [List.lookup_cons]
        cases id == x with
        | true => rfl
        | false => exact h
      · cases e; rw [List.lookup_cons, beq_self_eq_true]; rfl
    · rename_i hk
      exact ih _ _ (h.imp (fun h => h) fun h => (List.mem_cons.mp h).elim (fun e => by cases e; exact absurd rfl hk) fun h => h)
section
variable {kd : Str → Option NameKind} {y : Str} {v : Value} {bs : List (Str × Value)}
theorem bindL_ne : ∀ {m : Str → Option Value}, y ∉ bs.map (·.1) → bindL kd bs m y = m y := by
  induction bs with
  | nil => exact fun _ => rfl
  | cons p r ih =>
    intro m h
    show bindL kd r _ y = _
    rw [ih fun q => h (List.mem_cons_of_mem _ q)]
    by_cases hk : kd p.1 = some .local
    · rw [if_pos hk]; exact if_neg fun (q : y = p.1) => h (q ▸ List.mem_cons_self ..)
    · rw [if_neg hk]
theorem bindC_ne : ∀ {m : Str → Option Value}, y ∉ bs.map (·.1) → bindC kd bs m y = m y := by
  induction bs with
  | nil => exact fun _ => rfl
  | cons p r ih =>
    intro m h
    show bindC kd r _ y = _
    rw [ih fun q => h (List.mem_cons_of_mem _ q)]
    by_cases hk : kd p.1 = some .local
    · rw [if_pos hk]
    · rw [if_neg hk]; exact if_neg fun (q : y = p.1) => h (q ▸ List.mem_cons_self ..)
theorem bindL_mem : ∀ {m : Str → Option Value}, (bs.map (·.1)).Nodup → (y, v) ∈ bs → kd y = some .local → bindL kd bs m y = some v := by
  induction bs with
  | nil => exact fun _ h => nomatch h
  | cons p r ih =>
    intro m hn h hk
    rcases List.mem_cons.mp h with e | h
    · cases e
      show bindL kd r _ y = _
      rw [bindL_ne (List.nodup_cons.mp hn).1, if_pos hk]; exact if_pos rfl
    · exact ih (List.nodup_cons.mp hn).2 h hk
theorem bindC_mem : ∀ {m : Str → Option Value}, (bs.map (·.1)).Nodup → (y, v) ∈ bs → kd y = some .cell → bindC kd bs m y = some v := by
  induction bs with
  | nil => exact fun _ h => nomatch h
  | cons p r ih =>
    intro m hn h hk
    rcases List.mem_cons.mp h with e | h
    · cases e
      show bindC kd r _ y = _
      rw [bindC_ne (List.nodup_cons.mp hn).1, if_neg (by rw [hk]; exact nofun)]; exact if_pos rfl
    · exact ih (List.nodup_cons.mp hn).2 h hk
end
section
variable {C : Cx} {F : FT} {rank : Nat → Nat} {n fu : Nat} {k : Nat} {tw : Bool} {fm : Fm} {fz : Fz} {I : Im} {as : List Addr} {vars : Vars} {c : Cells} {s : Shared} {A : Around} {E : Value → Shared → Prop}
theorem Gd.cutCells {as' : List Addr} {k : Nat} (g : Gd C fz I as' c s) : Gd C fz I (as'.take k) (c.take k) s where
  rd := g.rd
  fr := g.fr
  dj := g.dj
  fas b hb := g.fas b (List.mem_of_mem_take hb)
  base := g.base
  cel := g.cel.take k
  gens := g.gens
  os := g.os
  pos := g.pos
  tfz := g.tfz
  tab := g.tab
theorem Gd.fin (g : Gd C fz I as c s) (env : Env) : Gd (C.fsw (env :: C.fl)) fz I as c s where
  rd := g.rd
  fr a o hP e := (g.fr a o hP e).imp fun o' h => ⟨h.1, h.2.imp id fun h => ⟨h.1.imp fun en h => ⟨List.mem_cons_of_mem _ h.1, h.2⟩, h.2⟩⟩
  dj := g.dj
  fas := g.fas
  base := g.base
  cel := g.cel
  gens := g.gens
  os := g.os
  pos := g.pos
  tfz := g.tfz
  tab := g.tab
theorem Gd.fout {env : Env} (g : Gd (C.fsw (env :: C.fl)) fz I as c s) (h : ∀ a, env.frame = some a → fz a = none) : Gd C fz I as c s where
  rd := g.rd
  fr a o hP e := (g.fr a o hP e).imp fun o' k => ⟨k.1, k.2.imp id fun k => ⟨k.1.imp fun en f => ⟨(List.mem_cons.mp f.1).elim (fun (q : en = env) => nomatch (h a (q ▸ f.2)).symm.trans e) (fun m => m), f.2⟩, k.2⟩⟩
  dj := g.dj
  fas := g.fas
  base := g.base
  cel := g.cel
  gens := g.gens
  os := g.os
  pos := g.pos
  tfz := g.tfz
  tab := g.tab
theorem CxOk2.fsw (g : CxOk2 C) (L : List Env) : CxOk2 (C.fsw L) := ⟨⟨g.g, g.b, g.nolimit⟩, g.blt, g.fn⟩
theorem freeze_ok {as' : List Addr} {fl : Fl} {f : Flow} {v : V} {c' : Cells} {G : Prop} (g : Gd C fz I as' c' s) (hx : Ext as as') (hl : as.length = c.length) (h : freeze c' c.length fl = some v) (fr : FlowR I as' fl f)
    (k : ∀ I', I.le I' → Gd C fz I' as (c'.take c.length) s → VR I' as v (match (generalizing := false) f with | .ret v => v | _ => .none) → G) : G := by
  obtain ⟨x, rfl⟩ := hx
  have g1 := g.cutCells (k := as.length)
  rw [List.take_left, hl] at g1
  cases fr with
  | next => cases h; exact k I (Im.le.refl I) g1 (show DR I .none .none from rfl)
  | brk => exact noS h
  | cont => exact noS h
  | @ret w y rv =>
    refine orE_some (show orE (optLoc w) _ _ = some v from h) (fun i h1 h => ifB h (fun hk h => ?_) fun _ => noS) fun h => ?_
    · refine bind_some' ((Option.map_eq_bind ..).symm.trans h) fun l h2 h3 => ?_
      cases optLoc_is h1
      obtain ⟨a, ha', rfl⟩ := rv
      obtain ⟨_, its, nn, ha, e1, hn, d1⟩ := g.cel.get h2
      cases ha'.symm.trans ha
      have ha2 : a ∈ as ++ x := List.mem_of_getElem? ha
      have hna : a ∉ as := fun hm => by
        rw [List.getElem?_append_right (hl ▸ Nat.le_of_ble_eq_true hk)] at ha
        exact (List.nodup_append.mp g.cel.nodup).2.2 a hm a (List.mem_of_getElem? ha) rfl
      have a1 := g.cel.noRd a ha2
      cases h3
      exact k _ (Im.le.add a1) (g1.add a1 (g.fas a ha2) hna e1) (show DR _ (.list l) _ from .mk nn hn (if_pos rfl) (d1.mono (Im.le.add a1)))
    · refine bind_some' ((Option.map_eq_bind ..).symm.trans h) fun d h1 h => ?_
      cases dOf_is h1
      cases h
      exact k I (Im.le.refl I) g1 rv
theorem vof_elim {z : Nat × V} {r : List (Nat × V)} {y : Nat} {v : V} {G : Prop} (h : vof (z :: r) y = some v) (k1 : y = z.1 → some z.2 = some v → G) (k2 : vof r y = some v → G) : G := by
  replace h : (bif Nat.beq y z.1 then some z.2 else vof r y) = some v := h
  cases e : Nat.beq y z.1 with
  | true => rw [e] at h; exact k1 (Nat.eq_of_beq_eq_true e) h
  | false => rw [e] at h; exact k2 h
theorem arg_of {y : Nat} {v : V} {nm : Str} (hnm : nms[y]? = some nm) {xs : List Nat} : ∀ {qs : List Str} {ws : List Value} {as' : List V}, xs.map (fun x => nms[x]?) = qs.map some → VRs I as as' ws → xs.length = as'.length → vget (vof (xs.zip as')) y = some v → ∃ u, VR I as v u ∧ (nm, u) ∈ qs.zip ws := by
  induction xs with
  | nil => exact fun _ _ _ h => noS h
  | cons z xs ih =>
    intro qs ws as' hm hr hl h
    cases qs with
    | nil => exact nomatch hm
    | cons q qs => cases as' with
      | nil => exact nomatch hl
      | cons w as' =>
        obtain ⟨u, us, rfl, r1, r2⟩ := hr
        have hm := List.cons.inj hm
        refine vof_elim h (fun e e2 => ⟨u, Option.some.inj e2 ▸ r1, ?_⟩) fun h => (ih hm.2 r2 (Nat.succ.inj hl) h).imp fun u h => ⟨h.1, List.mem_cons_of_mem _ h.2⟩
        rw [Option.some.inj (((congrArg (nms[·]?) e).symm.trans hnm).symm.trans hm.1)]
        exact List.mem_cons_self ..
theorem door {ps : List Str} {sc : Scope} {fn : Fn} {vals : List Value} {args : List V} {fd : FuncData} {a : Addr} {s₁ : Shared} (hc : ChkF ps sc fn) (hsc : fd.scope = sc) (hg : fd.globals = mainGlobals) (hb : fd.builtins = builtinsNs) (g : Gd C fz I as c s) (rv : VRs I as args vals) (hl : fn.params.length = args.length)
    (x : InCallC s (callEnvC fd s.heap.objs.size a).locals (bindL (callEnvC fd s.heap.objs.size a).kindOf (ps.zip vals) fun _ => none) (callEnvC fd s.heap.objs.size a).cells (bindC (callEnvC fd s.heap.objs.size a).kindOf (ps.zip vals) fun _ => none) s₁) (hp : 0 < s₁.toks) (fi : FlIn C fz none) :
    ∃ fm : Fm, fm.env = callEnvC fd s.heap.objs.size a ∧ fm.nl = sc.names ∧ St (C.fsw (fm.env :: C.fl)) fm fz I as (vof (fn.params.zip args)) c s₁ := by
  subst hsc
  obtain ⟨hs', tk, rfl⟩ := x.toInCall.same
  have fresh : ∀ b, s.heap.objs.size ≤ b → s.heap.get? b = none := fun b hb => Heap.get?_none_of_le hb
  let cs := (callEnvC fd s.heap.objs.size a).cells
  let mu := (callEnvC fd s.heap.objs.size a).locals :: (fd.scope.names.filterMap fun p => cs.lookup p.1)
  have hL := fresh _ (Nat.le_refl s.heap.objs.size)
  have gg : Gd C fz I as c { s with heap := hs', toks := tk } := g.step (s' := { s with heap := hs', toks := tk }) (g.fresh_rd hL) (g.fresh_fz hL) (g.fresh_as hL) (fun b o _ e => x.toInCall.keep b o e) g.gens rfl hp
  have hbinds : (ps.zip vals).map (·.1) = ps := List.map_fst_zip (Nat.le_of_eq (hc.len.symm.trans (hl.trans rv.length.symm)))
  have cell : ∀ id, fd.scope.names.lookup id = some .cell → ∃ cc, cs.lookup id = some cc ∧ cc ∈ mu := fun id h =>
    (Option.isSome_iff_exists.mp (cellsFrom_has fd.scope.names (s.heap.objs.size + 1) [] (.inr (mem_lookup h)))).imp fun cc hcc => ⟨hcc, List.mem_cons_of_mem _ (List.mem_filterMap.mpr ⟨_, mem_lookup h, hcc⟩)⟩
  refine ⟨{ env := callEnvC fd s.heap.objs.size a, mu, nl := fd.scope.names }, rfl, rfl, { toGd := gg.fin _, ok := ?_, mu := fun b hb => ?_, vr := ?_, fls := fun en hen => ?_ }⟩
  · exact { kind := hc.h1, glob := hg, bi := hb, loc := List.mem_cons_self .., names := fun id k h _ => h, frees := fun id h => absurd rfl (hc.h7 _ (mem_lookup h)), cel := fun id h =>
      (cell id h).imp fun cc k => ⟨k.1, k.2, Nat.ne_of_gt (x.above id cc (mem_of_lookup k.1)), fun id' hid' => name_of_addr x.apart (mem_of_lookup hid') (mem_of_lookup k.1)⟩ }
  · have q : s.heap.get? b = none ∧ ∃ o, hs'.get? b = some o ∧ (b = (callEnvC fd s.heap.objs.size a).locals ∨ ∃ v, o.data = .cell v) := by
      rcases List.mem_cons.mp hb with rfl | hb
      · obtain ⟨o, es, ep, e1, _⟩ := x.toInCall.ns
        exact ⟨fresh _ x.toInCall.fresh, o, e1, .inl rfl⟩
      · obtain ⟨p, _, hp⟩ := List.mem_filterMap.mp hb
        obtain ⟨o, e1, e2⟩ := x.cell p.1 b hp
        exact ⟨fresh _ (Nat.le_trans x.toInCall.fresh (Nat.le_of_lt (x.above p.1 b (mem_of_lookup hp)))), o, e1, .inr ⟨_, e2⟩⟩
    exact ⟨g.fresh_rd q.1, g.fresh_fz q.1, g.fresh_as q.1, q.2⟩
  · refine ⟨_, x.toInCall.ns, fun y v nm kk hy hnm hk hvk => ?_⟩
    obtain ⟨u, ru, hmem⟩ := arg_of hnm hc.h4 rv hl hy
    refine ⟨u, ru, ?_⟩
    have nd : ((ps.zip vals).map (·.1)).Nodup := by rw [hbinds]; exact hc.h5
    have hp2 : nm ∈ ps := by rw [← hbinds]; exact List.mem_map.mpr ⟨_, hmem, rfl⟩
    exact (hc.h6 nm hp2).imp (fun hk' => ⟨hk', bindL_mem nd hmem hk'⟩) fun hk' => ⟨hk', (cell nm hk').imp fun cc k => ⟨k.1, bindC_mem (kd := (callEnvC fd s.heap.objs.size a).kindOf) (m := fun _ => none) nd hmem hk' ▸ x.cell nm cc k.1, .inl k.2⟩⟩
  · refine (List.mem_cons.mp hen).elim (fun e => ?_) fun hen => (fi en hen).imp id fun h => h.imp fun b k => ⟨k.1, k.2.imp id fun e => nomatch e⟩
    rw [e]
    refine ⟨⟨(by rw [show (callEnvC fd s.heap.objs.size a).scope.kind = .function from hc.h1]; exact nofun), fun q => ?_⟩, _, rfl, .inr rfl⟩
    obtain ⟨ps', e', _⟩ := g.tab
    rw [← Option.some.inj (show some s.heap.objs.size = some C.P from q), hL] at e'
    exact noS e'
end
end Mine
end
section
open PySem PySem.W PyProof.Rows PySem.SeqAt
set_option maxRecDepth 100000
namespace Mine
inductive FrameOf (C : Cx) (sc : Scope) (ok : Value → Prop) (fm : Fm) : Prop
  | mk (fd : FuncData) (k a : Addr) : fm.env = callEnvC fd k a → fm.nl = sc.names → fd.scope = sc → fd.globals = mainGlobals → fd.builtins = builtinsNs → ok fd.code → FrameOf C sc ok fm
section
variable {C : Cx} {F : FT} {rank : Nat → Nat} {n fu m : Nat} {k : Nat} {tw : Bool}
theorem FrameOf.frame {C : Cx} {sc : Scope} {ok : Value → Prop} {fm : Fm} (h : FrameOf C sc ok fm) : fm.env.frame = some fm.env.locals := h.casesOn fun fd k a e _ _ _ _ _ => by rw [e]; rfl
theorem FrameOf.names {C : Cx} {sc : Scope} {ok : Value → Prop} {fm : Fm} (h : FrameOf C sc ok fm) : fm.nl = sc.names := h.casesOn fun _ _ _ _ h _ _ _ _ => h
theorem deep2 {d m : Nat} (h : d + 2 * (m + 1) ≤ 990) : d + 1 + 2 * m ≤ 990 := by omega
theorem deep3 {d m : Nat} (h : d + 20 * (m + 1) ≤ 9900) : d + 3 + 20 * m ≤ 9900 := by omega
theorem deep4 {d m : Nat} (h : d + 2 * m ≤ 990) : d < 1000 := by omega
theorem Room.deeper {C : Cx} {m : Nat} {A : Around} (r : Room C (m + 1) A) (env : Env) : Room (C.fsw (env :: C.fl)) m (A.deeper env) :=
  ⟨r.1, deep2 r.2.1, deep3 r.2.2.1, congrArg (Option.map (env :: ·)) r.2.2.2⟩
theorem call_inE {ps : List Str} {body : List PySem.Stmt} {sc : Scope} {ok : Value → Prop} {fn : Fn} {id : Str} {a : Addr} {A : Around} {fz : Fz} {I : Im} {as : List Addr} {c : Cells} {s : Shared} {args : List V} {vals : List Value} {Q : Value → Shared → Prop} {E : Value → Shared → Prop}
    (g0 : CxOk2 C) (hx : FnIs C id ps body sc ok) (hc : ChkF ps sc fn) (hd : A.depth < recursionLimit) (fi : FlIn C fz none) (g : Gd C fz I as c s) (rv : VRs I as args vals) (hl : fn.params.length = args.length) (ha : C.mg id = some (.ref a))
    (q : ∀ fm h₁ tk, FrameOf C sc ok fm → St (C.fsw (fm.env :: C.fl)) fm fz I as (vof (fn.params.zip args)) c { s with heap := h₁, toks := tk } → (∀ b o, s.heap.get? b = some o → h₁.get? b = some o) → s.heap.get? fm.env.locals = none →
      wpAny (model C.prog C.w) (A.deeper fm.env) (execs body fm.env) (fun f s' => Q (match f with | .ret v => v | _ => .none) s')
        (fun e s' => wpAny (model C.prog C.w) (A.deeper fm.env) (leaving fm.env e) (fun _ s'' => E e s'') (fun e' s'' => E e' s'') s') { s with heap := h₁, toks := tk }) :
    wpAny (model C.prog C.w) A (call (.ref a) vals) Q E s := by
  cases hx with | mk a' o fd h1 h2 h3 h4 hsc h6 h7 h8 h9 h10 h11 =>
  subst hsc
  cases ha.symm.trans h1
  have hps : vals.length = ps.length := rv.length.trans (hl.symm.trans hc.len)
  have kp : ∀ b o, C.h₀.get? b = some o → s.heap.get? b = some o := fun b o e => g.rd b o (g.base b o e)
  refine wpAny_call (codeAny_call_function hd (kp _ _ h2) h3 hc.h2 hc.h3 h4 (h9.keeps kp) ?_)
  rw [h11 vals hps, h6]
  refine wpAny_pure (wpAny_pos g.pos (wpAny_newFunctionEnv_cells hc.h1 (fun x hx => (hc.h6 x.1 (List.of_mem_zip hx).1).imp (fun h => h) fun hk => ⟨hk, cellsFrom_has _ _ _ (.inr (mem_lookup hk))⟩) fun env he s' x hp => ?_))
  subst he
  refine ⟨(g0.nolimit.keeps kp).keeps x.toInCall.keep, codeAny_func ?_⟩
  obtain ⟨fm, e1, e2, t⟩ := door hc rfl h7 h8 g rv hl x hp fi
  obtain ⟨hs', tk, rfl⟩ := x.toInCall.same
  have := q fm hs' tk ⟨fd, _, a, e1, e2, rfl, h7, h8, h10⟩ t (fun b o e => x.toInCall.keep b o e) (by rw [e1]; exact Heap.get?_none_of_le (Nat.le_refl _))
  rw [e1] at this
  exact this
theorem call_in {ps : List Str} {body : List PySem.Stmt} {sc : Scope} {ok : Value → Prop} {fn : Fn} {id : Str} {a : Addr} {A : Around} {fz : Fz} {I : Im} {as : List Addr} {c : Cells} {s : Shared} {args : List V} {vals : List Value} {Q : Value → Shared → Prop} {E : Value → Shared → Prop}
    (g0 : CxOk2 C) (hx : FnIs C id ps body sc ok) (hc : ChkF ps sc fn) (hd : A.depth < recursionLimit) (fi : FlIn C fz none) (g : Gd C fz I as c s) (rv : VRs I as args vals) (hl : fn.params.length = args.length) (ha : C.mg id = some (.ref a))
    (q : ∀ fm s₁, FrameOf C sc ok fm → St (C.fsw (fm.env :: C.fl)) fm fz I as (vof (fn.params.zip args)) c s₁ →
      wpAny (model C.prog C.w) (A.deeper fm.env) (execs body fm.env) (fun f s' => Q (match f with | .ret v => v | _ => .none) s') (fun _ _ => False) s₁) :
    wpAny (model C.prog C.w) A (call (.ref a) vals) Q E s :=
  call_inE g0 hx hc hd fi g rv hl ha fun fm h₁ tk hf t _ _ => wpAny_mono (q fm _ hf t) (fun _ _ h => h) fun _ _ h => h.elim
theorem def_out {C : Cx} {sc : Scope} {ok : Value → Prop} {fm : Fm} {fz : Fz} {I' : Im} {as as' : List Addr} {c c1 : Cells} {vars' : Vars} {s' : Shared} {fl : Fl} {fo : Flow} {w : V} {G : Prop} (hfm : FrameOf C sc ok fm) (t' : St (C.fsw (fm.env :: C.fl)) fm fz I' as' vars' c1 s') (x : Ext as as') (hl : as.length = c.length) (e2 : freeze c1 c.length fl = some w) (fr : FlowR I' as' fl fo)
    (k : ∀ I2, I'.le I2 → Gd C fz I2 as (c1.take c.length) s' → VR I2 as w (match (generalizing := false) fo with | .ret v => v | _ => .none) → G) : G :=
  freeze_ok (t'.toGd.fout fun b hb => by cases hfm.frame.symm.trans hb; exact (t'.mu _ t'.ok.loc).2.1) x hl e2 fr k
theorem exFn_elim {fn : Fn} {args : List V} {c c' : Cells} {v : V} {G : V → Cells → Prop} (hs : fn.star = none) (h : exFn F rank fu m fn args c = some (v, c')) (k : ∀ fl vars' c1 w, fn.params.length = args.length → exs (ex F rank fu m) fn.body (vof (fn.params.zip args)) c = some (fl, vars', c1) → freeze c1 c.length fl = some w → G w (c1.take c.length)) : G v c' := by
  unfold exFn at h
  rw [hs] at h
  exact ifB h (fun _ => noS) fun hl h => bind_some' h fun x h1 h => map_some' (G := fun z : V × Cells => G z.1 z.2) h fun w h2 => k x.1 x.2.1 x.2.2 w (Decidable.of_not_not fun q => nomatch (bne_iff_ne.mpr q).symm.trans hl) h1 h2
theorem call_ok {ps : List Str} {body : List PySem.Stmt} {sc : Scope} {ok : Value → Prop} {fn : Fn} {f : Nat} {id : Str} (g0 : CxOk2 C) (hx : FnIs C id ps body sc ok) (hf : fnms[f - 1]? = some id) (hc : chkF ps sc fn = true) (hb : chkBs (chkS k tw sc.names) fn.body body = true)
    (htw : tw = true → ∀ fm : Fm, FrameOf C sc ok fm → TwOk (C.fsw (fm.env :: C.fl)) fm) (X : ∀ L, ExOk (C.fsw L) F rank fu m) (hr : rank f = m + 1) (hF : ∀ {args c r}, F f args c = some r → exFn F rank fu m fn args c = some r) (hs : fn.star = none) : CallOk C F rank f := by
  intro A fz I as c s args vals v c' Q E id' a r fi g rv he h0 h1 h2 q
  cases hf.symm.trans h1
  rw [hr] at r
  exact exFn_elim (G := fun v c' => (∀ I' s' x, I.le I' → Gd C fz I' as c' s' → VR I' as v x → Q x s') → _) hs (hF he) (fun fl vars' c1 w hl e1 e2 q => call_in g0 hx (chkF_is hc) (deep4 r.2.1) fi g rv hl h2 fun fm s₁ hfm t =>
    exs_ok (X _) (fun h => htw h fm hfm) (r.deeper fm.env) (hfm.names ▸ hb) t e1 fun I' as' s' fo l x t' fr => def_out hfm t' x g.cel.length e2 fr fun I2 l2 g2 v2 => q I2 s' _ (l.trans l2) g2 v2) q
end
end Mine
end
section
open PySem PySem.W PyProof.Rows PySem.SeqAt
set_option maxRecDepth 100000
namespace Mine
theorem ob_mro : mroOf (.type "object") = pure [.type "object"] := by rw [mroOf_type]; kernel_rfl
theorem ob_lookup_new : typeLookup (.type "object") "__new__" = pure (some (.builtin "object.__new__")) := by rw [typeLookup_type, builtinLookup_eq_fast]; kernel_rfl
theorem ob_slot_init : Slot "object" "__init__" "object.__init__" :=
  .of (owner := "object") (n := "__init__") (by rw [typeLookup_type, builtinLookup_eq_fast]; kernel_rfl) (by decide +kernel) (by decide +kernel) (by decide +kernel)
    (by first | exact .inl (by decide +kernel) | exact .inr (by decide +kernel)) (by rw [isSubtype_type]; kernel_rfl)
theorem ob_called : TypeCalled "object" "object.__new__" "object.__init__" :=
  ⟨by decide +kernel, by decide +kernel, ⟨_, _, ob_mro⟩, madeBy_type ob_mro ob_lookup_new (by decide +kernel), by decide +kernel, by rw [isSubtype_type]; kernel_rfl, ob_slot_init⟩
theorem ob_typeCall : checkTypeCall "object" ⟨[], []⟩ = pure () := by kernel_rfl
theorem ob_newCall : checkBuiltinCall "object.__new__" ⟨[.type "object"], []⟩ = pure () := by kernel_rfl
theorem ob_plain : plainId "object.__new__" = true := by decide +kernel
theorem ob_madeHere : Bind.madeHere "object.__new__" (.type "object") = pure () := by kernel_rfl
theorem ob_new : (Manifest.find? "object").elim false (·.mro.any fun t => (Manifest.find? t).elim false (·.noNew)) = false := by decide +kernel
theorem ob_dict : typeHasDict (.type "object") = false := by decide +kernel
theorem ob_del : diesByItsTypesDel "object" = false := by decide +kernel
section
variable {prog : Program} {w : World} {A : Around} {E : Value → Shared → Prop} {s : Shared}
theorem code_object_new {Q₁ : Value → Shared → Prop}
    (h : Q₁ (.ref s.heap.objs.size) { s with heap := s.heap.push { cls := .type "object", data := .plain } }) :
    codeAny (model prog w) A (.call (.builtin "object.__new__") ⟨[.type "object"], []⟩) (wants Q₁ E) s := by
  refine codeAny_call_builtin ob_plain F.objNew.entry (wpAny_of_eq ob_newCall ?_)
  have h1 := ob_madeHere
  have h2 := ob_new
  have h3 := ob_dict
  have h4 := ob_del
  unfold Builtin.«object.__new__»
  repeat (any_goals (first | assumption | wp_step))
theorem call_object {Q : Value → Shared → Prop}
    (h : Q (.ref s.heap.objs.size) { s with heap := s.heap.push { cls := .type "object", data := .plain } }) :
    wpAny (model prog w) A (call (.type "object") []) Q E s := by
  refine callType_codes (Q₁ := fun v s' => v = .ref s.heap.objs.size ∧ s' = { s with heap := s.heap.push { cls := .type "object", data := .plain } }) ob_called ob_typeCall F.entry_object_init (code_object_new ⟨rfl, rfl⟩) ?_
  rintro _ _ ⟨rfl, rfl⟩
  refine ⟨⟨_, Heap.get?_push_size _ rfl, rfl⟩, F.args_object_init_1 _, ?_⟩
  unfold Builtin.«object.__init__»
  exact wpAny_pure ⟨rfl, h⟩
end
end Mine
end
section
open PySem PySem.W PyProof.Rows PySem.SeqAt
set_option maxRecDepth 100000
namespace Mine
theorem VR.restar {I J : Im} {as : List Addr} {v : V} {x : Value} (h : ∀ a o, I.rd a = some o → J.rd a = some o) (hn : v.noStar = true) (r : VR I as v x) : VR J as v x := by
  cases v with
  | d y => exact DR.restar h (.inl hn) r
  | loc i => exact r
  | app i => exact r.casesOn fun h1 h3 => .mk h1 (h _ _ h3)
noncomputable def Im.star (I : Im) (a : Addr) : Im := { st := a, rd := I.rd }
section
variable {C : Cx} {F : FT} {rank : Nat → Nat} {n fu m : Nat} {k : Nat} {tw : Bool} {fm : Fm} {fz : Fz} {I : Im} {as : List Addr} {vars : Vars} {c : Cells} {s : Shared}
theorem Gd.restar (g : Gd C fz I as c s) (hc : c.all noStars = true) (a : Addr) : Gd C fz (I.star a) as c s where
  rd := g.rd
  fr := g.fr
  dj := g.dj
  fas := g.fas
  base := g.base
  cel := CR.restar (I := I) (J := I.star a) (fun _ _ e => e) g.cel (.inl hc) (fun _ _ _ e => e) g.cel.noRd
  gens := g.gens
  os := g.os
  pos := g.pos
  tfz := g.tfz
  tab := g.tab
theorem St.restar (t : St C fm fz I as vars c s) (hc : c.all noStars = true) (hv : ∀ x v, vget vars x = some v → v.noStar = true) (a : Addr) : St C fm fz (I.star a) as vars c s where
  fls := t.fls
  toGd := t.toGd.restar hc a
  ok := t.ok
  mu := t.mu
  vr := by
    obtain ⟨m, hm, w⟩ := t.vr
    refine ⟨m, hm, fun x v nm kk hx hn hk hvk => ?_⟩
    obtain ⟨y, r, z⟩ := w x v nm kk hx hn hk hvk
    exact ⟨y, VR.restar (I := I) (J := I.star a) (fun _ _ e => e) (hv x v hx) r, z⟩
theorem vget_zip {P : V → Bool} {x : Nat} {v : V} {xs : List Nat} : ∀ {args : List V}, args.all P = true → vget (vof (xs.zip args)) x = some v → P v = true := by
  induction xs with
  | nil => exact fun _ h => noS h
  | cons y ys ih => intro args ha h; cases args with
    | nil => exact noS h
    | cons a as => exact vof_elim h (fun _ e => Option.some.inj e ▸ (an ha).1) (ih (an ha).2)
theorem exFn_star {fn : Fn} {z : Nat} {args : List V} {c c' : Cells} {v : V} {G : V → Cells → Prop} (hs : fn.star = some z) (h : exFn F rank fu m fn args c = some (v, c')) (k : ∀ fl vars' c1 w, fn.params.length = args.length → args.all V.noStar = true → c.all noStars = true → exs (ex F rank fu m) fn.body (vof ((z, .d .star) :: fn.params.zip args)) c = some (fl, vars', c1) → freeze c1 c.length fl = some w → w.noStar = true → (c1.take c.length).all noStars = true → G w (c1.take c.length)) : G v c' := by
  unfold exFn at h
  rw [hs] at h
  exact ifB h (fun _ => noS) fun hl h => ifB h (fun hns h => bind_some' h fun x h1 h => bind_some' h fun w h2 h => ifS h fun hw h => by
    cases h; exact k x.1 x.2.1 x.2.2 _ (Decidable.of_not_not fun q => nomatch (bne_iff_ne.mpr q).symm.trans hl) (an hns).1 (an hns).2 h1 h2 (an hw).1 (an hw).2) fun _ => noS
theorem call_star {ps : List Str} {body rest : List PySem.Stmt} {sc : Scope} {ok : Value → Prop} {fn : Fn} {f z : Nat} {id idz ido : Str} {p1 p2 p3 p4 : Pos} (g0 : CxOk2 C) (hx : FnIs C id ps body sc ok) (hf : fnms[f - 1]? = some id) (hc : chkF ps sc fn = true)
    (hbody : body = .Assign [.Name idz p1] (.Call (.Name ido p2) [] [] p3) p4 :: rest) (hz : bindOk sc.names z idz = true) (ho : globOk sc.names ido (Str.ofString "object") = true)
    (hb : chkBs (chkS k tw sc.names) fn.body rest = true)
    (htw : tw = true → ∀ fm : Fm, FrameOf C sc ok fm → TwOk (C.fsw (fm.env :: C.fl)) fm) (X : ∀ L, ExOk (C.fsw L) F rank fu m) (hr : rank f = m + 1) (hF : ∀ {args c r}, F f args c = some r → exFn F rank fu m fn args c = some r) (hs : fn.star = some z) : CallOk C F rank f := by
  intro A fz I as c s args vals v c' Q E id' a r fi g rv he h0 h1 h2 q
  cases hf.symm.trans h1
  rw [hr] at r
  subst hbody
  refine exFn_star (G := fun v c' => (∀ I' s' x, I.le I' → Gd C fz I' as c' s' → VR I' as v x → Q x s') → _) hs (hF he) (fun fl vars' c1 w hl n1 n2 e1 e2 n3 n4 q => call_in g0 hx (chkF_is hc) (deep4 r.2.1) fi g rv hl h2 fun fm s₁ hfm t => ?_) q
  have hnl := hfm.names
  refine wpAny_execs_cons (wpAny_Assign_Name (Call_ (eval_blt (C := C.fsw (fm.env :: C.fl)) (g0.fsw _) t (id := ido) (v := .type "object") (i := 7) (hnl ▸ dc (an ho).2) (by rw [dc (an ho).1]; rfl) (PySem.callWith_type rfl (PySem.evalArgs_none (call_object ?_))))) rfl)
  obtain ⟨l3, t3, e3⟩ := t.push { cls := .type "object", data := .plain } rfl (k := s₁.toks) t.pos
  refine store_ok (C := C.fsw (fm.env :: C.fl)) (v := .d .star) (t3.restar n2 (fun x v h => vget_zip n1 h) s₁.heap.objs.size) (dc (an hz).1) (hnl ▸ (Bool.or_eq_true_iff.mp (an hz).2).elim (fun h => ⟨_, dc h, .inl rfl⟩) fun h => ⟨_, dc h, .inr rfl⟩) ⟨rfl, _, e3, rfl⟩ fun s5 t5 => ?_
  refine exs_ok (C := C.fsw (fm.env :: C.fl)) (X _) (fun h => htw h fm hfm) (r.deeper fm.env) (hnl ▸ hb) t5 e1 fun I' as' s' fo l x t' fr => def_out hfm t' x g.cel.length e2 fr fun I2 l2 g2 v2 => ?_
  exact q (I2.star I.st) s' _ ⟨rfl, fun a o e => l2.2 _ _ (l.2 _ _ (l3.2 _ _ e))⟩ (g2.restar n4 _) (VR.restar (I := I2) (J := I2.star I.st) (fun _ _ e => e) n3 v2)
end
end Mine
end
section
open PySem PySem.W PyProof.Rows PySem.SeqAt
set_option maxRecDepth 100000
namespace Mine
section
variable {M : Model} {A : Around} {R : GenEnd} {Y : Protocol} {n : Nat} {s₀ : Shared} {c : Code} {fs : List Frame} {s : Shared} {env : Env}
  {K : Flow → Sem Fin} {H : Value → Sem Fin} {gd : Bool → Bool} {lv : List Value → List Value}
theorem seg_then {α : Type} {m : Sem α} {f : α → Sem Flow}
    (h : wpAny M (A.over c fs) m (fun a s' => Seg M A R Y n s₀ c ((f a).wrap K H gd lv) fs s') (fun x s' => Seg M A R Y n s₀ c (H x) fs s') s) :
    Seg M A R Y n s₀ c ((m >>= f).wrap K H gd lv) fs s := by
  rw [Sem.bind_eq_wrap', Sem.wrap_wrap]; exact seg_wrap h
theorem seg_If {test : PySem.Expr} {body orelse : List PySem.Stmt} {pos : Pos}
    (h : wpAny M (A.over c fs) (isTrue test env (eval test env)) (fun b s' => Seg M A R Y n s₀ c ((if b = true then execs body env else execs orelse env).wrap K H gd lv) fs s') (fun x s' => Seg M A R Y n s₀ c (H x) fs s') s) :
    Seg M A R Y n s₀ c ((exec (.If test body orelse pos) env).wrap K H gd lv) fs s := by
  rw [exec_If]
  exact seg_then (wpAny_standAt (seg_then h))
noncomputable def backOf (c : Code) (p : Pos) (env : Env) (K : Flow → Sem Fin) (H : Value → Sem Fin) (gd : Bool → Bool) (lv : List Value → List Value) : Frame :=
  .ret (fun r => ((match r with | .ok f => (.pure f : Sem Flow) | .error e => .raise e).onRaise fun (x : Value) => do
        if (← field x 1) == Value.none then unsupported "frame.own-activation:exception-without-traceback"
        setFlight x env.frame).wrap K H gd lv) none (gd false) (lv []) c p []
theorem seg_runOwn {c' : Code} (h : ∀ p, Seg M A R Y n s₀ c' (M.den c') (backOf c p env K H gd lv :: fs) s) : Seg M A R Y n s₀ c ((runOwn c' env).wrap K H gd lv) fs s := seg_call h
theorem seg_For {target iter : PySem.Expr} {body orelse : List PySem.Stmt} {pos : Pos}
    (h : wpAny M (A.over c fs) (eval iter env) (fun x s₁ => wpAny M (A.over c fs) (pyIter x) (fun it s₂ =>
      ∀ p, Seg M A R Y n s₀ (.forLoop target it body orelse env) (M.den (.forLoop target it body orelse env)) (backOf c p env K H gd lv :: fs) s₂) (fun x s' => Seg M A R Y n s₀ c (H x) fs s') s₁) (fun x s' => Seg M A R Y n s₀ c (H x) fs s') s)
    (hs : ∀ x, foldedSetIterable iter env x = pure x) :
    Seg M A R Y n s₀ c ((exec (.For target iter body orelse pos) env).wrap K H gd lv) fs s := by
  rw [exec_For]
  refine seg_then (wpAny_standAt (seg_then (wpAny_mono h (fun x s₁ h₁ => ?_) fun _ _ e => e)))
  rw [hs]
  refine seg_then (wpAny_pure (seg_then (wpAny_standAt (seg_then (wpAny_holding (wpAny_mono h₁ (fun it s₂ h₂ => ?_) fun _ _ e => e))))))
  exact seg_runOwn h₂
theorem seg_back {c' : Code} {p : Pos} (h : Seg M A R Y n s₀ c (K .next) fs s) : Seg M A R Y n s₀ c' (.pure (.done .next)) (backOf c p env K H gd lv :: fs) s :=
  seg_leaf (.ok .next) h
end
section
variable {prog : Program} {w : World} {A : Around} {R : GenEnd} {Y : Protocol} {n : Nat} {s₀ : Shared} {fs : List Frame} {s : Shared} {env : Env}
noncomputable abbrev loopK (target : PySem.Expr) (it : Value) (body orelse : List PySem.Stmt) (env : Env) : Flow → Sem Fin := fun f => match f with
  | .next | .cont => .pure (.again (.forLoop target it body orelse env))
  | .brk => .pure (.done .next)
  | .ret v => .pure (.done (.ret v))
noncomputable abbrev noteH (env : Env) : Value → Sem Fin := fun e => (do noteFrame e env; theTreesLotGoes e : Sem Unit).wrap (fun _ => .raise e) .raise id id
theorem seg_forLoop {target : PySem.Expr} {it : Value} {body : List PySem.Stmt}
    (h : wpAny (model prog w) (A.over (.forLoop target it body [] env) fs) (pyNext it) (fun r s₁ => match r with
        | none => Seg (model prog w) A R Y n s₀ (.block [] env) (.pure (.done .next)) fs s₁
        | some v => wpAny (model prog w) (A.over (.forLoop target it body [] env) fs) (letOwnedTupleGo target it v) (fun _ s₂ => wpAny (model prog w) (A.over (.forLoop target it body [] env) fs) (assign target env v) (fun _ s₃ =>
            Seg (model prog w) A R Y n s₀ (.forLoop target it body [] env) ((execs body env).wrap (loopK target it body [] env) (noteH env) id id) fs s₃) (fun _ _ => False) s₂) (fun _ _ => False) s₁) (fun _ _ => False) s) :
    Seg (model prog w) A R Y n s₀ (.forLoop target it body [] env) ((model prog w).den (.forLoop target it body [] env)) fs s := by
  show Seg _ A R Y n s₀ _ ((forTurn target it body [] env).onRaise (fun x => do noteFrame x env; theTreesLotGoes x)) fs s
  unfold forTurn
  rw [Sem.onRaise_eq_wrap, Sem.bind_eq_wrap', Sem.wrap_wrap]
  refine seg_wrap (wpAny_standAt ?_)
  rw [Sem.bind_eq_wrap', Sem.wrap_wrap]
  refine seg_wrap (wpAny_onRaise (wpAny_mono h (fun r s₁ h₁ => ?_) fun _ _ e => e.elim))
  cases r with
  | none =>
    show Seg _ A R Y n s₀ _ (.pure (.again (.block [] env))) fs s₁
    exact seg_again rfl h₁
  | some v =>
    show Seg _ A R Y n s₀ _ (Sem.wrap _ _ _ _ (letOwnedTupleGo target it v >>= _)) fs s₁
    rw [Sem.bind_eq_wrap', Sem.wrap_wrap]
    refine seg_wrap (wpAny_mono h₁ (fun _ s₂ h₂ => ?_) fun _ _ e => e.elim)
    rw [Sem.bind_eq_wrap', Sem.wrap_wrap]
    refine seg_wrap (wpAny_mono h₂ (fun _ s₃ h₃ => ?_) fun _ _ e => e.elim)
    rw [Sem.bind_eq_wrap', Sem.wrap_wrap]
    rw [Sem.wrap_congr (execs body env) _ _ (K' := loopK target it body [] env) (H' := noteH env)
        (fun f => by cases f <;> rfl)
        (fun e => by first | exact Sem.bind_eq_wrap _ _ | (show (do noteFrame e env; theTreesLotGoes e : Sem Unit).bind (fun _ => .raise e) = _; rw [Sem.bind_eq_wrap]))]
    exact h₃
end
end Mine
end
section
open PySem PySem.W PyProof.Rows PySem.SeqAt
set_option maxRecDepth 100000
namespace Mine
noncomputable def escF : Bool → Nat → List Nat → List (Nat × List Nat)
  | b, p, [] => bif b then [(p - 1, [92])] else []
  | b, p, k :: r => bif b then (p, [92, k]) :: escF false (p + 1) r else if k = 92 then escF true (p + 1) r else (p, [k]) :: escF false (p + 1) r
theorem escF_ne {p k : Nat} {r : List Nat} (h : k ≠ 92) : escF false p (k :: r) = (p, [k]) :: escF false (p + 1) r := if_neg h
theorem esc_escF' (l : List Nat) : (∀ p, esc p l = escF false p l) ∧ ∀ p k, esc p (k :: l) = escF false p (k :: l) := by
  induction l with
  | nil => exact ⟨fun _ => rfl, fun p k => if e : k = 92 then e ▸ rfl else (@escF_ne p k [] e).symm⟩
  | cons l r ih => exact ⟨fun p => ih.2 p l, fun p k => if e : k = 92 then e ▸ congrArg ((p + 1, [92, l]) :: ·) (ih.1 (p + 2)) else
      (if_neg e : esc p (k :: l :: r) = _).trans ((congrArg ((p, [k]) :: ·) (ih.2 (p + 1) l)).trans (escF_ne e).symm)⟩
theorem esc_escF (p : Nat) (l : List Nat) : esc p l = escF false p l := (esc_escF' l).1 p
noncomputable def nPos : Str := Str.ofString "pos"
noncomputable def nEsc : Str := Str.ofString "escape"
noncomputable def nCh : Str := Str.ofString "ch"
noncomputable def nAddr : Str := Str.ofString "addr"
noncomputable def nEnum : Str := Str.ofString "enumerate"
noncomputable def bsl : Str := Str.ofString "\\"
theorem bsl_is : bsl = mkS [92] := by decide +kernel
noncomputable abbrev escBody (q : Nat → Pos) : List PySem.Stmt := [
  .If (.Name nEsc (q 1)) [.Expr (.Yield (some (.Tuple [.Name nPos (q 2), .BinOp (.Constant (.str bsl) 0 (q 3)) .Add (.Name nCh (q 4)) (q 5)] 0 (q 6))) (q 7)) (q 8), .Assign [.Name nEsc (q 9)] (.Constant (.bool false) 0 (q 10)) (q 11)]
    [.If (.Compare (.Name nCh (q 12)) [.Eq] [.Constant (.str bsl) 0 (q 13)] (q 14)) [.Assign [.Name nEsc (q 15)] (.Constant (.bool true) 0 (q 16)) (q 17)] [.Expr (.Yield (some (.Tuple [.Name nPos (q 18), .Name nCh (q 19)] 0 (q 20))) (q 21)) (q 22)] (q 23)] (q 24)]
noncomputable abbrev escEnd (q : Nat → Pos) : List PySem.Stmt := [.If (.Name nEsc (q 30)) [.Expr (.Yield (some (.Tuple [.Name nPos (q 31), .Constant (.str bsl) 0 (q 32)] 0 (q 33))) (q 34)) (q 35)] [] (q 36)]
noncomputable abbrev escTgt (q : Nat → Pos) : PySem.Expr := .Tuple [.Name nPos (q 40), .Name nCh (q 41)] 0 (q 42)
noncomputable abbrev escAll (q : Nat → Pos) : List PySem.Stmt := .Assign [.Name nPos (q 43)] (.Constant (.int 0) 0 (q 44)) (q 45) :: .Assign [.Name nEsc (q 46)] (.Constant (.bool false) 0 (q 47)) (q 48) ::
  .For (escTgt q) (.Call (.Name nEnum (q 49)) [.Name nAddr (q 50)] [] (q 51)) (escBody q) [] (q 52) :: escEnd q
inductive Since (wr : List Addr) (s₀ : Shared) : Shared → Prop
  | mk (h : Heap) (tk : Tok) : (∀ b o, b ∉ wr → s₀.heap.get? b = some o → h.get? b = some o) → Since wr s₀ { s₀ with heap := h, toks := tk }
theorem Since.refl (wr : List Addr) (s : Shared) : Since wr s s := .mk s.heap s.toks fun _ _ _ e => e
theorem Since.step {wr : List Addr} {s₀ s : Shared} (x : Since wr s₀ s) {h : Heap} {tk : Nat} (k : ∀ b o, b ∉ wr → s.heap.get? b = some o → h.get? b = some o) : Since wr s₀ { s with heap := h, toks := tk } := by
  cases x with
  | mk h₁ t₁ k₁ => exact .mk h tk fun b o hb e => k b o hb (k₁ b o hb e)
theorem Since.keep {wr : List Addr} {s₀ s : Shared} (x : Since wr s₀ s) {b : Addr} {o : Obj} (hb : b ∉ wr) (e : s₀.heap.get? b = some o) : s.heap.get? b = some o := x.casesOn fun _ _ k => k b o hb e
structure GenEnv (env : Env) : Prop where
  fn : env.scope.kind = .function
  co : env.scope.isCoroutine = false
  pos : env.kindOf nPos = some .local
  esc : env.kindOf nEsc = some .local
  ch : env.kindOf nCh = some .local
  addr : env.kindOf nAddr = some .local
  enum : env.kindOf nEnum = some .globalImplicit
inductive EnOf (e it : Addr) (i : Int) (h : Heap) : Prop
  | mk (old : Value) : IsEnum h e it i old → EnOf e it i h
structure Pv (env : Env) (e it : Addr) (ty : String) (x : Str) (tx : Tok) (i : Nat) (m : Str → Option Value) (h : Heap) : Prop where
  ns : h.Ns env.locals m
  en : EnOf e it i h
  st : h.IsStrIter it ty x tx i
structure GA (env : Env) (e it : Addr) (wr : List Addr) : Prop where
  m1 : env.locals ∈ wr
  m2 : e ∈ wr
  m3 : it ∈ wr
  all : ∀ a ∈ wr, a = env.locals ∨ a = e ∨ a = it
  lt : it < e
  eL : e ≠ env.locals
  iL : it ≠ env.locals
section
variable {env : Env} {e it : Addr} {ty : String} {x : Str} {tx : Tok} {i : Nat} {m m' : Str → Option Value} {h h' : Heap} {wr : List Addr}
theorem GA.ne (g : GA env e it wr) : e ≠ it := Nat.ne_of_gt g.lt
theorem EnOf.at' (v : EnOf e it i h) (k : ∀ o, h.get? e = some o → h'.get? e = some o) : EnOf e it i h' := v.casesOn fun old g => .mk old (k _ g)
theorem EnOf.lt (v : EnOf e it i h) : e < h.objs.size := v.casesOn fun _ g => Heap.lt_size g
theorem isStrIter_at (v : h.IsStrIter it ty x tx i) (k : ∀ o, h.get? it = some o → h'.get? it = some o) : h'.IsStrIter it ty x tx i := let ⟨o, a, b⟩ := v; ⟨o, k o a, b⟩
theorem Pv.keep (g : GA env e it wr) (v : Pv env e it ty x tx i m h) (k : ∀ a ∈ wr, ∀ o, h.get? a = some o → h'.get? a = some o) : Pv env e it ty x tx i m h' :=
  ⟨v.ns.at' (k _ g.m1), v.en.at' (k _ g.m2), isStrIter_at v.st (k _ g.m3)⟩
theorem Pv.set (g : GA env e it wr) (v : Pv env e it ty x tx i m h) (n : h'.Ns env.locals m') (k : Heap.SameBut env.locals h h') : Pv env e it ty x tx i m' h' :=
  ⟨n, v.en.at' fun _ => ((k.2 _ g.eL).trans ·), isStrIter_at v.st fun _ => ((k.2 _ g.iL).trans ·)⟩
theorem GA.but (g : GA env e it wr) (k : Heap.SameBut env.locals h h') (b : Addr) (o : Obj) (hb : b ∉ wr) (e : h.get? b = some o) : h'.get? b = some o := (k.2 b fun q => hb (q ▸ g.m1)).trans e
theorem GA.lts (g : GA env e it wr) (n : h.Ns env.locals m) (l : e < h.objs.size) (a : Addr) (ha : a ∈ wr) : a < h.objs.size :=
  (g.all a ha).elim (fun q => q ▸ n.lt) fun q => q.elim (fun q => q ▸ l) fun q => q ▸ Nat.lt_trans g.lt l
end
inductive Yv (wr : List Addr) (t : List Nat) (n : Nat) (s₀ s₁ : Shared) : Value → Prop
  | mk (a : Addr) (p : Nat) (q : List Nat) (tp ts : Tok) (suf : List (Nat × List Nat)) : s₀.heap.get? a = none → a ∉ wr → s₁.heap.get? a = some { cls := .type "tuple", data := .seq #[.int (Int.ofNat p) tp, .str (mkS q) ts] } →
      (p, q) :: suf <:+ escF false 0 t → suf.length = n → Yv wr t n s₀ s₁ (.ref a)
structure EscY (wr : List Addr) (t : List Nat) (n : Nat) (s₀ : Shared) (v : Value) (s₁ : Shared) (kap : Resume → Shared → Prop) : Prop where
  since : Since wr s₀ s₁
  lt : ∀ b ∈ wr, b < s₁.heap.objs.size
  val : Yv wr t n s₀ s₁ v
  go : ∀ s'', (∀ b ∈ wr, ∀ o, s₁.heap.get? b = some o → s''.heap.get? b = some o) → kap (.send .none) s''
noncomputable def escY (wr : List Addr) (t : List Nat) : Protocol := fun n s₀ v s₁ kap => EscY wr t n s₀ v s₁ kap
noncomputable def escR (wr : List Addr) : GenEnd := fun n s₀ r s₁ => r = .ok (.ret .none) ∧ (n = 0 ∧ Since wr s₀ s₁)
section
variable {prog : Program} {w : World} {A : Around} {s₀ s : Shared} {env : Env} {wr : List Addr} {t : List Nat} {E : Value → Shared → Prop} {m : Str → Option Value}
theorem gName {A : Around} {id : Str} {pp : Pos} {v : Value} {Q : Value → Shared → Prop} (ge : GenEnv env) (hk : env.kindOf id = some .local) (hd : (id == ("__debug__" : Str)) = false) (hn : s.heap.Ns env.locals m) (hv : m id = some v) (h : Q v s) : wpAny (model prog w) A (eval (.Name id pp) env) Q E s :=
  wpAny_Name (wpAny_loadName_local ge.fn hk hn hv h) hd
theorem gd1 : (nPos == ("__debug__" : Str)) = false := by decide +kernel
theorem gd2 : (nEsc == ("__debug__" : Str)) = false := by decide +kernel
theorem gd3 : (nCh == ("__debug__" : Str)) = false := by decide +kernel
theorem gd4 : (nAddr == ("__debug__" : Str)) = false := by decide +kernel
theorem gd5 : (nEnum == ("__debug__" : Str)) = false := by decide +kernel
theorem gd6 : nPos ≠ nEsc ∧ nPos ≠ nCh ∧ nEsc ≠ nCh ∧ nAddr ≠ nPos ∧ nAddr ≠ nEsc ∧ nAddr ≠ nCh := by decide +kernel
theorem gBool {A : Around} {id : Str} {pp : Pos} {b : Bool} {Q : Bool → Shared → Prop} (ge : GenEnv env) (hk : env.kindOf id = some .local) (hd : (id == ("__debug__" : Str)) = false) (hn : s.heap.Ns env.locals m) (hv : m id = some (.bool b)) (h : Q b s) : wpAny (model prog w) A (isTrue (.Name id pp) env (eval (.Name id pp) env)) Q E s :=
  isTrue_plain (gName ge hk hd hn hv (wpAny_truthy_bool h))
theorem gTup {A : Around} {a b : PySem.Expr} {p1 : Pos} {Q : Value → Shared → Prop} (ha : ∀ rest, starEach (a :: rest) env = (false, eval a env) :: starEach rest env) (hb : starEach [b] env = [(false, eval b env)])
    (h : wpAny (model prog w) A (eval a env) (fun va s₁ => wpAny (model prog w) A (eval b env) (fun vb s₂ => Q (.ref s₂.heap.objs.size) { s₂ with heap := s₂.heap.push { cls := .type "tuple", data := .seq #[va, vb] } }) E s₁) E s) :
    wpAny (model prog w) A (eval (.Tuple [a, b] 0 p1) env) Q E s := by
  refine wpAny_Tuple ?_
  rw [ha, hb]
  refine Calls.spliced_cons (wpAny_mono h (fun va s₁ h₁ => Calls.spliced_cons (wpAny_mono h₁ (fun vb s₂ h₂ => Calls.spliced_nil ⟨by rw [sizeLine_is]; simp, h₂⟩) fun _ _ e => e)) fun _ _ e => e)
theorem gStore {A : Around} {id : Str} {v : Value} {Q : Unit → Shared → Prop} (ge : GenEnv env) (hk : env.kindOf id = some .local) (hn : s.heap.Ns env.locals m)
    (h : ∀ h', h'.Ns env.locals (fun x => if x = id then some v else m x) → Heap.SameBut env.locals s.heap h' → Q () { s with heap := h', toks := s.toks + 1 }) : wpAny (model prog w) A (storeName env id v) Q E s :=
  wpAny_storeName_local hk hn h (by rw [ge.fn]; rfl)
end
end Mine
end
section
open PySem PySem.W PyProof.Rows PySem.SeqAt
set_option maxRecDepth 100000
namespace Mine
section
variable {prog : Program} {w : World} {A : Around} {env : Env} {wr : List Addr} {t : List Nat} {E : Value → Shared → Prop}
theorem over_handled {c : Code} {cF : Code} {p : Pos} {K : Flow → Sem Fin} {H : Value → Sem Fin} {gd : Bool → Bool} {lv : List Value → List Value} (hA : A.handled = none) : (A.over c [backOf cF p env K H gd lv]).handled = none := by
  simp [Around.over, marksOver, backOf, Frame.marks, markOver, hA]
theorem over_handled0 {c : Code} (hA : A.handled = none) : (A.over c []).handled = none := by
  simp [Around.over, marksOver, hA]
theorem drawsStr {A : Around} {ty : String} {it : Addr} {x : Str} {tx : Tok} (hA : A.handled = none) (hty : ty = "str_ascii_iterator" ∨ ty = "str_iterator") : Draws prog w A it [it] x.cps.size (fun i v => ∃ c u, x.cps[i]? = some c ∧ v = .str ⟨#[c]⟩ u) (fun i h => h.IsStrIter it ty x tx i) := by
  rcases hty with rfl | rfl
  · exact Draws.strAscii hA it x tx
  · exact Draws.strWide hA it x tx
theorem seg_yield {s₀ s : Shared} {c : Code} {fs : List Frame} {K : Flow → Sem Fin} {H : Value → Sem Fin} {b : PySem.Expr} {p1 p2 p3 p4 : Pos} {m : Str → Option Value} {pp : Nat} {tp : Tok} {txt : List Nat} {suf : List (Nat × List Nat)}
    (ge : GenEnv env) (hfs : splitAtGen fs = none) (hfg : fs.any Frame.guarded = false) (hb : starEach [b] env = [(false, eval b env)]) (hn : s.heap.Ns env.locals m) (hp : m nPos = some (.int (Int.ofNat pp) tp)) (sn : Since wr s₀ s) (hwr : ∀ a ∈ wr, a < s.heap.objs.size)
    (hsuf : (pp, txt) :: suf <:+ escF false 0 t)
    (he : ∀ (Q : Value → Shared → Prop), (∀ tk ts, Q (.str (mkS txt) ts) { s with toks := tk }) → wpAny (model prog w) (A.over c fs) (eval b env) Q (fun x s' => Seg (model prog w) A (escR wr) (escY wr t) (suf.length + 1) s₀ c (H x) fs s') s)
    (next : ∀ s'', (∀ a ∈ wr, ∀ o, s.heap.get? a = some o → s''.heap.get? a = some o) → Seg (model prog w) A (escR wr) (escY wr t) suf.length s'' c (K .next) fs s'') :
    Seg (model prog w) A (escR wr) (escY wr t) (suf.length + 1) s₀ c ((exec (.Expr (.Yield (some (.Tuple [.Name nPos p1, b] 0 p2)) p3) p4) env).wrap K H id id) fs s := by
  refine seg_Expr_Yield hfs rfl hfg (gTup (fun _ => rfl) hb (gName ge ge.pos gd1 hn hp (he _ fun tk ts => ?_))) ge.co (by unfold interactive; rw [ge.fn]; rfl)
  refine fun kap hk => ⟨sn.step fun b o hb e => Heap.get?_push_of_some _ e, fun b hb => Nat.lt_of_lt_of_eq (Nat.lt_succ_of_lt (hwr b hb)) (Heap.size_push ..).symm, .mk s.heap.objs.size pp txt tp ts suf ?_ (fun hm => Nat.lt_irrefl _ (hwr _ hm)) (Heap.get?_push_size _ rfl) hsuf rfl,
    fun s'' h => hk .none s'' (next s'' fun a ha o e => h a ha o (Heap.get?_push_of_some _ e))⟩
  exact Option.eq_none_iff_forall_not_mem.mpr fun o e => Nat.lt_irrefl _ (Heap.lt_size (sn.keep (fun hm => Nat.lt_irrefl _ (hwr _ hm)) e))
end
end Mine
end
section
open PySem PySem.W PyProof.Rows PySem.SeqAt
set_option maxRecDepth 100000
namespace Mine
section
variable {prog : Program} {w : World} {A : Around} {env : Env} {wr : List Addr} {t : List Nat} {e it : Addr} {ty : String} {tx : Tok} {q : Nat → Pos} {c0 : Code} {p0 : Pos} {K : Flow → Sem PySem.Fin} {H : Value → Sem PySem.Fin}
variable {s₀ s : Shared} {m : Str → Option Value}
theorem seg_setB {n : Nat} {c : Code} {fs : List Frame} {K : Flow → Sem PySem.Fin} {H : Value → Sem PySem.Fin} {p1 p2 p3 : Pos} {b : Bool} {R : GenEnd} {Y : Protocol} (ge : GenEnv env) (hn : s.heap.Ns env.locals m)
    (h : ∀ h', h'.Ns env.locals (fun y => if y = nEsc then some (.bool b) else m y) → Heap.SameBut env.locals s.heap h' → Seg (model prog w) A R Y n s₀ c (K .next) fs { s with heap := h', toks := s.toks + 1 }) :
    Seg (model prog w) A R Y n s₀ c ((exec (.Assign [.Name nEsc p1] (.Constant (.bool b) 0 p2) p3) env).wrap K H id id) fs s :=
  seg_wrap (wpAny_Assign_Name (wpAny_Constant_bool (gStore ge ge.esc hn h)) rfl)
noncomputable abbrev eLoop (q : Nat → Pos) (e : Addr) (env : Env) : Code := .forLoop (escTgt q) (.ref e) (escBody q) [] env
inductive Mv (m : Str → Option Value) (b : Bool) (j : Nat) : Prop
  | mk (tk : Tok) : m nPos = some (.int (Int.ofNat j) tk) → m nEsc = some (.bool b) → Mv m b j
theorem Mv.set {b b' : Bool} {j : Nat} (v : Mv m b j) : Mv (fun y => if y = nEsc then some (.bool b') else m y) b' j := v.casesOn fun tk h _ => .mk tk ((if_neg gd6.1).trans h) (if_pos rfl)
theorem cps_get {i k : Nat} {c : Nat} (h : t[i]? = some k) (h' : (mkS t).cps[i]? = some c) : c = k := Option.some.inj ((h'.symm.trans List.getElem?_toArray).trans h)
theorem gen_turn {n i k : Nat} {fs : List Frame} (hA : (A.over (eLoop q e env) fs).handled = none) (ge : GenEnv env) (g : GA env e it wr) (hty : ty = "str_ascii_iterator" ∨ ty = "str_iterator") (hk : t[i]? = some k) (pv : Pv env e it ty (mkS t) tx i m s.heap)
    (next : ∀ h' tk tk1 u m', Pv env e it ty (mkS t) tx (i + 1) m' h' → m' nPos = some (.int (Int.ofNat i) tk1) → m' nEsc = m nEsc → m' nCh = some (.str (mkS [k]) u) → (∀ b o, b ∉ wr → s.heap.get? b = some o → h'.get? b = some o) →
      Seg (model prog w) A (escR wr) (escY wr t) n s₀ (eLoop q e env) ((execs (escBody q) env).wrap (loopK (escTgt q) (.ref e) (escBody q) [] env) (noteH env) id id) fs { s with heap := h', toks := tk }) :
    Seg (model prog w) A (escR wr) (escY wr t) n s₀ (eLoop q e env) ((model prog w).den (eLoop q e env)) fs s := by
  cases pv.en with
  | mk old he =>
  refine seg_forLoop (wpAny_pyNext_enum_itemD (drawsStr (A := (A.over (eLoop q e env) fs).in1) hA hty) he pv.st (List.getElem?_eq_some_iff.mp hk).1 g.ne (fun h => g.ne (List.mem_singleton.mp h)) fun v h1 tk1 hP ho hst1 hT hz1 k1 => ?_)
  obtain ⟨c, u, hc, rfl⟩ := hP
  cases cps_get hk hc
  refine wpAny_letOwnedTupleGo_enum ho fun h2 he2 hs2 => PySem.wpAny_assign_Tuple hA ⟨_, (hs2.2 _ (Nat.ne_of_gt (Heap.lt_size he))).trans hT, rfl, _, rfl⟩ rfl rfl fun h3 hk3 => ?_
  have k3 : ∀ b o, h2.get? b = some o → h3.get? b = some o := fun b o e => hk3 b o (fun q => noS ((get?_size_none _).symm.trans (q ▸ e))) e
  have k2 : ∀ b, b ≠ e → b ≠ it → ∀ o, s.heap.get? b = some o → h3.get? b = some o := fun b hb hc o e => k3 b o ((hs2.2 b hb).trans (k1 b o hb hc e))
  have v3 : Pv env e it ty (mkS t) tx (i + 1) m h3 := ⟨pv.ns.at' (k2 _ g.eL.symm g.iL.symm), .mk _ (k3 _ _ he2), isStrIter_at hst1 fun o x => k3 _ _ ((hs2.2 _ g.ne.symm).trans x)⟩
  refine assignInOrder_cons (PySem.wpAny_assign_Name (gStore ge ge.pos v3.ns fun h4 hn4 hs4 => assignInOrder_cons (PySem.wpAny_assign_Name (gStore ge ge.ch hn4 fun h5 hn5 hs5 => assignInOrder_nil ?_))))
  exact next _ _ _ u _ ((v3.set g hn4 hs4).set g hn5 hs5) ((if_neg gd6.2.1).trans (if_pos rfl)) ((if_neg gd6.2.2.1).trans (if_neg gd6.1.symm)) (if_pos rfl)
    fun b o hb x => g.but hs5 b o hb (g.but hs4 b o hb (k2 b (fun h => hb (h ▸ g.m2)) (fun h => hb (h ▸ g.m3)) o x))
theorem drop_cons {i k : Nat} {l : List Nat} (h : t.drop i = k :: l) : t[i]? = some k ∧ t.drop (i + 1) = l :=
  ⟨(List.getElem?_drop (xs := t) (i := i) (j := 0)).symm.trans (congrArg (·[0]?) h), (List.drop_drop (i := 1) (j := i) (l := t)).symm.trans (congrArg (List.drop 1) h)⟩
theorem gen_loop (hA : A.handled = none) (ge : GenEnv env) (g : GA env e it wr) (hty : ty = "str_ascii_iterator" ∨ ty = "str_iterator")
    (hend : ∀ b j s₀ s m, s.heap.Ns env.locals m → Mv m b j → Since wr s₀ s → (∀ a ∈ wr, a < s.heap.objs.size) → (b = true → j + 1 = t.length) → escF b t.length [] <:+ escF false 0 t →
      Seg (model prog w) A (escR wr) (escY wr t) (escF b t.length []).length s₀ c0 (K .next) [] s) (l : List Nat) :
    ∀ (i : Nat) (b : Bool) (j : Nat) (m : Str → Option Value) (s₀ s : Shared), t.drop i = l → i ≤ t.length → Pv env e it ty (mkS t) tx i m s.heap → Mv m b j → Since wr s₀ s → (b = true → j + 1 = i) → escF b i l <:+ escF false 0 t →
      Seg (model prog w) A (escR wr) (escY wr t) (escF b i l).length s₀ (eLoop q e env) ((model prog w).den (eLoop q e env)) [backOf c0 p0 env K H id id] s := by
  induction l with
  | nil =>
    intro i b j m s₀ s hl hi pv mv sn hb hpre
    cases Nat.le_antisymm hi (List.drop_eq_nil_iff.mp hl)
    cases pv.en with
    | mk old he =>
    have hh : (A.over (eLoop q e env) [backOf c0 p0 env K H id id]).handled = none := over_handled hA
    refine seg_forLoop (wpAny_pyNext_enum_endD (drawsStr (A := (A.over (eLoop q e env) [backOf c0 p0 env K H id id]).in1) hh hty) he pv.st fun h' hk => seg_back ?_)
    have hns' := pv.ns.extBut hk g.iL.symm
    exact hend b j s₀ _ m hns' mv (sn.step fun b o hb e => hk b o (fun h => hb (h ▸ g.m3)) e) (g.lts hns' (Heap.lt_size (hk _ _ g.ne he))) hb hpre
  | cons k l' ih =>
    intro i b j m s₀ s hl hi pv mv sn hb hpre
    have hk := drop_cons hl
    refine gen_turn (over_handled hA) ge g hty hk.1 pv fun h5 tk5 tk1 u m5 v5 m5p m5e m5c keep5 => ?_
    have again : ∀ (b' : Bool) (m' : Str → Option Value) (s₁ s' : Shared), Pv env e it ty (mkS t) tx (i + 1) m' s'.heap → Mv m' b' i → Since wr s₁ s' → escF b' (i + 1) l' <:+ escF false 0 t →
        Seg (model prog w) A (escR wr) (escY wr t) (escF b' (i + 1) l').length s₁ (eLoop q e env) (.pure (.again (eLoop q e env))) [backOf c0 p0 env K H id id] s' := fun b' m' s₁ s' v' mv' sn' hp' =>
      seg_again rfl (ih (i + 1) b' i m' s₁ s' hk.2 (List.getElem?_eq_some_iff.mp hk.1).1 v' mv' sn' (fun _ => rfl) hp')
    clear ih hl hi pv hb hk
    have lts := g.lts v5.ns v5.en.lt
    have sn5 := sn.step (tk := tk5) keep5
    cases mv with
    | mk tk0 _ m0e =>
    rw [m0e] at m5e
    clear m0e
    refine seg_execs_cons (seg_If (gBool ge ge.esc gd2 v5.ns m5e ?_))
    cases b with
    | true =>
      refine seg_execs_cons (seg_yield ge rfl rfl rfl v5.ns m5p sn5 lts hpre (fun Q hQ => ?_) fun s'' hk'' => ?_)
      · refine wpAny_BinOp (wpAny_Constant_str (gName ge ge.ch gd3 v5.ns m5c ?_))
        rw [bsl_is]
        refine PyProof.Rows.add_str (fun t' tk' => ?_) (by rw [mkS_length, mkS_length, sizeLine_is]; exact Nat.le_of_ble_eq_true rfl)
        rw [mkS_append]
        exact hQ _ _
      · have v6 := v5.keep g hk''
        refine seg_execs_cons (seg_setB ge v6.ns fun h' hn' hs' => seg_execs_nil (seg_execs_nil ?_))
        exact again false _ s'' _ (v6.set g hn' hs') (Mv.set (.mk tk1 m5p m5e)) ((Since.refl wr s'').step (g.but hs')) ((List.suffix_cons _ _).trans hpre)
    | false =>
      refine seg_execs_cons (seg_If (wpAny_isTrue_Compare1 (gName ge ge.ch gd3 v5.ns m5c (wpAny_Constant_str (PyProof.Rows.eq_str (wpAny_truthy_bool ?_)))) rfl))
      rw [bsl_is, mkS_beq]
      by_cases h92 : k = 92
      · subst h92
        refine seg_execs_cons (seg_setB ge v5.ns fun h' hn' hs' => seg_execs_nil (seg_execs_nil (seg_execs_nil ?_)))
        exact again true _ s₀ _ (v5.set g hn' hs') (Mv.set (.mk tk1 m5p m5e)) (sn5.step (g.but hs')) hpre
      · rw [escF_ne h92] at hpre ⊢
        rw [if_neg (fun h => h92 (List.cons.inj (eq_of_beq h)).1)]
        exact seg_execs_cons (seg_yield ge rfl rfl rfl v5.ns m5p (sn.step keep5) lts hpre (fun Q hQ => gName ge ge.ch gd3 v5.ns m5c (hQ _ _)) fun s'' hk'' =>
          seg_execs_nil (seg_execs_nil (seg_execs_nil (again false _ s'' _ (v5.keep g hk'') (.mk tk1 m5p m5e) (Since.refl wr s'') ((List.suffix_cons _ _).trans hpre)))))
end
end Mine
end
section
open PySem PySem.W PyProof.Rows PySem.SeqAt
set_option maxRecDepth 100000
namespace Mine
section
variable {prog : Program} {w : World} {A : Around} {env : Env} {t : List Nat} {q : Nat → Pos}
theorem ite_cases {α : Type} {c : Prop} [Decidable c] {a b : α} {p : α → Prop} (x : p a) (y : p b) : p (if c then a else b) := by
  by_cases h : c
  · rw [if_pos h]; exact x
  · rw [if_neg h]; exact y
theorem gen_fresh {s : Shared} {m mg mb : Str → Option Value} {tx : Tok} {wr : List Addr} (hA : A.handled = none) (ge : GenEnv env) (g : GA env (s.heap.objs.size + 1) s.heap.objs.size wr) (hn : s.heap.Ns env.locals m) (ha : m nAddr = some (.str (mkS t) tx))
    (hgl : env.globals = mainGlobals) (hbi : env.builtins = builtinsNs) (hg : s.heap.Ns mainGlobals mg) (hb : s.heap.Ns builtinsNs mb) (hLg : env.locals ≠ mainGlobals) (hLb : env.locals ≠ builtinsNs) (h1 : mg nEnum = none) (h2 : mb nEnum = some (.type "enumerate")) :
    Seg (model prog w) A (escR wr) (escY wr t) (escF false 0 t).length s (.func (escAll q) env) ((model prog w).den (.func (escAll q) env)) [] s := by
  refine seg_func (seg_execs_cons (seg_wrap (wpAny_Assign_Name (wpAny_Constant_int (gStore ge ge.pos hn fun h1' hn1 hs1 => ?_)) rfl)))
  refine seg_execs_cons (seg_setB ge hn1 fun h2' hn2 hs2 => ?_)
  have bt : ∀ b, b ≠ env.locals → ∀ o, s.heap.get? b = some o → h2'.get? b = some o := fun b hb o e => (hs2.2 b hb).trans ((hs1.2 b hb).trans e)
  refine seg_execs_cons (seg_For (Call_ (Calls.Name_function_global ge.fn ge.enum (Calls.loadGlobal_builtin (by rw [hgl]; exact hg.at' (bt _ hLg.symm)) h1 (by rw [hbi]; exact hb.at' (bt _ hLb.symm)) h2
    (PySem.callWith_type rfl (Calls.evalArgs_plain (Calls.spliced_cons (gName ge ge.addr gd4 hn2 (v := .str (mkS t) tx) ((if_neg gd6.2.2.2.2.1).trans ((if_neg gd6.2.2.2.1).trans ha)) (Calls.spliced_nil ?_)))))) gd5)) (fun _ => rfl))
  refine call_enumerate_str fun h3 he3 hit3 hz3 hk3 => wpAny_pyIter_enum he3 fun p => ?_
  have z2' : (⟨h2', s.gens, s.drawn, s.toks + 1 + 1, s.os⟩ : Shared).heap.objs.size = s.heap.objs.size := hs2.1.trans hs1.1
  rw [z2'] at he3 hit3 ⊢
  refine gen_loop hA ge g (tx := tx) (ty := strIterType (mkS t)) ?_ ?_ t 0 false 0 _ s _ rfl (Nat.zero_le _) ⟨hn2.keeps hk3, .mk _ he3, hit3⟩ (.mk s.toks ((if_neg gd6.1).trans (if_pos rfl)) (if_pos rfl))
    ((Since.refl wr s).step fun b o hb e => hk3 _ _ (bt b (fun h => hb (h ▸ g.m1)) o e)) (fun h => nomatch h) (List.suffix_refl _)
  · unfold strIterType
    exact ite_cases (p := fun z => z = "str_ascii_iterator" ∨ z = "str_iterator") (.inl rfl) (.inr rfl)
  · intro b j s₀ s' m' hns mv sn' hwr hb hpre
    cases mv with
    | mk tk hm1 hm2 =>
    refine seg_execs_cons (seg_If (gBool ge ge.esc gd2 hns hm2 ?_))
    cases b with
    | true =>
      cases Nat.eq_sub_of_add_eq (hb rfl)
      exact seg_execs_cons (seg_yield ge rfl rfl rfl hns hm1 sn' hwr (suf := []) hpre (fun Q hQ => by rw [bsl_is]; exact wpAny_Constant_str (hQ _ _)) fun s'' hk'' => seg_execs_nil (seg_execs_nil (seg_end (.ok (.ret .none)) ⟨rfl, rfl, Since.refl _ _⟩)))
    | false => exact seg_execs_nil (env := env) (seg_execs_nil (seg_end (.ok (.ret .none)) ⟨rfl, rfl, sn'⟩))
end
end Mine
end
section
open PySem PySem.W PyProof.Rows PySem.SeqAt
set_option maxRecDepth 100000
namespace Mine
noncomputable def DeadH (h h' : Heap) : Prop := h.objs.size ≤ h'.objs.size ∧ ∀ b, b < h.objs.size → h.get? b = none → h'.get? b = none
theorem DeadH.refl (h : Heap) : DeadH h h := ⟨Nat.le_refl _, fun _ _ e => e⟩
theorem DeadH.trans {a b c : Heap} (x : DeadH a b) (y : DeadH b c) : DeadH a c := ⟨Nat.le_trans x.1 y.1, fun d hd e => y.2 d (Nat.lt_of_lt_of_le hd x.1) (x.2 d hd e)⟩
theorem DeadH.push (h : Heap) (o : Obj) : DeadH h (h.push o) := by
  refine ⟨by rw [Heap.size_push]; exact Nat.le_succ _, fun b hb e => ?_⟩
  simpa [Heap.get?, Heap.push, Array.getElem?_push, Nat.ne_of_lt hb] using e
theorem DeadH.update {h : Heap} {a : Addr} {f : Obj → Obj} (ha : h.get? a ≠ none) : DeadH h (h.update a f) := by
  have hs := Heap.SameBut.update h a f
  refine ⟨Nat.le_of_eq hs.1.symm, fun b hb e => ?_⟩
  by_cases hba : b = a
  · subst hba; exact absurd e ha
  · exact (hs.2 b hba).trans e
theorem runs_dead {M : Model} {Γ : Ctx} {p : Pos} {t : Sem PySem.Fin} {fs : List Frame} {s : Shared} {e : End} {s' : Shared} (h : Runs M Γ p t fs s e s') : DeadH s.heap s'.heap := by
  induction h
  all_goals (try simp only [Shared.setGen] at *)
  all_goals first
    | exact DeadH.refl _
    | assumption
    | (rename_i ih; exact (DeadH.push _ _).trans ih)
    | (rename_i i1 i2; exact DeadH.trans i1 i2)
    | (rename_i ha _ ih; exact (DeadH.update (by first | exact ha | (intro q; simp [q] at ha))).trans ih)
theorem wakes_dead {M : Model} {Γ : Ctx} {p : Pos} {g : Nat} {r : Resume} {s : Shared} {res : GenResult} {s' : Shared} (h : Wakes M Γ p g r s res s') : DeadH s.heap s'.heap := by
  unfold Wakes at h
  cases hg : s.gens[g]? with
  | none => rw [hg] at h; exact h.elim
  | some gs =>
    rw [hg] at h
    cases gs with
    | fresh c =>
      cases r with
      | send v =>
        cases v <;> first
          | (obtain ⟨rfl, rfl⟩ := h; exact DeadH.refl _)
          | (obtain ⟨e₁, s₁, hr, _, rfl, rfl⟩ := h; have := runs_dead hr; simpa [Shared.setGen] using this)
      | throw x => obtain ⟨rfl, rfl⟩ := h; exact DeadH.refl _
    | suspended k l c p fs cl => obtain ⟨e₁, s₁, hr, _, rfl, rfl⟩ := h; have := runs_dead hr; simpa [Shared.setGen] using this
    | running => obtain ⟨rfl, rfl⟩ := h; exact DeadH.refl _
    | finished => obtain ⟨rfl, rfl⟩ := h; exact DeadH.refl _
theorem wp_dead {α : Type} {M : Model} {Γ : Ctx} (t : Sem α) : ∀ {Q : α → Pos → Shared → Prop} {E : Value → Pos → Shared → Prop} {p : Pos} {s : Shared},
    Sem.wp M Γ t Q E p s → Sem.wp M Γ t (fun a p' s' => DeadH s.heap s'.heap ∧ Q a p' s') (fun e p' s' => DeadH s.heap s'.heap ∧ E e p' s') p s := by
  induction t with
  | pure a => intro Q E p s h; exact ⟨DeadH.refl _, h⟩
  | raise e => intro Q E p s h; exact ⟨DeadH.refl _, h⟩
  | unsupported | finish | yield | fork | await | register => intro Q E p s h; exact h.elim
  | rule _ k ih => intro Q E p s h; exact ih _ h
  | «at» p' k ih => intro Q E p s h; exact ih _ (p := p') h
  | loadIfAlive _ k ih | point _ k ih | ask k ih | handled _ k ih | stack k ih | thread k ih =>
    intro Q E p s h; exact ih _ h
  | newGen c k ih => intro Q E p s h; exact ih _ (s := { s with gens := s.gens.push (.fresh c) }) h
  | os q l k ih => intro Q E p s h; exact ih _ (s := { s with os := (Os.step s.os q).1 }) h
  | fresh k ih => intro Q E p s h; exact ih _ (s := { s with toks := s.toks + 1 }) h
  | load a _ k ih => intro Q E p s h; obtain ⟨o, ho, h⟩ := h; exact ⟨o, ho, ih _ h⟩
  | genState g k ih => intro Q E p s h; obtain ⟨o, ho, h⟩ := h; exact ⟨o, ho, ih _ h⟩
  | choose sr n k ih => intro Q E p s h; obtain ⟨ho, h⟩ := h; exact ⟨ho, ih _ (s := { s with drawn := s.drawn.bump sr }) h⟩
  | alloc o k ih =>
    intro Q E p s h
    have h1 := DeadH.push s.heap o
    refine Sem.wp_mono M Γ _ ?_ ?_ _ _ (ih _ (s := { s with heap := s.heap.push o }) h)
    · intro x p' s' ⟨a, b⟩; exact ⟨h1.trans a, b⟩
    · intro x p' s' ⟨a, b⟩; exact ⟨h1.trans a, b⟩
  | update a pt f k ih =>
    intro Q E p s h
    obtain ⟨ho, h⟩ := h
    have h1 : DeadH s.heap (s.heap.update a f) := DeadH.update (by first | exact ho | (intro q; simp [q] at ho))
    refine ⟨ho, Sem.wp_mono M Γ _ ?_ ?_ _ _ (ih _ (s := { s with heap := s.heap.update a f }) h)⟩
    · intro x p' s' ⟨a, b⟩; exact ⟨h1.trans a, b⟩
    · intro x p' s' ⟨a, b⟩; exact ⟨h1.trans a, b⟩
  | call c hh g l k ih =>
    intro Q E p s h
    obtain ⟨r, s', hr, h⟩ := h
    refine ⟨r, s', hr, ?_⟩
    have h1 := runs_dead hr
    refine Sem.wp_mono M Γ _ ?_ ?_ _ _ (ih _ h)
    · intro x p' s' ⟨a, b⟩; exact ⟨h1.trans a, b⟩
    · intro x p' s' ⟨a, b⟩; exact ⟨h1.trans a, b⟩
  | resume g r l k ih =>
    intro Q E p s h
    obtain ⟨r, s', hr, h⟩ := h
    refine ⟨r, s', hr, ?_⟩
    have h1 := wakes_dead hr
    refine Sem.wp_mono M Γ _ ?_ ?_ _ _ (ih _ h)
    · intro x p' s' ⟨a, b⟩; exact ⟨h1.trans a, b⟩
    · intro x p' s' ⟨a, b⟩; exact ⟨h1.trans a, b⟩
theorem wpAny_dead {α : Type} {M : Model} {A : Around} {t : Sem α} {Q : α → Shared → Prop} {E : Value → Shared → Prop} {s : Shared}
    (h : wpAny M A t (fun a s' => DeadH s.heap s'.heap → Q a s') (fun e s' => DeadH s.heap s'.heap → E e s') s) : wpAny M A t Q E s := fun Γ p hΓ =>
  Sem.wp_mono M Γ t (fun _ _ _ ⟨a, b⟩ => b a) (fun _ _ _ ⟨a, b⟩ => b a) _ _ (wp_dead t (h Γ p hΓ))
end Mine
end
section
open PySem PySem.W PyProof.Rows PySem.SeqAt
set_option maxRecDepth 100000
namespace Mine
section
variable {prog : Program} {w : World} {A : Around} {E : Value → Shared → Prop} {s : Shared} {wr : List Addr} {t : List Nat}
theorem next_gen {a : Addr} {g n : Nat} {gs : GenState} {Q : Option Value → Shared → Prop} (hh : A.handled = none) (hl : s.heap.NoLimit) (hroom : A.depth < recursionLimit) (hg : s.heap.IsGen a g) (hgs : s.gens[g]? = some gs)
    (hgo : gs.Goes (model prog w) A.in1 (escR wr) (escY wr t) n (.send .none) (s.setGen g .running))
    (hY : ∀ v s₁ gs', gs'.bare = true → escY wr t (n - 1) (s.setGen g .running) v s₁ (fun r' s'' => match n with
        | 0 => False
        | m + 1 => gs'.Goes (model prog w) A.in1 (escR wr) (escY wr t) m r' s'') → Q (some v) (s₁.setGen g gs'))
    (hP : ∀ s₁, n = 0 → Since wr (s.setGen g .running) s₁ → ∀ h', (∀ b o, s₁.heap.get? b = some o → h'.get? b = some o) → Q none { s₁.setGen g .finished with heap := h' }) :
    wpAny (model prog w) A (pyNext (.ref a)) Q E s := by
  unfold pyNext
  refine wpAny_bind (wpAny_attempt (wpAny_callSpecial?_slot (name := Str.ofString "__next__") hg.typeIs slot_gen_next (wpAny_call_entry slot_gen_next hg.typeIs entry_gen_next ?_ (args_gen_next _))))
  show wpAny _ _ (Builtin.Generator.genWake (.ref a) (.send .none)) _ _ s
  unfold Builtin.Generator.genWake
  refine wpAny_bind (wpAny_holding (wpAny_genNumber hg (wpAny_bind (wpAny_genState hgs ?_))))
  cases gs with
  | running => exact hgo.elim
  | finished => exact hgo.elim
  | _ =>
    refine wpAny_bind (wpAny_roomToWake hl hroom ?_)
    show wpAny _ _ (.resume g (.send .none) [] _) _ _ s
    refine wpAny_resumeQ hgs hgo (fun x s₁ hx => ?_) (fun v s₁ gs' hb hv => wpAny_pure ⟨v, rfl, wpAny_pure (hY v s₁ gs' hb hv)⟩)
    obtain ⟨rfl, hn, hsn⟩ := hx
    show wpAny _ _ (newExc (.type "StopIteration") [] >>= _) _ _ _
    simp only [newExc, newTuple]
    refine wpAny_bind (wpAny_bind (wpAny_newObj_type ?_ (by size_fits)))
    refine wpAny_bind (m := firstArgMember _ _) (wpAny_of_eq (a := Value.none) (by first | rfl | (simp only [firstArgMember]; rfl)) (wpAny_newObj_type ?_ (by size_fits)))
    simp only [raiseNew]
    refine wpAny_bind (wpAny_bind (wpAny_handled ?_))
    rw [show A.in1.handled = none from hh]
    refine wpAny_throw (wpAny_bind (wpAny_isInstance (T := "StopIteration") (b := true) ⟨_, Heap.get?_push_size _ rfl, rfl⟩ isSubtype_stop ?_))
    exact wpAny_pure (hP s₁ hn hsn _ fun b o hb => Heap.get?_push_of_some _ (Heap.get?_push_of_some _ hb))
end
noncomputable def Cx.gsw (C : Cx) (gs : Nat → Option GenState) : Cx := { C with gs := gs }
section
variable {C : Cx} {F : FT} {rank : Nat → Nat} {n fu : Nat} {k : Nat} {tw : Bool} {fm : Fm} {fz : Fz} {I : Im} {as : List Addr} {vars : Vars} {c : Cells} {s s' : Shared} {A : Around} {E : Value → Shared → Prop}
theorem GensOk.lt {a : Array GenState} (h : GensOk C a) {i : Nat} {z : GenState} (e : C.gs i = some z) : i < a.size := (Array.getElem?_eq_some_iff.mp (h.2 i z e)).1
theorem GensOk.move {a b : Array GenState} {g : Nat} (h : GensOk C a) (m : GenOnlyQ g a b) (hg : C.gs g = none) : GensOk C b :=
  ⟨m.bare h.1, fun i y hi => m.elim (fun q => q ▸ h.2 i y hi) fun q => (q.1.2 i fun q => noS (hg.symm.trans (q ▸ hi))).trans (h.2 i y hi)⟩
theorem GensOk.push {a : Array GenState} {y : GenState} (h : GensOk C a) (hy : y.bare = true) : GensOk C (a.push y) ∧ C.gs a.size = none :=
  ⟨⟨h.1.push hy, fun i z hi => (Array.getElem?_push.trans (if_neg (Nat.ne_of_lt (h.lt hi)))).trans (h.2 i z hi)⟩, Option.eq_none_iff_forall_not_mem.mpr fun z e => Nat.lt_irrefl _ (h.lt e)⟩
noncomputable def gs1 (g : Nat) (y : GenState) (o : Nat → Option GenState) (i : Nat) : Option GenState := if i = g then some y else o i
theorem GensOk.hold {a : Array GenState} {g : Nat} {y : GenState} (h : GensOk C a) (hy : a[g]? = some y) : GensOk (C.gsw (gs1 g y C.gs)) a :=
  ⟨h.1, fun i z (hi : gs1 g y C.gs i = some z) => by
    by_cases e : i = g
    · cases (if_pos e).symm.trans hi; exact e ▸ hy
    · exact h.2 i z ((if_neg e).symm.trans hi)⟩
theorem St.gsw {gs : Nat → Option GenState} (t : St C fm fz I as vars c s) (h : GensOk (C.gsw gs) s.gens) : St (C.gsw gs) fm fz I as vars c s where
  fls := t.fls
  rd := t.rd
  fr := t.fr
  dj := t.dj
  fas := t.fas
  base := t.base
  cel := t.cel
  gens := h
  os := t.os
  pos := t.pos
  tfz := t.tfz
  tab := t.tab
  ok := t.ok
  mu := t.mu
  vr := t.vr
noncomputable def Own (fm : Fm) (fz : Fz) (I : Im) (as : List Addr) (W : List Addr) : Prop := ∀ b ∈ W, Apart fm fz I as b
theorem St.steps {W : List Addr} (t : St C fm fz I as vars c s) (own : Own fm fz I as W) (k : ∀ b o, b ∉ W → s.heap.get? b = some o → s'.heap.get? b = some o) (hg : GensOk C s'.gens) (ho : s'.os = s.os) (hp : 0 < s'.toks) : St C fm fz I as vars c s' where
  fls := t.fls
  rd b o e := k b o (fun h => by rw [(own b h).rd] at e; cases e) (t.rd b o e)
  fr b o hP e := (t.fr b o hP e).keep fun o' => k b o' (fun h => by rw [(own b h).fz] at e; cases e)
  dj := t.dj
  fas := t.fas
  base := t.base
  cel := t.cel.mono (Im.le.refl I) (fun b hb o e => k b o (fun h => (own b h).as hb) e) t.cel.noRd
  gens := hg
  os := ho.trans t.os
  pos := hp
  tfz := t.tfz
  tab := let ⟨ps, e, x⟩ := t.tab; ⟨ps, k _ _ (fun h => t.tfz (own _ h).fz) e, x⟩
  ok := t.ok
  mu b hb := let ⟨q1, q2, q3, o, q4, q5⟩ := t.mu b hb; ⟨q1, q2, q3, o, k b o (fun h => (own b h).mu hb) q4, q5⟩
  vr := by
    obtain ⟨m, ⟨o, es, ep, e1, e2⟩, v⟩ := t.vr
    refine ⟨m, ⟨o, es, ep, k _ _ (fun h => (own _ h).mu t.ok.loc) e1, e2⟩, fun x w nm kk hx hn hk hv => ?_⟩
    obtain ⟨y, r, z⟩ := v x w nm kk hx hn hk hv
    exact ⟨y, r, z.keep fun c hc o _ e => ⟨o, k c o (fun h => hc.elim (own _ h).mu fun ⟨_, hc⟩ => noS ((own _ h).fz.symm.trans hc)) e, rfl⟩⟩
theorem St.lock {W : List Addr} (t : St C fm fz I as vars c s) (own : Own fm fz I as W) : St C fm (fz.join W s.heap) I as vars c s where
  fls := t.fls.more fun a o => jn_of
  rd := t.rd
  fr a o hP e := jn_elim e (t.fr a o hP) fun _ _ => FzAt.of
  dj a o e := jn_elim e (t.dj a o) fun _ hm _ => (own a hm).rd
  fas a ha := jn_out (t.fas a ha) fun hm => (own a hm).as ha
  base := t.base
  cel := t.cel
  gens := t.gens
  os := t.os
  pos := t.pos
  tfz := jn_P t.tfz
  tab := t.tab
  ok := t.ok
  mu b hb := let ⟨q1, q2, q3, q4⟩ := t.mu b hb; ⟨q1, jn_out q2 fun hm => (own b hm).mu hb, q3, q4⟩
  vr := let ⟨m, hm, v⟩ := t.vr; ⟨m, hm, fun x w nm kk hx hn hk hv => let ⟨y, r, z⟩ := v x w nm kk hx hn hk hv; ⟨y, r, z.imp id fun ⟨q1, c, q2, q3, q4⟩ => ⟨q1, c, q2, q3, q4.imp id fun ⟨o, q⟩ => ⟨o, jn_of q⟩⟩⟩⟩
theorem St.unlock {W : List Addr} {h₀ : Heap} (t : St C fm (fz.join W h₀) I as vars c s) (hP : fz C.P ≠ none) (nW : ∀ b ∈ W, ¬ IsFr C b) (nf : ∀ id, fm.nl.lookup id ≠ some .free) : St C fm fz I as vars c s where
  fls := fun env he => let ⟨h1, a, h2, h3⟩ := t.fls env he; ⟨h1, a, h2, h3.imp (fun ⟨o, e, r⟩ => jn_elim e (fun e => ⟨o, e, r⟩) fun _ hm _ => absurd ⟨env, he, h2⟩ (nW a hm)) id⟩
  toGd := t.toGd.weak (fun a o => jn_of) hP
  ok := t.ok
  mu b hb := let ⟨q1, q2, q3, q4⟩ := t.mu b hb; ⟨q1, jn_fz q2, q3, q4⟩
  vr := by
    obtain ⟨m, hm, v⟩ := t.vr
    refine ⟨m, hm, fun x w nm kk hx hn hk hv => ?_⟩
    obtain ⟨y, r, z⟩ := v x w nm kk hx hn hk hv
    refine ⟨y, r, z.imp id fun ⟨q1, c, q2, q3, q4⟩ => ⟨q1, c, q2, q3, .inl ?_⟩⟩
    cases kk with
    | «local» => exact nomatch (Option.some.inj ((t.ok.names nm _ hk fun h => nomatch h).symm.trans q1))
    | cell => exact let ⟨_, e1, e2, _⟩ := t.ok.cel nm hk; Option.some.inj (e1.symm.trans q2) ▸ e2
    | free => exact absurd hk (nf nm)
    | globalExplicit => exact noT hv
    | globalImplicit => exact noT hv
end
end Mine
end
section
open PySem PySem.W PyProof.Rows PySem.SeqAt
set_option maxRecDepth 100000
namespace Mine
inductive GenIs (C : Cx) : Prop
  | mk (a : Addr) (o : Obj) (fd : FuncData) (q : Nat → Pos) : C.mg (Str.ofString "_iter_escaped_chars") = some (.ref a) → C.h₀.get? a = some o → o.data = .func fd → fd.body = .stmts (escAll q) → fd.scope.kind = .function → fd.scope.isCoroutine = false → fd.scope.isGenerator = true →
    fd.scope.names.lookup nPos = some .local → fd.scope.names.lookup nEsc = some .local → fd.scope.names.lookup nCh = some .local → fd.scope.names.lookup nAddr = some .local → fd.scope.names.lookup nEnum = some .globalImplicit →
    fd.closure = [] → fd.globals = mainGlobals → fd.builtins = builtinsNs → C.h₀.CodeRec fd.code fd.qualname → (∀ v : Value, bindArgs fd ⟨[v], []⟩ = pure [(nAddr, v)]) → GenIs C
section
variable {C : Cx} {F : FT} {rank : Nat → Nat} {n fu : Nat} {k : Nat} {tw : Bool} {fm : Fm} {fz : Fz} {I : Im} {as : List Addr} {vars : Vars} {c : Cells} {s s' : Shared} {A : Around} {E : Value → Shared → Prop}
theorem make_gen (g0 : CxOk2 C) (gi : GenIs C) (hroom : A.depth < recursionLimit) (g : Gd C fz I as c s) {a : Addr} (ha : C.mg (Str.ofString "_iter_escaped_chars") = some (.ref a)) {x : Str} {tx : Tok} {Q : Value → Shared → Prop}
    (q : ∀ env qq h' tk ga, GenEnv env → env.globals = mainGlobals → env.builtins = builtinsNs → env.locals = s.heap.objs.size → ga ≠ env.locals → s.heap.get? ga = none → h'.IsGen ga s.gens.size → (∃ m, h'.Ns env.locals m ∧ m nAddr = some (.str x tx)) → (∀ b o, s.heap.get? b = some o → h'.get? b = some o) →
      0 < tk → Q (.ref ga) { s with heap := h', gens := s.gens.push (.fresh (.func (escAll qq) env)), toks := tk }) :
    wpAny (model C.prog C.w) A (call (.ref a) [.str x tx]) Q E s := by
  cases gi with
  | mk a' o fd qq h1 h2 h3 h4 c1 c2 c3 n1 n2 n3 n4 n5 h6 h7 h8 h9 h10 =>
  cases h1.symm.trans ha
  have kp : ∀ b o, C.h₀.get? b = some o → s.heap.get? b = some o := fun b o e => g.rd b o (g.base b o e)
  refine wpAny_call (codeAny_call_generator hroom (kp _ _ h2) h3 c2 c3 h4 (h9.keeps kp) ?_)
  rw [h10, h6]
  refine wpAny_pure (wpAny_pos g.pos (wpAny_newFunctionEnv_cells c1 (fun y hy => ?_) fun env he s' x hp => ?_))
  · rw [List.mem_singleton.mp hy]; exact .inl n4
  · subst he
    refine ⟨(g0.nolimit.keeps kp).keeps x.toInCall.keep, ?_⟩
    obtain ⟨hs', tk, rfl⟩ := x.toInCall.same
    have hL : (callEnvC fd s.heap.objs.size a).locals < hs'.objs.size := x.toInCall.ns.lt
    refine q (callEnvC fd s.heap.objs.size a) qq _ _ hs'.objs.size ⟨c1, c2, n1, n2, n3, n4, n5⟩ h7 h8 rfl (Nat.ne_of_gt hL) ?_ ⟨_, _, _, Heap.get?_push_size _ rfl, rfl, rfl, rfl⟩ ⟨_, x.toInCall.ns.push _, ?_⟩ (fun b o e => Heap.get?_push_of_some _ (x.toInCall.keep b o e)) (Nat.succ_pos _)
    · exact Heap.get?_none_of_le (Nat.le_trans x.toInCall.fresh (Nat.le_of_lt hL))
    · exact bindL_mem (by simp) (List.mem_singleton.mpr rfl) n4
theorem owned_gen {it : Addr} {gn : Nat} {target : PySem.Expr} {v : Value} {Q : Unit → Shared → Prop} (h : s.heap.IsGen it gn) (q : Q () s) : wpAny (model C.prog C.w) A (letOwnedTupleGo target (.ref it) v) Q E s := by
  obtain ⟨o, nm, qn, h1, h2, h3, h4⟩ := h
  have key : ∀ a, wpAny (model C.prog C.w) A (load it >>= fun o => match o.cls, o.data with
    | .type n, .fields vs =>
      if (["enumerate", "zip", "dict_itemiterator", "dict_reverseitemiterator", "odict_iterator", "itertools.zip_longest", "itertools.pairwise"].contains n && vs[0]? == some (rawInt a)) = true then (do rule "for.unpacks-the-owned-tuple"; updateField it 0 .none)
      else pure ()
    | _, _ => pure ()) Q E s := by
    intro a
    refine wpAny_bind (wpAny_load h1 ?_)
    rw [h2, h3]
    exact wpAny_pure q
  unfold letOwnedTupleGo
  cases target <;> first
    | exact wpAny_pure q
    | (cases v <;> first | exact wpAny_pure q | exact key _)
theorem escF_len (l : List Nat) : ∀ (b : Bool) (p : Nat) (x : Nat × List Nat), x ∈ escF b p l → x.2.length ≤ 2 := by
  induction l with
  | nil => intro b p x h; cases b with
    | false => exact nomatch h
    | true => exact List.mem_singleton.mp h ▸ Nat.le_succ 1
  | cons k r ih => intro b p x h; cases b with
    | true => exact (List.mem_cons.mp h).elim (fun e => e ▸ Nat.le_refl 2) (ih _ _ x)
    | false =>
      by_cases e : k = 92
      · subst e; exact ih true _ x h
      · rw [escF_ne e] at h; exact (List.mem_cons.mp h).elim (fun e => e ▸ Nat.le_succ 1) (ih _ _ x)
end
end Mine
end
section
open PySem PySem.W PyProof.Rows PySem.SeqAt
set_option maxRecDepth 100000
namespace Mine
section
variable {C : Cx} {F : FT} {rank : Nat → Nat} {n fu : Nat} {k : Nat} {tw : Bool} {fm : Fm} {fz : Fz} {I : Im} {as : List Addr} {vars : Vars} {c : Cells} {s s' : Shared} {A : Around} {E : Value → Shared → Prop}
noncomputable def tupD (x : Nat × List Nat) : D := .tup [.int x.1, .str x.2]
theorem escD_is (t : List Nat) : escD t = (escF false 0 t).map tupD := congrArg (List.map tupD) (esc_escF 0 t)
section
variable {W wr : List Addr} {ga : Addr} {gn : Nat} {gs gs' : GenState} {s1 : Shared}
theorem isGen_at {h h' : Heap} (v : h.IsGen ga gn) (k : ∀ o, h.get? ga = some o → h'.get? ga = some o) : h'.IsGen ga gn := let ⟨o, nm, qn, e, r⟩ := v; ⟨o, nm, qn, k o e, r⟩
theorem isGen_lt {h : Heap} (v : h.IsGen ga gn) : ga < h.objs.size := let ⟨_, _, _, e, _⟩ := v; Heap.lt_size e
theorem gen_since (t : St C fm fz I as vars c s) (own : Own fm fz I as (ga :: wr)) (hgs : s.gens[gn]? = some gs) (hgn : C.gs gn = none) (hb : gs'.bare = true) (sn : Since wr (s.setGen gn .running) s1) (htk : 0 < s1.toks) :
    St C fm fz I as vars c (s1.setGen gn gs') ∧ (s1.setGen gn gs').gens[gn]? = some gs' := by
  cases sn with
  | mk h tk k =>
  have hself : ((⟨h, (s.setGen gn .running).gens, (s.setGen gn .running).drawn, tk, (s.setGen gn .running).os⟩ : Shared).setGen gn gs').gens[gn]? = some gs' := setGen_self (gs := .running) (setGen_self hgs)
  exact ⟨t.steps own (fun b o hb e => k b o (fun h => hb (List.mem_cons_of_mem _ h)) e) (t.gens.move (GenOnlyQ.of ((GenOnly.setGen s gn .running).trans (GenOnly.setGen _ gn gs')) hself hb) hgn) rfl htk, hself⟩
theorem Own.add {a : Addr} {o : Obj} (own : Own fm fz I as W) (h : a ∉ W) : Own fm fz (I.add a o) as W := fun b hb => ⟨(if_neg fun q : b = a => h (q ▸ hb)).trans (own b hb).rd, (own b hb).fz, (own b hb).as, (own b hb).mu⟩
theorem gen_after {I' : Im} {as' : List Addr} {vars' : Vars} {c' : Cells} (t : St C fm fz I as vars c s) (own : Own fm fz I as W) (lt : ∀ b ∈ W, b < s.heap.objs.size) (t' : St (C.gsw (gs1 gn gs C.gs)) fm (fz.join W s.heap) I' as' vars' c' s') (dd : DeadH s.heap s'.heap)
    (nf : ∀ id, fm.nl.lookup id ≠ some .free) (hgn : C.gs gn = none) : St C fm fz I' as' vars' c' s' ∧ Own fm fz I' as' W ∧ (∀ b ∈ W, ∀ o, s.heap.get? b = some o → s'.heap.get? b = some o) ∧ s'.gens[gn]? = some gs := by
  have nF : ∀ b ∈ W, ¬ IsFr C b := fun b hb => t.noFr (own b hb).fz (own b hb).mu
  refine ⟨(t'.unlock t.tfz nF nf).gsw (gs := C.gs) ⟨t'.gens.1, fun i z hi => t'.gens.2 i z ((if_neg fun q => noS (hgn.symm.trans (q ▸ hi))).trans hi)⟩, fun b hb => ?_,
    fun b hb o e => (t'.fr b o (t.neP (own b hb).fz) (jn_in (own b hb).fz hb e)).exact (nF b hb), t'.gens.2 gn gs (if_pos rfl)⟩
  cases e : s.heap.get? b with
  | some o =>
    have e1 : fz.join W s.heap b = some o := jn_in (own b hb).fz hb e
    exact ⟨t'.dj b o e1, (own b hb).fz, fun hm => noS ((t'.fas b hm).symm.trans e1), (own b hb).mu⟩
  | none =>
    have e6 := dd.2 b (lt b hb) e
    exact ⟨t'.fresh_rd e6, (own b hb).fz, t'.fresh_as e6, (own b hb).mu⟩
end
theorem suf_eq {α : Type} {l m L : List α} (h1 : l <:+ L) (h2 : m <:+ L) (h : l.length = m.length) : l = m :=
  (List.suffix_iff_eq_drop.mp h1).trans ((congrArg (fun k => L.drop (L.length - k)) h).trans (List.suffix_iff_eq_drop.mp h2).symm)
inductive GJ (C : Cx) (fm : Fm) (fz : Fz) (I : Im) (as : List Addr) (A : Around) (wr : List Addr) (ga : Addr) (gn : Nat) (t : List Nat) (run : List D → Vars → Cells → Option (Fl × Vars × Cells)) (res : Fl × Vars × Cells) (rr : Nat) (s1 : Shared) : Prop
  | mk {I1 : Im} {as1 : List Addr} {v1 : Vars} {c1 : Cells} {gs : GenState} {l : List (Nat × List Nat)} : I.le I1 → Ext as as1 → St C fm fz I1 as1 v1 c1 s1 → Own fm fz I1 as1 (ga :: wr) → s1.heap.IsGen ga gn → s1.gens[gn]? = some gs →
      gs.Goes (model C.prog C.w) A.in1 (escR wr) (escY wr t) rr (.send .none) (s1.setGen gn .running) → l <:+ escF false 0 t → l.length = rr → run (l.map tupD) v1 c1 = some res → GJ C fm fz I as A wr ga gn t run res rr s1
theorem gen_for {run : Vars → Cells → Option (Fl × Vars × Cells)} (g : CxOk2 C) {target : PySem.Expr} {xs : List Nat} {pat : Bool} {body : List PySem.Stmt} {t : List Nat} {wr : List Addr} {ga : Addr} {gn : Nat} {fl : Fl} {vars' : Vars} {c' : Cells} {rr : Nat} {Q : Flow → Shared → Prop}
    (B : ∀ gs, BodyOk (C.gsw gs) fm A body run) (h3 : chkPat fm.nl xs pat target = true) (nf : ∀ id, fm.nl.lookup id ≠ some .free) (hh : A.handled = none) (hroom : A.depth < recursionLimit) (hga : ga ∉ wr) (hgn : C.gs gn = none) (q : KS C fm fz I as fl vars' c' Q)
    (j : GJ C fm fz I as A wr ga gn t (forRun run xs pat) (fl, vars', c') rr s) :
    codeAny (model C.prog C.w) A (.forLoop target (.ref ga) body [] fm.env) (fun rr s' => match rr with | .ok f => Q f s' | .error e => cameBackBy (model C.prog C.w) A fm.env E e s') s := by
  refine codeAny_forLoop_any (GJ C fm fz I as A wr ga gn t (forRun run xs pat) (fl, vars', c')) (fun rr s2 j2 => ?_) rr j
  clear j
  cases j2 with | @mk I2 as2 v2 c2 gs l l2 x2 t2 own hgen hgs hgo hl hrr hrun =>
  replace q := q.step l2 x2
  have kp : ∀ b o, C.h₀.get? b = some o → s2.heap.get? b = some o := fun b o e => t2.rd b o (t2.base b o e)
  refine wpAny_pos t2.pos (next_gen hh (g.nolimit.keeps kp) hroom hgen hgs hgo (fun v s₁ gs' hbare hY htk => ?_) fun s₁ hn hsn h' hk htk => ?_)
  · cases hY with | mk sn wlt val hkap =>
    cases rr with
    | zero => exact (hkap _ fun _ _ _ e => e).elim
    | succ m =>
    cases val with | mk a p qq tp ts suf fresh hnw hta hes hsuf =>
    cases suf_eq hl hes (hrr.trans (congrArg (· + 1) hsuf.symm))
    refine bind_some' hrun fun v3 hb hrun => bind_some' hrun fun x hx hrun => ?_
    obtain ⟨t3, hself⟩ := gen_since t2 own hgs hgn hbare sn htk
    have fr2 : s2.heap.get? a = none := fresh
    have gen3 : s₁.heap.IsGen ga gn := isGen_at hgen fun o e => sn.keep hga e
    have hag : a ∉ ga :: wr := fun h => (List.mem_cons.mp h).elim (fun h => let ⟨_, _, _, e, _⟩ := hgen; noS (fr2.symm.trans (h ▸ e))) hnw
    have t4 := t3.add (t2.fresh_rd fr2) (t2.fresh_fz fr2) (t2.fresh_as fr2) (t2.fresh_mu fr2) hta
    have own4 := own.add (o := { cls := .type "tuple", data := .seq #[.int (Int.ofNat p) tp, .str (mkS qq) ts] }) hag
    have l3 := Im.le.add (t2.fresh_rd fr2) (o := { cls := .type "tuple", data := .seq #[.int (Int.ofNat p) tp, .str (mkS qq) ts] })
    have rv : DR (I2.add a { cls := .type "tuple", data := .seq #[.int (Int.ofNat p) tp, .str (mkS qq) ts] }) (tupD (p, qq)) (.ref a) :=
      .mk 0 (Nat.le_of_ble_eq_true rfl) (if_pos rfl) (.cons ⟨tp, rfl⟩ (.one ⟨Nat.le_trans (escF_len t false 0 (p, qq) (hes.subset (List.mem_cons_self ..))) (Nat.le_of_ble_eq_true rfl), ts, rfl⟩))
    replace q := q.step l3 (Ext.refl as2)
    have lt : ∀ b ∈ ga :: wr, b < s₁.heap.objs.size := fun b hb => (List.mem_cons.mp hb).elim (fun h => h ▸ isGen_lt gen3) (wlt b)
    refine owned_gen gen3 (wpAny_dead (pat_ok (C := C.gsw (gs1 gn gs' C.gs)) h3 hh ((t4.lock own4).gsw (gs := gs1 gn gs' C.gs) (GensOk.hold t4.gens hself)) hb rv fun s5 t5 dd5 => wpAny_dead (B (gs1 gn gs' C.gs) t5 hx fun I6 as6 s6 f l6 x6 t6 fr dd6 => ?_)))
    obtain ⟨t7, own6, kept, hg6⟩ := gen_after t4 own4 lt t6 (dd5.trans dd6) nf hgn
    exact flow_turn fr hrun t7 (q.step l6 x6) fun hrun => ⟨m, Nat.lt_succ_self m, .mk (l2.trans (l3.trans l6)) (x2.trans x6) t7 own6 (isGen_at gen3 fun o e => kept ga (List.mem_cons_self ..) o e) hg6
      (hkap (s6.setGen gn .running) fun b hb o e => kept b (List.mem_cons_of_mem _ hb) o e) ((List.suffix_cons _ _).trans hes) hsuf hrun⟩
  · cases hn
    cases List.length_eq_zero_iff.mp hrr
    exact wpAny_execs_nil ((q.cong hrun).at ((gen_since t2 own hgs hgn (gs' := .finished) rfl hsn htk).1.heap hk) .next)
end
end Mine
end
section
open PySem PySem.W PyProof.Rows PySem.SeqAt
set_option maxRecDepth 100000
namespace Mine
section
variable {C : Cx} {F : FT} {rank : Nat → Nat} {n fu : Nat} {k : Nat} {tw : Bool} {fm : Fm} {fz : Fz} {I : Im} {as : List Addr} {vars : Vars} {c : Cells} {s s' : Shared} {A : Around} {E : Value → Shared → Prop}
theorem ga_of {env : Env} {N : Nat} (h : env.locals < N) : GA env (N + 1) N [env.locals, N + 1, N] :=
  ⟨.head _, .tail _ (.head _), .tail _ (.tail _ (.head _)), fun a h => (List.mem_cons.mp h).imp_right fun h => (List.mem_cons.mp h).imp_right List.mem_singleton.mp, Nat.lt_succ_self N, Nat.ne_of_gt (Nat.lt_succ_of_lt h), Nat.ne_of_gt h⟩
theorem esc_for {run : Vars → Cells → Option (Fl × Vars × Cells)} (Z : Wk C F rank n tw fm A) (gi : GenIs C) {body : List PySem.Stmt} (B : ∀ gs, BodyOk (C.gsw gs) fm A body run) {e : ME} {iter target : PySem.Expr} {p4 : Pos} {xs : List Nat} {pat : Bool} {fl : Fl} {vars' : Vars} {c' c1 : Cells} {txt : List Nat} {z : V} {Q : Flow → Shared → Prop}
    (h1 : call1 fm.nl (Str.ofString "_iter_escaped_chars") iter (chkE k tw fm.nl e) = true) (h3 : chkPat fm.nl xs pat target = true) (nf : ∀ id, fm.nl.lookup id ≠ some .free) (t : St C fm fz I as vars c s) (e1 : ev F rank n e vars c = some (z, c1)) (hz : optStr z = some txt)
    (he : forRun run xs pat (escD txt) vars c1 = some (fl, vars', c')) (q : KS C fm fz I as fl vars' c' Q) : wpAny (model C.prog C.w) A (exec (.For target iter body [] p4) fm.env) Q E s := by
  refine call1_elim (G := fun e => wpAny _ _ (exec (.For _ e _ _ _) _) _ _ _) h1 fun p2 v p3 hl hv => ?_
  have hroom : A.depth < recursionLimit := Nat.lt_of_le_of_lt (Nat.le_trans (Nat.le_add_right ..) Z.r.2.1) (Nat.le_of_ble_eq_true rfl)
  cases id gi with
  | mk a o fd qq h1 h2 h3' =>
  refine wpAny_For (Call_ (eval_glob Z.g.toCxOk t hl h1 (by decide +kernel) (callWith_def (o := o) (fd := fd) h3' ?_ (star_plain hv _ _)))) (fun _ => rfl)
  rw [star_plain hv]
  refine Calls.spliced_cons (Z.e1 hv t e1 fun I1 s1 vx l1 t1 r1 => Calls.spliced_nil ?_)
  refine ⟨t1.rd _ _ (t1.base _ _ h2), VR.str (G := fun v => wpAny _ _ (call _ [v]) _ _ _) hz r1 fun tx hlen => make_gen Z.g gi hroom t1.toGd h1 fun env q1 h' tk ga ge e2 e3 e4 e5 e6 isgen hns keep htk => wpAny_pyIter_gen isgen ?_⟩
  obtain ⟨m, hns, hm⟩ := hns
  obtain ⟨gp, gz⟩ := t1.gens.push (y := .fresh (.func (escAll q1) env)) rfl
  have t2 : St C fm fz I1 as vars c1 { s1 with heap := h', gens := s1.gens.push (.fresh (.func (escAll q1) env)), toks := tk } := t1.keeps keep gp rfl htk
  have own : Own fm fz I1 as (ga :: [env.locals, h'.objs.size + 1, h'.objs.size]) := fun b hb => (List.mem_cons.mp hb).elim (fun h => h ▸ t1.fresh e6) fun hb => ((ga_of hns.lt).all b hb).elim
    (fun h => h ▸ t1.fresh (e4 ▸ get?_size_none _)) fun hb => hb.elim (fun h => h ▸ t2.fresh (Heap.get?_none_of_le (Nat.le_succ _))) fun h => h ▸ t2.fresh (get?_size_none h')
  have hg1 : s1.heap.Ns mainGlobals C.mg := t1.toGd.glob (g := Z.g.toCxOk)
  have hb1 : s1.heap.Ns builtinsNs C.mb := t1.toGd.bns (g := Z.g.toCxOk)
  have bl := Z.g.blt _ (List.mem_of_getElem? (show bltL[8]? = some (nEnum, .type "enumerate") from rfl))
  refine gen_for Z.g B h3 nf Z.r.1 hroom (fun hm' => ?_) gz (q.step l1 (Ext.refl as)) (.mk (Im.le.refl I1) (Ext.refl as) t2 own isgen Array.getElem?_push_size ⟨rfl, gen_fresh (s := Shared.setGen { s1 with heap := h', gens := s1.gens.push (.fresh (.func (escAll q1) env)), toks := tk } s1.gens.size .running) Z.r.1 ge (ga_of hns.lt) hns hm e2 e3 (hg1.keeps keep) (hb1.keeps keep)
    (e4 ▸ Nat.ne_of_gt hg1.lt) (e4 ▸ Nat.ne_of_gt hb1.lt) bl.1 bl.2⟩ (List.suffix_refl _) rfl (escD_is txt ▸ he))
  have galt := isGen_lt isgen
  exact ((ga_of hns.lt).all ga hm').elim e5 fun h => h.elim (Nat.ne_of_lt (Nat.lt_succ_of_lt galt)) (Nat.ne_of_lt galt)
theorem escS_elim {P : MS → Prop} {m : MS} (h : isEscS m = true) (k : ∀ x y e b, P (.forEsc x y e b)) : P m := MS.forEsc.elim (motive_1 := P) m (eq_of_beq h) k
theorem esc_step (g : CxOk2 C) (gi : GenIs C) (H : EvOk C F rank n) (T : TrOk C F rank n) (X : ∀ gs, ExOk (C.gsw gs) F rank fu n) : EscOk C F rank fu (n + 1) := by
  intro k tw ms st fm fz I as vars c s fl vars' c' A Q E hesc h htw r t he q
  cases k with
  | zero => exact noT h
  | succ k =>
  refine escS_elim (P := fun ms => chkS (k + 1) tw fm.nl ms st = true → ex F rank fu (n + 1) ms vars c = some (fl, vars', c') → wpAny (model C.prog C.w) A (exec st fm.env) Q E s) hesc (fun x y e b h he => ?_) h he
  refine acc_any (G := ExG C A fm fz I as vars c s Q E) wFor h fun z h => nil_of (G := fun o => wpAny _ _ (exec (.For _ _ _ o _) _) _ _ _) (an (an (an (an h).1).1).1).1 (bind_some' he fun w e1 he => bind_some' he fun txt hz he => ifB he (fun _ he => ?_) fun _ => noS)
  have nf := an (an (an h).1).1
  exact esc_for ⟨g, H, T, htw, r.less⟩ gi (fun gs => exs_ok (X gs) (fun h => noT (((Bool.not_eq_true' _).mp (an nf.2).1).symm.trans h)) r.less (an (an h).1).2) (an h).2 (an nf.1).2
      (fun id hid => noT (((Bool.not_eq_true' _).mp (List.all_eq_true.mp (an nf.2).2 _ (mem_lookup hid))).symm)) t e1 hz he q
end
end Mine
end
section
open PySem PySem.W PyProof.Rows PySem.SeqAt
set_option maxRecDepth 100000
namespace Mine
section
variable {prog : Program} {w : World} {A : Around} {E : Value → Shared → Prop} {s : Shared} {d : Addr} {kvs : List (Int × Value)} {u : Tok} {y : Str}
theorem tlook {Q : Builtin.Str.Mapped → Shared → Prop} (hd : s.heap.DictOf (intKind prog w) d kvs) (hv : valueAt kvs 40 = some (.str y u)) (q : ∀ tk, Q (.text y) { s with toks := tk }) :
    wpAny (model prog w) A (Builtin.Str.tableLookup (.ref d) 40) Q E s := by
  unfold Builtin.Str.tableLookup
  refine wpAny_bind (wpAny_attempt (wpAny_bind (wpAny_mkInt ?_)))
  refine wpAny_getItem_of (intKind_is prog w _ _) (Heap.DictOf.mapOf hd) hv ?_
  repeat (any_goals (first | exact q _ | wp_step))
theorem ttr {Q : PySem.Fin → Shared → Prop} {x : Str} (hx : x = ⟨#[40]⟩) {tx : Tok} (hd : s.heap.DictOf (intKind prog w) d kvs) (hv : valueAt kvs 40 = some (.str ⟨#[92, 40]⟩ u)) (q : ∀ tk t', Q (.done (.ret (.str ⟨#[92, 40]⟩ t'))) { s with toks := tk }) :
    wpAny (model prog w) A (Builtin.«str.translate» ⟨[.str x tx, .ref d], []⟩) Q E s := by
  subst hx
  unfold Builtin.«str.translate»
  refine wpAny_bind (wpAny_of_eq (a := (Value.str ⟨#[40]⟩ tx, (⟨#[40]⟩ : Str), Value.ref d)) (by rfl) ?_)
  dsimp only
  rw [if_neg (by decide)]
  simp only [List.forIn_toArray, List.forIn_cons, List.forIn_nil]
  have h1 : (Builtin.Str.tooLong 0 = true) = False := by simp; rfl
  have h2 : ((#[40] : Array Nat).all fun x => decide (x < 128)) = true := by simp
  have h3 : List.lookup 40 ([] : List (Nat × Option Nat)) = none := rfl
  have h4 : (((⟨#[92, 40]⟩ : Str).length == 1 && (⟨#[92, 40]⟩ : Str).cps.all fun x => decide (x < 128)) = true) = False := by simp [Str.length]
  simp only [h1, h2, h3, if_false, if_true]
  refine wpAny_bind (wpAny_bind (wpAny_bind (tlook hd hv fun tk => ?_)))
  simp only [h4, if_false, pure_bind, Bool.false_eq_true]
  refine wpAny_bind (wpAny_rule (wpAny_bind (tlook (s := { s with toks := tk }) hd hv fun tk2 => wpAny_pure ?_)))
  repeat (any_goals (first | (exact q _ _) | wp_step))
end
end Mine
end
section
open PySem PySem.W PyProof.Rows PySem.SeqAt
set_option maxRecDepth 100000
namespace Mine
noncomputable def fn13 : Fn := { params := [59], body := [] }
noncomputable def nPat : Str := Str.ofString "pattern"
noncomputable def nMap : Str := Str.ofString "_special_chars_map"
noncomputable abbrev escpBody (q : Nat → Pos) (orl : List PySem.Stmt) : List PySem.Stmt := [
  .If (.Call (.Name (Str.ofString "isinstance") (q 1)) [.Name nPat (q 2), .Name (Str.ofString "str") (q 3)] [] (q 4))
    [.Return (some (.Call (.Attribute (.Name nPat (q 5)) (Str.ofString "translate") (q 6)) [.Name nMap (q 7)] [] (q 8))) (q 9)] orl (q 10)]
inductive EscpIs (C : Cx) : Prop
  | mk (q : Nat → Pos) (orl : List PySem.Stmt) (sc : Scope) (a : Addr) (kvs : List (Int × Value)) (u : Tok) : FnIs C (Str.ofString "escape") [nPat] (escpBody q orl) sc (fun _ => True) → chkF [nPat] sc fn13 = true → ((q 6).endLine == (q 8).line) = true →
    sc.names.lookup nPat = some .local → sc.names.lookup (Str.ofString "isinstance") = some .globalImplicit → sc.names.lookup (Str.ofString "str") = some .globalImplicit → sc.names.lookup nMap = some .globalImplicit →
    C.mg nMap = some (.ref a) → C.h₀.DictOf (intKind C.prog C.w) a kvs → valueAt kvs 40 = some (.str ⟨#[92, 40]⟩ u) → EscpIs C
section
variable {C : Cx} {F : FT} {rank : Nat → Nat}
theorem escape_in {fm : Fm} {fz : Fz} {I : Im} {as : List Addr} {vars : Vars} {c : Cells} {s : Shared} {A : Around} {Q : Flow → Shared → Prop} {E : Value → Shared → Prop} {q : Nat → Pos} {orl : List PySem.Stmt} {a : Addr} {kvs : List (Int × Value)} {u : Tok} (g0 : CxOk2 C) (t : St C fm fz I as vars c s) (hv : vget vars 59 = some (.d (.str [40]))) (hline : ((q 6).endLine == (q 8).line) = true)
    (n1 : fm.nl.lookup nPat = some .local) (n2 : fm.nl.lookup (Str.ofString "isinstance") = some .globalImplicit) (n3 : fm.nl.lookup (Str.ofString "str") = some .globalImplicit) (n4 : fm.nl.lookup nMap = some .globalImplicit)
    (m1 : C.mg nMap = some (.ref a)) (m2 : C.h₀.DictOf (intKind C.prog C.w) a kvs) (m3 : valueAt kvs 40 = some (.str ⟨#[92, 40]⟩ u)) (k : ∀ tk t', 0 < tk → Q (.ret (.str ⟨#[92, 40]⟩ t')) { s with toks := tk }) :
    wpAny (model C.prog C.w) A (execs (escpBody q orl) fm.env) Q E s := by
  have hn59 : nms[59]? = some nPat := by decide +kernel
  refine wpAny_execs_cons (wpAny_If (isTrue_plain (Call_ (eval_blt (i := 9) g0 t n2 rfl (Calls.callWith_builtin rfl (Calls.evalArgs_plain (Calls.spliced_cons (eval_var t hv hn59 n1 rfl fun y ry => Calls.spliced_cons (eval_blt (i := 4) g0 t n3 rfl (Calls.spliced_nil ?_))))))))))
  refine VR.str (G := fun y => wpAny _ _ (call _ [y, _]) _ _ _) rfl ry fun ty _ => IsiPair.str_str (wpAny_truthy_bool (wpAny_execs_cons (wpAny_Return_some (Call_method1 (recv_base rfl _ _) rfl hline (eval_var t hv hn59 n1 rfl fun y ry => ?_)))))
  obtain ⟨_, ty2, rfl⟩ := ry
  refine ⟨"str", "str.translate", PySem.F.plainAttrs_str, PySem.F.slot_str_translate, PySem.F.type_str_translate, typeIs_str _ _ _, (fun b hb => nomatch hb), ?_⟩
  exact Calls.callWith_builtin rfl (Calls.evalArgs_plain (Calls.spliced_cons (eval_glob g0.toCxOk t n4 m1 (by decide +kernel) (Calls.spliced_nil (wpAny_pos t.pos (wpAny_call_entry PySem.F.slot_str_translate (typeIs_str _ _ _) PySem.F.entry_str_translate
    (ttr rfl (m2.keep fun b o e => t.rd b o (t.base b o e)) m3 fun tk t' => ⟨_, rfl, k tk t'⟩) (PySem.F.args_str_translate_2 _ _)))))))
theorem escape_ok (g0 : CxOk2 C) (gi : EscpIs C) (hr : 0 < rank 13) (hF : ∀ {args c r}, F 13 args c = some r → args = [.d (.str [40])] ∧ r = (.d (.str [92, 40]), c)) : CallOk C F rank 13 := by
  intro A fz I as c s args vals v c' Q E id' a r fi g rv he h0 h1 h2 q
  cases (show fnms[13 - 1]? = some (Str.ofString "escape") by decide +kernel).symm.trans h1
  obtain ⟨rfl, hr2⟩ := hF he
  cases hr2
  cases gi with | mk qq orl sc am kvs u hx hc hline n1 n2 n3 n4 m1 m2 m3 =>
  exact call_in g0 hx (chkF_is hc) (deep4 r.2.1) fi g rv rfl h2 fun fm s₁ hfm t => by
    rw [← hfm.names] at n1 n2 n3 n4
    exact escape_in (C := C.fsw (fm.env :: C.fl)) (g0.fsw _) t rfl hline n1 n2 n3 n4 m1 m2 m3 fun tk t' hp =>
      have mu := t.mu _ t.ok.loc
      q I _ _ (Im.le.refl I) ((t.toGd.fout fun b hb => Option.some.inj (hfm.frame.symm.trans hb) ▸ mu.2.1).step (s' := { s₁ with toks := tk }) mu.1 mu.2.1 mu.2.2.1 (fun b o _ e => e) t.gens rfl hp) (show _ ∧ _ from ⟨Nat.le_of_ble_eq_true rfl, t', rfl⟩)
end
end Mine
end
section
open PySem PySem.W PyProof.Rows PySem.SeqAt
set_option maxRecDepth 100000
namespace Mine
noncomputable def Flies (C : Cx) (X : String) (H : Heap) (e : Addr) (h' : Heap) : Prop :=
  ∃ a0, Heap.FlyingW (hideAll H (C.fl.filterMap (·.frame))) C.fl e (.type X) a0 h' ∧ H.UpToSlots h'
theorem isFr_iff {C : Cx} {a : Addr} : IsFr C a ↔ a ∈ C.fl.filterMap (·.frame) := by
  rw [List.mem_filterMap]; rfl
theorem funFrames_of {h base : Heap} {l : List Env} : (∀ env ∈ l, env.scope.kind ≠ .module ∧ ∃ L o, env.frame = some L ∧ base.get? L = none ∧ h.get? L = some o ∧ ∀ vs, o.data ≠ .fields vs) → h.FunFrames base l := by
  induction l with
  | nil => exact fun _ => trivial
  | cons env r ih => exact fun k => ⟨(k env (List.mem_cons_self ..)).1, (k env (List.mem_cons_self ..)).2, ih fun e he => k e (List.mem_cons_of_mem _ he)⟩
theorem none_of_le {h h' : Heap} {b : Addr} (k : ∀ o, h.get? b = some o → h'.get? b = some o) (e : h'.get? b = none) : h.get? b = none := Option.eq_none_iff_forall_not_mem.mpr fun o x => noS (e.symm.trans (k o x))
section
variable {C : Cx} {F : FT} {rank : Nat → Nat} {n fu : Nat} {k : Nat} {tw : Bool} {fm : Fm} {fz : Fz} {I : Im} {as : List Addr} {vars : Vars} {c : Cells} {s s' : Shared} {A : Around} {E : Value → Shared → Prop}
theorem Gd.frames (g : Gd C fz I as c s) (fi : FlIn C fz none) : ∀ env ∈ C.fl, env.scope.kind ≠ .module ∧ ∃ L o, env.frame = some L ∧ L ∈ C.fl.filterMap (·.frame) ∧ s.heap.get? L = some o ∧ ∀ vs, o.data ≠ .fields vs := fun env he => by
  obtain ⟨k1, a, hf, h3⟩ := fi env he
  obtain ⟨o, e, r⟩ := h3.resolve_right fun e => nomatch e
  obtain ⟨o', e', d⟩ := (g.fr a o (fun q => k1.2 (q ▸ hf)) e).data
  exact ⟨k1.1, a, o', hf, List.mem_filterMap.mpr ⟨env, he, hf⟩, e', fun vs => d ▸ r vs⟩
theorem Gd.frFz (fi : FlIn C fz none) {a : Addr} (h : IsFr C a) : (∃ o, fz a = some o ∧ ∀ vs, o.data ≠ .fields vs) ∧ a ≠ C.P := by
  obtain ⟨env, he, hf⟩ := h
  obtain ⟨k1, b, hf', h3⟩ := fi env he
  cases hf.symm.trans hf'
  exact ⟨h3.resolve_right (fun e => nomatch e), fun q => k1.2 (hf.trans (congrArg some q))⟩
theorem Gd.notFr (fi : FlIn C fz none) {a : Addr} (h : fz a = none) : ¬ IsFr C a := fun hf => let ⟨⟨_, e, _⟩, _⟩ := Gd.frFz fi hf; noS (h.symm.trans e)
theorem Gd.flown (g : Gd C fz I as c s) (fi : FlIn C fz none) {h' : Heap} {tk : Nat} (k1 : ∀ b o, s.heap.get? b = some o → ¬ IsFr C b → h'.get? b = some o) (k2 : s.heap.UpToSlots h') (hp : 0 < tk) : Gd C fz I as c { s with heap := h', toks := tk } where
  rd b o e := k1 b o (g.rd b o e) fun hf => let ⟨⟨o', e', _⟩, _⟩ := Gd.frFz fi hf; noS ((g.dj b o' e').symm.trans e)
  fr b o hP e := by
    obtain ⟨o', e', r⟩ := g.fr b o hP e
    by_cases hf : IsFr C b
    · obtain ⟨⟨o2, e2, hd⟩, _⟩ := Gd.frFz fi hf
      cases e.symm.trans e2
      obtain ⟨sl, e3⟩ := k2 b o' e' (r.elim (fun q => q ▸ hd) fun ⟨_, sl, q⟩ => q ▸ hd)
      exact ⟨_, e3, .inr ⟨hf, sl, r.elim (fun q => q ▸ rfl) fun ⟨_, sl', q⟩ => q ▸ rfl⟩⟩
    · exact ⟨o', k1 b o' e' hf, r⟩
  dj := g.dj
  fas := g.fas
  base := g.base
  cel := g.cel.mono (Im.le.refl I) (fun b hb o e => k1 b o e (Gd.notFr fi (g.fas b hb))) g.cel.noRd
  gens := g.gens
  os := g.os
  pos := hp
  tfz := g.tfz
  tab := let ⟨ps, e, x⟩ := g.tab; ⟨ps, k1 _ _ e fun hf => (Gd.frFz fi hf).2 rfl, x⟩
theorem pop_raises {st : PySem.Stmt} {y x i : Nat} {Q : Flow → Shared → Prop} (hh : A.handled = none) (t : St C fm fz I as vars c s) (h : chkS k tw fm.nl (.assign y (.pop x)) st = true) (hv : vget vars x = some (.loc i)) (hc : c[i]? = some [])
    (q : ∀ h' tk e, Heap.NewExc s.heap h' e "IndexError" → E (.ref e) { s with heap := h', toks := tk }) : wpAny (model C.prog C.w) A (exec st fm.env) Q E s := by
  cases k with
  | zero => exact noT h
  | succ k =>
  refine acc_any (G := fun st => wpAny _ _ (exec st _) _ _ _) wAsg h fun y h => hd1_any (G := fun ts => wpAny _ _ (exec (.Assign ts _ _) _) _ _ _) h fun t' h => bn_of (G := fun t' => wpAny _ _ (exec (.Assign [t'] _ _) _) _ _ _) (an h).1 fun id p _ _ => ?_
  have h := (an h).2
  cases k with
  | zero => exact noT h
  | succ k =>
  refine callM_elim (G := fun e => wpAny _ _ (exec (.Assign [_] e _) _) _ _ _) (s := Str.ofString "pop") (f := fun o xs => xs.isEmpty && (acc wName o).any fun (y : Str × Pos) => varOk fm.nl x y.1) (an h).2 fun o ap xs pos hline h => nil_of (G := fun xs => wpAny _ _ (exec (.Assign [_] (.Call _ xs _ _) _) _) _ _ _) (an h).1
    (acc_any (G := fun o => wpAny _ _ (exec (.Assign [_] (.Call (.Attribute o _ _) [] [] _) _) _) _ _ _) wName (an h).2 fun z h => wpAny_Assign_Name (Call_method0 rfl hline (eval_v t h hv fun y ry => ?_)) rfl)
  obtain ⟨a, ea, rfl⟩ := ry
  obtain ⟨_, its, nn, e1, e3, _, d3⟩ := t.cel.get hc
  cases ea.symm.trans e1
  refine ⟨"list", "list.pop", PySem.F.plainAttrs_list, PySem.F.slot_list_pop, PySem.F.type_list_pop, ⟨_, e3, rfl⟩, fun b hb => by cases hb; exact ⟨_, e3, rfl⟩, ?_⟩
  exact Calls.callWith_builtin rfl (PyProof.Rows.evalArgs_none (call_meets PySem.F.slot_list_pop ⟨_, e3, rfl⟩ PySem.F.entry_list_pop (PySem.F.args_list_pop_1 _) (PySem.AutoSeq1.list_pop_list_0 a its nn (isE_len (l := ([] : List D)) d3.size)) ⟨e3, hh, q⟩))
theorem raise_call {ps : List Str} {body : List PySem.Stmt} {sc : Scope} {ok : Value → Prop} {fn : Fn} {id : Str} {a : Addr} {x : Value} {i : Nat} {rest : List MS} {Q : Value → Shared → Prop} (g0 : CxOk2 C) (hx : FnIs C id ps body sc ok) (hc : chkF ps sc fn = true) (hb : chkBs (chkS k tw sc.names) fn.body body = true) (hps : fn.params = [0]) (hbd : fn.body = .assign 1 (.pop 0) :: rest)
    (r : Room C 1 A) (fi : FlIn C fz none) (g : Gd C fz I as c s) (rx : VR I as (.loc i) x) (hi : c[i]? = some []) (ha : C.mg id = some (.ref a))
    (q : ∀ h' tk e, 0 < tk → Flies C "IndexError" s.heap e h' → E (.ref e) { s with heap := h', toks := tk }) : wpAny (model C.prog C.w) A (call (.ref a) [x]) Q E s := by
  refine wpAny_pos g.pos (call_inE g0 hx (chkF_is hc) (deep4 r.2.1) fi g (args := [.loc i]) ⟨x, [], rfl, rx, rfl⟩ (by rw [hps]; rfl) ha fun fm h₁ tk hf t kp hfr => ?_)
  rw [hps] at t
  rw [hbd, ← hf.names] at hb
  cases body with
  | nil => exact noT hb
  | cons st rest' =>
  refine wpAny_execs_cons (pop_raises (C := C.fsw (fm.env :: C.fl)) (A := A.deeper fm.env) r.1 t (an (a := chkS k tw fm.nl _ st) hb).1 rfl hi fun h' tk' e hx' => ?_)
  obtain ⟨ob, tt, he, hcls, hd⟩ := hx'.there
  have hkb : (hideAll s.heap (C.fl.filterMap (·.frame))).StaysIn h₁ := fun b o e => kp b o (of_hideAll _ e)
  have hnone : ∀ b, h₁.get? b = none → (hideAll s.heap (C.fl.filterMap (·.frame))).get? b = none := fun b => none_of_le (hkb b)
  have hfl : (hideAll s.heap (C.fl.filterMap (·.frame))).get? fm.env.locals = none := none_of_le (fun _ => of_hideAll _) hfr
  obtain ⟨m, hm, _⟩ := t.vr
  have hFun := Heap.FunFrames.cons (fun h => nomatch t.ok.kind.symm.trans h) hf.frame hm hfl (funFrames_of fun env henv => (g.frames fi env henv).imp (fun h => h) fun ⟨L, o, k2, k3, k4, k5⟩ => ⟨L, o, k2, hideAll_none _ k3, kp _ _ k4, k5⟩)
  refine wpAny_leaving_firstW (base := hideAll s.heap (C.fl.filterMap (·.frame))) (outer := C.fl) (L := fm.env.locals) (a0 := tt) (Around.frames_deeper r.2.2.2) (hFun.of_keeps fun b o hb _ => ⟨o, hx'.keeps b o hb, rfl⟩) hf.frame he (fun b o hb => hx'.keeps b o (hkb b o hb)) (hnone _ hx'.new) hd rfl rfl fun h2 hL => ?_
  obtain ⟨k1, ⟨_, _, k2⟩, k3, k4⟩ := hL
  exact fun hp => q h2 tk' e hp ⟨tt, ⟨k1, hnone _ hx'.new, k2, hcls ▸ k3⟩, fun b o e hn => k4 b o (hx'.keeps b o (kp b o e)) hn⟩
end
end Mine
end
section
open PySem PySem.W PyProof.Rows PySem.SeqAt
set_option maxRecDepth 100000
namespace Mine
noncomputable def nHeap : Str := Str.ofString "heap"
noncomputable def nRefd : Str := Str.ofString "refused"
noncomputable def nGrst : Str := Str.ofString "greatest"
noncomputable def nHpm : Str := Str.ofString "_heappop_max"
noncomputable def nHp : Str := Str.ofString "heappop"
noncomputable def nIxe : Str := Str.ofString "IndexError"
noncomputable abbrev refTry (q : Nat → Pos) : PySem.Stmt := .Try
  [.If (.Name nGrst (q 0)) [.Expr (.Call (.Name nHpm (q 1)) [.Name nHeap (q 2)] [] (q 3)) (q 4)] [.Expr (.Call (.Name nHp (q 5)) [.Name nHeap (q 6)] [] (q 7)) (q 8)] (q 9)]
  [.ExceptHandler (some (.Name nIxe (q 10))) none [.Assign [.Name nRefd (q 11)] (.BinOp (.Name nRefd (q 12)) .Add (.Constant (.int 1) 0 (q 13)) (q 14)) (q 15)] (q 16)] [] [] (q 17)
noncomputable abbrev refBody (q : Nat → Pos) : List PySem.Stmt := [
  .Assign [.Name nRefd (q 18)] (.Constant (.int 0) 0 (q 19)) (q 20),
  .For (.Name nGrst (q 21)) (.List [.Constant (.bool true) 0 (q 22), .Constant (.bool false) 0 (q 23)] (q 24)) [refTry q] [] (q 25),
  .Return (some (.BoolOp .And [.Compare (.Name nRefd (q 26)) [.Eq] [.Constant (.int 2) 0 (q 27)] (q 28), .Compare (.Name nHeap (q 29)) [.Eq] [.List [] (q 30)] (q 31)] (q 32))) (q 33)]
noncomputable def fn23 : Fn := { params := [0], body := [] }
theorem FnIs.fsw {C : Cx} {id : Str} {ps : List Str} {body : List PySem.Stmt} {sc : Scope} {ok : Value → Prop} (h : FnIs C id ps body sc ok) (L : List Env) : FnIs (C.fsw L) id ps body sc ok := h.casesOn fun a o fd h1 h2 h3 h4 h5 h6 h7 h8 h9 h10 h11 => .mk a o fd h1 h2 h3 h4 h5 h6 h7 h8 h9 h10 h11
structure RefN (C : Cx) (nl : NL) (b1 : List PySem.Stmt) (sc1 : Scope) (b3 : List PySem.Stmt) (sc3 : Scope) (k : Nat) : Prop where
  x1 : FnIs C nHp [nHeap] b1 sc1 (fun _ => True)
  y1 : chkF [nHeap] sc1 fn1 = true
  z1 : chkBs (chkS k false sc1.names) fn1.body b1 = true
  x3 : FnIs C nHpm [nHeap] b3 sc3 (fun _ => True)
  y3 : chkF [nHeap] sc3 fn3 = true
  z3 : chkBs (chkS k false sc3.names) fn3.body b3 = true
  n1 : nl.lookup nHeap = some .local
  n2 : nl.lookup nRefd = some .local
  n3 : nl.lookup nGrst = some .local
  n4 : nl.lookup nHpm = some .globalImplicit
  n5 : nl.lookup nHp = some .globalImplicit
  n6 : nl.lookup nIxe = some .globalImplicit
theorem RefN.fsw {C : Cx} {nl : NL} {b1 : List PySem.Stmt} {sc1 : Scope} {b3 : List PySem.Stmt} {sc3 : Scope} {k : Nat} (x : RefN C nl b1 sc1 b3 sc3 k) (L : List Env) : RefN (C.fsw L) nl b1 sc1 b3 sc3 k := { x with x1 := x.x1.fsw L, x3 := x.x3.fsw L }
inductive RefIs (C : Cx) : Prop
  | mk (q : Nat → Pos) (b1 : List PySem.Stmt) (sc1 : Scope) (b3 : List PySem.Stmt) (sc3 sc : Scope) (k : Nat) : RefN C sc.names b1 sc1 b3 sc3 k → FnIs C (Str.ofString "_law_refused") [nHeap] (refBody q) sc (fun _ => True) → chkF [nHeap] sc fn23 = true → RefIs C
theorem RefIs.fsw {C : Cx} (x : RefIs C) (L : List Env) : RefIs (C.fsw L) := x.casesOn fun q b1 sc1 b3 sc3 sc k h1 h2 => .mk q b1 sc1 b3 sc3 sc k (h1.fsw L) (h2.fsw L)
noncomputable def refRun (vars : Vars) (c : Cells) : Option (Fl × Vars × Cells) := (vget vars 60).bind fun a => (optInt a).bind fun j => (vget vars 61).bind fun b => (optBool b).bind fun _ => (vget vars 0).bind fun r => (optLoc r).bind fun i => (c[i]?).bind fun l => if l.isEmpty then some (.next, vset 60 (.d (.int (j + 1))) vars, c) else none
theorem refRun_elim {vars : Vars} {c : Cells} {x : Fl × Vars × Cells} {G : Prop} (h : refRun vars c = some x) (k : ∀ j b i, vget vars 60 = some (.d (.int j)) → vget vars 61 = some (.d (.bool b)) → vget vars 0 = some (.loc i) → c[i]? = some [] → some (.next, vset 60 (.d (.int (j + 1))) vars, c) = some x → G) : G :=
  bind_some' h fun a h1 h => bind_some' h fun j h2 h => bind_some' h fun b h3 h => bind_some' h fun b' h4 h => bind_some' h fun r h5 h => bind_some' h fun i h6 h => bind_some' h fun l h7 h => ifS h fun h8 h =>
    k j b' i (h1.trans (congrArg some (optInt_is h2))) (h3.trans (congrArg some (optBool_is h4))) (h5.trans (congrArg some (optLoc_is h6))) (h7.trans (congrArg some (List.isEmpty_iff.mp h8))) h
section
variable {C : Cx} {F : FT} {rank : Nat → Nat} {n fu : Nat} {k : Nat} {tw : Bool} {fm : Fm} {fz : Fz} {I : Im} {as : List Addr} {vars : Vars} {c : Cells} {s s' : Shared} {A : Around} {E : Value → Shared → Prop}
theorem St.flown (t : St C fm fz I as vars c s) {h' : Heap} {tk : Nat} (k1 : (hideAll s.heap (C.fl.filterMap (·.frame))).StaysIn h') (k2 : s.heap.UpToSlots h') (hp : 0 < tk) : St C fm fz I as vars c { s with heap := h', toks := tk } :=
  t.back (Im.le.refl I) (t.hold.flown t.flHold (fun b o e nf => k1 b o (hideAll_get _ e fun hm => nf (isFr_iff.mpr hm))) k2 hp)
theorem ref_catch {outer : List Env} {id : Str} {fn : Fn} {body : List PySem.Stmt} {sc1 : Scope} {rest : List MS} {p1 p2 p3 p4 q10 q11 q12 q13 q14 q15 q16 : Pos} {i : Nat} {j : Int} {Q Q0 : Flow → Shared → Prop} (g0 : CxOk2 C) (hx : FnIs C id [nHeap] body sc1 (fun _ => True)) (hc : chkF [nHeap] sc1 fn = true) (hb : chkBs (chkS k false sc1.names) fn.body body = true) (hps : fn.params = [0]) (hbd : fn.body = .assign 1 (.pop 0) :: rest)
    (hfl : C.fl = fm.env :: outer) (hfr : fm.env.frame = some fm.env.locals) (r : Room C 1 A) (t : St C fm fz I as vars c s) (n1 : fm.nl.lookup nHeap = some .local) (n2 : fm.nl.lookup nRefd = some .local) (n3 : fm.nl.lookup id = some .globalImplicit) (n4 : fm.nl.lookup nIxe = some .globalImplicit) (hid : (id == ("__debug__" : Str)) = false)
    (v0 : vget vars 0 = some (.loc i)) (v1 : vget vars 60 = some (.d (.int j))) (hi : c[i]? = some []) (q : ∀ I' s', I.le I' → St C fm fz I' as (vset 60 (.d (.int (j + 1))) vars) c s' → Q .next s') :
    wpAny (model C.prog C.w) A (execs [.Expr (.Call (.Name id p1) [.Name nHeap p2] [] p3) p4] fm.env) Q0
      (fun e s₁ => wpAny (model C.prog C.w) A (noteFrame e fm.env) (fun _ s₂ => wpAny (model C.prog C.w) A (setFlight e none) (fun _ s₃ => wpAny (model C.prog C.w) A (handleBy e fm.env
        [.ExceptHandler (some (.Name nIxe q10)) none [.Assign [.Name nRefd q11] (.BinOp (.Name nRefd q12) .Add (.Constant (.int 1) 0 q13) q14) q15] q16]) Q E s₃) E s₂) E s₁) s := by
  have hx' := hx
  cases hx' with | mk a o fd h1 h2 h3 =>
  have hn0 : nms[0]? = some nHeap := by decide +kernel
  have hn60 : nms[60]? = some nRefd := by decide +kernel
  refine wpAny_execs_cons (wpAny_Expr_any (Call_ (eval_glob g0.toCxOk t n3 h1 hid ?_)) (fn_inter t.ok) rfl)
  refine callWith_def (o := o) (fd := fd) h3 (Calls.spliced_cons (eval_var t v0 hn0 n1 rfl fun y ry => Calls.spliced_nil ⟨t.rd _ _ (t.base _ _ h2), ?_⟩)) rfl
  refine raise_call g0 hx hc hb hps hbd r t.flHold t.hold ry hi h1 fun h' tk e hp hf => ?_
  obtain ⟨a0, hF, hU⟩ := hf
  have hF0 := hF
  rw [hfl] at hF
  refine wpAny_looks_onW (by rw [r.2.2.2, hfl]) hfr hF fun h2' hH hU2 => ?_
  refine wpAny_landsW hH fun h3' hF3 hU3 => ?_
  have U3 := (hU.trans hU2).trans hU3
  rw [← hfl] at hF3
  have t3 : St C fm fz I as vars c { s with heap := h3', toks := tk } := t.flown hF3.1 U3 hp
  refine wpAny_handleBy_builtin (X := "IndexError") (T := "IndexError") (b := true) (isSubtype_of_subB (by decide +kernel)) (isSubtype_of_subB (by decide +kernel)) (isSubtype_of_subB (by decide +kernel)) (eval_blt (i := 10) g0 t3 n4 rfl ?_)
  refine ⟨rfl, hF3.there, ?_⟩
  obtain ⟨f1, f2, f3, f4⟩ := hF3
  refine wpAny_setFlight_noneW f1 f3 f4 fun h4 k1 k2 k3 k4 => ?_
  have t4 : St C fm fz I as vars c { s with heap := h4, toks := tk } := t.flown k1 (U3.trans fun b o hb hn => ⟨o.slots, k4 b o hb hn⟩) hp
  show wpAny _ _ _ _ _ ({ s with heap := h4, toks := tk } : Shared)
  refine wpAny_execs_cons (wpAny_Assign_Name (wpAny_BinOp (eval_var t4 v1 hn60 n2 rfl fun y ry => ?_)) rfl)
  exact wpAny_Constant_int (binV_ok (o := .add) (x := .d (.int j)) (y := .d (.int 1)) (r := .int (j + 1)) (t4.tok (k := tk + 1) (Nat.succ_pos _)) rfl ry (DR.mkInt (I := I) 1 _) fun I5 s5 z l5 t5 rz => store_ok (v := .d (.int (j + 1))) t5 hn60 ⟨_, n2, .inl rfl⟩ rz fun s6 t6 => wpAny_execs_nil (q I5 s6 l5 t6))
theorem ref_turn {outer : List Env} {b1 b3 : List PySem.Stmt} {sc1 sc3 : Scope} {q : Nat → Pos} (g0 : CxOk2 C) (N : RefN C fm.nl b1 sc1 b3 sc3 k) (hfl : C.fl = fm.env :: outer) (hfr : fm.env.frame = some fm.env.locals) (r : Room C 1 A) : BodyOk C fm A [refTry q] refRun := by
  intro fz I as vars c s fl vars' c' Q E t he qq
  refine refRun_elim he fun j b i v1 v2 v0 hi he => ?_
  have fin : ∀ I' s', I.le I' → St C fm fz I' as (vset 60 (.d (.int (j + 1))) vars) c s' → (match (generalizing := false) Flow.next with | .next => wpAny (model C.prog C.w) A (execs [] fm.env) Q E s' | f => Q f s') := fun I' s' l t' => wpAny_execs_nil ((qq.cong he) I' as s' _ l (Ext.refl as) t' .next)
  refine wpAny_execs_cons (wpAny_Try_except (wpAny_execs_cons (wpAny_If (isTrue_plain (eval_var t v2 (by decide +kernel) N.n3 rfl fun y ry => ?_)))))
  refine VR.bool (b := b) (G := fun y => wpAny _ _ (truthy y) _ _ _) rfl ry (wpAny_truthy_bool ?_)
  cases b with
  | true => exact ref_catch g0 N.x3 N.y3 N.z3 rfl rfl hfl hfr r t N.n1 N.n2 N.n4 N.n6 (by decide +kernel) v0 v1 hi fin
  | false => exact ref_catch g0 N.x1 N.y1 N.z1 rfl rfl hfl hfr r t N.n1 N.n2 N.n5 N.n6 (by decide +kernel) v0 v1 hi fin
end
end Mine
end
section
open PySem PySem.W PyProof.Rows PySem.SeqAt
set_option maxRecDepth 100000
namespace Mine
noncomputable def refRet : ME := .and (.cmp .eq (.var 60) (.int 2)) (.cmp .eq (.var 0) (.list []))
section
variable {C : Cx} {F : FT} {rank : Nat → Nat} {n fu : Nat} {k : Nat} {tw : Bool} {fm : Fm} {fz : Fz} {I : Im} {as : List Addr} {vars : Vars} {c : Cells} {s s' : Shared} {A : Around} {E : Value → Shared → Prop}
theorem bindOk_l {nl : NL} {x : Nat} {id : Str} (h : nms[x]? = some id) (hl : nl.lookup id = some .local) : bindOk nl x id = true := Bool.and_eq_true_iff.mpr ⟨decide_eq_true h, Bool.or_eq_true_iff.mpr (.inl (decide_eq_true hl))⟩
theorem varOk_l {nl : NL} {x : Nat} {id : Str} (h : nms[x]? = some id) (hl : nl.lookup id = some .local) : varOk nl x id = true := Bool.and_eq_true_iff.mpr ⟨decide_eq_true h, by rw [hl]; rfl⟩
theorem and_tt {a b : Bool} (h : a = true) (h' : b = true) : (a && b) = true := Bool.and_eq_true_iff.mpr ⟨h, h'⟩
theorem refRun_is {i : Nat} {j : Int} {b : Bool} (h1 : vget vars 60 = some (.d (.int j))) (h2 : vget vars 61 = some (.d (.bool b))) (h3 : vget vars 0 = some (.loc i)) (hi : c[i]? = some []) : refRun vars c = some (.next, vset 60 (.d (.int (j + 1))) vars, c) := by
  unfold refRun
  rw [h1, h2, h3]
  exact congrArg (Option.bind · fun l => if l.isEmpty then some (Fl.next, vset 60 (.d (.int (j + 1))) vars, c) else none) hi
noncomputable def refV (i : Nat) : Vars := vset 60 (.d (.int 2)) (vset 61 (.d (.bool false)) (vset 60 (.d (.int 1)) (vset 61 (.d (.bool true)) (vset 60 (.d (.int 0)) (vof [(0, .loc i)])))))
theorem ref_for {i : Nat} (hi : c[i]? = some []) : forRun refRun [61] false [.bool true, .bool false] (vset 60 (.d (.int 0)) (vof [(0, .loc i)])) c = some (.next, refV i, c) :=
  (congrArg (Option.bind · (turn' (forRun refRun [61] false [.bool false]))) (refRun_is (vars := vset 61 (.d (.bool true)) (vset 60 (.d (.int 0)) (vof [(0, .loc i)]))) rfl rfl rfl hi)).trans
    (congrArg (Option.bind · (turn' (forRun refRun [61] false []))) (refRun_is (vars := vset 61 (.d (.bool false)) (vset 60 (.d (.int 1)) (vset 61 (.d (.bool true)) (vset 60 (.d (.int 0)) (vof [(0, .loc i)]))))) rfl rfl rfl hi))
theorem ref_ret {i m : Nat} (hi : c[i]? = some []) : ex F rank fu (m + 4) (.ret (some refRet)) (refV i) c = some (.ret (.d (.bool true)), refV i, c) :=
  congrArg (fun o : Option (List D) => ((o.bind fun a => (some []).bind fun b => eqSeq a b).map fun r => (V.d (D.bool r), c)).map fun (y : V × Cells) => (Fl.ret y.1, refV i, y.2)) hi
theorem ref_body {outer : List Env} {b1 b3 : List PySem.Stmt} {sc1 sc3 : Scope} {q : Nat → Pos} {i m : Nat} {Q : Flow → Shared → Prop} (g0 : CxOk2 C) (N : RefN C fm.nl b1 sc1 b3 sc3 k)
    (hfl : C.fl = fm.env :: outer) (hfr : fm.env.frame = some fm.env.locals) (r : Room C (m + 4) A) (H : EvOk C F rank (m + 4)) (T : TrOk C F rank (m + 4)) (X : ExOk C F rank fu (m + 4)) (t : St C fm fz I as (vof [(0, .loc i)]) c s) (hi : c[i]? = some [])
    (qq : ∀ I' as' vars' s' x, I.le I' → Ext as as' → St C fm fz I' as' vars' c s' → VR I' as' (.d (.bool true)) x → Q (.ret x) s') : wpAny (model C.prog C.w) A (execs (refBody q) fm.env) Q E s := by
  have m60 : nms[60]? = some nRefd := by decide +kernel
  refine wpAny_execs_cons (X (k := 3) (tw := false) (ms := .assign 60 (.int 0)) (show (bindOk fm.nl 60 nRefd && true) = true from and_tt (bindOk_l m60 N.n2) rfl) (fun h => nomatch h) r t (fl := .next) (vars' := vset 60 (.d (.int 0)) (vof [(0, .loc i)])) (c' := c) rfl fun I1 as1 s1 f l1 e1 t1 fr => ?_)
  cases fr
  refine wpAny_execs_cons (for_okB (run := refRun) (k := 3) (tw := false) (it := .list [.bool true, .bool false]) (xs := [61]) (pat := false) ⟨g0, H, T, (fun h => nomatch h), r⟩ rfl (ref_turn g0 N hfl hfr (r.le (Nat.le_add_left 1 (m + 3)))) (show bindOk fm.nl 61 nGrst = true from bindOk_l (by decide +kernel) N.n3) t1
    (ds := [.bool true, .bool false]) (c0 := c) rfl (ref_for hi) fun I2 as2 s2 f l2 e2 t2 fr => ?_)
  cases fr
  refine wpAny_execs_cons (X (k := 6) (tw := false) (ms := .ret (some refRet)) (show ((varOk fm.nl 60 nRefd && true) && (varOk fm.nl 0 nHeap && true)) = true from and_tt (and_tt (varOk_l m60 N.n2) rfl) (and_tt (varOk_l (by decide +kernel) N.n1) rfl)) (fun h => nomatch h) r t2 (ref_ret hi) fun I3 as3 s3 f l3 e3 t3 fr => ?_)
  cases fr with
  | ret rx => exact qq I3 as3 _ s3 _ (l1.trans (l2.trans l3)) (e1.trans (e2.trans e3)) t3 rx
theorem refused_ok {m : Nat} (g0 : CxOk2 C) (gi : RefIs C) (hr : rank 23 = m + 5) (H : ∀ L, EvOk (C.fsw L) F rank (m + 4) ∧ TrOk (C.fsw L) F rank (m + 4)) (X : ∀ L, ExOk (C.fsw L) F rank fu (m + 4)) (hF : ∀ {args c r}, F 23 args c = some r → ∃ i, args = [.loc i] ∧ c[i]? = some [] ∧ r = (.d (.bool true), c)) : CallOk C F rank 23 := by
  intro A fz I as c s args vals v c' Q E id' a r fi g rv he h0 h1 h2 q
  cases (show fnms[23 - 1]? = some (Str.ofString "_law_refused") by decide +kernel).symm.trans h1
  obtain ⟨i, rfl, hi, hr2⟩ := hF he
  cases hr2
  cases gi with | mk qq b1 sc1 b3 sc3 sc k N hx hc =>
  rw [hr] at r
  refine call_in g0 hx (chkF_is hc) (deep4 r.2.1) fi g rv rfl h2 fun fm s₁ hfm t => ?_
  rw [← hfm.names] at N
  refine ref_body (C := C.fsw (fm.env :: C.fl)) (g0.fsw _) (N.fsw _) rfl hfm.frame (r.deeper fm.env) (H _).1 (H _).2 (X _) t hi fun I' as' vars' s' x l e t' rx => ?_
  have g1 := (t'.toGd.fout fun b hb => Option.some.inj (hfm.frame.symm.trans hb) ▸ (t'.mu _ t'.ok.loc).2.1).cutCells (k := as.length)
  obtain ⟨x, rfl⟩ := e
  rw [List.take_left, g.cel.length, List.take_length] at g1
  exact q I' s' _ l g1 rx
end
end Mine
end
section
open PySem PySem.W PyProof.Rows PySem.SeqAt
set_option maxRecDepth 100000
namespace Mine
noncomputable def twCode : Array Nat := #[14, 14, 4, 1, 1, 9, 0, 64, 0, 1342177280, 0, 0, 0, 0, 0, 17, 0, 13, 11, 9, 0, 64, 0, 1342177280, 0, 0, 0, 0, 0, 17, 1, 1]
theorem tw_inSet {c : Nat} (h : c = 40 ∨ c = 41) (seen : Sre.Seen) : ∃ seen', Sre.inSet twCode c twCode.size 5 true seen = .ok (false, seen') := by
  rcases h with rfl | rfl <;> exact ⟨_, rfl⟩
theorem tw_admitted (m : Sre.M) (hc : m.code = twCode) (ht : ∀ i, i < m.lim → m.text.getD i 0 = 40 ∨ m.text.getD i 0 = 41) : ∀ (fuel s : Nat) (seen : Sre.Seen), ∃ seen', Sre.M.admitted m fuel s seen = .ok (none, seen')
  | 0, s, seen => ⟨_, rfl⟩
  | fuel + 1, s, seen => by
    unfold Sre.M.admitted
    by_cases h : s ≥ m.lim
    · rw [if_pos h]; exact ⟨_, rfl⟩
    · rw [if_neg h]
      obtain ⟨seen', e⟩ := tw_inSet (ht s (by omega)) seen
      rw [hc, e]
      exact tw_admitted m hc ht fuel (s + 1) seen'
theorem tw_search {text : Array Nat} (ht : ∀ i, i < text.size → text.getD i 0 = 40 ∨ text.getD i 0 = 41) (groups : Nat) :
    (Sre.forSearch twCode text groups 0 text.size false).answer = some false ∧ (Sre.forSearch twCode text groups 0 text.size false).frames = [] ∧ (Sre.forSearch twCode text groups 0 text.size false).outcome = none := by
  have key : ∀ m : Sre.M, m.code = twCode → m.text = text → m.lim = text.size → m.frames = [] → m.outcome = none → (m.attemptFrom 0 true).answer = some false ∧ (m.attemptFrom 0 true).frames = [] ∧ (m.attemptFrom 0 true).outcome = none := by
    intro m h1 h2 h3 h4 h5
    unfold Sre.M.attemptFrom
    have hf : m.hasFirstSet = true := by unfold Sre.M.hasFirstSet; rw [h1]; rfl
    rw [hf]
    obtain ⟨seen', e⟩ := tw_admitted m h1 (by rw [h2, h3]; exact ht) (m.lim + 1 - 0) 0 m.seen
    simp only [Bool.not_true, Bool.false_eq_true, if_false]
    rw [e]
    exact ⟨rfl, h4, h5⟩
  unfold Sre.forSearch
  simp only []
  split
  · exact ⟨rfl, rfl, rfl⟩
  · exact key _ rfl rfl rfl rfl rfl
section
variable {M : Model} {A : Around} {E : Value → Shared → Prop} {s : Shared}
theorem wp_each {α : Type} {f : α → PUnit → Sem (ForInStep PUnit)} (hf : ∀ (x : α) (Q : ForInStep PUnit → Shared → Prop), Q (.yield ⟨⟩) s → wpAny M A (f x ⟨⟩) Q E s) : ∀ (l : List α) {Q : PUnit → Shared → Prop}, Q ⟨⟩ s → wpAny M A (forIn l ⟨⟩ f) Q E s
  | [], Q, h => by rw [List.forIn_nil]; exact wpAny_pure h
  | x :: r, Q, h => by
    rw [List.forIn_cons]
    exact wpAny_bind (hf x _ (wp_each hf r h))
theorem wp_run {m : Sre.M} {Q : Option Sre.M → Shared → Prop} (ha : m.answer = some false) (hf : m.frames = []) (ho : m.outcome = none) (q : Q none s) : wpAny M A (Builtin.Re.reRunToEnd m) Q E s := by
  unfold Builtin.Re.reRunToEnd
  have hs : m.step = { m with outcome := some .failed } := by
    unfold Sre.M.step
    rw [ho]
    simp only [Option.isSome_none, Bool.false_eq_true, if_false, ha, hf]
  have hr : m.runFor Builtin.Re.reTurnSteps = { m with outcome := some .failed } := by
    show m.runFor 4 = _
    unfold Sre.M.runFor
    rw [ho]
    simp only [Option.isSome_none, Bool.false_eq_true, if_false, hs]
    unfold Sre.M.runFor
    simp
  refine wpAny_bind (Q := _) ?_
  have hd : Builtin.Re.reDrive (2 ^ 64) m = pure { m with outcome := some .failed } := by
    rw [show (2 : Nat) ^ 64 = 18446744073709551615 + 1 from rfl]
    rw [Builtin.Re.reDrive]
    simp only [hr, Option.isSome_some, if_true]
  rw [hd]
  refine wpAny_pure (wpAny_bind (wp_each (fun x Q h => ?_) _ ?_))
  · simp only []
    split
    · exact wpAny_bind (wpAny_rule (wpAny_pure h))
    · exact wpAny_pure h
  · exact wpAny_pure q
end
end Mine
end
section
open PySem PySem.W PyProof.Rows PySem.SeqAt
set_option maxRecDepth 100000
namespace Mine
noncomputable def TwPat (h : Heap) (P : Addr) : Prop :=
  ∃ (fs : Array Value) (T : Addr) (ws : Array Value) (n : Nat), h.get? P = some { cls := .type "re.Pattern", data := .fields fs } ∧ fs.getD 5 .none = .ref T ∧ Builtin.Re.reRawNat (fs.getD 6 .none) = 0 ∧
    h.get? T = some { cls := .type "tuple", data := .seq ws n } ∧ (ws.map Builtin.Re.reRawOf).map (·.toNat) = twCode
theorem TwPat.keeps {h h' : Heap} {P : Addr} (x : TwPat h P) (k : ∀ b o, h.get? b = some o → h'.get? b = some o) : TwPat h' P :=
  let ⟨fs, T, ws, n, h1, h2, h3, h4, h5⟩ := x; ⟨fs, T, ws, n, k _ _ h1, h2, h3, k _ _ h4, h5⟩
theorem TwPat.neL {h : Heap} {P L : Addr} {its : Array Value} {n : Nat} (x : TwPat h P) (e : h.get? L = some { cls := .type "list", data := .seq its n }) {h' : Heap} (k : ∀ b o, b ≠ L → h.get? b = some o → h'.get? b = some o) : TwPat h' P := by
  obtain ⟨fs, T, ws, m, h1, h2, h3, h4, h5⟩ := x
  exact ⟨fs, T, ws, m, k _ _ (fun q => by rw [q, e] at h1; simp at h1) h1, h2, h3, k _ _ (fun q => by rw [q, e] at h4; simp at h4) h4, h5⟩
section
variable {M : Model} {A : Around} {E : Value → Shared → Prop} {s : Shared}
theorem wp_target {P : Addr} {x : Str} {tx : Tok} {Q : Builtin.Re.ReTarget → Shared → Prop} (hP : TwPat s.heap P) (q : ∀ g, Q { pattern := .ref P, string := .str x tx, code := twCode, text := x.cps, kind := 0, groups := g, pos := 0, lim := x.cps.size } s) :
    wpAny M A (Builtin.Re.reWholeTarget (.ref P) (.str x tx)) Q E s := by
  obtain ⟨fs, T, ws, n, h1, h2, h3, h4, h5⟩ := hP
  unfold Builtin.Re.reWholeTarget Builtin.Re.reTextOf Builtin.Re.reRawItems
  refine wpAny_bind (wpAny_fieldsOf h1 rfl ?_)
  refine wpAny_bind (wpAny_bind (m := asStr? (.str x tx)) (wpAny_pure ?_))
  dsimp only
  refine wpAny_pure ?_
  dsimp only
  rw [h3]
  simp only [beq_self_eq_true, Bool.true_and, show ((0 : Nat) == 1) = false from rfl, Bool.false_eq_true, if_false, Bool.false_and]
  unfold Builtin.Re.reNoCollectionInside
  refine wpAny_bind ?_
  rw [if_neg (by decide)]
  refine wpAny_pure ?_
  rw [h2]
  refine wpAny_bind (wpAny_bind (wpAny_seqItems h4 rfl ?_))
  refine wpAny_pure (wpAny_pure ?_)
  rw [show (Option.getD (some ws) #[]) = ws from rfl, h5]
  exact q _
end
theorem mk_ext {x : Str} : (⟨x.cps.extract 0 x.cps.size⟩ : Str) = x := by simp
noncomputable abbrev loopArgs (P L : Addr) (x : Str) (tx : Tok) (f : Value) : Args := ⟨[.ref P, .str x tx, f, rawInt 1, rawInt 0, rawInt 0, rawInt 0, rawInt 0, .bool false, .ref L, .bool false], []⟩
theorem tw_loop (P L : Addr) (x : Str) (tx : Tok) (f : Value) (n : Nat) (hx : ∀ i, i < x.cps.size → x.cps.getD i 0 = 40 ∨ x.cps.getD i 0 = 41) (hl : x.length ≤ 1000000) :
    Meets (Builtin.«re.Pattern.sub.loop» (loopArgs P L x tx f)) (fun A R s => TwPat s.heap P ∧ s.heap.get? L = some { cls := .type "list", data := .seq #[] n } ∧
      ∀ h' t' k, (∀ b o, b ≠ L → s.heap.get? b = some o → h'.get? b = some o) → R (.ok (.ret (.str x t'))) { s with heap := h', toks := k }) := by
  intro prog w A R s ⟨hP, hL, q⟩
  unfold Builtin.«re.Pattern.sub.loop»
  dsimp only [loopArgs]
  have hl' : x.cps.size ≤ 1000000 := hl
  refine wpAny_bind (wp_target hP fun g => ?_)
  simp only [rawInt]
  refine wpAny_bind ?_
  rw [if_neg (by decide)]
  unfold Builtin.Re.reNextFound
  obtain ⟨a1, a2, a3⟩ := tw_search hx g
  refine wp_run a1 a2 a3 ?_
  dsimp only
  have hz : x.length ≤ sizeLine := Nat.le_trans hl (by decide +kernel)
  by_cases h0 : 0 < x.cps.size
  · rw [if_pos (by simpa using h0)]
    unfold Builtin.Re.reSlice
    simp only [beq_self_eq_true, if_true]
    refine wpAny_bind (wpAny_mkStr ?_ (by simpa [Str.length] using hz))
    refine wpAny_bind (wpAny_updateSeq (o := { cls := .type "list", data := .seq #[] n }) hL rfl ?_ (by decide) (by simp))
    refine wpAny_bind (wpAny_mkStr ?_ (by simp [Str.length]))
    have hu := Heap.get?_update_self (Obj.mapSeq fun xs => xs.push (.str ⟨x.cps.extract (Int.toNat 0) x.cps.size⟩ s.toks)) hL rfl
    refine wpAny_bind (wpAny_seqItems (s := _) hu rfl ?_)
    rw [if_neg (by simp)]
    have hx2 : (⟨x.cps.extract (Int.toNat 0) x.cps.size⟩ : Str) = x := by simp
    rw [hx2] at hu ⊢
    refine wpAny_bind (join_list (ys := [x]) ⟨_, hu, rfl, _, rfl⟩ ?_ ?_ fun t' k => ?_)
    · simp; exact .cons _ _ .nil
    · simp [Str.length]; omega
    · rw [if_neg (by decide)]
      have e : Txt.join ⟨x.cps.extract 0 0⟩ [x] = x := by
        unfold Txt.join
        rw [StrLaws.glued_eq_join]
        obtain ⟨c⟩ := x
        simp [Str.join]
      rw [e]
      exact wpAny_pure (q _ t' k fun b o hb eb => (Heap.get?_update_other _ _ (Ne.symm hb)).trans eb)
  · rw [if_neg (by simpa using h0)]
    have hx0 : x = ⟨x.cps.extract 0 0⟩ := by
      have : x.cps.size = 0 := by omega
      have := Array.eq_empty_of_size_eq_zero this
      obtain ⟨c⟩ := x
      simp at this; subst this; simp
    unfold Builtin.Re.reSlice
    simp only [beq_self_eq_true, if_true]
    refine wpAny_bind (wpAny_mkStr ?_ (by simp [Str.length]))
    refine wpAny_bind (wpAny_seqItems (s := _) hL rfl ?_)
    rw [if_pos (by simp)]
    refine wpAny_bind (wpAny_pure ?_)
    rw [if_neg (by decide)]
    rw [← hx0]
    exact wpAny_pure (q _ _ _ fun b o hb eb => eb)
end Mine
end
section
open PySem PySem.W PyProof.Rows PySem.SeqAt
set_option maxRecDepth 100000
namespace Mine
theorem plain_tw_loop : plainId "re.Pattern.sub.loop" = true := by decide +kernel
theorem entry_tw_loop : entryFor table "re.Pattern.sub.loop" = some Builtin.«re.Pattern.sub.loop» := entryFor_of_fast (by kernel_rfl)
theorem entry_tw_sub : entryFor table "re.Pattern.sub" = some Builtin.«re.Pattern.sub» := entryFor_of_fast (by kernel_rfl)
theorem fn_call : typeLookup (.type "function") "__call__" = pure (some (.builtin "function.__call__")) := by rw [typeLookup_type, builtinLookup_eq_fast]; kernel_rfl
theorem tw_named (a b : Value) : Builtin.Re.reNamed "re.Pattern.sub" "sub" ["repl", "string", "count"] 2 [a, b] [] = pure [some a, some b, none] := by rfl
section
variable {M : Model} {A : Around} {E : Value → Shared → Prop} {s : Shared}
theorem wp_notHeld {x : Str} {tx : Tok} {id : String} {Q : Unit → Shared → Prop} (q : Q () s) : wpAny M A (Builtin.Re.reNotHeld id (.str x tx)) Q E s := by
  unfold Builtin.Re.reNotHeld
  refine wpAny_bind (wpAny_isInstance (typeIs_str _ _ _) (isSubtype_of_subB (b := false) (by decide +kernel)) ?_)
  simp only [Bool.false_eq_true, if_false]
  exact wpAny_pure q
end
theorem tw_sub (P f : Addr) (x : Str) (tx : Tok) (hx : ∀ i, i < x.cps.size → x.cps.getD i 0 = 40 ∨ x.cps.getD i 0 = 41) (hl : x.length ≤ 1000000) :
    Meets (Builtin.«re.Pattern.sub» ⟨[.ref P, .ref f, .str x tx], []⟩) (fun A R s => TwPat s.heap P ∧ s.TypeIs (.ref f) "function" ∧
      ∀ h' t' k, (∀ b o, s.heap.get? b = some o → h'.get? b = some o) → R (.ok (.ret (.str x t'))) { s with heap := h', toks := k }) := by
  intro prog w A R s ⟨hP, hf, q⟩
  unfold Builtin.«re.Pattern.sub» Builtin.Re.reSubstitute
  dsimp only
  rw [tw_named]
  refine wpAny_bind (wpAny_pure ?_)
  dsimp only
  refine wpAny_bind (wpAny_pure ?_)
  refine wpAny_bind (wpAny_specialOf hf fn_call ?_)
  simp only [Option.isSome_some, if_true]
  refine wpAny_bind (wpAny_pure ?_)
  refine wpAny_bind (wpAny_pure ?_)
  refine wpAny_bind (wpAny_holding (wp_target hP fun g => ?_))
  dsimp only
  rw [if_pos (by decide)]
  refine wpAny_bind (wp_notHeld ?_)
  refine wpAny_bind (wpAny_newList ?_ (by simp))
  have z := Heap.get?_push_size s.heap (o := { cls := .type "list", data := .seq #[] }) rfl
  refine wpAny_pure ⟨plainId_quiet plain_tw_loop _, codeAny_builtin entry_tw_loop ?_⟩
  rw [Around.under_plainId plain_tw_loop]
  refine tw_loop P s.heap.objs.size x tx (.ref f) 0 hx hl prog w A R _ ⟨hP.keeps fun b o e => Heap.get?_push_of_some _ e, z, fun h' t' k kp => ?_⟩
  exact q h' t' k fun b o e => kp b o (Nat.ne_of_lt (Heap.lt_size e)) (Heap.get?_push_of_some _ e)
end Mine
end
section
open PySem PySem.W PyProof.Rows PySem.SeqAt
set_option maxRecDepth 100000
namespace Mine
theorem plainAttrs_pat : PlainAttrs "re.Pattern" :=
  ⟨⟨"object.__getattribute__", by rw [typeLookup_type, builtinLookup_eq_fast]; kernel_rfl, by decide +kernel⟩, by rw [typeLookup_type, builtinLookup_eq_fast]; kernel_rfl⟩
theorem slot_pat_sub : Slot "re.Pattern" "sub" "re.Pattern.sub" :=
  .of (owner := "re.Pattern") (n := "sub") (by rw [typeLookup_type, builtinLookup_eq_fast]; kernel_rfl) (by decide +kernel) (by decide +kernel) (by decide +kernel)
    (by first | exact .inl (by decide +kernel) | exact .inr (by decide +kernel)) (by rw [isSubtype_type]; kernel_rfl)
theorem type_pat_sub : typeOf (.builtin "re.Pattern.sub") = pure (.type "method_descriptor") := by show builtinType _ = _; rw [builtinType_eq_fast]; kernel_rfl
theorem args_pat_sub (a b c : Value) : argsOk "re.Pattern.sub" ⟨[a, b, c], []⟩ := by
  unfold argsOk; rw [signature?_of (id := "re.Pattern.sub") (n := ['b', 'u', 's']) (o := "re.Pattern".toList.reverse) (rows := Manifest.sig_re_Pattern) (by kernel_rfl) (by kernel_rfl)]; kernel_rfl
end Mine
end
section
open PySem PySem.W PyProof.Rows PySem.SeqAt
set_option maxRecDepth 100000
namespace Mine
noncomputable def nTw : Str := Str.ofString "_twin_re_1"
structure LamIs (C : Cx) : Prop where
  p0 : C.ps₀ = #[]
  line : C.lp.line = 181
  col : C.lp.col = 39
  pat : ∃ P0, C.mg nTw = some (.ref P0) ∧ TwPat C.h₀ P0
  gP : mainGlobals ≠ C.P
  bm : C.h₀.BuiltinsAt C.mg C.P
theorem LamIs.fsw {C : Cx} (x : LamIs C) (L : List Env) : LamIs (C.fsw L) := ⟨x.p0, x.line, x.col, x.pat, x.gP, x.bm⟩
theorem LamIs.gsw {C : Cx} (x : LamIs C) (gs : Nat → Option GenState) : LamIs (C.gsw gs) := ⟨x.p0, x.line, x.col, x.pat, x.gP, x.bm⟩
section
variable {C : Cx} {F : FT} {rank : Nat → Nat} {n fu : Nat} {k : Nat} {tw : Bool} {fm : Fm} {fz : Fz} {I : Im} {as : List Addr} {vars : Vars} {c : Cells} {s s' : Shared} {A : Around} {E : Value → Shared → Prop}
theorem Gd.rdP (g : Gd C fz I as c s) : I.rd C.P = none := by
  cases e : fz C.P with
  | none => exact absurd e g.tfz
  | some o => exact g.dj _ _ e
theorem St.tabStep (t : St C fm fz I as vars c s) {h' : Heap} {tk : Nat} {ps : Array Value} (k : ∀ b o, b ≠ C.P → s.heap.get? b = some o → h'.get? b = some o) (hP : h'.get? C.P = some (tabObj ps)) (ht : TabOk C I.rd ps) (hp : 0 < tk) : St C fm fz I as vars c { s with heap := h', toks := tk } where
  rd b o e := k b o (fun q => by rw [q, t.toGd.rdP] at e; cases e) (t.rd b o e)
  fr b o hb e := (t.fr b o hb e).keep fun o' => k b o' hb
  dj := t.dj
  fas := t.fas
  base := t.base
  cel := t.cel.mono (Im.le.refl I) (fun b hb o e => k b o (t.toGd.asP hb) e) t.cel.noRd
  gens := t.gens
  os := t.os
  pos := hp
  tfz := t.tfz
  tab := ⟨ps, hP, ht⟩
  ok := t.ok
  mu b hb := let ⟨q1, q2, q3, o, q4, q5⟩ := t.mu b hb; ⟨q1, q2, q3, o, k b o (t.neP q2) q4, q5⟩
  vr := by
    obtain ⟨m, ⟨o, es, ep, e1, e2⟩, v⟩ := t.vr
    refine ⟨m, ⟨o, es, ep, k _ _ (t.neP (t.mu _ t.ok.loc).2.1) e1, e2⟩, fun x w nm kk hx hn hk hv => ?_⟩
    obtain ⟨y, r, z⟩ := v x w nm kk hx hn hk hv
    refine ⟨y, r, z.keep fun c hc o hd e => ⟨o, k c o (t.notTab e fun ps h => by obtain ⟨v, hv⟩ := hd; rw [h] at hv; cases hv) e, rfl⟩⟩
  fls := t.fls
theorem lam_made {la : Arguments} {lb : PySem.Expr} {sc : Scope} {p1 : Pos} {Q : Value → Shared → Prop} (g0 : CxOk2 C) (li : LamIs C) (hcode : ∃ c, fm.env.code = .ref c ∧ CodeHd C.h₀ c C.P) (t : St C fm fz I as vars c s) (hl : lamOk la sc p1 = true)
    (q : ∀ I' s' f o, I.le I' → St C fm fz I' as vars c s' → I'.rd f = some o → o.cls = .type "function" → Q (.ref f) s') : wpAny (model C.prog C.w) A (eval (.Lambda la lb sc p1) fm.env) Q E s := by
  simp only [lamOk, Bool.and_eq_true, decide_eq_true_eq, List.isEmpty_iff] at hl
  obtain ⟨⟨⟨⟨d1, d2⟩, d3⟩, d4⟩, d5⟩ := hl
  have hdef : defaultsOf la fm.env = ([], []) := by
    obtain ⟨a1, a2, a3, a4, a5, a6, a7⟩ := la
    simp only at d1 d2
    subst d1; subst d2; rfl
  obtain ⟨cc, hcc, hcd⟩ := hcode
  have hcl : closureFor sc fm.env = pure [] := by
    refine closure_of ?_
    have key : ∀ (l : NL), (l.all fun q => !(q.2 == .free)) = true → ∀ acc, clOf fm.env l acc = some acc := by
      intro l
      induction l with
      | nil => intro _ acc; rfl
      | cons p r ih =>
        intro h acc
        simp only [List.all_cons, Bool.and_eq_true, Bool.not_eq_true'] at h
        obtain ⟨n, k⟩ := p
        simp only [clOf, h.1, Bool.false_eq_true, if_false]
        exact ih h.2 acc
    exact key _ d3 []
  have kp : ∀ b o, C.h₀.get? b = some o → s.heap.get? b = some o := fun b o e => t.rd b o (t.base b o e)
  obtain ⟨ps, hps, htab⟩ := t.tab
  have hbm : s.heap.BuiltinsAt C.mg C.P := by
    obtain ⟨bm, o, b1, b2, b3, b4, b5, b6⟩ := li.bm
    exact ⟨bm, o, b1, b2, b3, b4, kp _ _ b5, b6⟩
  have hgl : s.heap.Ns mainGlobals C.mg := t.toGd.glob (g := g0.toCxOk)
  refine kla_eval hdef (wpAny_pos t.pos ?_)
  rcases htab with h | ⟨c', h⟩
  · rw [li.p0] at h
    subst h
    refine kla_makeFunction (ps := #[]) (c := cc) (P := C.P) (mg := C.mg) hcl t.ok.glob hgl hcc (hcd.keeps kp) hps trivial rfl li.gP hbm fun c' ctv h' tk hx hge hlt hrec htb => ?_
    intro hp
    have t1 : St C fm fz I as vars c { s with heap := h', toks := tk } := t.tabStep hx htb (.inr ⟨c', by rw [li.p0, d4, d5, li.line, li.col]⟩) hp
    obtain ⟨l2, t2, e2⟩ := t1.push (kla_obj "<lambda>" (fm.env.qual ++ "<lambda>") la lb sc [] ((C.mg "__name__").getD .none) c' ctv) rfl (k := tk) hp
    exact q _ _ _ _ l2 t2 e2 rfl
  · rw [li.p0] at h
    subst h
    refine kla_makeFunctionHit (cv := .ref c') (c := cc) (P := C.P) (mg := C.mg) hcl t.ok.glob hgl hcc (hcd.keeps kp) hps (by simp [TriplesOk, rawInt]) (by simp [codeAmong, rawInt, d4, d5, li.line, li.col]) hbm fun ctv h' tk hk hsz => ?_
    intro hp
    have t1 : St C fm fz I as vars c { s with heap := h', toks := tk } := t.heap_tok hk hp
    obtain ⟨l2, t2, e2⟩ := t1.push { cls := .type "function", data := .func (kla_fn "<lambda>" (fm.env.qual ++ "<lambda>") la lb sc [] ((C.mg "__name__").getD .none) (.ref c') ctv) } rfl (k := tk) hp
    exact q _ _ _ _ l2 t2 e2 rfl
theorem tw_ok (g0 : CxOk2 C) (li : LamIs C) (hcode : ∃ c, fm.env.code = .ref c ∧ CodeHd C.h₀ c C.P) : TwOk C fm := by
  intro A fz I as vars c c1 s Q E id p ap pos p1 la lb sc y t r st hid hgl hlam hstar hline hlen hall hy q
  subst hid
  obtain ⟨P0, hP0, hpat⟩ := li.pat
  refine Call_method2 rfl (by rw [show starEach [PySem.Expr.Lambda la lb sc p1, y] fm.env = (false, eval (.Lambda la lb sc p1) fm.env) :: starEach [y] fm.env from rfl, hstar]) hline (eval_glob g0.toCxOk st hgl hP0 (by decide +kernel) ?_)
  have kp : ∀ {I' : Im} {vars' : Vars} {c' : Cells} {s' : Shared}, St C fm fz I' as vars' c' s' → ∀ b o, C.h₀.get? b = some o → s'.heap.get? b = some o := fun t b o e => t.rd b o (t.base b o e)
  have hpt := fun {I' : Im} {vars' : Vars} {c' : Cells} {s' : Shared} (t : St C fm fz I' as vars' c' s') => hpat.keeps (kp t)
  have typ : ∀ {s' : Shared}, TwPat s'.heap P0 → s'.TypeIs (.ref P0) "re.Pattern" ∧ ∃ ob, s'.heap.get? P0 = some ob ∧ ob.dict = none := fun h => let ⟨fs, T, ws, n, h1, _⟩ := h; ⟨⟨_, h1, rfl⟩, _, h1, rfl⟩
  refine ⟨"re.Pattern", "re.Pattern.sub", plainAttrs_pat, slot_pat_sub, type_pat_sub, (typ (hpt st)).1, fun a e => by cases e; exact (typ (hpt st)).2, ?_⟩
  refine Calls.callWith_builtin rfl (Calls.evalArgs_plain (Calls.spliced_cons (lam_made g0 li hcode st hlam fun I1 s1 f o l1 t1 e1 hf => Calls.spliced_cons (hy l1 t1 fun I2 s2 x l2 t2 rx => Calls.spliced_nil ?_))))
  simp only [DR] at rx
  obtain ⟨hlx, tx, rfl⟩ := rx
  refine wpAny_pos t2.pos (call_meets slot_pat_sub (typ (hpt t2)).1 entry_tw_sub (args_pat_sub _ _ _) (tw_sub P0 f (mkS t) tx (fun i hi => ?_) (by rw [mkS_length]; exact hlen)) ⟨hpt t2, ⟨o, t2.rd _ _ (l2.2 _ _ e1), hf⟩, fun h' t' k hk hp => ?_⟩)
  · have hi' : i < t.length := by simpa [mkS] using hi
    have := List.all_eq_true.mp hall (t[i]) (List.getElem_mem hi')
    simp only [Bool.or_eq_true, beq_iff_eq] at this
    simpa [mkS, Array.getD, hi'] using this
  · exact q I2 _ _ (l1.trans l2) (t2.heap_tok hk hp) (by simp only [DR]; exact ⟨hlx, t', rfl⟩)
end
end Mine
end
section
open PySem PySem.W PySem.Flt PyProof.Rows PySem.SeqAt
set_option maxRecDepth 100000
namespace Mine
noncomputable def qTwN : Str := Str.ofString "_twin_re_1"
noncomputable def qMapN : Str := Str.ofString "_special_chars_map"
noncomputable def keyI (e : DictEntry) : Int := match e.key with | .int i _ => i | _ => 0
noncomputable def entT (e : DictEntry) : Bool := match e.key with | .int i _ => e.hash == hashInt i | _ => false
noncomputable def nodupB : List Int → Bool
  | [] => true
  | x :: r => !(r.contains x) && nodupB r
noncomputable def valT : Value → Bool
  | .str x _ => x.cps == #[92, 40]
  | _ => false
noncomputable def mapT (h : Heap) : Option Value → Bool
  | some (.ref a) => (match h.get? a with
    | some ⟨.type c, none, .dict es ep, sl⟩ => c == "dict" && sl.size == 0 && es.toList.all entT && nodupB (es.toList.map keyI) && (match es.toList.find? (fun e => keyI e == 40) with | some e => valT e.val | none => false)
    | _ => false)
  | _ => false
noncomputable def twRec : PatRec := ⟨qTwN, twCode.toList, 1, 0⟩
noncomputable def twXt (s : Shared) : Bool := mapT s.heap (s.heap.nsMap mainGlobals qMapN) && patTest s.heap twRec (s.heap.nsMap mainGlobals qTwN)
structure TwX (mg : Str → Option Value) (h : Heap) : Prop where
  pat : ∃ P0, mg qTwN = some (.ref P0) ∧ TwPat h P0
  map : ∃ a kvs u, mg qMapN = some (.ref a) ∧ (∀ (prog : Program) (w : World), h.DictOf (intKind prog w) a kvs) ∧ valueAt kvs (40 : Int) = some (.str ⟨#[92, 40]⟩ u)
theorem nodupB_of : ∀ {l : List Int}, nodupB l = true → l.Nodup
  | [], _ => List.nodup_nil
  | x :: r, h => by
    simp only [nodupB, Bool.and_eq_true, Bool.not_eq_true', List.contains_eq_mem, decide_eq_false_iff_not] at h
    exact List.nodup_cons.mpr ⟨h.1, nodupB_of h.2⟩
theorem pairs_of (prog : Program) (w : World) : ∀ {l : List DictEntry}, l.all entT = true → Pairs (intKind prog w) l (l.map fun e => (keyI e, e.val))
  | [], _ => .nil
  | e :: r, h => by
    simp only [List.all_cons, Bool.and_eq_true] at h
    refine .cons ?_ rfl (pairs_of prog w h.2)
    have h1 := h.1
    unfold entT at h1
    show Value.isInt (keyI e) e.key = true
    unfold keyI
    split at h1
    · rename_i i t he; rw [he]; simp [Value.isInt]
    · cases h1
theorem map_of_test {h : Heap} {v : Option Value} (x : mapT h v = true) : ∃ a kvs u, v = some (.ref a) ∧ (∀ (prog : Program) (w : World), h.DictOf (intKind prog w) a kvs) ∧ valueAt kvs (40 : Int) = some (.str ⟨#[92, 40]⟩ u) := by
  unfold mapT at x
  split at x <;> try cases x
  rename_i a
  split at x <;> try cases x
  rename_i c es ep sl hg
  simp only [Bool.and_eq_true, beq_iff_eq] at x
  obtain ⟨⟨⟨⟨rfl, h2⟩, h3⟩, h4⟩, h5⟩ := x
  have h2' : sl = #[] := Array.eq_empty_of_size_eq_zero h2
  subst h2'
  split at h5 <;> try cases h5
  rename_i e he
  have hv : ∃ u, e.val = .str ⟨#[92, 40]⟩ u := by
    unfold valT at h5
    split at h5 <;> try cases h5
    rename_i y t hy
    have : y.cps = #[92, 40] := by simpa using h5
    obtain ⟨c⟩ := y
    simp only at this; subst this
    exact ⟨t, hy⟩
  obtain ⟨u, hv⟩ := hv
  refine ⟨a, es.toList.map fun e => (keyI e, e.val), u, rfl, fun prog w => ⟨_, es, ep, hg, ⟨rfl, rfl, rfl⟩, rfl, fun e he => ?_, pairs_of prog w h3, ?_⟩, ?_⟩
  · have h1 := List.all_eq_true.mp h3 e (by simpa using he)
    unfold entT at h1
    split at h1 <;> try cases h1
    rename_i i t hk
    exact ⟨i, by rw [hk]; show Value.isInt i (.int i t) = true; simp [Value.isInt], by show e.hash = hashInt i; simpa using h1⟩
  · rw [List.map_map]
    exact nodupB_of h4
  · unfold valueAt
    rw [List.find?_map]
    have : ((fun kv : Int × Value => decide (kv.1 = 40)) ∘ fun e : DictEntry => (keyI e, e.val)) = fun e => keyI e == 40 := by
      funext e; simp only [Function.comp]; rw [Bool.eq_iff_iff]; simp
    rw [this, he]
    simp [hv]
theorem twX_of (s : Shared) (x : twXt s = true) : TwX (s.heap.nsMap mainGlobals) s.heap := by
  simp only [twXt, Bool.and_eq_true] at x
  obtain ⟨a, e, fs, T, ws, n, h1, h2, h3, h4, h5, h6⟩ := isPattern_of_test x.2
  refine ⟨⟨a, e, fs, T, ws, n, h1, h2, h4, h5, ?_⟩, map_of_test x.1⟩
  apply Array.toList_inj.mp
  exact h6
theorem TwX.keeps (mg : Str → Option Value) (h h' : Heap) (x : TwX mg h) (hk : ∀ b o, h.get? b = some o → h'.get? b = some o) : TwX mg h' := by
  obtain ⟨⟨P0, e, p⟩, ⟨a, kvs, u, e2, d, v⟩⟩ := x
  exact ⟨⟨P0, e, p.keeps hk⟩, ⟨a, kvs, u, e2, fun prog w => (d prog w).keep hk, v⟩⟩
end Mine
end
section
open PySem PySem.W PyProof.Rows
set_option maxRecDepth 1000000
namespace Mine
noncomputable def qK : List Nat := [0, 2, 3, 4, 5, 6, 7, 8, 9, 11, 12, 13, 15, 16, 18, 19, 21, 22, 24, 25, 26, 27, 28, 29, 30, 31, 32, 33, 34, 35]
noncomputable def qV : Program := view PySem.Challenge.pw_kl0421_01 qK
noncomputable def qL : List Str := [Str.ofString "_twin_re_1", Str.ofString "_special_chars_map"]
noncomputable abbrev qR : OpenRow := PySem.Challenge.rw_kl0421_01.row
noncomputable abbrev hlP (w : World) : Prop := (openEnds treeTable qR.prog w 4598).map (fun s => (openSeen qV qL (importedModules qR.prog.main.body) (fun s => xlAt qV [] s && recOk (RowW.records qR.toRowW) s && twXt s) true s, Hook.none.obs s)) = some (openGood qV qL, Hook.none.val w)
set_option maxHeartbeats 0 in
theorem hl1 (w : World) : hlP ((w.withFollow "special-get-raises" false).withFollow "comprehension-iter-twice" false) := by
  unfold hlP openEnds fencedOpening topFrom
  rw [PySem.W.Fast.te4187177175401517315, PySem.W.Fast.te10274390034422433532, PySem.W.Fast.te14289696077712309145, PySem.W.Fast.te14082659384304107361, PySem.W.Fast.te1435165496053646825, PySem.W.Fast.te14364793385576792824]
  kernel_rfl
set_option maxHeartbeats 0 in
theorem hl2 (w : World) : hlP ((w.withFollow "special-get-raises" true).withFollow "comprehension-iter-twice" false) := by
  unfold hlP openEnds fencedOpening topFrom
  rw [PySem.W.Fast.te4187177175401517315, PySem.W.Fast.te10274390034422433532, PySem.W.Fast.te14289696077712309145, PySem.W.Fast.te14082659384304107361, PySem.W.Fast.te1435165496053646825, PySem.W.Fast.te14364793385576792824]
  kernel_rfl
set_option maxHeartbeats 0 in
theorem hl3 (w : World) : hlP ((w.withFollow "special-get-raises" false).withFollow "comprehension-iter-twice" true) := by
  unfold hlP openEnds fencedOpening topFrom
  rw [PySem.W.Fast.te4187177175401517315, PySem.W.Fast.te10274390034422433532, PySem.W.Fast.te14289696077712309145, PySem.W.Fast.te14082659384304107361, PySem.W.Fast.te1435165496053646825, PySem.W.Fast.te14364793385576792824]
  kernel_rfl
set_option maxHeartbeats 0 in
theorem hl4 (w : World) : hlP ((w.withFollow "special-get-raises" true).withFollow "comprehension-iter-twice" true) := by
  unfold hlP openEnds fencedOpening topFrom
  rw [PySem.W.Fast.te4187177175401517315, PySem.W.Fast.te10274390034422433532, PySem.W.Fast.te14289696077712309145, PySem.W.Fast.te14082659384304107361, PySem.W.Fast.te1435165496053646825, PySem.W.Fast.te14364793385576792824]
  kernel_rfl
theorem hl : LeftO qR.prog qV qL (fun s => xlAt qV [] s && recOk (RowW.records qR.toRowW) s && twXt s) Hook.none.obs Hook.none.val 4598 :=
  byRow2 (P := hlP) "comprehension-iter-twice" (byRow2 (P := fun w => hlP (w.withFollow "comprehension-iter-twice" false)) "special-get-raises" hl1 hl2) (byRow2 (P := fun w => hlP (w.withFollow "comprehension-iter-twice" true)) "special-get-raises" hl3 hl4)
theorem said : PySem.Challenge.rw_kl0421_01.wellSaid = true := by decide +kernel
set_option maxHeartbeats 0 in
theorem hd {d : DefRec} {kwd : List (Str × PySem.Expr)} (hdef : defOf qV qR.name = some (d, kwd)) (hp : qR.prog.theDef qR.name = some (d.params, d.body, d.scope)) (hk : kwWritten? d.params.kwonlyargs d.params.kw_defaults = some kwd)
    (call : WalkO qV qL (fun mg h => XL qV [] mg h ∧ TwX mg h) Hook.none.says qR.toRowW d kwd fun f vs => PySem.call f vs) : PySem.Challenge.rw_kl0421_01.Holds :=
  ⟨said, holds_open (Xt := fun s => xlAt qV [] s && recOk (RowW.records qR.toRowW) s && twXt s) hl Hook.none.of Hook.none.keeps (fun s e => ⟨xl_of s (Bool.and_eq_true_iff.mp (Bool.and_eq_true_iff.mp e).1).1, twX_of s (Bool.and_eq_true_iff.mp e).2⟩) (fun mg h h' x k => ⟨XL.keeps mg h h' x.1 k, TwX.keeps mg h h' x.2 k⟩) hdef hp hk (fun s e => recFacts_of (Bool.and_eq_true_iff.mp (Bool.and_eq_true_iff.mp e).1).2) (by rfl) (row_said said) (by decide +kernel) ⟨rfl, rfl, rfl, rfl, rfl, by decide +kernel⟩
    (by w_witness2) call⟩
end Mine
end
section
open PySem PySem.W PyProof.Rows PySem.SeqAt
set_option maxRecDepth 100000
namespace Mine
noncomputable def tabL : List (Option Fn) := [none, some fn1, some fn2, some fn3, some fn4, some fn5, some fn6, some fn7, some fn8, none, some fn10, some fn11, none, none, some fn14, some fn15, some fn16, some fn17, some fn18, some fn19, some fn20, some fn21, some fn22, none, some fn24, some fn25, some fn26, some fn27]
noncomputable def fnTab (f : Nat) : Option Fn := tabL[f]?.join
theorem fnTab_lt {f : Nat} {fn : Fn} (h : fnTab f = some fn) : f < 28 ∧ some fn ∈ tabL := by
  unfold fnTab at h
  cases e : tabL[f]? with
  | none => rw [e] at h; exact noS h
  | some o => rw [e] at h; exact ⟨(List.getElem?_eq_some_iff.mp e).1, (show o = some fn from h) ▸ List.mem_of_getElem? e⟩
theorem tab_each {P : Nat → Fn → Bool} (h : ((List.range 28).all fun f => (fnTab f).all (P f)) = true) {f : Nat} {fn : Fn} (e : fnTab f = some fn) : P f fn = true := by
  have := List.all_eq_true.mp h f (List.mem_range.mpr (fnTab_lt e).1)
  rw [e] at this
  exact this
inductive DefIs (C : Cx) (f : Nat) (fn : Fn) (tw : Bool) : Prop
  | mk (id : Str) (ps : List Str) (body : List PySem.Stmt) (sc : Scope) (k : Nat) : fnms[f - 1]? = some id → FnIs C id ps body sc (fun v => tw = true → ∃ c, v = .ref c ∧ CodeHd C.h₀ c C.P) → chkF ps sc fn = true → chkBs (chkS k tw sc.names) fn.body body = true → DefIs C f fn tw
inductive StarIs (C : Cx) (f z : Nat) (fn : Fn) : Prop
  | mk (id : Str) (ps : List Str) (rest : List PySem.Stmt) (sc : Scope) (idz ido : Str) (p1 p2 p3 p4 : Pos) (k : Nat) : fnms[f - 1]? = some id → FnIs C id ps (PySem.Stmt.Assign [.Name idz p1] (.Call (.Name ido p2) [] [] p3) p4 :: rest) sc (fun _ => True) → chkF ps sc fn = true →
    bindOk sc.names z idz = true → globOk sc.names ido (Str.ofString "object") = true → chkBs (chkS k false sc.names) fn.body rest = true → StarIs C f z fn
structure Facts (C : Cx) : Prop where
  g0 : CxOk2 C
  gen : GenIs C
  escp : EscpIs C
  ref : RefIs C
  lam : LamIs C
  defs : ∀ f fn, fnTab f = some fn → DefIs C f fn (f == 14)
  star : StarIs C 12 18 fn12
structure Alike (C C' : Cx) : Prop where
  g : CxOk2 C → CxOk2 C'
  l : LamIs C → LamIs C'
  mg : C'.mg = C.mg
  h : C'.h₀ = C.h₀
  P : C'.P = C.P
  pr : C'.prog = C.prog
  w : C'.w = C.w
theorem FnIs.like {C C' : Cx} (a : Alike C C') {id : Str} {ps : List Str} {body : List PySem.Stmt} {sc : Scope} {ok : Value → Prop} (x : FnIs C id ps body sc ok) : FnIs C' id ps body sc ok := by
  cases x with | mk a' o fd h1 h2 h3 h4 h5 h6 h7 h8 h9 h10 h11 => exact .mk a' o fd (a.mg ▸ h1) (a.h ▸ h2) h3 h4 h5 h6 h7 h8 (a.h ▸ h9) h10 h11
theorem Facts.like {C C' : Cx} (a : Alike C C') (x : Facts C) : Facts C' where
  g0 := a.g x.g0
  gen := by cases x.gen with | mk a' o fd q h1 h2 h3 h4 c1 c2 c3 n1 n2 n3 n4 n5 h6 h7 h8 h9 h10 => exact .mk a' o fd q (a.mg ▸ h1) (a.h ▸ h2) h3 h4 c1 c2 c3 n1 n2 n3 n4 n5 h6 h7 h8 (a.h ▸ h9) h10
  escp := by cases x.escp with | mk q orl sc a' kvs u h1 h2 h3 n1 n2 n3 n4 m1 m2 m3 => exact .mk q orl sc a' kvs u (h1.like a) h2 h3 n1 n2 n3 n4 (a.mg ▸ m1) (by rw [a.h, a.pr, a.w]; exact m2) m3
  ref := by cases x.ref with | mk q b1 sc1 b3 sc3 sc k N h1 h2 => exact .mk q b1 sc1 b3 sc3 sc k { N with x1 := N.x1.like a, x3 := N.x3.like a } (h1.like a) h2
  lam := a.l x.lam
  defs f fn h := by cases x.defs f fn h with | mk id ps body sc k h0 h1 h2 h3 => exact .mk id ps body sc k h0 (by rw [a.h, a.P]; exact h1.like a) h2 h3
  star := by cases x.star with | mk id ps rest sc idz ido p1 p2 p3 p4 k h0 h1 h2 h3 h4 h5 => exact .mk id ps rest sc idz ido p1 p2 p3 p4 k h0 (h1.like a) h2 h3 h4 h5
theorem Facts.fsw {C : Cx} (x : Facts C) (L : List Env) : Facts (C.fsw L) := x.like (C := C) ⟨fun g => g.fsw L, fun g => g.fsw L, rfl, rfl, rfl, rfl, rfl⟩
theorem Facts.gsw {C : Cx} (x : Facts C) (gs : Nat → Option GenState) : Facts (C.gsw gs) := x.like (C := C) ⟨fun g => ⟨⟨g.g, g.b, g.nolimit⟩, g.blt, g.fn⟩, fun g => g.gsw gs, rfl, rfl, rfl, rfl, rfl⟩
structure Tab (F : FT) (rank : Nat → Nat) (fu : Nat) : Prop where
  defs : ∀ f fn, fnTab f = some fn → ∃ m, rank f = m + 1 ∧ ∀ {args c r}, F f args c = some r → exFn F rank fu m fn args c = some r
  star : ∃ m, rank 12 = m + 1 ∧ ∀ {args c r}, F 12 args c = some r → exFn F rank fu m fn12 args c = some r
  escp : 0 < rank 13 ∧ ∀ {args c r}, F 13 args c = some r → args = [.d (.str [40])] ∧ r = (.d (.str [92, 40]), c)
  ref : ∃ m, rank 23 = m + 5 ∧ ∀ {args c r}, F 23 args c = some r → ∃ i, args = [.loc i] ∧ c[i]? = some [] ∧ r = (.d (.bool true), c)
  none : ∀ f, fnTab f = none → f ≠ 12 → f ≠ 13 → f ≠ 23 → ∀ args c, F f args c = none
section
variable {F : FT} {rank : Nat → Nat} {fu : Nat}
noncomputable abbrev CallsTo (F : FT) (rank : Nat → Nat) (n : Nat) : Prop := ∀ C : Cx, Facts C → ∀ f, rank f < n → CallOk C F rank f
theorem CallsTo.le {n m : Nat} (h : CallsTo F rank n) (l : m ≤ n) : CallsTo F rank m := fun C x f hf => h C x f (Nat.lt_of_lt_of_le hf l)
theorem CallsTo.ev {n : Nat} (h : CallsTo F rank n) {C : Cx} (x : Facts C) : EvOk C F rank n ∧ TrOk C F rank n := all_ok x.g0 fun f hf => h C x f hf
theorem ex_all (n : Nat) : CallsTo F rank n → ∀ (C : Cx), Facts C → ExOk C F rank fu n := by
  induction n with
  | zero => exact fun _ C x k tw ms st fm fz I as vars c s fl vars' c' A Q E _ _ _ _ he _ => noS he
  | succ n IH =>
    exact fun hc C x =>
      have hn := hc.le (Nat.le_succ n)
      ex_step x.g0 (fun m hm => (hn.le hm).ev x) (IH hn C x) (esc_step x.g0 x.gen (hn.ev x).1 (hn.ev x).2 fun gs => IH hn _ (x.gsw gs))
theorem tab_star {f : Nat} {fn : Fn} (h : fnTab f = some fn) : fn.star = none := Option.isNone_iff_eq_none.mp (tab_each (P := fun _ fn => fn.star.isNone) (by decide +kernel) h)
theorem rank_le {r m n k : Nat} (h : r < n + 1) (e : r = m + (k + 1)) : m + k ≤ n := Nat.le_of_lt (Nat.lt_of_succ_le (Nat.le_of_lt_succ (show (m + k).succ < n + 1 from (show r = (m + k).succ from e) ▸ h)))
theorem calls_ok (T : Tab F rank fu) (n : Nat) : CallsTo F rank n := by
  induction n with
  | zero => exact fun C x f h => absurd h (Nat.not_lt_zero _)
  | succ n ih =>
    intro C x f h
    cases ht : fnTab f with
    | some fn =>
      obtain ⟨m, hm, hF⟩ := T.defs f fn ht
      have hn : m ≤ n := rank_le (k := 0) h hm
      cases x.defs f fn ht with
      | mk id ps body sc k e0 e1 e2 e3 =>
      have X : ∀ L, ExOk (C.fsw L) F rank fu m := fun L => ex_all m (ih.le hn) _ (x.fsw L)
      have hs := tab_star ht
      refine @call_ok C F rank fu m k (f == 14) ps body sc _ fn f id x.g0 e1 e0 e2 e3 (fun htw fm hfm => ?_) X hm hF hs
      exact tw_ok (x.fsw _).g0 (x.fsw _).lam (hfm.casesOn fun fd k' a he _ _ _ _ hcode => let ⟨c, hc, hcd⟩ := hcode htw; ⟨c, (congrArg Env.code he).trans hc, hcd⟩)
    | none =>
      by_cases h12 : f = 12
      · subst h12
        obtain ⟨m, hm, hF⟩ := T.star
        have hn : m ≤ n := rank_le (k := 0) h hm
        cases x.star with
        | mk id ps rest sc idz ido p1 p2 p3 p4 k e0 e1 e2 e4 e5 e6 =>
        exact call_star x.g0 e1 e0 e2 rfl e4 e5 e6 (tw := false) (fun h => nomatch h) (fun L => ex_all m (ih.le hn) _ (x.fsw L)) hm hF rfl
      by_cases h13 : f = 13
      · subst h13
        exact escape_ok x.g0 x.escp T.escp.1 T.escp.2
      by_cases h23 : f = 23
      · subst h23
        obtain ⟨m, hm, hF⟩ := T.ref
        have hn : m + 4 ≤ n := rank_le h hm
        exact refused_ok (fu := fu) x.g0 x.ref hm (fun L => (ih.le hn).ev (x.fsw L)) (fun L => ex_all (m + 4) (ih.le hn) _ (x.fsw L)) hF
      exact fun r fi g rv he => noS ((T.none f ht h12 h13 h23 _ _).symm.trans he)
end
end Mine
end
section
open PySem PySem.Calls PySem.W PySem.Flt PyProof.Rows PySem.SeqAt
set_option maxRecDepth 100000
namespace Mine
noncomputable abbrev plainA (l : List Arg) : Arguments := { posonlyargs := [], args := l, vararg := none, kwonlyargs := [], kw_defaults := [], kwarg := none, defaults := [] }
noncomputable def missN (l : List Str) (z : List (Str × Value)) : List Str := l.filter fun n => (z.lookup n).isNone
noncomputable def bindN (l : List Str) (z : List (Str × Value)) : List (Str × Value) := l.filterMap fun n => (z.lookup n).map (n, ·)
section
variable (name : Str) (a1 a2 a3 : Arg) (body : List PySem.Stmt) (sc : Scope) (pm cd doc v1 v2 v3 : Value)
theorem bind1 : ∃ X, bindArgs (docDef name (plainA [a1]) body sc pm cd doc) ⟨[v1], []⟩ = if (!(missN [a1.arg] [(a1.arg, v1)]).isEmpty) = true then X else pure (bindN [a1.arg] [(a1.arg, v1)]) := ⟨_, rfl⟩
theorem bind2 : ∃ X, bindArgs (docDef name (plainA [a1, a2]) body sc pm cd doc) ⟨[v1, v2], []⟩ = if (!(missN [a1.arg, a2.arg] [(a1.arg, v1), (a2.arg, v2)]).isEmpty) = true then X else pure (bindN [a1.arg, a2.arg] [(a1.arg, v1), (a2.arg, v2)]) := ⟨_, rfl⟩
theorem bind3 : ∃ X, bindArgs (docDef name (plainA [a1, a2, a3]) body sc pm cd doc) ⟨[v1, v2, v3], []⟩ = if (!(missN [a1.arg, a2.arg, a3.arg] [(a1.arg, v1), (a2.arg, v2), (a3.arg, v3)]).isEmpty) = true then X else pure (bindN [a1.arg, a2.arg, a3.arg] [(a1.arg, v1), (a2.arg, v2), (a3.arg, v3)]) := ⟨_, rfl⟩
end
end Mine
end
section
open PySem PySem.Calls PySem.W PySem.Flt PyProof.Rows PySem.SeqAt
set_option maxRecDepth 100000
namespace Mine
noncomputable def wYld (t : PySem.Expr) (h : t.ctorIdx = 13) : {x : Option PySem.Expr × Pos // t = .Yield x.1 x.2} := PySem.Expr.Yield.elim (motive_1 := fun t => {x : Option PySem.Expr × Pos // t = .Yield x.1 x.2}) t h fun a b => ⟨(a, b), rfl⟩
noncomputable def wTry (t : PySem.Stmt) (h : t.ctorIdx = 17) : {x : List PySem.Stmt × List PySem.ExceptHandler × List PySem.Stmt × List PySem.Stmt × Pos // t = .Try x.1 x.2.1 x.2.2.1 x.2.2.2.1 x.2.2.2.2} := PySem.Stmt.Try.elim (motive_2 := fun t => {x : List PySem.Stmt × List PySem.ExceptHandler × List PySem.Stmt × List PySem.Stmt × Pos // t = .Try x.1 x.2.1 x.2.2.1 x.2.2.2.1 x.2.2.2.2}) t h fun a b c d e => ⟨(a, b, c, d, e), rfl⟩
noncomputable def kids (e : PySem.Expr) : List PySem.Expr :=
  orE (acc wBin e) (fun x => some [x.1, x.2.2.1]) (orE (acc wTup e) (fun x => some x.1) (orE (acc wCall e) (fun x => some (x.1 :: x.2.1)) (orE (acc wAttr e) (fun x => some [x.1]) (orE (acc wCmp e) (fun x => some (x.1 :: x.2.2.1)) (orE (acc wBool e) (fun x => some x.2.1) (orE (acc wList e) (fun x => some x.1) ((acc wYld e).map fun x => x.1.toList))))))) |>.getD []
noncomputable def posE : Nat → PySem.Expr → List Pos
  | 0, _ => []
  | n + 1, e => e.pos :: (kids e).flatMap (posE n)
noncomputable def hdlT : PySem.ExceptHandler → List PySem.Expr
  | .ExceptHandler t _ _ _ => t.toList
noncomputable def hdlB : PySem.ExceptHandler → List PySem.Stmt
  | .ExceptHandler _ _ b _ => b
noncomputable def kidsS (s : PySem.Stmt) : List PySem.Expr × List PySem.ExceptHandler × List PySem.Stmt :=
  orE (acc wAsg s) (fun x => some (x.1 ++ [x.2.1], [], [])) (orE (acc wFor s) (fun x => some ([x.1, x.2.1], [], x.2.2.1)) (orE (acc wIfS s) (fun x => some ([x.1], [], x.2.1 ++ x.2.2.1)) (orE (acc wEx s) (fun x => some ([x.1], [], [])) (orE (acc wRet s) (fun x => some (x.1.toList, [], [])) ((acc wTry s).map fun x => ([], x.2.1, x.1)))))) |>.getD ([], [], [])
noncomputable def posS : Nat → PySem.Stmt → List Pos
  | 0, _ => []
  | n + 1, s => s.pos :: (kidsS s).1.flatMap (posE 9) ++ (kidsS s).2.1.flatMap (fun h => h.pos :: (hdlT h).flatMap (posE 9) ++ (hdlB h).flatMap (posS n)) ++ (kidsS s).2.2.flatMap (posS n)
noncomputable def qOf (like : (Nat → Pos) → List PySem.Stmt) (b : List PySem.Stmt) (i : Nat) : Pos := ((((like fun i => ⟨i, 0, 0, 0⟩).flatMap (posS 9)).map (·.line)).zip (b.flatMap (posS 9))).lookup i |>.getD ⟨0, 0, 0, 0⟩
theorem look_ne {l : List Str} {a : Str} {v : Value} {z : List (Str × Value)} (h : a ∉ l) : (∀ n ∈ l, ((a, v) :: z).lookup n = z.lookup n) := fun n hn => by
  rw [List.lookup_cons, beq_false_of_ne fun q : n = a => h (q ▸ hn)]
theorem fm_congr {l : List Str} {f g : Str → Option (Str × Value)} (h : ∀ n ∈ l, f n = g n) : l.filterMap f = l.filterMap g := by
  induction l with
  | nil => rfl
  | cons a r ih => rw [List.filterMap_cons, List.filterMap_cons, h a (List.mem_cons_self ..), ih fun n hn => h n (List.mem_cons_of_mem _ hn)]
theorem pars_zip {l : List Str} : ∀ {z : List Value}, l.Nodup → z.length = l.length → missN l (l.zip z) = [] ∧ bindN l (l.zip z) = l.zip z := by
  induction l with
  | nil => exact fun _ _ => ⟨rfl, rfl⟩
  | cons a l ih =>
    intro z hn hl
    cases z with
    | nil => exact nomatch hl
    | cons v z =>
      have h := List.nodup_cons.mp hn
      have i := ih h.2 (Nat.succ.inj hl)
      have e : ((a, v) :: l.zip z).lookup a = some v := by rw [List.lookup_cons, beq_self_eq_true]
      constructor
      · show List.filter (fun n => (((a, v) :: l.zip z).lookup n).isNone) (a :: l) = []
        rw [List.filter_cons_of_neg (by rw [e]; exact Bool.false_ne_true)]
        exact (List.filter_congr fun n hm => congrArg Option.isNone (look_ne h.1 n hm)).trans i.1
      · show List.filterMap (fun n => (((a, v) :: l.zip z).lookup n).map (n, ·)) (a :: l) = (a, v) :: l.zip z
        rw [List.filterMap_cons, e]
        exact congrArg ((a, v) :: ·) ((fm_congr fun n hm => congrArg (Option.map (n, ·)) (look_ne h.1 n hm)).trans i.2)
theorem bind_of {l : List Str} {z : List Value} {t : Sem (List (Str × Value))} (hn : l.Nodup) (hl : z.length = l.length) (h : ∃ X, t = if (!(missN l (l.zip z)).isEmpty) = true then X else pure (bindN l (l.zip z))) : t = pure (l.zip z) := by
  obtain ⟨X, e⟩ := h
  rw [(pars_zip hn hl).1, (pars_zip hn hl).2] at e
  exact e
noncomputable def parsOf (a : Arguments) : Option (List Str) := if a.posonlyargs.isEmpty && a.vararg.isNone && a.kwonlyargs.isEmpty && a.kw_defaults.isEmpty && a.kwarg.isNone && a.defaults.isEmpty && decide (a.args.length - 1 < 3) && decide (a.args.map (·.arg)).Nodup && !a.args.isEmpty then some (a.args.map (·.arg)) else none
theorem bind_plain (l : List Arg) (h3 : l.length - 1 < 3) (h0 : l.isEmpty = false) (hn : (l.map (·.arg)).Nodup) (name : Str) (body : List PySem.Stmt) (sc : Scope) (pm cd doc : Value) (vals : List Value) (hv : vals.length = (l.map (·.arg)).length) :
    bindArgs (docDef name (plainA l) body sc pm cd doc) ⟨vals, []⟩ = pure ((l.map (·.arg)).zip vals) := by
  refine bind_of hn hv ?_
  clear hn
  cases l with
  | nil => exact noT h0.symm
  | cons a l => cases vals with
    | nil => exact nomatch hv
    | cons v vals => cases l with
      | nil => cases vals with
        | nil => exact bind1 ..
        | cons => exact nomatch hv
      | cons b l => cases vals with
        | nil => exact nomatch hv
        | cons w vals => cases l with
          | nil => cases vals with
            | nil => exact bind2 ..
            | cons => exact nomatch hv
          | cons c l => cases vals with
            | nil => exact nomatch hv
            | cons x vals => cases l with
              | nil => cases vals with
                | nil => exact bind3 ..
                | cons => exact nomatch hv
              | cons d l => exact absurd h3 (Nat.not_lt.mpr (Nat.le_add_left 3 _))
theorem plain_mk {p k : List Arg} {l : List Arg} {v kw : Option Arg} {kd : List (Option PySem.Expr)} {d : List PySem.Expr} (h : (p.isEmpty && v.isNone && k.isEmpty && kd.isEmpty && kw.isNone && d.isEmpty) = true) : (⟨p, l, v, k, kd, kw, d⟩ : Arguments) = plainA l := by
  cases p with
  | cons => exact noT h
  | nil => cases v with
    | some => exact noT h
    | none => cases k with
      | cons => exact noT h
      | nil => cases kd with
        | cons => exact noT h
        | nil => cases kw with
          | some => exact noT h
          | none => cases d with
            | cons => exact noT h
            | nil => rfl
theorem bind_pars {params : Arguments} {ps : List Str} (h : parsOf params = some ps) (name : Str) (body : List PySem.Stmt) (sc : Scope) (pm cd doc : Value) : ∀ vals : List Value, vals.length = ps.length → bindArgs (docDef name params body sc pm cd doc) ⟨vals, []⟩ = pure (ps.zip vals) :=
  ifS h fun hb e => by
    cases e
    have h1 := an hb
    have h2 := an h1.1
    have h3 := an h2.1
    cases params with | mk p l v k kd kw d =>
    have b := bind_plain l (dc h3.2) ((Bool.not_eq_true' _).mp h1.2) (dc h2.2) name body sc pm cd doc
    rw [← plain_mk h3.1] at b
    exact b
noncomputable def find (id : Str) : Option DefRec := (recsOf qV).find? (fun d => d.name == id)
theorem find_mem {id : Str} {d : DefRec} (h : find id = some d) : d ∈ recsOf qV ∧ d.name = id := ⟨List.mem_of_find?_eq_some h, eq_of_beq (List.find?_some (p := fun d : DefRec => d.name == id) h)⟩
noncomputable def seen (id : Str) (f : DefRec → List Str → Bool) : Bool := (find id).any fun d => (parsOf d.params).any (f d)
theorem seen_is {id : Str} {f : DefRec → List Str → Bool} {G : Prop} (h : seen id f = true) (k : ∀ d ps, find id = some d → d ∈ recsOf qV → d.name = id → parsOf d.params = some ps → f d ps = true → G) : G :=
  any_is h fun d hd h => any_is h fun ps hp h => k d ps hd (find_mem hd).1 (find_mem hd).2 hp h
noncomputable def chkOne (id : Str) (fn : Fn) (tw : Bool) : Bool := seen id fun d ps => chkF ps d.scope fn && chkBs (chkS 60 tw d.scope.names) fn.body d.body
theorem chk_all : ((List.range 28).all fun f => (fnTab f).all fun fn => (fnms[f - 1]?).any fun id => chkOne id fn (f == 14)) = true := by decide +kernel
end Mine
end
section
open PySem PySem.Calls PySem.W PySem.Flt PyProof.Rows PySem.SeqAt
set_option maxRecDepth 100000
namespace Mine
noncomputable def cxOf (prog : Program) (w : World) (os : OsState) (mg mb : Str → Option Value) (h : Heap) (P : Addr) : Cx :=
  { prog, w, h₀ := hideAll h [P], os₀ := os, mg, mb, P, ps₀ := #[], lp := ⟨181, 39, 181, 76⟩, lq := Str.ofString "", gs := fun _ => none, fl := [] }
section
variable {prog : Program} {w : World} {os : OsState} {mg mb : Str → Option Value} {h : Heap} {P : Addr} {mean : ExcName → Option Value}
theorem keepH (hP : h.get? P = some (tabObj #[])) {b : Addr} {o : Obj} (e : h.get? b = some o) (n : o ≠ tabObj #[]) : (hideAll h [P]).get? b = some o :=
  hideAll_get _ e fun m => n (by
    rw [List.mem_singleton.mp m, hP] at e
    exact (Option.some.inj e).symm)
theorem nsH (hP : h.get? P = some (tabObj #[])) {a : Addr} {m : Str → Option Value} (x : h.Ns a m) : (hideAll h [P]).Ns a m := by
  obtain ⟨o, es, ep, e, d, r⟩ := x
  exact ⟨o, es, ep, keepH hP e (fun q => by rw [q] at d; cases d), d, r⟩
theorem recH (hP : h.get? P = some (tabObj #[])) {cd : Value} {q : Str} (x : h.CodeRec cd q) : (hideAll h [P]).CodeRec cd q := by
  obtain ⟨c, o, vs, t, e, g, d, v⟩ := x
  refine ⟨c, o, vs, t, e, keepH hP g (fun q => ?_), d, v⟩
  rw [q] at d
  cases d
  simp at v
theorem hdH (hP : h.get? P = some (tabObj #[])) {c : Addr} (x : CodeHd h c P) : CodeHd (hideAll h [P]) c P := by
  obtain ⟨o, vs, file, tf, flags, tg, inF, text, tt, e, r⟩ := x
  exact ⟨o, vs, file, tf, flags, tg, inF, text, tt, keepH hP e (fun q => by rw [q] at r; cases r.1), r⟩
theorem patH (hP : h.get? P = some (tabObj #[])) {a : Addr} (x : TwPat h a) : TwPat (hideAll h [P]) a := by
  obtain ⟨fs, T, ws, n, h1, h2, h3, h4, h5⟩ := x
  exact ⟨fs, T, ws, n, keepH hP h1 (fun q => by have := congrArg Obj.cls q; simp at this), h2, h3, keepH hP h4 (fun q => by have := congrArg Obj.cls q; simp at this), h5⟩
variable {L : List Str}
theorem fn_at (T : Top qV L mean mg mb h) (hP : h.get? P = some (tabObj #[])) {d : DefRec} (hd : d ∈ recsOf qV) {ps : List Str} (hps : parsOf d.params = some ps) {ok : Value → Prop}
    (hok : ∀ a o fd, mg d.name = some (.ref a) → h.get? a = some o → o.data = .func fd → ok fd.code) : FnIs (cxOf prog w os mg mb h P) d.name ps d.body d.scope ok :=
  let ⟨a, o, pm, code, doc, h1, h2, h3, h4⟩ := T.fn d hd
  .mk a o _ h1 (keepH hP h2 fun q => nomatch h3.symm.trans (congrArg Obj.data q)) h3 rfl rfl rfl rfl rfl (recH hP h4) (hok a o _ h1 h2 h3) (bind_pars hps d.name d.body d.scope pm code doc)
noncomputable def nTr : Str := Str.ofString "_translate"
theorem tr_seen : seen nTr (fun _ _ => true) = true := by decide +kernel
inductive TabAt (mg : Str → Option Value) (h : Heap) : Prop
  | mk (P c : Addr) : h.TableAt c P #[] → CodeHd h c P → (∀ a o fd, mg nTr = some (.ref a) → h.get? a = some o → o.data = .func fd → fd.code = .ref c) → TabAt mg h
theorem tab_of (T : Top qV L mean mg mb h) : TabAt mg h :=
  seen_is tr_seen fun d _ _ hd hn _ _ => by
    obtain ⟨a, o, fd, c, P, h1, h2, h3, h4, h5, h6⟩ := T.tab d hd
    refine .mk P c h6 (CodeHd.of h5 h6) fun a' o' fd' e1 e2 e3 => ?_
    rw [hn] at h1
    cases h1.symm.trans e1
    cases h2.symm.trans e2
    cases h3.symm.trans e3
    exact h4
theorem defs_of (T : Top qV L mean mg mb h) (hP : h.get? P = some (tabObj #[])) {c : Addr} (hcd : CodeHd h c P) (hfn : ∀ a o fd, mg nTr = some (.ref a) → h.get? a = some o → o.data = .func fd → fd.code = .ref c) {f : Nat} {fn : Fn} (hf : fnTab f = some fn) : DefIs (cxOf prog w os mg mb h P) f fn (f == 14) :=
  any_is (tab_each chk_all hf) fun id hid hs => seen_is hs fun d ps _ hd hn hps hc => by
    subst hn
    refine .mk d.name ps d.body d.scope 60 hid (fn_at T hP hd hps fun a o fd e1 e2 e3 ht => ⟨c, hfn a o fd ?_ e2 e3, hdH hP hcd⟩) (an hc).1 (an hc).2
    cases eq_of_beq ht
    exact Option.some.inj ((show fnms[13]? = some nTr by decide +kernel).symm.trans hid) ▸ e1
end
noncomputable def nIt : Str := Str.ofString "_iter_escaped_chars"
theorem gen_body : (find nIt).map (·.body) = (find nIt).map fun d => escAll (qOf escAll d.body) := by kernel_rfl
theorem body_of {id : Str} {d : DefRec} {f : DefRec → List PySem.Stmt} (hd : find id = some d) (h : (find id).map (·.body) = (find id).map f) : d.body = f d := by
  rw [hd] at h
  exact Option.some.inj h
noncomputable def lk (sc : Scope) (l : List (Str × NameKind)) : Bool := l.all fun p => decide (sc.names.lookup p.1 = some p.2)
theorem lk_at {sc : Scope} {l : List (Str × NameKind)} (h : lk sc l = true) (i : Nat) {p : Str × NameKind} (hp : l[i]? = some p) : sc.names.lookup p.1 = some p.2 := of_decide_eq_true (List.all_eq_true.mp h p (List.mem_of_getElem? hp))
noncomputable def genL : NL := [(nPos, .local), (nEsc, .local), (nCh, .local), (nAddr, .local), (nEnum, .globalImplicit)]
noncomputable def genF (d : DefRec) (ps : List Str) : Bool := decide (d.scope.kind = .function) && !d.scope.isCoroutine && d.scope.isGenerator && lk d.scope genL && decide (ps = [nAddr])
theorem gen_chk : seen nIt genF = true := by decide +kernel
noncomputable def orlOf (b : List PySem.Stmt) : List PySem.Stmt := (hd1 b).bind (fun s => (acc wIfS s).map fun x => x.2.2.1) |>.getD []
noncomputable def nEscp : Str := Str.ofString "escape"
noncomputable abbrev escpQ (b : List PySem.Stmt) : Nat → Pos := qOf (fun q => escpBody q []) b
theorem escp_body : (find nEscp).map (·.body) = (find nEscp).map fun d => escpBody (escpQ d.body) (orlOf d.body) := by kernel_rfl
noncomputable def escpL : NL := [(nPat, .local), (Str.ofString "isinstance", .globalImplicit), (Str.ofString "str", .globalImplicit), (nMap, .globalImplicit)]
noncomputable def escpF (d : DefRec) (ps : List Str) : Bool := chkF [nPat] d.scope fn13 && ((escpQ d.body 6).endLine == (escpQ d.body 8).line) && lk d.scope escpL && decide (ps = [nPat])
theorem escp_chk : seen nEscp escpF = true := by decide +kernel
noncomputable def nRef : Str := Str.ofString "_law_refused"
theorem ref_body_is : (find nRef).map (·.body) = (find nRef).map fun d => refBody (qOf refBody d.body) := by kernel_rfl
noncomputable def refL : NL := [(nHeap, .local), (nRefd, .local), (nGrst, .local), (nHpm, .globalImplicit), (nHp, .globalImplicit), (nIxe, .globalImplicit)]
noncomputable def refF (d : DefRec) (ps : List Str) : Bool := chkF [nHeap] d.scope fn23 && lk d.scope refL && decide (ps = [nHeap])
theorem ref_chk : seen nRef refF = true := by decide +kernel
noncomputable def oneF (fn : Fn) (qs : List Str) (d : DefRec) (ps : List Str) : Bool := decide (ps = qs) && chkF qs d.scope fn && chkBs (chkS 60 false d.scope.names) fn.body d.body
theorem ps_1 : seen nHp (oneF fn1 [nHeap]) = true := by decide +kernel
theorem ps_3 : seen nHpm (oneF fn3 [nHeap]) = true := by decide +kernel
noncomputable def nTsl : Str := Str.ofString "translate"
noncomputable def hdT {α : Type} : List α → Option (α × List α)
  | [] => none
  | x :: r => some (x, r)
theorem hdT_is {α : Type} {l : List α} {x : α × List α} (h : hdT l = some x) : l = x.1 :: x.2 := by
  cases l with
  | nil => exact noS h
  | cons a r => exact Option.some.inj h ▸ rfl
noncomputable def starF (d : DefRec) (ps : List Str) : Bool := (hdT d.body).any fun b => (acc wAsg b.1).any fun y => (hd1 y.1).any fun t => (acc wName t).any fun z => callN y.2.1 fun ido xs => xs.isEmpty && bindOk d.scope.names 18 z.1 && globOk d.scope.names ido (Str.ofString "object") && chkBs (chkS 60 false d.scope.names) fn12.body b.2 && chkF ps d.scope fn12
theorem star_chk : seen nTsl starF = true := by decide +kernel
theorem fnms_ok : (fnms.all fun id => seen id fun _ _ => true) = true := by decide +kernel
noncomputable def freeT (x : Str) : Bool := !(startupNames.contains x) && !((looseW qV qL).contains x) && !(((recsOf qV).map (·.name)).contains x) && !(((litsOf qV).map (·.1)).contains x) && !(((clssOf qV (looseW qV qL)).map (·.name)).contains x) && decide (x ≠ Str.ofString "__name__")
theorem blt_free : (bltL.all fun p => freeT p.1 && decide (bootBuiltins p.1 = some p.2)) = true := by decide +kernel
end Mine
end
section
open PySem PySem.Calls PySem.W PySem.Flt PyProof.Rows PySem.SeqAt
set_option maxRecDepth 100000
namespace Mine
section
variable {prog : Program} {w : World} {os : OsState} {mg mb : Str → Option Value} {h : Heap} {P : Addr} {mean : ExcName → Option Value}
theorem not_in {α : Type} [BEq α] [LawfulBEq α] {l : List α} {x : α} (h : (!(l.contains x)) = true) : x ∉ l := fun m => noT (((Bool.not_eq_true' _).mp h).symm.trans (List.contains_iff_mem.mpr m))
theorem g0_of (T : Top qV (looseW qV qL) mean mg mb h) (hP : h.get? P = some (tabObj #[])) : CxOk2 (cxOf prog w os mg mb h P) where
  g := nsH hP T.g
  b := nsH hP T.b
  nolimit := let ⟨mc, h1, h2⟩ := T.nolimit; ⟨mc, nsH hP h1, h2⟩
  blt p hp :=
    have a := an (List.all_eq_true.mp blt_free p hp)
    have b := an a.1
    have c := an b.1
    have d := an c.1
    have e := an d.1
    ⟨T.free _ (not_in (an e.1).1) (not_in (an e.1).2) (not_in e.2) (not_in d.2) (not_in c.2), (T.builtins _ (dc b.2)).trans (dc a.2)⟩
  fn f id hf := seen_is (List.all_eq_true.mp fnms_ok id (List.mem_of_getElem? hf)) fun d _ _ hd hn _ _ => let ⟨a, o, pm, code, doc, e1, e2, e3, e4⟩ := T.fn d hd; ⟨a, o, _, hn ▸ e1, keepH hP e2 (fun q => nomatch e3.symm.trans (congrArg Obj.data q)), e3⟩
theorem gen_of (T : Top qV (looseW qV qL) mean mg mb h) (hP : h.get? P = some (tabObj #[])) : GenIs (cxOf prog w os mg mb h P) :=
  seen_is gen_chk fun d ps hd hm hn hps hc => by
    have a := an hc
    have b := an a.1
    have c := an b.1
    obtain ⟨aa, o, pm, code, doc, h1, h2, h3, h4⟩ := T.fn d hm
    rw [dc a.2] at hps
    exact .mk aa o _ (qOf escAll d.body) (show mg nIt = _ from hn ▸ h1) (keepH hP h2 fun q => nomatch h3.symm.trans (congrArg Obj.data q)) h3 (congrArg _ (body_of hd gen_body)) (dc (an c.1).1) ((Bool.not_eq_true' _).mp (an c.1).2) c.2
      (lk_at b.2 0 rfl) (lk_at b.2 1 rfl) (lk_at b.2 2 rfl) (lk_at b.2 3 rfl) (lk_at b.2 4 rfl) rfl rfl rfl (recH hP h4) fun v => bind_pars hps d.name d.body d.scope pm code doc [v] rfl
theorem fn_at' (T : Top qV (looseW qV qL) mean mg mb h) (hP : h.get? P = some (tabObj #[])) {id : Str} {d : DefRec} {ps : List Str} {b : List PySem.Stmt} (hm : d ∈ recsOf qV) (hn : d.name = id) (hps : parsOf d.params = some ps) (hb : d.body = b) : FnIs (cxOf prog w os mg mb h P) id ps b d.scope (fun _ => True) := by
  cases hn
  cases hb
  exact fn_at T hP hm hps fun _ _ _ _ _ _ => trivial
theorem escp_of (T : Top qV (looseW qV qL) mean mg mb h) (X : TwX mg h) (hP : h.get? P = some (tabObj #[])) : EscpIs (cxOf prog w os mg mb h P) :=
  seen_is escp_chk fun d ps hd hm hn hps hc => by
    have a := an hc
    have b := an a.1
    rw [dc a.2] at hps
    obtain ⟨aa, kvs, u, e1, e2, e3⟩ := X.map
    obtain ⟨o, es, ep, g1, g2, g3, r⟩ := e2 prog w
    exact .mk (escpQ d.body) (orlOf d.body) d.scope aa kvs u (fn_at' T hP hm hn hps (body_of hd escp_body)) (an b.1).1 (an b.1).2 (lk_at b.2 0 rfl) (lk_at b.2 1 rfl) (lk_at b.2 2 rfl) (lk_at b.2 3 rfl) e1 ⟨o, es, ep, keepH hP g1 (fun q => nomatch g3.symm.trans (congrArg Obj.data q)), g2, g3, r⟩ e3
theorem ref_of (T : Top qV (looseW qV qL) mean mg mb h) (hP : h.get? P = some (tabObj #[])) : RefIs (cxOf prog w os mg mb h P) :=
  seen_is ps_1 fun d1 p1 _ hm1 hn1 hp1 c1 => seen_is ps_3 fun d3 p3 _ hm3 hn3 hp3 c3 => seen_is ref_chk fun d ps hd hm hn hps hc => by
    have a := an hc
    have b := an a.1
    rw [dc a.2] at hps
    rw [dc (an (an c1).1).1] at hp1
    rw [dc (an (an c3).1).1] at hp3
    exact .mk (qOf refBody d.body) d1.body d1.scope d3.body d3.scope d.scope 60 ⟨fn_at' T hP hm1 hn1 hp1 rfl, (an (an c1).1).2, (an c1).2, fn_at' T hP hm3 hn3 hp3 rfl, (an (an c3).1).2, (an c3).2, lk_at b.2 0 rfl, lk_at b.2 1 rfl, lk_at b.2 2 rfl, lk_at b.2 3 rfl, lk_at b.2 4 rfl, lk_at b.2 5 rfl⟩
      (fn_at' T hP hm hn hps (body_of hd ref_body_is)) b.1
theorem star_at {b : List PySem.Stmt} {d : DefRec} {ps : List Str} {G : Prop} (hb : d.body = b) (h : starF d ps = true) (k : ∀ idz p1 ido p2 p3 p4 rest, b = .Assign [.Name idz p1] (.Call (.Name ido p2) [] [] p3) p4 :: rest → bindOk d.scope.names 18 idz = true → globOk d.scope.names ido (Str.ofString "object") = true → chkBs (chkS 60 false d.scope.names) fn12.body rest = true → chkF ps d.scope fn12 = true → G) : G :=
  any_is h fun x hx h => any_is h fun y hy h => any_is h fun t ht h => any_is h fun z hz h => by
    have e1 : y.1 = [.Name z.1 z.2] := (hd1_is ht).trans (congrArg (fun t => [t]) (acc_is (w := wName) hz))
    refine callN_elim (G := fun v => y.2.1 = v → G) h (fun ido p2 xs p3 h e2 => ?_) rfl
    have a := an h
    have b' := an a.1
    have c := an b'.1
    have e3 := List.isEmpty_iff.mp (an c.1).1
    exact k z.1 z.2 ido p2 p3 y.2.2 x.2 (hb.symm.trans ((hdT_is hx).trans (congrArg (· :: x.2) ((acc_is hy).trans (by rw [e1, e2, e3]))))) (an c.1).2 c.2 b'.2 a.2
theorem star_of (T : Top qV (looseW qV qL) mean mg mb h) (hP : h.get? P = some (tabObj #[])) : StarIs (cxOf prog w os mg mb h P) 12 18 fn12 :=
  seen_is star_chk fun d ps hd hm hn hps hc => star_at rfl hc fun idz p1 ido p2 p3 p4 rest e c1 c2 c3 c4 => .mk nTsl ps rest d.scope idz ido p1 p2 p3 p4 60 (by decide +kernel) (fn_at' T hP hm hn hps e) c4 c1 c2 c3
theorem lam_of (T : Top qV (looseW qV qL) mean mg mb h) (X : TwX mg h) (hP : h.get? P = some (tabObj #[])) : LamIs (cxOf prog w os mg mb h P) where
  p0 := rfl
  line := rfl
  col := rfl
  pat := let ⟨P0, e, p⟩ := X.pat; ⟨P0, e, patH hP p⟩
  gP := fun (q : mainGlobals = P) => let ⟨_, es, ep, e, d, _⟩ := T.g; nomatch (show Data.dict es ep = Data.fields #[] from d.symm.trans (congrArg Obj.data (Option.some.inj (e.symm.trans (q ▸ hP)))))
  bm := by
    obtain ⟨bm, ob, b1, b2, b3, b4, b5, b6⟩ := T.bmain
    have nD : ∀ {a o}, h.get? a = some o → o.data ≠ .plain → bm ≠ a := fun e n q => n ((congrArg Obj.data (Option.some.inj (e.symm.trans (q ▸ b3)))).trans b6)
    exact ⟨bm, ob, b1, b2, let ⟨_, _, _, e, d, _⟩ := T.g; nD e (fun q => nomatch d.symm.trans q), nD hP (fun q => nomatch q), keepH hP b3 (fun q => nomatch b6.symm.trans (congrArg Obj.data q)), b4, b5, b6⟩
inductive FactsAt (mg mb : Str → Option Value) (h : Heap) : Prop
  | mk (P c : Addr) : h.TableAt c P #[] → (∀ (prog : Program) (w : World) (os : OsState), Facts (cxOf prog w os mg mb h P)) → FactsAt mg mb h
theorem facts_of (T : Top qV (looseW qV qL) mean mg mb h) (X : TwX mg h) : FactsAt mg mb h :=
  (tab_of T).casesOn fun P c ht hcd hfn => .mk P c ht fun prog w os => { g0 := g0_of T ht.2, gen := gen_of T ht.2, escp := escp_of T X ht.2, ref := ref_of T ht.2, lam := lam_of T X ht.2, star := star_of T ht.2, defs := fun f fn hf => defs_of T ht.2 hcd hfn hf }
end
end Mine
end
section
open PySem PySem.Calls PySem.W PySem.Flt PyProof.Rows PySem.SeqAt
set_option maxRecDepth 100000
namespace Mine
section
variable {M : Model} {A : Around} {E : Value → Shared → Prop} {s : Shared}
theorem stLCp {s₀ s : Shared} {m cm : Str → Option Value} {env : Env} {n : Str} {v : Value} {Q : Unit → Shared → Prop} (x : InCallC s₀ env.locals m env.cells cm s) (hk : env.scope.kind = .function) (hl : env.kindOf n = some .local)
    (h : ∀ s', InCallC s₀ env.locals (fun y => if y = n then some v else m y) env.cells cm s' → 0 < s'.toks → Q () s') : wpAny M A (storeName env n v) Q E s := by
  refine wpAny_storeName_local hl x.toInCall.ns (fun h' hn' hs' => h _ ⟨⟨?_, hn', fun b o e => ?_, x.toInCall.fresh⟩, fun k c hc => ?_, x.apart, x.above⟩ (Nat.succ_pos _)) (by rw [hk]; rfl)
  · obtain ⟨h₁, tk, rfl⟩ := x.toInCall.same
    exact ⟨h', _, rfl⟩
  · exact hs'.extBut b o (Nat.ne_of_lt (Nat.lt_of_lt_of_le (Heap.lt_size e) x.toInCall.fresh)) (x.toInCall.keep b o e)
  · exact (x.cell k c hc).sameBut hs' (Nat.ne_of_gt (x.above k c (mem_of_lookup hc)))
theorem newEnv1 {scope : Scope} {globals : Addr} {n : Str} {v : Value} {qual : Str} {func : Option Addr} {code : Value} {builtins : Addr} {Q : Env → Shared → Prop}
    (hk : scope.kind = .function) (hl : scope.names.lookup n = some .local)
    (hQ : ∀ env, env = newEnv scope s.heap.objs.size globals (cellsFrom (s.heap.objs.size + 1) scope.names []) qual func code none builtins →
      ∀ s', InCallC s env.locals (bindL env.kindOf [(n, v)] fun _ => none) env.cells (bindC env.kindOf [(n, v)] fun _ => none) s' → 0 < s'.toks → Q env s') :
    wpAny M A (newFunctionEnv scope globals [] [(n, v)] qual func code none builtins) Q E s := by
  simp only [newFunctionEnv, Option.isSome_none, Bool.false_eq_true, if_false]
  refine wpAny_bind (wpAny_alloc ?_)
  refine wpAny_bind (wpAny_layCells _ (fun name kind cells => by cases hkc : kind == NameKind.cell <;> simp) _ _ _ _ ?_)
  have ok := cellsFrom_ok scope.names (s.heap.push { cls := .type "frame", data := .dict #[] }) (s.heap.objs.size + 1) [] ⟨fun _ _ hm => (nomatch hm), List.Pairwise.nil⟩ (by rw [Heap.size_push]; exact Nat.le_refl _)
  rw [Heap.size_push] at ok
  rw [show ({ s with heap := s.heap.push { cls := .type "frame", data := .dict #[] } } : Shared).heap.objs.size = s.heap.objs.size + 1 from Heap.size_push ..]
  simp only [List.forIn_cons, List.forIn_nil]
  refine wpAny_bind (wpAny_bind (wpAny_bind (stLCp (s₀ := s) (env := newEnv scope s.heap.objs.size globals (cellsFrom (s.heap.objs.size + 1) scope.names []) qual func code none builtins) (m := fun _ => none) (cm := fun _ => none)
    ⟨⟨⟨_, _, rfl⟩, (Heap.Ns.new s.heap (.type "frame")).keeps (pushCells_keeps _ _), fun b o e => pushCells_keeps _ _ b o (Heap.get?_push_of_some _ e), Nat.le_refl _⟩,
      fun n c hc => (ok.empty n c (mem_of_lookup hc)).1, ok.apart, fun n c hm => (ok.empty n c hm).2⟩ hk hl fun s' x hp => wpAny_pure (wpAny_pure (wpAny_pure (hQ _ rfl s' ?_ hp))))))
  have hl' : (newEnv scope s.heap.objs.size globals (cellsFrom (s.heap.objs.size + 1) scope.names []) qual func code none builtins).kindOf n = some .local := hl
  unfold bindL bindC
  rw [if_pos hl', if_pos hl']
  exact x
end
section
variable {F : FT} {rank : Nat → Nat} {fu : Nat} {C : Cx}
noncomputable def nLaw : Str := Str.ofString "law"
noncomputable def nScr : Str := Str.ofString "script"
noncomputable def nums (l : List Int) : V := .d (.list (l.map .int))
noncomputable def lawF (d : DefRec) (ps : List Str) : Bool := oneF fn27 [nScr] d ps && decide (d.scope.names.lookup nScr = some .local)
theorem law_seen : seen nLaw lawF = true := by decide +kernel
theorem law_call {fd : FuncData} {o : Obj} {body : List PySem.Stmt} {m : Nat} {A : Around} {fz : Fz} {I : Im} {s : Shared} {args : List V} {v0 : Value} {a : Addr} {v : V} {Q E : Value → Shared → Prop} (x : Facts C) (T : Tab F rank fu) (hm : rank 27 = m + 1) (r : Room C (m + 1) A) (fi : FlIn C fz none) (g : Gd C fz I [] [] { s with toks := s.toks + 1 })
    (rv : VRs I [] args [v0]) (he : F 27 args [] = some (v, []))
    (ho : s.heap.get? a = some o) (h3 : o.data = .func fd) (h4 : fd.body = .stmts body) (h6 : fd.closure = []) (h7 : fd.globals = mainGlobals) (h8 : fd.builtins = builtinsNs) (h9 : s.heap.CodeRec fd.code fd.qualname) (h11 : bindArgs fd ⟨[v0], []⟩ = pure [(nScr, v0)])
    (hc : ChkF [nScr] fd.scope fn27) (hb : chkBs (chkS 60 false fd.scope.names) fn27.body body = true) (hl : fd.scope.names.lookup nScr = some .local)
    (q : ∀ I' s' y, I.le I' → Gd C fz I' [] [] s' → VR I' [] v y → Q y s') : wpAny (model C.prog C.w) A (PySem.call (.ref a) [v0]) Q E s := by
  obtain ⟨m', hm', hF⟩ := T.defs 27 fn27 rfl
  cases Nat.succ.inj (hm'.symm.trans hm)
  have kp : ∀ b o, C.h₀.get? b = some o → s.heap.get? b = some o := fun b o e => g.rd b o (g.base b o e)
  refine exFn_elim (G := fun v c => (∀ I' s' y, I.le I' → Gd C fz I' [] c s' → VR I' [] v y → Q y s') → _) rfl (hF he) (fun fl vars' c1 w' hlen e1 e2 q => ?_) q
  refine wpAny_call (codeAny_call_function (deep4 r.2.1) ho h3 hc.h2 hc.h3 h4 h9 ?_)
  rw [h11, h6]
  refine wpAny_pure (newEnv1 hc.h1 hl fun env he s' x' hp => ?_)
  subst he
  refine ⟨(x.g0.nolimit.keeps kp).keeps x'.toInCall.keep, codeAny_func ?_⟩
  obtain ⟨fm, d1, d2, t⟩ := door (s := { s with toks := s.toks + 1 }) (fd := fd) (a := a) hc rfl h7 h8 g rv hlen ⟨⟨x'.toInCall.same, x'.toInCall.ns, x'.toInCall.keep, x'.toInCall.fresh⟩, x'.cell, x'.apart, x'.above⟩ hp fi
  have hfr : fm.env.frame = some fm.env.locals := by rw [d1]; rfl
  have X : ExOk (C.fsw (fm.env :: C.fl)) F rank fu m := ex_all m (calls_ok T m) _ (x.fsw _)
  have key : wpAny (model C.prog C.w) (A.deeper fm.env) (execs body fm.env) (fun f s' => Q (match f with | .ret v => v | _ => .none) s') (fun _ _ => False) s' := by
    refine exs_ok (C := C.fsw (fm.env :: C.fl)) (tw := false) X (fun h => nomatch h) (r.deeper fm.env) (by rw [d2]; exact hb) t e1 fun I' as' s' fo l xx t' fr => ?_
    exact freeze_ok (as := []) (c := []) (t'.toGd.fout fun b hb => Option.some.inj (hfr.symm.trans hb) ▸ (t'.mu _ t'.ok.loc).2.1) xx rfl e2 fr fun I2 l2 g2 v2 => q I2 s' _ (l.trans l2) g2 v2
  have d1' : fm.env = callEnvC fd s.heap.objs.size a := d1
  rw [d1'] at key
  exact wpAny_mono key (fun _ _ h => h) fun _ _ h => h.elim
end
end Mine
end
section
open PySem PySem.Calls PySem.W PySem.Flt PyProof.Rows PySem.SeqAt
set_option maxRecDepth 100000
namespace Mine
noncomputable def Answers : Prop := ∀ script : List Int, script.length ≤ 63 → ∃ F rank fu m, Tab F rank fu ∧ rank 27 = m + 1 ∧ m ≤ 300 ∧ F 27 [nums script] [] = some (.d (.bool true), [])
theorem ints_drs {I : Im} {vs : List Value} {ns : List Int} (h : IntsAre vs ns) : DRs I (ns.map .int) vs := by
  induction h with
  | nil => exact .nil
  | cons i t _ ih => exact .cons (.mkInt i t) ih
set_option maxHeartbeats 0 in
theorem walk (H : Answers) {d : DefRec} {kwd : List (Str × PySem.Expr)} (hdn : d.name = nLaw) : WalkO qV qL (fun mg h => XL qV [] mg h ∧ TwX mg h) Hook.none.says qR.toRowW d kwd fun f vs => PySem.call f vs := by
  intro w s₀ s₁ mg mb G Y fa o pm cd doc dV kV ho hd hcd hD hmg hg args vals as hpre hlay hrd hwl hlo
  have T := G.T
  have X := G.X
  wrow_args hpre hlay hrd hwl hlo
  rename_i scr hs hlay0 hL1 hr1 hl2 w4 w3 la items w0 hL ra w1 r0 hI hrr hc1 hc2
  obtain ⟨F, rank, fu, m, tabF, hrank, hm300, hans⟩ := H scr (by omega)
  cases facts_of T X.2 with | mk P cP htab hfacts =>
  have x := hfacts qR.prog w s₁.os
  have hP : s₁.heap.get? P = some (tabObj #[]) := htab.2
  obtain ⟨o3, e3, hc3, n3, hd3⟩ := hL
  have hla : la ≠ P := fun q => by rw [q, hP] at e3; cases e3; cases hd3
  have hw : s₁.heap.get? la = some { cls := .type "list", data := .seq items.toArray } := by
    have w2 : Well w.params s₁.heap (.ref la) (.list (ofPys (scr.map PyData.int))) := w1
    cases w2 with
    | list h1 h2 =>
      rw [h1] at e3; cases e3
      simp only at hd3
      injection hd3 with h3 _
      rw [← h3]; exact h1
  refine seen_is law_seen fun dd ps hdd hdm hdnm hps hc => ?_
  have p1 := an hc
  have p2 := an p1.1
  have p3 := an p2.1
  rw [dc p3.1] at hps
  obtain ⟨a, o', pm', code', doc', f1, f2, f3, f4⟩ := T.fn dd hdm
  rw [hdnm, ← hdn, hmg] at f1
  cases f1
  rw [ho] at f2; cases f2
  let C : Cx := cxOf qR.prog w s₁.os mg mb s₁.heap P
  let I : Im := { rd := (hideAll s₁.heap [P]).get?, st := 0 }
  let fz : Fz := fun b => if b = P then some (tabObj #[]) else none
  have gd : Gd C fz I [] [] { s₁ with toks := s₁.toks + 1 } := {
    rd := fun b o e => of_hideAll _ e
    fr := fun b o hb e => noS ((if_neg hb).symm.trans e)
    dj := fun b o e => by
      by_cases hb : b = P
      · exact hb ▸ hideAll_none _ (List.mem_singleton.mpr rfl)
      · exact noS ((if_neg hb).symm.trans e)
    fas := fun b hb => nomatch hb
    base := fun b o e => e
    cel := .nil
    gens := ⟨AllBare.of_eq hg, fun i g e => nomatch e⟩
    os := rfl
    pos := Nat.succ_pos _
    tfz := fun h => noS (h.symm.trans (if_pos rfl))
    tab := ⟨#[], hP, .inl rfl⟩ }
  have rv : VRs I [] [nums scr] [.ref la] := ⟨_, [], rfl, SeqR.mk 0 (by rw [List.length_map]; omega) (keepH hP hw (fun q => nomatch q)) (ints_drs hI), rfl⟩
  refine law_call (C := C) (fz := fz) (I := I) x tabF hrank ⟨rfl, ?_, ?_, rfl⟩ (fun env he => nomatch he) gd rv hans ho f3 rfl rfl rfl rfl f4 (bind_pars hps dd.name dd.body dd.scope pm' code' doc' [.ref la] rfl) (chkF_is p3.2) p2.2 (dc p1.2) fun I' s' y l g' ry => ?_
  · show 1 + claimMargin + 2 * (m + 1) ≤ 990
    have : claimMargin = 300 := rfl
    omega
  · show 4 + 20 * (m + 1) ≤ 9900
    omega
  · simp only [VR, DR] at ry
    subst ry
    refine ⟨.inl ⟨_, .bool true, [], rfl, fun cls => rfl, .bool true, ?_, fun _ => ⟨List.nodup_nil, fun a ha => nomatch ha⟩⟩, ?_, g'.os, g'.gens.1⟩
    · wrow_post
    · have hb : ∀ b o, s₁.heap.get? b = some o → b ≠ P → s'.heap.get? b = some o := fun b o e n => g'.rd _ _ (g'.base _ _ (hideAll_get _ e fun m => n (List.mem_singleton.mp m)))
      obtain ⟨ps, eP, _⟩ := g'.tab
      have eP' : s'.heap.get? P = some (tabObj ps) := eP
      refine ⟨fun b o e => ?_, fun b o e => ?_⟩
      · by_cases h : b = P
        · subst h
          rw [hP] at e; cases e
          exact .inr (.inl ⟨htab.isCodeTable, rfl, #[], ps, rfl, by simpa using eP'⟩)
        · exact .inl (hb b o e h)
      · by_cases h : b = P
        · subst h; exact ⟨_, eP'⟩
        · exact ⟨o, hb b o e h⟩
end Mine
end
section
open PySem PySem.Calls PySem.W PySem.Flt PyProof.Rows PySem.SeqAt
set_option maxRecDepth 100000
namespace Mine
theorem law_the : (find nLaw).map (fun d => (d.params, d.body, d.scope)) = qR.prog.theDef qR.name := by kernel_rfl
theorem law_name : qR.name = nLaw := by decide +kernel
theorem law_kw : (find nLaw).map (fun d => kwWritten? d.params.kwonlyargs d.params.kw_defaults) = some (some []) := by kernel_rfl
theorem law_def : (find nLaw).map (fun d => (d, ([] : List (Str × PySem.Expr)))) = defOf qV qR.name := by kernel_rfl
theorem holds_of (H : Answers) : PySem.Challenge.rw_kl0421_01.Holds := seen_is law_seen fun dd _ hdd _ hnm _ _ => by
  have h1 := law_the
  have h2 := law_kw
  have h3 := law_def
  rw [hdd] at h1 h2 h3
  exact hd h3.symm h1.symm (Option.some.inj h2) (walk H hnm)
end Mine
end
section
open PySem PySem.W PyProof.Rows
namespace Mine
theorem vset_self {vs : Vars} {x : Nat} {v : V} (h : vget vs x = some v) : vset x v vs = vs := funext fun y => (vget_vset x v vs y).trans (by
  by_cases e : y = x
  · rw [if_pos e, e]; exact h.symm
  · exact if_neg e)
theorem vset2 {vs : Vars} {x : Nat} {v w : V} : vset x v (vset x w vs) = vset x v vs := funext fun y => by
  show (bif Nat.beq y x then some v else bif Nat.beq y x then some w else vs y) = bif Nat.beq y x then some v else vs y
  cases Nat.beq y x <;> rfl
theorem strsOf_map (l : List (List Nat)) : strsOf (l.map .str) = some l := by
  induction l with
  | nil => rfl
  | cons x r ih => exact congrArg (Option.map (x :: ·)) ih
theorem intsOf_map (l : List Int) : intsOf (l.map .int) = some l := by
  induction l with
  | nil => rfl
  | cons x r ih => exact congrArg (Option.map (x :: ·)) ih
theorem ok_of {n : Nat} (h : n ≤ 1000000) : strOk n = true := decide_eq_true h
section
variable {F : FT} {rank : Nat → Nat} {fu n N : Nat} {vs vs1 vs' : Vars} {c c1 c2 c' : Cells} {g : MS → Vars → Cells → Option (Fl × Vars × Cells)} {s : MS} {r : List MS} {x : Option (Fl × Vars × Cells)}
  {b : Vars → Cells → Option (Fl × Vars × Cells)} {t : Vars → Cells → Option (Bool × Cells)} {xs : List Nat} {p : Bool} {d : D} {ds : List D} {v v1 v2 : V} {e e1 e2 : ME} {sa sb : List MS}
theorem sq (h : g s vs c = some (.next, vs', c')) (k : exs g r vs' c' = x) : exs g (s :: r) vs c = x := (congrArg (Option.bind · (after (exs g r))) h).trans k
theorem sqR (h : g s vs c = some (.ret v, vs', c')) : exs g (s :: r) vs c = some (.ret v, vs', c') := congrArg (Option.bind · (after (exs g r))) h
theorem sqB (h : g s vs c = some (.brk, vs', c')) : exs g (s :: r) vs c = some (.brk, vs', c') := congrArg (Option.bind · (after (exs g r))) h
theorem sqC (h : g s vs c = some (.cont, vs', c')) : exs g (s :: r) vs c = some (.cont, vs', c') := congrArg (Option.bind · (after (exs g r))) h
theorem sq1 (h : g s vs c = some (.next, vs', c')) : exs g [s] vs c = some (.next, vs', c') := sq h rfl
theorem asg {y : Nat} (h : ev F rank n e vs c = some (v, c')) : ex F rank fu (n + 1) (.assign y e) vs c = some (.next, vset y v vs, c') := congrArg (Option.map fun (z : V × Cells) => (Fl.next, vset y z.1 vs, z.2)) h
theorem ret (h : ev F rank n e vs c = some (v, c')) : ex F rank fu (n + 1) (.ret (some e)) vs c = some (.ret v, vs, c') := congrArg (Option.map fun (z : V × Cells) => (Fl.ret z.1, vs, z.2)) h
theorem trI {q : Bool} (h : ev F rank n e vs c = some (.d (.bool q), c')) : tr F rank n e vs c = some (q, c') := congrArg (Option.bind · fun (z : V × Cells) => (truth z.2 z.1).map fun b => (b, z.2)) h
theorem ifQ {q : Bool} (h : tr F rank n e vs c = some (q, c')) (k : exs (ex F rank fu n) (bif q then sa else sb) vs c' = x) : ex F rank fu (n + 1) (.ifs e sa sb) vs c = x := by
  cases q with
  | true => exact (congrArg (Option.bind · fun (z : Bool × Cells) => if z.1 then exs (ex F rank fu n) sa vs z.2 else exs (ex F rank fu n) sb vs z.2) h).trans k
  | false => exact (congrArg (Option.bind · fun (z : Bool × Cells) => if z.1 then exs (ex F rank fu n) sa vs z.2 else exs (ex F rank fu n) sb vs z.2) h).trans k
theorem fo (h1 : bindPat xs p d vs = some vs1) (h2 : b vs1 c = some (.next, vs', c')) (k : forRun b xs p ds vs' c' = x) : forRun b xs p (d :: ds) vs c = x :=
  (congrArg (Option.bind · fun vs => (b vs c).bind (turn' (forRun b xs p ds))) h1).trans ((congrArg (Option.bind · (turn' (forRun b xs p ds))) h2).trans k)
theorem foR (h1 : bindPat xs p d vs = some vs1) (h2 : b vs1 c = some (.ret v, vs', c')) : forRun b xs p (d :: ds) vs c = some (.ret v, vs', c') :=
  (congrArg (Option.bind · fun vs => (b vs c).bind (turn' (forRun b xs p ds))) h1).trans (congrArg (Option.bind · (turn' (forRun b xs p ds))) h2)
theorem wh0 (h : t vs c = some (false, c')) : whl t b (N + 1) vs c = some (.next, vs, c') := congrArg (Option.bind · fun (z : Bool × Cells) => if z.1 then (b vs z.2).bind (turn' (whl t b N)) else some (.next, vs, z.2)) h
theorem wh' {y : Option (Fl × Vars × Cells)} (h1 : t vs c = some (true, c1)) (h2 : b vs c1 = y) (k : y.bind (turn' (whl t b N)) = x) : whl t b (N + 1) vs c = x :=
  (congrArg (Option.bind · fun (z : Bool × Cells) => if z.1 then (b vs z.2).bind (turn' (whl t b N)) else some (.next, vs, z.2)) h1).trans ((congrArg (Option.bind · (turn' (whl t b N))) h2).trans k)
theorem wh (h1 : t vs c = some (true, c1)) (h2 : b vs c1 = some (.next, vs', c')) (k : whl t b N vs' c' = x) : whl t b (N + 1) vs c = x := wh' h1 h2 k
theorem whC (h1 : t vs c = some (true, c1)) (h2 : b vs c1 = some (.cont, vs', c')) (k : whl t b N vs' c' = x) : whl t b (N + 1) vs c = x := wh' h1 h2 k
theorem whB (h1 : t vs c = some (true, c1)) (h2 : b vs c1 = some (.brk, vs', c')) : whl t b (N + 1) vs c = some (.next, vs', c') := wh' h1 h2 rfl
theorem forS {it : ME} {l : List D} (h : itemsOf F rank n it vs c = some (l, c')) (k : forRun (exs (ex F rank fu n) sa) xs p l vs c' = x) : ex F rank fu (n + 1) (.for xs p it sa) vs c = x := (congrArg (Option.bind · fun (z : List D × Cells) => forRun (exs (ex F rank fu n) sa) xs p z.1 vs z.2) h).trans k
theorem fnI {f : Fn} {args : List V} {fl : Fl} {w : V} (hs : f.star = none) (hl : (f.params.length != args.length) = false) (h : exs (ex F rank fu n) f.body (vof (f.params.zip args)) c = some (fl, vs', c')) (h2 : freeze c' c.length fl = some w) (h3 : c'.take c.length = c2) : exFn F rank fu n f args c = some (w, c2) := by
  unfold exFn
  rw [hl, hs]
  exact (congrArg (Option.bind · fun (z : Fl × Vars × Cells) => (freeze z.2.2 c.length z.1).map fun v => (v, z.2.2.take c.length)) h).trans ((congrArg (Option.map fun v => (v, c'.take c.length)) h2).trans (congrArg (fun l => some (w, l)) h3))
theorem fnD {f : Fn} {args : List V} {y : D} (hs : f.star = none) (hl : (f.params.length != args.length) = false) (h : exs (ex F rank fu n) f.body (vof (f.params.zip args)) c = some (.ret (.d y), vs', c)) : exFn F rank fu n f args c = some (.d y, c) := fnI hs hl h rfl List.take_length
theorem bi {o : BO} {r : D} (h1 : ev F rank n e1 vs c = some (v1, c1)) (h2 : ev F rank n e2 vs c1 = some (v2, c2)) (h3 : binV c2 o v1 v2 = some r) : ev F rank (n + 1) (.bin o e1 e2) vs c = some (.d r, c2) :=
  (congrArg (Option.bind · fun (z : V × Cells) => (ev F rank n e2 vs z.2).bind fun y => (binV y.2 o z.1 y.1).map fun r => (V.d (id r), y.2)) h1).trans ((congrArg (Option.bind · fun (y : V × Cells) => (binV y.2 o v1 y.1).map fun r => (V.d (id r), y.2)) h2).trans (congrArg (Option.map fun r => (V.d (id r), c2)) h3))
theorem cmR {o : CO} {r : Bool} (h1 : ev F rank n e1 vs c = some (v1, c1)) (h2 : ev F rank n e2 vs c1 = some (v2, c2)) (h3 : cmpV c2 o v1 v2 = some r) : ev F rank (n + 1) (.cmp o e1 e2) vs c = some (.d (.bool r), c2) :=
  (congrArg (Option.bind · fun (z : V × Cells) => (ev F rank n e2 vs z.2).bind fun y => (cmpV y.2 o z.1 y.1).map fun r => (V.d (.bool r), y.2)) h1).trans ((congrArg (Option.bind · fun (y : V × Cells) => (cmpV y.2 o v1 y.1).map fun r => (V.d (.bool r), y.2)) h2).trans (congrArg (Option.map fun r => (V.d (.bool r), c2)) h3))
theorem sbD {r : D} (h1 : ev F rank n e1 vs c = some (v1, c1)) (h2 : ev F rank n e2 vs c1 = some (v2, c2)) (h3 : subV c2 v1 v2 = some r) : ev F rank (n + 1) (.sub e1 e2) vs c = some (.d r, c2) :=
  (congrArg (Option.bind · fun (z : V × Cells) => (ev F rank n e2 vs z.2).bind fun y => (subV y.2 z.1 y.1).map fun r => (V.d (id r), y.2)) h1).trans ((congrArg (Option.bind · fun (y : V × Cells) => (subV y.2 v1 y.1).map fun r => (V.d (id r), y.2)) h2).trans (congrArg (Option.map fun r => (V.d (id r), c2)) h3))
theorem itQ {q : Bool} {y : Option (V × Cells)} (h : tr F rank n e vs c = some (q, c1)) (k : ev F rank n (bif q then e1 else e2) vs c1 = y) : ev F rank (n + 1) (.ite e e1 e2) vs c = y := by
  obtain ⟨z, h1, h⟩ := Option.bind_eq_some_iff.mp h
  obtain ⟨q', h2, h⟩ := Option.map_eq_some_iff.mp h
  cases h
  refine (congrArg (Option.bind · fun (z : V × Cells) => (truth z.2 z.1).bind fun t => if t then ev F rank n e1 vs z.2 else ev F rank n e2 vs z.2) h1).trans ((congrArg (Option.bind · fun t => if t = true then ev F rank n e1 vs z.2 else ev F rank n e2 vs z.2) h2).trans ?_)
  cases q with
  | true => exact k
  | false => exact k
theorem vr {y : Nat} (h : vget vs y = some v) : ev F rank (n + 1) (.var y) vs c = some (v, c) := congrArg (Option.map (·, c)) h
theorem lnR {k : Nat} (h1 : ev F rank n e vs c = some (v, c1)) (h2 : lenV c1 v = some k) : ev F rank (n + 1) (.len e) vs c = some (.d (.int (Int.ofNat k)), c1) :=
  (congrArg (Option.bind · fun (z : V × Cells) => (lenV z.2 z.1).map fun r => (V.d (D.int (Int.ofNat r)), z.2)) h1).trans (congrArg (Option.map fun (r : Nat) => (V.d (D.int (Int.ofNat r)), c1)) h2)
theorem es1 {gg : ME → Cells → Option (V × Cells)} {es : List ME} {ws : List V} (h1 : gg e c = some (v, c1)) (h2 : evs gg es c1 = some (ws, c2)) : evs gg (e :: es) c = some (v :: ws, c2) :=
  (congrArg (Option.bind · fun (z : V × Cells) => (evs gg es z.2).bind fun y => some (z.1 :: y.1, y.2)) h1).trans (congrArg (Option.bind · fun (y : List V × Cells) => some (v :: y.1, y.2)) h2)
theorem tupR {l : List ME} {ws : List V} {r : List D} (h1 : evs (fun e c => ev F rank n e vs c) l c = some (ws, c1)) (h2 : dsOf ws = some r) : ev F rank (n + 1) (.tup l) vs c = some (.d (.tup r), c1) :=
  (congrArg (Option.bind · fun (z : List V × Cells) => (dsOf z.1).bind fun l => some (V.d (.tup l), z.2)) h1).trans (congrArg (Option.bind · fun l => some (V.d (.tup l), c1)) h2)
theorem listR {l : List ME} {ws : List V} {r : List D} (h1 : evs (fun e c => ev F rank n e vs c) l c = some (ws, c1)) (h2 : dsOf ws = some r) : ev F rank (n + 1) (.list l) vs c = some (.d (.list r), c1) :=
  (congrArg (Option.bind · fun (z : List V × Cells) => (dsOf z.1).bind fun l => some (V.d (.list l), z.2)) h1).trans (congrArg (Option.bind · fun l => some (V.d (.list l), c1)) h2)
theorem callR {f : Nat} {l : List ME} {ws : List V} {w : V × Cells} (h1 : evs (fun e c => ev F rank n e vs c) l c = some (ws, c1)) (hr : Nat.ble (rank f) n = true) (h2 : F f ws c1 = some w) : ev F rank (n + 1) (.call f l) vs c = some w :=
  (congrArg (Option.bind · fun (z : List V × Cells) => if Nat.ble (rank f) n then F f z.1 z.2 else none) h1).trans ((if_pos hr).trans h2)
theorem call1R {f : Nat} {w : V × Cells} (h1 : ev F rank n e vs c = some (v, c1)) (hr : Nat.ble (rank f) n = true) (h2 : F f [v] c1 = some w) : ev F rank (n + 1) (.call f [e]) vs c = some w := callR (es1 h1 rfl) hr h2
theorem get_last {a : List D} : (c ++ [a])[c.length]? = some a := by rw [List.getElem?_append_right (Nat.le_refl _), Nat.sub_self]; rfl
theorem set_last {a b : List D} : (c ++ [a]).set c.length b = c ++ [b] := by rw [List.set_append_right _ _ (Nat.le_refl _), Nat.sub_self]; rfl
theorem take_last {c x : Cells} : (c ++ x).take c.length = c := List.take_left
theorem mthL {y : Nat} {acc : List D} {w : D} (hv : vget vs y = some (.loc c.length)) (h : ev F rank n e vs (c ++ [acc]) = some (.d w, c ++ [acc])) (ho : strOk (acc.length + 1) = true) : ex F rank fu (n + 1) (.meth y e) vs (c ++ [acc]) = some (.next, vs, c ++ [acc ++ [w]]) := by
  have e : appV (c ++ [acc]) c.length w = some (c ++ [acc ++ [w]]) := (congrArg (Option.bind · fun (l : List D) => if strOk (l.length + 1) then some ((c ++ [acc]).set c.length (l ++ [w])) else none) get_last).trans ((if_pos ho).trans (congrArg some set_last))
  exact (congrArg (Option.bind · fun (z : V) => (optLoc z).bind fun k => (ev F rank n _ vs (c ++ [acc])).bind fun y => (dOf y.1).bind fun d => (appV y.2 k d).map fun c => (Fl.next, vs, c)) hv).trans
    ((congrArg (Option.bind · fun (y : V × Cells) => (dOf y.1).bind fun d => (appV y.2 c.length d).map fun c => (Fl.next, vs, c)) h).trans (congrArg (Option.map fun c => (Fl.next, vs, c)) e))
theorem newL {y : Nat} {l : List D} (h : ev F rank n e vs c = some (.d (.list l), c')) : ex F rank fu (n + 1) (.newlist y e) vs c = some (.next, vset y (.loc c'.length) vs, c' ++ [l]) := congrArg (Option.bind · fun (z : V × Cells) => (optList z.1).map fun l => (Fl.next, vset y (.loc z.2.length) vs, z.2 ++ [l])) h
theorem lnL {acc : List D} : lenV (c ++ [acc]) (.loc c.length) = some acc.length := congrArg (Option.map List.length) get_last
theorem frz_last {a : List D} : freeze (c ++ [a]) c.length (.ret (.loc c.length)) = some (.d (.list a)) := (if_pos (Nat.ble_self_eq_true c.length)).trans (congrArg (Option.map fun l => V.d (.list l)) get_last)
theorem forE {y z : Nat} {w : List Nat} (h : ev F rank n e vs c = some (.d (.str w), c')) (ho : strOk w.length = true) (k : forRun (exs (ex F rank fu n) sa) [y, z] true (escD w) vs c' = x) : ex F rank fu (n + 1) (.forEsc y z e sa) vs c = x :=
  (congrArg (Option.bind · fun (u : V × Cells) => (optStr u.1).bind fun t => if strOk t.length then forRun (exs (ex F rank fu n) sa) [y, z] true (escD t) vs u.2 else none) h).trans ((if_pos ho).trans k)
theorem repl_ok {w q : List Nat} (p : List Nat) (h1 : strOk w.length = true) (h2 : strOk (replS w p q).length = true) (h3 : (!(p == q) && decide (q.length ≤ 14)) = true) : replV w p q = some (replS w p q) := if_pos (by rw [h1, h2, Bool.true_and, h3]; rfl)
theorem mu0 {gg : ME → Cells → Option (V × Cells)} {y : Nat} {ts : List (Nat × Bool × ME)} {w : List (Nat × V)} (h : gg e c = some (v, c1)) (k : multiEv gg ts c1 = some (w, c2)) : multiEv gg ((y, false, e) :: ts) c = some ((y, v) :: w, c2) :=
  (congrArg (Option.bind · fun (z : V × Cells) => (multiEv gg ts z.2).map fun (w : List (Nat × V) × Cells) => ((y, z.1) :: w.1, w.2)) h).trans (congrArg (Option.map fun (w : List (Nat × V) × Cells) => ((y, v) :: w.1, w.2)) k)
theorem mu1 {gg : ME → Cells → Option (V × Cells)} {y : Nat} {ts : List (Nat × Bool × ME)} {l : List D} {w : List (Nat × V)} (h : gg e c = some (.d (.list l), c1)) (k : multiEv gg ts (c1 ++ [l]) = some (w, c2)) : multiEv gg ((y, true, e) :: ts) c = some ((y, .loc c1.length) :: w, c2) :=
  (congrArg (Option.bind · fun (z : V × Cells) => (optList z.1).bind fun l => (multiEv gg ts (z.2 ++ [l])).map fun (w : List (Nat × V) × Cells) => ((y, V.loc z.2.length) :: w.1, w.2)) h).trans (congrArg (Option.map fun (w : List (Nat × V) × Cells) => ((y, V.loc c1.length) :: w.1, w.2)) k)
theorem muS {ts : List (Nat × Bool × ME)} {w : List (Nat × V)} (h : multiEv (fun e c => ev F rank n e vs c) ts c = some (w, c')) : ex F rank fu (n + 1) (.multi ts) vs c = some (.next, vsets w vs, c') := congrArg (Option.map fun (z : List (Nat × V) × Cells) => (Fl.next, vsets z.1 vs, z.2)) h
theorem slR {lo hi : Option ME} {l h : Option Int} {r : D} (h1 : ev F rank n e vs c = some (v, c)) (h2 : op1 (ev F rank n) lo vs c = some (l, c)) (h3 : op1 (ev F rank n) hi vs c = some (h, c)) (h4 : cutV c v l h = some r) : ev F rank (n + 1) (.slice e lo hi) vs c = some (.d r, c) :=
  (congrArg (Option.bind · fun (z : V × Cells) => (op1 (ev F rank n) lo vs z.2).bind fun l => (op1 (ev F rank n) hi vs l.2).bind fun h => (cutV h.2 z.1 l.1 h.1).map fun r => (V.d r, h.2)) h1).trans
    ((congrArg (Option.bind · fun (l : Option Int × Cells) => (op1 (ev F rank n) hi vs l.2).bind fun h => (cutV h.2 v l.1 h.1).map fun r => (V.d r, h.2)) h2).trans
      ((congrArg (Option.bind · fun (h : Option Int × Cells) => (cutV h.2 v l h.1).map fun r => (V.d r, h.2)) h3).trans (congrArg (Option.map fun r => (V.d r, c)) h4)))
theorem addL_last {a w : List D} (h : strOk (a.length + w.length) = true) : binV (c ++ [a]) .add (.loc c.length) (.d (.list w)) = some (.list (a ++ w)) := (congrArg (Option.bind · fun (l : List D) => if strOk (l.length + w.length) then some (D.list (l ++ w)) else none) get_last).trans (if_pos h)
theorem cpR {y : Nat} {it : ME} {cnd : Option ME} {l r : List D} (hi : itemsOf F rank n it vs c = some (l, c1)) (h : compRun (elT (ev F rank n) e y cnd vs) l c1 = some (r, c2)) (ho : strOk r.length = true) : ev F rank (n + 1) (.comp e y it cnd) vs c = some (.d (.list r), c2) :=
  (congrArg (Option.bind · fun (l : List D × Cells) => (compRun (elT (ev F rank n) e y cnd vs) l.1 l.2).bind fun r => if strOk r.1.length then some (V.d (.list r.1), r.2) else none) hi).trans
    ((congrArg (Option.bind · fun (r : List D × Cells) => if strOk r.1.length then some (V.d (.list r.1), r.2) else none) h).trans (if_pos ho))
theorem cp2R {y z : Nat} {it it2 : ME} {l r : List D} (hz : (vget vs z).isSome = false) (hi : itemsOf F rank n it vs c = some (l, c1)) (h : compRun (elP (ev F rank n) e y z it2 vs) l c1 = some (r, c2)) (ho : strOk r.length = true) : ev F rank (n + 1) (.comp2 e y it z it2) vs c = some (.d (.list r), c2) :=
  (if_neg (Bool.eq_false_iff.mp hz)).trans ((congrArg (Option.bind · fun (l : List D × Cells) => (compRun (elP (ev F rank n) e y z it2 vs) l.1 l.2).bind fun r => if strOk r.1.length then some (V.d (.list r.1), r.2) else none) hi).trans
    ((congrArg (Option.bind · fun (r : List D × Cells) => if strOk r.1.length then some (V.d (.list r.1), r.2) else none) h).trans (if_pos ho)))
theorem elV {y : Nat} {r : D} (h : ev F rank n e (vset y (.d d) vs) c = some (.d r, c1)) : elT (ev F rank n) e y none vs d c = some ([r], c1) := congrArg (Option.bind · fun (z : V × Cells) => (dOf z.1).map fun r' => ([r'], z.2)) h
theorem elQ {y : Nat} {r : D} {q : Bool} (h : tr F rank n e1 (vset y (.d d) vs) c = some (q, c1)) (k : ev F rank n e (vset y (.d d) vs) c1 = some (.d r, c1)) : elT (ev F rank n) e y (some e1) vs d c = some (bif q then [r] else [], c1) := by
  obtain ⟨z, h1, h⟩ := Option.bind_eq_some_iff.mp h
  obtain ⟨q', h2, h⟩ := Option.map_eq_some_iff.mp h
  cases h
  refine (congrArg (Option.bind · fun (z : V × Cells) => (truth z.2 z.1).bind fun t => if t then elE (ev F rank n) e y vs d z.2 else some ([], z.2)) h1).trans ((congrArg (Option.bind · fun t => if t = true then elE (ev F rank n) e y vs d z.2 else some ([], z.2)) h2).trans ?_)
  cases q with
  | true => exact congrArg (Option.bind · fun (z : V × Cells) => (dOf z.1).map fun r' => ([r'], z.2)) k
  | false => rfl
theorem jn0 {l : List D} {ws : List (List Nat)} (h1 : ev F rank (n + 1) e vs c = some (v, c1)) (h2 : listOfV c1 v = some l) (h3 : strsOf l = some ws) (h4 : joinV [] ws = some ws.flatten) : ev F rank (n + 2) (.join (.str []) e) vs c = some (.d (.str ws.flatten), c1) :=
  (congrArg (Option.bind · fun (y : V × Cells) => ((listOfV y.2 y.1).bind fun l => (strsOf l).bind (joinV [])).map fun r => (V.d (.str r), y.2)) h1).trans ((congrArg (fun (o : Option (List D)) => (o.bind fun l => (strsOf l).bind (joinV [])).map fun r => (V.d (.str r), c1)) h2).trans
    ((congrArg (fun (o : Option (List (List Nat))) => (o.bind (joinV [])).map fun r => (V.d (.str r), c1)) h3).trans (congrArg (Option.map fun r => (V.d (.str r), c1)) h4)))
theorem sumR {l : List Int} (h : ev F rank n e vs c = some (.d (.list (l.map .int)), c1)) : ev F rank (n + 1) (.sum e) vs c = some (.d (.int l.sum), c1) :=
  (congrArg (Option.bind · fun (x : V × Cells) => ((listOfV x.2 x.1).bind fun l => (intsOf l).map List.sum).map fun r => (V.d (.int r), x.2)) h).trans (congrArg (fun (o : Option (List Int)) => (o.map List.sum).map fun r => (V.d (.int r), c1)) (intsOf_map l))
theorem mulS {k : Nat} {b : Int} (h1 : -1000000 < b) (h2 : b < 1000000) : binV c .mul (.d (.str [k])) (.d (.int b)) = some (.str (List.replicate b.toNat k)) := if_pos (by rw [decide_eq_true h1, decide_eq_true h2]; rfl)
theorem addS {a b : List Nat} (h : a.length + b.length ≤ 1000000) : binV c .add (.d (.str a)) (.d (.str b)) = some (.str (a ++ b)) := if_pos (ok_of h)
theorem elE1 {y : Nat} {r : D} (h : ev F rank n e (vset y (.d d) vs) c = some (.d r, c1)) : elE (ev F rank n) e y vs d c = some ([r], c1) := congrArg (Option.bind · fun (z : V × Cells) => (dOf z.1).map fun r' => ([r'], z.2)) h
theorem trV {q : Bool} (h : ev F rank n e vs c = some (v, c1)) (ht : truth c1 v = some q) : tr F rank n e vs c = some (q, c1) := (congrArg (Option.bind · fun (z : V × Cells) => (truth z.2 z.1).map fun b => (b, z.2)) h).trans (congrArg (Option.map (·, c1)) ht)
theorem tr_ev {q : Bool} {G : Prop} (h : tr F rank n e vs c = some (q, c1)) (k : ∀ v, ev F rank n e vs c = some (v, c1) → truth c1 v = some q → G) : G := by
  obtain ⟨z, h1, h⟩ := Option.bind_eq_some_iff.mp h
  obtain ⟨q', h2, h⟩ := Option.map_eq_some_iff.mp h
  cases h
  exact k z.1 h1 h2
theorem noQ {q : Bool} (h : tr F rank n e vs c = some (q, c1)) : ev F rank (n + 1) (.not e) vs c = some (.d (.bool (!q)), c1) :=
  tr_ev h fun v h1 h2 => (congrArg (Option.bind · fun (z : V × Cells) => ((truth z.2 z.1).map not).map fun r => (V.d (.bool r), z.2)) h1).trans (congrArg (fun o : Option Bool => (o.map not).map fun r => (V.d (.bool r), c1)) h2)
theorem anT {y : Option (V × Cells)} (h : tr F rank n e1 vs c = some (true, c1)) (k : ev F rank n e2 vs c1 = y) : ev F rank (n + 1) (.and e1 e2) vs c = y :=
  tr_ev h fun v h1 h2 => (congrArg (Option.bind · fun (z : V × Cells) => (truth z.2 z.1).bind fun t => if t then ev F rank n e2 vs z.2 else some (z.1, z.2)) h1).trans ((congrArg (Option.bind · fun (t : Bool) => if t then ev F rank n e2 vs c1 else some (v, c1)) h2).trans k)
theorem anF (h : ev F rank n e1 vs c = some (.d (.bool false), c1)) : ev F rank (n + 1) (.and e1 e2) vs c = some (.d (.bool false), c1) := congrArg (Option.bind · fun (z : V × Cells) => (truth z.2 z.1).bind fun t => if t then ev F rank n e2 vs z.2 else some (z.1, z.2)) h
theorem orF {y : Option (V × Cells)} (h : tr F rank n e1 vs c = some (false, c1)) (k : ev F rank n e2 vs c1 = y) : ev F rank (n + 1) (.or e1 e2) vs c = y :=
  tr_ev h fun v h1 h2 => (congrArg (Option.bind · fun (z : V × Cells) => (truth z.2 z.1).bind fun t => if t then some (z.1, z.2) else ev F rank n e2 vs z.2) h1).trans ((congrArg (Option.bind · fun (t : Bool) => if t then some (v, c1) else ev F rank n e2 vs c1) h2).trans k)
theorem orT (h : ev F rank n e1 vs c = some (.d (.bool true), c1)) : ev F rank (n + 1) (.or e1 e2) vs c = some (.d (.bool true), c1) := congrArg (Option.bind · fun (z : V × Cells) => (truth z.2 z.1).bind fun t => if t then some (z.1, z.2) else ev F rank n e2 vs z.2) h
theorem adL {y : Nat} {acc : List D} {w : D} (hv : vget vs y = some (.app c.length)) (h : ev F rank n e vs (c ++ [acc]) = some (.d w, c ++ [acc])) (ho : strOk (acc.length + 1) = true) : ex F rank fu (n + 1) (.addc y e) vs (c ++ [acc]) = some (.next, vs, c ++ [acc ++ [w]]) := by
  have e : appV (c ++ [acc]) c.length w = some (c ++ [acc ++ [w]]) := (congrArg (Option.bind · fun (l : List D) => if strOk (l.length + 1) then some ((c ++ [acc]).set c.length (l ++ [w])) else none) get_last).trans ((if_pos ho).trans (congrArg some set_last))
  exact (congrArg (Option.bind · fun (z : V) => (optApp z).bind fun k => (ev F rank n _ vs (c ++ [acc])).bind fun y => (dOf y.1).bind fun d => (appV y.2 k d).map fun c => (Fl.next, vs, c)) hv).trans
    ((congrArg (Option.bind · fun (y : V × Cells) => (dOf y.1).bind fun d => (appV y.2 c.length d).map fun c => (Fl.next, vs, c)) h).trans (congrArg (Option.map fun c => (Fl.next, vs, c)) e))
theorem truL {acc : List D} : truth (c ++ [acc]) (.loc c.length) = some (!acc.isEmpty) := congrArg (Option.map fun (l : List D) => !l.isEmpty) get_last
theorem subL {acc : List D} {i : Int} : subV (c ++ [acc]) (.loc c.length) (.d (.int i)) = idxL acc i := congrArg (Option.bind · fun (l : List D) => idxL l i) get_last
theorem fsR {es : List ME} {ws : List V} {r : List D} {l : List (List Nat)} (h1 : evs (fun e c => ev F rank n e vs c) es c = some (ws, c1)) (h2 : dsOf ws = some r) (h3 : strsOf r = some l) (ho : l.flatten.length ≤ 1000000) : ev F rank (n + 1) (.fstr es) vs c = some (.d (.str l.flatten), c1) :=
  (congrArg (Option.bind · fun (z : List V × Cells) => (dsOf z.1).bind fun l => (strsOf l).bind fun l => if strOk l.flatten.length then some (V.d (.str l.flatten), z.2) else none) h1).trans
    ((congrArg (Option.bind · fun (r : List D) => (strsOf r).bind fun l => if strOk l.flatten.length then some (V.d (.str l.flatten), c1) else none) h2).trans ((congrArg (Option.bind · fun (l : List (List Nat)) => if strOk l.flatten.length then some (V.d (.str l.flatten), c1) else none) h3).trans (if_pos (ok_of ho))))
theorem whS {t0 : ME} (h : whl (tr F rank n t0) (exs (ex F rank fu n) sa) fu vs c = x) : ex F rank fu (n + 1) (.while t0 sa) vs c = x := h
theorem lt_of' {i j : Nat} (h : i < j) : decide ((i : Int) < (j : Int)) = true := decide_eq_true (Int.ofNat_lt.mpr h)
theorem at_str {w : List Nat} {i k : Nat} (h : w[i]? = some k) : subV c (.d (.str w)) (.d (.int (i : Int))) = some (.str [k]) := congrArg (Option.map fun ch => D.str [ch]) h
theorem asR (h : tr F rank n e vs c = some (true, c')) : ex F rank fu (n + 1) (.assert e) vs c = some (.next, vs, c') := congrArg (Option.bind · fun (z : Bool × Cells) => if z.1 then some (Fl.next, vs, z.2) else none) h
theorem baR {y z : Nat} {a : List D} (hv : vget vs z = some (.loc c.length)) : ex F rank fu (n + 1) (.bindapp y z) vs (c ++ [a]) = some (.next, vset y (.app c.length) vs, c ++ [a]) :=
  (congrArg (Option.bind · fun v => (optLoc v).bind fun i => if Nat.blt i (c ++ [a]).length then some (Fl.next, vset y (.app i) vs, c ++ [a]) else none) hv).trans (if_pos (show Nat.ble (c.length + 1) (c ++ [a]).length = true from Nat.ble_eq.mpr (Nat.le_of_eq (List.length_append (as := c) (bs := [a])).symm)))
end
theorem comp_map {α : Type} {g : D → Cells → Option (List D × Cells)} {c : Cells} (toD f : α → D) {l : List α} (h : ∀ a ∈ l, g (toD a) c = some ([f a], c)) : compRun g (l.map toD) c = some (l.map f, c) := by
  induction l with
  | nil => rfl
  | cons a r ih =>
    exact (congrArg (Option.bind · fun (x : List D × Cells) => (compRun g (r.map toD) x.2).bind fun y => some (x.1 ++ y.1, y.2)) (h a (List.mem_cons_self ..))).trans
      (congrArg (Option.bind · fun (y : List D × Cells) => some ([f a] ++ y.1, y.2)) (ih fun b hb => h b (List.mem_cons_of_mem _ hb)))
theorem comp_flat {α : Type} {g : D → Cells → Option (List D × Cells)} {c : Cells} (toD : α → D) (f : α → List D) {l : List α} (h : ∀ a ∈ l, g (toD a) c = some (f a, c)) : compRun g (l.map toD) c = some ((l.map f).flatten, c) := by
  induction l with
  | nil => rfl
  | cons a r ih =>
    exact (congrArg (Option.bind · fun (x : List D × Cells) => (compRun g (r.map toD) x.2).bind fun y => some (x.1 ++ y.1, y.2)) (h a (List.mem_cons_self ..))).trans
      (congrArg (Option.bind · fun (y : List D × Cells) => some (f a ++ y.1, y.2)) (ih fun b hb => h b (List.mem_cons_of_mem _ hb)))
theorem comp_filter {α : Type} {g : D → Cells → Option (List D × Cells)} {c : Cells} (toD f : α → D) (p : α → Bool) {l : List α} (h : ∀ a ∈ l, g (toD a) c = some (bif p a then [f a] else [], c)) : compRun g (l.map toD) c = some ((l.filter p).map f, c) := by
  induction l with
  | nil => rfl
  | cons a r ih =>
    refine (congrArg (Option.bind · fun (x : List D × Cells) => (compRun g (r.map toD) x.2).bind fun y => some (x.1 ++ y.1, y.2)) (h a (List.mem_cons_self ..))).trans
      ((congrArg (Option.bind · fun (y : List D × Cells) => some ((bif p a then [f a] else []) ++ y.1, y.2)) (ih fun b hb => h b (List.mem_cons_of_mem _ hb))).trans (congrArg (fun l => some (l, c)) ?_))
    show (bif p a then [f a] else []) ++ (r.filter p).map f = ((a :: r).filter p).map f
    rw [List.filter_cons]
    cases p a <;> rfl
theorem joinS_nil (l : List (List Nat)) : joinS [] l = l.flatten := by
  have key : ∀ l : List (List Nat), (Str.join (mkS []) (l.map mkS)) = mkS l.flatten := by
    intro l
    induction l with
    | nil => rfl
    | cons x r ih =>
      cases r with
      | nil => simp [Str.join, mkS]
      | cons y r =>
        simp only [List.map_cons, Str.join] at ih ⊢
        rw [ih]
        show Str.mk ((x.toArray ++ #[]) ++ _) = _
        simp [mkS]
  unfold joinS
  rw [key]; rfl
theorem sum_len {l : List (List Nat)} : (l.map List.length).sum = l.flatten.length := List.length_flatten.symm
theorem jnS_ok {l : List (List Nat)} (h : l.flatten.length ≤ 1000000) : joinV [] l = some l.flatten := by
  unfold joinV
  rw [joinS_nil, sum_len]
  exact if_pos (Bool.and_eq_true_iff.mpr ⟨ok_of h, decide_eq_true (Nat.le_trans h (by decide))⟩)
theorem sum_le {l : List (List Nat)} {n : Nat} (h : ∀ w ∈ l, w.length ≤ n) : l.flatten.length ≤ l.length * n := by
  induction l with
  | nil => exact Nat.zero_le _
  | cons x r ih =>
    rw [List.flatten_cons, List.length_append, List.length_cons, Nat.succ_mul, Nat.add_comm]
    exact Nat.add_le_add (ih fun w hw => h w (List.mem_cons_of_mem _ hw)) (h x (List.mem_cons_self ..))
end Mine
end
section
open PySem PySem.W PyProof.Rows
namespace Mine
noncomputable abbrev Sh := Int × Int
noncomputable def shD (x : Sh) : D := .tup [.int x.1, .int x.2]
noncomputable def runsF : Int → List Sh → Bool
  | d, [] => d == 0
  | d, x :: r => bif decide (d < x.1) then false else runsF (d + x.2) r
section
variable {F : FT} {rank : Nat → Nat} {fu m : Nat} {c : Cells}
theorem x10 {t : List Nat} (h : 34 ∉ t) : exFn F rank fu (m + 20) fn10 [.d (.str t)] c = some (.d (.str t), c) := by
  have e : t.contains 34 = false := Bool.eq_false_iff.mpr fun q => h (List.contains_iff_mem.mp q)
  exact fnD rfl rfl (sqR (ifQ (q := true) (trI (cmR rfl rfl (congrArg (fun b => some (!b)) e))) (sqR rfl)))
theorem x26_loop (l : List Sh) : ∀ (d : Int) (vars : Vars), ∃ f vars', forRun (exs (ex F rank fu (m + 19)) [(.ifs (.cmp .lt (.var 40) (.var 45)) [(.ret (some (.bool false)))] []), (.assign 40 (.bin .add (.var 40) (.var 37)))]) [45, 37] true (l.map shD) (vset 40 (.d (.int d)) vars) c = some (f, vars', c) ∧
    ((f = .ret (.d (.bool false)) ∧ runsF d l = false) ∨ (f = .next ∧ ∃ e, vget vars' 40 = some (.d (.int e)) ∧ runsF d l = (e == 0))) := by
  induction l with
  | nil => exact fun d vars => ⟨_, _, rfl, .inr ⟨rfl, d, rfl, rfl⟩⟩
  | cons x l ih =>
    intro d vars
    cases hd : decide (d < x.1) with
    | true => exact ⟨_, _, foR rfl (sqR (ifQ (q := true) (trI (congrArg (fun b => some (V.d (.bool b), c)) hd)) (sqR rfl))), .inl ⟨rfl, congrArg (fun b => bif b then false else runsF (d + x.2) l) hd⟩⟩
    | false =>
      obtain ⟨f, v', h1, h2⟩ := ih (d + x.2) (vset 37 (.d (.int x.2)) (vset 45 (.d (.int x.1)) (vset 40 (.d (.int d)) vars)))
      exact ⟨f, v', fo rfl (sq (ifQ (q := false) (trI (congrArg (fun b => some (V.d (.bool b), c)) hd)) rfl) (sq1 rfl)) h1, (show runsF d (x :: l) = runsF (d + x.2) l from congrArg (fun b => bif b then false else runsF (d + x.2) l) hd) ▸ h2⟩
theorem x26 (l : List Sh) : exFn F rank fu (m + 20) fn26 [.d (.list (l.map shD))] c = some (.d (.bool (runsF 0 l)), c) := by
  obtain ⟨f, v', h1, h2⟩ := x26_loop (F := F) (rank := rank) (fu := fu) (m := m) (c := c) l 0 (vof [(43, .d (.list (l.map shD)))])
  rcases h2 with ⟨rfl, h2⟩ | ⟨rfl, e, h3, h2⟩
  · exact h2 ▸ fnD rfl rfl (sq rfl (sqR (forS rfl h1)))
  · exact h2 ▸ fnD rfl rfl (sq rfl (sq (forS rfl h1) (sqR (ret (cmR (congrArg (Option.map (·, c)) h3) rfl rfl)))))
end
end Mine
end
section
open PySem PySem.W PyProof.Rows
namespace Mine
noncomputable abbrev Ky := Int × Int × Int
noncomputable def kyD (x : Ky) : D := .tup [.int x.1, .int x.2.1, .int x.2.2]
noncomputable def keyF (k : Nat) (x : Sh) : Ky := bif decide (0 ≤ x.2) then (1, -x.1, (k : Int)) else (0, x.1 + x.2, (k : Int))
noncomputable def keysF : Nat → List Sh → List Ky
  | _, [] => []
  | k, x :: r => keyF k x :: keysF (k + 1) r
noncomputable def sgn (k : Nat) : Int := bif [k] == [40] then 1 else bif [k] == [41] then -1 else 0
noncomputable def shpF : Int → Int → List Nat → Int × Int
  | lo, d, [] => (lo, d)
  | lo, d, k :: r => shpF (if d + sgn k < lo then d + sgn k else lo) (d + sgn k) r
noncomputable def chkF' : Int → List (List Nat) → Bool
  | d, [] => d == 0
  | d, s :: r => bif s == [40] then chkF' (d + 1) r else bif s == [41] then bif decide (d - 1 < 0) then false else chkF' (d - 1) r else chkF' d r
section
variable {F : FT} {rank : Nat → Nat} {fu m : Nat} {c : Cells}
theorem x22_loop (l : List Sh) : ∀ (k : Nat) (acc : List D) (vars : Vars), acc.length = k → k + l.length ≤ 1000 → vget vars 44 = some (.loc c.length) → ∃ vars', vget vars' 44 = some (.loc c.length) ∧
    forRun (exs (ex F rank fu (m + 19)) [(.meth 44 (.ite (.cmp .ge (.var 37) (.int 0)) (.tup [(.int 1), (.neg (.var 45)), (.len (.var 44))]) (.tup [(.int 0), (.bin .add (.var 45) (.var 37)), (.len (.var 44))])))]) [45, 37] true (l.map shD) vars (c ++ [acc]) = some (.next, vars', c ++ [acc ++ (keysF k l).map kyD]) := by
  induction l with
  | nil => exact fun k acc vars _ _ h => ⟨vars, h, by rw [show (keysF k []).map kyD = [] from rfl, List.append_nil]; rfl⟩
  | cons x l ih =>
    intro k acc vars hk hb h
    obtain ⟨v', h2, h1⟩ := ih (k + 1) (acc ++ [kyD (keyF k x)]) (vset 37 (.d (.int x.2)) (vset 45 (.d (.int x.1)) vars)) (by rw [List.length_append, hk]; rfl) (Nat.succ_add_eq_add_succ k l.length ▸ hb) h
    refine ⟨v', h2, fo rfl (sq1 (mthL h (itQ (q := decide (0 ≤ x.2)) (trI rfl) ?_) (ok_of (by rw [hk]; rw [List.length_cons] at hb; omega)))) ((List.append_assoc acc [kyD (keyF k x)] _ ▸ h1))⟩
    show ev F rank _ _ _ _ = some (.d (kyD (bif decide (0 ≤ x.2) then _ else _)), _)
    rw [← hk]
    cases decide (0 ≤ x.2) with
    | true => exact tupR (es1 rfl (es1 rfl (es1 (lnR (vr h) lnL) rfl))) rfl
    | false => exact tupR (es1 rfl (es1 rfl (es1 (lnR (vr h) lnL) rfl))) rfl
theorem x22 (l : List Sh) (hl : l.length ≤ 1000) : exFn F rank fu (m + 20) fn22 [.d (.list (l.map shD))] c = some (.d (.list ((keysF 0 l).map kyD)), c) := by
  obtain ⟨v', h2, h1⟩ := x22_loop (F := F) (rank := rank) (fu := fu) (m := m) (c := c) l 0 [] (vset 44 (.loc c.length) (vof [(43, .d (.list (l.map shD)))])) rfl (by omega) rfl
  exact fnI rfl rfl (sq (newL rfl) (sq (forS rfl h1) (sqR (ret (vr h2))))) frz_last take_last
noncomputable abbrev b21 : List MS := [(.assign 40 (.bin .add (.var 40) (.ite (.cmp .eq (.var 42) (.str [40])) (.int 1) (.ite (.cmp .eq (.var 42) (.str [41])) (.neg (.int 1)) (.int 0))))), (.assign 41 (.min (.var 41) (.var 40)))]
theorem x21_sgn {n k : Nat} {vs : Vars} (h : vget vs 42 = some (.d (.str [k]))) : ev F rank (n + 5) (.ite (.cmp .eq (.var 42) (.str [40])) (.int 1) (.ite (.cmp .eq (.var 42) (.str [41])) (.neg (.int 1)) (.int 0))) vs c = some (.d (.int (sgn k)), c) := by
  refine itQ (q := [k] == [40]) (trI (cmR (vr h) rfl rfl)) ?_
  unfold sgn
  cases [k] == [40] with
  | true => rfl
  | false =>
    refine itQ (q := [k] == [41]) (trI (cmR (vr h) rfl rfl)) ?_
    cases [k] == [41] <;> rfl
theorem x21_loop (l : List Nat) : ∀ (lo d : Int) (V0 : Vars), ∃ V1, forRun (exs (ex F rank fu (m + 19)) b21) [42] false (l.map fun k => .str [k]) (vset 41 (.d (.int lo)) (vset 40 (.d (.int d)) V0)) c = some (.next, vset 41 (.d (.int (shpF lo d l).1)) (vset 40 (.d (.int (shpF lo d l).2)) V1), c) := by
  induction l with
  | nil => exact fun lo d V0 => ⟨V0, rfl⟩
  | cons k l ih =>
    intro lo d V0
    obtain ⟨V1, h⟩ := ih (if d + sgn k < lo then d + sgn k else lo) (d + sgn k) (vset 42 (.d (.str [k])) (vset 41 (.d (.int lo)) (vset 40 (.d (.int d)) V0)))
    exact ⟨V1, fo rfl (sq (asg (bi rfl (x21_sgn rfl) rfl)) (sq1 rfl)) h⟩
theorem x21 (t : List Nat) (ht : t.length ≤ 1000) (hr : (replS t [92, 40] []).length ≤ 1000) : exFn F rank fu (m + 20) fn21 [.d (.str t)] c = some (.d (.tup [.int (-(shpF 0 0 (replS t [92, 40] [])).1), .int (shpF 0 0 (replS t [92, 40] [])).2]), c) := by
  obtain ⟨V1, h⟩ := x21_loop (F := F) (rank := rank) (fu := fu) (m := m) (c := c) (replS t [92, 40] []) 0 0 (vof [(39, .d (.str t))])
  have hi : itemsOf F rank (m + 19) (.replace (.var 39) (.str [92, 40]) (.str [])) (vset 41 (.d (.int 0)) (vset 40 (.d (.int 0)) (vof [(39, .d (.str t))]))) c = some ((replS t [92, 40] []).map fun k => .str [k], c) :=
    congrArg (fun o : Option (List Nat) => ((o.map fun r => (V.d (.str r), c)).bind fun (x : V × Cells) => (itemsV x.1).map fun l => (l, x.2))) (repl_ok (q := []) [92, 40] (ok_of (Nat.le_trans ht (by decide))) (ok_of (Nat.le_trans hr (by decide))) rfl)
  exact fnD rfl rfl (sq rfl (sq (forS hi h) (sqR rfl)))
noncomputable abbrev b11 : List MS := [(.ifs (.cmp .eq (.var 16) (.str [40])) [(.aug 15 .add (.int 1))] [(.ifs (.cmp .eq (.var 16) (.str [41])) [(.aug 15 .sub (.int 1)), (.ifs (.cmp .lt (.var 15) (.int 0)) [(.ret (some (.bool false)))] [])] [])])]
theorem x11_loop (l : List (Nat × List Nat)) : ∀ (d : Int) (V0 : Vars), ∃ f vars', forRun (exs (ex F rank fu (m + 19)) b11) [7, 16] true (l.map fun x => .tup [.int x.1, .str x.2]) (vset 15 (.d (.int d)) V0) c = some (f, vars', c) ∧
    ((f = .ret (.d (.bool false)) ∧ chkF' d (l.map (·.2)) = false) ∨ (f = .next ∧ ∃ e, vget vars' 15 = some (.d (.int e)) ∧ chkF' d (l.map (·.2)) = (e == 0))) := by
  induction l with
  | nil => exact fun d V0 => ⟨_, _, rfl, .inr ⟨rfl, d, rfl, rfl⟩⟩
  | cons x l ih =>
    intro d V0
    have u : chkF' d ((x :: l).map (·.2)) = bif x.2 == [40] then chkF' (d + 1) (l.map (·.2)) else bif x.2 == [41] then bif decide (d - 1 < 0) then false else chkF' (d - 1) (l.map (·.2)) else chkF' d (l.map (·.2)) := rfl
    rw [u]
    cases h0 : x.2 == [40] with
    | true =>
      obtain ⟨f, v', e1, e2⟩ := ih (d + 1) (vset 16 (.d (.str x.2)) (vset 7 (.d (.int x.1)) (vset 15 (.d (.int d)) V0)))
      exact ⟨f, v', fo rfl (sq1 (ifQ (q := true) (trI (cmR rfl rfl (congrArg some h0))) (sq1 rfl))) e1, e2⟩
    | false =>
      cases h1 : x.2 == [41] with
      | true =>
        cases hd : decide (d - 1 < 0) with
        | true => exact ⟨_, _, foR rfl (sqR (ifQ (q := false) (trI (cmR rfl rfl (congrArg some h0))) (sqR (ifQ (q := true) (trI (cmR rfl rfl (congrArg some h1))) (sq rfl (sqR (ifQ (q := true) (trI (congrArg (fun b => some (V.d (.bool b), c)) hd)) (sqR rfl)))))))), .inl ⟨rfl, rfl⟩⟩
        | false =>
          obtain ⟨f, v', e1, e2⟩ := ih (d - 1) (vset 16 (.d (.str x.2)) (vset 7 (.d (.int x.1)) (vset 15 (.d (.int d)) V0)))
          exact ⟨f, v', fo rfl (sq1 (ifQ (q := false) (trI (cmR rfl rfl (congrArg some h0))) (sq1 (ifQ (q := true) (trI (cmR rfl rfl (congrArg some h1))) (sq rfl (sq1 (ifQ (q := false) (trI (congrArg (fun b => some (V.d (.bool b), c)) hd)) rfl))))))) e1, e2⟩
      | false =>
        obtain ⟨f, v', e1, e2⟩ := ih d (vset 16 (.d (.str x.2)) (vset 7 (.d (.int x.1)) (vset 15 (.d (.int d)) V0)))
        rw [vset_self (vs := vset 16 (.d (.str x.2)) (vset 7 (.d (.int x.1)) (vset 15 (.d (.int d)) V0))) rfl] at e1
        exact ⟨f, v', fo rfl (sq1 (ifQ (q := false) (trI (cmR rfl rfl (congrArg some h0))) (sq1 (ifQ (q := false) (trI (cmR rfl rfl (congrArg some h1))) rfl)))) e1, e2⟩
theorem x11 (t : List Nat) (ht : t.length ≤ 10000) (hr : Nat.ble (rank 10) (m + 18) = true) (h10 : F 10 [.d (.str t)] c = some (.d (.str t), c)) : exFn F rank fu (m + 20) fn11 [.d (.str t)] c = some (.d (.bool (chkF' 0 ((esc 0 t).map (·.2)))), c) := by
  obtain ⟨f, v', h1, h2⟩ := x11_loop (F := F) (rank := rank) (fu := fu) (m := m) (c := c) (esc 0 t) 0 (vset 14 (.d (.str t)) (vof [(14, .d (.str t))]))
  rcases h2 with ⟨rfl, h2⟩ | ⟨rfl, e, h3, h2⟩
  · exact h2 ▸ fnD rfl rfl (sq (asg (call1R rfl hr h10)) (sq rfl (sqR (forE rfl (ok_of (Nat.le_trans ht (by decide))) h1))))
  · exact h2 ▸ fnD rfl rfl (sq (asg (call1R rfl hr h10)) (sq rfl (sq (forE rfl (ok_of (Nat.le_trans ht (by decide))) h1) (sqR (ret (cmR (vr h3) rfl rfl))))))
end
end Mine
end
section
open PySem PySem.W PyProof.Rows
namespace Mine
noncomputable def wordF : Nat → Nat → List Nat
  | 0, _ => []
  | f + 1, k => match k with
    | 0 => []
    | k + 1 => (if (k + 1) % 2 = 1 then 40 else 41) :: wordF f (k / 2)
noncomputable def word (k : Nat) : List Nat := wordF 5 k
theorem fmod_nat (a b : Nat) : Int.fmod (a : Int) (b : Int) = ((a % b : Nat) : Int) := Int.fmod_eq_emod_of_nonneg _ (Int.natCast_nonneg b)
theorem fdiv_nat (a b : Nat) : Int.fdiv (a : Int) (b : Int) = ((a / b : Nat) : Int) := Int.fdiv_eq_ediv_of_nonneg _ (Int.natCast_nonneg b)
theorem half {k f : Nat} (h : k + 1 + 1 < 2 ^ (f + 1 + 1)) : k / 2 + 1 < 2 ^ (f + 1) := by
  rw [Nat.pow_succ] at h; omega
section
variable {F : FT} {rank : Nat → Nat} {fu m : Nat} {c : Cells}
noncomputable abbrev t16 : ME := .cmp .gt (.var 28) (.int 0)
noncomputable abbrev b16 : List MS := [(.assign 29 (.bin .add (.var 29) (.sub (.str [41, 40]) (.bin .mod (.var 28) (.int 2))))), (.assign 28 (.bin .fdiv (.bin .sub (.var 28) (.int 1)) (.int 2)))]
theorem sub16 (k : Nat) : subV c (.d (.str [41, 40])) (.d (.int (Int.fmod ((k + 1 : Nat) : Int) 2))) = some (.str [if (k + 1) % 2 = 1 then 40 else 41]) := by
  rw [show Int.fmod ((k + 1 : Nat) : Int) 2 = (((k + 1) % 2 : Nat) : Int) from fmod_nat (k + 1) 2]
  rcases Nat.mod_two_eq_zero_or_one (k + 1) with h | h <;> rw [h] <;> rfl
theorem div16 (k : Nat) : binV c .fdiv (.d (.int (((k + 1 : Nat) : Int) - 1))) (.d (.int 2)) = some (.int ((k / 2 : Nat) : Int)) := by
  rw [show ((k + 1 : Nat) : Int) - 1 = (k : Int) from Int.add_sub_cancel (k : Int) 1]
  exact congrArg (fun i => some (D.int i)) (fdiv_nat k 2)
theorem x16_loop (M f : Nat) : ∀ (k : Nat) (acc : List Nat) (V0 : Vars), k + 1 < 2 ^ (f + 1) → acc.length + f ≤ 100 →
    ∃ vars', whl (tr F rank (m + 19) t16) (exs (ex F rank fu (m + 19)) b16) (M + f + 1) (vset 28 (.d (.int (k : Int))) (vset 29 (.d (.str acc)) V0)) c = some (.next, vars', c) ∧ vget vars' 29 = some (.d (.str (acc ++ wordF f k))) := by
  induction f with
  | zero =>
    intro k acc V0 hk _
    cases Nat.le_zero.mp (Nat.le_of_lt_succ (Nat.lt_of_succ_lt_succ hk))
    exact ⟨_, wh0 rfl, (List.append_nil acc).symm ▸ rfl⟩
  | succ f ih =>
    intro k acc V0 hk ha
    cases k with
    | zero => exact ⟨_, wh0 rfl, (List.append_nil acc).symm ▸ rfl⟩
    | succ k =>
      obtain ⟨v', g1, g2⟩ := ih (k / 2) (acc ++ [if (k + 1) % 2 = 1 then 40 else 41]) (vset 28 (.d (.int ((k + 1 : Nat) : Int))) (vset 29 (.d (.str acc)) V0)) (half hk) (by rw [List.length_append]; exact Nat.add_right_comm _ f 1 ▸ ha)
      refine ⟨v', wh (trI (cmR rfl rfl (congrArg some (decide_eq_true (Int.natCast_pos.mpr (Nat.succ_pos k)))))) (sq (asg (bi rfl (sbD rfl rfl (sub16 k)) (if_pos (ok_of (Nat.le_trans (Nat.add_le_add_left (Nat.succ_le_succ (Nat.zero_le f)) _) (Nat.le_trans ha (by decide))))))) (sq1 (asg (bi (bi rfl rfl rfl) rfl (div16 k))))) ?_, ?_⟩
      · exact g1
      · exact (List.append_assoc acc [_] _) ▸ g2
theorem x16 (k : Nat) (hk : k < 31) : exFn F rank (fu + 10) (m + 20) fn16 [.d (.int (k : Int))] c = some (.d (.str (word k)), c) := by
  obtain ⟨v', h1, h2⟩ := x16_loop (F := F) (rank := rank) (fu := fu + 10) (m := m) (c := c) (fu + 4) 5 k [] (vof [(28, .d (.int (k : Int)))]) (by omega) (by decide)
  rw [vset_self (vs := vset 29 (.d (.str [])) (vof [(28, .d (.int (k : Int)))])) rfl] at h1
  exact fnD rfl rfl (sq rfl (sq h1 (sqR (ret (vr h2)))))
end
end Mine
end
section
open PySem PySem.W PyProof.Rows
namespace Mine
noncomputable def bitF (n : Int) (k : Nat) : Bool := Int.fmod (Int.fdiv n (2 ^ k)) 2 == 1
noncomputable def wdA (n : Int) : List Nat := word (Int.fmod (Int.fdiv n 8) 31).toNat
noncomputable def wdB (n : Int) : List Nat := word (Int.fmod (Int.fdiv n 248) 31).toNat
noncomputable def starB (b : Bool) : List (List Nat) := bif b then [[42]] else []
noncomputable def rowF (n : Int) : List (List Nat) := starB (bitF n 0) ++ [wdA n] ++ (starB (bitF n 1) ++ [wdB n]) ++ starB (bitF n 2)
section
variable {F : FT} {rank : Nat → Nat} {fu m : Nat} {c : Cells}
noncomputable abbrev t17 : ME := .cmp .eq (.bin .mod (.bin .fdiv (.var 30) (.bin .pow (.int 2) (.var 33))) (.int 2)) (.int 1)
noncomputable abbrev b17 : List MS := [(.ifs t17 [(.meth 32 (.str [42]))] []), (.newlist 32 (.bin .add (.var 32) (.slice (.var 31) (some (.var 33)) (some (.bin .add (.var 33) (.int 1))))))]
noncomputable def rowD (row : List (List Nat)) : D := .list (row.map .str)
noncomputable def v17 (n : Int) (a b : List Nat) (B : Cells) (U : Vars) : Vars := vset 32 (.loc B.length) (vset 31 (.d (rowD [a, b])) (vset 30 (.d (.int n)) U))
theorem v17_self {n : Int} {a b : List Nat} {B : Cells} {U : Vars} (h30 : vget U 30 = some (.d (.int n))) (h31 : vget U 31 = some (.d (rowD [a, b]))) : v17 n a b B U = vset 32 (.loc B.length) U := by
  unfold v17
  rw [vset_self h30, vset_self h31]
theorem row_step {n k : Int} {q : Bool} {a b : List Nat} {w acc : List D} {B : Cells} {U : Vars} (hb : tr F rank (m + 18) t17 (vset 33 (.d (.int k)) (v17 n a b B U)) (B ++ [acc]) = some (q, B ++ [acc])) (hw : ∀ c, cutV c (.d (rowD [a, b])) (some k) (some (k + 1)) = some (.list w)) (ho : acc.length + 1 + w.length ≤ 1000000) :
    ∃ B' U', exs (ex F rank fu (m + 19)) b17 (vset 33 (.d (.int k)) (v17 n a b B U)) (B ++ [acc]) = some (.next, v17 n a b B' U', B' ++ [acc ++ (starB q).map .str ++ w]) ∧ ∃ y, B' = B ++ [y] := by
  cases q with
  | false =>
    refine ⟨B ++ [acc], vset 33 (.d (.int k)) (v17 n a b B U), ?_, acc, rfl⟩
    rw [v17_self (U := vset 33 (.d (.int k)) (v17 n a b B U)) rfl rfl, show acc ++ (starB false).map D.str = acc from List.append_nil acc]
    exact sq (ifQ (q := false) hb rfl) (sq1 (newL (bi rfl (slR rfl rfl rfl (hw _)) (addL_last (ok_of (Nat.le_trans (Nat.add_le_add_right (Nat.le_succ _) _) ho))))))
  | true =>
    refine ⟨B ++ [acc ++ [.str [42]]], vset 33 (.d (.int k)) (v17 n a b B U), ?_, _, rfl⟩
    rw [v17_self (U := vset 33 (.d (.int k)) (v17 n a b B U)) rfl rfl]
    exact sq (ifQ (q := true) hb (sq1 (mthL rfl rfl (ok_of (Nat.le_trans (Nat.le_add_right _ _) ho))))) (sq1 (newL (bi rfl (slR rfl rfl rfl (hw _)) (addL_last (ok_of (by rw [List.length_append]; exact ho))))))
theorem star_le (b : Bool) : (starB b).length ≤ 1 := by cases b <;> decide
theorem x17 (n : Int) (hr : ∀ k, Nat.ble (rank 16) (m + k) = true) (h16 : ∀ (k : Nat) (c : Cells), k < 31 → F 16 [.d (.int (k : Int))] c = some (.d (.str (word k)), c)) :
    exFn F rank fu (m + 20) fn17 [.d (.int n)] c = some (.d (.list ((rowF n).map .str)), c) := by
  have hw : ∀ (a : Int) (c : Cells), F 16 [.d (.int (Int.fmod a 31))] c = some (.d (.str (word (Int.fmod a 31).toNat)), c) := fun a c => by
    have h0 : 0 ≤ Int.fmod a 31 := Int.fmod_nonneg_of_pos _ (by decide)
    have := h16 (Int.fmod a 31).toNat c ((Int.toNat_lt h0).mpr (Int.fmod_lt_of_pos _ (by decide)))
    rwa [Int.toNat_of_nonneg h0] at this
  have s0 := star_le (bitF n 0)
  have s1 := star_le (bitF n 1)
  obtain ⟨B1, U1, e1, y1, rfl⟩ := row_step (F := F) (rank := rank) (fu := fu) (m := m) (n := n) (k := 0) (a := wdA n) (b := wdB n) (q := bitF n 0) (w := [.str (wdA n)]) (acc := []) (B := c) (U := vof [(30, .d (.int n))]) rfl (fun _ => rfl) (Nat.le_of_ble_eq_true rfl)
  obtain ⟨B2, U2, e2, y2, rfl⟩ := row_step (F := F) (rank := rank) (fu := fu) (m := m) (n := n) (k := 1) (a := wdA n) (b := wdB n) (q := bitF n 1) (w := [.str (wdB n)]) (acc := [] ++ (starB (bitF n 0)).map .str ++ [.str (wdA n)]) (B := c ++ [y1]) (U := U1) rfl (fun _ => rfl) (by simp only [List.length_append, List.length_map, List.length_cons, List.length_nil]; omega)
  obtain ⟨B3, U3, e3, y3, rfl⟩ := row_step (F := F) (rank := rank) (fu := fu) (m := m) (n := n) (k := 2) (a := wdA n) (b := wdB n) (q := bitF n 2) (w := []) (acc := [] ++ (starB (bitF n 0)).map .str ++ [.str (wdA n)] ++ (starB (bitF n 1)).map .str ++ [.str (wdB n)]) (B := c ++ [y1] ++ [y2]) (U := U2) rfl (fun _ => rfl) (by simp only [List.length_append, List.length_map, List.length_cons, List.length_nil]; omega)
  have hfor : forRun (exs (ex F rank fu (m + 19)) b17) [33] false [.int 0, .int 1, .int 2] (v17 n (wdA n) (wdB n) c (vof [(30, .d (.int n))])) (c ++ [[]]) = some (.next, _, _) := fo rfl e1 (fo rfl e2 (fo rfl e3 rfl))
  have hm : multiEv (fun e c => ev F rank (m + 19) e (vof [(30, .d (.int n))]) c) [(31, false, (.list [(.call 16 [(.bin .mod (.bin .fdiv (.var 30) (.int 8)) (.int 31))]), (.call 16 [(.bin .mod (.bin .fdiv (.var 30) (.int 248)) (.int 31))])])), (32, true, (.list []))] c = some ([(31, .d (rowD [wdA n, wdB n])), (32, .loc c.length)], c ++ [[]]) :=
    mu0 (listR (es1 (call1R rfl (hr 17) (hw _ c)) (es1 (call1R rfl (hr 17) (hw _ c)) rfl)) rfl) (mu1 rfl rfl)
  have hv : vsets [(31, .d (rowD [wdA n, wdB n])), (32, .loc c.length)] (vof [(30, .d (.int n))]) = v17 n (wdA n) (wdB n) c (vof [(30, .d (.int n))]) := congrArg (fun v => vset 32 (.loc c.length) (vset 31 (.d (rowD [wdA n, wdB n])) v)) (vset_self (vs := vof [(30, .d (.int n))]) rfl).symm
  have hS := muS (fu := fu) hm
  rw [hv] at hS
  have e : [] ++ (starB (bitF n 0)).map D.str ++ [.str (wdA n)] ++ (starB (bitF n 1)).map .str ++ [.str (wdB n)] ++ (starB (bitF n 2)).map .str ++ [] = (rowF n).map .str := by
    unfold rowF; simp only [List.map_append, List.append_assoc, List.nil_append, List.append_nil]; rfl
  rw [e] at hfor
  refine fnI rfl rfl (sq hS (sq (forS rfl hfor) (sqR (ret (vr rfl))))) ((if_pos (Nat.ble_eq.mpr ?_)).trans (congrArg (Option.map fun l => V.d (.list l)) get_last)) ?_
  · simp only [List.length_append]; omega
  · rw [List.append_assoc, List.append_assoc, List.append_assoc]; exact take_last
end
end Mine
end
section
open PySem PySem.W PyProof.Rows
namespace Mine
noncomputable def pcF (w : List Nat) : List Nat := bif w == [42] then [42, 42] else bif w == [] then [40] else [91] ++ w ++ [93]
noncomputable def patF (row : List (List Nat)) : List Nat := (row.map pcF).flatten
noncomputable def netW (w : List Nat) : Int := (w.count 40 : Int) - (w.count 41 : Int)
noncomputable def netR (rows : List (List (List Nat))) : Int := ((rows.flatten).map netW).sum
noncomputable def sixthF (net more : Int) : List Nat := List.replicate net.toNat 41 ++ List.replicate (more - (if 0 < net then 0 else net)).toNat 40
noncomputable def sixF (ns : List Int) (more : Int) : List (List (List Nat)) := ns.map rowF ++ [[sixthF (netR (ns.map rowF)) more]]
noncomputable def starsF (row : List (List Nat)) : List Nat := (List.range row.length).filter fun k => row[k]? == some [42]
noncomputable def textPc (f l k : Nat) (w : List Nat) : List Nat := bif w == [42] then (bif decide (f < k) then [41] else []) ++ (bif decide (k < l) then [40, 63, 62, 46, 42, 63] else [46, 42]) else bif w == [] then [92, 40] else [91] ++ w ++ [93]
noncomputable def bodyF (f l : Nat) : Nat → List (List Nat) → List Nat
  | _, [] => []
  | k, w :: r => textPc f l k w ++ bodyF f l (k + 1) r
noncomputable def textF (row : List (List Nat)) : List Nat := [40, 63, 115, 58] ++ bodyF ((starsF row).headD 0) ((starsF row).getLastD 0) 0 row ++ [41, 92, 90]
theorem len_add3 (a b c : List Nat) : (a ++ b ++ c).length = a.length + b.length + c.length := by rw [List.length_append, List.length_append]
theorem pcF_len (w : List Nat) : (pcF w).length ≤ w.length + 2 := by
  unfold pcF
  cases w == [42] with
  | true => exact Nat.le_add_left 2 _
  | false => cases w == [] with
    | true => exact Nat.le_trans (Nat.le_succ 1) (Nat.le_add_left 2 _)
    | false => exact Nat.le_of_eq ((len_add3 [91] w [93]).trans (congrArg (· + 1) (Nat.add_comm 1 w.length)))
section
variable {F : FT} {rank : Nat → Nat} {fu m n : Nat} {c : Cells}
theorem brE {vs : Vars} {e : ME} {w : List Nat} (h : ev F rank n e vs c = some (.d (.str w), c)) (hw : w.length ≤ 100) : ev F rank (n + 2) (.bin .add (.bin .add (.str [91]) e) (.str [93])) vs c = some (.d (.str ([91] ++ w ++ [93])), c) := by
  cases n with
  | zero => exact noS h
  | succ n => exact bi (bi rfl h (addS (show 1 + w.length ≤ _ by omega))) rfl (addS (show ([91] ++ w).length + 1 ≤ _ by rw [List.length_append]; show 1 + w.length + 1 ≤ _; omega))
theorem pcE {vs : Vars} {w : List Nat} (h : vget vs 29 = some (.d (.str w))) (hw : w.length ≤ 100) : ev F rank (n + 5) (.ite (.cmp .eq (.var 29) (.str [42])) (.str [42, 42]) (.ite (.cmp .eq (.var 29) (.str [])) (.str [40]) (.bin .add (.bin .add (.str [91]) (.var 29)) (.str [93])))) vs c = some (.d (.str (pcF w)), c) := by
  refine itQ (q := w == [42]) (trI (cmR (vr h) rfl rfl)) ?_
  unfold pcF
  cases w == [42] with
  | true => rfl
  | false =>
    refine itQ (q := w == []) (trI (cmR (vr h) rfl rfl)) ?_
    cases w == [] with
    | true => rfl
    | false => exact brE (vr h) hw
theorem patF_len {row : List (List Nat)} (hb : ∀ w ∈ row, w.length ≤ 100) (hl : row.length ≤ 10) : (patF row).length ≤ 1020 := by
  have := sum_le (l := row.map pcF) (n := 102) fun w hw => by
    obtain ⟨x, hx, rfl⟩ := List.mem_map.mp hw
    exact Nat.le_trans (pcF_len x) (Nat.add_le_add_right (hb x hx) 2)
  rw [List.length_map] at this
  exact Nat.le_trans this (Nat.mul_le_mul_right 102 hl)
theorem x19 (row : List (List Nat)) (hb : ∀ w ∈ row, w.length ≤ 100) (hl : row.length ≤ 10) : exFn F rank fu (m + 20) fn19 [.d (rowD row)] c = some (.d (.str (patF row)), c) :=
  fnD rfl rfl (sqR (ret (jn0 (n := m + 17) (cpR rfl (comp_map D.str (fun w => D.str (pcF w)) fun w hw => elV (pcE rfl (hb w hw))) (ok_of (by rw [List.length_map]; exact Nat.le_trans hl (by decide)))) rfl ((List.map_map (f := pcF) (g := D.str) (l := row)) ▸ strsOf_map (row.map pcF)) (jnS_ok (Nat.le_trans (patF_len hb hl) (by decide))))))
theorem row_le (x : Int) : (rowF x).length ≤ 5 := by
  have h0 := star_le (bitF x 0)
  have h1 := star_le (bitF x 1)
  have h2 := star_le (bitF x 2)
  unfold rowF
  simp only [List.length_append, List.length_cons, List.length_nil]
  omega
theorem x18_net (rows : List (List (List Nat))) (hl : rows.flatten.length ≤ 1000) {vs : Vars} (h36 : vget vs 36 = some (.d (.list (rows.map rowD)))) (h29 : vget vs 29 = none) :
    ev F rank (n + 6) (.sum (.comp2 (.bin .sub (.count (.var 29) (.str [40])) (.count (.var 29) (.str [41]))) 32 (.var 36) 29 (.var 32))) vs c = some (.d (.int (netR rows)), c) := by
  have e : (rows.map fun r => r.map fun w => D.int (netW w)).flatten = (rows.flatten.map netW).map .int := by rw [List.map_map, List.map_flatten]; rfl
  refine sumR (cp2R (by rw [h29]; rfl) (l := rows.map rowD) (congrArg (fun (o : Option V) => (o.map (·, c)).bind fun (x : V × Cells) => (itemsV x.1).map fun l => (l, x.2)) h36) (e ▸ comp_flat rowD (fun r => r.map fun w => D.int (netW w)) fun r hr => comp_map D.str (fun w => D.int (netW w)) fun w hw => elE1 rfl) (ok_of ?_))
  rw [List.length_map, List.length_map]; exact Nat.le_trans hl (by decide)
theorem x18 (ns : List Int) (more : Int) (hl : ns.length ≤ 10) (hnet : -100 ≤ netR (ns.map rowF) ∧ netR (ns.map rowF) ≤ 100) (hmore : 0 ≤ more ∧ more ≤ 1) (hr : ∀ k, Nat.ble (rank 17) (m + k) = true) (h17 : ∀ (n : Int) (c : Cells), F 17 [.d (.int n)] c = some (.d (rowD (rowF n)), c)) :
    exFn F rank fu (m + 20) fn18 [.d (.list (ns.map .int)), .d (.int more)] c = some (.d (.list ((sixF ns more).map rowD)), c) := by
  have hlen : ((ns.map rowF).flatten).length ≤ 1000 := by
    have := List.length_flatten (L := ns.map rowF)
    have key : ∀ l : List Int, ((l.map rowF).map List.length).sum ≤ l.length * 5 := by
      intro l
      induction l with
      | nil => exact Nat.zero_le _
      | cons x r ih => rw [List.map_cons, List.map_cons, List.sum_cons, List.length_cons, Nat.succ_mul, Nat.add_comm]; exact Nat.add_le_add ih (row_le x)
    exact Nat.le_trans (Nat.le_of_eq this) (Nat.le_trans (key ns) (Nat.le_trans (Nat.mul_le_mul_right 5 hl) (by decide)))
  have e1 : ev F rank (m + 19) (.comp (.call 17 [(.var 30)]) 30 (.var 34) none) (vof [(34, .d (.list (ns.map .int))), (35, .d (.int more))]) c = some (.d (.list ((ns.map rowF).map rowD)), c) :=
    cpR rfl (List.map_map (f := rowF) (g := rowD) (l := ns) ▸ comp_map D.int (fun x => rowD (rowF x)) fun x hx => elV (call1R rfl (hr 17) (h17 x c))) (ok_of (by rw [List.length_map, List.length_map]; exact Nat.le_trans hl (by decide)))
  have e2 := x18_net (F := F) (rank := rank) (n := m + 13) (c := c) (ns.map rowF) hlen (vs := vset 36 (.d (.list ((ns.map rowF).map rowD))) (vof [(34, .d (.list (ns.map .int))), (35, .d (.int more))])) rfl rfl
  unfold sixF
  generalize netR (ns.map rowF) = N at hnet e2 ⊢
  obtain ⟨n1, n2⟩ := hnet
  have b1 : -1000000 < more - (if 0 < N then 0 else N) ∧ more - (if 0 < N then 0 else N) < 1000000 ∧ N.toNat + (more - (if 0 < N then 0 else N)).toNat ≤ 1000000 := by split <;> omega
  have e3 : ev F rank (m + 18) (.list [(.list [(.bin .add (.bin .mul (.str [41]) (.var 37)) (.bin .mul (.str [40]) (.bin .sub (.var 35) (.min (.var 37) (.int 0)))))])]) (vset 37 (.d (.int N)) (vset 36 (.d (.list ((ns.map rowF).map rowD))) (vof [(34, .d (.list (ns.map .int))), (35, .d (.int more))]))) c = some (.d (.list [rowD [sixthF N more]]), c) :=
    listR (es1 (listR (es1 (bi (bi rfl rfl (mulS (by omega) (by omega))) (bi rfl rfl (mulS b1.1 b1.2.1)) (if_pos (ok_of (by rw [List.length_replicate, List.length_replicate]; exact b1.2.2)))) rfl) rfl) rfl) rfl
  rw [List.map_append]
  exact fnD rfl rfl (sq (asg e1) (sq (asg e2) (sqR (ret (bi rfl e3 (if_pos (ok_of (by rw [List.length_map, List.length_map]; exact Nat.le_trans (Nat.succ_le_succ hl) (by decide)))))))))
end
end Mine
end
section
open PySem PySem.W PyProof.Rows
namespace Mine
noncomputable def natD (k : Nat) : D := .int (Int.ofNat k)
theorem inSeq_nat (k : Nat) (l : List Nat) : inSeq (.int (k : Int)) (l.map natD) = some (l.contains k) := by
  induction l with
  | nil => rfl
  | cons x r ih =>
    refine (congrArg (Option.map fun b => ((x : Int) == (k : Int)) || b) ih).trans (congrArg some ?_)
    rw [List.contains_cons, show ((x : Int) == (k : Int)) = (k == x) from Bool.eq_iff_iff.mpr (beq_iff_eq.trans ((Int.ofNat_inj.trans eq_comm).trans beq_iff_eq.symm))]
theorem textPc_len (f l k : Nat) (w : List Nat) : (textPc f l k w).length ≤ w.length + 8 := by
  unfold textPc
  cases w == [42] with
  | true => exact Nat.le_trans (by cases decide (f < k) <;> cases decide (k < l) <;> exact Nat.le_of_ble_eq_true rfl : _ ≤ 8) (Nat.le_add_left 8 _)
  | false => cases w == [] with
    | true => exact Nat.le_trans (by decide : 2 ≤ 8) (Nat.le_add_left 8 _)
    | false => exact Nat.le_trans (Nat.le_of_eq ((len_add3 [91] w [93]).trans (congrArg (· + 1) (Nat.add_comm 1 w.length)))) (Nat.add_le_add_left (by decide : 2 ≤ 8) _)
theorem stars_has {row : List (List Nat)} {k : Nat} {w : List Nat} (hw : row[k]? = some w) : (starsF row).contains k = (w == [42]) := by
  rw [Bool.eq_iff_iff, List.contains_iff_mem]
  refine List.mem_filter.trans (Iff.trans ⟨fun h => h.2, fun h => ⟨List.mem_range.mpr (List.getElem?_eq_some_iff.mp hw).1, h⟩⟩ (by rw [hw]; exact Iff.rfl))
theorem first_last {S : List Nat} {k : Nat} (hm : k ∈ S) : (S.map natD)[0]? = some (natD (S.headD 0)) ∧ (S.map natD).getLast? = some (natD (S.getLastD 0)) := by
  cases S with
  | nil => exact nomatch hm
  | cons a r => exact ⟨rfl, by rw [List.getLast?_map, List.getLastD_eq_getLast?, List.getLast?_cons]; rfl⟩
theorem at_mid {α : Type} (A : List α) (x : α) (B : List α) : (A ++ x :: B)[A.length]? = some x := by rw [List.getElem?_append_right (Nat.le_refl _), Nat.sub_self]; rfl
section
variable {F : FT} {rank : Nat → Nat} {fu m n : Nat} {c : Cells}
theorem int_small {k : Nat} (h : k < 100000) : (decide ((-100000 : Int) < Int.ofNat k) && decide (Int.ofNat k < 100000)) = true := by
  rw [Int.ofNat_eq_natCast, decide_eq_true (by omega : (-100000 : Int) < (k : Int)), decide_eq_true (by omega : (k : Int) < 100000)]; rfl
theorem int_range {e : ME} {vs : Vars} {k : Nat} (h : ev F rank n e vs c = some (.d (.int (Int.ofNat k)), c)) (hk : k < 100000) : itemsOf F rank n (.range e) vs c = some ((List.range k).map natD, c) := by
  show ((ev F rank n e vs c).bind fun x => (optInt x.1).bind fun k => if decide (-100000 < k) && decide (k < 100000) then some (id (rangeD k.toNat), x.2) else none) = _
  rw [h, Option.bind_some, show optInt (V.d (D.int (Int.ofNat k))) = some (Int.ofNat k) from rfl, Option.bind_some, if_pos (int_small hk)]
  rfl
theorem range_len (row : List (List Nat)) (hl : row.length ≤ 10) {vs : Vars} (h : vget vs 32 = some (.d (rowD row))) : itemsOf F rank (n + 2) (.range (.len (.var 32))) vs c = some ((List.range row.length).map natD, c) :=
  int_range (lnR (vr h) (congrArg some (List.length_map D.str))) (Nat.lt_of_le_of_lt hl (by decide))
theorem row_at {row : List (List Nat)} {k : Nat} {w : List Nat} (hw : row[k]? = some w) {vs : Vars} (h : vget vs 32 = some (.d (rowD row))) (hk : vget vs 33 = some (.d (.int (k : Int)))) : ev F rank (n + 2) (.sub (.var 32) (.var 33)) vs c = some (.d (.str w), c) :=
  sbD (vr h) (vr hk) ((List.getElem?_map ..).trans (congrArg (Option.map D.str) hw))
noncomputable abbrev b20 : List MS := [(.ifs (.cmp .notin (.var 33) (.var 38)) [(.assign 39 (.bin .add (.var 39) (.ite (.cmp .eq (.sub (.var 32) (.var 33)) (.str [])) (.str [92, 40]) (.bin .add (.bin .add (.str [91]) (.sub (.var 32) (.var 33))) (.str [93])))))] [(.assign 39 (.bin .add (.bin .add (.var 39) (.ite (.cmp .gt (.var 33) (.sub (.var 38) (.int 0))) (.str [41]) (.str []))) (.ite (.cmp .lt (.var 33) (.sub (.var 38) (.neg (.int 1)))) (.str [40, 63, 62, 46, 42, 63]) (.str [46, 42]))))])]
theorem text_step (row : List (List Nat)) (k : Nat) (w acc : List Nat) {U : Vars} (hw0 : row[k]? = some w) (hw : w.length ≤ 100) (hacc : acc.length ≤ 2000) (h32 : vget U 32 = some (.d (rowD row))) (h38 : vget U 38 = some (.d (.list ((starsF row).map natD)))) :
    exs (ex F rank fu (m + 19)) b20 (vset 33 (.d (.int (k : Int))) (vset 39 (.d (.str acc)) U)) c = some (.next, vset 39 (.d (.str (acc ++ textPc ((starsF row).headD 0) ((starsF row).getLastD 0) k w))) (vset 33 (.d (.int (k : Int))) (vset 39 (.d (.str acc)) U)), c) := by
  have hs := stars_has hw0
  have hi := hs ▸ congrArg (Option.map not) (inSeq_nat k (starsF row))
  unfold textPc
  cases h : w == [42] with
  | true =>
    rw [h] at hs hi
    refine sq1 (ifQ (q := false) (trI (cmR (vr rfl) (vr h38) hi)) (sq1 ?_))
    obtain ⟨hf, hl⟩ := first_last (List.contains_iff_mem.mp hs)
    have e1 : ev F rank (m + 15) (.ite (.cmp .gt (.var 33) (.sub (.var 38) (.int 0))) (.str [41]) (.str [])) (vset 33 (.d (.int (k : Int))) (vset 39 (.d (.str acc)) U)) c = some (.d (.str (bif decide ((starsF row).headD 0 < k) then [41] else [])), c) :=
      itQ (q := decide ((starsF row).headD 0 < k)) (trI (cmR (vr rfl) (sbD (vr h38) rfl hf) (congrArg some (decide_eq_decide.mpr Int.ofNat_lt)))) (by cases decide ((starsF row).headD 0 < k) <;> rfl)
    have e2 : ev F rank (m + 16) (.ite (.cmp .lt (.var 33) (.sub (.var 38) (.neg (.int 1)))) (.str [40, 63, 62, 46, 42, 63]) (.str [46, 42])) (vset 33 (.d (.int (k : Int))) (vset 39 (.d (.str acc)) U)) c = some (.d (.str (bif decide (k < (starsF row).getLastD 0) then [40, 63, 62, 46, 42, 63] else [46, 42])), c) :=
      itQ (q := decide (k < (starsF row).getLastD 0)) (trI (cmR (vr rfl) (sbD (vr h38) rfl hl) (congrArg some (decide_eq_decide.mpr Int.ofNat_lt)))) (by cases decide (k < (starsF row).getLastD 0) <;> rfl)
    have l1 : (bif decide ((starsF row).headD 0 < k) then [41] else []).length ≤ 1 := by cases decide ((starsF row).headD 0 < k) <;> decide
    have l2 : (bif decide (k < (starsF row).getLastD 0) then [40, 63, 62, 46, 42, 63] else [46, 42]).length ≤ 6 := by cases decide (k < (starsF row).getLastD 0) <;> decide
    generalize (bif decide ((starsF row).headD 0 < k) then [41] else []) = p1 at e1 l1 ⊢
    generalize (bif decide (k < (starsF row).getLastD 0) then [40, 63, 62, 46, 42, 63] else [46, 42]) = p2 at e2 l2 ⊢
    show ex F rank fu (m + 18) _ _ _ = some (Fl.next, vset 39 (.d (.str (acc ++ (p1 ++ p2)))) _, c)
    rw [← List.append_assoc]
    exact asg (bi (bi (vr rfl) e1 (addS (Nat.le_trans (Nat.add_le_add hacc l1) (by decide)))) e2 (addS (Nat.le_trans (Nat.add_le_add (Nat.le_trans (Nat.le_of_eq List.length_append) (Nat.add_le_add hacc l1)) l2) (by decide))))
  | false =>
    rw [h] at hi
    refine sq1 (ifQ (q := true) (trI (cmR (vr rfl) (vr h38) hi)) (sq1 ?_))
    show ex F rank fu (m + 18) _ _ _ = some (Fl.next, vset 39 (.d (.str (acc ++ (bif w == [] then [92, 40] else [91] ++ w ++ [93])))) _, c)
    have e1 : ev F rank (m + 16) (.ite (.cmp .eq (.sub (.var 32) (.var 33)) (.str [])) (.str [92, 40]) (.bin .add (.bin .add (.str [91]) (.sub (.var 32) (.var 33))) (.str [93]))) (vset 33 (.d (.int (k : Int))) (vset 39 (.d (.str acc)) U)) c = some (.d (.str (bif w == [] then [92, 40] else [91] ++ w ++ [93])), c) := by
      refine itQ (q := w == []) (trI (cmR (row_at hw0 h32 rfl) rfl rfl)) ?_
      cases w == [] with
      | true => rfl
      | false => exact brE (row_at hw0 h32 rfl) hw
    have l1 : (bif w == [] then [92, 40] else [91] ++ w ++ [93]).length ≤ 102 := by
      cases w == [] with
      | true => exact Nat.le_of_ble_eq_true rfl
      | false => exact Nat.le_trans (Nat.le_of_eq ((len_add3 [91] w [93]).trans (congrArg (· + 1) (Nat.add_comm 1 w.length)))) (Nat.add_le_add_right hw 2)
    generalize (bif w == [] then [92, 40] else [91] ++ w ++ [93]) = p1 at e1 l1 ⊢
    exact asg (bi (vr rfl) e1 (addS (Nat.le_trans (Nat.add_le_add hacc l1) (by decide))))
theorem stars_comp (row : List (List Nat)) (hl : row.length ≤ 10) : ev F rank (m + 19) (.comp (.var 33) 33 (.range (.len (.var 32))) (some (.cmp .eq (.sub (.var 32) (.var 33)) (.str [42])))) (vof [(32, .d (rowD row))]) c = some (.d (.list ((starsF row).map natD)), c) :=
  cpR (range_len row hl rfl) (comp_filter natD natD (fun k => row[k]? == some [42]) fun k hk => by
    have hr := List.getElem?_eq_getElem (List.mem_range.mp hk)
    rw [hr]
    exact elQ (trI (cmR (row_at hr rfl rfl) rfl rfl)) rfl) (ok_of (by
    rw [List.length_map]
    exact Nat.le_trans (List.length_filter_le ..) (Nat.le_trans (Nat.le_of_eq List.length_range) (Nat.le_trans hl (by decide)))))
theorem body_len (f l : Nat) (rows : List (List Nat)) : ∀ k : Nat, (∀ w ∈ rows, w.length ≤ 100) → (bodyF f l k rows).length ≤ rows.length * 110 := by
  induction rows with
  | nil => exact fun k _ => Nat.zero_le _
  | cons x r ih =>
    intro k h
    refine Nat.le_trans (Nat.le_of_eq List.length_append) ?_
    rw [List.length_cons, Nat.succ_mul, Nat.add_comm]
    exact Nat.add_le_add (ih (k + 1) fun w hw => h w (List.mem_cons_of_mem _ hw)) (Nat.le_trans (textPc_len f l k x) (Nat.le_trans (Nat.add_le_add_right (h x (List.mem_cons_self ..)) 8) (by decide)))
theorem x20_loop (row : List (List Nat)) (hb : ∀ w ∈ row, w.length ≤ 100) (hl : row.length ≤ 10) (rest : List (List Nat)) : ∀ (pre : List (List Nat)) (acc : List Nat) (U : Vars), row = pre ++ rest → acc.length + rest.length * 110 ≤ 1200 → vget U 32 = some (.d (rowD row)) → vget U 38 = some (.d (.list ((starsF row).map natD))) →
    ∃ U', forRun (exs (ex F rank fu (m + 19)) b20) [33] false ((List.range' pre.length rest.length).map natD) (vset 39 (.d (.str acc)) U) c = some (.next, vset 39 (.d (.str (acc ++ bodyF ((starsF row).headD 0) ((starsF row).getLastD 0) pre.length rest))) U', c) := by
  induction rest with
  | nil => exact fun pre acc U _ _ _ _ => ⟨U, (List.append_nil acc).symm ▸ rfl⟩
  | cons w r ih =>
    intro pre acc U hrow hacc h32 h38
    have hw0 : row[pre.length]? = some w := hrow ▸ at_mid pre w r
    have hw := hb w (List.mem_of_getElem? hw0)
    have hacc' : acc.length + (r.length * 110 + 110) ≤ 1200 := Nat.succ_mul r.length 110 ▸ hacc
    obtain ⟨U', g1⟩ := ih (pre ++ [w]) (acc ++ textPc ((starsF row).headD 0) ((starsF row).getLastD 0) pre.length w) (vset 33 (.d (.int (pre.length : Int))) (vset 39 (.d (.str acc)) U)) (hrow.trans (List.append_cons ..)) (by
      have := textPc_len ((starsF row).headD 0) ((starsF row).getLastD 0) pre.length w
      rw [List.length_append]; omega) h32 h38
    rw [List.length_append, List.append_assoc] at g1
    exact ⟨U', fo rfl (text_step row pre.length w acc hw0 hw (by omega) h32 h38) g1⟩
theorem x20 (row : List (List Nat)) (hb : ∀ w ∈ row, w.length ≤ 100) (hl : row.length ≤ 10) : exFn F rank fu (m + 20) fn20 [.d (rowD row)] c = some (.d (.str (textF row)), c) := by
  have h110 := Nat.mul_le_mul_right 110 hl
  obtain ⟨U', g1⟩ := x20_loop (F := F) (rank := rank) (fu := fu) (m := m) (c := c) row hb hl row [] [40, 63, 115, 58] (vset 38 (.d (.list ((starsF row).map natD))) (vof [(32, .d (rowD row))])) rfl (Nat.le_trans (Nat.add_le_add_left h110 _) (Nat.le_of_ble_eq_true rfl)) rfl rfl
  rw [show List.range' ([] : List (List Nat)).length row.length = List.range row.length from List.range_eq_range'.symm] at g1
  exact fnD rfl rfl (sq (muS (mu0 (stars_comp row hl) (mu0 rfl rfl))) (sq (forS (range_len row hl rfl) g1) (sqR (ret (bi (vr rfl) rfl (addS (by
    refine Nat.le_trans (Nat.add_le_add_right (Nat.le_trans (Nat.le_of_eq List.length_append) (Nat.add_le_add_left (Nat.le_trans (body_len _ _ row 0 hb) h110) 4)) 3) (by decide))))))))
end
end Mine
end
section
open PySem PySem.W PyProof.Rows
namespace Mine
noncomputable abbrev brW (w : List Nat) : Bool := bits w
noncomputable def partD (w : List Nat) : D := bif w == [42] then .star else bif w == [] then .str [92, 40] else .str ([91] ++ w ++ [93])
noncomputable def okRow : Bool → List (List Nat) → Bool
  | _, [] => true
  | b, w :: r => bif w == [42] then !b && okRow true r else brW w && okRow false r
theorem brW_cons {x : Nat} {w : List Nat} (h : brW (x :: w) = true) : (x = 40 ∨ x = 41) ∧ brW w = true := ((Bool.and_eq_true _ _).mp h).imp_left fun h => ((Bool.or_eq_true _ _).mp h).imp eq_of_beq eq_of_beq
theorem drop_c {t l : List Nat} {i k : Nat} (h : t.drop i = k :: l) : t[i]? = some k ∧ t.drop (i + 1) = l :=
  ⟨(List.getElem?_drop (xs := t) (i := i) (j := 0)).symm.trans (congrArg (·[0]?) h), (List.drop_drop (i := 1) (j := i) (l := t)).symm.trans (congrArg (List.drop 1) h)⟩
theorem at_lt {α : Type} {t : List α} {i : Nat} {k : α} (h : t[i]? = some k) : i < t.length := (List.getElem?_eq_some_iff.mp h).1
theorem cut_ok {P w B : List Nat} {i : Nat} (h : P.drop i = w ++ 93 :: B) : cutS P (i : Int) ((i + w.length : Nat) : Int) = some w := by
  have hl := congrArg List.length h
  rw [List.length_drop, List.length_append, List.length_cons] at hl
  unfold cutS
  rw [decide_eq_true (Int.natCast_nonneg i), decide_eq_true (Int.ofNat_le.mpr (Nat.le_add_right i w.length)), decide_eq_true (Int.ofNat_le.mpr (by omega : i + w.length ≤ P.length))]
  refine (if_pos rfl).trans (congrArg some ?_)
  rw [Int.toNat_natCast, h, show (((i + w.length : Nat) : Int) - (i : Int)).toNat = w.length by omega]
  exact List.take_left
section
variable {F : FT} {rank : Nat → Nat} {fu n : Nat} {C : Cells}
noncomputable abbrev t14b : ME := (.and (.cmp .lt (.var 24) (.var 4)) (.cmp .ne (.sub (.var 17) (.var 24)) (.str [93])))
noncomputable abbrev b14b : List MS := [(.assign 24 (.bin .add (.var 24) (.int 1)))]
theorem find_br {P B : List Nat} {U : Vars} (h17 : vget U 17 = some (.d (.str P))) (h4 : vget U 4 = some (.d (.int (P.length : Int)))) (w : List Nat) : ∀ (i N : Nat), brW w = true → P.drop i = w ++ 93 :: B → w.length < N →
    whl (tr F rank (n + 8) t14b) (exs (ex F rank fu (n + 8)) b14b) N (vset 24 (.d (.int (i : Int))) U) C = some (.next, vset 24 (.d (.int ((i + w.length : Nat) : Int))) U, C) := by
  induction w with
  | nil =>
    intro i N _ hP hN
    cases N with
    | zero => exact absurd hN (Nat.lt_irrefl _)
    | succ N =>
    have h := (drop_c hP).1
    exact wh0 (trI (anT (trI (cmR (vr rfl) (vr h4) (congrArg some (lt_of' (at_lt h))))) (cmR (sbD (vr h17) (vr rfl) (at_str h)) rfl rfl)))
  | cons x w ih =>
    intro i N hw hP hN
    cases N with
    | zero => exact nomatch hN
    | succ N =>
    have h := drop_c hP
    have hb := brW_cons hw
    have g := ih (i + 1) N hb.2 h.2 (Nat.lt_of_succ_lt_succ hN)
    rw [← vset2 (vs := U) (w := .d (.int (i : Int))), Nat.succ_add_eq_add_succ] at g
    rw [vset2] at g
    have ne : ([x] == [93]) = false := hb.1.elim (fun e => e ▸ rfl) fun e => e ▸ rfl
    refine wh (trI (anT (trI (cmR (vr rfl) (vr h4) (congrArg some (lt_of' (at_lt h.1))))) (cmR (sbD (vr h17) (vr rfl) (at_str h.1)) rfl (congrArg (fun b => some (!b)) ne)))) (sq1 (asg (bi (vr rfl) rfl rfl))) ?_
    rw [vset2]
    exact g
end
end Mine
end
section
open PySem PySem.W PyProof.Rows
namespace Mine
open PySem.StrLaws PySem.Builtin PySem.Builtin.Str in
theorem replS_none (w z : List Nat) (k : Nat) (h : k ∉ w) : replS w [k] z = w := by
  unfold replS Txt.replace
  obtain ⟨f, hG, hn⟩ := occ_tight (mkS w) (mkS [k]) (by simp [mkS, Str.length])
  have h0 : occurrences (mkS w) (mkS [k]) 0 (mkS w).length ((mkS w).length + 1) = [] := by
    cases hc : occurrences (mkS w) (mkS [k]) 0 (mkS w).length ((mkS w).length + 1) with
    | nil => rfl
    | cons c r =>
      rw [hc] at hG
      have hA := hG.2.1
      have := (subAt_one (mkS w) k c).mp hA
      exact absurd (List.mem_of_getElem? (by simpa [mkS] using this)) h
  rw [h0]
  simp [mkS]
noncomputable def rep : List Nat → List Nat
  | [] => []
  | [k] => [k]
  | k :: l :: r => if k = 92 ∧ l = 40 then rep r else k :: rep (l :: r)
termination_by structural l => l
theorem rep_hit (r : List Nat) : rep (92 :: 40 :: r) = rep r := rfl
theorem rep_miss {k : Nat} {r : List Nat} (h : ¬ (k = 92 ∧ r.head? = some 40)) : rep (k :: r) = k :: rep r := by
  cases r with
  | nil => rfl
  | cons l r => exact if_neg fun e => h ⟨e.1, congrArg some e.2⟩
theorem join_flat (parts : List Str) : (Str.join (mkS []) parts).cps.toList = (parts.map (·.cps.toList)).flatten := by
  induction parts with
  | nil => rfl
  | cons x r ih =>
    cases r with
    | nil => simp [Str.join]
    | cons y r =>
      simp only [List.map_cons, Str.join, List.flatten_cons] at ih ⊢
      rw [← ih]
      show ((x.cps ++ #[]) ++ (Str.join (mkS []) (y :: r)).cps).toList = _
      simp
open PySem.StrLaws PySem.Builtin PySem.Builtin.Str in
theorem at_iff (l : List Nat) (i : Nat) : PySem.StrLaws.At (mkS l) (mkS [92, 40]) (mkS l).length i ↔ ∃ r, l.drop i = 92 :: 40 :: r := by
  unfold PySem.StrLaws.At
  rw [subAt_eq]
  simp only [mkS, Str.length, List.size_toArray, beq_iff_eq, List.length_cons, List.length_nil]
  constructor
  · rintro ⟨h1, h2⟩
    match hd : l.drop i with
    | [] => rw [hd] at h2; simp at h2
    | [a] => rw [hd] at h2; simp at h2
    | a :: b :: r => rw [hd] at h2; simp at h2; exact ⟨r, by rw [h2.1, h2.2]⟩
  · rintro ⟨r, h⟩
    have hl : (l.drop i).length = r.length + 2 := by rw [h]; simp
    rw [List.length_drop] at hl
    exact ⟨by omega, by rw [h]; simp⟩
open PySem.StrLaws PySem.Builtin PySem.Builtin.Str in
theorem parts_rep (l : List Nat) : ∀ (n a : Nat) (cuts : List Nat) (f : Nat), l.length - a ≤ n → a ≤ l.length → ChainG (mkS l) (mkS [92, 40]) (mkS l).length a cuts f → (∀ k, f ≤ k → ¬ PySem.StrLaws.At (mkS l) (mkS [92, 40]) (mkS l).length k) →
    ((partsFrom (mkS l) 2 a cuts).map (·.cps.toList)).flatten = rep (l.drop a) := by
  intro n
  induction n using Nat.strongRecOn with
  | _ n ih =>
  intro a cuts f hn ha hG hf
  have hsub : ∀ i j, (strSub (mkS l) i j).cps.toList = (l.drop i).take (j - i) := fun i j => by rw [strSub_toList]; simp [mkS]
  by_cases hA : PySem.StrLaws.At (mkS l) (mkS [92, 40]) (mkS l).length a
  · cases cuts with
    | nil =>
      have e : f = a := hG
      subst e
      exact absurd hA (hf f (Nat.le_refl _))
    | cons c r =>
      obtain ⟨h1, h2, h3, h4⟩ := hG
      have hc : c = a := by
        rcases Nat.lt_or_ge a c with h | h
        · exact absurd hA (h3 a (Nat.le_refl _) h)
        · omega
      subst hc
      obtain ⟨q, hq⟩ := (at_iff l c).mp hA
      have hlen : (l.drop c).length = q.length + 2 := by rw [hq]; simp
      rw [List.length_drop] at hlen
      have h4' : ChainG (mkS l) (mkS [92, 40]) (mkS l).length (c + 2) r f := h4
      have := ih (l.length - (c + 2)) (by omega) (c + 2) r f (Nat.le_refl _) (by omega) h4' hf
      simp only [partsFrom, List.map_cons, List.flatten_cons, this, hsub]
      rw [hq, rep_hit]
      have hq2 : l.drop (c + 2) = q := by rw [← List.drop_drop, hq]; rfl
      rw [hq2]; simp
  · by_cases hlt : a < l.length
    · have hd : l.drop a = l[a] :: l.drop (a + 1) := List.drop_eq_getElem_cons hlt
      have hmiss : rep (l.drop a) = l[a] :: rep (l.drop (a + 1)) := by
        rw [hd]
        refine rep_miss fun ⟨h1, h2⟩ => hA ((at_iff l a).mpr ?_)
        cases hr : l.drop (a + 1) with
        | nil => rw [hr] at h2; simp at h2
        | cons b q => rw [hr] at h2; simp at h2; exact ⟨q, by rw [hd, h1, hr, h2]⟩
      rw [hmiss]
      cases cuts with
      | nil =>
        have e : f = a := hG
        subst e
        have := ih (l.length - (f + 1)) (by omega) (f + 1) [] (f + 1) (Nat.le_refl _) (by omega) rfl (fun k hk => hf k (by omega))
        rw [← this]
        simp only [partsFrom, List.map_cons, List.map_nil, List.flatten_cons, List.flatten_nil, List.append_nil, hsub]
        rw [hd]
        have : (mkS l).length - f = ((mkS l).length - (f + 1)) + 1 := by simp [mkS, Str.length]; omega
        rw [this, List.take_succ_cons]
      | cons c r =>
        obtain ⟨h1, h2, h3, h4⟩ := hG
        have hc : a < c := by
          rcases Nat.lt_or_ge a c with h | h
          · exact h
          · have : c = a := by omega
            subst this; exact absurd h2 hA
        have := ih (l.length - (a + 1)) (by omega) (a + 1) (c :: r) f (Nat.le_refl _) (by omega) ⟨by omega, h2, fun k hk hkc => h3 k (by omega) hkc, h4⟩ hf
        rw [← this]
        simp only [partsFrom, List.map_cons, List.flatten_cons, hsub]
        rw [hd]
        have : c - a = (c - (a + 1)) + 1 := by omega
        rw [this, List.take_succ_cons, List.cons_append]
    · have hal : a = l.length := by omega
      have hnil : l.drop a = [] := by rw [hal]; simp
      rw [hnil]
      cases cuts with
      | nil => simp only [partsFrom, List.map_cons, List.map_nil, hsub, hnil, List.take_nil]; rfl
      | cons c r =>
        obtain ⟨h1, h2, _, _⟩ := hG
        have := h2.1
        simp [mkS, Str.length] at this
        omega
open PySem.StrLaws PySem.Builtin PySem.Builtin.Str in
theorem replS_open (l : List Nat) : replS l [92, 40] [] = rep l := by
  obtain ⟨f, hG, hf⟩ := occ_tight (mkS l) (mkS [92, 40]) (by simp [mkS, Str.length])
  have key := parts_rep l l.length 0 _ f (by omega) (by omega) hG hf
  unfold replS Txt.replace
  split
  · rename_i h
    have h0 : occurrences (mkS l) (mkS [92, 40]) 0 (mkS l).length ((mkS l).length + 1) = [] := by
      simp only [mkS, Str.length, Bool.or_eq_true, List.isEmpty_iff, Bool.and_eq_true, beq_iff_eq] at h
      rcases h with h | h
      · simpa [mkS, Str.length] using h
      · simp at h
    rw [h0] at key
    rw [← List.drop_zero (l := l), ← key]
    simp [partsFrom, strSub, mkS, Str.length]
  · rw [partsBetween_eq, glued_eq_join, join_flat]
    rw [List.drop_zero] at key
    exact key
end Mine
end
section
open PySem PySem.W PyProof.Rows
namespace Mine
structure TS (k : Nat) (P : List Nat) (vars : Vars) (i : Nat) : Prop where
  p : vget vars 17 = some (.d (.str P))
  s : vget vars 18 = some (.d .star)
  q : vget vars 20 = some (.d (.str [46]))
  r : vget vars 21 = some (.loc k)
  a : vget vars 22 = some (.app k)
  i : vget vars 5 = some (.d (.int (i : Int)))
  n : vget vars 4 = some (.d (.int (P.length : Int)))
section
variable {F : FT} {rank : Nat → Nat} {fu m : Nat} {c : Cells} {P : List Nat} {vars : Vars} {i : Nat} {res : List D}
noncomputable abbrev t14 : ME := (.cmp .lt (.var 5) (.var 4))
noncomputable abbrev b14 : List MS := [(.assign 23 (.sub (.var 17) (.var 5))), (.assign 5 (.bin .add (.var 5) (.int 1))), (.ifs (.cmp .eq (.var 23) (.str [42])) [(.ifs (.or (.not (.var 21)) (.cmp .isnot (.sub (.var 21) (.neg (.int 1))) (.var 18))) [(.addc 22 (.var 18))] [])] [(.ifs (.cmp .eq (.var 23) (.str [63])) [(.addc 22 (.var 20))] [(.ifs (.cmp .eq (.var 23) (.str [91])) [(.assign 24 (.var 5)), (.ifs (.and (.cmp .lt (.var 24) (.var 4)) (.cmp .eq (.sub (.var 17) (.var 24)) (.str [33]))) [(.assign 24 (.bin .add (.var 24) (.int 1)))] []), (.ifs (.and (.cmp .lt (.var 24) (.var 4)) (.cmp .eq (.sub (.var 17) (.var 24)) (.str [93]))) [(.assign 24 (.bin .add (.var 24) (.int 1)))] []), (.while (.and (.cmp .lt (.var 24) (.var 4)) (.cmp .ne (.sub (.var 17) (.var 24)) (.str [93]))) [(.assign 24 (.bin .add (.var 24) (.int 1)))]), (.ifs (.cmp .ge (.var 24) (.var 4)) [(.addc 22 (.str [92, 91]))] [(.assign 25 (.slice (.var 17) (some (.var 5)) (some (.var 24)))), (.ifs (.cmp .notin (.str [45]) (.var 25)) [(.assign 25 (.replace (.var 25) (.str [92]) (.str [92, 92])))] [.opq]), (.assign 25 (.twin (.var 25))), (.assign 5 (.bin .add (.var 24) (.int 1))), (.ifs (.not (.var 25)) [(.addc 22 (.str [40, 63, 33, 41]))] [(.ifs (.cmp .eq (.var 25) (.str [33])) [(.addc 22 (.str [46]))] [(.ifs (.cmp .eq (.sub (.var 25) (.int 0)) (.str [33])) [(.assign 25 (.bin .add (.str [94]) (.slice (.var 25) (some (.int 1)) none)))] [(.ifs (.cmp .inn (.sub (.var 25) (.int 0)) (.tup [(.str [94]), (.str [91])])) [(.assign 25 (.bin .add (.str [92]) (.var 25)))] [])]), (.addc 22 (.fstr [(.str [91]), (.var 25), (.str [93])]))])])])] [(.addc 22 (.call 13 [(.var 23)]))])])])]
theorem tcond {C : Cells} (t : TS c.length P vars i) : tr F rank (m + 19) t14 vars C = some (decide (i < P.length), C) := trI (cmR (vr t.i) (vr t.n) (congrArg some (decide_eq_decide.mpr Int.ofNat_lt)))
noncomputable def Turn (F : FT) (rank : Nat → Nat) (fu m : Nat) (c : Cells) (P : List Nat) (vars : Vars) (res res' : List D) (j : Nat) : Prop := ∃ vars', exs (ex F rank fu (m + 19)) b14 vars (c ++ [res]) = some (.next, vars', c ++ [res']) ∧ TS c.length P vars' j
theorem t_star1 (t : TS c.length P vars i) (hi : P[i]? = some 42) (hr : res = [] ∨ ∃ w, res.getLast? = some (.str w)) (hl : res.length ≤ 1000) : Turn F rank fu m c P vars res (res ++ [.star]) (i + 1) := by
  refine ⟨vset 5 (.d (.int ((i + 1 : Nat) : Int))) (vset 23 (.d (.str [42])) vars), sq (asg (sbD (vr t.p) (vr t.i) (at_str hi))) (sq (asg (bi (vr t.i) rfl rfl)) (sq1 (ifQ (q := true) (trI (cmR (vr rfl) rfl rfl)) (sq1 (ifQ (q := true) (trI ?_) (sq1 (adL t.a (vr t.s) (ok_of (Nat.le_trans (Nat.succ_le_succ hl) (by decide)))))))))),
    t.p, t.s, t.q, t.r, t.a, rfl, t.n⟩
  rcases hr with rfl | ⟨w, hw⟩
  · exact orT (noQ (q := false) (trV (v := .loc c.length) (vr t.r) truL))
  · refine orF (trI (noQ (q := true) (trV (v := .loc c.length) (vr t.r) (truL.trans ?_)))) (cmR (sbD (vr t.r) rfl (subL.trans hw)) (vr t.s) rfl)
    cases res with
    | nil => exact noS hw
    | cons => rfl
theorem t_star2 (t : TS c.length P vars i) (hi : P[i]? = some 42) : Turn F rank fu m c P vars (res ++ [.star]) (res ++ [.star]) (i + 1) :=
  ⟨vset 5 (.d (.int ((i + 1 : Nat) : Int))) (vset 23 (.d (.str [42])) vars), sq (asg (sbD (vr t.p) (vr t.i) (at_str hi))) (sq (asg (bi (vr t.i) rfl rfl)) (sq1 (ifQ (q := true) (trI (cmR (vr rfl) rfl rfl)) (sq1 (ifQ (q := false) (trI
    (orF (trI (noQ (q := true) (trV (v := .loc c.length) (vr t.r) (truL.trans (congrArg (fun b => some (!b)) (show (res ++ [D.star]).isEmpty = false by cases res <;> rfl)))))) (cmR (sbD (vr t.r) rfl (subL.trans List.getLast?_concat)) (vr t.s) rfl))) rfl))))), t.p, t.s, t.q, t.r, t.a, rfl, t.n⟩
theorem t_open (t : TS c.length P vars i) (hi : P[i]? = some 40) (hl : res.length ≤ 1000) (hr : ∀ k, Nat.ble (rank 13) (m + k) = true) (h13 : ∀ c : Cells, F 13 [.d (.str [40])] c = some (.d (.str [92, 40]), c)) : Turn F rank fu m c P vars res (res ++ [.str [92, 40]]) (i + 1) :=
  ⟨vset 5 (.d (.int ((i + 1 : Nat) : Int))) (vset 23 (.d (.str [40])) vars), sq (asg (sbD (vr t.p) (vr t.i) (at_str hi))) (sq (asg (bi (vr t.i) rfl rfl)) (sq1 (ifQ (q := false) (trI (cmR (vr rfl) rfl rfl)) (sq1 (ifQ (q := false) (trI (cmR (vr rfl) rfl rfl)) (sq1 (ifQ (q := false) (trI (cmR (vr rfl) rfl rfl)) (sq1
    (adL t.a (call1R (vr rfl) (hr 14) (h13 _)) (ok_of (Nat.le_trans (Nat.succ_le_succ hl) (by decide)))))))))))), t.p, t.s, t.q, t.r, t.a, rfl, t.n⟩
theorem br_not {k : Nat} {w : List Nat} (hw : brW w = true) (h0 : k ≠ 40) (h1 : k ≠ 41) : k ∉ w := fun h => ((Bool.or_eq_true _ _).mp (List.all_eq_true.mp hw k h)).elim (fun e => h0 (eq_of_beq e)) fun e => h1 (eq_of_beq e)
theorem br_sign {x : Nat} (h : x = 40 ∨ x = 41) : ([x] == [33]) = false ∧ ([x] == [93]) = false ∧ ([94] == [x] || ([91] == [x] || false)) = false := h.elim (fun e => e ▸ ⟨rfl, rfl, rfl⟩) fun e => e ▸ ⟨rfl, rfl, rfl⟩
theorem t_set2 {w : List Nat} {x : Nat} {U : Vars} (hx : x = 40 ∨ x = 41) (hw : brW (x :: w) = true) (hl : (x :: w).length ≤ 100) (h22 : vget U 22 = some (.app c.length)) (h25 : vget U 25 = some (.d (.str (x :: w)))) (hres : res.length ≤ 1000) :
    exs (ex F rank fu (m + 14)) [(.ifs (.cmp .eq (.var 25) (.str [33])) [(.addc 22 (.str [46]))] [(.ifs (.cmp .eq (.sub (.var 25) (.int 0)) (.str [33])) [(.assign 25 (.bin .add (.str [94]) (.slice (.var 25) (some (.int 1)) none)))] [(.ifs (.cmp .inn (.sub (.var 25) (.int 0)) (.tup [(.str [94]), (.str [91])])) [(.assign 25 (.bin .add (.str [92]) (.var 25)))] [])]), (.addc 22 (.fstr [(.str [91]), (.var 25), (.str [93])]))])] U (c ++ [res]) =
      some (.next, U, c ++ [res ++ [.str ([91] ++ (x :: w) ++ [93])]]) := by
  obtain ⟨s1, s2, s3⟩ := br_sign hx
  have e0 : ((x :: w) == [33]) = false := by
    cases w with
    | nil => exact s1
    | cons => exact (Bool.and_eq_false_iff.mpr (.inr rfl) : (x == 33 && false) = false)
  have e1 : ∀ n C, ev F rank (n + 2) (.sub (.var 25) (.int 0)) U C = some (.d (.str [x]), C) := fun n C => sbD (vr h25) rfl rfl
  have e2 : ([[91], x :: w, [93]] : List (List Nat)).flatten = [91] ++ (x :: w) ++ [93] := by simp
  refine sq1 (ifQ (q := false) (trI (cmR (vr h25) rfl (congrArg some e0))) (sq (ifQ (q := false) (trI (cmR (e1 _ _) rfl (congrArg some s1))) (sq1 (ifQ (q := false) (trI (cmR (e1 _ _) rfl (congrArg some s3))) rfl))) (sq1 (e2 ▸ adL h22 (fsR (es1 rfl (es1 (vr h25) (es1 rfl rfl))) rfl rfl (e2 ▸ ?_)) (ok_of (Nat.le_trans (Nat.succ_le_succ hres) (by decide)))))))
  rw [len_add3]
  exact Nat.le_trans (Nat.add_le_add_right (Nat.add_le_add_left hl 1) 1) (by decide)
theorem t_set {A w B : List Nat} (t : TS c.length (A ++ 91 :: (w ++ 93 :: B)) vars A.length) (hw : brW w = true) (hne : w ≠ []) (hwl : w.length ≤ 100) (hl : res.length ≤ 1000) (hfu : 200 ≤ fu) :
    Turn F rank fu m c (A ++ 91 :: (w ++ 93 :: B)) vars res (res ++ [.str ([91] ++ w ++ [93])]) (A.length + w.length + 2) := by
  cases w with
  | nil => exact absurd rfl hne
  | cons x w =>
  have hd : (A ++ 91 :: (x :: w ++ 93 :: B)).drop (A.length + 1) = x :: w ++ 93 :: B := (drop_c (i := A.length) List.drop_left).2
  have hi : (A ++ 91 :: (x :: w ++ 93 :: B))[A.length]? = some 91 := at_mid A 91 _
  generalize A ++ 91 :: (x :: w ++ 93 :: B) = P at *
  have hx := (brW_cons hw).1
  obtain ⟨s1, s2, s3⟩ := br_sign hx
  have hj := (drop_c hd).1
  have hfind := find_br (F := F) (rank := rank) (fu := fu) (n := m + 7) (C := c ++ [res]) (U := vset 24 (.d (.int ((A.length + 1 : Nat) : Int))) (vset 5 (.d (.int ((A.length + 1 : Nat) : Int))) (vset 23 (.d (.str [91])) vars))) t.p t.n (x :: w) (A.length + 1) fu hw hd (Nat.lt_of_lt_of_le (Nat.lt_of_le_of_lt hwl (by decide)) hfu)
  rw [vset2, vset2] at hfind
  have hlt : A.length + 1 + (x :: w).length < P.length := by
    have := congrArg List.length hd
    rw [List.length_drop, List.length_append, List.length_cons (a := 93)] at this
    omega
  have hrep : replV (x :: w) [92] [92, 92] = some (x :: w) := by
    have e := replS_none (x :: w) [92, 92] 92 (br_not hw (by decide) (by decide))
    have h := ok_of (Nat.le_trans hwl (by decide : 100 ≤ 1000000))
    exact (repl_ok [92] h ((congrArg (fun w => strOk w.length) e).trans h) rfl).trans (congrArg some e)
  have h45 : (x :: w).contains 45 = false := Bool.eq_false_iff.mpr fun h => br_not hw (by decide) (by decide) (List.contains_iff_mem.mp h)
  have htw : (if strOk (x :: w).length && bits (x :: w) then some (x :: w) else none) = some (x :: w) := if_pos (Bool.and_eq_true_iff.mpr ⟨ok_of (Nat.le_trans hwl (by decide)), hw⟩)
  refine ⟨vset 5 (.d (.int (((A.length + 1 + (x :: w).length : Nat) : Int) + 1))) (vset 25 (.d (.str (x :: w))) (vset 25 (.d (.str (x :: w))) (vset 25 (.d (.str (x :: w))) (vset 24 (.d (.int ((A.length + 1 + (x :: w).length : Nat) : Int))) (vset 5 (.d (.int ((A.length + 1 : Nat) : Int))) (vset 23 (.d (.str [91])) vars)))))), ?_, t.p, t.s, t.q, t.r, t.a, congrArg (fun k : Nat => some (V.d (.int (k : Int)))) (by omega : A.length + 1 + (x :: w).length + 1 = A.length + (x :: w).length + 2), t.n⟩
  refine sq (asg (sbD (vr t.p) (vr t.i) (at_str hi))) (sq (asg (bi (vr t.i) rfl rfl)) (sq1 (ifQ (q := false) (trI (cmR (vr rfl) rfl rfl)) (sq1 (ifQ (q := false) (trI (cmR (vr rfl) rfl rfl)) (sq1 (ifQ (q := true) (trI (cmR (vr rfl) rfl rfl)) ?_)))))))
  refine sq (asg (vr rfl)) ?_
  refine sq (ifQ (q := false) (trI (anT (trI (cmR (vr rfl) (vr t.n) (congrArg some (lt_of' (at_lt hj))))) (cmR (sbD (vr t.p) (vr rfl) (at_str hj)) rfl (congrArg some s1)))) rfl) ?_
  refine sq (ifQ (q := false) (trI (anT (trI (cmR (vr rfl) (vr t.n) (congrArg some (lt_of' (at_lt hj))))) (cmR (sbD (vr t.p) (vr rfl) (at_str hj)) rfl (congrArg some s2)))) rfl) ?_
  refine sq (whS hfind) (sq1 (ifQ (q := false) (trI (cmR (vr rfl) (vr t.n) (congrArg some (decide_eq_false (Int.not_le.mpr (Int.ofNat_lt.mpr hlt)))))) ?_))
  exact sq (asg (slR (vr t.p) (congrArg (fun i => some (some i, c ++ [res])) rfl) rfl (congrArg (Option.map D.str) (cut_ok hd)))) (sq (ifQ (q := true) (trI (cmR rfl (vr rfl) (congrArg (fun b => some (!b)) h45))) (sq1 (asg (congrArg (Option.map fun r => (V.d (D.str r), c ++ [res])) hrep))))
    (sq (asg (congrArg (Option.map fun r => (V.d (D.str r), c ++ [res])) htw)) (sq (asg (bi (vr rfl) rfl rfl)) (sq1 (ifQ (q := false) (trI (noQ (q := true) (trV (vr rfl) rfl))) (t_set2 hx hw hwl (by exact t.a) rfl hl))))))
end
end Mine
end
section
open PySem PySem.W PyProof.Rows
namespace Mine
section
variable {F : FT} {rank : Nat → Nat} {fu m : Nat} {c : Cells}
theorem t_go {P : List Nat} {vars : Vars} {i j N : Nat} {res res' : List D} {G : Prop} (t : TS c.length P vars i) (hi : i < P.length) (h : Turn F rank fu m c P vars res res' j)
    (k : ∀ vars1, TS c.length P vars1 j → (∀ x, whl (tr F rank (m + 19) t14) (exs (ex F rank fu (m + 19)) b14) N vars1 (c ++ [res']) = x → whl (tr F rank (m + 19) t14) (exs (ex F rank fu (m + 19)) b14) (N + 1) vars (c ++ [res]) = x) → G) : G :=
  let ⟨v1, e1, t1⟩ := h
  k v1 t1 fun x e => wh ((tcond t).trans (congrArg (fun b => some (b, c ++ [res])) (decide_eq_true hi))) e1 e
theorem patF_w {w : List Nat} {r : List (List Nat)} (h42 : (w == [42]) = false) (h0 : (w == []) = false) : patF (w :: r) = 91 :: (w ++ 93 :: patF r) := by
  show pcF w ++ patF r = _
  unfold pcF
  rw [h42, h0]
  exact (List.append_assoc ([91] ++ w) [93] (patF r))
theorem t_loop (hfu : 200 ≤ fu) (hr : ∀ k, Nat.ble (rank 13) (m + k) = true) (h13 : ∀ c : Cells, F 13 [.d (.str [40])] c = some (.d (.str [92, 40]), c)) {P : List Nat} (rest : List (List Nat)) : ∀ (A : List Nat) (res : List D) (vars : Vars) (N : Nat) (b : Bool), okRow b rest = true → (∀ w ∈ rest, w.length ≤ 100) →
    (b = false → res = [] ∨ ∃ w, res.getLast? = some (.str w)) → P = A ++ patF rest → TS c.length P vars A.length → 2 * rest.length < N → res.length + rest.length ≤ 1000 →
    ∃ vars', whl (tr F rank (m + 19) t14) (exs (ex F rank fu (m + 19)) b14) N vars (c ++ [res]) = some (.next, vars', c ++ [res ++ rest.map partD]) ∧ TS c.length P vars' P.length := by
  induction rest with
  | nil =>
    intro A res vars N b _ _ _ hP t hN _
    cases N with
    | zero => exact nomatch hN
    | succ N =>
    have hA : P = A := hP.trans (List.append_nil A)
    rw [← hA] at t
    exact ⟨vars, (wh0 ((tcond t).trans (congrArg (fun b => some (b, c ++ [res])) (decide_eq_false (Nat.lt_irrefl _))))).trans (congrArg (fun l => some (Fl.next, vars, c ++ [l])) (List.append_nil res).symm), t⟩
  | cons w r ih =>
    intro A res vars N b hok hb hres hP t hN hl
    have hbr : ∀ w ∈ r, w.length ≤ 100 := fun x hx => hb x (List.mem_cons_of_mem _ hx)
    have hN' : 2 * r.length + 2 < N := hN
    have hl' : res.length + 1 + r.length ≤ 1000 := Nat.succ_add_eq_add_succ res.length r.length ▸ hl
    have hres1 : res.length ≤ 1000 := Nat.le_trans (Nat.le_add_right _ _) hl
    have hnew : ∀ (p : D), (res ++ [p]).length + r.length ≤ 1000 := fun p => by rw [List.length_append]; exact hl'
    have eo : okRow b (w :: r) = bif w == [42] then !b && okRow true r else brW w && okRow false r := rfl
    have ep : ∀ p, partD w = p → res ++ [p] ++ r.map partD = res ++ (w :: r).map partD := fun p e => by rw [List.map_cons, e]; exact List.append_assoc ..
    rw [eo] at hok
    obtain ⟨N, rfl⟩ : ∃ N', N = N' + 2 := ⟨N - 2, by omega⟩
    have hN1 : 2 * r.length < N + 1 := Nat.lt_of_succ_lt_succ (Nat.lt_of_succ_lt hN')
    cases h42 : w == [42] with
    | true =>
      rw [h42] at hok
      have hb' := (Bool.and_eq_true _ _).mp hok
      cases eq_of_beq h42
      have hPe : P = A ++ 42 :: ([42] ++ patF r) := hP
      have hPe1 : P = (A ++ [42]) ++ 42 :: patF r := hPe.trans (List.append_assoc A [42] _).symm
      have hPe2 : P = (A ++ [42, 42]) ++ patF r := hPe.trans (List.append_assoc A [42, 42] _).symm
      have i1 : P[A.length]? = some 42 := hPe ▸ at_mid A 42 _
      have i2 : P[A.length + 1]? = some 42 := List.length_append (as := A) (bs := [42]) ▸ hPe1 ▸ at_mid (A ++ [42]) 42 _
      exact t_go (N := N + 1) t (at_lt i1) (t_star1 t i1 (hres ((Bool.not_eq_true' _).mp hb'.1)) hres1) fun v1 t1 g1 => t_go (N := N) t1 (at_lt i2) (t_star2 t1 i2) fun v2 t2 g2 => by
        obtain ⟨v3, e3, t3⟩ := ih (A ++ [42, 42]) (res ++ [.star]) v2 N true hb'.2 hbr (fun h => nomatch h) hPe2 (List.length_append (as := A) (bs := [42, 42]) ▸ t2) (Nat.lt_of_succ_lt_succ (Nat.lt_of_succ_lt_succ hN')) (hnew _)
        exact ⟨v3, ep _ rfl ▸ g1 _ (g2 _ e3), t3⟩
    | false =>
      rw [h42] at hok
      have hb' := (Bool.and_eq_true _ _).mp hok
      cases h0 : w == [] with
      | true =>
        cases eq_of_beq h0
        have hPe : P = A ++ 40 :: patF r := hP
        have i1 : P[A.length]? = some 40 := hPe ▸ at_mid A 40 _
        exact t_go (N := N + 1) t (at_lt i1) (t_open t i1 hres1 hr h13) fun v1 t1 g1 => by
          obtain ⟨v3, e3, t3⟩ := ih (A ++ [40]) (res ++ [.str [92, 40]]) v1 (N + 1) false hb'.2 hbr (fun _ => .inr ⟨[92, 40], List.getLast?_concat⟩) (hPe.trans (List.append_assoc A [40] _).symm) (List.length_append (as := A) (bs := [40]) ▸ t1) hN1 (hnew _)
          exact ⟨v3, ep _ rfl ▸ g1 _ e3, t3⟩
      | false =>
        have hPe : P = A ++ 91 :: (w ++ 93 :: patF r) := hP.trans (congrArg (A ++ ·) (patF_w h42 h0))
        have i1 : P[A.length]? = some 91 := hPe ▸ at_mid A 91 _
        have ht : Turn F rank fu m c P vars res (res ++ [.str ([91] ++ w ++ [93])]) (A.length + w.length + 2) := by
          rw [hPe] at t ⊢
          exact t_set t hb'.1 (fun e => noT ((e ▸ h0 : (([] : List Nat) == []) = false).symm)) (hb w (List.mem_cons_self ..)) hres1 hfu
        have eL : (A ++ ([91] ++ w ++ [93])).length = A.length + w.length + 2 := List.length_append.trans ((congrArg (A.length + ·) (len_add3 [91] w [93])).trans (by show A.length + (1 + w.length + 1) = _; omega))
        exact t_go (N := N + 1) t (at_lt i1) ht fun v1 t1 g1 => by
          obtain ⟨v3, e3, t3⟩ := ih (A ++ ([91] ++ w ++ [93])) (res ++ [.str ([91] ++ w ++ [93])]) v1 (N + 1) false hb'.2 hbr (fun _ => .inr ⟨[91] ++ w ++ [93], List.getLast?_concat⟩) (by rw [hPe]; simp) (eL ▸ t1) hN1 (hnew _)
          exact ⟨v3, ep _ (by unfold partD; rw [h42, h0]) ▸ g1 _ e3, t3⟩
theorem x14 (row : List (List Nat)) (hok : okRow false row = true) (hb : ∀ w ∈ row, w.length ≤ 100) (hl : row.length ≤ 10) (hfu : 200 ≤ fu) (hr : ∀ k, Nat.ble (rank 13) (m + k) = true) (h13 : ∀ c : Cells, F 13 [.d (.str [40])] c = some (.d (.str [92, 40]), c)) :
    exFn F rank fu (m + 20) fn14 [.d (.str (patF row)), .d .star, .d (.str [46])] c = some (.d (.list (row.map partD)), c) := by
  obtain ⟨v', e1, t1⟩ := t_loop (F := F) (rank := rank) (fu := fu) (m := m) (c := c) hfu hr h13 (P := patF row) row [] [] (vset 4 (.d (.int ((patF row).length : Int))) (vset 5 (.d (.int 0)) (vset 22 (.app c.length) (vset 21 (.loc c.length) (vof [(17, .d (.str (patF row))), (18, .d .star), (20, .d (.str [46]))]))))) fu false hok hb (fun _ => .inl rfl) rfl
    ⟨rfl, rfl, rfl, rfl, rfl, rfl, rfl⟩ (Nat.lt_of_lt_of_le (Nat.lt_of_le_of_lt (Nat.mul_le_mul_left 2 hl) (by decide)) hfu) (Nat.le_trans (Nat.add_le_add_left hl 0) (by decide))
  exact fnI rfl rfl (sq (newL rfl) (sq (baR rfl) (sq (muS (mu0 rfl (mu0 (lnR rfl rfl) rfl))) (sq (whS e1) (sq (asR (trI (cmR (vr t1.i) (vr t1.n) (congrArg some (beq_self_eq_true _))))) (sqR (ret (vr t1.r)))))))) frz_last take_last
end
end Mine
end
section
open PySem PySem.W PyProof.Rows
namespace Mine
structure JS (k : Nat) (P : List D) (vars : Vars) (i : Nat) : Prop where
  p : vget vars 26 = some (.d (.list P))
  s : vget vars 18 = some (.d .star)
  r : vget vars 21 = some (.loc k)
  a : vget vars 22 = some (.app k)
  i : vget vars 5 = some (.d (.int (i : Int)))
  n : vget vars 4 = some (.d (.int (P.length : Int)))
inductive starHd : List D → Prop
  | nil : starHd []
  | star (B : List D) : starHd (.star :: B)
noncomputable def pw (w : List Nat) : List Nat := bif w == [] then [92, 40] else [91] ++ w ++ [93]
noncomputable def hasStar (r : List (List Nat)) : Bool := r.any fun w => w == [42]
noncomputable def jt : Bool → List (List Nat) → List Nat
  | _, [] => []
  | b, w :: r => bif w == [42] then (bif b then [41] else []) ++ (bif hasStar r then [40, 63, 62, 46, 42, 63] else [46, 42]) ++ jt true r else pw w ++ jt b r
noncomputable def noSt (l : List (List Nat)) : Prop := ∀ w ∈ l, (w == [42]) = false
theorem noSt.tail {w : List Nat} {l : List (List Nat)} (h : noSt (w :: l)) : noSt l := fun x hx => h x (List.mem_cons_of_mem _ hx)
theorem noSt.head {w : List Nat} {l : List (List Nat)} (h : noSt (w :: l)) : (w == [42]) = false := h w (List.mem_cons_self ..)
theorem jt_seg (b : Bool) {seg : List (List Nat)} (rest : List (List Nat)) (h : noSt seg) : jt b (seg ++ rest) = (seg.map pw).flatten ++ jt b rest := by
  induction seg with
  | nil => rfl
  | cons w r ih =>
    show (bif w == [42] then _ else pw w ++ jt b (r ++ rest)) = pw w ++ (r.map pw).flatten ++ jt b rest
    rw [h.head, ih h.tail]; exact (List.append_assoc ..).symm
theorem hasStar_app {a b : List (List Nat)} (h : noSt a) : hasStar (a ++ b) = hasStar b := by
  induction a with
  | nil => rfl
  | cons w r ih => exact (congrArg (· || hasStar (r ++ b)) h.head).trans (ih h.tail)
inductive Rest : List (List Nat) → Prop
  | nil : Rest []
  | star (r : List (List Nat)) : okRow true r = true → Rest ([42] :: r)
theorem Rest.ok {r : List (List Nat)} (h : Rest r) : okRow false r = true := by
  cases h with
  | nil => rfl
  | star r h => exact h
theorem Rest.hd {r : List (List Nat)} (h : Rest r) : starHd (r.map partD) := by
  cases h with
  | nil => exact .nil
  | star r h => exact .star _
inductive Split (b : Bool) : List (List Nat) → Prop
  | mk (seg rest : List (List Nat)) : noSt seg → Rest rest → (b = true → seg = [] → rest = []) → Split b (seg ++ rest)
theorem split_row (r : List (List Nat)) : ∀ b : Bool, okRow b r = true → Split b r := by
  induction r with
  | nil => exact fun b _ => .mk [] [] (fun _ h => nomatch h) .nil fun _ _ => rfl
  | cons w r ih =>
    intro b h
    have e : okRow b (w :: r) = bif w == [42] then !b && okRow true r else brW w && okRow false r := rfl
    rw [e] at h
    cases hw : w == [42] with
    | true =>
      rw [hw] at h
      have h' := an h
      cases eq_of_beq hw
      exact .mk [] ([42] :: r) (fun _ h => nomatch h) (.star r h'.2) fun hb => noT (hb ▸ h'.1 : (!true) = true)
    | false =>
      rw [hw] at h
      cases ih false (an h).2 with
      | mk seg rest h1 h2 h3 => exact .mk (w :: seg) rest (fun x hx => (List.mem_cons.mp hx).elim (fun e => e ▸ hw) (h1 x)) h2 fun _ h => nomatch h
theorem partD_word {w : List Nat} (h : (w == [42]) = false) : partD w = .str (pw w) := by
  unfold partD pw
  rw [h]
  cases w == [] <;> rfl
theorem map_part {seg : List (List Nat)} (h : noSt seg) : seg.map partD = (seg.map pw).map .str := (List.map_congr_left fun w hw => partD_word (h w hw)).trans List.map_map.symm
theorem pw_len (w : List Nat) : (pw w).length ≤ w.length + 2 := by
  unfold pw
  cases w == [] with
  | true => exact Nat.le_add_left 2 _
  | false => exact Nat.le_of_eq ((len_add3 [91] w [93]).trans (congrArg (· + 1) (Nat.add_comm 1 w.length)))
theorem drop_d {t l : List D} {i : Nat} {k : D} (h : t.drop i = k :: l) : t[i]? = some k ∧ t.drop (i + 1) = l :=
  ⟨(List.getElem?_drop (xs := t) (i := i) (j := 0)).symm.trans (congrArg (·[0]?) h), (List.drop_drop (i := 1) (j := i) (l := t)).symm.trans (congrArg (List.drop 1) h)⟩
theorem lt_no {i j : Nat} (h : j ≤ i) : decide ((i : Int) < (j : Int)) = false := decide_eq_false (Int.not_lt.mpr (Int.ofNat_le.mpr h))
section
variable {F : FT} {rank : Nat → Nat} {fu m q k : Nat} {c : Cells} {P : List D} {vars : Vars} {i : Nat}
theorem adX {n y : Nat} {e : ME} {vs : Vars} {acc : List D} {X : Cells} {w : D} (hv : vget vs y = some (.app c.length)) (h : ev F rank n e vs (c ++ acc :: X) = some (.d w, c ++ acc :: X)) (ho : acc.length ≤ 1000) : ex F rank fu (n + 1) (.addc y e) vs (c ++ acc :: X) = some (.next, vs, c ++ (acc ++ [w]) :: X) := by
  have e1 : appV (c ++ acc :: X) c.length w = some (c ++ (acc ++ [w]) :: X) := (congrArg (Option.bind · fun (l : List D) => if strOk (l.length + 1) then some ((c ++ acc :: X).set c.length (l ++ [w])) else none) (at_mid c acc X)).trans ((if_pos (ok_of (Nat.le_trans (Nat.succ_le_succ ho) (by decide)))).trans (congrArg some ((List.set_append_right _ _ (Nat.le_refl _)).trans (by rw [Nat.sub_self]; rfl))))
  exact (congrArg (Option.bind · fun (z : V) => (optApp z).bind fun k => (ev F rank n _ vs (c ++ acc :: X)).bind fun y => (dOf y.1).bind fun d => (appV y.2 k d).map fun c => (Fl.next, vs, c)) hv).trans
    ((congrArg (Option.bind · fun (y : V × Cells) => (dOf y.1).bind fun d => (appV y.2 c.length d).map fun c => (Fl.next, vs, c)) h).trans (congrArg (Option.map fun c => (Fl.next, vs, c)) e1))
theorem agR {n y : Nat} {vs : Vars} {C : Cells} {a b : Int} (h : vget vs y = some (.d (.int a))) : ex F rank fu (n + 2) (.aug y .add (.int b)) vs C = some (.next, vset y (.d (.int (a + b))) vs, C) :=
  congrArg (Option.bind · fun v => (ev F rank (n + 1) (.int b) vs C).bind fun z => (optInt v).bind fun i => (optInt z.1).bind fun j => (augV .add i j).map fun k => (Fl.next, vset y (.d (.int k)) vs, z.2)) h
noncomputable abbrev t15 : ME := (.and (.cmp .lt (.var 5) (.var 4)) (.cmp .isnot (.sub (.var 26) (.var 5)) (.var 18)))
noncomputable abbrev t15b : ME := (.cmp .lt (.var 5) (.var 4))
noncomputable abbrev b15b : List MS := [(.assert (.cmp .is (.sub (.var 26) (.var 5)) (.var 18))), (.aug 5 .add (.int 1)), (.ifs (.cmp .eq (.var 5) (.var 4)) [(.addc 22 (.str [46, 42])), .brk] []), (.assert (.cmp .isnot (.sub (.var 26) (.var 5)) (.var 18))), (.newlist 27 (.list [])), (.while (.and (.cmp .lt (.var 5) (.var 4)) (.cmp .isnot (.sub (.var 26) (.var 5)) (.var 18))) [(.meth 27 (.sub (.var 26) (.var 5))), (.aug 5 .add (.int 1))]), (.assign 27 (.join (.str []) (.var 27))), (.ifs (.cmp .eq (.var 5) (.var 4)) [(.addc 22 (.str [46, 42])), (.addc 22 (.var 27))] [(.addc 22 (.fstr [(.str [40, 63, 62, 46, 42, 63]), (.var 27), (.str [41])]))])]
theorem jat {n : Nat} {x : D} {C : Cells} (t : JS k P vars i) (h : P[i]? = some x) : ev F rank (n + 2) (.sub (.var 26) (.var 5)) vars C = some (.d x, C) := sbD (vr t.p) (vr t.i) h
theorem jcond_go {x : List Nat} {R : List D} {C : Cells} (t : JS k P vars i) (h : P.drop i = .str x :: R) : tr F rank (q + 5) t15 vars C = some (true, C) :=
  trI (anT (trI (cmR (vr t.i) (vr t.n) (congrArg some (lt_of' (at_lt (drop_d h).1))))) (cmR (jat t (drop_d h).1) (vr t.s) rfl))
theorem jcond_stop {R : List D} {C : Cells} (hR : starHd R) (t : JS k P vars i) (h : P.drop i = R) : tr F rank (q + 5) t15 vars C = some (false, C) := by
  cases hR with
  | nil => exact trI (anF (cmR (vr t.i) (vr t.n) (congrArg some (lt_no (List.drop_eq_nil_iff.mp h)))))
  | star B => exact trI (anT (trI (cmR (vr t.i) (vr t.n) (congrArg some (lt_of' (at_lt (drop_d h).1))))) (cmR (jat t (drop_d h).1) (vr t.s) rfl))
theorem segs {b : MS} {K : List D → Cells} {I : Vars → Prop} {B : List D} (hI : ∀ vars v, I vars → I (vset 5 v vars)) (hb : ∀ vars i x acc, JS k P vars i → I vars → P[i]? = some (.str x) → acc.length ≤ 1000 → ex F rank fu (q + 5) b vars (K acc) = some (.next, vars, K (acc ++ [.str x]))) (hB : starHd B) (seg : List (List Nat)) :
    ∀ (i : Nat) (acc : List D) (vars : Vars) (N : Nat), P.drop i = seg.map .str ++ B → JS k P vars i → I vars → seg.length < N → acc.length + seg.length ≤ 1000 →
    ∃ vars', whl (tr F rank (q + 5) t15) (exs (ex F rank fu (q + 5)) [b, .aug 5 .add (.int 1)]) N vars (K acc) = some (.next, vars', K (acc ++ seg.map .str)) ∧ JS k P vars' (i + seg.length) ∧ I vars' ∧ P.drop (i + seg.length) = B := by
  induction seg with
  | nil =>
    intro i acc vars N hP t hv hN _
    cases N with
    | zero => exact nomatch hN
    | succ N => exact ⟨vars, (wh0 (jcond_stop hB t hP)).trans (congrArg (fun l => some (Fl.next, vars, K l)) (List.append_nil acc).symm), t, hv, hP⟩
  | cons x r ih =>
    intro i acc vars N hP t hv hN hl
    cases N with
    | zero => exact nomatch hN
    | succ N =>
    have hd := drop_d hP
    obtain ⟨v', e1, e2, e3, e4⟩ := ih (i + 1) (acc ++ [.str x]) (vset 5 (.d (.int ((i + 1 : Nat) : Int))) vars) N hd.2 ⟨t.p, t.s, t.r, t.a, rfl, t.n⟩ (hI _ _ hv) (Nat.lt_of_succ_lt_succ hN) (by rw [List.length_append]; exact Nat.succ_add_eq_add_succ acc.length r.length ▸ hl)
    rw [List.append_assoc] at e1
    rw [Nat.succ_add_eq_add_succ] at e2 e4
    exact ⟨v', wh (jcond_go t hP) (sq (hb _ _ _ _ t hv hd.1 (Nat.le_trans (Nat.le_add_right _ _) hl)) (sq1 (agR t.i))) e1, e2, e3, e4⟩
noncomputable def tailS (b : Bool) (S : List Nat) : List Nat := bif b then [46, 42] ++ S else [40, 63, 62, 46, 42, 63] ++ S ++ [41]
theorem j_turn {seg : List (List Nat)} {y : List Nat} {B : List D} {res : List D} {X : Cells} (hfu : 200 ≤ fu) (t : JS c.length P vars i) (hB : starHd B) (hd : P.drop i = .star :: ((y :: seg).map .str ++ B)) (hsl : seg.length ≤ 100) (hS : ((y :: seg).flatten).length ≤ 10000) (hres : res.length ≤ 900) :
    ∃ (vars' : Vars) (X' : Cells) (p : List (List Nat)), exs (ex F rank fu (m + 19)) b15b vars (c ++ res :: X) = some (.next, vars', c ++ (res ++ p.map .str) :: X') ∧ JS c.length P vars' (i + 1 + (y :: seg).length) ∧ p.flatten = tailS B.isEmpty (y :: seg).flatten ∧ p.length ≤ 2 ∧ P.drop (i + 1 + (y :: seg).length) = B := by
  have h0 := drop_d hd
  have h1 := drop_d (h0.2 : P.drop (i + 1) = .str y :: (seg.map .str ++ B))
  have t1 : JS c.length P (vset 5 (.d (.int ((i + 1 : Nat) : Int))) vars) (i + 1) := ⟨t.p, t.s, t.r, t.a, rfl, t.n⟩
  have t2 : JS c.length P (vset 27 (.loc (c ++ res :: X).length) (vset 5 (.d (.int ((i + 1 : Nat) : Int))) vars)) (i + 1) := ⟨t.p, t.s, t.r, t.a, rfl, t.n⟩
  obtain ⟨V3, w1, tC, w3, w4⟩ := segs (F := F) (rank := rank) (fu := fu) (q := m + 13) (k := c.length) (b := .meth 27 (.sub (.var 26) (.var 5))) (K := fun acc => (c ++ res :: X) ++ [acc]) (I := fun vars => vget vars 27 = some (.loc (c ++ res :: X).length)) (B := B) (fun _ _ h => h) (fun vars i x acc t h27 hx hl => mthL h27 (jat t hx) (ok_of (Nat.le_trans (Nat.succ_le_succ hl) (by decide)))) hB (y :: seg) (i + 1) [] _ fu h0.2 t2 rfl
    (Nat.lt_of_lt_of_le (Nat.lt_of_le_of_lt (Nat.succ_le_succ hsl) (by decide)) hfu) (by rw [List.length_nil, Nat.zero_add]; exact Nat.le_trans (Nat.succ_le_succ hsl) (by decide))
  have ne1 : (((i + 1 : Nat) : Int) == (P.length : Int)) = false := beq_eq_false_iff_ne.mpr fun h => Nat.ne_of_lt (at_lt h1.1) (Int.ofNat_inj.mp h)
  have hj := jn0 (F := F) (rank := rank) (n := m + 16) (vr w3) (get_last (c := c ++ res :: X) (a := [] ++ (y :: seg).map D.str)) (strsOf_map (y :: seg)) (jnS_ok (Nat.le_trans hS (by decide)))
  have hap : ∀ y : List D, (c ++ res :: X) ++ [y] = c ++ res :: (X ++ [y]) := fun y => List.append_assoc c (res :: X) [y]
  generalize hSd : (y :: seg).flatten = S at hj hS ⊢
  generalize hx : [] ++ (y :: seg).map D.str = x at w1 hj
  have pre : ∀ {z}, exs (ex F rank fu (m + 19)) [(.ifs (.cmp .eq (.var 5) (.var 4)) [(.addc 22 (.str [46, 42])), (.addc 22 (.var 27))] [(.addc 22 (.fstr [(.str [40, 63, 62, 46, 42, 63]), (.var 27), (.str [41])]))])] (vset 27 (.d (.str S)) V3) ((c ++ res :: X) ++ [x]) = z → exs (ex F rank fu (m + 19)) b15b vars (c ++ res :: X) = z := fun h =>
    sq (asR (trI (cmR (jat t h0.1) (vr t.s) rfl))) (sq (agR t.i) (sq (ifQ (q := false) (trI (cmR (vr rfl) (vr t1.n) (congrArg some ne1))) rfl) (sq (asR (trI (cmR (jat t1 h1.1) (vr t1.s) rfl))) (sq (newL rfl) (sq (whS w1) (sq (asg hj) h))))))
  have hq : tr F rank (m + 18) (.cmp .eq (.var 5) (.var 4)) (vset 27 (.d (.str S)) V3) ((c ++ res :: X) ++ [x]) = some ((((i + 1 + (y :: seg).length : Nat) : Int) == (P.length : Int)), (c ++ res :: X) ++ [x]) := trI (cmR (vr tC.i) (vr tC.n) rfl)
  have tD : JS c.length P (vset 27 (.d (.str S)) V3) (i + 1 + (y :: seg).length) := ⟨tC.p, tC.s, tC.r, tC.a, tC.i, tC.n⟩
  rw [hap] at hq pre
  cases hB with
  | nil =>
    have hl : i + 1 + (y :: seg).length = P.length := by
      have := congrArg List.length hd
      rw [List.length_drop, List.length_cons, List.append_nil, List.length_map] at this
      omega
    refine ⟨_, _, [[46, 42], S], pre (sq1 (ifQ (q := true) (hq.trans (by rw [hl, beq_self_eq_true])) (sq (adX tD.a rfl (Nat.le_trans hres (by decide))) ((sq1 (adX tD.a (vr rfl) ?_)).trans (congrArg (fun l => some (Fl.next, vset 27 (.d (.str S)) V3, c ++ l :: (X ++ [x]))) (List.append_assoc ..)))))), tD, ?_, Nat.le_refl 2, w4⟩
    · rw [List.length_append]; exact Nat.le_trans (Nat.add_le_add_right hres 1) (by decide)
    · exact congrArg ([46, 42] ++ ·) (List.append_nil S)
  | star B =>
    have hl : (((i + 1 + (y :: seg).length : Nat) : Int) == (P.length : Int)) = false := beq_eq_false_iff_ne.mpr fun h => Nat.ne_of_lt (at_lt (drop_d w4).1) (Int.ofNat_inj.mp h)
    have ef : ([[40, 63, 62, 46, 42, 63], S, [41]] : List (List Nat)).flatten = [40, 63, 62, 46, 42, 63] ++ S ++ [41] := by simp
    have hf : ev F rank (m + 17) (.fstr [(.str [40, 63, 62, 46, 42, 63]), (.var 27), (.str [41])]) (vset 27 (.d (.str S)) V3) (c ++ res :: (X ++ [x])) = some (.d (.str ([40, 63, 62, 46, 42, 63] ++ S ++ [41])), c ++ res :: (X ++ [x])) := by
      rw [← ef]
      exact fsR (es1 rfl (es1 (vr rfl) (es1 rfl rfl))) rfl rfl (by rw [ef, len_add3]; exact Nat.le_trans (Nat.add_le_add_right (Nat.add_le_add_left hS 6) 1) (by decide))
    exact ⟨_, _, [[40, 63, 62, 46, 42, 63] ++ S ++ [41]], pre (sq1 (ifQ (q := false) (hq.trans (by rw [hl])) (sq1 (adX tD.a hf (Nat.le_trans hres (by decide)))))), tD, List.append_nil _, Nat.le_succ 1, w4⟩
theorem j_end (t : JS k P vars i) (hi : i ≤ P.length) (h : P.drop i = []) : JS k P vars P.length := Nat.le_antisymm hi (List.drop_eq_nil_iff.mp h) ▸ t
theorem drop_len {t a b : List D} {x : D} (h : t.drop i = x :: (a ++ b)) : i + 1 + a.length + b.length = t.length := by
  have := congrArg List.length h
  rw [List.length_drop, List.length_cons, List.length_append] at this
  omega
theorem jt_tail {r : List (List Nat)} {S : List Nat} (h : Rest r) : (bif hasStar r then [40, 63, 62, 46, 42, 63] else [46, 42]) ++ (S ++ jt true r) = tailS (r.map partD).isEmpty S ++ jt false r := by
  cases h with
  | nil => exact (List.append_assoc [46, 42] S []).symm
  | star r h =>
    show [40, 63, 62, 46, 42, 63] ++ (S ++ ([41] ++ (bif hasStar r then [40, 63, 62, 46, 42, 63] else [46, 42]) ++ jt true r)) = [40, 63, 62, 46, 42, 63] ++ S ++ [41] ++ ([] ++ (bif hasStar r then [40, 63, 62, 46, 42, 63] else [46, 42]) ++ jt true r)
    simp only [List.append_assoc, List.nil_append]
theorem pw_flat {seg : List (List Nat)} {n : Nat} (h : ∀ w ∈ seg, w.length ≤ 100) (hn : seg.length ≤ n) : ((seg.map pw).flatten).length ≤ n * 102 := by
  have := sum_le (l := seg.map pw) (n := 102) fun w hw => by
    obtain ⟨x, hx, rfl⟩ := List.mem_map.mp hw
    exact Nat.le_trans (pw_len x) (Nat.add_le_add_right (h x hx) 2)
  rw [List.length_map] at this
  exact Nat.le_trans this (Nat.mul_le_mul_right 102 hn)
theorem j_loop (hfu : 200 ≤ fu) (n : Nat) : ∀ (rest : List (List Nat)) (i : Nat) (res : List (List Nat)) (X : Cells) (vars : Vars) (N : Nat), i ≤ P.length → rest.length ≤ n → Rest rest → JS c.length P vars i → P.drop i = rest.map partD → rest.length < N → n ≤ 20 → res.length + 2 * n ≤ 900 → (∀ w ∈ rest, w.length ≤ 100) →
    ∃ (vars' : Vars) (res' : List (List Nat)) (X' : Cells), whl (tr F rank (m + 19) t15b) (exs (ex F rank fu (m + 19)) b15b) N vars (c ++ (res.map .str) :: X) = some (.next, vars', c ++ (res'.map .str) :: X') ∧ JS c.length P vars' P.length ∧ res'.flatten = res.flatten ++ jt false rest := by
  induction n with
  | zero =>
    intro rest i res X vars N hi hn hst t hP hN _ _ _
    cases List.length_eq_zero_iff.mp (Nat.le_zero.mp hn)
    cases N with
    | zero => exact nomatch hN
    | succ N => exact ⟨vars, res, X, wh0 (trI (cmR (vr t.i) (vr t.n) (congrArg some (lt_no (List.drop_eq_nil_iff.mp hP))))), j_end t hi hP, (List.append_nil _).symm⟩
  | succ n ih =>
    intro rest i res X vars N hi hn hst t hP hN hn20 hl hb
    cases N with
    | zero => exact nomatch hN
    | succ N =>
    cases hst with
    | nil => exact ⟨vars, res, X, wh0 (trI (cmR (vr t.i) (vr t.n) (congrArg some (lt_no (List.drop_eq_nil_iff.mp hP))))), j_end t hi hP, (List.append_nil _).symm⟩
    | star r hr =>
      have h0 := drop_d (hP : P.drop i = .star :: r.map partD)
      have hcond : tr F rank (m + 19) t15b vars (c ++ (res.map .str) :: X) = some (true, c ++ (res.map .str) :: X) := trI (cmR (vr t.i) (vr t.n) (congrArg some (lt_of' (at_lt h0.1))))
      have hres : (res.map D.str).length ≤ 900 := by rw [List.length_map]; exact Nat.le_trans (Nat.le_add_right _ _) hl
      have hn' : r.length ≤ n := Nat.le_of_succ_le_succ hn
      cases split_row r true hr with
      | mk seg rest' hs hrest hne =>
      cases seg with
      | nil =>
        cases hne rfl rfl
        have t1 : JS c.length P (vset 5 (.d (.int ((i + 1 : Nat) : Int))) vars) (i + 1) := ⟨t.p, t.s, t.r, t.a, rfl, t.n⟩
        have hPl : i + 1 = P.length := Nat.le_antisymm (at_lt h0.1) (List.drop_eq_nil_iff.mp h0.2)
        refine ⟨_, res ++ [[46, 42]], X, whB hcond ((sq (asR (trI (cmR (jat t h0.1) (vr t.s) rfl))) (sq (agR t.i) (sqB (ifQ (q := true) (trI (cmR (vr rfl) (vr t1.n) ?_)) (sq (adX t1.a rfl (Nat.le_trans hres (by decide))) (sqB rfl)))))).trans (congrArg (fun l => some (Fl.brk, _, c ++ l :: X)) (List.map_append (f := D.str) (l₁ := res) (l₂ := [[46, 42]])).symm)), hPl ▸ t1, List.flatten_append⟩
        rw [← hPl]; exact congrArg some (beq_self_eq_true _)
      | cons y seg =>
        have hlen : (y :: seg).length + rest'.length ≤ n := List.length_append (as := y :: seg) (bs := rest') ▸ hn'
        have hseg : (y :: seg).length ≤ n := Nat.le_trans (Nat.le_add_right _ _) hlen
        have hb1 : ∀ w ∈ y :: seg, w.length ≤ 100 := fun w hw => hb w (List.mem_cons_of_mem _ (List.mem_append_left _ hw))
        have hd : P.drop i = .star :: ((pw y :: seg.map pw).map .str ++ rest'.map partD) := hP.trans (congrArg (D.star :: ·) ((List.map_append (f := partD)).trans (congrArg (· ++ rest'.map partD) (map_part hs))))
        obtain ⟨v1, X1, p, e1, t1, e2, e3, e4⟩ := j_turn (F := F) (rank := rank) (fu := fu) (m := m) (res := res.map .str) (X := X) hfu t hrest.hd hd (by rw [List.length_map]; exact Nat.le_trans (Nat.le_of_succ_le hseg) (Nat.le_trans (Nat.le_of_succ_le hn20) (by decide))) (Nat.le_trans (pw_flat (n := 20) hb1 (Nat.le_trans hseg (Nat.le_of_succ_le hn20))) (by decide)) hres
        rw [← List.map_append] at e1
        obtain ⟨v2, res2, X2, f1, f2, f3⟩ := ih rest' _ (res ++ p) X1 v1 N (by have := drop_len hd; rw [List.length_map] at this; exact Nat.le_of_add_right_le (Nat.le_of_eq this)) (Nat.le_trans (Nat.le_add_left _ _) hlen) hrest t1 e4 (Nat.lt_of_le_of_lt (show rest'.length ≤ (y :: seg ++ rest').length by rw [List.length_append]; exact Nat.le_add_left _ _) (Nat.lt_of_succ_lt_succ hN)) (Nat.le_of_succ_le hn20) (by rw [List.length_append]; omega) fun w hw => hb w (List.mem_cons_of_mem _ (List.mem_append_right _ hw))
        refine ⟨v2, res2, X2, wh hcond e1 f1, f2, ?_⟩
        rw [f3, List.flatten_append, e2, List.append_assoc]
        refine congrArg (res.flatten ++ ·) ((jt_tail (S := (pw y :: seg.map pw).flatten) hrest).symm.trans ?_)
        show _ = [] ++ (bif hasStar (y :: seg ++ rest') then [40, 63, 62, 46, 42, 63] else [46, 42]) ++ jt true (y :: seg ++ rest')
        rw [hasStar_app hs, jt_seg true rest' hs]
        rfl
theorem x15 (row : List (List Nat)) (hok : okRow false row = true) (hb : ∀ w ∈ row, w.length ≤ 100) (hl : row.length ≤ 10) (hfu : 200 ≤ fu) (hjl : (jt false row).length ≤ 5000) :
    exFn F rank fu (m + 20) fn15 [.d (.list (row.map partD)), .d .star] c = some (.d (.str ([40, 63, 115, 58] ++ jt false row ++ [41, 92, 90])), c) := by
  cases split_row row false hok with
  | mk seg rest hs hrest _ =>
  have hlen : seg.length + rest.length ≤ 10 := List.length_append (as := seg) (bs := rest) ▸ hl
  have hseg : seg.length ≤ 10 := Nat.le_trans (Nat.le_add_right _ _) hlen
  have hrl : rest.length ≤ 10 := Nat.le_trans (Nat.le_add_left _ _) hlen
  have hP : (seg ++ rest).map partD = (seg.map pw).map .str ++ rest.map partD := (List.map_append (f := partD)).trans (congrArg (· ++ rest.map partD) (map_part hs))
  obtain ⟨v1, e1, t1, _, d1⟩ := segs (F := F) (rank := rank) (fu := fu) (q := m + 14) (k := c.length) (P := (seg ++ rest).map partD) (b := .addc 22 (.sub (.var 26) (.var 5))) (K := fun acc => c ++ acc :: []) (I := fun _ => True) (fun _ _ _ => trivial) (fun vars i x acc t _ hx hl => adX t.a (jat t hx) hl) hrest.hd (seg.map pw) 0 []
    (vset 4 (.d (.int (((seg ++ rest).map partD).length : Int))) (vset 5 (.d (.int 0)) (vset 22 (.app c.length) (vset 21 (.loc c.length) (vof [(26, .d (.list ((seg ++ rest).map partD))), (18, .d .star)]))))) fu hP ⟨rfl, rfl, rfl, rfl, rfl, rfl⟩ trivial (by rw [List.length_map]; exact Nat.lt_of_lt_of_le (Nat.lt_of_le_of_lt hseg (by decide)) hfu) (by rw [List.length_map, List.length_nil, Nat.zero_add]; exact Nat.le_trans hseg (by decide))
  obtain ⟨v2, res', X', e2, t2, u3⟩ := j_loop (F := F) (rank := rank) (fu := fu) (m := m) (c := c) hfu 10 rest _ (seg.map pw) [] v1 fu (by rw [List.length_map, List.length_map, List.length_append]; omega) hrl hrest t1 d1 (Nat.lt_of_lt_of_le (Nat.lt_of_le_of_lt hrl (by decide)) hfu) (by decide) (by rw [List.length_map]; exact Nat.le_trans (Nat.add_le_add_right hseg _) (by decide)) fun w hw => hb w (List.mem_append_right _ hw)
  rw [← jt_seg false rest hs] at u3
  have hfl : res'.flatten.length ≤ 5000 := u3 ▸ hjl
  have ef : ([[40, 63, 115, 58], res'.flatten, [41, 92, 90]] : List (List Nat)).flatten = [40, 63, 115, 58] ++ jt false (seg ++ rest) ++ [41, 92, 90] := by rw [u3]; simp
  have hj := jn0 (F := F) (rank := rank) (n := m + 17) (vr t2.r) (at_mid c (res'.map D.str) X') (strsOf_map res') (jnS_ok (Nat.le_trans hfl (by decide)))
  have hr : ev F rank (m + 19) (.fstr [(.str [40, 63, 115, 58]), (.var 21), (.str [41, 92, 90])]) (vset 21 (.d (.str res'.flatten)) v2) (c ++ (res'.map .str) :: X') = some (.d (.str ([40, 63, 115, 58] ++ jt false (seg ++ rest) ++ [41, 92, 90])), c ++ (res'.map .str) :: X') := by
    rw [← ef]
    exact fsR (es1 rfl (es1 (vr rfl) (es1 rfl rfl))) rfl rfl (by rw [ef, len_add3]; exact Nat.le_trans (Nat.add_le_add_right (Nat.add_le_add_left hjl 4) 3) (by decide))
  exact fnI rfl rfl (sq (newL rfl) (sq (baR rfl) (sq (muS (mu0 rfl (mu0 (lnR rfl rfl) rfl))) (sq (whS e1) (sq (whS e2) (sq (asR (trI (cmR (vr t2.i) (vr t2.n) (congrArg some (beq_self_eq_true _))))) (sq (asg hj) (sqR (ret hr))))))))) rfl take_last
end
end Mine
end
section
open PySem PySem.W PyProof.Rows
namespace Mine
noncomputable def sf : Nat → List (List Nat) → List Nat
  | _, [] => []
  | k, w :: r => bif w == [42] then k :: sf (k + 1) r else sf (k + 1) r
theorem sf_ge (r : List (List Nat)) : ∀ k : Nat, ∀ x ∈ sf k r, k ≤ x := by
  induction r with
  | nil => exact fun k x h => nomatch h
  | cons w r ih =>
    intro k x h
    have e : sf k (w :: r) = bif w == [42] then k :: sf (k + 1) r else sf (k + 1) r := rfl
    rw [e] at h
    cases hw : w == [42] with
    | true => rw [hw] at h; exact (List.mem_cons.mp h).elim (fun e => e ▸ Nat.le_refl _) fun h => Nat.le_of_succ_le (ih _ x h)
    | false => rw [hw] at h; exact Nat.le_of_succ_le (ih _ x h)
theorem sf_has (r : List (List Nat)) : ∀ k : Nat, hasStar r = !(sf k r).isEmpty := by
  induction r with
  | nil => exact fun k => rfl
  | cons w r ih =>
    intro k
    show (w == [42] || hasStar r) = !(bif w == [42] then k :: sf (k + 1) r else sf (k + 1) r).isEmpty
    cases w == [42] with
    | true => rfl
    | false => exact ih (k + 1)
theorem stars_sf (row : List (List Nat)) : ∀ pre : List (List Nat), ((List.range' pre.length row.length).filter fun k => (pre ++ row)[k]? == some [42]) = sf pre.length row := by
  induction row with
  | nil => exact fun pre => rfl
  | cons w r ih =>
    intro pre
    have h := ih (pre ++ [w])
    rw [List.length_append, List.append_assoc] at h
    rw [List.length_cons, List.range'_succ, List.filter_cons, at_mid pre w r]
    show (if (w == [42]) = true then _ else _) = bif w == [42] then pre.length :: sf (pre.length + 1) r else sf (pre.length + 1) r
    cases w == [42] with
    | true => exact congrArg (pre.length :: ·) h
    | false => exact h
theorem starsF_sf (row : List (List Nat)) : starsF row = sf 0 row := by
  unfold starsF
  rw [List.range_eq_range']
  exact stars_sf row []
theorem body_jt {f l : Nat} (rest : List (List Nat)) : ∀ (k : Nat) (b : Bool), (b = true → f < k) → (b = false → ∀ x, (sf k rest).head? = some x → x = f) → (∀ x, (sf k rest).getLast? = some x → x = l) → bodyF f l k rest = jt b rest := by
  induction rest with
  | nil => exact fun k b _ _ _ => rfl
  | cons w r ih =>
    intro k b hb hf hl
    have e : sf k (w :: r) = bif w == [42] then k :: sf (k + 1) r else sf (k + 1) r := rfl
    have ej : jt b (w :: r) = bif w == [42] then (bif b then [41] else []) ++ (bif hasStar r then [40, 63, 62, 46, 42, 63] else [46, 42]) ++ jt true r else pw w ++ jt b r := rfl
    have eb : bodyF f l k (w :: r) = textPc f l k w ++ bodyF f l (k + 1) r := rfl
    rw [e] at hf hl
    rw [ej, eb]
    unfold textPc
    cases hw : w == [42] with
    | false =>
      rw [hw] at hf hl
      exact congrArg (pw w ++ ·) (ih (k + 1) b (fun h => Nat.lt_succ_of_lt (hb h)) hf hl)
    | true =>
      rw [hw] at hf hl
      have h1 : decide (f < k) = b ∧ f < k + 1 := by
        cases b with
        | true => exact ⟨decide_eq_true (hb rfl), Nat.lt_succ_of_lt (hb rfl)⟩
        | false => exact hf rfl k rfl ▸ ⟨decide_eq_false (Nat.lt_irrefl k), Nat.lt_succ_self k⟩
      have h2 : decide (k < l) = hasStar r := by
        rw [sf_has r (k + 1)]
        have hge := sf_ge r (k + 1)
        generalize sf (k + 1) r = s at hl hge
        cases s with
        | nil => exact hl k rfl ▸ decide_eq_false (Nat.lt_irrefl k)
        | cons a s =>
          obtain ⟨x, hx⟩ : ∃ x, (a :: s).getLast? = some x := ⟨_, List.getLast?_eq_some_getLast (by simp)⟩
          exact hl x hx ▸ decide_eq_true (hge x (List.mem_of_getLast? hx))
      rw [ih (k + 1) true (fun _ => h1.2) (fun h => nomatch h) (fun x hx => hl x (by
        generalize sf (k + 1) r = s at hx
        cases s with
        | nil => exact nomatch hx
        | cons a s => exact hx)), h1.1, h2]
      rfl
theorem textF_jt (row : List (List Nat)) : textF row = [40, 63, 115, 58] ++ jt false row ++ [41, 92, 90] := by
  unfold textF
  rw [body_jt row 0 false (fun h => nomatch h) (fun _ x hx => ?_) (fun x hx => ?_)]
  · rw [starsF_sf, List.headD_eq_head?_getD, hx]; rfl
  · rw [starsF_sf, List.getLastD_eq_getLast?, hx]; rfl
theorem jt_len (row : List (List Nat)) : ∀ b : Bool, (∀ w ∈ row, w.length ≤ 100) → (jt b row).length ≤ row.length * 110 := by
  induction row with
  | nil => exact fun b _ => Nat.zero_le _
  | cons w r ih =>
    intro b h
    have h2 := fun b => ih b fun x hx => h x (List.mem_cons_of_mem _ hx)
    show (bif w == [42] then (bif b then [41] else []) ++ (bif hasStar r then [40, 63, 62, 46, 42, 63] else [46, 42]) ++ jt true r else pw w ++ jt b r).length ≤ (r.length + 1) * 110
    rw [Nat.succ_mul, Nat.add_comm]
    cases w == [42] with
    | true => exact Nat.le_trans (Nat.le_of_eq List.length_append) (Nat.add_le_add (Nat.le_trans (by cases b <;> cases hasStar r <;> exact Nat.le_of_ble_eq_true rfl : _ ≤ 7) (by decide)) (h2 true))
    | false => exact Nat.le_trans (Nat.le_of_eq List.length_append) (Nat.add_le_add (Nat.le_trans (pw_len w) (Nat.le_trans (Nat.add_le_add_right (h w (List.mem_cons_self ..)) 2) (by decide))) (h2 b))
section
variable {F : FT} {rank : Nat → Nat} {fu m : Nat} {c : Cells}
theorem x12 (row : List (List Nat)) (hc : c.all noStars = true) (hr14 : ∀ k, Nat.ble (rank 14) (m + k) = true) (hr15 : ∀ k, Nat.ble (rank 15) (m + k) = true) (h14 : F 14 [.d (.str (patF row)), .d .star, .d (.str [46])] c = some (.d (.list (row.map partD)), c))
    (h15 : F 15 [.d (.list (row.map partD)), .d .star] c = some (.d (.str (textF row)), c)) : exFn F rank fu (m + 20) fn12 [.d (.str (patF row))] c = some (.d (.str (textF row)), c) := by
  have hb : exs (ex F rank fu (m + 20)) fn12.body (vof ((18, .d .star) :: [(17, .d (.str (patF row)))])) c = some (.ret (.d (.str (textF row))), vset 19 (.d (.list (row.map partD))) (vof ((18, .d .star) :: [(17, .d (.str (patF row)))])), c) :=
    sq (asg (callR (es1 rfl (es1 rfl (es1 rfl rfl))) (hr14 18) h14)) (sqR (ret (callR (es1 rfl (es1 rfl rfl)) (hr15 18) h15)))
  refine (if_pos (show (true && c.all noStars) = true from hc)).trans ((congrArg (Option.bind · fun x : Fl × Vars × Cells => (freeze x.2.2 c.length x.1).bind fun v => if v.noStar && (x.2.2.take c.length).all noStars then some (v, x.2.2.take c.length) else none) hb).trans ?_)
  show (if (true && (c.take c.length).all noStars) = true then some (V.d (.str (textF row)), c.take c.length) else none) = _
  rw [List.take_length, hc]; rfl
end
end Mine
end
section
open PySem PySem.W PyProof.Rows
namespace Mine
noncomputable def ltK (x y : Ky) : Bool := if x.1 == y.1 then (if x.2.1 == y.2.1 then (if x.2.2 == y.2.2 then false else decide (x.2.2 < y.2.2)) else decide (x.2.1 < y.2.1)) else decide (x.1 < y.1)
theorem some_if {α : Type} {b : Bool} {x y : α} : (if b = true then some x else some y) = some (if b = true then x else y) := by cases b <;> rfl
theorem ltTup_ky (x y : Ky) : ltTup [.int x.1, .int x.2.1, .int x.2.2] [.int y.1, .int y.2.1, .int y.2.2] = some (ltK x y) := by
  show (if (x.1 == y.1) = true then (if (x.2.1 == y.2.1) = true then (if (x.2.2 == y.2.2) = true then some false else some (decide (x.2.2 < y.2.2))) else some (decide (x.2.1 < y.2.1))) else some (decide (x.1 < y.1))) = _
  rw [some_if, some_if, some_if]; rfl
section
variable {K : Type} (lt : K → K → Bool)
noncomputable def sdL (new : K) (s : Nat) : Nat → List K → Nat → List K × Nat
  | 0, l, p => (l, p)
  | n + 1, l, p => bif decide (s < p) then (l[(p - 1) / 2]?).elim (l, p) fun par => bif lt new par then sdL new s n (l.set p par) ((p - 1) / 2) else (l, p) else (l, p)
noncomputable def sd (l : List K) (s p : Nat) : List K := (l[p]?).elim l fun new => (sdL lt new s p l p).1.set (sdL lt new s p l p).2 new
noncomputable def suL : Nat → List K → Nat → List K × Nat
  | 0, l, p => (l, p)
  | n + 1, l, p => (l[2 * p + 1]?).elim (l, p) fun x => (l[2 * p + 2]?).elim (suL n (l.set p x) (2 * p + 1)) fun y => bif lt x y then suL n (l.set p x) (2 * p + 1) else suL n (l.set p y) (2 * p + 2)
noncomputable def su (l : List K) (p : Nat) : List K := (l[p]?).elim l fun new => sd lt ((suL lt l.length l p).1.set (suL lt l.length l p).2 new) p (suL lt l.length l p).2
noncomputable def hpf (l : List K) : List K := (List.range (l.length / 2)).reverse.foldl (fun l i => su lt l i) l
noncomputable def hpop (l : List K) : Option (K × List K) := l.getLast?.bind fun last => match l.dropLast with
  | [] => some (last, [])
  | x :: r => some (x, su lt (last :: r) 0)
theorem half_lt {p n : Nat} (h : p < n) : (p - 1) / 2 < n := Nat.lt_of_le_of_lt (Nat.le_trans (Nat.div_le_self _ _) (Nat.sub_le _ _)) h
theorem half_le (p : Nat) : (p - 1) / 2 ≤ p := Nat.le_trans (Nat.div_le_self _ _) (Nat.sub_le _ _)
theorem sdL_len (new : K) (s n : Nat) : ∀ (l : List K) (p : Nat), p < l.length → (sdL lt new s n l p).1.length = l.length ∧ (sdL lt new s n l p).2 < l.length ∧ (sdL lt new s n l p).2 ≤ p := by
  induction n with
  | zero => exact fun l p h => ⟨rfl, h, Nat.le_refl _⟩
  | succ n ih =>
    intro l p h
    unfold sdL
    cases decide (s < p) with
    | false => exact ⟨rfl, h, Nat.le_refl _⟩
    | true =>
      cases l[(p - 1) / 2]? with
      | none => exact ⟨rfl, h, Nat.le_refl _⟩
      | some par =>
        show (bif lt new par then sdL lt new s n (l.set p par) ((p - 1) / 2) else (l, p)).1.length = l.length ∧ (bif lt new par then sdL lt new s n (l.set p par) ((p - 1) / 2) else (l, p)).2 < l.length ∧ (bif lt new par then sdL lt new s n (l.set p par) ((p - 1) / 2) else (l, p)).2 ≤ p
        cases lt new par with
        | false => exact ⟨rfl, h, Nat.le_refl _⟩
        | true =>
          have i := ih (l.set p par) ((p - 1) / 2) (by rw [List.length_set]; exact half_lt h)
          rw [List.length_set] at i
          exact ⟨i.1, i.2.1, Nat.le_trans i.2.2 (half_le p)⟩
theorem sd_is {l : List K} {p : Nat} {new : K} (s : Nat) (h : l[p]? = some new) : sd lt l s p = (sdL lt new s p l p).1.set (sdL lt new s p l p).2 new := congrArg (fun o : Option K => o.elim l fun new => (sdL lt new s p l p).1.set (sdL lt new s p l p).2 new) h
theorem su_is {l : List K} {p : Nat} {new : K} (h : l[p]? = some new) : su lt l p = sd lt ((suL lt l.length l p).1.set (suL lt l.length l p).2 new) p (suL lt l.length l p).2 := congrArg (fun o : Option K => o.elim l fun new => sd lt ((suL lt l.length l p).1.set (suL lt l.length l p).2 new) p (suL lt l.length l p).2) h
theorem sd_len (l : List K) (s p : Nat) : (sd lt l s p).length = l.length := by
  cases h : l[p]? with
  | none => exact congrArg List.length (congrArg (fun o : Option K => o.elim l fun new => (sdL lt new s p l p).1.set (sdL lt new s p l p).2 new) h)
  | some new => rw [sd_is lt s h, List.length_set]; exact (sdL_len lt new s p l p (at_lt h)).1
theorem suL_len (n : Nat) : ∀ (l : List K) (p : Nat), p < l.length → (suL lt n l p).1.length = l.length ∧ (suL lt n l p).2 < l.length ∧ p ≤ (suL lt n l p).2 := by
  induction n with
  | zero => exact fun l p h => ⟨rfl, h, Nat.le_refl _⟩
  | succ n ih =>
    intro l p h
    have go : ∀ (x : K) (ch : Nat), ch < l.length → p ≤ ch → (suL lt n (l.set p x) ch).1.length = l.length ∧ (suL lt n (l.set p x) ch).2 < l.length ∧ p ≤ (suL lt n (l.set p x) ch).2 := fun x ch h1 h2 => by
      have i := ih (l.set p x) ch (by rw [List.length_set]; exact h1)
      rw [List.length_set] at i
      exact ⟨i.1, i.2.1, Nat.le_trans h2 i.2.2⟩
    unfold suL
    cases hx : l[2 * p + 1]? with
    | none => exact ⟨rfl, h, Nat.le_refl _⟩
    | some x =>
      have g1 := go x (2 * p + 1) (at_lt hx) (by omega)
      cases hy : l[2 * p + 2]? with
      | none => exact g1
      | some y =>
        have g2 := go y (2 * p + 2) (at_lt hy) (by omega)
        show (bif lt x y then suL lt n (l.set p x) (2 * p + 1) else suL lt n (l.set p y) (2 * p + 2)).1.length = l.length ∧ (bif lt x y then suL lt n (l.set p x) (2 * p + 1) else suL lt n (l.set p y) (2 * p + 2)).2 < l.length ∧ p ≤ (bif lt x y then suL lt n (l.set p x) (2 * p + 1) else suL lt n (l.set p y) (2 * p + 2)).2
        cases lt x y with
        | true => exact g1
        | false => exact g2
theorem su_len (l : List K) (p : Nat) : (su lt l p).length = l.length := by
  cases h : l[p]? with
  | none => exact congrArg List.length (congrArg (fun o : Option K => o.elim l fun new => sd lt ((suL lt l.length l p).1.set (suL lt l.length l p).2 new) p (suL lt l.length l p).2) h)
  | some new => rw [su_is lt h, sd_len, List.length_set]; exact (suL_len lt l.length l p (at_lt h)).1
end
noncomputable def kys (l : List Ky) : List D := l.map kyD
theorem kys_get {l : List Ky} {p : Nat} {x : Ky} (h : l[p]? = some x) : (kys l)[p]? = some (kyD x) := (List.getElem?_map ..).trans (congrArg (Option.map kyD) h)
theorem kys_set (l : List Ky) (p : Nat) (x : Ky) : (kys l).set p (kyD x) = kys (l.set p x) := (List.map_set ..).symm
theorem kys_len (l : List Ky) : (kys l).length = l.length := List.length_map kyD
noncomputable def b5 (q : ME) : List MS := [(.assign 9 (.bin .shr (.bin .sub (.var 7) (.int 1)) (.int 1))), (.assign 10 (.sub (.var 0) (.var 9))), (.ifs q [(.setitem 0 (.var 7) (.var 10)), (.assign 7 (.var 9)), .cont] []), .brk]
noncomputable def g5 (q : ME) : Fn := { params := [0, 6, 7], star := none, body := [(.assign 8 (.sub (.var 0) (.var 7))), (.while (.cmp .gt (.var 7) (.var 6)) (b5 q)), (.setitem 0 (.var 7) (.var 8))] }
theorem fn5_g : fn5 = g5 (.cmp .lt (.var 8) (.var 10)) := rfl
theorem fn7_g : fn7 = g5 (.cmp .lt (.var 10) (.var 8)) := rfl
theorem set_get {c : Cells} {i : Nat} {a : List D} (hi : i < c.length) : (c.set i a)[i]? = some a := List.getElem?_set_self hi
theorem set_set {c : Cells} {i : Nat} {a b : List D} : (c.set i a).set i b = c.set i b := List.set_set ..
section
variable {F : FT} {rank : Nat → Nat} {fu m n k i p : Nat} {c C : Cells} {vs : Vars} {l : List Ky} {x : Ky}
theorem subH {e : ME} (h0 : vget vs 0 = some (.loc i)) (he : ev F rank (n + 1) e vs C = some (.d (.int (p : Int)), C)) (hC : C[i]? = some (kys l)) (hx : l[p]? = some x) : ev F rank (n + 2) (.sub (.var 0) e) vs C = some (.d (kyD x), C) :=
  sbD (vr h0) he ((congrArg (Option.bind · fun l => idxL l (p : Int)) hC).trans (kys_get hx))
theorem siH {e ix : ME} (hi : i < c.length) (h0 : vget vs 0 = some (.loc i)) (hx : ev F rank n ix vs (c.set i (kys l)) = some (.d (.int (p : Int)), c.set i (kys l))) (he : ev F rank n e vs (c.set i (kys l)) = some (.d (kyD x), c.set i (kys l))) (hp : p < l.length) :
    ex F rank fu (n + 1) (.setitem 0 ix e) vs (c.set i (kys l)) = some (.next, vs, c.set i (kys (l.set p x))) := by
  have e1 : setV (c.set i (kys l)) i (p : Int) (kyD x) = some (c.set i (kys (l.set p x))) := (congrArg (Option.bind · fun l => if Nat.blt p l.length then some ((c.set i (kys _)).set i (l.set p (kyD x))) else none) (set_get hi)).trans ((if_pos (show Nat.ble (p + 1) (kys l).length = true from Nat.ble_eq.mpr ((kys_len l).symm ▸ hp))).trans (by rw [kys_set, set_set]))
  exact (congrArg (Option.bind · fun (y : V × Cells) => (dOf y.1).bind fun d => (vget vs 0).bind fun v => (optLoc v).bind fun k => (ev F rank n ix vs y.2).bind fun z => (optInt z.1).bind fun i => (setV z.2 k i d).map fun c => (Fl.next, vs, c)) he).trans
    ((congrArg (Option.bind · fun (v : V) => (optLoc v).bind fun k => (ev F rank n ix vs (c.set i (kys l))).bind fun z => (optInt z.1).bind fun i => (setV z.2 k i (kyD x)).map fun c => (Fl.next, vs, c)) h0).trans
      ((congrArg (Option.bind · fun (z : V × Cells) => (optInt z.1).bind fun j => (setV z.2 i j (kyD x)).map fun c => (Fl.next, vs, c)) hx).trans (congrArg (Option.map fun c => (Fl.next, vs, c)) e1)))
noncomputable def Q5 (F : FT) (rank : Nat → Nat) (q : ME) (lt : Ky → Ky → Bool) : Prop := ∀ (L : Nat) (vars : Vars) (C : Cells) (x y : Ky), vget vars 8 = some (.d (kyD x)) → vget vars 10 = some (.d (kyD y)) → ev F rank (L + 3) q vars C = some (.d (.bool (lt x y)), C)
theorem q5_min : Q5 F rank (.cmp .lt (.var 8) (.var 10)) ltK := fun L vars C x y h1 h2 => cmR (vr h1) (vr h2) (ltTup_ky x y)
theorem q5_max : Q5 F rank (.cmp .lt (.var 10) (.var 8)) (fun x y => ltK y x) := fun L vars C x y h1 h2 => cmR (vr h2) (vr h1) (ltTup_ky y x)
theorem half_of {p : Nat} (h : 0 < p) : Int.fdiv ((p : Int) - 1) 2 = (((p - 1) / 2 : Nat) : Int) := by
  rw [show (p : Int) - 1 = ((p - 1 : Nat) : Int) by omega]; exact fdiv_nat (p - 1) 2
structure H5 (i s p : Nat) (new : Ky) (vars : Vars) : Prop where
  h0 : vget vars 0 = some (.loc i)
  h6 : vget vars 6 = some (.d (.int (s : Int)))
  h7 : vget vars 7 = some (.d (.int (p : Int)))
  h8 : vget vars 8 = some (.d (kyD new))
theorem loop5 {q : ME} {lt : Ky → Ky → Bool} (hq : Q5 F rank q lt) {s : Nat} (hi : i < c.length) {new : Ky} (n : Nat) : ∀ (l : List Ky) (p : Nat) (vars : Vars) (N : Nat), p ≤ n → n < N → p < l.length → H5 i s p new vars →
    ∃ vars', whl (tr F rank (k + 6) (.cmp .gt (.var 7) (.var 6))) (exs (ex F rank fu (k + 6)) (b5 q)) N vars (c.set i (kys l)) = some (.next, vars', c.set i (kys (sdL lt new s n l p).1)) ∧ H5 i s (sdL lt new s n l p).2 new vars' := by
  induction n with
  | zero =>
    intro l p vars N hp hN hl h
    cases N with
    | zero => exact nomatch hN
    | succ N =>
    cases Nat.le_zero.mp hp
    exact ⟨vars, wh0 (trI (cmR (vr h.h7) (vr h.h6) (congrArg some (lt_no (Nat.zero_le s))))), h⟩
  | succ n ih =>
    intro l p vars N hp hN hl h
    cases N with
    | zero => exact nomatch hN
    | succ N =>
    have e : sdL lt new s (n + 1) l p = bif decide (s < p) then (l[(p - 1) / 2]?).elim (l, p) fun par => bif lt new par then sdL lt new s n (l.set p par) ((p - 1) / 2) else (l, p) else (l, p) := rfl
    rw [e]
    cases hs : decide (s < p) with
    | false => exact ⟨vars, wh0 (trI (cmR (vr h.h7) (vr h.h6) (congrArg some (lt_no (Nat.not_lt.mp (of_decide_eq_false hs)))))), h⟩
    | true =>
      have hsp : s < p := of_decide_eq_true hs
      have hg := List.getElem?_eq_getElem (half_lt hl)
      rw [hg]
      generalize l[(p - 1) / 2]'(half_lt hl) = par at hg
      show ∃ vars', whl _ _ _ _ _ = some (Fl.next, vars', c.set i (kys (bif lt new par then sdL lt new s n (l.set p par) ((p - 1) / 2) else (l, p)).1)) ∧ H5 i s (bif lt new par then sdL lt new s n (l.set p par) ((p - 1) / 2) else (l, p)).2 new vars'
      have hcond : tr F rank (k + 6) (.cmp .gt (.var 7) (.var 6)) vars (c.set i (kys l)) = some (true, c.set i (kys l)) := trI (cmR (vr h.h7) (vr h.h6) (congrArg some (lt_of' hsp)))
      have a1 : ex F rank fu (k + 6) (.assign 9 (.bin .shr (.bin .sub (.var 7) (.int 1)) (.int 1))) vars (c.set i (kys l)) = some (.next, vset 9 (.d (.int (((p - 1) / 2 : Nat) : Int))) vars, c.set i (kys l)) := asg (bi (bi (vr h.h7) rfl rfl) rfl (congrArg (fun i => some (D.int i)) (half_of (Nat.lt_of_le_of_lt (Nat.zero_le s) hsp))))
      have hqe := hq (k + 2) (vset 10 (.d (kyD par)) (vset 9 (.d (.int (((p - 1) / 2 : Nat) : Int))) vars)) (c.set i (kys l)) new par h.h8 rfl
      have a2 : ex F rank fu (k + 6) (.assign 10 (.sub (.var 0) (.var 9))) (vset 9 (.d (.int (((p - 1) / 2 : Nat) : Int))) vars) (c.set i (kys l)) = some (.next, vset 10 (.d (kyD par)) (vset 9 (.d (.int (((p - 1) / 2 : Nat) : Int))) vars), c.set i (kys l)) := asg (subH h.h0 (vr rfl) (set_get hi) hg)
      cases hlt : lt new par with
      | false =>
        rw [hlt] at hqe
        exact ⟨_, whB hcond (sq a1 (sq a2 (sq (ifQ (q := false) (trI hqe) rfl) (sqB rfl)))), h.h0, h.h6, h.h7, h.h8⟩
      | true =>
        rw [hlt] at hqe
        obtain ⟨v', r1, r2⟩ := ih (l.set p par) ((p - 1) / 2) (vset 7 (.d (.int (((p - 1) / 2 : Nat) : Int))) (vset 10 (.d (kyD par)) (vset 9 (.d (.int (((p - 1) / 2 : Nat) : Int))) vars))) N (Nat.le_of_lt_succ (Nat.lt_of_lt_of_le (by omega : (p - 1) / 2 < p) hp)) (Nat.lt_of_succ_lt_succ hN) (by rw [List.length_set]; exact half_lt hl) ⟨h.h0, h.h6, rfl, h.h8⟩
        exact ⟨v', whC hcond (sq a1 (sq a2 (sqC (ifQ (q := true) (trI hqe) (sq (siH hi h.h0 (vr h.h7) (vr rfl) hl) (sq (asg (vr rfl)) (sqC rfl))))))) r1, r2⟩
end
end Mine
end
section
open PySem PySem.W PyProof.Rows
namespace Mine
noncomputable def b6 (q : ME) : List MS := [(.assign 13 (.bin .add (.var 12) (.int 1))), (.ifs (.and (.cmp .lt (.var 13) (.var 11)) (.not q)) [(.assign 12 (.var 13))] []), (.setitem 0 (.var 7) (.sub (.var 0) (.var 12))), (.assign 7 (.var 12)), (.assign 12 (.bin .add (.bin .mul (.int 2) (.var 7)) (.int 1)))]
noncomputable def g6 (q : ME) (f : Nat) : Fn := { params := [0, 7], star := none, body := [
  (.assign 11 (.len (.var 0))), (.assign 6 (.var 7)), (.assign 8 (.sub (.var 0) (.var 7))), (.assign 12 (.bin .add (.bin .mul (.int 2) (.var 7)) (.int 1))),
  (.while (.cmp .lt (.var 12) (.var 11)) (b6 q)), (.setitem 0 (.var 7) (.var 8)), (.expr (.call f [(.var 0), (.var 6), (.var 7)]))] }
theorem fn6_g : fn6 = g6 (.cmp .lt (.sub (.var 0) (.var 12)) (.sub (.var 0) (.var 13))) 5 := rfl
theorem fn8_g : fn8 = g6 (.cmp .lt (.sub (.var 0) (.var 13)) (.sub (.var 0) (.var 12))) 7 := rfl
section
variable {F : FT} {rank : Nat → Nat} {fu m k : Nat} {c : Cells}
theorem set_self {i : Nat} {a : List D} (hc : c[i]? = some a) : c.set i a = c := List.ext_getElem? fun j => by
  by_cases hj : i = j
  · rw [← hj, List.getElem?_set_self (List.getElem?_eq_some_iff.mp hc).1, hc]
  · exact List.getElem?_set_ne hj
theorem take_set {i : Nat} {a : List D} : (c.set i a).take c.length = c.set i a := List.take_of_length_le (Nat.le_of_eq List.length_set)
theorem x5 {q : ME} {lt : Ky → Ky → Bool} (hq : Q5 F rank q lt) {i s p : Nat} {l : List Ky} (hc : c[i]? = some (kys l)) (hp : p < l.length) (hl : l.length ≤ 100) (hfu : 200 ≤ fu) : exFn F rank fu (m + 20) (g5 q) [.loc i, .d (.int (s : Int)), .d (.int (p : Int))] c = some (.d .none, c.set i (kys (sd lt l s p))) := by
  have hi : i < c.length := (List.getElem?_eq_some_iff.mp hc).1
  have hg := List.getElem?_eq_getElem hp
  rw [sd_is lt s hg]
  generalize l[p]'hp = new at hg
  obtain ⟨v', r1, r2⟩ := loop5 (F := F) (rank := rank) (fu := fu) (c := c) (k := m + 13) hq (s := s) hi (new := new) p l p (vset 8 (.d (kyD new)) (vof [(0, .loc i), (6, .d (.int (s : Int))), (7, .d (.int (p : Int)))])) fu (Nat.le_refl _) (Nat.lt_of_lt_of_le hp (Nat.le_trans hl (Nat.le_trans (by decide) hfu))) hp ⟨rfl, rfl, rfl, rfl⟩
  rw [set_self hc] at r1
  have hsl := sdL_len lt new s p l p hp
  exact fnI rfl rfl (sq (asg (subH rfl (vr rfl) hc hg)) (sq (whS r1) (sq1 (siH hi r2.h0 (vr r2.h7) (vr r2.h8) (hsl.1.symm ▸ hsl.2.1))))) rfl take_set
noncomputable def Q6 (F : FT) (rank : Nat → Nat) (q : ME) (lt : Ky → Ky → Bool) : Prop := ∀ (L i a b : Nat) (vars : Vars) (C : Cells) (l : List Ky) (x y : Ky), C[i]? = some (kys l) → l[a]? = some x → l[b]? = some y → vget vars 0 = some (.loc i) → vget vars 12 = some (.d (.int (a : Int))) → vget vars 13 = some (.d (.int (b : Int))) → ev F rank (L + 3) q vars C = some (.d (.bool (lt x y)), C)
theorem q6_min : Q6 F rank (.cmp .lt (.sub (.var 0) (.var 12)) (.sub (.var 0) (.var 13))) ltK := fun L i a b vars C l x y hC ha hb h0 h1 h2 => cmR (subH h0 (vr h1) hC ha) (subH h0 (vr h2) hC hb) (ltTup_ky x y)
theorem q6_max : Q6 F rank (.cmp .lt (.sub (.var 0) (.var 13)) (.sub (.var 0) (.var 12))) (fun x y => ltK y x) := fun L i a b vars C l x y hC ha hb h0 h1 h2 => cmR (subH h0 (vr h2) hC hb) (subH h0 (vr h1) hC ha) (ltTup_ky y x)
structure H6 (i s p N ch : Nat) (new : Ky) (vars : Vars) : Prop extends H5 i s p new vars where
  h11 : vget vars 11 = some (.d (.int (N : Int)))
  h12 : vget vars 12 = some (.d (.int (ch : Int)))
theorem dbl {vs : Vars} {C : Cells} {p n : Nat} (h : vget vs 7 = some (.d (.int (p : Int)))) (hp : p < 100) : ev F rank (n + 3) (.bin .add (.bin .mul (.int 2) (.var 7)) (.int 1)) vs C = some (.d (.int ((2 * p + 1 : Nat) : Int)), C) :=
  bi (bi rfl (vr h) (if_pos (Bool.and_eq_true_iff.mpr ⟨rfl, decide_eq_true (Nat.lt_trans hp (by decide) : (p : Int).natAbs < 1000000)⟩))) rfl rfl
noncomputable abbrev b6t : List MS := [(.setitem 0 (.var 7) (.sub (.var 0) (.var 12))), (.assign 7 (.var 12)), (.assign 12 (.bin .add (.bin .mul (.int 2) (.var 7)) (.int 1)))]
theorem loop6 {q : ME} {lt : Ky → Ky → Bool} (hq : Q6 F rank q lt) {i : Nat} (hi : i < c.length) {new : Ky} {s : Nat} (n : Nat) : ∀ (l : List Ky) (p : Nat) (vars : Vars) (N : Nat), l.length ≤ p + n → n < N → p < l.length → l.length ≤ 100 → H6 i s p l.length (2 * p + 1) new vars →
    ∃ vars', whl (tr F rank (k + 8) (.cmp .lt (.var 12) (.var 11))) (exs (ex F rank fu (k + 8)) (b6 q)) N vars (c.set i (kys l)) = some (.next, vars', c.set i (kys (suL lt n l p).1)) ∧ H5 i s (suL lt n l p).2 new vars' := by
  induction n with
  | zero => exact fun l p vars N hp hN hl => absurd hl (Nat.not_lt.mpr hp)
  | succ n ih =>
    intro l p vars N hp hN hl hl100 h
    cases N with
    | zero => exact nomatch hN
    | succ N =>
    have e : suL lt (n + 1) l p = (l[2 * p + 1]?).elim (l, p) fun x => (l[2 * p + 2]?).elim (suL lt n (l.set p x) (2 * p + 1)) fun y => bif lt x y then suL lt n (l.set p x) (2 * p + 1) else suL lt n (l.set p y) (2 * p + 2) := rfl
    rw [e]
    cases hx : l[2 * p + 1]? with
    | none => exact ⟨vars, wh0 (trI (cmR (vr h.h12) (vr h.h11) (congrArg some (lt_no (List.getElem?_eq_none_iff.mp hx))))), h.toH5⟩
    | some x =>
      have hcond : tr F rank (k + 8) (.cmp .lt (.var 12) (.var 11)) vars (c.set i (kys l)) = some (true, c.set i (kys l)) := trI (cmR (vr h.h12) (vr h.h11) (congrArg some (lt_of' (at_lt hx))))
      have a1 : ex F rank fu (k + 8) (.assign 13 (.bin .add (.var 12) (.int 1))) vars (c.set i (kys l)) = some (.next, vset 13 (.d (.int ((2 * p + 2 : Nat) : Int))) vars, c.set i (kys l)) := asg (bi (vr h.h12) rfl rfl)
      have key : ∀ (ch : Nat) (z : Ky) (V : Vars), l[ch]? = some z → H6 i s p l.length ch new V → p < ch → (∀ {y}, exs (ex F rank fu (k + 8)) b6t V (c.set i (kys l)) = y → exs (ex F rank fu (k + 8)) (b6 q) vars (c.set i (kys l)) = y) →
          ∃ vars', whl (tr F rank (k + 8) (.cmp .lt (.var 12) (.var 11))) (exs (ex F rank fu (k + 8)) (b6 q)) (N + 1) vars (c.set i (kys l)) = some (.next, vars', c.set i (kys (suL lt n (l.set p z) ch).1)) ∧ H5 i s (suL lt n (l.set p z) ch).2 new vars' := by
        intro ch z V hz w hpc hb
        obtain ⟨v', r1, r2⟩ := ih (l.set p z) ch (vset 12 (.d (.int ((2 * ch + 1 : Nat) : Int))) (vset 7 (.d (.int (ch : Int))) V)) N (by rw [List.length_set]; omega) (Nat.lt_of_succ_lt_succ hN) (by rw [List.length_set]; exact at_lt hz) (by rw [List.length_set]; exact hl100) (by rw [List.length_set]; exact ⟨⟨w.h0, w.h6, rfl, w.h8⟩, w.h11, rfl⟩)
        exact ⟨v', wh hcond (hb (sq (siH hi w.h0 (vr w.h7) (subH w.h0 (vr w.h12) (set_get hi) hz) hl) (sq (asg (vr w.h12)) (sq1 (asg (dbl rfl (Nat.lt_of_lt_of_le (at_lt hz) hl100))))))) r1, r2⟩
      cases hy : l[2 * p + 2]? with
      | none => exact key (2 * p + 1) x (vset 13 (.d (.int ((2 * p + 2 : Nat) : Int))) vars) hx ⟨⟨h.h0, h.h6, h.h7, h.h8⟩, h.h11, h.h12⟩ (by omega) fun g => sq a1 (sq (ifQ (q := false) (trI (anF (cmR (vr rfl) (vr h.h11) (congrArg some (lt_no (List.getElem?_eq_none_iff.mp hy)))))) rfl) g)
      | some y =>
        have hqe := hq (k + 2) i (2 * p + 1) (2 * p + 2) (vset 13 (.d (.int ((2 * p + 2 : Nat) : Int))) vars) (c.set i (kys l)) l _ _ (set_get hi) hx hy h.h0 h.h12 rfl
        have htr : tr F rank (k + 7) (.and (.cmp .lt (.var 13) (.var 11)) (.not q)) (vset 13 (.d (.int ((2 * p + 2 : Nat) : Int))) vars) (c.set i (kys l)) = some (!(lt x y), c.set i (kys l)) := trI (anT (trI (cmR (vr rfl) (vr h.h11) (congrArg some (lt_of' (at_lt hy))))) (noQ (trI hqe)))
        show ∃ vars', whl _ _ _ _ _ = some (Fl.next, vars', c.set i (kys (bif lt x y then suL lt n (l.set p x) (2 * p + 1) else suL lt n (l.set p y) (2 * p + 2)).1)) ∧ H5 i s (bif lt x y then suL lt n (l.set p x) (2 * p + 1) else suL lt n (l.set p y) (2 * p + 2)).2 new vars'
        cases hlt : lt x y with
        | true =>
          rw [hlt] at htr
          exact key (2 * p + 1) x (vset 13 (.d (.int ((2 * p + 2 : Nat) : Int))) vars) hx ⟨⟨h.h0, h.h6, h.h7, h.h8⟩, h.h11, h.h12⟩ (by omega) fun g => sq a1 (sq (ifQ (q := false) htr rfl) g)
        | false =>
          rw [hlt] at htr
          exact key (2 * p + 2) y (vset 12 (.d (.int ((2 * p + 2 : Nat) : Int))) (vset 13 (.d (.int ((2 * p + 2 : Nat) : Int))) vars)) hy ⟨⟨h.h0, h.h6, h.h7, h.h8⟩, h.h11, rfl⟩ (by omega) fun g => sq a1 (sq (ifQ (q := true) htr (sq1 (asg (vr rfl)))) g)
end
end Mine
end
section
open PySem PySem.W PyProof.Rows
namespace Mine
section
variable {F : FT} {rank : Nat → Nat} {fu m n : Nat} {c : Cells}
theorem exR {e : ME} {vs : Vars} {c' : Cells} (h : ev F rank n e vs c = some (.d .none, c')) : ex F rank fu (n + 1) (.expr e) vs c = some (.next, vs, c') := congrArg (Option.bind · fun (y : V × Cells) => if isN y.1 then some (Fl.next, vs, y.2) else none) h
theorem popR {vs : Vars} {x i : Nat} {r : V × Cells} (hv : vget vs x = some (.loc i)) (h : popV c i = some r) : ev F rank (n + 1) (.pop x) vs c = some r := (congrArg (Option.bind · fun v => (optLoc v).bind (popV c)) hv).trans h
theorem truC {i : Nat} {l : List D} (h : c[i]? = some l) : truth c (.loc i) = some (!l.isEmpty) := congrArg (Option.map fun (l : List D) => !l.isEmpty) h
theorem lnC {i : Nat} {l : List D} (h : c[i]? = some l) : lenV c (.loc i) = some l.length := congrArg (Option.map List.length) h
theorem x6 {q : ME} {f : Nat} {lt : Ky → Ky → Bool} (hq : Q6 F rank q lt) {i p : Nat} {l : List Ky} (hc : c[i]? = some (kys l)) (hp : p < l.length) (hl : l.length ≤ 100) (hfu : 200 ≤ fu) (hr : ∀ k, Nat.ble (rank f) (m + k) = true)
    (h5 : ∀ (c : Cells) (l : List Ky) (s p : Nat), c[i]? = some (kys l) → p < l.length → l.length ≤ 100 → F f [.loc i, .d (.int (s : Int)), .d (.int (p : Int))] c = some (.d .none, c.set i (kys (sd lt l s p)))) :
    exFn F rank fu (m + 20) (g6 q f) [.loc i, .d (.int (p : Int))] c = some (.d .none, c.set i (kys (su lt l p))) := by
  have hi : i < c.length := (List.getElem?_eq_some_iff.mp hc).1
  have hg := List.getElem?_eq_getElem hp
  rw [su_is lt hg]
  generalize l[p]'hp = new at hg
  have hln : lenV c (.loc i) = some l.length := (lnC hc).trans (congrArg some (kys_len l))
  obtain ⟨v', r1, r2⟩ := loop6 (F := F) (rank := rank) (fu := fu) (c := c) hq hi (new := new) (k := m + 11) (s := p) l.length l p (vset 12 (.d (.int ((2 * p + 1 : Nat) : Int))) (vset 8 (.d (kyD new)) (vset 6 (.d (.int (p : Int))) (vset 11 (.d (.int (l.length : Int))) (vof [(0, .loc i), (7, .d (.int (p : Int)))])))))
    fu (Nat.le_add_left _ _) (Nat.lt_of_le_of_lt hl (Nat.lt_of_lt_of_le (by decide) hfu)) hp hl ⟨⟨rfl, rfl, rfl, rfl⟩, rfl, rfl⟩
  rw [set_self hc] at r1
  have hsl := suL_len lt l.length l p hp
  have h := h5 (c.set i (kys ((suL lt l.length l p).1.set (suL lt l.length l p).2 new))) ((suL lt l.length l p).1.set (suL lt l.length l p).2 new) p (suL lt l.length l p).2 (set_get hi) (by rw [List.length_set, hsl.1]; exact hsl.2.1) (by rw [List.length_set, hsl.1]; exact hl)
  rw [set_set] at h
  exact fnI rfl rfl (sq (asg (lnR (vr rfl) hln)) (sq (asg (vr rfl)) (sq (asg (subH rfl (vr rfl) hc hg)) (sq (asg (dbl rfl (Nat.lt_of_lt_of_le hp hl))) (sq (whS r1) (sq (siH hi r2.h0 (vr r2.h7) (vr r2.h8) (hsl.1.symm ▸ hsl.2.1)) (sq1 (exR (callR (es1 (vr r2.h0) (es1 (vr r2.h6) (es1 (vr r2.h7) rfl))) (hr 18) h)))))))))
    rfl take_set
noncomputable def g1 (f : Nat) : Fn := { params := [0], star := none, body := [(.assign 1 (.pop 0)), (.ifs (.var 0) [(.assign 2 (.sub (.var 0) (.int 0))), (.setitem 0 (.int 0) (.var 1)), (.expr (.call f [(.var 0), (.int 0)])), (.ret (some (.var 2)))] []), (.ret (some (.var 1)))] }
theorem fn1_g : fn1 = g1 6 := rfl
theorem fn3_g : fn3 = g1 8 := rfl
theorem hpop_elim {K : Type} {lt : K → K → Bool} {l l' : List K} {x : K} {G : Prop} (h : hpop lt l = some (x, l')) (k0 : l.getLast? = some x → l.dropLast = [] → l' = [] → G) (k1 : ∀ last r, l.getLast? = some last → l.dropLast = x :: r → l' = su lt (last :: r) 0 → G) : G := by
  unfold Mine.hpop at h
  cases hl : l.getLast? with
  | none => rw [hl] at h; exact noS h
  | some last =>
    rw [hl] at h
    cases hd : l.dropLast with
    | nil => rw [hd] at h; cases h; exact k0 hl hd rfl
    | cons y r => rw [hd] at h; cases h; exact k1 last r hl hd rfl
theorem pop_at {i : Nat} {l r : List Ky} {last : Ky} (hc : c[i]? = some (kys l)) (hl : l.getLast? = some last) (hd : l.dropLast = r) : popV c i = some (.d (kyD last), c.set i (kys r)) :=
  (congrArg (Option.bind · fun (l : List D) => (l.getLast?).map fun d => (V.d d, c.set i l.dropLast)) hc).trans ((congrArg (Option.map fun d => (V.d d, c.set i (kys l).dropLast)) ((List.getLast?_map ..).trans (congrArg (Option.map kyD) hl))).trans (congrArg (fun l => some (V.d (kyD last), c.set i l)) ((List.map_dropLast ..).symm.trans (congrArg kys hd))))
theorem x1 {f : Nat} {lt : Ky → Ky → Bool} {i : Nat} {l l' : List Ky} {x : Ky} (hc : c[i]? = some (kys l)) (hl : l.length ≤ 100) (hpop : hpop lt l = some (x, l')) (hr : ∀ k, Nat.ble (rank f) (m + k) = true)
    (h6 : ∀ (c : Cells) (l : List Ky) (p : Nat), c[i]? = some (kys l) → p < l.length → l.length ≤ 100 → F f [.loc i, .d (.int (p : Int))] c = some (.d .none, c.set i (kys (su lt l p)))) :
    exFn F rank fu (m + 20) (g1 f) [.loc i] c = some (.d (kyD x), c.set i (kys l')) := by
  have hi : i < c.length := (List.getElem?_eq_some_iff.mp hc).1
  refine hpop_elim hpop (fun hlast hd hl' => ?_) fun last r hlast hd hl' => ?_
  · rw [hl']
    exact fnI rfl rfl (sq (asg (popR rfl (pop_at hc hlast hd))) (sq (ifQ (q := false) (trV (v := .loc i) (vr rfl) (truC (set_get hi))) rfl) (sqR (ret (vr rfl))))) rfl take_set
  · rw [hl']
    have hlen : (last :: r).length ≤ 100 := Nat.le_trans ((List.length_dropLast (xs := l)).symm.trans (congrArg List.length hd) ▸ Nat.sub_le l.length 1 : (x :: r).length ≤ l.length) hl
    have h := h6 (c.set i (kys (last :: r))) (last :: r) 0 (set_get hi) (Nat.succ_pos _) hlen
    rw [set_set] at h
    exact fnI rfl rfl (sq (asg (popR rfl (pop_at hc hlast hd))) (sqR (ifQ (q := true) (trV (v := .loc i) (vr rfl) (truC (set_get hi))) (sq (asg (subH (p := 0) rfl rfl (set_get hi) rfl)) (sq (siH (p := 0) hi rfl rfl (vr rfl) (Nat.succ_pos _)) (sq (exR (callR (es1 rfl (es1 rfl rfl)) (hr 17) h)) (sqR (ret (vr rfl))))))))) rfl take_set
noncomputable def g2 (f : Nat) : Fn := { params := [3], star := none, body := [(.assign 4 (.len (.var 3))), (.for [5] false (.rrange (.bin .fdiv (.var 4) (.int 2))) [(.expr (.call f [(.var 3), (.var 5)]))])] }
theorem fn2_g : fn2 = g2 6 := rfl
theorem fn4_g : fn4 = g2 8 := rfl
theorem x2_loop {f : Nat} {lt : Ky → Ky → Bool} {i : Nat} (hi : i < c.length) (hr : ∀ k, Nat.ble (rank f) (m + k) = true)
    (h6 : ∀ (c : Cells) (l : List Ky) (p : Nat), c[i]? = some (kys l) → p < l.length → l.length ≤ 100 → F f [.loc i, .d (.int (p : Int))] c = some (.d .none, c.set i (kys (su lt l p)))) (is : List Nat) : ∀ (l : List Ky) (vars : Vars), (∀ p ∈ is, p < l.length) → l.length ≤ 100 → vget vars 3 = some (.loc i) →
      ∃ vars', forRun (exs (ex F rank fu (m + 19)) [(.expr (.call f [(.var 3), (.var 5)]))]) [5] false (is.map natD) vars (c.set i (kys l)) = some (.next, vars', c.set i (kys (is.foldl (fun l i => su lt l i) l))) := by
  induction is with
  | nil => exact fun l vars _ _ _ => ⟨vars, rfl⟩
  | cons p r ih =>
    intro l vars hp hl h3
    have h := h6 (c.set i (kys l)) l p (set_get hi) (hp p (List.mem_cons_self ..)) hl
    rw [set_set] at h
    obtain ⟨v', e⟩ := ih (su lt l p) (vset 5 (.d (.int (p : Int))) vars) (fun x hx => by rw [su_len]; exact hp x (List.mem_cons_of_mem _ hx)) (by rw [su_len]; exact hl) h3
    exact ⟨v', fo rfl (sq1 (exR (callR (es1 (vr h3) (es1 (vr rfl) rfl)) (hr 17) h))) e⟩
theorem int_rrange {e : ME} {vs : Vars} {k : Nat} (h : ev F rank n e vs c = some (.d (.int (Int.ofNat k)), c)) (hk : k < 100000) : itemsOf F rank n (.rrange e) vs c = some ((List.range k).reverse.map natD, c) := by
  show rng (ev F rank n) e vs c List.reverse = _
  unfold rng
  rw [h, Option.bind_some, show optInt (V.d (D.int (Int.ofNat k))) = some (Int.ofNat k) from rfl, Option.bind_some, if_pos (int_small hk), List.map_reverse]
  rfl
theorem x2 {f : Nat} {lt : Ky → Ky → Bool} {i : Nat} {l : List Ky} (hc : c[i]? = some (kys l)) (hl : l.length ≤ 100) (hr : ∀ k, Nat.ble (rank f) (m + k) = true)
    (h6 : ∀ (c : Cells) (l : List Ky) (p : Nat), c[i]? = some (kys l) → p < l.length → l.length ≤ 100 → F f [.loc i, .d (.int (p : Int))] c = some (.d .none, c.set i (kys (su lt l p)))) :
    exFn F rank fu (m + 20) (g2 f) [.loc i] c = some (.d .none, c.set i (kys (hpf lt l))) := by
  have hi : i < c.length := (List.getElem?_eq_some_iff.mp hc).1
  have hln : lenV c (.loc i) = some l.length := (lnC hc).trans (congrArg some (kys_len l))
  have hh : l.length / 2 ≤ l.length := Nat.div_le_self _ _
  obtain ⟨v', e⟩ := x2_loop (fu := fu) hi hr h6 (List.range (l.length / 2)).reverse l (vset 4 (.d (.int (l.length : Int))) (vof [(3, .loc i)])) (fun p hp => Nat.lt_of_lt_of_le (List.mem_range.mp (List.mem_reverse.mp hp)) hh) hl rfl
  rw [set_self hc] at e
  have h1 : ev F rank (m + 19) (.bin .fdiv (.var 4) (.int 2)) (vset 4 (.d (.int (l.length : Int))) (vof [(3, .loc i)])) c = some (.d (.int (Int.ofNat (l.length / 2))), c) := bi (vr rfl) rfl (congrArg (fun i => some (D.int i)) (fdiv_nat l.length 2))
  exact fnI rfl rfl (sq (asg (lnR (vr rfl) hln)) (sq1 (forS (int_rrange h1 (Nat.lt_of_le_of_lt (Nat.le_trans hh hl) (by decide))) e))) rfl take_set
end
end Mine
end
section
open PySem PySem.W PyProof.Rows
namespace Mine
noncomputable abbrev gtK (x y : Ky) : Bool := ltK y x
noncomputable def pops {K : Type} (lt : K → K → Bool) : Nat → List K → List K × List K
  | 0, l => ([], l)
  | n + 1, l => (hpop lt l).elim ([], l) fun z => (z.1 :: (pops lt n z.2).1, (pops lt n z.2).2)
noncomputable def third (l : List Ky) : List D := l.map fun k => .int k.2.2
theorem eqItems_int (l : List Int) : eqItems (l.map .int) (l.map .int) = some true := by
  induction l with
  | nil => rfl
  | cons x r ih => exact (congrArg (fun b : Bool => (some b).bind fun b => (eqItems (r.map .int) (r.map .int)).map fun r => b && r) (beq_self_eq_true x)).trans (congrArg (Option.map fun r => true && r) ih)
theorem third_int (l : List Ky) : third l = (l.map fun k => k.2.2).map .int := List.map_map.symm
theorem eqSeq_third (l : List Ky) : eqSeq (third l) (third l) = some true := by
  unfold eqSeq
  rw [bne_self_eq_false, third_int]
  exact eqItems_int _
theorem third_app (l : List Ky) (x : Ky) : third l ++ [.int x.2.2] = third (l ++ [x]) := (List.map_append (l₂ := [x])).symm
theorem third_len (l : List Ky) : (third l).length = l.length := List.length_map _
theorem hpop_len {K : Type} {lt : K → K → Bool} {l l' : List K} {x : K} (h : hpop lt l = some (x, l')) : l.length = l'.length + 1 := by
  have key : ∀ {y : K} {r : List K}, l.getLast? = some y → l.dropLast.length = r.length → l.length = r.length + 1 := fun {y r} hl hd => by
    rw [List.length_dropLast] at hd
    cases l with
    | nil => exact noS hl
    | cons a b => exact congrArg (· + 1) hd
  exact hpop_elim h (fun hl hd e => e ▸ key hl (congrArg List.length hd)) fun last r hl hd e => by rw [e, su_len]; exact key (r := last :: r) hl (show l.dropLast.length = (x :: r).length from congrArg List.length hd)
theorem pops_some {K : Type} {lt : K → K → Bool} {n : Nat} {l l' : List K} {x : K} (h : hpop lt l = some (x, l')) : pops lt (n + 1) l = (x :: (pops lt n l').1, (pops lt n l').2) := congrArg (fun o : Option (K × List K) => o.elim ([], l) fun z => (z.1 :: (pops lt n z.2).1, (pops lt n z.2).2)) h
theorem pops_elim {K : Type} {lt : K → K → Bool} {n : Nat} {l P : List K} {G : Prop} (h : pops lt (n + 1) l = (P, [])) (hP : P.length = n + 1) (k : ∀ x l' P', hpop lt l = some (x, l') → P = x :: P' → pops lt n l' = (P', []) → P'.length = n → G) : G := by
  cases e : hpop lt l with
  | none =>
    have h' : (([], l) : List K × List K) = (P, []) := (congrArg (fun o : Option (K × List K) => o.elim ([], l) fun z => (z.1 :: (pops lt n z.2).1, (pops lt n z.2).2)) e).symm.trans h
    exact nomatch (congrArg (fun z : List K × List K => z.1.length) h').trans hP
  | some z =>
    have h' := (pops_some (x := z.1) (l' := z.2) e).symm.trans h
    have h1 := congrArg Prod.fst h'
    have h2 := congrArg Prod.snd h'
    exact k z.1 z.2 (pops lt n z.2).1 e h1.symm (Prod.ext rfl h2) (Nat.succ.inj ((congrArg List.length h1).trans hP))
theorem pops_len {K : Type} {lt : K → K → Bool} (n : Nat) : ∀ (l P : List K), l.length = n → pops lt n l = (P, []) → P.length = n := by
  induction n with
  | zero => exact fun l P _ h => by cases h; rfl
  | succ n ih =>
    intro l P hl h
    cases e : hpop lt l with
    | none =>
      have h' : (([], l) : List K × List K) = (P, []) := (congrArg (fun o : Option (K × List K) => o.elim ([], l) fun z => (z.1 :: (pops lt n z.2).1, (pops lt n z.2).2)) e).symm.trans h
      exact nomatch hl.symm.trans (congrArg (fun z : List K × List K => z.2.length) h')
    | some z =>
      have h' := (pops_some (x := z.1) (l' := z.2) e).symm.trans h
      exact (congrArg List.length (congrArg Prod.fst h')).symm.trans (congrArg (· + 1) (ih z.2 _ (Nat.succ.inj ((hpop_len e).symm.trans hl)) (Prod.ext rfl (show (pops lt n z.2).2 = [] from congrArg Prod.snd h'))))
theorem cut_all (l : List D) : cutL l none none = l := show (l.drop 0).take (l.length - 0) = l from List.take_length
theorem hpf_len {lt : Ky → Ky → Bool} (l : List Ky) : (hpf lt l).length = l.length := by
  have key : ∀ (is : List Nat) (l : List Ky), (is.foldl (fun l i => su lt l i) l).length = l.length := fun is => by
    induction is with
    | nil => exact fun l => rfl
    | cons a r ih => exact fun l => (ih (su lt l a)).trans (su_len lt l a)
  exact key _ _
section
variable {c : Cells} {A B O M z : List D}
noncomputable abbrev J4 (c : Cells) (A B O M : List D) : Cells := c ++ [A, B, O, M]
theorem j_g (k : Nat) (h : [A, B, O, M][k]? = some z) : (J4 c A B O M)[c.length + k]? = some z := by rw [List.getElem?_append_right (Nat.le_add_right ..), Nat.add_sub_cancel_left]; exact h
theorem j_s (k : Nat) : (J4 c A B O M).set (c.length + k) z = c ++ [A, B, O, M].set k z := by rw [List.set_append_right _ _ (Nat.le_add_right ..), Nat.add_sub_cancel_left]
end
section
variable {F : FT} {rank : Nat → Nat} {fu m n : Nat} {c : Cells}
theorem mthC {y k : Nat} {e : ME} {vs : Vars} {C C' : Cells} {l : List D} {w : D} (hv : vget vs y = some (.loc k)) (h : ev F rank n e vs C = some (.d w, C')) (hl : C'[k]? = some l) (ho : l.length ≤ 1000) : ex F rank fu (n + 1) (.meth y e) vs C = some (.next, vs, C'.set k (l ++ [w])) := by
  have e1 : appV C' k w = some (C'.set k (l ++ [w])) := (congrArg (Option.bind · fun (l : List D) => if strOk (l.length + 1) then some (C'.set k (l ++ [w])) else none) hl).trans (if_pos (ok_of (Nat.le_trans (Nat.succ_le_succ ho) (by decide))))
  exact (congrArg (Option.bind · fun (z : V) => (optLoc z).bind fun k => (ev F rank n e vs C).bind fun y => (dOf y.1).bind fun d => (appV y.2 k d).map fun c => (Fl.next, vs, c)) hv).trans
    ((congrArg (Option.bind · fun (y : V × Cells) => (dOf y.1).bind fun d => (appV y.2 k d).map fun c => (Fl.next, vs, c)) h).trans (congrArg (Option.map fun c => (Fl.next, vs, c)) e1))
theorem revR {e : ME} {vs : Vars} {v : V} {c1 : Cells} {l : List D} (h : ev F rank n e vs c = some (v, c1)) (hl : listOfV c1 v = some l) : ev F rank (n + 1) (.rev e) vs c = some (.d (.list l.reverse), c1) :=
  (congrArg (Option.bind · fun (x : V × Cells) => ((listOfV x.2 x.1).map List.reverse).map fun r => (V.d (.list r), x.2)) h).trans (congrArg (fun (o : Option (List D)) => (o.map List.reverse).map fun r => (V.d (.list r), c1)) hl)
structure V24 (k : Nat) (vars : Vars) : Prop where
  v6 : vget vars 46 = some (.loc (k + 0))
  v7 : vget vars 47 = some (.loc (k + 1))
  v8 : vget vars 48 = some (.loc (k + 2))
  v9 : vget vars 49 = some (.loc (k + 3))
noncomputable abbrev b24 : List MS := [(.meth 48 (.sub (.call 3 [(.var 46)]) (.int 2))), (.meth 49 (.sub (.call 1 [(.var 47)]) (.int 2)))]
theorem x24_loop (hr1 : ∀ k, Nat.ble (rank 1) (m + k) = true) (hr3 : ∀ k, Nat.ble (rank 3) (m + k) = true)
    (h1 : ∀ (c : Cells) (i : Nat) (l l' : List Ky) (x : Ky), c[i]? = some (kys l) → l.length ≤ 100 → hpop ltK l = some (x, l') → F 1 [.loc i] c = some (.d (kyD x), c.set i (kys l')))
    (h3 : ∀ (c : Cells) (i : Nat) (l l' : List Ky) (x : Ky), c[i]? = some (kys l) → l.length ≤ 100 → hpop gtK l = some (x, l') → F 3 [.loc i] c = some (.d (kyD x), c.set i (kys l'))) (items : List D) :
    ∀ (a b : List Ky) (O M : List Ky) (vars : Vars) (P' Q' : List Ky), a.length ≤ 100 → b.length ≤ 100 → pops gtK items.length a = (P', []) → pops ltK items.length b = (Q', []) → P'.length = items.length → Q'.length = items.length → O.length + items.length ≤ 100 → M.length + items.length ≤ 100 → V24 c.length vars →
      ∃ vars', forRun (exs (ex F rank fu (m + 19)) b24) [50] false items vars (J4 c (kys a) (kys b) (third O) (third M)) = some (.next, vars', J4 c [] [] (third (O ++ P')) (third (M ++ Q'))) ∧ V24 c.length vars' := by
  induction items with
  | nil =>
    intro a b O M vars P' Q' _ _ hp hq _ _ _ _ v
    cases hp; cases hq
    exact ⟨vars, by rw [List.append_nil, List.append_nil]; rfl, v⟩
  | cons d r ih =>
    intro a b O M vars P' Q' ha hb hp hq lp lq lo lm v
    refine pops_elim hp lp fun x a' P2 ea eP hp2 lp2 => pops_elim hq lq fun y b' Q2 eb eQ hq2 lq2 => ?_
    have e3 : F 3 [.loc (c.length + 0)] (J4 c (kys a) (kys b) (third O) (third M)) = some (.d (kyD x), J4 c (kys a') (kys b) (third O) (third M)) := (h3 _ (c.length + 0) a a' x (j_g 0 rfl) ha ea).trans (congrArg (fun C => some (V.d (kyD x), C)) (j_s 0))
    have e1 : F 1 [.loc (c.length + 1)] (J4 c (kys a') (kys b) (third (O ++ [x])) (third M)) = some (.d (kyD y), J4 c (kys a') (kys b') (third (O ++ [x])) (third M)) := (h1 _ (c.length + 1) b b' y (j_g 1 rfl) hb eb).trans (congrArg (fun C => some (V.d (kyD y), C)) (j_s 1))
    have s1 : (third O).length ≤ 1000 := by rw [third_len]; exact Nat.le_trans (Nat.le_add_right _ _) (Nat.le_trans lo (by decide))
    have s2 : (third M).length ≤ 1000 := by rw [third_len]; exact Nat.le_trans (Nat.le_add_right _ _) (Nat.le_trans lm (by decide))
    have w : V24 c.length (vset 50 (.d d) vars) := ⟨v.v6, v.v7, v.v8, v.v9⟩
    have a1 := (mthC (F := F) (rank := rank) (fu := fu) (n := m + 18) (vs := vset 50 (.d d) vars) (e := .sub (.call 3 [(.var 46)]) (.int 2)) w.v8 (sbD (r := .int x.2.2) (call1R (n := m + 16) (vr w.v6) (hr3 16) e3) rfl rfl) (j_g (A := kys a') (B := kys b) (O := third O) (M := third M) 2 rfl) s1).trans (congrArg (fun l => some (Fl.next, vset 50 (.d d) vars, l)) ((j_s 2).trans (congrArg (fun o => J4 c (kys a') (kys b) o (third M)) (third_app O x))))
    have a2 := (mthC (F := F) (rank := rank) (fu := fu) (n := m + 18) (vs := vset 50 (.d d) vars) (e := .sub (.call 1 [(.var 47)]) (.int 2)) w.v9 (sbD (r := .int y.2.2) (call1R (n := m + 16) (vr w.v7) (hr1 16) e1) rfl rfl) (j_g (A := kys a') (B := kys b') (O := third (O ++ [x])) (M := third M) 3 rfl) s2).trans (congrArg (fun l => some (Fl.next, vset 50 (.d d) vars, l)) ((j_s 3).trans (congrArg (fun o => J4 c (kys a') (kys b') (third (O ++ [x])) o) (third_app M y))))
    obtain ⟨v', g, w'⟩ := ih a' b' (O ++ [x]) (M ++ [y]) (vset 50 (.d d) vars) P2 Q2 (Nat.le_of_succ_le (Nat.le_trans (Nat.le_of_eq (hpop_len ea).symm) ha)) (Nat.le_of_succ_le (Nat.le_trans (Nat.le_of_eq (hpop_len eb).symm) hb)) hp2 hq2 lp2 lq2 (by rw [List.length_append]; exact Nat.succ_add_eq_add_succ O.length r.length ▸ lo) (by rw [List.length_append]; exact Nat.succ_add_eq_add_succ M.length r.length ▸ lm) w
    rw [List.append_assoc, List.append_assoc] at g
    rw [eP, eQ]
    exact ⟨v', fo rfl (sq a1 (sq1 a2)) g, w'⟩
theorem x24 (K : List Ky) (hK : K.length ≤ 100) (hr1 : ∀ k, Nat.ble (rank 1) (m + k) = true) (hr2 : ∀ k, Nat.ble (rank 2) (m + k) = true) (hr3 : ∀ k, Nat.ble (rank 3) (m + k) = true) (hr4 : ∀ k, Nat.ble (rank 4) (m + k) = true) (hr23 : ∀ k, Nat.ble (rank 23) (m + k) = true)
    (h1 : ∀ (c : Cells) (i : Nat) (l l' : List Ky) (x : Ky), c[i]? = some (kys l) → l.length ≤ 100 → hpop ltK l = some (x, l') → F 1 [.loc i] c = some (.d (kyD x), c.set i (kys l')))
    (h3 : ∀ (c : Cells) (i : Nat) (l l' : List Ky) (x : Ky), c[i]? = some (kys l) → l.length ≤ 100 → hpop gtK l = some (x, l') → F 3 [.loc i] c = some (.d (kyD x), c.set i (kys l')))
    (h2 : ∀ (c : Cells) (i : Nat) (l : List Ky), c[i]? = some (kys l) → l.length ≤ 100 → F 2 [.loc i] c = some (.d .none, c.set i (kys (hpf ltK l))))
    (h4 : ∀ (c : Cells) (i : Nat) (l : List Ky), c[i]? = some (kys l) → l.length ≤ 100 → F 4 [.loc i] c = some (.d .none, c.set i (kys (hpf gtK l))))
    (h23 : ∀ (c : Cells) (i : Nat), c[i]? = some [] → F 23 [.loc i] c = some (.d (.bool true), c))
    {P Q : List Ky} (hP : pops gtK K.length (hpf gtK K) = (P, [])) (hQ : pops ltK K.length (hpf ltK K) = (Q, [])) (hPQ : P = Q.reverse) :
    exFn F rank fu (m + 20) fn24 [.d (.list (kys K))] c = some (.d (.list (third P)), c) := by
  have e4 := h4 (J4 c (kys K) (kys K) [] []) (c.length + 0) K (j_g 0 rfl) hK
  have e2 := h2 (J4 c (kys (hpf gtK K)) (kys K) [] []) (c.length + 1) K (j_g 1 rfl) hK
  rw [j_s] at e4 e2
  obtain ⟨v', g, w⟩ := x24_loop (fu := fu) (c := c) hr1 hr3 h1 h3 (kys K) (hpf gtK K) (hpf ltK K) [] [] (vset 49 (.loc (c.length + 3)) (vset 48 (.loc (c.length + 2)) (vset 47 (.loc (c.length + 1)) (vset 46 (.loc (c.length + 0)) (vof [(44, .d (.list (kys K)))]))))) P Q (by rw [hpf_len]; exact hK) (by rw [hpf_len]; exact hK) (by rw [kys_len]; exact hP) (by rw [kys_len]; exact hQ)
    (by rw [kys_len]; exact pops_len _ _ _ (hpf_len K) hP) (by rw [kys_len]; exact pops_len _ _ _ (hpf_len K) hQ) (by rw [kys_len, List.length_nil, Nat.zero_add]; exact hK) (by rw [kys_len, List.length_nil, Nat.zero_add]; exact hK) ⟨rfl, rfl, rfl, rfl⟩
  have hrev : (third Q).reverse = third P := by rw [hPQ]; exact List.map_reverse.symm
  have e5 := h23 (J4 c [] [] (third P) (third Q)) (c.length + 0) (j_g 0 rfl)
  have e6 := h23 (J4 c [] [] (third P) (third Q)) (c.length + 1) (j_g 1 rfl)
  have hm : ∀ (A B : Cells), c ++ A ++ B = c ++ (A ++ B) := fun A B => List.append_assoc ..
  have a1 : ex F rank fu (m + 20) (.multi [(46, true, (.slice (.var 44) none none)), (47, true, (.slice (.var 44) none none)), (48, true, (.list [])), (49, true, (.list []))]) (vof [(44, .d (.list (kys K)))]) c = some (.next, vset 49 (.loc (c.length + 3)) (vset 48 (.loc (c.length + 2)) (vset 47 (.loc (c.length + 1)) (vset 46 (.loc (c.length + 0)) (vof [(44, .d (.list (kys K)))])))), J4 c (kys K) (kys K) [] []) := by
    have hc : ∀ C, cutV C (.d (.list (kys K))) none none = some (.list (kys K)) := fun C => congrArg (fun l => some (D.list l)) (cut_all (kys K))
    have h := muS (F := F) (rank := rank) (fu := fu) (n := m + 19) (ts := [(46, true, (.slice (.var 44) none none)), (47, true, (.slice (.var 44) none none)), (48, true, (.list [])), (49, true, (.list []))]) (vs := vof [(44, .d (.list (kys K)))]) (c := c) (mu1 (y := 46) (slR rfl rfl rfl (hc _)) (mu1 (y := 47) (slR rfl rfl rfl (hc _)) (mu1 (y := 48) rfl (mu1 (y := 49) rfl rfl))))
    simp only [hm, List.length_append] at h
    exact h
  have a2 : tr F rank (m + 19) (.or (.cmp .isnot (.call 4 [(.var 46)]) .none) (.cmp .isnot (.call 2 [(.var 47)]) .none)) (vset 49 (.loc (c.length + 3)) (vset 48 (.loc (c.length + 2)) (vset 47 (.loc (c.length + 1)) (vset 46 (.loc (c.length + 0)) (vof [(44, .d (.list (kys K)))]))))) (J4 c (kys K) (kys K) [] []) = some (false, J4 c (kys (hpf gtK K)) (kys (hpf ltK K)) [] []) :=
    trI (orF (trI (cmR (call1R rfl (hr4 16) e4) rfl rfl)) (cmR (call1R rfl (hr2 16) e2) rfl rfl))
  have heq : cmpV (J4 c [] [] (third P) (third Q)) .eq (.loc (c.length + 2)) (.d (.list (third Q).reverse)) = some true := (congrArg (fun o : Option (List D) => o.bind fun a => (some (third Q).reverse).bind fun b => eqSeq a b) (j_g 2 rfl)).trans (hrev ▸ eqSeq_third P)
  refine fnI rfl rfl (sq a1 (sq (ifQ (q := false) a2 rfl) (sq (forS rfl g) (sqR (ret (itQ (q := true) (trI (anT (trI (cmR (vr w.v8) (revR (vr w.v9) (j_g (A := []) (B := []) (O := third P) (M := third Q) 3 rfl)) heq)) (anT (trI (call1R (vr w.v6) (hr23 15) e5)) (call1R (vr w.v7) (hr23 15) e6)))) (vr w.v8))))))) ((if_pos (Nat.ble_eq.mpr (Nat.le_add_right ..))).trans (congrArg (Option.map fun l => V.d (.list l)) (j_g 2 rfl))) take_last
end
end Mine
end
section
open PySem PySem.W PyProof.Rows
set_option maxRecDepth 10000
namespace Mine
noncomputable def freeF (ch : Nat) : List Nat := (List.range 6).filter fun k => ch / 2 ^ k % 2 == 0
noncomputable def netK (S : List Sh) (k : Nat) : Int := (S.getD k (0, 0)).2
noncomputable def needK (S : List Sh) (k : Nat) : Int := (S.getD k (0, 0)).1
noncomputable def depF (S : List Sh) (ch : Nat) : Int := (((List.range 6).filter fun k => !((freeF ch).contains k)).map (netK S)).sum
noncomputable def putF (S : List Sh) (ch : Nat) (dep : Int) (T : List Bool) (k : Nat) : List Bool := bif decide (needK S k ≤ dep) then T.set (ch + 2 ^ k) true else T
noncomputable def stepF (S : List Sh) (ch : Nat) (T : List Bool) : List Bool := bif T.getD ch false then (freeF ch).foldl (putF S ch (depF S ch)) T else T
noncomputable def tabF (S : List Sh) : List Bool := (List.range 64).foldl (fun T ch => stepF S ch T) (true :: List.replicate 63 false)
noncomputable def someF (S : List Sh) : Bool := (tabF S).getD 63 false && ((S.map (·.2)).sum == 0)
noncomputable def bls (T : List Bool) : List D := T.map .bool
theorem free_lt : ∀ ch, ch < 64 → ∀ k, k < 6 → ch / 2 ^ k % 2 = 0 → ch + 2 ^ k < 64 := by decide +kernel
theorem nat_eq0 (z : Nat) : ((z : Int) == (0 : Int)) = (z == 0) := by cases z <;> rfl
section
variable {F : FT} {rank : Nat → Nat} {fu m n : Nat} {c C : Cells} {vs : Vars} {S : List Sh} {ch : Nat}
theorem pow2 {k : Nat} (hk : k ≤ 64) : binV C .pow (.d (.int 2)) (.d (.int (k : Int))) = some (.int ((2 ^ k : Nat) : Int)) :=
  (if_pos (by rw [decide_eq_true (Int.natCast_nonneg k), decide_eq_true (by omega : (k : Int) ≤ 64)]; rfl)).trans (congrArg (fun i => some (D.int i)) (Int.natCast_pow 2 k).symm)
theorem div2 {a d : Nat} (h : 0 < d) (h2 : d < 1000000) : binV C .fdiv (.d (.int (a : Int))) (.d (.int (d : Int))) = some (.int ((a / d : Nat) : Int)) :=
  (if_pos (Bool.and_eq_true_iff.mpr ⟨bne_iff_ne.mpr fun e => Nat.ne_of_gt h (Int.ofNat_inj.mp e), decide_eq_true h2⟩)).trans (congrArg (fun i => some (D.int i)) (fdiv_nat a d))
noncomputable def eFree : ME := .comp (.var 33) 33 (.range (.len (.var 43))) (some (.cmp .eq (.bin .mod (.bin .fdiv (.var 52) (.bin .pow (.int 2) (.var 33))) (.int 2)) (.int 0)))
noncomputable def eDep : ME := .sum (.comp (.sub (.sub (.var 43) (.var 33)) (.int 1)) 33 (.range (.len (.var 43))) (some (.cmp .notin (.var 33) (.var 28))))
theorem pow6 {k : Nat} (hk : k < 6) : 2 ^ k < 1000000 := Nat.lt_of_le_of_lt (Nat.pow_le_pow_right (by decide) (Nat.le_of_lt hk)) (by decide : 2 ^ 6 < 1000000)
theorem len6 (hS : S.length = 6) (h : vget vs 43 = some (.d (.list (S.map shD)))) : ev F rank (n + 2) (.len (.var 43)) vs C = some (.d (.int ((6 : Nat) : Int)), C) := lnR (vr h) (show some (S.map shD).length = some 6 from congrArg some ((List.length_map _).trans hS))
theorem filt6 (p : Nat → Bool) (f : Nat → D) : strOk (((List.range 6).filter p).map f).length = true := ok_of (by rw [List.length_map]; exact Nat.le_trans (List.length_filter_le ..) (by decide))
theorem free_ev (hS : S.length = 6) (h43 : vget vs 43 = some (.d (.list (S.map shD)))) (h52 : vget vs 52 = some (.d (.int (ch : Int)))) : ev F rank (n + 8) eFree vs C = some (.d (.list ((freeF ch).map natD)), C) :=
  cpR (int_range (len6 (n := n + 5) hS h43) (by decide)) (comp_filter natD natD (fun k => ch / 2 ^ k % 2 == 0) fun k hk =>
    have hk6 := List.mem_range.mp hk
    elQ (trI (cmR (bi (bi (vr h52) (bi rfl (vr rfl) (pow2 (Nat.le_trans (Nat.le_of_lt hk6) (by decide)))) (div2 (Nat.pow_pos (by decide)) (pow6 hk6))) rfl (congrArg (fun i => some (D.int i)) (fmod_nat (ch / 2 ^ k) 2))) rfl (congrArg some (nat_eq0 (ch / 2 ^ k % 2))))) rfl) (filt6 _ _)
theorem sh_at (hS : S.length = 6) {k : Nat} (hk : k < 6) : (S.map shD)[k]? = some (shD (S.getD k (0, 0))) := by
  have h := List.getElem?_eq_getElem (hS.symm ▸ hk : k < S.length)
  rw [List.getElem?_map, List.getD_eq_getElem?_getD, h]; rfl
theorem dep_ev (hS : S.length = 6) (h43 : vget vs 43 = some (.d (.list (S.map shD)))) (h28 : vget vs 28 = some (.d (.list ((freeF ch).map natD)))) : ev F rank (n + 8) eDep vs C = some (.d (.int (depF S ch)), C) := by
  refine sumR (l := ((List.range 6).filter fun k => !((freeF ch).contains k)).map (netK S)) ?_
  rw [List.map_map]
  exact cpR (int_range (len6 (n := n + 4) hS h43) (by decide)) (comp_filter natD (fun k => D.int (netK S k)) (fun k => !((freeF ch).contains k)) fun k hk =>
    elQ (trI (cmR (vr rfl) (vr h28) (congrArg (Option.map not) (inSeq_nat k (freeF ch))))) (sbD (sbD (vr h43) (vr rfl) (sh_at hS (List.mem_range.mp hk))) rfl rfl)) (filt6 _ _)
noncomputable abbrev b25f : List MS := [(.ifs (.cmp .ge (.var 40) (.sub (.sub (.var 43) (.var 33)) (.int 0))) [(.setitem 51 (.bin .add (.var 52) (.bin .pow (.int 2) (.var 33))) (.bool true))] [])]
structure S25 (k : Nat) (S : List Sh) (ch : Nat) (vs : Vars) : Prop where
  h43 : vget vs 43 = some (.d (.list (S.map shD)))
  h51 : vget vs 51 = some (.loc k)
  h52 : vget vs 52 = some (.d (.int (ch : Int)))
theorem siB {ix : ME} {T : List Bool} {p : Nat} (hv : vget vs 51 = some (.loc c.length)) (hx : ev F rank (n + 1) ix vs (c ++ [bls T]) = some (.d (.int (p : Int)), c ++ [bls T])) (hp : p < T.length) :
    ex F rank fu (n + 2) (.setitem 51 ix (.bool true)) vs (c ++ [bls T]) = some (.next, vs, c ++ [bls (T.set p true)]) := by
  have e1 : setV (c ++ [bls T]) c.length (p : Int) (.bool true) = some (c ++ [bls (T.set p true)]) := (congrArg (Option.bind · fun l => if Nat.blt p l.length then some ((c ++ [bls T]).set c.length (l.set p (.bool true))) else none) get_last).trans
    ((if_pos (show Nat.ble (p + 1) (bls T).length = true from Nat.ble_eq.mpr ((List.length_map D.bool).symm ▸ hp))).trans (congrArg some (set_last.trans (congrArg (fun l => c ++ [l]) (List.map_set ..).symm))))
  exact (congrArg (Option.bind · fun (v : V) => (optLoc v).bind fun k => (ev F rank (n + 1) ix vs (c ++ [bls T])).bind fun z => (optInt z.1).bind fun i => (setV z.2 k i (.bool true)).map fun c => (Fl.next, vs, c)) hv).trans
      ((congrArg (Option.bind · fun (z : V × Cells) => (optInt z.1).bind fun j => (setV z.2 c.length j (.bool true)).map fun c => (Fl.next, vs, c)) hx).trans (congrArg (Option.map fun c => (Fl.next, vs, c)) e1))
theorem put_len (dep : Int) (T : List Bool) (k : Nat) : (putF S ch dep T k).length = T.length := by
  unfold putF
  cases decide (needK S k ≤ dep) with
  | true => exact List.length_set
  | false => rfl
theorem fill (hS : S.length = 6) (hch : ch < 64) {dep : Int} (ks : List Nat) : ∀ (T : List Bool) (vs : Vars), (∀ k ∈ ks, k ∈ freeF ch) → T.length = 64 → vget vs 40 = some (.d (.int dep)) → S25 c.length S ch vs →
    ∃ vars', forRun (exs (ex F rank fu (n + 8)) b25f) [33] false (ks.map natD) vs (c ++ [bls T]) = some (.next, vars', c ++ [bls (ks.foldl (putF S ch dep) T)]) ∧ S25 c.length S ch vars' := by
  induction ks with
  | nil => exact fun T vs _ _ _ h => ⟨vs, rfl, h⟩
  | cons k r ih =>
    intro T vs hks hT h40 h
    have hkm := List.mem_filter.mp (hks k (List.mem_cons_self ..))
    have hk6 := List.mem_range.mp hkm.1
    obtain ⟨v', e1, e2⟩ := ih (putF S ch dep T k) (vset 33 (.d (.int (k : Int))) vs) (fun x hx => hks x (List.mem_cons_of_mem _ hx)) ((put_len dep T k).trans hT) h40 ⟨h.h43, h.h51, h.h52⟩
    refine ⟨v', fo rfl (sq1 (ifQ (q := decide (needK S k ≤ dep)) (trI (cmR (vr h40) (sbD (sbD (vr h.h43) (vr rfl) (sh_at hS hk6)) rfl rfl) rfl)) ?_)) e1, e2⟩
    unfold putF
    cases decide (needK S k ≤ dep) with
    | false => rfl
    | true => exact sq1 (siB h.h51 (bi (vr h.h52) (bi rfl (vr rfl) (pow2 (Nat.le_trans (Nat.le_of_lt hk6) (by decide)))) rfl) (hT.symm ▸ free_lt ch hch k hk6 (eq_of_beq hkm.2)))
theorem put_all (dep : Int) (ks : List Nat) : ∀ T : List Bool, (ks.foldl (putF S ch dep) T).length = T.length := by
  induction ks with
  | nil => exact fun T => rfl
  | cons k r ih => exact fun T => (ih _).trans (put_len dep T k)
theorem step_len (S : List Sh) (ch : Nat) (T : List Bool) : (stepF S ch T).length = T.length := by
  unfold stepF
  cases T.getD ch false with
  | true => exact put_all _ _ T
  | false => rfl
theorem steps_len (S : List Sh) (chs : List Nat) : ∀ T : List Bool, (chs.foldl (fun T ch => stepF S ch T) T).length = T.length := by
  induction chs with
  | nil => exact fun T => rfl
  | cons k r ih => exact fun T => (ih _).trans (step_len S k T)
theorem bl_at {T : List Bool} {i : Nat} (h : i < T.length) : (bls T)[i]? = some (.bool (T.getD i false)) := by
  unfold bls
  rw [List.getElem?_map, List.getD_eq_getElem?_getD, List.getElem?_eq_getElem h]; rfl
noncomputable abbrev b25 : List MS := [(.ifs (.sub (.var 51) (.var 52)) [(.assign 28 eFree), (.assign 40 eDep), (.for [33] false (.var 28) b25f)] [])]
theorem x25_loop (hS : S.length = 6) (chs : List Nat) : ∀ (T : List Bool) (vs : Vars), (∀ ch ∈ chs, ch < 64) → T.length = 64 → vget vs 43 = some (.d (.list (S.map shD))) → vget vs 51 = some (.loc c.length) →
    ∃ vars', forRun (exs (ex F rank fu (m + 19)) b25) [52] false (chs.map natD) vs (c ++ [bls T]) = some (.next, vars', c ++ [bls (chs.foldl (fun T ch => stepF S ch T) T)]) ∧ vget vars' 43 = some (.d (.list (S.map shD))) ∧ vget vars' 51 = some (.loc c.length) := by
  induction chs with
  | nil => exact fun T vs _ _ h43 h51 => ⟨vs, rfl, h43, h51⟩
  | cons ch r ih =>
    intro T vs hchs hT h43 h51
    have hch := hchs ch (List.mem_cons_self ..)
    have hcond : tr F rank (m + 18) (.sub (.var 51) (.var 52)) (vset 52 (.d (.int (ch : Int))) vs) (c ++ [bls T]) = some (T.getD ch false, c ++ [bls T]) := trI (sbD (vr h51) (vr rfl) (subL.trans (bl_at (hT.symm ▸ hch))))
    have hstep : ∃ V', exs (ex F rank fu (m + 19)) b25 (vset 52 (.d (.int (ch : Int))) vs) (c ++ [bls T]) = some (.next, V', c ++ [bls (stepF S ch T)]) ∧ vget V' 43 = some (.d (.list (S.map shD))) ∧ vget V' 51 = some (.loc c.length) := by
      unfold stepF
      cases hb : T.getD ch false with
      | false => rw [hb] at hcond; exact ⟨_, sq1 (ifQ (q := false) hcond rfl), h43, h51⟩
      | true =>
        rw [hb] at hcond
        obtain ⟨V3, g1, g2⟩ := fill (F := F) (rank := rank) (fu := fu) (c := c) (n := m + 9) hS hch (dep := depF S ch) (freeF ch) T (vset 40 (.d (.int (depF S ch))) (vset 28 (.d (.list ((freeF ch).map natD))) (vset 52 (.d (.int (ch : Int))) vs))) (fun _ h => h) hT rfl ⟨h43, h51, rfl⟩
        exact ⟨V3, sq1 (ifQ (q := true) hcond (sq (asg (free_ev (n := m + 9) hS h43 rfl)) (sq (asg (dep_ev (n := m + 9) hS h43 rfl)) (sq1 (forS rfl g1))))), g2.h43, g2.h51⟩
    obtain ⟨V', s1, s2, s3⟩ := hstep
    obtain ⟨v', e1, e2, e3⟩ := ih (stepF S ch T) V' (fun x hx => hchs x (List.mem_cons_of_mem _ hx)) ((step_len S ch T).trans hT) s2 s3
    exact ⟨v', fo rfl s1 e1, e2, e3⟩
theorem t0_len : (true :: List.replicate 63 false).length = 64 := by rw [List.length_cons, List.length_replicate]
theorem bl_last {T : List Bool} (hT : T.length = 64) : (bls T).getLast? = some (.bool (T.getD 63 false)) := by
  rw [List.getLast?_eq_getElem?, show (bls T).length = 64 from (List.length_map _).trans hT]
  exact bl_at (hT.symm ▸ (by decide : 63 < 64))
theorem x25 (S : List Sh) (hS : S.length = 6) : exFn F rank fu (m + 20) fn25 [.d (.list (S.map shD))] c = some (.d (.bool (someF S)), c) := by
  have hn : ev F rank (m + 19) (.bin .add (.list [(.bool true)]) (.bin .mul (.list [(.bool false)]) (.bin .sub (.bin .pow (.int 2) (.len (.var 43))) (.int 1)))) (vof [(43, .d (.list (S.map shD)))]) c = some (.d (.list (bls (true :: List.replicate 63 false))), c) :=
    bi rfl (bi rfl (bi (bi rfl (len6 (n := m + 13) hS rfl) (pow2 (by decide))) rfl rfl) (r := .list ((List.replicate 63 [D.bool false]).flatten)) rfl) rfl
  have hr : itemsOf F rank (m + 19) (.range (.bin .pow (.int 2) (.len (.var 43)))) (vset 51 (.loc c.length) (vof [(43, .d (.list (S.map shD)))])) (c ++ [bls (true :: List.replicate 63 false)]) = some ((List.range 64).map natD, c ++ [bls (true :: List.replicate 63 false)]) := int_range (bi rfl (len6 (n := m + 16) hS rfl) (pow2 (by decide))) (by decide)
  obtain ⟨v', e1, e2, e3⟩ := x25_loop (F := F) (rank := rank) (fu := fu) (m := m) (c := c) hS (List.range 64) (true :: List.replicate 63 false) (vset 51 (.loc c.length) (vof [(43, .d (.list (S.map shD)))])) (fun _ h => List.mem_range.mp h) t0_len rfl rfl
  have hTl : (tabF S).length = 64 := (steps_len S _ _).trans t0_len
  unfold someF
  replace e1 : forRun (exs (ex F rank fu (m + 19)) b25) [52] false ((List.range 64).map natD) (vset 51 (.loc c.length) (vof [(43, .d (.list (S.map shD)))])) (c ++ [bls (true :: List.replicate 63 false)]) = some (.next, v', c ++ [bls (tabF S)]) := e1
  generalize tabF S = T at *
  have r1 : ev F rank (m + 18) (.sub (.var 51) (.neg (.int 1))) v' (c ++ [bls (T)]) = some (.d (.bool (T.getD 63 false)), c ++ [bls (T)]) := sbD (vr e3) rfl (subL.trans (bl_last hTl))
  have r2 : ev F rank (m + 18) (.cmp .eq (.sum (.comp (.sub (.var 53) (.int 1)) 53 (.var 43) none)) (.int 0)) v' (c ++ [bls (T)]) = some (.d (.bool ((S.map (·.2)).sum == 0)), c ++ [bls (T)]) := by
    refine cmR (sumR (l := S.map (·.2)) ?_) rfl rfl
    rw [List.map_map]
    exact cpR (congrArg (fun (o : Option V) => (o.map (·, c ++ [bls (T)])).bind fun (x : V × Cells) => (itemsV x.1).map fun l => (l, x.2)) e2) (comp_map shD (fun x => D.int x.2) fun x hx => elV (sbD rfl rfl rfl)) (ok_of (by rw [List.length_map, hS]; decide))
  have hret : ev F rank (m + 19) (.and (.sub (.var 51) (.neg (.int 1))) (.cmp .eq (.sum (.comp (.sub (.var 53) (.int 1)) 53 (.var 43) none)) (.int 0))) v' (c ++ [bls (T)]) = some (.d (.bool (T.getD 63 false && ((S.map (·.2)).sum == 0))), c ++ [bls T]) := by
    cases hb : T.getD 63 false with
    | true => rw [hb] at r1; exact anT (trI r1) r2
    | false => rw [hb] at r1; exact anF r1
  exact fnI rfl rfl (sq (newL hn) (sq (forS hr e1) (sqR (ret hret)))) rfl take_last
end
end Mine
end
section
open PySem PySem.W PyProof.Rows
namespace Mine
noncomputable abbrev ExT := MS → Vars → Cells → Option (Fl × Vars × Cells)
noncomputable def trG (g : EvT) (e : ME) (vs : Vars) (c : Cells) : Option (Bool × Cells) := (g e vs c).bind fun x => (truth x.2 x.1).map fun b => (b, x.2)
section
variable {F F' : FT} {rank : Nat → Nat} {n : Nat}
theorem call_agree {f : Nat} {l : List ME} {vs : Vars} {c : Cells} (ih : ev F rank n = ev F' rank n) (h : ∀ g, rank g ≤ n + 1 → F g = F' g) : ev F rank (n + 1) (.call f l) vs c = ev F' rank (n + 1) (.call f l) vs c := by
  refine (congrArg (fun g : EvT => (evs (fun e c => g e vs c) l c).bind fun x => if Nat.ble (rank f) n then F f x.1 x.2 else none) ih).trans ?_
  by_cases hb : Nat.ble (rank f) n = true
  · exact congrArg (fun (G : List V → Cells → Option (V × Cells)) => (evs (fun e c => ev F' rank n e vs c) l c).bind fun x => if Nat.ble (rank f) n then G x.1 x.2 else none) (h f (Nat.le_succ_of_le (Nat.le_of_ble_eq_true hb)))
  · refine congrArg (Option.bind _) (funext fun x => ?_)
    rw [if_neg hb, if_neg hb]
theorem ev_agree (n : Nat) : (∀ g, rank g ≤ n → F g = F' g) → ev F rank n = ev F' rank n := by
  induction n with
  | zero => exact fun _ => rfl
  | succ n IH =>
  intro h
  have ih := IH fun g hg => h g (Nat.le_succ_of_le hg)
  funext e vs c
  cases e with
  | int i => rfl
  | str t => rfl
  | bool b => rfl
  | none => rfl
  | var x => rfl
  | bin o a b => exact congrArg (fun g : EvT => b2 id g a b vs c fun x y c => binV c o x y) ih
  | neg a => exact congrArg (fun g : EvT => u1 .int g a vs c fun x _ => (optInt x).map fun i => -i) ih
  | not a => exact congrArg (fun g : EvT => u1 .bool g a vs c fun x c => (truth c x).map not) ih
  | and a b => exact congrArg (fun g : EvT => t1 g a vs c fun x t c => if t then g b vs c else some (x, c)) ih
  | or a b => exact congrArg (fun g : EvT => t1 g a vs c fun x t c => if t then some (x, c) else g b vs c) ih
  | cmp o a b => exact congrArg (fun g : EvT => b2 .bool g a b vs c fun x y c => cmpV c o x y) ih
  | ite t a b => exact congrArg (fun g : EvT => t1 g t vs c fun _ t c => if t then g a vs c else g b vs c) ih
  | sub a i => exact congrArg (fun g : EvT => b2 id g a i vs c fun x y c => subV c x y) ih
  | slice a lo hi => exact congrArg (fun g : EvT => (g a vs c).bind fun x => (op1 g lo vs x.2).bind fun l => (op1 g hi vs l.2).bind fun h => (cutV h.2 x.1 l.1 h.1).map fun r => (V.d r, h.2)) ih
  | rev a => exact congrArg (fun g : EvT => u1 .list g a vs c fun x c => (listOfV c x).map List.reverse) ih
  | list l => exact congrArg (fun g : EvT => es (fun l c => some (.d (.list l), c)) g l vs c) ih
  | tup l => exact congrArg (fun g : EvT => es (fun l c => some (.d (.tup l), c)) g l vs c) ih
  | comp e x it cnd => exact congrArg (fun g : EvT => comp' g it vs c (elT g e x cnd vs)) ih
  | comp2 e x it y it2 => exact congrArg (fun g : EvT => if (vget vs y).isSome then none else comp' g it vs c (elP g e x y it2 vs)) ih
  | call f l => exact call_agree ih h
  | len a => exact congrArg (fun g : EvT => u1 (fun (k : Nat) => D.int (Int.ofNat k)) g a vs c fun x c => lenV c x) ih
  | sum a => exact congrArg (fun g : EvT => u1 .int g a vs c fun x c => (listOfV c x).bind fun l => (intsOf l).map List.sum) ih
  | min a b => exact congrArg (fun g : EvT => b2 .int g a b vs c fun x y _ => (optInt x).bind fun i => (optInt y).map fun j => if j < i then j else i) ih
  | sorted a => exact congrArg (fun g : EvT => u1 .list g a vs c fun x c => (listOfV c x).bind fun l => if decide (l.length < 64) then (intsOf l).map fun l => (l.mergeSort (· ≤ ·)).map .int else none) ih
  | strOf a => exact congrArg (fun g : EvT => u1 .str g a vs c fun x _ => (optBool x).map fun b => if b then trueS else falseS) ih
  | pop x => rfl
  | count a b => exact congrArg (fun g : EvT => b2 .int g a b vs c fun x y _ => (optStr x).bind fun t => (optStr y).bind fun s => (oneOf s).map fun k => ((t.count k : Nat) : Int)) ih
  | replace a b d => exact congrArg (fun g : EvT => u1 .str g a vs c fun x _ => (optStr x).bind fun t => (strLit b).bind fun p => (strLit d).bind fun q => replV t p q) ih
  | join a b => exact congrArg (fun g : EvT => b2 .str g a b vs c fun x y c => (optStr x).bind fun t => (listOfV c y).bind fun l => (strsOf l).bind (joinV t)) ih
  | twin a => exact congrArg (fun g : EvT => u1 .str g a vs c fun x _ => (optStr x).bind fun t => if strOk t.length && bits t then some t else none) ih
  | fstr l => exact congrArg (fun g : EvT => es (fun l c => (strsOf l).bind fun l => if strOk l.flatten.length then some (.d (.str l.flatten), c) else none) g l vs c) ih
  | range _ => rfl
  | rrange _ => rfl
theorem ag2 {α β γ : Type} (B : α → β → γ) {a a' : α} {b b' : β} (h1 : a = a') (h2 : b = b') : B a b = B a' b' := by rw [h1, h2]
theorem ex_agree {fu : Nat} (n : Nat) : (∀ g, rank g ≤ n → F g = F' g) → ex F rank fu n = ex F' rank fu n := by
  induction n with
  | zero => exact fun _ => rfl
  | succ n IH =>
  intro h
  have ih := IH fun g hg => h g (Nat.le_succ_of_le hg)
  have i1 := ev_agree n fun g hg => h g (Nat.le_succ_of_le hg)
  funext s vs c
  cases s with
  | assign x e => exact ag2 (fun (g : EvT) (yy : ExT) => (g e vs c).map fun y => (Fl.next, vset x y.1 vs, y.2)) i1 ih
  | newlist x e => exact ag2 (fun (g : EvT) (yy : ExT) => (g e vs c).bind fun y => (optList y.1).map fun l => (Fl.next, vset x (V.loc y.2.length) vs, y.2 ++ [l])) i1 ih
  | multi ts => exact ag2 (fun (g : EvT) (yy : ExT) => (multiEv (fun e c => g e vs c) ts c).map fun z => (Fl.next, vsets z.1 vs, z.2)) i1 ih
  | bindapp x r => rfl
  | aug x o e => exact ag2 (fun (g : EvT) (yy : ExT) => (vget vs x).bind fun a => (g e vs c).bind fun y => (optInt a).bind fun i => (optInt y.1).bind fun j => (augV o i j).map fun k => (Fl.next, vset x (V.d (D.int k)) vs, y.2)) i1 ih
  | setitem x i e => exact ag2 (fun (g : EvT) (yy : ExT) => (g e vs c).bind fun y => (dOf y.1).bind fun d => (vget vs x).bind fun v => (optLoc v).bind fun k => (g i vs y.2).bind fun z => (optInt z.1).bind fun i => (setV z.2 k i d).map fun c => (Fl.next, vs, c)) i1 ih
  | meth x e => exact ag2 (fun (g : EvT) (yy : ExT) => (vget vs x).bind fun v => (optLoc v).bind fun k => (g e vs c).bind fun y => (dOf y.1).bind fun d => (appV y.2 k d).map fun c => (Fl.next, vs, c)) i1 ih
  | addc x e => exact ag2 (fun (g : EvT) (yy : ExT) => (vget vs x).bind fun v => (optApp v).bind fun k => (g e vs c).bind fun y => (dOf y.1).bind fun d => (appV y.2 k d).map fun c => (Fl.next, vs, c)) i1 ih
  | expr e => exact ag2 (fun (g : EvT) (yy : ExT) => (g e vs c).bind fun y => if isN y.1 then some (Fl.next, vs, y.2) else none) i1 ih
  | ifs t a b => exact ag2 (fun (g : EvT) (yy : ExT) => (trG g t vs c).bind fun x => if x.1 then exs yy a vs x.2 else exs yy b vs x.2) i1 ih
  | «while» t b => exact ag2 (fun (g : EvT) (yy : ExT) => whl (trG g t) (exs yy b) fu vs c) i1 ih
  | «for» xs pat it b => exact ag2 (fun (g : EvT) (yy : ExT) => (itE g it vs c).bind fun l => forRun (exs yy b) xs pat l.1 vs l.2) i1 ih
  | forEsc x y e b => exact ag2 (fun (g : EvT) (yy : ExT) => (g e vs c).bind fun z => (optStr z.1).bind fun t => if strOk t.length then forRun (exs yy b) [x, y] true (escD t) vs z.2 else none) i1 ih
  | assert t => exact ag2 (fun (g : EvT) (yy : ExT) => (trG g t vs c).bind fun x => if x.1 then some (Fl.next, vs, x.2) else none) i1 ih
  | cont => rfl
  | brk => rfl
  | opq => rfl
  | ret o => cases o with
    | none => rfl
    | some e => exact congrArg (fun g : EvT => (g e vs c).map fun y => (Fl.ret y.1, vs, y.2)) i1
theorem exFn_agree {fu n : Nat} {fn : Fn} (h : ∀ g, rank g ≤ n → F g = F' g) : exFn F rank fu n fn = exFn F' rank fu n fn := by
  unfold exFn
  rw [ex_agree (fu := fu) n h]
end
noncomputable def lvlL : List Nat := [0, 3, 3, 3, 3, 1, 2, 1, 2, 0, 1, 2, 3, 1, 2, 1, 1, 2, 3, 1, 1, 1, 1, 1, 4, 1, 1, 5]
noncomputable def lvl (f : Nat) : Nat := lvlL.getD f 0
noncomputable def rnk (f : Nat) : Nat := 30 * lvl f
noncomputable def fns (f : Nat) : Option Fn := if f = 12 then some fn12 else fnTab f
noncomputable def oneStep (F : FT) (f : Nat) (args : List V) (c : Cells) : Option (V × Cells) :=
  if f = 13 then (hd1 args).bind fun a => (optStr a).bind fun t => if t == [40] then some (.d (.str [92, 40]), c) else none
  else if f = 23 then (hd1 args).bind fun a => (optLoc a).bind fun i => (c[i]?).bind fun l => if l.isEmpty then some (.d (.bool true), c) else none
  else (fns f).bind fun fn => exFn F rnk 1000 (rnk f - 1) fn args c
noncomputable def FL : Nat → FT
  | 0 => fun _ _ _ => none
  | k + 1 => fun f args c => if lvl f = k + 1 then oneStep (FL k) f args c else FL k f args c
noncomputable def FA : FT := FL 5
theorem FL_up (f : Nat) (j k : Nat) (h : lvl f ≤ k) : FL (k + j) f = FL k f := by
  induction j with
  | zero => rfl
  | succ j ih => exact (funext fun args => funext fun c => if_neg (Nat.ne_of_lt (Nat.lt_succ_of_le (Nat.le_trans h (Nat.le_add_right k j))))).trans ih
theorem lvl_le (f : Nat) : lvl f ≤ 5 := by
  unfold lvl
  rw [List.getD_eq_getElem?_getD]
  cases h : lvlL[f]? with
  | none => exact Nat.zero_le 5
  | some k => exact of_decide_eq_true (List.all_eq_true.mp (show (lvlL.all fun k => decide (k ≤ 5)) = true from rfl) k (List.mem_of_getElem? h))
theorem FA_lvl (f : Nat) {k : Nat} (h : lvl f ≤ k) (hk : k ≤ 5) : FA f = FL k f := by
  have e := FL_up f (5 - k) k h
  rw [Nat.add_sub_cancel' hk] at e
  exact e
theorem FA_one {f k : Nat} (hl : lvl f = k + 1) (args : List V) (c : Cells) : FA f args c = oneStep (FL k) f args c := by
  rw [FA_lvl f (Nat.le_of_eq hl) (hl ▸ lvl_le f)]
  exact if_pos hl
theorem fns_lvl {f : Nat} {fn : Fn} (h : fns f = some fn) : f ≠ 13 ∧ f ≠ 23 ∧ lvl f ≠ 0 := by
  unfold fns at h
  by_cases h12 : f = 12
  · exact h12 ▸ ⟨by decide, by decide, by decide⟩
  · rw [if_neg h12] at h
    have e := tab_each (P := fun f _ => decide (f ≠ 13) && decide (f ≠ 23) && decide (lvl f ≠ 0)) (by decide +kernel) h
    exact ⟨dc (an (an e).1).1, dc (an (an e).1).2, dc (an e).2⟩
theorem FA_is {f : Nat} {fn : Fn} (h : fns f = some fn) (args : List V) (c : Cells) : FA f args c = exFn FA rnk 1000 (rnk f - 1) fn args c := by
  obtain ⟨a, b, hk⟩ := fns_lvl h
  obtain ⟨k, hk⟩ := Nat.exists_eq_succ_of_ne_zero hk
  rw [FA_one hk]
  unfold oneStep
  rw [if_neg a, if_neg b, h]
  refine congrFun (congrFun (exFn_agree (F := FL k) (F' := FA) fun g hg => (FA_lvl g (k := k) ?_ (Nat.le_of_succ_le (hk ▸ lvl_le f))).symm) args) c
  unfold rnk at hg
  omega
theorem FA_13 (args : List V) (c : Cells) : FA 13 args c = oneStep (FL 0) 13 args c := FA_one rfl args c
theorem FA_23 (args : List V) (c : Cells) : FA 23 args c = oneStep (FL 0) 23 args c := FA_one rfl args c
theorem FA_tab : Tab FA rnk 1000 where
  defs f fn h := by
    have h' : fns f = some fn := by
      unfold fns
      rw [if_neg (fun e : f = 12 => nomatch (e ▸ h : fnTab 12 = some fn)), h]
    obtain ⟨k, hk⟩ := Nat.exists_eq_succ_of_ne_zero (fns_lvl h').2.2
    exact ⟨rnk f - 1, by unfold rnk; omega, fun {args c r} e => (FA_is h' args c).symm.trans e⟩
  star := ⟨89, rfl, fun {args c r} e => (FA_is (f := 12) (fn := fn12) rfl args c).symm.trans e⟩
  escp := ⟨by decide, fun {args c r} e => bind_some' ((FA_13 args c).symm.trans e) fun a h1 h => bind_some' h fun t h2 h => ifS h fun h3 h => ⟨(hd1_is h1).trans (congrArg (fun x => [x]) ((optStr_is h2).trans (congrArg (fun t => V.d (.str t)) (eq_of_beq h3)))), (Option.some.inj h).symm⟩⟩
  ref := ⟨25, rfl, fun {args c r} e => bind_some' ((FA_23 args c).symm.trans e) fun a h1 h => bind_some' h fun i h2 h => bind_some' h fun l h3 h => ifS h fun h4 h => ⟨i, (hd1_is h1).trans (congrArg (fun x => [x]) (optLoc_is h2)), h3.trans (congrArg some (List.isEmpty_iff.mp h4)), (Option.some.inj h).symm⟩⟩
  none f h h12 h13 h23 args c := by
    have hf : fns f = none := by unfold fns; rw [if_neg h12, h]
    have key : ∀ k, FL k f args c = none := by
      intro k
      induction k with
      | zero => rfl
      | succ k ih =>
        by_cases hl : lvl f = k + 1
        · refine (if_pos hl).trans ?_
          unfold oneStep
          rw [if_neg h13, if_neg h23, hf]; rfl
        · exact (if_neg hl).trans ih
    exact key 5
end Mine
end
section
open PySem PySem.W PyProof.Rows
namespace Mine
theorem up {g m : Nat} (h : rnk g ≤ m) : ∀ k, Nat.ble (rnk g) (m + k) = true := fun k => Nat.ble_eq_true_of_le (Nat.le_trans h (Nat.le_add_right ..))
theorem v13 (c : Cells) : FA 13 [.d (.str [40])] c = some (.d (.str [92, 40]), c) := by rw [FA_13]; rfl
theorem v23 (c : Cells) (i : Nat) (h : c[i]? = some []) : FA 23 [.loc i] c = some (.d (.bool true), c) := (FA_23 _ c).trans (congrArg (fun o : Option (List D) => o.bind fun l => if l.isEmpty then some (V.d (.bool true), c) else none) h)
theorem v16 (k : Nat) (c : Cells) (hk : k < 31) : FA 16 [.d (.int (k : Int))] c = some (.d (.str (word k)), c) := (FA_is (f := 16) (fn := fn16) rfl _ _).trans <| x16 (m := 9) (fu := 990) k hk
theorem w17 (n : Int) (c : Cells) : FA 17 [.d (.int n)] c = some (.d (rowD (rowF n)), c) := (FA_is (f := 17) (fn := fn17) rfl _ _).trans <| x17 (m := 39) n (up (by decide)) v16
theorem v18 (ns : List Int) (more : Int) (c : Cells) (hl : ns.length ≤ 10) (hnet : -100 ≤ netR (ns.map rowF) ∧ netR (ns.map rowF) ≤ 100) (hmore : 0 ≤ more ∧ more ≤ 1) : FA 18 [.d (.list (ns.map .int)), .d (.int more)] c = some (.d (.list ((sixF ns more).map rowD)), c) := (FA_is (f := 18) (fn := fn18) rfl _ _).trans <| x18 (m := 69) ns more hl hnet hmore (up (by decide)) w17
theorem v19 (row : List (List Nat)) (c : Cells) (hb : ∀ w ∈ row, w.length ≤ 100) (hl : row.length ≤ 10) : FA 19 [.d (rowD row)] c = some (.d (.str (patF row)), c) := (FA_is (f := 19) (fn := fn19) rfl _ _).trans <| x19 (m := 9) row hb hl
theorem v20 (row : List (List Nat)) (c : Cells) (hb : ∀ w ∈ row, w.length ≤ 100) (hl : row.length ≤ 10) : FA 20 [.d (rowD row)] c = some (.d (.str (textF row)), c) := (FA_is (f := 20) (fn := fn20) rfl _ _).trans <| x20 (m := 9) row hb hl
theorem v14 (row : List (List Nat)) (c : Cells) (hok : okRow false row = true) (hb : ∀ w ∈ row, w.length ≤ 100) (hl : row.length ≤ 10) : FA 14 [.d (.str (patF row)), .d .star, .d (.str [46])] c = some (.d (.list (row.map partD)), c) := (FA_is (f := 14) (fn := fn14) rfl _ _).trans <| x14 (m := 39) row hok hb hl (by decide) (up (by decide)) v13
theorem v15 (row : List (List Nat)) (c : Cells) (hok : okRow false row = true) (hb : ∀ w ∈ row, w.length ≤ 100) (hl : row.length ≤ 10) : FA 15 [.d (.list (row.map partD)), .d .star] c = some (.d (.str (textF row)), c) := by
  rw [FA_is (f := 15) (fn := fn15) rfl, textF_jt]
  exact x15 (m := 9) row hok hb hl (by decide) (by have := jt_len row false hb; omega)
theorem v12 (row : List (List Nat)) (c : Cells) (hc : c.all noStars = true) (hok : okRow false row = true) (hb : ∀ w ∈ row, w.length ≤ 100) (hl : row.length ≤ 10) : FA 12 [.d (.str (patF row))] c = some (.d (.str (textF row)), c) := (FA_is (f := 12) (fn := fn12) rfl _ _).trans <| x12 (m := 69) row hc (up (by decide)) (up (by decide)) (v14 row c hok hb hl) (v15 row c hok hb hl)
theorem v10 (t : List Nat) (c : Cells) (h : 34 ∉ t) : FA 10 [.d (.str t)] c = some (.d (.str t), c) := (FA_is (f := 10) (fn := fn10) rfl _ _).trans <| x10 (m := 9) h
theorem v11 (t : List Nat) (c : Cells) (h : 34 ∉ t) (ht : t.length ≤ 10000) : FA 11 [.d (.str t)] c = some (.d (.bool (chkF' 0 ((esc 0 t).map (·.2)))), c) := (FA_is (f := 11) (fn := fn11) rfl _ _).trans <| x11 (m := 39) t ht (up (g := 10) (m := 39) (by decide) 18) (v10 t c h)
noncomputable def shapeF (t : List Nat) : Sh := (-(shpF 0 0 (rep t)).1, (shpF 0 0 (rep t)).2)
theorem v21 (t : List Nat) (c : Cells) (ht : t.length ≤ 1000) (hr : (rep t).length ≤ 1000) : FA 21 [.d (.str t)] c = some (.d (shD (shapeF t)), c) := by
  rw [FA_is (f := 21) (fn := fn21) rfl]
  have := x21 (F := FA) (rank := rnk) (fu := 1000) (m := 9) (c := c) t ht (by rw [replS_open]; exact hr)
  rw [replS_open] at this
  exact this
theorem v22 (l : List Sh) (c : Cells) (hl : l.length ≤ 1000) : FA 22 [.d (.list (l.map shD))] c = some (.d (.list (kys (keysF 0 l))), c) := (FA_is (f := 22) (fn := fn22) rfl _ _).trans <| x22 (m := 9) l hl
theorem v26 (l : List Sh) (c : Cells) : FA 26 [.d (.list (l.map shD))] c = some (.d (.bool (runsF 0 l)), c) := (FA_is (f := 26) (fn := fn26) rfl _ _).trans <| x26 (m := 9) l
theorem v25 (l : List Sh) (c : Cells) (hl : l.length = 6) : FA 25 [.d (.list (l.map shD))] c = some (.d (.bool (someF l)), c) := (FA_is (f := 25) (fn := fn25) rfl _ _).trans <| x25 (m := 9) l hl
theorem v5 (i : Nat) (c : Cells) (l : List Ky) (s p : Nat) (hc : c[i]? = some (kys l)) (hp : p < l.length) (hl : l.length ≤ 100) : FA 5 [.loc i, .d (.int (s : Int)), .d (.int (p : Int))] c = some (.d .none, c.set i (kys (sd ltK l s p))) := (FA_is (f := 5) (fn := fn5) rfl _ _).trans <| x5 (m := 9) q5_min hc hp hl (by decide)
theorem v7 (i : Nat) (c : Cells) (l : List Ky) (s p : Nat) (hc : c[i]? = some (kys l)) (hp : p < l.length) (hl : l.length ≤ 100) : FA 7 [.loc i, .d (.int (s : Int)), .d (.int (p : Int))] c = some (.d .none, c.set i (kys (sd gtK l s p))) := (FA_is (f := 7) (fn := fn7) rfl _ _).trans <| x5 (m := 9) q5_max hc hp hl (by decide)
theorem v6 (i : Nat) (c : Cells) (l : List Ky) (p : Nat) (hc : c[i]? = some (kys l)) (hp : p < l.length) (hl : l.length ≤ 100) : FA 6 [.loc i, .d (.int (p : Int))] c = some (.d .none, c.set i (kys (su ltK l p))) := (FA_is (f := 6) (fn := fn6) rfl _ _).trans <| x6 (m := 39) q6_min hc hp hl (by decide) (up (by decide)) (v5 i)
theorem v8 (i : Nat) (c : Cells) (l : List Ky) (p : Nat) (hc : c[i]? = some (kys l)) (hp : p < l.length) (hl : l.length ≤ 100) : FA 8 [.loc i, .d (.int (p : Int))] c = some (.d .none, c.set i (kys (su gtK l p))) := (FA_is (f := 8) (fn := fn8) rfl _ _).trans <| x6 (m := 39) q6_max hc hp hl (by decide) (up (by decide)) (v7 i)
theorem v1 (c : Cells) (i : Nat) (l l' : List Ky) (x : Ky) (hc : c[i]? = some (kys l)) (hl : l.length ≤ 100) (hp : hpop ltK l = some (x, l')) : FA 1 [.loc i] c = some (.d (kyD x), c.set i (kys l')) := (FA_is (f := 1) (fn := fn1) rfl _ _).trans <| x1 (m := 69) hc hl hp (up (by decide)) (v6 i)
theorem v3 (c : Cells) (i : Nat) (l l' : List Ky) (x : Ky) (hc : c[i]? = some (kys l)) (hl : l.length ≤ 100) (hp : hpop gtK l = some (x, l')) : FA 3 [.loc i] c = some (.d (kyD x), c.set i (kys l')) := (FA_is (f := 3) (fn := fn3) rfl _ _).trans <| x1 (m := 69) hc hl hp (up (by decide)) (v8 i)
theorem v2 (c : Cells) (i : Nat) (l : List Ky) (hc : c[i]? = some (kys l)) (hl : l.length ≤ 100) : FA 2 [.loc i] c = some (.d .none, c.set i (kys (hpf ltK l))) := (FA_is (f := 2) (fn := fn2) rfl _ _).trans <| x2 (m := 69) hc hl (up (by decide)) (v6 i)
theorem v4 (c : Cells) (i : Nat) (l : List Ky) (hc : c[i]? = some (kys l)) (hl : l.length ≤ 100) : FA 4 [.loc i] c = some (.d .none, c.set i (kys (hpf gtK l))) := (FA_is (f := 4) (fn := fn4) rfl _ _).trans <| x2 (m := 69) hc hl (up (by decide)) (v8 i)
theorem v24 (K : List Ky) (c : Cells) (hK : K.length ≤ 100) {P Q : List Ky} (hP : pops gtK K.length (hpf gtK K) = (P, [])) (hQ : pops ltK K.length (hpf ltK K) = (Q, [])) (hPQ : P = Q.reverse) : FA 24 [.d (.list (kys K))] c = some (.d (.list (third P)), c) := by
  rw [FA_is (f := 24) (fn := fn24) rfl]
  exact x24 (m := 99) K hK (up (by decide)) (up (by decide)) (up (by decide)) (up (by decide)) (up (by decide)) v1 v3 v2 v4 v23 hP hQ hPQ
end Mine
end
section
open PySem PySem.W PyProof.Rows
namespace Mine
noncomputable def jn : List (List Nat) → List Nat
  | [] => []
  | x :: r => match r with
    | [] => x
    | y :: r => x ++ 124 :: jn (y :: r)
theorem joinS_bar (l : List (List Nat)) : joinS [124] l = jn l := by
  have key : ∀ l : List (List Nat), (Str.join (mkS [124]) (l.map mkS)) = mkS (jn l) := by
    intro l
    induction l with
    | nil => rfl
    | cons x r ih =>
      cases r with
      | nil => exact rfl
      | cons y r =>
        simp only [List.map_cons, Str.join] at ih ⊢
        rw [ih]
        show Str.mk ((x.toArray ++ #[124]) ++ _) = _
        simp [mkS, jn]
  unfold joinS
  rw [key]; rfl
theorem jn_len {n : Nat} (l : List (List Nat)) : (∀ t ∈ l, t.length ≤ n) → (jn l).length ≤ l.length * (n + 1) := by
  induction l with
  | nil => exact fun _ => Nat.zero_le _
  | cons x r ih =>
    intro h
    have h1 := h x (List.mem_cons_self ..)
    cases r with
    | nil => exact Nat.le_trans (Nat.le_succ_of_le h1) (Nat.le_of_eq (Nat.one_mul _).symm)
    | cons y r =>
      refine Nat.le_trans (Nat.le_of_eq List.length_append) ?_
      rw [List.length_cons (a := x), Nat.succ_mul, Nat.add_comm, List.length_cons (a := 124), Nat.add_right_comm, Nat.add_assoc]
      exact Nat.add_le_add (ih fun t ht => h t (List.mem_cons_of_mem _ ht)) (Nat.succ_le_succ h1)
theorem eqItems_str (l : List (List Nat)) : eqItems (l.map .str) (l.map .str) = some true := by
  induction l with
  | nil => rfl
  | cons x r ih => exact (congrArg (fun b : Bool => (some b).bind fun b => (eqItems (r.map .str) (r.map .str)).map fun r => b && r) (beq_self_eq_true x)).trans (congrArg (Option.map fun r => true && r) ih)
theorem eqSeq_of {l : List D} (h : eqItems l l = some true) : eqSeq l l = some true := by
  unfold eqSeq
  rw [bne_self_eq_false]; exact h
theorem cut5 {l : List D} : cutL l none (some 5) = l.take 5 := by
  show (l.drop 0).take (min 5 l.length - 0) = l.take 5
  rw [Nat.sub_zero, List.drop_zero, ← List.take_take, List.take_length]
section
variable {F : FT} {rank : Nat → Nat} {fu m n : Nat} {vs : Vars} {c : Cells}
theorem itV {x : Nat} {l : List D} (h : vget vs x = some (.d (.list l))) : itemsOf F rank (n + 1) (.var x) vs c = some (l, c) := congrArg (fun (o : Option V) => (o.map (·, c)).bind fun (x : V × Cells) => (itemsV x.1).map fun l => (l, x.2)) h
theorem soR {e : ME} {b : Bool} (h : ev F rank n e vs c = some (.d (.bool b), c)) : ev F rank (n + 1) (.strOf e) vs c = some (.d (.str (if b then trueS else falseS)), c) := congrArg (Option.bind · fun (x : V × Cells) => ((optBool x.1).map fun (b : Bool) => if b then trueS else falseS).map fun r => (V.d (.str r), x.2)) h
theorem stR {e : ME} {l : List Int} (h : ev F rank n e vs c = some (.d (.list (l.map .int)), c)) (hl : (l.map D.int).length < 64) : ev F rank (n + 1) (.sorted e) vs c = some (.d (.list ((l.mergeSort (· ≤ ·)).map .int)), c) :=
  (congrArg (Option.bind · fun (x : V × Cells) => ((listOfV x.2 x.1).bind fun l => if decide (l.length < 64) then (intsOf l).map fun (l : List Int) => (l.mergeSort (· ≤ ·)).map D.int else none).map fun r => (V.d (.list r), x.2)) h).trans ((congrArg (Option.map fun r => (V.d (.list r), c)) (if_pos (decide_eq_true hl))).trans (congrArg (fun o : Option (List Int) => (o.map fun (l : List Int) => (l.mergeSort (· ≤ ·)).map D.int).map fun r => (V.d (.list r), c)) (intsOf_map l)))
theorem ev_jn {e : ME} {l : List (List Nat)} (h : ev F rank (n + 1) e vs c = some (.d (.list (l.map .str)), c)) (hl : l.length ≤ 100) (hb : ∀ t ∈ l, t.length ≤ 1000) : ev F rank (n + 2) (.join (.str [124]) e) vs c = some (.d (.str (jn l)), c) := by
  have h1 : (jn l).length ≤ 1000000 := Nat.le_trans (jn_len l hb) (Nat.le_trans (Nat.mul_le_mul_right 1001 hl) (by decide))
  have h2 : (l.map List.length).sum + l.length * [124].length ≤ 16777216 := by
    rw [sum_len]; exact Nat.le_trans (Nat.add_le_add (Nat.le_trans (sum_le hb) (Nat.mul_le_mul_right 1000 hl)) (Nat.mul_le_mul_right 1 hl)) (by decide)
  have hj : joinV [124] l = some (jn l) := by
    unfold joinV
    rw [joinS_bar]
    exact if_pos (Bool.and_eq_true_iff.mpr ⟨ok_of h1, decide_eq_true h2⟩)
  exact (congrArg (Option.bind · fun (y : V × Cells) => ((listOfV y.2 y.1).bind fun l => (strsOf l).bind (joinV [124])).map fun r => (V.d (.str r), y.2)) h).trans ((congrArg (fun (o : Option (List (List Nat))) => (o.bind (joinV [124])).map fun r => (V.d (.str r), c)) (strsOf_map l)).trans (congrArg (Option.map fun r => (V.d (.str r), c)) hj))
noncomputable def w1 (script : List Int) (rows : List (List (List Nat))) : Vars := vset 55 (.d (.list (rows.map rowD))) (vof [(54, .d (.list (script.map .int)))])
noncomputable def w2 (script : List Int) (rows : List (List (List Nat))) (T : List (List Nat)) : Vars := vset 56 (.d (.list (T.map .str))) (w1 script rows)
noncomputable def w3 (script : List Int) (rows : List (List (List Nat))) (T : List (List Nat)) (S : List Sh) : Vars := vset 57 (.d (.list (S.map shD))) (w2 script rows T)
noncomputable def w4 (script : List Int) (rows : List (List (List Nat))) (T : List (List Nat)) (S : List Sh) (turn : List Nat) : Vars := vset 58 (.d (.list (turn.map natD))) (w3 script rows T S)
theorem ne_same {l : List D} (h : eqItems l l = some true) : cmpV c .ne (.d (.list l)) (.d (.list l)) = some false := congrArg (Option.map not) (eqSeq_of h)
theorem law_head {script : List Int} : ev F rank (n + 6) (.slice (.bin .add (.slice (.var 54) none (some (.int 5))) (.list [(.int 48), (.int 3768), (.int 527), (.int 16), (.int 3834)])) none (some (.int 5))) (vof [(54, .d (.list (script.map .int)))]) c = some (.d (.list ((((script.take 5) ++ [48, 3768, 527, 16, 3834]).take 5).map .int)), c) := by
  have e1 : ev F rank (n + 4) (.slice (.var 54) none (some (.int 5))) (vof [(54, .d (.list (script.map .int)))]) c = some (.d (.list ((script.map D.int).take 5)), c) := slR rfl rfl rfl (congrArg (fun l => some (D.list l)) cut5)
  rw [List.map_take, List.map_append, List.map_take]
  exact slR (bi e1 rfl (if_pos (ok_of (Nat.le_trans (Nat.add_le_add_right (List.length_take_le 5 _) 5) (by decide))))) rfl rfl (congrArg (fun l => some (D.list l)) cut5)
theorem law_more {script : List Int} : ev F rank (n + 6) (.ite (.cmp .eq (.bin .mod (.sum (.var 54)) (.int 4)) (.int 3)) (.int 1) (.int 0)) (vof [(54, .d (.list (script.map .int)))]) c = some (.d (.int (if Int.fmod script.sum 4 = 3 then 1 else 0)), c) := by
  refine itQ (q := Int.fmod script.sum 4 == 3) (trI (cmR (bi (sumR rfl) rfl rfl) rfl rfl)) ?_
  by_cases h : Int.fmod script.sum 4 = 3
  · rw [if_pos h, h]; rfl
  · rw [if_neg h, beq_eq_false_iff_ne.mpr h]; rfl
theorem x27 (script ns : List Int) (more : Int) (hns : ns = ((script.take 5) ++ [48, 3768, 527, 16, 3834]).take 5) (hmore : more = if Int.fmod script.sum 4 = 3 then 1 else 0) (rows : List (List (List Nat))) (hrows : rows.length = 6) (pat txt : List (List Nat) → List Nat) (shp : List Nat → Sh) (turn : List Nat) (K : D) (b1 b2 : Bool)
    (htx : ∀ r ∈ rows, (txt r).length ≤ 1000) (hin : ∀ k ∈ turn, k < 6) (htl : turn.length = 6) (hsort : (turn.map fun (k : Nat) => (k : Int)).mergeSort (· ≤ ·) = [0, 1, 2, 3, 4, 5])
    (hr : ∀ g ∈ [11, 12, 18, 19, 20, 21, 22, 24, 25, 26], ∀ k, Nat.ble (rank g) (m + k) = true)
    (c18 : F 18 [.d (.list (ns.map .int)), .d (.int more)] [] = some (.d (.list (rows.map rowD)), []))
    (c19 : ∀ r ∈ rows, F 19 [.d (rowD r)] [] = some (.d (.str (pat r)), []))
    (c12 : ∀ r ∈ rows, F 12 [.d (.str (pat r))] [] = some (.d (.str (txt r)), []))
    (c20 : ∀ r ∈ rows, F 20 [.d (rowD r)] [] = some (.d (.str (txt r)), []))
    (c21 : ∀ r ∈ rows, F 21 [.d (.str (txt r))] [] = some (.d (shD (shp (txt r))), []))
    (c11 : ∀ r ∈ rows, F 11 [.d (.str (txt r))] [] = some (.d (.bool ((shp (txt r)).1 == 0 && (shp (txt r)).2 == 0)), []))
    (c22 : F 22 [.d (.list ((rows.map fun r => shp (txt r)).map shD))] [] = some (.d K, []))
    (c24 : F 24 [.d K] [] = some (.d (.list (turn.map natD)), []))
    (c26 : F 26 [.d (.list ((rows.map fun r => shp (txt r)).map shD))] [] = some (.d (.bool b1), []))
    (c11a : F 11 [.d (.str (jn (rows.map txt)))] [] = some (.d (.bool b1), []))
    (c25 : F 25 [.d (.list ((rows.map fun r => shp (txt r)).map shD))] [] = some (.d (.bool b2), []))
    (c11b : F 11 [.d (.str (jn (turn.map fun k => (rows.map txt).getD k [])))] [] = some (.d (.bool b2), [])) :
    exFn F rank fu (m + 20) fn27 [.d (.list (script.map .int))] [] = some (.d (.bool true), []) := by
  subst hns hmore
  have h6 : strOk rows.length = true := ok_of (by rw [hrows]; decide)
  have htxl : ∀ t ∈ rows.map txt, t.length ≤ 1000 := fun t ht => let ⟨r, hr0, e⟩ := List.mem_map.mp ht; e ▸ htx r hr0
  have hT : (rows.map txt).length = 6 := (List.length_map _).trans hrows
  have s1 : ev F rank (m + 19) (.call 18 [(.slice (.bin .add (.slice (.var 54) none (some (.int 5))) (.list [(.int 48), (.int 3768), (.int 527), (.int 16), (.int 3834)])) none (some (.int 5))), (.ite (.cmp .eq (.bin .mod (.sum (.var 54)) (.int 4)) (.int 3)) (.int 1) (.int 0))]) (vof [(54, .d (.list (script.map .int)))]) [] = some (.d (.list (rows.map rowD)), []) := callR (es1 law_head (es1 law_more rfl)) (hr 18 (by decide) 18) c18
  have m56 : ∀ {vs : Vars}, vget vs 55 = some (.d (.list (rows.map rowD))) → ev F rank (m + 19) (.comp (.call 12 [(.call 19 [(.var 3)])]) 3 (.var 55) none) vs [] = some (.d (.list ((rows.map txt).map .str)), []) := fun h => by
    rw [List.map_map]
    exact cpR (itV h) (comp_map rowD (fun r => D.str (txt r)) fun r hr0 => elV (call1R (call1R rfl (hr 19 (by decide) 16) (c19 r hr0)) (hr 12 (by decide) 17) (c12 r hr0))) (by rw [List.length_map]; exact h6)
  have m20 : ev F rank (m + 18) (.comp (.call 20 [(.var 3)]) 3 (.var 55) none) (w2 script rows (rows.map txt)) [] = some (.d (.list ((rows.map txt).map .str)), []) := by
    rw [List.map_map (g := D.str)]
    exact cpR (itV rfl) (comp_map rowD (fun r => D.str (txt r)) fun r hr0 => elV (call1R rfl (hr 20 (by decide) 16) (c20 r hr0))) (by rw [List.length_map]; exact h6)
  have m21 : ev F rank (m + 19) (.comp (.call 21 [(.var 3)]) 3 (.var 56) none) (w2 script rows (rows.map txt)) [] = some (.d (.list ((rows.map fun r => shp (txt r)).map shD)), []) := by
    refine cpR (itV rfl) (?_ : compRun _ ((rows.map txt).map D.str) [] = some ((rows.map fun r => shp (txt r)).map shD, [])) (by rw [List.length_map, List.length_map]; exact h6)
    rw [List.map_map, List.map_map]
    exact comp_map (fun r => D.str (txt r)) (fun r => shD (shp (txt r))) fun r hr0 => elV (call1R rfl (hr 21 (by decide) 17) (c21 r hr0))
  have b5 : ∀ {it e} (g : List (List Nat) → D), itemsOf F rank (m + 17) it (w3 script rows (rows.map txt) (rows.map fun r => shp (txt r))) [] = some (rows.map g, []) → (∀ r ∈ rows, ev F rank (m + 16) e (vset 3 (.d (g r)) (w3 script rows (rows.map txt) (rows.map fun r => shp (txt r)))) [] = some (.d (.bool ((shp (txt r)).1 == 0 && (shp (txt r)).2 == 0)), [])) →
      ev F rank (m + 18) (.comp (.strOf e) 3 it none) (w3 script rows (rows.map txt) (rows.map fun r => shp (txt r))) [] = some (.d (.list ((rows.map fun r => if ((shp (txt r)).1 == 0 && (shp (txt r)).2 == 0) = true then trueS else falseS).map .str)), []) := fun g hi he => by
    rw [List.map_map]
    exact cpR hi (comp_map g _ fun r hr0 => elV (soR (he r hr0))) (by rw [List.length_map]; exact h6)
  have m5a := b5 (it := .var 56) (e := .call 11 [(.var 3)]) (fun r => D.str (txt r)) ((itV rfl).trans (congrArg (fun l => some (l, [])) List.map_map)) fun r hr0 => call1R rfl (hr 11 (by decide) 15) (c11 r hr0)
  have m5b := b5 (it := .var 57) (e := .cmp .eq (.var 3) (.tup [(.int 0), (.int 0)])) (fun r => shD (shp (txt r))) ((itV rfl).trans (congrArg (fun l => some (l, [])) (List.map_map (g := shD) (f := fun r => shp (txt r)) (l := rows)))) fun r hr0 => cmR rfl rfl (congrArg (fun b => some ((shp (txt r)).1 == 0 && b)) (Bool.and_true _))
  have hnat : turn.map natD = (turn.map fun (k : Nat) => (k : Int)).map .int := List.map_map.symm
  have m7a : ev F rank (m + 18) (.cmp .ne (.sorted (.var 58)) (.list [(.int 0), (.int 1), (.int 2), (.int 3), (.int 4), (.int 5)])) (w4 script rows (rows.map txt) (rows.map fun r => shp (txt r)) turn) [] = some (.d (.bool false), []) := by
    refine cmR (stR (l := turn.map fun (k : Nat) => (k : Int)) (vr (congrArg (fun l => some (V.d (.list l))) hnat)) (by rw [List.length_map, List.length_map, htl]; decide)) rfl ?_
    rw [hsort]; rfl
  have m7b : ev F rank (m + 18) (.cmp .isnot (.call 11 [(.join (.str [124]) (.var 56))]) (.call 26 [(.var 57)])) (w4 script rows (rows.map txt) (rows.map fun r => shp (txt r)) turn) [] = some (.d (.bool false), []) :=
    cmR (call1R (ev_jn (n := m + 14) (vr rfl) (by rw [hT]; decide) htxl) (hr 11 (by decide) 16) c11a) (call1R (vr rfl) (hr 26 (by decide) 16) c26) (by cases b1 <;> rfl)
  have e0 : ev F rank (m + 16) (.comp (.sub (.var 56) (.var 24)) 24 (.var 58) none) (w4 script rows (rows.map txt) (rows.map fun r => shp (txt r)) turn) [] = some (.d (.list ((turn.map fun k => (rows.map txt).getD k []).map .str)), []) := by
    rw [List.map_map]
    refine cpR (itV rfl) (comp_map natD (fun k => D.str ((rows.map txt).getD k [])) fun k hk => elV (sbD (vr rfl) (vr rfl) ?_)) (ok_of (by rw [List.length_map, htl]; decide))
    exact (List.getElem?_map ..).trans (by rw [List.getD_eq_getElem?_getD, List.getElem?_eq_getElem (hT.symm ▸ hin k hk)]; rfl)
  have m8 := ev_jn (F := F) (rank := rank) (n := m + 15) e0 (by rw [List.length_map, htl]; decide) fun t ht => by
    obtain ⟨k, hk, rfl⟩ := List.mem_map.mp ht
    refine htxl _ ?_
    rw [List.getD_eq_getElem?_getD, List.getElem?_eq_getElem (hT.symm ▸ hin k hk)]
    exact List.getElem_mem _
  exact fnD rfl rfl (sq (asg s1) (sq (asg (m56 rfl)) (sq (ifQ (q := false) (trI (cmR (vr rfl) m20 (ne_same (eqItems_str _)))) rfl) (sq (asg m21) (sq (ifQ (q := false) (trI (cmR m5a m5b (ne_same (eqItems_str _)))) rfl)
    (sq (asg (call1R (call1R (vr rfl) (hr 22 (by decide) 17) c22) (hr 24 (by decide) 18) c24)) (sq (ifQ (q := false) (trI (orF (trI m7a) m7b)) rfl) (sqR (ret (cmR (call1R m8 (hr 11 (by decide) 17) c11b) (call1R (vr rfl) (hr 25 (by decide) 17) c25) (by cases b2 <;> rfl)))))))))))
end
end Mine
end
section
open PySem PySem.W PyProof.Rows
namespace Mine
section
variable {A B : Type} (r : A → B) {la : A → A → Bool} {lb : B → B → Bool}
noncomputable def mp2 (z : List A × Nat) : List B × Nat := (z.1.map r, z.2)
noncomputable def mp3 (z : List A × List A) : List B × List B := (z.1.map r, z.2.map r)
variable (h : ∀ x y, lb (r x) (r y) = la x y)
include h
theorem sdL_map (new : A) (s n : Nat) : ∀ (l : List A) (p : Nat), sdL lb (r new) s n (l.map r) p = mp2 r (sdL la new s n l p) := by
  induction n with
  | zero => exact fun l p => rfl
  | succ n ih =>
    intro l p
    unfold sdL
    rw [List.getElem?_map]
    cases decide (s < p) with
    | false => rfl
    | true =>
      cases l[(p - 1) / 2]? with
      | none => rfl
      | some par =>
        show (bif lb (r new) (r par) then sdL lb (r new) s n ((l.map r).set p (r par)) ((p - 1) / 2) else mp2 r (l, p)) = mp2 r (bif la new par then sdL la new s n (l.set p par) ((p - 1) / 2) else (l, p))
        rw [h, ← List.map_set, ih]
        cases la new par <;> rfl
theorem sd_map (l : List A) (s p : Nat) : sd lb (l.map r) s p = (sd la l s p).map r := by
  unfold sd
  rw [List.getElem?_map]
  cases l[p]? with
  | none => rfl
  | some new =>
    show (sdL lb (r new) s p (l.map r) p).1.set (sdL lb (r new) s p (l.map r) p).2 (r new) = ((sdL la new s p l p).1.set (sdL la new s p l p).2 new).map r
    rw [sdL_map r h, List.map_set]; rfl
theorem suL_map (n : Nat) : ∀ (l : List A) (p : Nat), suL lb n (l.map r) p = mp2 r (suL la n l p) := by
  induction n with
  | zero => exact fun l p => rfl
  | succ n ih =>
    intro l p
    have go : ∀ (x : A) (k : Nat), suL lb n ((l.map r).set p (r x)) k = mp2 r (suL la n (l.set p x) k) := fun x k => by rw [← List.map_set, ih]
    unfold suL
    rw [List.getElem?_map, List.getElem?_map]
    cases l[2 * p + 1]? with
    | none => rfl
    | some x =>
      cases l[2 * p + 2]? with
      | none => exact go x _
      | some y =>
        show (bif lb (r x) (r y) then suL lb n ((l.map r).set p (r x)) (2 * p + 1) else suL lb n ((l.map r).set p (r y)) (2 * p + 2)) = mp2 r (bif la x y then suL la n (l.set p x) (2 * p + 1) else suL la n (l.set p y) (2 * p + 2))
        rw [h, go, go]
        cases la x y <;> rfl
theorem su_map (l : List A) (p : Nat) : su lb (l.map r) p = (su la l p).map r := by
  unfold su
  rw [List.getElem?_map, List.length_map, suL_map r h]
  cases l[p]? with
  | none => rfl
  | some new => exact (congrArg (fun l' => sd lb l' p (suL la l.length l p).2) (List.map_set ..).symm).trans (sd_map r h _ _ _)
theorem hpf_map (l : List A) : hpf lb (l.map r) = (hpf la l).map r := by
  have key : ∀ (is : List Nat) (l : List A), is.foldl (fun l i => su lb l i) (l.map r) = (is.foldl (fun l i => su la l i) l).map r := fun is => by
    induction is with
    | nil => exact fun l => rfl
    | cons i t ih => exact fun l => (congrArg (t.foldl (fun l i => su lb l i)) (su_map r h l i)).trans (ih _)
  exact (congrArg (fun n => (List.range (n / 2)).reverse.foldl (fun l i => su lb l i) (l.map r)) (List.length_map r)).trans (key _ _)
theorem hpop_map (l : List A) : hpop lb (l.map r) = (hpop la l).map fun x => (r x.1, x.2.map r) := by
  unfold Mine.hpop
  rw [List.getLast?_map, ← List.map_dropLast]
  cases l.getLast? with
  | none => rfl
  | some last =>
    cases l.dropLast with
    | nil => rfl
    | cons x t => exact congrArg (fun l => some (r x, l)) (su_map r h (last :: t) 0)
theorem pops_map (n : Nat) : ∀ l : List A, pops lb n (l.map r) = mp3 r (pops la n l) := by
  induction n with
  | zero => exact fun l => rfl
  | succ n ih =>
    intro l
    unfold pops
    rw [hpop_map r h]
    cases hpop la l with
    | none => rfl
    | some x => exact congrArg (fun z : List B × List B => (r x.1 :: z.1, z.2)) (ih x.2)
end
noncomputable def hpsA : List (List (Fin 6)) := [[0, 1, 2, 3, 4, 5], [0, 1, 2, 3, 5, 4], [0, 1, 2, 4, 3, 5], [0, 1, 2, 4, 5, 3], [0, 1, 2, 5, 3, 4], [0, 1, 2, 5, 4, 3], [0, 1, 3, 2, 4, 5], [0, 1, 3, 2, 5, 4], [0, 1, 3, 4, 2, 5], [0, 1, 3, 5, 2, 4], [0, 1, 4, 2, 3, 5], [0, 1, 4, 3, 2, 5], [0, 2, 1, 3, 4, 5], [0, 2, 1, 3, 5, 4], [0, 2, 1, 4, 3, 5], [0, 2, 1, 4, 5, 3], [0, 2, 1, 5, 3, 4], [0, 2, 1, 5, 4, 3], [0, 3, 1, 4, 5, 2], [0, 3, 1, 5, 4, 2]]
noncomputable def ltF (x y : Fin 6) : Bool := Nat.blt x.1 y.1
theorem popsA : hpsA.all (fun h => pops ltF 6 h == ([0, 1, 2, 3, 4, 5], [])) = true := by decide +kernel
noncomputable def fin6 : List (Fin 6) := [0, 1, 2, 3, 4, 5]
theorem mem6 : ∀ a : Fin 6, fin6.contains a = true := by decide
noncomputable def in6 (l : List (Fin 6)) : Bool := hpsA.contains (hpf ltF l)
noncomputable def all6b : Nat → List (Fin 6) → Bool
  | 0, acc => in6 acc
  | n + 1, acc => fin6.all fun a => acc.contains a || all6b n (a :: acc)
theorem all6_of (n : Nat) : ∀ acc l : List (Fin 6), all6b n acc = true → l.length = n → (l.reverse ++ acc).Nodup → in6 (l.reverse ++ acc) = true := by
  induction n with
  | zero =>
    intro acc l h hl hn
    cases l with
    | nil => exact h
    | cons a r => exact nomatch hl
  | succ n ih =>
    intro acc l h hl hn
    cases l with
    | nil => exact nomatch hl
    | cons a r =>
      rw [List.reverse_cons, List.append_assoc] at hn ⊢
      have h1 := List.all_eq_true.mp h a (List.contains_iff_mem.mp (mem6 a))
      have h2 : acc.contains a = false := Bool.eq_false_iff.mpr fun e => (List.nodup_cons.mp (List.nodup_append.mp hn).2.1).1 (List.contains_iff_mem.mp e)
      rw [h2] at h1
      exact ih (a :: acc) r h1 (Nat.succ.inj hl) hn
theorem all6_0 : all6b 5 [0] = true := by decide +kernel
theorem all6_1 : all6b 5 [1] = true := by decide +kernel
theorem all6_2 : all6b 5 [2] = true := by decide +kernel
theorem all6_3 : all6b 5 [3] = true := by decide +kernel
theorem all6_4 : all6b 5 [4] = true := by decide +kernel
theorem all6_5 : all6b 5 [5] = true := by decide +kernel
theorem all6_s (n : Nat) (acc : List (Fin 6)) : all6b (n + 1) acc = fin6.all fun a => acc.contains a || all6b n (a :: acc) := rfl
theorem all6_6 : all6b 6 [] = true :=
  have k : ∀ {a : Fin 6}, all6b 5 [a] = true → (([] : List (Fin 6)).contains a || all6b 5 [a]) = true := fun h => (Bool.false_or _).trans h
  (all6_s 5 []).trans (List.all_eq_true.mpr (List.forall_mem_cons.mpr ⟨k all6_0, List.forall_mem_cons.mpr ⟨k all6_1, List.forall_mem_cons.mpr ⟨k all6_2, List.forall_mem_cons.mpr ⟨k all6_3, List.forall_mem_cons.mpr ⟨k all6_4, List.forall_mem_cons.mpr ⟨k all6_5, fun _ h => nomatch h⟩⟩⟩⟩⟩⟩))
theorem all6 {l : List (Fin 6)} (hl : l.length = 6) (hn : l.Nodup) : pops ltF 6 (hpf ltF l) = ([0, 1, 2, 3, 4, 5], []) := by
  have h := all6_of 6 [] l.reverse all6_6 (List.length_reverse.trans hl) (by rw [List.reverse_reverse, List.append_nil]; exact hn)
  rw [List.reverse_reverse, List.append_nil] at h
  exact eq_of_beq (List.all_eq_true.mp popsA _ (List.contains_iff_mem.mp h))
end Mine
end
section
open PySem PySem.W PyProof.Rows
namespace Mine
noncomputable def Lex (a b : Int) (P : Prop) : Prop := a < b ∨ a = b ∧ P
theorem lex_tr {a b c : Int} {P Q R : Prop} (h : P → Q → R) : Lex a b P → Lex b c Q → Lex a c R := fun h1 h2 =>
  h1.elim (fun h1 => .inl (h2.elim (Int.lt_trans h1) fun h2 => h2.1 ▸ h1)) fun h1 => h2.elim (fun h2 => .inl (h1.1 ▸ h2)) fun h2 => .inr ⟨h1.1.trans h2.1, h h1.2 h2.2⟩
theorem lex_tri {a b : Int} {P E Q : Prop} (h : P ∨ E ∨ Q) : Lex a b P ∨ (a = b ∧ E) ∨ Lex b a Q :=
  (Int.lt_trichotomy a b).elim (fun e => .inl (.inl e)) fun e => e.elim (fun e => h.elim (fun h => .inl (.inr ⟨e, h⟩)) fun h => h.elim (fun h => .inr (.inl ⟨e, h⟩)) fun h => .inr (.inr (.inr ⟨e.symm, h⟩))) fun e => .inr (.inr (.inl e))
theorem lex_irr {a : Int} {P : Prop} (h : ¬ P) : ¬ Lex a a P := fun h1 => h1.elim (Int.lt_irrefl _) fun h1 => h h1.2
theorem lex_iff {a b : Int} {t : Bool} {P : Prop} (h : t = true ↔ P) : (if (a == b) = true then t else decide (a < b)) = true ↔ Lex a b P := by
  cases e : a == b with
  | true => exact ⟨fun g => .inr ⟨eq_of_beq e, h.mp g⟩, fun g => g.elim (fun g => absurd (eq_of_beq e) (Int.ne_of_lt g)) fun g => h.mpr g.2⟩
  | false => exact ⟨fun g => .inl (of_decide_eq_true g), fun g => decide_eq_true (g.resolve_right fun g => beq_eq_false_iff_ne.mp e g.1)⟩
noncomputable def LK (x y : Ky) : Prop := Lex x.1 y.1 (Lex x.2.1 y.2.1 (Lex x.2.2 y.2.2 False))
theorem lt_iff (x y : Ky) : ltK x y = true ↔ LK x y := lex_iff (lex_iff (lex_iff ⟨fun h => (nomatch h), False.elim⟩))
theorem LK_tr {x y z : Ky} : LK x y → LK y z → LK x z := lex_tr (lex_tr (lex_tr fun h _ => h))
theorem LK_irr (x : Ky) : ¬ LK x x := lex_irr (lex_irr (lex_irr id))
theorem LK_tri (x y : Ky) : LK x y ∨ x = y ∨ LK y x :=
  (lex_tri (lex_tri (lex_tri (P := False) (E := True) (Q := False) (.inr (.inl trivial))))).imp_right (Or.imp_left fun h => Prod.ext h.1 (Prod.ext h.2.1 h.2.2.1))
noncomputable def leK (x y : Ky) : Bool := !ltK y x
theorem le_iff {x y : Ky} : leK x y = true ↔ ¬ LK y x := ⟨fun h g => (nomatch h.symm.trans (congrArg not ((lt_iff y x).mpr g))), fun h => congrArg not (Bool.eq_false_iff.mpr fun g => h ((lt_iff y x).mp g))⟩
theorem cons_of {A : Type} {n : Nat} {l : List A} {G : List A → Prop} (h : l.length = n + 1) (k : ∀ a r, r.length = n → G (a :: r)) : G l := by
  cases l with
  | nil => exact nomatch h
  | cons a r => exact k a r (Nat.succ.inj h)
theorem six {A : Type} {l : List A} {G : List A → Prop} (h : l.length = 6) (k : ∀ a b c d e f, G [a, b, c, d, e, f]) : G l :=
  cons_of h fun a r h => cons_of (G := fun r => G (a :: r)) h fun b r h => cons_of (G := fun r => G (a :: b :: r)) h fun c r h => cons_of (G := fun r => G (a :: b :: c :: r)) h fun d r h => cons_of (G := fun r => G (a :: b :: c :: d :: r)) h fun e r h => cons_of (G := fun r => G (a :: b :: c :: d :: e :: r)) h fun f r h => (List.eq_nil_of_length_eq_zero h).symm ▸ k a b c d e f
theorem map_of {A B : Type} (r : A → B) (K : List B) : (∀ k ∈ K, ∃ i, r i = k) → ∃ l : List A, K = l.map r := by
  induction K with
  | nil => exact fun _ => ⟨[], rfl⟩
  | cons k t ih => exact fun h => (h k (List.mem_cons_self ..)).elim fun i hi => (ih fun x hx => h x (List.mem_cons_of_mem _ hx)).elim fun l hl => ⟨i :: l, hi ▸ hl ▸ rfl⟩
theorem heap_of {lt : Ky → Ky → Bool} (irr : ∀ x, lt x x = false) {Q : List Ky} (hw : Q.Pairwise fun x y => lt x y = true ∧ lt y x = false) (hl : Q.length = 6) {K : List Ky} (hp : Q.Perm K) (hn : K.Nodup) : pops lt 6 (hpf lt K) = (Q, []) := by
  have hi : ∀ i : Fin 6, i.1 < Q.length := fun i => hl.symm ▸ i.2
  have hpw := List.pairwise_iff_getElem.mp hw
  have hr : ∀ x y : Fin 6, lt (Q[x.1]'(hi x)) (Q[y.1]'(hi y)) = ltF x y := fun x y => by
    cases e : ltF x y with
    | true => exact (hpw x.1 y.1 _ _ (Nat.ble_eq.mp e)).1
    | false =>
      refine (Nat.lt_or_eq_of_le (Nat.not_lt.mp fun h => nomatch e.symm.trans (Nat.ble_eq.mpr h) : y.1 ≤ x.1)).elim (fun h => (hpw y.1 x.1 (hi y) (hi x) h).2) fun h => ?_
      rw [Fin.ext h]
      exact irr _
  obtain ⟨l, rfl⟩ := map_of (fun i : Fin 6 => Q[i.1]'(hi i)) K fun k hk => by
    obtain ⟨i, h, e⟩ := List.getElem_of_mem (hp.mem_iff.mpr hk)
    exact ⟨⟨i, hl ▸ h⟩, e⟩
  have hQ : [0, 1, 2, 3, 4, 5].map (fun i : Fin 6 => Q[i.1]'(hi i)) = Q := six (G := fun Q => ∀ hi : ∀ i : Fin 6, i.1 < Q.length, [0, 1, 2, 3, 4, 5].map (fun i : Fin 6 => Q[i.1]'(hi i)) = Q) hl (fun _ _ _ _ _ _ _ => rfl) hi
  rw [hpf_map _ hr, pops_map _ hr, all6 ((List.length_map _).symm.trans (hp.length_eq.symm.trans hl)) (List.Pairwise.imp (fun {a b} (h : Q[a.1]'(hi a) ≠ Q[b.1]'(hi b)) (e : a = b) => h (congrArg (fun i : Fin 6 => Q[i.1]'(hi i)) e)) (List.pairwise_map.mp hn))]
  exact congrArg (fun l => (l, [])) hQ
theorem lt_no' {x y : Ky} (h : ¬ LK x y) : ltK x y = false := Bool.eq_false_iff.mpr fun g => h ((lt_iff x y).mp g)
theorem lt_both {x y : Ky} (h : LK x y) : ltK x y = true ∧ ltK y x = false := ⟨(lt_iff x y).mpr h, lt_no' fun g => LK_irr x (LK_tr h g)⟩
theorem heap6 (K : List Ky) (hl : K.length = 6) (hn : K.Nodup) : ∃ Q : List Ky, Q.Perm K ∧ Q.Pairwise LK ∧ pops ltK 6 (hpf ltK K) = (Q, []) ∧ pops gtK 6 (hpf gtK K) = (Q.reverse, []) := by
  have hp : (K.mergeSort leK).Perm K := List.mergeSort_perm ..
  have hs : (K.mergeSort leK).Pairwise (fun a b => leK a b = true) := List.pairwise_mergeSort (le := leK)
    (fun a b c h1 h2 => le_iff.mpr fun g => (LK_tri a b).elim (fun e => le_iff.mp h2 (LK_tr g e)) fun e => e.elim (fun e => le_iff.mp h2 (e ▸ g)) (le_iff.mp h1))
    (fun a b => by
      cases e : leK a b with
      | true => rfl
      | false => exact le_iff.mpr fun g => nomatch e.symm.trans (le_iff.mpr fun g' => LK_irr _ (LK_tr g g'))) K
  have hw : (K.mergeSort leK).Pairwise LK := (hs.and (hp.nodup_iff.mpr hn)).imp fun {a b} h => (LK_tri a b).elim id fun e => e.elim (fun e => absurd e h.2) fun e => absurd e (le_iff.mp h.1)
  exact ⟨_, hp, hw, heap_of (fun x => lt_no' (LK_irr x)) (hw.imp lt_both) (hp.length_eq.trans hl) hp hn, heap_of (lt := gtK) (fun x => lt_no' (LK_irr x)) (List.pairwise_reverse.mpr (hw.imp lt_both)) (List.length_reverse.trans (hp.length_eq.trans hl)) ((List.reverse_perm _).trans hp) hn⟩
end Mine
end
section
open PySem PySem.W PyProof.Rows
namespace Mine
noncomputable def goodB (a b : Sh) : Prop := (0 ≤ b.2 → 0 ≤ a.2 ∧ a.1 ≤ b.1) ∧ (b.2 < 0 → 0 ≤ a.2 ∨ b.1 + b.2 ≤ a.1 + a.2)
noncomputable def feasF : Int → List Sh → Bool
  | _, [] => true
  | d, s :: r => decide (s.1 ≤ d) && feasF (d + s.2) r
noncomputable def netL (l : List Sh) : Int := (l.map (·.2)).sum
theorem runs_feas (l : List Sh) : ∀ d : Int, runsF d l = (feasF d l && (d + netL l == 0)) := by
  induction l with
  | nil => exact fun d => congrArg (fun d : Int => d == 0) (Int.add_zero d).symm
  | cons x r ih =>
    intro d
    have e : decide (x.1 ≤ d) = !decide (d < x.1) := (decide_eq_decide.mpr Int.not_lt.symm).trans decide_not
    show (bif decide (d < x.1) then false else runsF (d + x.2) r) = (decide (x.1 ≤ d) && feasF (d + x.2) r && (d + (x.2 + netL r) == 0))
    rw [e, ih, ← Int.add_assoc]
    cases decide (d < x.1) <;> rfl
theorem feas_app (b a : List Sh) : ∀ d : Int, feasF d (a ++ b) = (feasF d a && feasF (d + netL a) b) := by
  induction a with
  | nil => exact fun d => congrArg (fun d => feasF d b) (Int.add_zero d).symm
  | cons x r ih =>
    intro d
    show (decide (x.1 ≤ d) && feasF (d + x.2) (r ++ b)) = (decide (x.1 ≤ d) && feasF (d + x.2) r && feasF (d + (x.2 + netL r)) b)
    rw [ih, ← Int.add_assoc, Bool.and_assoc]
theorem fe {d : Int} {x : Sh} {r : List Sh} : feasF d (x :: r) = true ↔ x.1 ≤ d ∧ feasF (d + x.2) r = true := Bool.and_eq_true_iff.trans (and_congr decide_eq_true_iff Iff.rfl)
theorem swap_ar {d an ax bn bx : Int} (h1 : bn ≤ d) (h2 : an ≤ d + bx) (g1 : 0 ≤ bx → 0 ≤ ax ∧ an ≤ bn) (g2 : bx < 0 → 0 ≤ ax ∨ bn + bx ≤ an + ax) : an ≤ d ∧ bn ≤ d + ax :=
  (Int.lt_or_le bx 0).elim (fun h => ⟨by omega, (g2 h).elim (fun e => Int.le_trans h1 (Int.le_add_of_nonneg_right e)) fun e => by omega⟩) fun h => ⟨Int.le_trans (g1 h).2 h1, Int.le_trans h1 (Int.le_add_of_nonneg_right (g1 h).1)⟩
theorem swap {a b : Sh} {d : Int} {r : List Sh} (hg : goodB a b) (h : feasF d (b :: a :: r) = true) : feasF d (a :: b :: r) = true :=
  have h1 := fe.mp h
  have h2 := fe.mp h1.2
  have k := swap_ar h1.1 h2.1 hg.1 hg.2
  fe.mpr ⟨k.1, fe.mpr ⟨k.2, Int.add_right_comm d b.2 a.2 ▸ h2.2⟩⟩
theorem bubble {a : Sh} {y : List Sh} (x : List Sh) : ∀ d : Int, (∀ b ∈ x, goodB a b) → feasF d (x ++ a :: y) = true → feasF d (a :: (x ++ y)) = true := by
  induction x with
  | nil => exact fun _ _ h => h
  | cons b x ih => exact fun d hx h => swap (hx b (List.mem_cons_self ..)) (fe.mpr ⟨(fe.mp h).1, ih _ (fun c hc => hx c (List.mem_cons_of_mem _ hc)) (fe.mp h).2⟩)
theorem greedy (l' : List Sh) : ∀ (l : List Sh) (d : Int), l'.Perm l → l'.Pairwise goodB → feasF d l = true → feasF d l' = true := by
  induction l' with
  | nil => exact fun _ _ _ _ _ => rfl
  | cons a r ih =>
    intro l d hp hw h
    obtain ⟨x, y, rfl⟩ := List.append_of_mem (hp.mem_iff.mp (List.mem_cons_self ..))
    have hp' : r.Perm (x ++ y) := (hp.trans List.perm_middle).cons_inv
    have hw' := List.pairwise_cons.mp hw
    have h' := fe.mp (bubble x d (fun b hb => hw'.1 b (hp'.mem_iff.mpr (List.mem_append_left _ hb))) h)
    exact fe.mpr ⟨h'.1, ih _ _ hp' hw'.2 h'.2⟩
theorem sumP {l l' : List Int} (h : l.Perm l') : l.sum = l'.sum := by
  induction h with
  | nil => rfl
  | cons x _ ih => exact congrArg (x + ·) ih
  | swap x y l => exact Int.add_left_comm y x l.sum
  | trans _ _ h1 h2 => exact h1.trans h2
noncomputable def on (s k : Nat) : Bool := s / 2 ^ k % 2 == 1
theorem on_no (s k : Nat) : (s / 2 ^ k % 2 == 0) = !on s k := by
  unfold on
  cases Nat.mod_two_eq_zero_or_one (s / 2 ^ k) with
  | inl e => rw [e]; rfl
  | inr e => rw [e]; rfl
theorem in_free {s k : Nat} : k ∈ freeF s ↔ k < 6 ∧ on s k = false := List.mem_filter.trans (and_congr List.mem_range ((on_no s k).symm ▸ by cases on s k <;> decide))
theorem free_has {s k : Nat} (hk : k < 6) : (!(freeF s).contains k) = on s k := by
  cases e : on s k with
  | true => exact congrArg not (Bool.eq_false_iff.mpr fun g => nomatch (in_free.mp (List.contains_iff_mem.mp g)).2.symm.trans e)
  | false => exact congrArg not (List.contains_iff_mem.mpr (in_free.mpr ⟨hk, e⟩))
theorem bit_add : ∀ s, s < 64 → ∀ a, a < 6 → on s a = false → s + 2 ^ a < 64 ∧ ∀ k, k < 6 → on (s + 2 ^ a) k = (on s k || k == a) := by decide +kernel
theorem all_on : ∀ s, s < 64 → (∀ k, k < 6 → on s k = true) → s = 63 := by decide +kernel
structure IsS (l : List Nat) (s : Nat) : Prop where
  lt : s < 64
  nd : l.Nodup
  mem : ∀ k, k ∈ l ↔ k < 6 ∧ on s k = true
theorem is_nil : IsS [] 0 := ⟨by decide, List.nodup_nil, fun k => ⟨fun h => (nomatch h), fun h => (nomatch (show on 0 k = false from by unfold on; rw [Nat.zero_div]; rfl).symm.trans h.2)⟩⟩
theorem is_add {l : List Nat} {s k : Nat} (h : IsS l s) (hk : k ∈ freeF s) : IsS (l ++ [k]) (s + 2 ^ k) := by
  have hk := in_free.mp hk
  have hb := bit_add s h.lt k hk.1 hk.2
  refine ⟨hb.1, List.nodup_append.mpr ⟨h.nd, List.nodup_cons.mpr ⟨fun h => (nomatch h), List.nodup_nil⟩, fun a ha b hb e => ?_⟩, fun x => ⟨fun hx => ?_, fun hx => ?_⟩⟩
  · exact nomatch hk.2.symm.trans ((h.mem k).mp (List.mem_singleton.mp hb ▸ e ▸ ha)).2
  · refine (List.mem_append.mp hx).elim (fun hx => ?_) fun hx => ?_
    · have g := (h.mem x).mp hx
      exact ⟨g.1, (hb.2 x g.1).trans (by rw [g.2]; rfl)⟩
    · have e := List.mem_singleton.mp hx
      rw [e]
      exact ⟨hk.1, (hb.2 k hk.1).trans (by rw [hk.2, beq_self_eq_true]; rfl)⟩
  · have g := (hb.2 x hx.1).symm.trans hx.2
    exact (Bool.or_eq_true_iff.mp g).elim (fun g => List.mem_append_left _ ((h.mem x).mpr ⟨hx.1, g⟩)) fun g => List.mem_append_right _ (List.mem_singleton.mpr (eq_of_beq g))
section
variable (S : List Sh)
noncomputable def shs (l : List Nat) : List Sh := l.map fun k => S.getD k (0, 0)
theorem dep_is {l : List Nat} {s : Nat} (h : IsS l s) : depF S s = netL (shs S l) := by
  have hp : ((List.range 6).filter fun k => !((freeF s).contains k)).Perm l := (List.perm_ext_iff_of_nodup (List.Pairwise.filter _ List.nodup_range) h.nd).mpr fun k => (List.mem_filter.trans ⟨fun g => ⟨List.mem_range.mp g.1, (free_has (List.mem_range.mp g.1)).symm.trans g.2⟩, fun g => ⟨List.mem_range.mpr g.1, (free_has g.1).trans g.2⟩⟩).trans (h.mem k).symm
  exact (sumP (hp.map _)).trans (congrArg List.sum List.map_map.symm)
theorem feas_end {l : List Nat} {s k : Nat} (h : IsS l s) (r : List Nat) : feasF 0 (shs S (l ++ k :: r)) = (feasF 0 (shs S l) && (decide (needK S k ≤ depF S s) && feasF (depF S s + netK S k) (shs S r))) := by
  unfold shs
  rw [List.map_append, feas_app, Int.zero_add, dep_is S h]; rfl
noncomputable def Reach (s : Nat) : Prop := ∃ l : List Nat, IsS l s ∧ feasF 0 (shs S l) = true
noncomputable def Has (T : List Bool) (s : Nat) : Prop := T[s]? = some true
theorem has_of {T : List Bool} {s : Nat} (h : T.getD s false = true) : Has T s := by
  rw [List.getD_eq_getElem?_getD] at h
  unfold Has
  cases e : T[s]? with
  | none => rw [e] at h; exact nomatch h
  | some b => rw [e] at h; exact congrArg some h
theorem Has.getD {T : List Bool} {s : Nat} (h : Has T s) : T.getD s false = true := (List.getD_eq_getElem?_getD ..).trans (congrArg (fun o : Option Bool => o.getD false) h)
theorem put_inv {ch : Nat} {dep : Int} {T : List Bool} {k s : Nat} (h : Has (putF S ch dep T k) s) : Has T s ∨ (needK S k ≤ dep ∧ s = ch + 2 ^ k) := by
  unfold putF at h
  cases e : decide (needK S k ≤ dep) with
  | false => rw [e] at h; exact .inl h
  | true =>
    rw [e] at h
    by_cases hs : ch + 2 ^ k = s
    · exact .inr ⟨of_decide_eq_true e, hs.symm⟩
    · exact .inl ((List.getElem?_set_ne hs).symm.trans h)
theorem put_mono {ch : Nat} {dep : Int} {T : List Bool} {k s : Nat} (h : Has T s) : Has (putF S ch dep T k) s := by
  unfold putF
  cases decide (needK S k ≤ dep) with
  | false => exact h
  | true =>
    by_cases hs : ch + 2 ^ k = s
    · exact hs ▸ List.getElem?_set_self (hs ▸ at_lt h)
    · exact (List.getElem?_set_ne hs).trans h
theorem fold_inv {ch : Nat} {dep : Int} {G : Nat → Prop} (ks : List Nat) : ∀ T : List Bool, (∀ s, Has T s → G s) → (∀ k ∈ ks, needK S k ≤ dep → G (ch + 2 ^ k)) → ∀ s, Has (ks.foldl (putF S ch dep) T) s → G s := by
  induction ks with
  | nil => exact fun T h _ => h
  | cons k r ih => exact fun T h hk => ih _ (fun s hs => (put_inv S hs).elim (h s) fun e => e.2 ▸ hk k (List.mem_cons_self ..) e.1) fun x hx => hk x (List.mem_cons_of_mem _ hx)
theorem fold_mono {ch : Nat} {dep : Int} (s : Nat) (ks : List Nat) : ∀ T : List Bool, Has T s → Has (ks.foldl (putF S ch dep) T) s := by
  induction ks with
  | nil => exact fun T h => h
  | cons k r ih => exact fun T h => ih _ (put_mono S h)
theorem fold_hit {ch : Nat} {dep : Int} {k : Nat} (hp : needK S k ≤ dep) (ks : List Nat) : ∀ T : List Bool, k ∈ ks → ch + 2 ^ k < T.length → Has (ks.foldl (putF S ch dep) T) (ch + 2 ^ k) := by
  induction ks with
  | nil => exact fun T h _ => (nomatch h)
  | cons j r ih =>
    intro T h hl
    refine (List.mem_cons.mp h).elim (fun e => fold_mono S _ r _ ?_) fun h => ih _ h ((put_len dep T j).symm ▸ hl)
    rw [← e]
    unfold putF
    rw [decide_eq_true hp]
    exact List.getElem?_set_self hl
theorem step_inv {ch : Nat} {T : List Bool} (h : ∀ s, Has T s → Reach S s) : ∀ s, Has (stepF S ch T) s → Reach S s := by
  unfold stepF
  cases e : T.getD ch false with
  | false => exact h
  | true =>
    obtain ⟨l, hi, hf⟩ := h ch (has_of e)
    exact fold_inv S (freeF ch) T h fun k hk hp => ⟨l ++ [k], is_add hi hk, (feas_end S hi []).trans (by rw [hf, decide_eq_true hp]; rfl)⟩
theorem step_mono {ch : Nat} {T : List Bool} {s : Nat} (h : Has T s) : Has (stepF S ch T) s := by
  unfold stepF
  cases T.getD ch false with
  | false => exact h
  | true => exact fold_mono S s _ T h
noncomputable def Tn (n : Nat) : List Bool := (List.range n).foldl (fun T ch => stepF S ch T) (true :: List.replicate 63 false)
theorem Tn_succ (n : Nat) : Tn S (n + 1) = stepF S n (Tn S n) := by
  unfold Tn
  rw [List.range_succ, List.foldl_append]; rfl
theorem Tn_inv (n : Nat) : ∀ s, Has (Tn S n) s → Reach S s := by
  induction n with
  | zero =>
    intro s h
    cases s with
    | zero => exact ⟨[], is_nil, rfl⟩
    | succ s => exact nomatch (List.mem_replicate.mp (List.mem_of_getElem? (show (List.replicate 63 false)[s]? = some true from h))).2
  | succ n ih => rw [Tn_succ]; exact step_inv S ih
theorem Tn_mono {n s : Nat} (h : Has (Tn S n) s) (j : Nat) : Has (Tn S (n + j)) s := by
  induction j with
  | zero => exact h
  | succ j ih => exact (Tn_succ S (n + j)).symm ▸ step_mono S ih
theorem sound (h : (tabF S).getD 63 false = true) : ∃ l : List Nat, l.Perm (List.range 6) ∧ feasF 0 (shs S l) = true := by
  obtain ⟨l, hi, hf⟩ := Tn_inv S 64 63 (has_of h)
  exact ⟨l, (List.perm_ext_iff_of_nodup hi.nd List.nodup_range).mpr fun k => (hi.mem k).trans ⟨fun h => List.mem_range.mpr h.1, fun h => have h := List.mem_range.mp h; ⟨h, (by decide : ∀ k, k < 6 → on 63 k = true) k h⟩⟩, hf⟩
theorem complete (suf : List Nat) : ∀ (pre : List Nat) (s : Nat), IsS pre s → Has (Tn S s) s → (pre ++ suf).Nodup → (∀ k ∈ suf, k < 6) → feasF 0 (shs S (pre ++ suf)) = true → ∃ t, IsS (pre ++ suf) t ∧ Has (Tn S t) t := by
  induction suf with
  | nil => exact fun pre s hi ht _ _ _ => ⟨s, (List.append_nil pre).symm ▸ hi, ht⟩
  | cons k r ih =>
    intro pre s hi ht hn h6 hf
    have hk : k ∈ freeF s := in_free.mpr ⟨h6 k (List.mem_cons_self ..), Bool.eq_false_iff.mpr fun e => (List.nodup_append.mp hn).2.2 k ((hi.mem k).mpr ⟨h6 k (List.mem_cons_self ..), e⟩) k (List.mem_cons_self ..) rfl⟩
    have hi' := is_add hi hk
    have h1 := an (an ((feas_end S hi r).symm.trans hf)).2
    have h2 : Has (Tn S (s + 1)) (s + 2 ^ k) := by
      rw [Tn_succ]
      unfold stepF
      rw [ht.getD]
      exact fold_hit S (of_decide_eq_true h1.1) (freeF s) _ hk (((steps_len S (List.range s) _).trans t0_len).symm ▸ hi'.lt)
    have h3 := Tn_mono S h2 (2 ^ k - 1)
    rw [Nat.add_assoc, Nat.add_sub_cancel' (Nat.pow_pos (by decide))] at h3
    have e : pre ++ k :: r = (pre ++ [k]) ++ r := (List.append_assoc pre [k] r).symm
    rw [e] at hn hf ⊢
    exact ih (pre ++ [k]) _ hi' h3 hn (fun x hx => h6 x (List.mem_cons_of_mem _ hx)) hf
theorem some_runs {turn : List Nat} (hS : S.length = 6) (hp : turn.Perm (List.range 6)) (hg : (shs S turn).Pairwise goodB) : someF S = runsF 0 (shs S turn) := by
  have hshs : shs S (List.range 6) = S := six (G := fun S => shs S (List.range 6) = S) hS fun _ _ _ _ _ _ => rfl
  have hnet : netL (shs S turn) = netL S := (sumP ((hp.map fun k => S.getD k (0, 0)).map fun x : Sh => x.2)).trans (congrArg netL hshs)
  have hf : (tabF S).getD 63 false = feasF 0 (shs S turn) := Bool.eq_iff_iff.mpr ⟨fun h => (sound S h).elim fun l h => greedy _ (shs S l) 0 ((hp.trans h.1.symm).map _) hg h.2, fun h => by
    have h6 : ∀ k ∈ turn, k < 6 := fun k hk => List.mem_range.mp (hp.mem_iff.mp hk)
    obtain ⟨t, hi, ht⟩ := complete S turn [] 0 is_nil rfl (hp.nodup_iff.mpr List.nodup_range) h6 h
    rw [all_on t hi.lt fun k hk => ((hi.mem k).mp (hp.mem_iff.mpr (List.mem_range.mpr hk))).2] at ht
    exact (Tn_mono S ht 1).getD⟩
  rw [runs_feas, Int.zero_add, hnet, ← hf]; rfl
end
end Mine
end
section
open PySem PySem.W PyProof.Rows
namespace Mine
theorem lex_le {a b : Int} {P : Prop} (h : Lex a b P) : a ≤ b := h.elim Int.le_of_lt fun h => Int.le_of_eq h.1
theorem lex_in {a : Int} {P : Prop} (h : Lex a a P) : P := h.elim (fun h => absurd h (Int.lt_irrefl a)) (·.2)
theorem key_idx (k : Nat) (x : Sh) : (keyF k x).2.2 = (k : Int) := by
  unfold keyF
  cases decide (0 ≤ x.2) <;> rfl
theorem good_key {a b : Sh} {i j : Nat} (h : LK (keyF j b) (keyF i a)) : goodB a b := by
  unfold keyF at h
  cases hb : decide (0 ≤ b.2) with
  | true =>
    have hb' : 0 ≤ b.2 := of_decide_eq_true hb
    rw [hb] at h
    refine ⟨fun _ => ?_, fun g => absurd hb' (Int.not_le.mpr g)⟩
    cases ha : decide (0 ≤ a.2) with
    | true => rw [ha] at h; exact ⟨of_decide_eq_true ha, Int.le_of_neg_le_neg (lex_le (lex_in h))⟩
    | false => rw [ha] at h; exact absurd (lex_le h : (1 : Int) ≤ 0) (by decide)
  | false =>
    rw [hb] at h
    refine ⟨fun g => absurd g (of_decide_eq_false hb), fun _ => ?_⟩
    cases ha : decide (0 ≤ a.2) with
    | true => exact .inl (of_decide_eq_true ha)
    | false => rw [ha] at h; exact .inr (lex_le (lex_in h))
noncomputable def keyS (S : List Sh) (i : Nat) : Ky := keyF i (S.getD i (0, 0))
theorem keys_is {S : List Sh} (hS : S.length = 6) : keysF 0 S = (List.range 6).map (keyS S) := six (G := fun S => keysF 0 S = (List.range 6).map (keyS S)) hS fun _ _ _ _ _ _ => rfl
theorem map_idx (S : List Sh) (l : List Nat) : (l.map (keyS S)).map (fun x => x.2.2.toNat) = l := by
  rw [List.map_map]
  exact (List.map_congr_left fun i _ => congrArg Int.toNat (key_idx i (S.getD i (0, 0)))).trans (List.map_id l)
theorem turn_of (S : List Sh) (hS : S.length = 6) : ∃ (P Q : List Ky) (turn : List Nat), pops gtK (keysF 0 S).length (hpf gtK (keysF 0 S)) = (P, []) ∧ pops ltK (keysF 0 S).length (hpf ltK (keysF 0 S)) = (Q, []) ∧ P = Q.reverse ∧ third P = turn.map natD ∧ turn.Perm (List.range 6) ∧ (shs S turn).Pairwise goodB := by
  rw [keys_is hS]
  have hl : ((List.range 6).map (keyS S)).length = 6 := (List.length_map _).trans List.length_range
  have hn : ((List.range 6).map (keyS S)).Nodup := List.pairwise_map.mpr (List.Pairwise.imp (fun {i j} (h : i ≠ j) e => h (Int.ofNat_inj.mp ((key_idx i (S.getD i (0, 0))).symm.trans ((congrArg (fun x : Ky => x.2.2) e).trans (key_idx j (S.getD j (0, 0))))))) (List.nodup_range (n := 6)))
  obtain ⟨Q, hp, hw, h1, h2⟩ := heap6 _ hl hn
  obtain ⟨l, rfl⟩ := map_of (keyS S) Q fun x hx => (List.mem_map.mp (hp.mem_iff.mp hx)).elim fun i h => ⟨i, h.2⟩
  have hpl : l.Perm (List.range 6) := by
    have h := hp.map fun x : Ky => x.2.2.toNat
    rw [map_idx, map_idx] at h
    exact h
  rw [hl]
  refine ⟨_, _, l.reverse, h2, h1, rfl, ?_, (List.reverse_perm l).trans hpl, ?_⟩
  · rw [List.map_reverse.symm]
    unfold third
    rw [List.map_map]
    exact List.map_congr_left fun i _ => congrArg D.int (key_idx i (S.getD i (0, 0)))
  · exact List.pairwise_map.mpr (List.pairwise_reverse.mpr ((List.pairwise_map.mp hw).imp good_key))
theorem sort_turn {turn : List Nat} (hp : turn.Perm (List.range 6)) : (turn.map fun (k : Nat) => (k : Int)).mergeSort (· ≤ ·) = [0, 1, 2, 3, 4, 5] :=
  List.Perm.eq_of_pairwise (le := fun a b : Int => a ≤ b) (fun a b _ _ h1 h2 => Int.le_antisymm h1 h2)
    ((List.pairwise_mergeSort (le := fun a b : Int => decide (a ≤ b)) (fun a b c h1 h2 => decide_eq_true (Int.le_trans (of_decide_eq_true h1) (of_decide_eq_true h2))) (fun a b => (Int.le_total a b).elim (fun h => Bool.or_eq_true_iff.mpr (.inl (decide_eq_true h))) fun h => Bool.or_eq_true_iff.mpr (.inr (decide_eq_true h))) (turn.map fun (k : Nat) => (k : Int))).imp of_decide_eq_true)
    (by decide) ((List.mergeSort_perm ..).trans (hp.map fun (k : Nat) => (k : Int)))
end Mine
end
section
open PySem PySem.W PyProof.Rows
namespace Mine
noncomputable def okA (a : List Nat) : Prop := (∃ k, (k ≠ 92 ∧ k ≠ 34) ∧ a = [k]) ∨ a = [92, 40] ∨ a = [92, 90]
noncomputable def okL (A : List (List Nat)) : Prop := ∀ a ∈ A, okA a
noncomputable def sgA (a : List Nat) : Int := bif a == [40] then 1 else bif a == [41] then -1 else 0
noncomputable def lowA : List (List Nat) → Int
  | [] => 0
  | a :: r => min 0 (sgA a + lowA r)
noncomputable def netA : List (List Nat) → Int
  | [] => 0
  | a :: r => sgA a + netA r
noncomputable def shA (A : List (List Nat)) : Sh := (-(lowA A), netA A)
theorem le_add0 {d x : Int} (h : x ≤ 0) : d + x ≤ d := Int.le_trans (Int.add_le_add_left h d) (Int.le_of_eq (Int.add_zero d))
theorem low_0 (A : List (List Nat)) : lowA A ≤ 0 := by
  cases A with
  | nil => exact Int.le_refl 0
  | cons a r => exact Int.min_le_left ..
theorem low_net (A : List (List Nat)) : lowA A ≤ netA A := by
  induction A with
  | nil => exact Int.le_refl 0
  | cons a r ih => exact Int.le_trans (Int.min_le_right ..) (Int.add_le_add_left ih (sgA a))
theorem okL.tail {a : List Nat} {A : List (List Nat)} (h : okL (a :: A)) : okL A := fun x hx => h x (List.mem_cons_of_mem _ hx)
theorem okL_app {A B : List (List Nat)} (h1 : okL A) (h2 : okL B) : okL (A ++ B) := List.forall_mem_append.mpr ⟨h1, h2⟩
theorem okL_one {a : List Nat} (h : okA a) : okL [a] := List.forall_mem_cons.mpr ⟨h, fun _ h => nomatch h⟩
theorem okL_ind {P : List (List Nat) → Prop} (h0 : P []) (h1 : ∀ k r, k ≠ 92 → k ≠ 34 → P r → P ([k] :: r)) (h2 : ∀ r, P r → P ([92, 40] :: r)) (h3 : ∀ r, P r → P ([92, 90] :: r)) (A : List (List Nat)) (h : okL A) : P A := by
  induction A with
  | nil => exact h0
  | cons a r ih => exact (h a (List.mem_cons_self ..)).elim (fun ⟨k, g, e⟩ => e ▸ h1 k r g.1 g.2 (ih h.tail)) fun g => g.elim (fun e => e ▸ h2 r (ih h.tail)) fun e => e ▸ h3 r (ih h.tail)
theorem esc_one {p k : Nat} {r : List Nat} (h : k ≠ 92) : esc p (k :: r) = (p, [k]) :: esc (p + 1) r := by
  cases r with
  | nil => rfl
  | cons l r => exact if_neg h
theorem esc_atoms {A : List (List Nat)} (h : okL A) : ∀ p : Nat, (esc p A.flatten).map (·.2) = A :=
  okL_ind (P := fun A => ∀ p : Nat, (esc p A.flatten).map (·.2) = A) (fun _ => rfl)
    (fun k r h _ ih p => (congrArg (List.map (·.2)) (esc_one (p := p) (r := r.flatten) h)).trans (congrArg ([k] :: ·) (ih (p + 1))))
    (fun r ih p => congrArg ([92, 40] :: ·) (ih (p + 2))) (fun r ih p => congrArg ([92, 90] :: ·) (ih (p + 2))) A h
theorem rep_end (r : List Nat) : rep (92 :: 90 :: r) = 92 :: 90 :: rep r := (rep_miss (k := 92) (r := 90 :: r) fun e => absurd (Option.some.inj e.2 : 90 = 40) (by decide)).trans (congrArg (92 :: ·) (rep_miss (k := 90) fun e => absurd e.1 (by decide)))
theorem rep_len {A : List (List Nat)} (h : okL A) : (rep A.flatten).length ≤ A.flatten.length :=
  okL_ind (P := fun A => (rep A.flatten).length ≤ A.flatten.length) (Nat.zero_le _)
    (fun k r h _ ih => (rep_miss (r := r.flatten) (fun e => h e.1) : rep (List.flatten ([k] :: r)) = _) ▸ Nat.succ_le_succ ih)
    (fun r ih => (rep_hit r.flatten : rep (List.flatten ([92, 40] :: r)) = _) ▸ Nat.le_trans ih (Nat.le_add_right _ 2))
    (fun r ih => (rep_end r.flatten : rep (List.flatten ([92, 90] :: r)) = _) ▸ Nat.succ_le_succ (Nat.succ_le_succ ih)) A h
theorem no_quote {A : List (List Nat)} (h : okL A) : 34 ∉ A.flatten :=
  okL_ind (P := fun A => 34 ∉ A.flatten) (fun h => nomatch h) (fun k r _ h ih g => (List.mem_cons.mp g).elim (fun e => h e.symm) ih)
    (fun r ih g => (List.mem_append (s := [92, 40]).mp g).elim (by decide) ih) (fun r ih g => (List.mem_append (s := [92, 90]).mp g).elim (by decide) ih) A h
theorem mn {x y : Int} : (if x < y then x else y) = min y x := by
  by_cases h : x < y
  · rw [if_pos h, Int.min_eq_right (Int.le_of_lt h)]
  · rw [if_neg h, Int.min_eq_left (Int.not_lt.mp h)]
theorem add_min (d x : Int) : d + min 0 x = min d (d + x) := by
  cases Int.le_total 0 x with
  | inl h => rw [Int.min_eq_left h, Int.add_zero, Int.min_eq_left (Int.le_add_of_nonneg_right h)]
  | inr h => rw [Int.min_eq_right h, Int.min_eq_right (le_add0 h)]
theorem shp_one {lo d : Int} {k : Nat} {r : List Nat} {A : List (List Nat)} (h : lo ≤ d) (ih : ∀ lo d : Int, lo ≤ d → shpF lo d r = (min lo (d + lowA A), d + netA A)) : shpF lo d (k :: r) = (min lo (d + lowA ([k] :: A)), d + netA ([k] :: A)) := by
  show shpF (if d + sgA [k] < lo then d + sgA [k] else lo) (d + sgA [k]) r = (min lo (d + min 0 (sgA [k] + lowA A)), d + (sgA [k] + netA A))
  generalize sgA [k] = s
  have h2 : d + s + lowA A ≤ d + s := le_add0 (low_0 A)
  rw [mn, ih _ _ (Int.min_le_right lo _), add_min, ← Int.add_assoc, ← Int.add_assoc, Int.min_assoc, Int.min_eq_right h2, ← Int.min_assoc lo d, Int.min_eq_left h]
theorem low_nil {a : List Nat} {A : List (List Nat)} (h : sgA a = 0) : lowA (a :: A) = lowA A ∧ netA (a :: A) = netA A := by
  show min 0 (sgA a + lowA A) = lowA A ∧ sgA a + netA A = netA A
  rw [h, Int.zero_add, Int.zero_add]
  exact ⟨Int.min_eq_right (low_0 A), rfl⟩
theorem shp_atoms {A : List (List Nat)} (h : okL A) : ∀ lo d : Int, lo ≤ d → shpF lo d (rep A.flatten) = (min lo (d + lowA A), d + netA A) :=
  okL_ind (P := fun A => ∀ lo d : Int, lo ≤ d → shpF lo d (rep A.flatten) = (min lo (d + lowA A), d + netA A))
    (fun lo d h => Prod.ext (by rw [show lowA [] = 0 from rfl, Int.add_zero, Int.min_eq_left h]; rfl) (Int.add_zero d).symm)
    (fun k r h _ ih lo d g => (congrArg (shpF lo d) (rep_miss (r := r.flatten) fun e => h e.1)).trans (shp_one g ih))
    (fun r ih lo d g => by
      rw [(low_nil (a := [92, 40]) (A := r) rfl).1, (low_nil (a := [92, 40]) (A := r) rfl).2]
      exact (congrArg (shpF lo d) (rep_hit r.flatten)).trans (ih lo d g))
    (fun r ih lo d g => by
      have h2 := shp_one (k := 92) g fun lo d g => shp_one (k := 90) g ih
      rw [(low_nil (a := [92]) rfl).1, (low_nil (a := [92]) rfl).2, (low_nil (a := [90]) rfl).1, (low_nil (a := [90]) rfl).2] at h2
      rw [(low_nil (a := [92, 90]) (A := r) rfl).1, (low_nil (a := [92, 90]) (A := r) rfl).2]
      exact (congrArg (shpF lo d) (rep_end r.flatten)).trans h2) A h
theorem shape_atoms {A : List (List Nat)} (h : okL A) : shapeF A.flatten = shA A := by
  unfold shapeF shA
  rw [shp_atoms h 0 0 (Int.le_refl _), Int.zero_add, Int.zero_add, Int.min_eq_right (low_0 A)]
theorem chk_cons {d : Int} (hd : 0 ≤ d) (a : List Nat) (r : List (List Nat)) : chkF' d (a :: r) = bif decide (d + sgA a < 0) then false else chkF' (d + sgA a) r := by
  show (bif a == [40] then chkF' (d + 1) r else bif a == [41] then bif decide (d - 1 < 0) then false else chkF' (d - 1) r else chkF' d r) = _
  unfold sgA
  cases a == [40] with
  | true => rw [show decide (d + (bif true then 1 else bif a == [41] then -1 else 0) < 0) = false from decide_eq_false (Int.not_lt.mpr (Int.le_trans hd (Int.le_add_of_nonneg_right (by decide : (0 : Int) ≤ 1))))]; rfl
  | false => cases a == [41] with
    | true => rfl
    | false =>
      show chkF' d r = bif decide (d + 0 < 0) then false else chkF' (d + 0) r
      rw [Int.add_zero, decide_eq_false (Int.not_lt.mpr hd)]; rfl
theorem chk_app (B A : List (List Nat)) : ∀ d : Int, 0 ≤ d → chkF' d (A ++ B) = bif decide (d + lowA A < 0) then false else chkF' (d + netA A) B := by
  induction A with
  | nil =>
    intro d hd
    show chkF' d B = bif decide (d + 0 < 0) then false else chkF' (d + 0) B
    rw [Int.add_zero, decide_eq_false (Int.not_lt.mpr hd)]; rfl
  | cons a r ih =>
    intro d hd
    refine (chk_cons hd a (r ++ B)).trans ?_
    show _ = bif decide (d + min 0 (sgA a + lowA r) < 0) then false else chkF' (d + (sgA a + netA r)) B
    rw [add_min, ← Int.add_assoc, ← Int.add_assoc]
    cases h : decide (d + sgA a < 0) with
    | true => rw [decide_eq_true (Int.lt_of_le_of_lt (Int.min_le_right ..) (Int.lt_of_le_of_lt (le_add0 (low_0 r)) (of_decide_eq_true h)))]; rfl
    | false =>
      refine (ih _ (Int.not_lt.mp (of_decide_eq_false h))).trans (congrArg (fun b => bif b then false else chkF' (d + sgA a + netA r) B) (decide_eq_decide.mpr ?_))
      cases Int.le_total d (d + sgA a + lowA r) with
      | inl g => rw [Int.min_eq_left g]; exact ⟨fun e => absurd (Int.le_trans hd g) (Int.not_le.mpr e), fun e => absurd hd (Int.not_le.mpr e)⟩
      | inr g => rw [Int.min_eq_right g]
theorem sh_lt (A : List (List Nat)) (d : Int) : decide (d < (shA A).1) = decide (d + lowA A < 0) := decide_eq_decide.mpr ⟨fun h => Int.add_lt_of_lt_sub_right (Int.lt_of_lt_of_le h (Int.le_of_eq (Int.zero_sub _).symm)), fun h => Int.lt_of_lt_of_le (Int.lt_sub_right_of_add_lt h) (Int.le_of_eq (Int.zero_sub _))⟩
noncomputable def jA : List (List (List Nat)) → List (List Nat)
  | [] => []
  | A :: r => match r with
    | [] => A
    | B :: r => A ++ [124] :: jA (B :: r)
theorem jA_flat (l : List (List (List Nat))) : jn (l.map List.flatten) = (jA l).flatten := by
  induction l with
  | nil => rfl
  | cons A r ih =>
    cases r with
    | nil => rfl
    | cons B r => exact (congrArg (fun t => A.flatten ++ 124 :: t) ih).trans (List.flatten_append (L₁ := A) (L₂ := [124] :: jA (B :: r))).symm
theorem jA_ok (l : List (List (List Nat))) : (∀ A ∈ l, okL A) → okL (jA l) := by
  induction l with
  | nil => exact fun _ _ h => nomatch h
  | cons A r ih =>
    intro h
    have h1 := List.forall_mem_cons.mp h
    cases r with
    | nil => exact h1.1
    | cons B r => exact okL_app h1.1 (List.forall_mem_cons.mpr ⟨.inl ⟨124, by decide, rfl⟩, ih h1.2⟩)
theorem chk_jA (l : List (List (List Nat))) : ∀ d : Int, 0 ≤ d → chkF' d (jA l) = runsF d (l.map shA) := by
  induction l with
  | nil => exact fun _ _ => rfl
  | cons A r ih =>
    intro d hd
    show _ = bif decide (d < (shA A).1) then false else runsF (d + netA A) (r.map shA)
    rw [sh_lt]
    cases r with
    | nil => exact (congrArg (chkF' d) (List.append_nil A).symm).trans (chk_app [] A d hd)
    | cons B r =>
      refine (chk_app ([124] :: jA (B :: r)) A d hd).trans ?_
      cases h : decide (d + lowA A < 0) with
      | true => rfl
      | false => exact ih _ (Int.le_trans (Int.not_lt.mp (of_decide_eq_false h)) (Int.add_le_add_left (low_net A) d))
theorem chk_one {A : List (List Nat)} : chkF' 0 A = ((shA A).1 == 0 && (shA A).2 == 0) := by
  refine (chk_jA [A] 0 (Int.le_refl _)).trans ?_
  show (bif decide (0 < (shA A).1) then false else (0 + netA A == 0)) = ((shA A).1 == 0 && netA A == 0)
  rw [Int.zero_add]
  have h0 : 0 ≤ (shA A).1 := Int.neg_nonneg_of_nonpos (low_0 A)
  cases h : decide (0 < (shA A).1) with
  | true => rw [beq_eq_false_iff_ne.mpr (Int.ne_of_gt (of_decide_eq_true h))]; rfl
  | false => rw [Int.le_antisymm (Int.not_lt.mp (of_decide_eq_false h)) h0]; rfl
noncomputable def okT (t : List Nat) : Prop := ∃ A, okL A ∧ A.flatten = t
theorem okT_app {s t : List Nat} (h1 : okT s) (h2 : okT t) : okT (s ++ t) := h1.elim fun A a => h2.elim fun B b => ⟨A ++ B, okL_app a.1 b.1, List.flatten_append.trans (by rw [a.2, b.2])⟩
theorem okT_one {a : List Nat} (h : okA a) : okT a := ⟨[a], okL_one h, List.append_nil a⟩
theorem okT_nil : okT [] := ⟨[], (fun _ h => nomatch h), rfl⟩
theorem okT_plain {t : List Nat} (h : (t.all fun k => k != 92 && k != 34) = true) : okT t := by
  induction t with
  | nil => exact okT_nil
  | cons k r ih => exact okT_app (s := [k]) (okT_one (.inl ⟨k, ⟨bne_iff_ne.mp (an (an h).1).1, bne_iff_ne.mp (an (an h).1).2⟩, rfl⟩)) (ih (an h).2)
theorem okT_open : okT [92, 40] := okT_one (.inr (.inl rfl))
theorem okT_end : okT [92, 90] := okT_one (.inr (.inr rfl))
theorem okT_br {w : List Nat} (h : brW w = true) : okT w := okT_plain (List.all_eq_true.mpr fun k hk => ((Bool.or_eq_true _ _).mp (List.all_eq_true.mp h k hk)).elim (fun e => eq_of_beq e ▸ rfl) fun e => eq_of_beq e ▸ rfl)
theorem okT_pw {w : List Nat} (h : brW w = true) : okT (pw w) := by
  unfold pw
  cases w == [] with
  | true => exact okT_open
  | false => exact okT_app (okT_app (s := [91]) (okT_plain rfl) (okT_br h)) (okT_plain rfl)
theorem okT_jt (row : List (List Nat)) : ∀ b b' : Bool, okRow b row = true → okT (jt b' row) := by
  induction row with
  | nil => exact fun _ _ _ => okT_nil
  | cons w r ih =>
    intro b b' h
    replace h : (bif w == [42] then !b && okRow true r else brW w && okRow false r) = true := h
    show okT (bif w == [42] then (bif b' then [41] else []) ++ (bif hasStar r then [40, 63, 62, 46, 42, 63] else [46, 42]) ++ jt true r else pw w ++ jt b' r)
    cases e : w == [42] with
    | true =>
      rw [e] at h
      exact okT_app (okT_app (by cases b' <;> exact okT_plain rfl) (by cases hasStar r <;> exact okT_plain rfl)) (ih _ _ (an h).2)
    | false => rw [e] at h; exact okT_app (okT_pw (an h).1) (ih _ _ (an h).2)
theorem okT_text {row : List (List Nat)} (h : okRow false row = true) : okT (textF row) := by
  rw [textF_jt]
  exact okT_app (okT_app (okT_plain rfl) (okT_jt row _ _ h)) (okT_app (s := [41]) (okT_plain rfl) okT_end)
theorem text_len {row : List (List Nat)} (h : ∀ w ∈ row, w.length ≤ 100) (hl : row.length ≤ 5) : (textF row).length ≤ 557 := by
  rw [textF_jt, len_add3]
  exact Nat.add_le_add_right (Nat.add_le_add_left (Nat.le_trans (jt_len row false h) (Nat.mul_le_mul_right 110 hl)) 4) 3
end Mine
end
section
open PySem PySem.W PyProof.Rows
namespace Mine
theorem wordF_br (f : Nat) : ∀ k : Nat, brW (wordF f k) = true ∧ (wordF f k).length ≤ f := by
  induction f with
  | zero => exact fun k => ⟨rfl, Nat.le_refl _⟩
  | succ f ih =>
    intro k
    cases k with
    | zero => exact ⟨rfl, Nat.zero_le _⟩
    | succ k =>
      refine ⟨?_, Nat.succ_le_succ (ih (k / 2)).2⟩
      show (((if (k + 1) % 2 = 1 then 40 else 41) == 40 || (if (k + 1) % 2 = 1 then 40 else 41) == 41) && brW (wordF f (k / 2))) = true
      rw [(ih (k / 2)).1]
      split <;> rfl
theorem br42 {w : List Nat} (h : brW w = true) : (w == [42]) = false := beq_eq_false_iff_ne.mpr fun e => absurd (e ▸ h : brW [42] = true) (by decide)
theorem net_le (w : List Nat) : -(w.length : Int) ≤ netW w ∧ netW w ≤ w.length := by
  unfold netW
  have h1 := List.count_le_length (a := 40) (l := w)
  have h2 := List.count_le_length (a := 41) (l := w)
  omega
noncomputable def fineR (r : List (List Nat)) : Prop := okRow false r = true ∧ (∀ w ∈ r, w.length ≤ 100) ∧ r.length ≤ 5
theorem rowF_is (n : Int) : rowF n = starB (bitF n 0) ++ wdA n :: (starB (bitF n 1) ++ wdB n :: starB (bitF n 2)) := by
  unfold rowF
  rw [List.append_assoc, List.append_assoc, List.append_assoc]; rfl
theorem ok_w {w : List Nat} (h : brW w = true) (b : Bool) (r : List (List Nat)) : okRow b (w :: r) = okRow false r := by
  show (bif w == [42] then !b && okRow true r else brW w && okRow false r) = _
  rw [br42 h, h]; rfl
theorem ok_star {w : List Nat} (h : brW w = true) (b : Bool) (r : List (List Nat)) : okRow false (starB b ++ w :: r) = okRow false r := by
  cases b with
  | false => exact ok_w h false r
  | true => exact ok_w h true r
theorem star_mem (b : Bool) : ∀ w ∈ starB b, w.length ≤ 100 := by
  cases b with
  | false => exact fun _ h => nomatch h
  | true => exact List.forall_mem_cons.mpr ⟨by decide, fun _ h => nomatch h⟩
theorem row_fine (n : Int) : fineR (rowF n) := by
  refine ⟨?_, ?_, row_le n⟩
  · rw [rowF_is, ok_star (w := wdA n) (wordF_br 5 _).1, ok_star (w := wdB n) (wordF_br 5 _).1]
    cases bitF n 2 <;> rfl
  · rw [rowF_is]
    exact List.forall_mem_append.mpr ⟨star_mem _, List.forall_mem_cons.mpr ⟨Nat.le_trans (wordF_br 5 _).2 (by decide), List.forall_mem_append.mpr ⟨star_mem _, List.forall_mem_cons.mpr ⟨Nat.le_trans (wordF_br 5 _).2 (by decide), star_mem _⟩⟩⟩⟩
theorem star_net (b : Bool) (r : List (List Nat)) : ((starB b ++ r).map netW).sum = (r.map netW).sum := by
  cases b with
  | false => rfl
  | true => exact Int.zero_add _
theorem row_net (n : Int) : ((rowF n).map netW).sum = netW (wdA n) + (netW (wdB n) + 0) := by
  rw [rowF_is, star_net]
  exact congrArg (netW (wdA n) + ·) ((star_net ..).trans (congrArg (netW (wdB n) + ·) (by cases bitF n 2 <;> rfl)))
theorem netR_le (ns : List Int) : -(10 * (ns.length : Int)) ≤ netR (ns.map rowF) ∧ netR (ns.map rowF) ≤ 10 * ns.length := by
  induction ns with
  | nil => exact ⟨by decide, by decide⟩
  | cons n r ih =>
    have e : netR ((n :: r).map rowF) = ((rowF n).map netW).sum + netR (r.map rowF) := (congrArg List.sum List.map_append).trans List.sum_append_int
    rw [e, row_net, List.length_cons]
    have h1 := net_le (wdA n)
    have h2 := net_le (wdB n)
    have l1 : (wdA n).length ≤ 5 := (wordF_br 5 _).2
    have l2 : (wdB n).length ≤ 5 := (wordF_br 5 _).2
    omega
theorem sixth_fine {net more : Int} (h1 : -50 ≤ net) (h2 : net ≤ 50) (h3 : 0 ≤ more) (h4 : more ≤ 1) : fineR [sixthF net more] := by
  have hl : (sixthF net more).length ≤ 100 := by
    unfold sixthF
    rw [List.length_append, List.length_replicate, List.length_replicate]
    split <;> omega
  have hb : brW (sixthF net more) = true := List.all_eq_true.mpr fun k hk => (List.mem_append.mp hk).elim (fun h => congrArg (fun k : Nat => k == 40 || k == 41) (List.mem_replicate.mp h).2) fun h => congrArg (fun k : Nat => k == 40 || k == 41) (List.mem_replicate.mp h).2
  exact ⟨ok_w hb false [], List.forall_mem_cons.mpr ⟨hl, fun _ h => nomatch h⟩, Nat.le_of_ble_eq_true rfl⟩
theorem six_fine {ns : List Int} {more : Int} (hns : ns.length = 5) (hm : 0 ≤ more ∧ more ≤ 1) : ∀ r ∈ sixF ns more, fineR r := by
  have h := netR_le ns
  rw [hns] at h
  exact List.forall_mem_append.mpr ⟨fun r hr => (List.mem_map.mp hr).elim fun n h => h.2 ▸ row_fine n, List.forall_mem_cons.mpr ⟨sixth_fine h.1 h.2 hm.1 hm.2, fun _ h => nomatch h⟩⟩
theorem atoms_of (l : List (List (List Nat))) : (∀ r ∈ l, fineR r) → ∃ As : List (List (List Nat)), (∀ A ∈ As, okL A) ∧ As.map List.flatten = l.map textF := by
  induction l with
  | nil => exact fun _ => ⟨[], (fun _ h => nomatch h), rfl⟩
  | cons r l ih => exact fun h => (okT_text (h r (List.mem_cons_self ..)).1).elim fun A a => (ih fun x hx => h x (List.mem_cons_of_mem _ hx)).elim fun B b => ⟨A :: B, List.forall_mem_cons.mpr ⟨a.1, b.1⟩, by rw [List.map_cons, a.2, b.2]; rfl⟩
theorem fine_len {r : List (List Nat)} (h : fineR r) : (textF r).length ≤ 557 := text_len h.2.1 h.2.2
theorem v11A {A : List (List Nat)} (h : okL A) (hl : A.flatten.length ≤ 10000) : FA 11 [.d (.str A.flatten)] [] = some (.d (.bool (chkF' 0 A)), []) := by
  rw [v11 _ _ (no_quote h) hl, esc_atoms h]
theorem join11 {l : List (List (List Nat))} (h : ∀ r ∈ l, fineR r) (hl : l.length = 6) : FA 11 [.d (.str (jn (l.map textF)))] [] = some (.d (.bool (runsF 0 (l.map fun r => shapeF (textF r)))), []) := by
  obtain ⟨As, h1, h2⟩ := atoms_of l h
  have h3 := jn_len (n := 557) (l.map textF) fun t ht => (List.mem_map.mp ht).elim fun r hr => hr.2 ▸ fine_len (h r hr.1)
  have h4 : (l.map fun r => shapeF (textF r)) = As.map shA := (List.map_map (f := textF) (g := shapeF)).symm.trans (h2 ▸ List.map_map.trans (List.map_congr_left fun A hA => shape_atoms (h1 A hA)))
  rw [List.length_map, hl, ← h2, jA_flat] at h3
  rw [← h2, jA_flat, h4, ← chk_jA As 0 (Int.le_refl _)]
  exact v11A (jA_ok As h1) (Nat.le_trans h3 (by decide))
theorem row11 {r : List (List Nat)} (h : fineR r) : FA 11 [.d (.str (textF r))] [] = some (.d (.bool ((shapeF (textF r)).1 == 0 && (shapeF (textF r)).2 == 0)), []) := by
  obtain ⟨A, a1, a2⟩ := okT_text h.1
  have hl := fine_len h
  rw [← a2] at hl ⊢
  rw [v11A a1 (Nat.le_trans hl (by decide)), shape_atoms a1, chk_one]
theorem row21 {r : List (List Nat)} (h : fineR r) : FA 21 [.d (.str (textF r))] [] = some (.d (shD (shapeF (textF r))), []) := by
  obtain ⟨A, a1, a2⟩ := okT_text h.1
  have hl := Nat.le_trans (fine_len h) (by decide : 557 ≤ 1000)
  exact v21 _ _ hl (Nat.le_trans (a2 ▸ rep_len a1) hl)
theorem getD_map {A B : Type} {f : A → B} {l : List A} {k : Nat} (h : k < l.length) (a : A) (b : B) : (l.map f).getD k b = f (l.getD k a) := by
  rw [List.getD_eq_getElem?_getD, List.getD_eq_getElem?_getD, List.getElem?_map, List.getElem?_eq_getElem h]; rfl
theorem getD_mem {A : Type} {l : List A} {k : Nat} (h : k < l.length) (a : A) : l.getD k a ∈ l := by
  rw [List.getD_eq_getElem?_getD, List.getElem?_eq_getElem h]
  exact List.getElem_mem h
theorem turn11 {l : List (List (List Nat))} (h : ∀ r ∈ l, fineR r) (hl : l.length = 6) {turn : List Nat} (hp : turn.Perm (List.range 6)) : FA 11 [.d (.str (jn (turn.map fun k => (l.map textF).getD k [])))] [] = some (.d (.bool (runsF 0 (shs (l.map fun r => shapeF (textF r)) turn))), []) := by
  have hk : ∀ k ∈ turn, k < l.length := fun k h => hl.symm ▸ List.mem_range.mp (hp.mem_iff.mp h)
  have e := join11 (l := turn.map fun k => l.getD k []) (fun r hr => (List.mem_map.mp hr).elim fun k g => g.2 ▸ h _ (getD_mem (hk k g.1) [])) ((List.length_map _).trans hp.length_eq)
  rw [List.map_map, List.map_map] at e
  unfold shs
  rw [show (turn.map fun k => (l.map textF).getD k []) = turn.map (textF ∘ fun k => l.getD k []) from List.map_congr_left fun k g => getD_map (hk k g) [] [],
    show (turn.map fun k => (l.map fun r => shapeF (textF r)).getD k (0, 0)) = turn.map ((fun r => shapeF (textF r)) ∘ fun k => l.getD k []) from List.map_congr_left fun k g => getD_map (hk k g) [] (0, 0)]
  exact e
theorem answer (script ns : List Int) (more : Int) (e1 : ns = ((script.take 5) ++ [48, 3768, 527, 16, 3834]).take 5) (e2 : more = if Int.fmod script.sum 4 = 3 then 1 else 0) (hns : ns.length = 5) (hm : 0 ≤ more ∧ more ≤ 1) : exFn FA rnk 1000 (129 + 20) fn27 [.d (.list (script.map .int))] [] = some (.d (.bool true), []) := by
  have hn := netR_le ns
  rw [hns] at hn
  have hf := six_fine hns hm
  have h18 := v18 ns more [] (hns ▸ by decide) ⟨Int.le_trans (by decide) hn.1, Int.le_trans hn.2 (by decide)⟩ hm
  have hl : (sixF ns more).length = 6 := List.length_append.trans (congrArg (· + 1) ((List.length_map _).trans hns))
  generalize sixF ns more = rows at hf h18 hl
  have hS : (rows.map fun r => shapeF (textF r)).length = 6 := (List.length_map _).trans hl
  obtain ⟨P, Q, turn, hP, hQ, hPQ, ht, hp, hg⟩ := turn_of (rows.map fun r => shapeF (textF r)) hS
  have c24 := v24 (keysF 0 (rows.map fun r => shapeF (textF r))) [] (by rw [keys_is hS, List.length_map, List.length_range]; decide) hP hQ hPQ
  rw [ht] at c24
  exact x27 (m := 129) script ns more e1 e2 rows hl patF textF shapeF turn (.list (kys (keysF 0 (rows.map fun r => shapeF (textF r))))) (runsF 0 (rows.map fun r => shapeF (textF r))) (someF (rows.map fun r => shapeF (textF r)))
    (fun r hr => Nat.le_trans (fine_len (hf r hr)) (by decide)) (fun k hk => List.mem_range.mp (hp.mem_iff.mp hk)) hp.length_eq (sort_turn hp)
    (fun g h k => up (of_decide_eq_true (List.all_eq_true.mp (by decide : [11, 12, 18, 19, 20, 21, 22, 24, 25, 26].all (fun g => decide (rnk g ≤ 129)) = true) g h)) k) h18
    (fun r hr => v19 r [] (hf r hr).2.1 (Nat.le_trans (hf r hr).2.2 (by decide))) (fun r hr => v12 r [] rfl (hf r hr).1 (hf r hr).2.1 (Nat.le_trans (hf r hr).2.2 (by decide))) (fun r hr => v20 r [] (hf r hr).2.1 (Nat.le_trans (hf r hr).2.2 (by decide)))
    (fun r hr => row21 (hf r hr)) (fun r hr => row11 (hf r hr)) (v22 _ [] (hS.symm ▸ by decide)) c24 (v26 _ []) (join11 hf hl) (v25 _ [] hS) (some_runs _ hS hp hg ▸ turn11 hf hl hp)
theorem answers : Answers := fun script hs => ⟨FA, rnk, 1000, 149, FA_tab, rfl, by decide, (FA_is (f := 27) (fn := fn27) rfl _ _).trans (answer script _ _ rfl rfl (by
  rw [List.length_take, List.length_append]
  exact Nat.min_eq_left (Nat.le_add_left 5 _)) (by split <;> decide))⟩
end Mine
end
theorem PySem.Challenge.cw_kl0421_01_holds : PySem.Challenge.rw_kl0421_01.Holds :=
  Mine.holds_of Mine.answers
