import PyProof.Rows.All
import Wide.All
import OpenK.AllK
import Wide.FinOn
import Lean
import PySem.Challenge.RW_fe0201_01
open PySem PySem.W PySem.Calls PyProof.Rows
set_option Elab.async false
set_option maxRecDepth 100000
set_option maxHeartbeats 0
set_option linter.unusedVariables false
set_option linter.unusedSimpArgs false
namespace Mine
open_top hd for PySem.Challenge.rw_fe0201_01
theorem top_off : True := by
  w_top off
  trivial
abbrev Wd := PySem.Str
inductive Tk where
  | opn | cls | sign (w : Wd) | atom (w : Wd) | skip | eof
  deriving DecidableEq, Inhabited
inductive Tr where
  | leaf (w : Wd) | bin (l : Tr) (w : Wd) (r : Tr) | imp (l r : Tr) | un (w : Wd) (t : Tr)
  deriving Inhabited
inductive Pv where
  | none | paren | op (w : Wd)
  deriving DecidableEq, Inhabited
inductive Er where
  | syn | idle
  deriving DecidableEq, Inhabited
inductive Stp where
  | at (ts : List Tk) | close (ts : List Tk) | eof
  deriving Inhabited
inductive Out where
  | err (e : Er) | ok (t : Tr) (s : Stp)
  deriving Inhabited

abbrev wE : Wd := Str.ofString ""
abbrev wU : Wd := Str.ofString "unary"
def pow (w : Wd) : Bool := w == Str.ofString "**" || w == Str.ofString "^"

section
variable (rk : Wd → Option Int) (q : Int)
def pr : Pv → Int
  | .op w => (rk w).getD (-1)
  | _ => -1

/-- the while loop of _build_eval_tree, from a turn's start to its end -/
inductive Bet : List Tk → Nat → Pv → Option Tr → Out → Prop
  | nil {d p res} : Bet [] d p res (.err .syn)
  | cls_none {r d res} : Bet (.cls :: r) d .none res (.err .syn)
  | cls_idle {r d p} : p ≠ .none → Bet (.cls :: r) d p none (.err .idle)
  | cls_close {r d t} : Bet (.cls :: r) d .paren (some t) (.ok t (.close r))
  | cls_at {r d w t} : Bet (.cls :: r) d (.op w) (some t) (.ok t (.at (.cls :: r)))
  | opn_err {r d p res e} : r ≠ [] → Bet r 0 .paren none (.err e) → Bet (.opn :: r) d p res (.err e)
  | opn_some {r d p t u r' o} : r ≠ [] → Bet r 0 .paren none (.ok u (.close r')) → Bet r' d p (some (.imp t u)) o → Bet (.opn :: r) d p (some t) o
  | opn_none {r d p u r' o} : r ≠ [] → Bet r 0 .paren none (.ok u (.close r')) → Bet r' d p (some u) o → Bet (.opn :: r) d p none o
  | sign_no {w r d p res} : rk w = none → Bet (.sign w :: r) d p res (.err .syn)
  | sign_ret {w r d p t k} : rk w = some k → k ≤ pr rk p → pow w = false → Bet (.sign w :: r) d p (some t) (.ok t (.at (.sign w :: r)))
  | bin_err {w r d p t k e} : rk w = some k → ¬ (k ≤ pr rk p ∧ pow w = false) → r ≠ [] → d + 1 ≤ 100 → Bet r (d + 1) (.op w) none (.err e) → Bet (.sign w :: r) d p (some t) (.err e)
  | bin_at {w r d p t k u r' o} : rk w = some k → ¬ (k ≤ pr rk p ∧ pow w = false) → r ≠ [] → d + 1 ≤ 100 → Bet r (d + 1) (.op w) none (.ok u (.at r')) → Bet r' d p (some (.bin t w u)) o → Bet (.sign w :: r) d p (some t) o
  | bin_eofp {w r d t k u} : rk w = some k → ¬ (k ≤ pr rk .paren ∧ pow w = false) → r ≠ [] → d + 1 ≤ 100 → Bet r (d + 1) (.op w) none (.ok u .eof) → Bet (.sign w :: r) d .paren (some t) (.err .syn)
  | bin_eof {w r d p t k u} : rk w = some k → ¬ (k ≤ pr rk p ∧ pow w = false) → r ≠ [] → d + 1 ≤ 100 → Bet r (d + 1) (.op w) none (.ok u .eof) → p ≠ .paren → Bet (.sign w :: r) d p (some t) (.ok (.bin t w u) .eof)
  | un_err {w r d p k e} : rk w = some k → r ≠ [] → d + 1 ≤ 100 → Bet r (d + 1) (.op wU) none (.err e) → Bet (.sign w :: r) d p none (.err e)
  | un_at {w r d p k u r' o} : rk w = some k → r ≠ [] → d + 1 ≤ 100 → Bet r (d + 1) (.op wU) none (.ok u (.at r')) → Bet r' d p (some (.un w u)) o → Bet (.sign w :: r) d p none o
  | un_eofp {w r d k u} : rk w = some k → r ≠ [] → d + 1 ≤ 100 → Bet r (d + 1) (.op wU) none (.ok u .eof) → Bet (.sign w :: r) d .paren none (.err .syn)
  | un_eof {w r d p k u} : rk w = some k → r ≠ [] → d + 1 ≤ 100 → Bet r (d + 1) (.op wU) none (.ok u .eof) → p ≠ .paren → Bet (.sign w :: r) d p none (.ok (.un w u) .eof)
  | leaf {w r d p o} : Bet r d p (some (.leaf w)) o → Bet (.atom w :: r) d p none o
  | atom_ret {w r d p t} : q ≤ pr rk p → Bet (.atom w :: r) d p (some t) (.ok t (.at (.atom w :: r)))
  | imp_err {w r d p t e} : ¬ q ≤ pr rk p → d + 1 ≤ 100 → Bet (.atom w :: r) (d + 1) (.op wE) none (.err e) → Bet (.atom w :: r) d p (some t) (.err e)
  | imp_at {w r d p t u r' o} : ¬ q ≤ pr rk p → d + 1 ≤ 100 → Bet (.atom w :: r) (d + 1) (.op wE) none (.ok u (.at r')) → Bet r' d p (some (.imp t u)) o → Bet (.atom w :: r) d p (some t) o
  | imp_eofp {w r d t u} : ¬ q ≤ pr rk .paren → d + 1 ≤ 100 → Bet (.atom w :: r) (d + 1) (.op wE) none (.ok u .eof) → Bet (.atom w :: r) d .paren (some t) (.err .syn)
  | imp_eof {w r d p t u} : ¬ q ≤ pr rk p → d + 1 ≤ 100 → Bet (.atom w :: r) (d + 1) (.op wE) none (.ok u .eof) → p ≠ .paren → Bet (.atom w :: r) d p (some t) (.ok (.imp t u) .eof)
  | skip {r d p res o} : Bet r d p res o → Bet (.skip :: r) d p res o
  | eof_p {r d res} : Bet (.eof :: r) d .paren res (.err .syn)
  | eof_n {r d p} : p ≠ .paren → Bet (.eof :: r) d p none (.err .syn)
  | eof_t {r d p t} : p ≠ .paren → Bet (.eof :: r) d p (some t) (.ok t .eof)

/-- the law's own reader -/
structure Wt where
  rank : Int
  word : Wd
  two : Bool
structure Grp where
  parts : List Tr
  wait : List Wt
  joined : Bool
inductive LOut where
  | err (e : Er) | tree (t : Tr)
def joinT (l : Tr) (w : Wd) (r : Tr) : Tr := if w = wE then .imp l r else .bin l w r
def bld (x : Wt) : List Tr → Option (List Tr)
  | [] => none
  | t :: l => if x.two then (match l with | a :: ps => some (joinT a x.word t :: ps) | [] => none) else some (.un x.word t :: l)
def bnd (floor : Int) : List Tr → List Wt → Option (List Tr × List Wt)
  | ps, [] => some (ps, [])
  | ps, x :: ws =>
    if floor ≤ x.rank then
      match bld x ps with
      | some ps' => bnd floor ps' ws
      | none => none
    else some (ps, x :: ws)
def lr : List Tk → List Grp → Bool → Option LOut
  | [], _, _ => some (.err .syn)
  | _ :: _, [], _ => none
  | .eof :: _, g :: gs, ready =>
    if (gs ≠ [] ∨ ready = false) then some (.err .syn) else
    match bnd (-1) g.parts g.wait with
    | some ([t], _) => some (.tree t)
    | _ => none
  | .cls :: r, g :: gs, ready =>
    if ready = false ∧ (gs ≠ [] ∨ g.wait ≠ []) then some (.err .idle) else
    match gs with
    | [] => some (.err .syn)
    | o :: gs =>
      match bnd (-1) g.parts g.wait with
      | some ([t], _) =>
        if g.joined then (match o.parts with
          | l :: ps => lr r (⟨.imp l t :: ps, o.wait, o.joined⟩ :: gs) ready
          | [] => none)
        else lr r (⟨t :: o.parts, o.wait, o.joined⟩ :: gs) ready
      | _ => none
  | .opn :: r, g :: gs, ready => lr r (⟨[], [], ready⟩ :: g :: gs) false
  | .sign w :: r, g :: gs, ready =>
    match rk w with
    | none => some (.err .syn)
    | some k =>
      match (if ready ∧ pow w = false then bnd k g.parts g.wait else some (g.parts, g.wait)) with
      | none => none
      | some (ps, ws) => lr r (⟨ps, (if ready then ⟨k, w, true⟩ else ⟨(rk wU).getD (-1), w, false⟩) :: ws, g.joined⟩ :: gs) false
  | .atom w :: r, g :: gs, ready =>
    if ready then
      match bnd q g.parts g.wait with
      | none => none
      | some (ps, ws) => lr r (⟨.leaf w :: ps, ⟨q, wE, true⟩ :: ws, g.joined⟩ :: gs) true
    else lr r (⟨.leaf w :: g.parts, g.wait, g.joined⟩ :: gs) true
  | .skip :: r, gs, ready => lr r gs ready
end
section
variable {rk : Wd → Option Int} {q : Int}

/-- the head of ts makes a frame of prev p hand back -/
def Stops (rk : Wd → Option Int) (q : Int) (p : Pv) : List Tk → Prop
  | .cls :: _ => True
  | .sign w :: _ => ∃ k, rk w = some k ∧ k ≤ pr rk p ∧ pow w = false
  | .atom _ :: _ => q ≤ pr rk p
  | _ => False
def EndOk (ts : List Tk) : Prop := ∀ x, ts.getLast? = some x → x = .eof ∨ ∃ w, x = .atom w
theorem EndOk.tail {x : Tk} {r : List Tk} (h : EndOk (x :: r)) : EndOk r := by
  intro y hy
  cases r with
  | nil => cases hy
  | cons z r => exact h y (by rw [List.getLast?_cons_cons]; exact hy)
theorem EndOk.suf {a b : List Tk} (h : EndOk b) (s : a <:+ b) : EndOk a := by
  obtain ⟨p, rfl⟩ := s
  intro y hy
  refine h y ?_
  cases a with
  | nil => cases hy
  | cons z r => rw [List.getLast?_append, hy]; rfl
theorem EndOk.ne {x : Tk} {r : List Tk} (h : EndOk (x :: r)) (h1 : x ≠ .eof) (h2 : ∀ w, x ≠ .atom w) : r ≠ [] := by
  rintro rfl
  rcases h x rfl with e | ⟨w, e⟩
  · exact h1 e
  · exact h2 w e

def Con (rk : Wd → Option Int) (p : Pv) (W : List Wt) (H : List Grp) : Prop := match p with
  | .none => W = [] ∧ H = []
  | .paren => W = [] ∧ H ≠ []
  | .op w => ∃ x W', W = x :: W' ∧ x.rank = pr rk (.op w)

theorem bnd_pop {f : Int} {t : Tr} {ps ps' : List Tr} {x : Wt} {W : List Wt} (hb : bld x (t :: ps) = some ps') (hf : f ≤ x.rank) : bnd f (t :: ps) (x :: W) = bnd f ps' W := by
  rw [bnd, if_pos hf, hb]
theorem bnd_stay {f : Int} {ps : List Tr} {x : Wt} {W : List Wt} (hf : ¬ f ≤ x.rank) : bnd f ps (x :: W) = some (ps, x :: W) := by
  rw [bnd, if_neg hf]
theorem bnd_con {f : Int} {p : Pv} {W : List Wt} {H : List Grp} (C : Con rk p W H) (hf : ¬ f ≤ pr rk p) (ps : List Tr) : bnd f ps W = some (ps, W) := by
  cases p with
  | none => rw [C.1]; rfl
  | paren => rw [C.1]; rfl
  | op w =>
    obtain ⟨x, W', rfl, hx⟩ := C
    exact bnd_stay (by rw [hx]; exact hf)

/-- one pop ahead of a token that makes it -/
theorem lr_pop {ts : List Tk} {t : Tr} {ps ps' : List Tr} {x : Wt} {W : List Wt} {j : Bool} {H : List Grp} {p : Pv} (hx : x.rank = pr rk p) (hm : -1 ≤ x.rank) (hb : bld x (t :: ps) = some ps') (hs : Stops rk q p ts) :
    lr rk q ts (⟨t :: ps, x :: W, j⟩ :: H) true = lr rk q ts (⟨ps', W, j⟩ :: H) true := by
  cases ts with
  | nil => exact hs.elim
  | cons y r =>
    cases y with
    | opn => exact hs.elim
    | skip => exact hs.elim
    | eof => exact hs.elim
    | cls =>
      cases H with
      | nil => simp [lr]
      | cons o H => simp [lr, bnd_pop hb hm]
    | sign w =>
      obtain ⟨k, hk, hle, hp⟩ := hs
      simp [lr, hk, hp, bnd_pop hb (show k ≤ x.rank by rw [hx]; exact hle)]
    | atom w => simp [lr, bnd_pop hb (show q ≤ x.rank by rw [hx]; exact hs)]
theorem lr_pop_eof {r : List Tk} {t : Tr} {ps ps' : List Tr} {x : Wt} {W : List Wt} {j : Bool} {H : List Grp} (hm : -1 ≤ x.rank) (hb : bld x (t :: ps) = some ps') :
    lr rk q (.eof :: r) (⟨t :: ps, x :: W, j⟩ :: H) true = lr rk q (.eof :: r) (⟨ps', W, j⟩ :: H) true := by
  cases H with
  | nil => simp [lr, bnd_pop hb hm]
  | cons o H => simp [lr]
theorem lr_eof_in {r : List Tk} {g : Grp} {H : List Grp} {b : Bool} (h : H ≠ []) : lr rk q (.eof :: r) (g :: H) b = some (.err .syn) := by simp [lr, h]

def Fits (rk : Wd → Option Int) (q : Int) (ts : List Tk) (p : Pv) (res : Option Tr) (P : List Tr) (W : List Wt) (j : Bool) (H : List Grp) (o : Out) : Prop := match o with
  | .err e => lr rk q ts (⟨res.toList ++ P, W, j⟩ :: H) res.isSome = some (.err e)
  | .ok t (.at ts') => ts' <:+ ts ∧ Stops rk q p ts' ∧ p ≠ .none ∧ p ≠ .paren ∧ lr rk q ts (⟨res.toList ++ P, W, j⟩ :: H) res.isSome = lr rk q ts' (⟨t :: P, W, j⟩ :: H) true
  | .ok t (.close r) => p = .paren ∧ (.cls :: r) <:+ ts ∧ lr rk q ts (⟨res.toList ++ P, W, j⟩ :: H) res.isSome = lr rk q (.cls :: r) (⟨t :: P, W, j⟩ :: H) true
  | .ok t .eof => p ≠ .paren ∧ ∃ r, lr rk q ts (⟨res.toList ++ P, W, j⟩ :: H) res.isSome = lr rk q (.eof :: r) (⟨t :: P, W, j⟩ :: H) true

theorem Fits.from {ts ts' : List Tk} {p : Pv} {res res' : Option Tr} {P : List Tr} {W : List Wt} {j : Bool} {H : List Grp} {o : Out}
    (e : lr rk q ts (⟨res.toList ++ P, W, j⟩ :: H) res.isSome = lr rk q ts' (⟨res'.toList ++ P, W, j⟩ :: H) res'.isSome) (hl : ts' <:+ ts) (h : Fits rk q ts' p res' P W j H o) : Fits rk q ts p res P W j H o := by
  cases o with
  | err x => exact e.trans h
  | ok t s =>
    cases s with
    | «at» t2 => exact ⟨h.1.trans hl, h.2.1, h.2.2.1, h.2.2.2.1, e.trans h.2.2.2.2⟩
    | close t2 => exact ⟨h.1, h.2.1.trans hl, e.trans h.2.2⟩
    | eof => obtain ⟨a, r, b⟩ := h; exact ⟨a, r, e.trans b⟩

variable (rk q) in
def Has (ts : List Tk) (d : Nat) (p : Pv) (res : Option Tr) : Prop :=
  ∃ o, Bet rk q ts d p res o ∧ ∀ (P : List Tr) (W : List Wt) (j : Bool) (H : List Grp), Con rk p W H → Fits rk q ts p res P W j H o

/-- behind a call by an operator -/
theorem has_call (hrk : ∀ w k, rk w = some k → 0 ≤ k) {ts r : List Tk} {d : Nat} {p : Pv} {res cres : Option Tr} {w : Wd} {x : Wt} {mk : Tr → Tr}
    (hx : x.rank = pr rk (.op w)) (hbld : ∀ u P, bld x (u :: (res.toList ++ P)) = some (mk u :: P))
    (hsub : ∀ ts' : List Tk, ts' <:+ r → ts'.length < ts.length ∧ ts' <:+ ts)
    (hstep : ∀ P W j H, Con rk p W H → lr rk q ts (⟨res.toList ++ P, W, j⟩ :: H) res.isSome = lr rk q r (⟨cres.toList ++ (res.toList ++ P), x :: W, j⟩ :: H) cres.isSome)
    (callee : Has rk q r (d + 1) (.op w) cres)
    (more : ∀ u ts', ts'.length < ts.length → ts' <:+ ts → Has rk q ts' d p (some (mk u)))
    (cErr : ∀ e, Bet rk q r (d + 1) (.op w) cres (.err e) → Bet rk q ts d p res (.err e))
    (cAt : ∀ u r' o, Bet rk q r (d + 1) (.op w) cres (.ok u (.at r')) → Bet rk q r' d p (some (mk u)) o → Bet rk q ts d p res o)
    (cEofP : ∀ u, p = .paren → Bet rk q r (d + 1) (.op w) cres (.ok u .eof) → Bet rk q ts d p res (.err .syn))
    (cEof : ∀ u, p ≠ .paren → Bet rk q r (d + 1) (.op w) cres (.ok u .eof) → Bet rk q ts d p res (.ok (mk u) .eof)) : Has rk q ts d p res := by
  have hm : -1 ≤ x.rank := by
    rw [hx]
    show -1 ≤ (rk w).getD (-1)
    cases h : rk w with
    | none => decide
    | some k => have := hrk w k h; show -1 ≤ k; omega
  obtain ⟨o, ho, hf⟩ := callee
  have con : ∀ (W : List Wt) (H : List Grp), Con rk (.op w) (x :: W) H := fun W H => ⟨x, W, rfl, hx⟩
  cases o with
  | err e =>
    refine ⟨.err e, cErr e ho, fun P W j H C => ?_⟩
    exact (hstep P W j H C).trans (hf (res.toList ++ P) (x :: W) j H (con W H))
  | ok u s =>
    cases s with
    | close r' =>
      have := (hf [] (x :: []) true [] (con _ _)).1
      cases this
    | «at» r' =>
      have h0 := hf [] (x :: []) true [] (con _ _)
      obtain ⟨o2, ho2, hf2⟩ := more u r' (hsub r' h0.1).1 (hsub r' h0.1).2
      refine ⟨o2, cAt u r' o2 ho ho2, fun P W j H C => ?_⟩
      have h1 := hf (res.toList ++ P) (x :: W) j H (con W H)
      refine Fits.from (res' := some (mk u)) (ts' := r') ?_ (hsub r' h0.1).2 (hf2 P W j H C)
      exact ((hstep P W j H C).trans h1.2.2.2.2).trans (lr_pop hx hm (hbld u P) h1.2.1)
    | eof =>
      have key : ∀ P W j H, Con rk p W H → ∃ r', lr rk q ts (⟨res.toList ++ P, W, j⟩ :: H) res.isSome = lr rk q (.eof :: r') (⟨mk u :: P, W, j⟩ :: H) true := fun P W j H C => by
        obtain ⟨_, r', h1⟩ := hf (res.toList ++ P) (x :: W) j H (con W H)
        exact ⟨r', ((hstep P W j H C).trans h1).trans (lr_pop_eof hm (hbld u P))⟩
      by_cases hp : p = .paren
      · refine ⟨.err .syn, cEofP u hp ho, fun P W j H C => ?_⟩
        obtain ⟨r', h1⟩ := key P W j H C
        subst hp
        exact h1.trans (lr_eof_in C.2)
      · exact ⟨.ok (mk u) .eof, cEof u hp ho, fun P W j H C => ⟨hp, key P W j H C⟩⟩

theorem has (hq : rk wE = some q) (hrk : ∀ w k, rk w = some k → 0 ≤ k) : ∀ (n : Nat) (ts : List Tk), ts.length ≤ n → ∀ (d : Nat) (p : Pv) (res : Option Tr), d + ts.length ≤ 100 → EndOk ts → (∀ w, .sign w ∈ ts → w ≠ wE) → Has rk q ts d p res := by
  have hq0 : 0 ≤ q := hrk _ _ hq
  intro n
  induction n with
  | zero =>
    intro ts hn d p res _ _ _
    obtain rfl : ts = [] := List.eq_nil_of_length_eq_zero (Nat.le_zero.mp hn)
    exact ⟨.err .syn, .nil, fun P W j H C => rfl⟩
  | succ n ih =>
    intro ts hn d p res hd hok hsg
    cases ts with
    | nil => exact ⟨.err .syn, .nil, fun P W j H C => rfl⟩
    | cons y r =>
      have hr : r.length ≤ n := Nat.le_of_succ_le_succ hn
      have hokr := hok.tail
      have hdr : d + r.length + 1 ≤ 100 := by rw [List.length_cons] at hd; omega
      have hsr : ∀ w, Tk.sign w ∈ r → w ≠ wE := fun w h => hsg w (List.mem_cons_of_mem _ h)
      have next : ∀ ts' : List Tk, ts' <:+ r → ∀ d' p' res', d' + ts'.length ≤ 100 → Has rk q ts' d' p' res' := fun ts' s d' p' res' h =>
        ih ts' (Nat.le_trans s.length_le hr) d' p' res' h (hokr.suf s) (fun w hw => hsr w (s.subset hw))
      have sub : r <:+ y :: r := List.suffix_cons y r
      cases y with
      | skip =>
        obtain ⟨o, ho, hf⟩ := next r (List.suffix_refl r) d p res (by omega)
        exact ⟨o, .skip ho, fun P W j H C => Fits.from (ts' := r) (res' := res) (by simp [lr]) sub (hf P W j H C)⟩
      | eof =>
        by_cases hp : p = .paren
        · subst hp
          exact ⟨.err .syn, .eof_p, fun P W j H C => by show lr _ _ _ _ _ = _; exact lr_eof_in C.2⟩
        · cases res with
          | none => exact ⟨.err .syn, .eof_n hp, fun P W j H C => by show lr _ _ _ _ _ = _; simp [lr]⟩
          | some t => exact ⟨.ok t .eof, .eof_t hp, fun P W j H C => ⟨hp, r, rfl⟩⟩
      | cls =>
        cases p with
        | none =>
          refine ⟨.err .syn, .cls_none, fun P W j H C => ?_⟩
          obtain ⟨rfl, rfl⟩ := C
          show lr _ _ _ _ _ = _
          simp [lr]
        | paren =>
          cases res with
          | none =>
            refine ⟨.err .idle, .cls_idle (by intro h; cases h), fun P W j H C => ?_⟩
            show lr _ _ _ _ _ = _
            simp [lr, C.2]
          | some t => exact ⟨.ok t (.close r), .cls_close, fun P W j H C => ⟨rfl, List.suffix_refl _, rfl⟩⟩
        | op w =>
          cases res with
          | none =>
            refine ⟨.err .idle, .cls_idle (by intro h; cases h), fun P W j H C => ?_⟩
            obtain ⟨x, W', rfl, hx⟩ := C
            show lr _ _ _ _ _ = _
            simp [lr]
          | some t => exact ⟨.ok t (.at (.cls :: r)), .cls_at, fun P W j H C => ⟨List.suffix_refl _, trivial, (by intro h; cases h), (by intro h; cases h), rfl⟩⟩
      | opn =>
        have hne : r ≠ [] := hok.ne (by intro h; cases h) (by intro w h; cases h)
        obtain ⟨o, ho, hf⟩ := next r (List.suffix_refl r) 0 .paren none (by omega)
        have con : ∀ (P : List Tr) (W : List Wt) (j : Bool) (H : List Grp), Con rk .paren [] ((⟨res.toList ++ P, W, j⟩ : Grp) :: H) := fun _ _ _ _ => ⟨rfl, by simp⟩
        have stp : ∀ P W j H, lr rk q (.opn :: r) (⟨res.toList ++ P, W, j⟩ :: H) res.isSome = lr rk q r (⟨(none : Option Tr).toList ++ [], [], res.isSome⟩ :: ⟨res.toList ++ P, W, j⟩ :: H) (none : Option Tr).isSome := fun P W j H => by simp [lr]
        cases o with
        | err e => exact ⟨.err e, .opn_err hne ho, fun P W j H C => (stp P W j H).trans (hf [] [] res.isSome _ (con P W j H))⟩
        | ok u s =>
          cases s with
          | «at» r' => exact absurd rfl (hf [] [] true [⟨[], [], true⟩] ⟨rfl, by simp⟩).2.2.2.1
          | eof => exact absurd rfl (hf [] [] true [⟨[], [], true⟩] ⟨rfl, by simp⟩).1
          | close r' =>
            have h0 : (.cls :: r') <:+ r := (hf [] [] true [⟨[], [], true⟩] ⟨rfl, by simp⟩).2.1
            have h1 : r' <:+ r := (List.suffix_cons _ _).trans h0
            have h2 := h0.length_le
            rw [List.length_cons] at h2
            cases res with
            | none =>
              obtain ⟨o2, ho2, hf2⟩ := next r' h1 d p (some u) (by omega)
              refine ⟨o2, .opn_none hne ho ho2, fun P W j H C => Fits.from (ts' := r') (res' := some u) ?_ (h1.trans sub) (hf2 P W j H C)⟩
              refine (stp P W j H).trans ((hf [] [] false _ (con P W j H)).2.2.trans ?_)
              simp [lr, bnd]
            | some t =>
              obtain ⟨o2, ho2, hf2⟩ := next r' h1 d p (some (.imp t u)) (by omega)
              refine ⟨o2, .opn_some hne ho ho2, fun P W j H C => Fits.from (ts' := r') (res' := some (.imp t u)) ?_ (h1.trans sub) (hf2 P W j H C)⟩
              refine (stp P W j H).trans ((hf [] [] true _ (con P W j H)).2.2.trans ?_)
              simp [lr, bnd]
      | sign w =>
        have hw : w ≠ wE := hsg w (List.mem_cons_self ..)
        have hne : r ≠ [] := hok.ne (by intro h; cases h) (by intro w h; cases h)
        have lt : ∀ ts' : List Tk, ts' <:+ r → ts'.length < (Tk.sign w :: r).length ∧ ts' <:+ (Tk.sign w :: r) := fun ts' s => ⟨by have := s.length_le; rw [List.length_cons]; omega, s.trans sub⟩
        have back : ∀ ts' : List Tk, ts'.length < (Tk.sign w :: r).length → ts' <:+ (Tk.sign w :: r) → ts' <:+ r := fun ts' h s => by
          rcases List.suffix_cons_iff.mp s with e | e
          · rw [e] at h; exact absurd h (Nat.lt_irrefl _)
          · exact e
        cases hk : rk w with
        | none => exact ⟨.err .syn, .sign_no hk, fun P W j H C => by show lr _ _ _ _ _ = _; simp [lr, hk]⟩
        | some k =>
          cases res with
          | none =>
            refine has_call (w := wU) (x := ⟨(rk wU).getD (-1), w, false⟩) (mk := fun u => .un w u) (r := r) (cres := none) hrk rfl (fun u P => ?_) lt (fun P W j H C => ?_) (next r (List.suffix_refl r) (d + 1) _ _ (by omega)) (fun u ts' h s => next ts' (back ts' h s) d p _ (by have := (back ts' h s).length_le; omega))
              (fun e h => .un_err hk hne (by omega) h) (fun u r' o h h2 => .un_at hk hne (by omega) h h2) (fun u hp h => by subst hp; exact .un_eofp hk hne (by omega) h) (fun u hp h => .un_eof hk hne (by omega) h hp)
            · simp [bld]
            · simp [lr, hk]
          | some t =>
            by_cases hret : k ≤ pr rk p ∧ pow w = false
            · refine ⟨.ok t (.at (.sign w :: r)), .sign_ret hk hret.1 hret.2, fun P W j H C => ⟨List.suffix_refl _, ⟨k, hk, hret⟩, ?_, ?_, rfl⟩⟩
              · rintro rfl; have := hrk w k hk; have := hret.1; simp [pr] at this; omega
              · rintro rfl; have := hrk w k hk; have := hret.1; simp [pr] at this; omega
            · refine has_call (w := w) (x := ⟨k, w, true⟩) (mk := fun u => .bin t w u) (r := r) (cres := none) hrk (by show k = (rk w).getD (-1); rw [hk]; rfl) (fun u P => ?_) lt (fun P W j H C => ?_) (next r (List.suffix_refl r) (d + 1) _ _ (by omega)) (fun u ts' h s => next ts' (back ts' h s) d p _ (by have := (back ts' h s).length_le; omega))
                (fun e h => .bin_err hk hret hne (by omega) h) (fun u r' o h h2 => .bin_at hk hret hne (by omega) h h2) (fun u hp h => by subst hp; exact .bin_eofp hk hret hne (by omega) h) (fun u hp h => .bin_eof hk hret hne (by omega) h hp)
              · simp [bld, joinT, hw]
              · cases hpw : pow w with
                | true => simp [lr, hk, hpw]
                | false =>
                  have hlt : ¬ k ≤ pr rk p := fun h => hret ⟨h, hpw⟩
                  simp [lr, hk, hpw, bnd_con C hlt]
      | atom w =>
        have lt : ∀ ts' : List Tk, ts' <:+ r → ts'.length < (Tk.atom w :: r).length ∧ ts' <:+ (Tk.atom w :: r) := fun ts' s => ⟨by have := s.length_le; rw [List.length_cons]; omega, s.trans sub⟩
        have back : ∀ ts' : List Tk, ts'.length < (Tk.atom w :: r).length → ts' <:+ (Tk.atom w :: r) → ts' <:+ r := fun ts' h s => by
          rcases List.suffix_cons_iff.mp s with e | e
          · rw [e] at h; exact absurd h (Nat.lt_irrefl _)
          · exact e
        cases res with
        | none =>
          obtain ⟨o, ho, hf⟩ := next r (List.suffix_refl r) d p (some (.leaf w)) (by omega)
          exact ⟨o, .leaf ho, fun P W j H C => Fits.from (ts' := r) (res' := some (.leaf w)) (by simp [lr]) sub (hf P W j H C)⟩
        | some t =>
          by_cases hret : q ≤ pr rk p
          · refine ⟨.ok t (.at (.atom w :: r)), .atom_ret hret, fun P W j H C => ⟨List.suffix_refl _, hret, ?_, ?_, rfl⟩⟩
            · rintro rfl; simp [pr] at hret; omega
            · rintro rfl; simp [pr] at hret; omega
          · refine has_call (w := wE) (x := ⟨q, wE, true⟩) (mk := fun u => .imp t u) (r := r) (cres := some (.leaf w)) hrk (by show q = (rk wE).getD (-1); rw [hq]; rfl) (fun u P => ?_) lt (fun P W j H C => ?_) (next r (List.suffix_refl r) (d + 1) _ _ (by omega)) (fun u ts' h s => next ts' (back ts' h s) d p _ (by have := (back ts' h s).length_le; omega))
              (fun e h => .imp_err hret (by omega) (.leaf h)) (fun u r' o h h2 => .imp_at hret (by omega) (.leaf h) h2) (fun u hp h => by subst hp; exact .imp_eofp hret (by omega) (.leaf h)) (fun u hp h => .imp_eof hret (by omega) (.leaf h) hp)
            · simp [bld, joinT]
            · simp [lr, bnd_con C hret]

/-- the plain law: what the parser tells is what the law's reader tells -/
theorem plain (hq : rk wE = some q) (hrk : ∀ w k, rk w = some k → 0 ≤ k) {ts : List Tk} (hl : ts.length ≤ 100) (hok : EndOk ts) (hs : ∀ w, .sign w ∈ ts → w ≠ wE) :
    (∃ e, Bet rk q ts 0 .none none (.err e) ∧ lr rk q ts [⟨[], [], false⟩] false = some (.err e)) ∨
    (∃ t, Bet rk q ts 0 .none none (.ok t .eof) ∧ lr rk q ts [⟨[], [], false⟩] false = some (.tree t)) := by
  obtain ⟨o, ho, hf⟩ := has hq hrk ts.length ts (Nat.le_refl _) 0 .none none (by omega) hok hs
  have h := hf [] [] false [] ⟨rfl, rfl⟩
  cases o with
  | err e => exact .inl ⟨e, ho, h⟩
  | ok t s =>
    cases s with
    | «at» r => exact absurd rfl h.2.2.1
    | close r => cases h.1
    | eof =>
      obtain ⟨_, r, e⟩ := h
      refine .inr ⟨t, ho, e.trans ?_⟩
      simp [lr, bnd]
end
noncomputable abbrev lo : List Str := looseW hd.view_39
      [Str.ofString "_tuplegetter", Str.ofString "TokenInfo", Str.ofString "DefinitionSyntaxError",
        Str.ofString "_OP_PRIORITY", Str.ofString "_build_eval_tree", Str.ofString "build_eval_tree",
        Str.ofString "_law_signs", Str.ofString "_law_usual"]
abbrev tokObj (vs : List Value) (n : Nat × Addr) : Obj := { cls := .ref 141, dict := some n.2, data := .seq vs.toArray n.1, slots := #[] }
/-- a token in the heap, in the ledger: its object and its empty dict -/
structure TokHp (h : Heap) (x : Addr) (vs : List Value) (n : Nat × Addr) : Prop where
  hx : h.get? x = some (tokObj vs n)
  hd : h.get? n.2 = some emptyDict
structure TokIn (nw : List (Addr × Obj)) (x : Addr) (vs : List Value) (n : Nat × Addr) : Prop where
  hx : (x, tokObj vs n) ∈ nw
  hd : (n.2, emptyDict) ∈ nw
theorem TokIn.hp {g h : Heap} {L x : Addr} {nw : List (Addr × Obj)} {vs : List Value} {n : Nat × Addr} (N : News g L h nw) (k : TokIn nw x vs n) : TokHp h x vs n := ⟨(N _ k.hx).1, (N _ k.hd).1⟩
theorem TokIn.mono {nw nw' : List (Addr × Obj)} {x : Addr} {vs : List Value} {n : Nat × Addr} (k : TokIn nw x vs n) (hs : ∀ p ∈ nw, p ∈ nw') : TokIn nw' x vs n := ⟨hs _ k.hx, hs _ k.hd⟩
theorem tg_kind : builtinKind "tuple.__getitem__" = some .slot := by decide +kernel
theorem tg_split : splitId "tuple.__getitem__" = some ("tuple", "__getitem__") := by decide +kernel
section
variable {prog : Program} {w : World} {M : Model} {A : Around} {E : Value → Shared → Prop} {Q : Value → Shared → Prop} {s : Shared} {K : Frag} {x C : Addr} {h : Heap}

/-- type(x) of an object that is known -/
theorem type_at {o : Obj} (hx : s.heap.get? x = some o) (hn : (o.cls == Value.type "builtin_function_or_method") = false) (hq : Q o.cls s) : wpAny (model prog w) A (call (.type "type") [.ref x]) Q E s := by
  obtain ⟨hh, g, d, t, os⟩ := s
  exact call_type_obj hx hn hq

theorem inst_tok {vs : List Value} {n : Nat × Addr} (hx : TokHp h x vs n) : InstAt h x (tokObj vs n) 141 (some emptyDict) := ⟨hx.hx, rfl, rfl, hx.hd⟩

/-- isinstance, asked of an object of a class of the written part -/
theorem looks_isi {ox : Obj} {od : Option Obj} {b : Value} {r : Bool} (X : K.In h) (I : InstAt h x ox C od) (e : mroIn K C b = some r) : Looks M h (isInstance (.ref x) b) r :=
  fun A Q E s k q => wpAny_bind (I.type A _ E s k (looks_mroIn X e A Q E s k q))

theorem tok_getitem_code {vs : List Value} {n : Nat × Addr} {i : Nat} {u : Tok} {y : Value} {R : Fin → Shared → Prop} (hx : TokHp s.heap x vs n)
    (hy : vs[i]? = some y) (hi : (i : Int) < 2 ^ 63) (hq : R (.done (.ret y)) s) : wpAny (model prog w) A (Builtin.«tuple.__getitem__» ⟨[.ref x, .int (i : Int) u], []⟩) R E s := by
  obtain ⟨hp, g, d, tk, os⟩ := s
  have f1 := AutoSeq1.idx_int
  have hl : hp.get? x = some (tokObj vs n) := hx.hx
  have hlt : i < vs.length := (List.getElem?_eq_some_iff.mp hy).1
  have hf : ¬ (decide ((i : Int) < -2 ^ 63) || decide ((i : Int) ≥ 2 ^ 63)) = true := by simp; omega
  have hk : seqIndex? (i : Int) vs.toArray.size = some i := by rw [seqIndex_of (by omega) (by rw [List.size_toArray]; omega)]; rfl
  have hy' : vs.toArray[i]? = some y := by rw [List.getElem?_toArray]; exact hy
  wp_walk using wpAny_loadPart' hl
  simp only [hk, hy', Option.bind_some]
  refine wpAny_ite_false (by simp; omega) ?_
  wp_walk
  exact hq

theorem tok_getitem {vs : List Value} {n : Nat × Addr} {i : Nat} {u : Tok} {y : Value} (X : K.In s.heap) (hx : TokHp s.heap x vs n) (hm : mroIn K 141 (.type "tuple") = some true)
    (hy : vs[i]? = some y) (hi : (i : Int) < 2 ^ 63) (hq : Q y s) : wpAny (model prog w) A (call (.builtin "tuple.__getitem__") [.ref x, .int (i : Int) u]) Q E s := by
  refine wpAny_call (codeAny_call_builtin slot_tuple_getitem.plain entry_tuple_getitem ?_)
  refine check_slot (i := "tuple.__getitem__") (self := .ref x) (rest := [.int (i:Int) u]) (kw := []) (owner := "tuple") (n := "__getitem__") tg_kind tg_split (looks_isi X (inst_tok hx) hm) ?_ ?_
  · exact args_tuple_getitem _ _
  · exact tok_getitem_code hx hy hi hq

theorem tok_getItem {vs : List Value} {n : Nat × Addr} {i : Nat} {u : Tok} {y : Value} (X : K.In s.heap) (hx : TokHp s.heap x vs n) (hm : mroIn K 141 (.type "tuple") = some true)
    (hns : noSeq K 141 = true) (hs : findIn K (.ref 141) "__getitem__" = some (some (.builtin "tuple.__getitem__")))
    (hy : vs[i]? = some y) (hi : (i : Int) < 2 ^ 63) (hq : Q y s) : wpAny (model prog w) A (getItem (.ref x) (.int (i : Int) u)) Q E s := by
  have I := inst_tok hx
  unfold getItem sequenceKey
  refine wpAny_holding (wpAny_bind (wpAny_bind (I.type.here ?_)))
  refine wpAny_bind ((anyM_none X hns).here ?_)
  rw [if_pos (show (!false) = true from rfl)]
  refine wpAny_pure (wpAny_bind ?_)
  refine wpAny_bind (wpAny_bind (I.type.here ((looks_findIn X hs).here (wpAny_holding (wpAny_bind ?_)))))
  rw [slot_tuple_getitem.bind]
  refine wpAny_pure (wpAny_bind (wpAny_mono (tok_getitem X hx hm hy hi (Q := fun v s' => v = y ∧ Q v s') ⟨rfl, hq⟩) (fun v s' z => ?_) fun _ _ z => z))
  exact wpAny_pure (wpAny_pure z.2)

/-- tok[i] -/
theorem tok_item {value slice : Expr} {vs : List Value} {n : Nat × Addr} {i : Nat} {u : Tok} {y : Value} (X : K.In s.heap) (hx : TokHp s.heap x vs n) (hm : mroIn K 141 (.type "tuple") = some true)
    (hns : noSeq K 141 = true) (hs : findIn K (.ref 141) "__getitem__" = some (some (.builtin "tuple.__getitem__")))
    (hy : vs[i]? = some y) (hi : (i : Int) < 2 ^ 63) (hq : Q y s)
    (hsl : subscripted slice false (.ref x) (.int (i : Int) u) = operate [.ref x, .int (i : Int) u] (getItem (.ref x) (.int (i : Int) u)) := by with_unfolding_all rfl) : wpAny (model prog w) A (subscriptTail value slice (.ref x) (.int (i : Int) u)) Q E s := by
  have I := inst_tok hx
  unfold subscriptTail getitemInPython
  refine wpAny_bind (wpAny_bind (wpAny_bind (I.type.here ((looks_findIn X hs).here ?_))))
  refine wpAny_pure ?_
  rw [hsl]
  refine wpAny_bind (wpAny_operating (wpAny_mono (tok_getItem X hx hm hns hs hy hi (Q := Q) hq) (fun r s₃ h₃ => ?_) fun _ _ x => x))
  exact wpAny_bind (wpAny_letTemporaryGo (wpAny_pure h₃))
end
theorem ga_kind : builtinKind "tuple.__getattribute__" = some .slot := by decide +kernel
theorem ga_split : splitId "tuple.__getattribute__" = some ("tuple", "__getattribute__") := by decide +kernel
theorem ga_entry : entryFor table "tuple.__getattribute__" = some Builtin.«object.__getattribute__» := PySem.F.entry_tuple_ga
theorem ga_args (a b : Value) : argsOk "tuple.__getattribute__" ⟨[a, b], []⟩ := by unfold argsOk; kernel_rfl
theorem ga_plain : plainId "tuple.__getattribute__" = true := by decide +kernel
theorem ga_ne : (Value.builtin "tuple.__getattribute__" == Value.builtin "object.__getattribute__") = false := by decide +kernel
theorem ga_bind (self : Value) : bindSpecial (.builtin "tuple.__getattribute__") self = pure (.builtin "tuple.__getattribute__", [self]) :=
  (Slot.of (T := "tuple") (name := "__getattribute__") (owner := "tuple") (n := "__getattribute__") (by rw [typeLookup_type, builtinLookup_eq_fast]; kernel_rfl) (by decide +kernel) (by decide +kernel) (by decide +kernel)
    (.inl (by decide +kernel)) (by rw [isSubtype_type]; kernel_rfl)).bind self
section
variable {prog : Program} {w : World} {M : Model} {A : Around} {E : Value → Shared → Prop} {Q : Value → Shared → Prop} {s : Shared} {K : Frag} {x C : Addr} {h : Heap} {ox : Obj} {od : Option Obj} {name : Str} {expr : Bool}

/-- an attribute of an object of a tuple's subclass, met as a data descriptor of the class -/
theorem get_bind_tup {g a : Value} (X : K.In s.heap) (I : InstAt s.heap x ox C od) (hga : findIn K (.ref C) "__getattribute__" = some (some (.builtin "tuple.__getattribute__")))
    (hk : findIn K (.ref C) "__getattr__" = some none) (hm : mroIn K C (.type "tuple") = some true) (hf : findObj K C od name = some (.bind g a))
    (h : wpAny (model prog w) A.in1 (call g [a, .ref x, .ref C]) (fun v s' => wpAny (model prog w) A (handedOut v) Q E s') (fun _ _ => False) { s with toks := s.toks + 1 }) :
    wpAny (model prog w) A (getAttr (.ref x) name expr) Q E s := by
  obtain ⟨hh, gg, d, t, os⟩ := s
  have L0 := I.type (M := model prog w)
  have L1 := looks_findIn (M := model prog w) X hga
  have L2 := looks_find (M := model prog w) X I hf
  have L3 : Looks (model prog w) hh (hookBefore (.ref C)) none := looks_hook X (by rw [show onTheHeap (.ref C) = true from rfl, if_pos rfl]; exact hk)
  unfold getAttr getAttrBy
  refine wpAny_bind (wpAny_mkText (wpAny_holding (wpAny_bind (L0.at (wpAny_bind (L1.at ?_))))))
  dsimp only
  rw [show (onTheHeap (.ref C) && Value.builtin "tuple.__getattribute__" == Value.builtin "object.__getattribute__") = false from by rw [ga_ne, Bool.and_false], if_neg (by decide)]
  unfold getAttrByItsOwn
  refine wpAny_bind (L3.at (wpAny_bind (wpAny_attempt (wpAny_holding ?_))))
  unfold callGetattribute
  rw [show (expr && onTheHeap (Value.builtin "tuple.__getattribute__")) = false from Bool.and_false _, if_neg (by decide)]
  unfold boundAndCalled
  rw [ga_bind]
  refine wpAny_bind (wpAny_pure ?_)
  show wpAny _ _ (call (.builtin "tuple.__getattribute__") [.ref x, .str name t]) _ _ _
  refine wpAny_call (codeAny_call_builtin ga_plain ga_entry ?_)
  refine check_slot (i := "tuple.__getattribute__") (owner := "tuple") (n := "__getattribute__") (self := .ref x) (rest := [.str name t]) (kw := []) ga_kind ga_split (looks_isi X I hm) ?_ ?_
  · exact ga_args _ _
  · unfold Builtin.«object.__getattribute__»
    refine wpAny_bind (wpAny_pure (wpAny_bind (wpAny_pure (wpAny_bind (L0.at (wpAny_bind (L2.at ?_)))))))
    show wpAny _ _ (holding [a] (call g [a, .ref x, .ref C]) >>= ret) _ _ _
    exact wpAny_bind (wpAny_holding (wpAny_mono h (fun v s' z => wpAny_pure z) fun _ _ z => z.elim))
theorem findObj_tup {a g : Value} (hc : (clsIn K C).isSome = true) (ha : findIn K (.ref C) name = some (some a)) (hg : specialIn K a "__get__" = some (some g)) (ht : takesIn K a = some true) : findObj K C od name = some (.bind g a) := by
  obtain ⟨cd, hc⟩ := Option.isSome_iff_exists.mp hc
  unfold findObj
  rw [hc, Option.bind_some, ha, Option.bind_some]
  simp [hg, ht]
end
abbrev AA (dp un : Nat) (gd : Option (List Code)) (cn : Str) (cs : Scope) (L a : Addr) (ccd : Value) (outer : List Env) : Around := { handled := none, depth := dp, frames := some (envOf cn cs L a ccd :: outer), guards := gd, units := un }
/-- what a call of a def does: hands back, or raises -/
def Spec (w : World) (mean : ExcName → Option Value) (mg mb : Str → Option Value) (f : Addr) (args : List Value) (nd nu : Nat) (news : List (Addr × Obj)) (Ok : List (Addr × Obj) → Value → Prop) (Er : Value → Prop) : Prop :=
  ∀ (dp un : Nat) (cn : Str) (cs : Scope) (a : Addr) (ccd : Value) (outer : List Env) (A₀ : Around) (base h₀ : Heap) (L : Addr) (m : Str → Option Value) (s : Shared) (Q E : Value → Shared → Prop),
    Below A₀ base outer h₀ → Fr h₀ L s.heap m → (hd.heap_39 w.params).In h₀ → News h₀ L s.heap news → Top hd.view_39 lo mean mg mb h₀ → cs.kind = .function →
    dp + nd < recursionLimit → un + nu < cLine →
    (∀ r nw h' tk', Fr h₀ L h' m → News h₀ L h' nw → (∀ p ∈ news, p ∈ nw) → Ok nw r → Q r { s with heap := h', toks := tk' }) →
    (∀ e cls h' tk' g₂, Er cls → Fr h₀ L g₂ m → g₂.UpToSlots h' → RaisedN base (envOf cn cs L a ccd :: outer) e cls news h' → E (.ref e) { s with heap := h', toks := tk' }) →
    wpAny (model PySem.Challenge.rw_fe0201_01.row.prog w) (AA dp un (some []) cn cs L a ccd outer) (call (.ref f) args) Q E s
section
local macro_rules | `(tactic| walk_at "my enter") => `(tactic| (refine' code_def ?k1 ?k2 ?k3 ?k4 ?k5 ?kA ?kF ?kK ?k6 ?k7 ?k8 ?k9 ?kB ?_ ?c2 ?c3 ?c4 ?c5; (case kA => exact rfl); (case kF => exact rfl); (case kK => first | exact rfl | assumption); (case k1 => k_asm); (case k2 => k_asm); (case k3 => k_asm); (case k4 => k_asm); (case k5 => k_asm); (case k6 => k_is); (case k7 => k_is); (case k8 => ktr_room); (case k9 => first | exact BindsTo.of_eq rfl | exact binds_K (by k_in) rfl (by k_is) rfl rfl rfl); (case c5 => decide); (case kB => exact locs rfl); (case c2 => exact rfl); (case c3 => exact rfl); (case c4 => exact rfl); k_whole; intro g' L' h' FG' F' N' B' X' T'; (try dsimp only); (try k_fold)))
local macro_rules | `(tactic| k_mem) => `(tactic| assumption)
theorem issub_tok {prog : Program} {w : World} {A : Around} {E : Value → Shared → Prop} {Q : Value → Shared → Prop} {s : Shared} (X : (hd.heap_39 w.params).In s.heap) (hq : Q (.bool true) s) : wpAny (model prog w) A (call (.builtin "issubclass") [.ref 141, .type "tuple"]) Q E s := by
  refine wpAny_call (codeAny_call_builtin F.plain_issubclass F.entry_issubclass ?_)
  simp only [checkBuiltinCall, F.kind_issubclass]
  refine wpAny_pure (issubclass_outer ?_)
  unfold Builtin.«issubclass.nested»
  refine wpAny_bind ?_
  rw [show typeOf (.type "tuple") = pure (.type "type") from rfl]
  refine wpAny_pure ?_
  rw [if_pos (by rfl)]
  refine wpAny_bind (Looks.here (r := true) (Looks.of_peek X (by kernel_rfl)) ?_)
  exact wpAny_pure hq
local macro_rules | `(tactic| walk_at "call type:type") => `(tactic| (k_here; (with_reducible show wpAny _ _ (call (Value.type "type") [Value.ref _]) _ _ _); k_dflt (refine' type_at (o := tokObj _ _) ?a ?b ?_; (case a => exact (TokIn.hp (by k_asm) (by assumption)).hx); (case b => rfl))))
local macro_rules | `(tactic| walk_at "call builtin:issubclass") => `(tactic| (k_here; k_dflt (refine' issub_tok ?a ?_; (case a => k_in))))
theorem tuple_meta : typeOf (.type "tuple") = pure (.type "type") := rfl
local macro_rules | `(tactic| walk_at "getMethod type:tuple") => `(tactic| (k_here; refine' method_type ?F ?X ?m (by decide +kernel) ?e ?h ?_; (case F => k_asm); (case X => k_asm); (case m => exact tuple_meta); (case e => k_dflt k_is); (case h => k_handed)))
local macro_rules | `(tactic| walk_at "call builtin:tuple.__getitem__") => `(tactic| (k_here; k_dflt (refine' tok_getitem ?X ?hx ?m ?y ?i ?_; (case X => k_in); (case hx => exact (TokIn.hp (by k_asm) (by assumption))); (case m => k_is); (case y => assumption); (case i => decide))))
theorem get_type (w : World) (mean : ExcName → Option Value) (mg mb : Str → Option Value) (x : Addr) (vs : List Value) (n : Nat × Addr) (news : List (Addr × Obj)) (hx : TokIn news x vs n) (v : Value) (h1 : vs[0]? = some v) :
    Spec w mean mg mb 43 [.ref 124, .ref x, .ref 141] 5 20 news (fun _ r => r = v) (fun _ => False) := by
  revert w mean mg mb x vs n news hx v h1
  unfold Spec
  k_fill
  intro w mean mg mb x vs n news hx v h1 dp un cn cs a ccd outer A₀ base h₀ L m s Q E B F X N T hk hd1 hu hQ hE
  refine wpAny_call ?_
  k_dflt (walk_at "my enter")
  k_steps
  exact hQ _ _ _ _ (by k_asm) (by k_asm) (fun _ h => h) rfl
theorem get_string (w : World) (mean : ExcName → Option Value) (mg mb : Str → Option Value) (x : Addr) (vs : List Value) (n : Nat × Addr) (news : List (Addr × Obj)) (hx : TokIn news x vs n) (v : Value) (h1 : vs[1]? = some v) :
    Spec w mean mg mb 43 [.ref 127, .ref x, .ref 141] 5 20 news (fun _ r => r = v) (fun _ => False) := by
  revert w mean mg mb x vs n news hx v h1
  unfold Spec
  k_fill
  intro w mean mg mb x vs n news hx v h1 dp un cn cs a ccd outer A₀ base h₀ L m s Q E B F X N T hk hd1 hu hQ hE
  refine wpAny_call ?_
  k_dflt (walk_at "my enter")
  k_steps
  exact hQ _ _ _ _ (by k_asm) (by k_asm) (fun _ h => h) rfl
theorem tok_type : ∀ {w : World} {mean : ExcName → Option Value} {mg mb : Str → Option Value} {dp un : Nat} {cn : Str} {cs : Scope} {a : Addr} {ccd : Value} {outer : List Env} {A₀ : Around} {base h₀ : Heap} {L : Addr} {m : Str → Option Value} {s : Shared} {Q E : Value → Shared → Prop}
    {news : List (Addr × Obj)} {x : Addr} {vs : List Value} {n : Nat × Addr} {v : Value} {expr : Bool}
    (B : Below A₀ base outer h₀) (F : Fr h₀ L s.heap m) (X : (hd.heap_39 w.params).In h₀) (N : News h₀ L s.heap news) (T : Top hd.view_39 lo mean mg mb h₀) (hk : cs.kind = .function) (hd1 : dp + 6 < recursionLimit) (hu : un + 30 < cLine) (hx : TokIn news x vs n) (h1 : vs[0]? = some v) (hv : handedIn v = true)
    (h : ∀ h' tk', Fr h₀ L h' m → News h₀ L h' news → Q v { s with heap := h', toks := tk' }),
    wpAny (model PySem.Challenge.rw_fe0201_01.row.prog w) (AA dp un (some []) cn cs L a ccd outer) (getAttr (.ref x) (Str.ofString "type") expr) Q E s := by
  k_fill
  intro w mean mg mb dp un cn cs a ccd outer A₀ base h₀ L m s Q E news x vs n v expr B F X N T hk hd1 hu hx h1 hv h
  have XS := X.keeps F.keep
  refine get_bind_tup (K := hd.heap_39 w.params) (C := 141) (ox := tokObj vs n) (od := some emptyDict) (g := .ref 43) (a := .ref 124) XS (inst_tok (hx.hp N)) ?ga ?gn ?gm ?fo ?call
  case ga => k_dflt k_is
  case gn => k_dflt k_is
  case gm => k_dflt k_is
  case fo => exact findObj_tup (K := hd.heap_39 w.params) (C := 141) (od := some emptyDict) (a := .ref 124) (g := .ref 43) (by rfl) (by k_dflt k_is) (by k_dflt k_is) (by k_dflt k_is)
  case call =>
    refine get_type w mean mg mb x vs n news hx v h1 _ _ _ _ _ _ _ _ _ _ _ _ { s with toks := s.toks + 1 } _ _ B F X N T hk (by show dp + 5 < _; omega) (by show un + _ + 20 < _; omega) (fun r nw h' tk' F' N' sub e => ?_) (fun _ _ _ _ _ z => z.elim)
    rw [e, handedOut_of hv]
    exact wpAny_pure (h h' tk' F' (fun p hp => N' p (sub p hp)))
theorem tok_string : ∀ {w : World} {mean : ExcName → Option Value} {mg mb : Str → Option Value} {dp un : Nat} {cn : Str} {cs : Scope} {a : Addr} {ccd : Value} {outer : List Env} {A₀ : Around} {base h₀ : Heap} {L : Addr} {m : Str → Option Value} {s : Shared} {Q E : Value → Shared → Prop}
    {news : List (Addr × Obj)} {x : Addr} {vs : List Value} {n : Nat × Addr} {v : Value} {expr : Bool}
    (B : Below A₀ base outer h₀) (F : Fr h₀ L s.heap m) (X : (hd.heap_39 w.params).In h₀) (N : News h₀ L s.heap news) (T : Top hd.view_39 lo mean mg mb h₀) (hk : cs.kind = .function) (hd1 : dp + 6 < recursionLimit) (hu : un + 30 < cLine) (hx : TokIn news x vs n) (h1 : vs[1]? = some v) (hv : handedIn v = true)
    (h : ∀ h' tk', Fr h₀ L h' m → News h₀ L h' news → Q v { s with heap := h', toks := tk' }),
    wpAny (model PySem.Challenge.rw_fe0201_01.row.prog w) (AA dp un (some []) cn cs L a ccd outer) (getAttr (.ref x) (Str.ofString "string") expr) Q E s := by
  k_fill
  intro w mean mg mb dp un cn cs a ccd outer A₀ base h₀ L m s Q E news x vs n v expr B F X N T hk hd1 hu hx h1 hv h
  have XS := X.keeps F.keep
  refine get_bind_tup (K := hd.heap_39 w.params) (C := 141) (ox := tokObj vs n) (od := some emptyDict) (g := .ref 43) (a := .ref 127) XS (inst_tok (hx.hp N)) ?ga ?gn ?gm ?fo ?call
  case ga => k_dflt k_is
  case gn => k_dflt k_is
  case gm => k_dflt k_is
  case fo => exact findObj_tup (K := hd.heap_39 w.params) (C := 141) (od := some emptyDict) (a := .ref 127) (g := .ref 43) (by rfl) (by k_dflt k_is) (by k_dflt k_is) (by k_dflt k_is)
  case call =>
    refine get_string w mean mg mb x vs n news hx v h1 _ _ _ _ _ _ _ _ _ _ _ _ { s with toks := s.toks + 1 } _ _ B F X N T hk (by show dp + 5 < _; omega) (by show un + _ + 20 < _; omega) (fun r nw h' tk' F' N' sub e => ?_) (fun _ _ _ _ _ z => z.elim)
    rw [e, handedOut_of hv]
    exact wpAny_pure (h h' tk' F' (fun p hp => N' p (sub p hp)))
end
theorem tick_1 {prog : Program} {w : World} {A : Around} {E : Value → Shared → Prop} {env : Env} {Q : Flow → Shared → Prop} {s : Shared} (h : Q .next s) : wpAny (model prog w) A (execs [] env) Q E s := by
  walk1
  exact h
section
open Builtin Builtin.ObjectAttr
abbrev dseObj (dct : Option Addr) (t : Addr) : Obj := { cls := .ref 181, dict := dct, data := .fields #[.ref t, .none, .none, .none, .bool false, .none] }
abbrev dseMro : List Value := [.ref 181, .type "ValueError", .ref 154, .type "Exception", .type "BaseException", .type "object"]
section
variable {prog : Program} {w : World} {A : Around} {E : Value → Shared → Prop} {s : Shared}
theorem inst_dse {h : Heap} {e t : Addr} (he : h.get? e = some (dseObj none t)) : InstAt h e (dseObj none t) 181 none := ⟨he, rfl, rfl, trivial⟩
theorem osa_dse {e t : Addr} {tk : Tok} {v : Value} {R : Result → Shared → Prop} (X : (hd.heap_39 w.params).In s.heap) (he : s.heap.get? e = some (dseObj none t))
    (hq : ∀ h' tk' dx, (∀ b o, b ≠ e → s.heap.get? b = some o → h'.get? b = some o) → h'.get? e = some (dseObj (some dx) t) → R (.ok (.ret .none)) { s with heap := h', toks := tk' }) :
    codeAny (model prog w) A (.call (.builtin "object.__setattr__") ⟨[.ref e, .str (Str.ofString "msg") tk, v], []⟩) R s := by
  have SF := PySem.F.store_object
  have I := inst_dse he
  have sub : Looks (model prog w) s.heap (isInstance (.ref e) (.type "object")) true := looks_isi X I (by rfl)
  have hcls : clsIn (hd.heap_39 w.params) 181 = some _ := rfl
  have hm : Looks (model prog w) s.heap (mroOf (.ref 181)) dseMro := Looks.of_peek X (by kernel_rfl)
  have hr : Looks (model prog w) s.heap (refuseLoop (.ref e) (Str.ofString "__setattr__") dseMro) () := Looks.of_peek X (by kernel_rfl)
  have hl : Looks (model prog w) s.heap (typeLookup (.ref 181) (Str.ofString "msg")) none := Looks.of_peek X (by kernel_rfl)
  have hc : Looks (model prog w) s.heap (classData 181) _ := looks_clsIn X hcls
  refine codeAny_call_builtin SF.slot.plain SF.entry (@check_slot (model prog w) _ _ s "object.__setattr__" "object" "__setattr__" (.ref e) [.str (Str.ofString "msg") tk, v] [] _ SF.kind SF.split sub (SF.args (.ref e) (.str (Str.ofString "msg") tk) v) ?_)
  rw [osa_eq, refuse_eq]
  refine wpAny_bind (wpAny_bind (I.type.here (wpAny_bind (hm.here (hr.here ?_)))))
  refine wpAny_bind (I.type.here (wpAny_bind (hl.here (wpAny_bind (wpAny_pure ?_)))))
  show wpAny _ _ (storeInOwnDict _ _ _ _ _ _) _ _ _
  unfold storeInOwnDict
  refine wpAny_bind (wpAny_pure ?_)
  rw [if_neg (by rw [show (Value.ref 181 == Value.type "module") = false from rfl]; decide)]
  obtain ⟨hh, g, d, tks, os⟩ := s
  have he' : hh.get? e = some (dseObj none t) := he
  have hlt : e < hh.objs.size := Heap.lt_size he'
  have p1 : (hh.push emptyDict).get? e = some (dseObj none t) := Heap.get?_push_of_some _ he'
  have d1 : (hh.push emptyDict).get? hh.objs.size = some emptyDict := Heap.get?_push_size _ rfl
  have ne : e ≠ hh.objs.size := Nat.ne_of_lt hlt
  refine wpAny_bind (wpAny_bind (wpAny_loadPart he' ?_))
  try dsimp only
  refine wpAny_bind (hc.here ?_)
  rw [if_neg (by decide)]
  try dsimp only
  rw [if_neg (by rw [show typeHasDict (Value.ref 181) = true from rfl]; decide)]
  refine wpAny_bind (wpAny_alloc (wpAny_bind (wpAny_update p1 ?_)))
  have p2 : ((hh.push emptyDict).update e (fun o => { o with dict := some hh.objs.size })).get? e = some (dseObj (some hh.objs.size) t) := Heap.get?_update_self _ p1 rfl
  have d2 : ((hh.push emptyDict).update e (fun o => { o with dict := some hh.objs.size })).get? hh.objs.size = some emptyDict := (Heap.get?_update_ne _ _ _ _ (Ne.symm ne)).trans d1
  refine wpAny_pure ?_
  dsimp only
  refine wpAny_bind (wpAny_pure (wpAny_bind ?_))
  unfold nsSet
  refine wpAny_bind (wpAny_bind (wpAny_askSetting (wpAny_pure (wpAny_bind (wpAny_mkText (wpAny_bind (wpAny_loadPart d2 ?_)))))))
  dsimp only
  rw [if_neg (by rw [aRefKeyMayBeTheName_at]; simp)]
  refine wpAny_updatePart d2 ?_
  have pn : Obj.putName (Str.ofString "msg") (PyData.keyHash w.params (Str.ofString "msg")) (.str (Str.ofString "msg") tks) v emptyDict = dictOf [⟨PyData.keyHash w.params (Str.ofString "msg"), .str (Str.ofString "msg") tks, v⟩] 1 := by
    rw [show emptyDict = dictOf [] 0 from rfl, putName_dict]; rfl
  have d3 := Heap.get?_update_self (Obj.putName (Str.ofString "msg") (PyData.keyHash w.params (Str.ofString "msg")) (.str (Str.ofString "msg") tks) v) d2 (by rw [pn]; rfl)
  rw [pn] at d3
  refine wpAny_bind (wpAny_lookBehind d3 (pastItsLine_dict (by rw [sizeLine_eq]; simp)) ?_)
  refine wpAny_pure (hq _ _ hh.objs.size (fun b o hb ho => ?_) ?_)
  · have hb' : b < hh.objs.size := Heap.lt_size ho
    exact (Heap.get?_update_ne _ _ _ _ (Nat.ne_of_lt hb')).trans ((Heap.get?_update_ne _ _ _ _ hb).trans (Heap.get?_push_of_some _ ho))
  · exact (Heap.get?_update_ne _ _ _ _ ne).trans p2
theorem setattr_dse {h₀ : Heap} {L : Addr} {m : Str → Option Value} {rest : List (Addr × Obj)} {e t : Addr} {v : Value} {Q : Unit → Shared → Prop} (F : Fr h₀ L s.heap m) (X : (hd.heap_39 w.params).In h₀) (N : News h₀ L s.heap ((e, dseObj none t) :: rest)) (hne : ∀ p ∈ rest, p.1 ≠ e)
    (hq : ∀ h' tk' dx, Fr h₀ L h' m → News h₀ L h' ((e, dseObj (some dx) t) :: rest) → Q () { s with heap := h', toks := tk' }) : wpAny (model prog w) A (setAttr (.ref e) (Str.ofString "msg") v) Q E s := by
  have Ne := N _ (List.mem_cons_self ..)
  have XS := X.keeps F.keep
  refine set_plain XS (inst_dse Ne.1) (by rfl) (osa_dse (s := { s with toks := s.toks + 1 }) XS Ne.1 fun h' tk' dx k ke => ?_)
  obtain ⟨oL, es, ep, hL, r⟩ := F.ns
  refine hq h' tk' dx ⟨⟨oL, es, ep, k L oL (Ne.2.1 ∘ Eq.symm) hL, r⟩, fun b o hb => k b o (fun q => ?_) (F.keep b o hb), F.above⟩ fun p hp => ?_
  · rw [q, Ne.2.2] at hb; cases hb
  · rcases List.mem_cons.mp hp with rfl | hp
    · exact ⟨ke, Ne.2⟩
    · have := N p (List.mem_cons_of_mem _ hp)
      exact ⟨k _ _ (hne p hp) this.1, this.2⟩
end
section
variable {prog : Program} {w : World} {A : Around} {R : Result → Shared → Prop} {h : Heap} {g : Array GenState} {d : Drawn} {t : Nat} {os : OsState}
abbrev bmV : List Value := [.type "ValueError", .type "Exception", .type "BaseException", .type "object"]
theorem dse_hC (X : (hd.heap_39 w.params).In h) : ∃ nm q bs hdct sn sub ab col dd k0 k1 k2 k3 k5, h.get? 181 = some (excClassObj nm q 181 180 bs [.type "ValueError", .ref 154, .type "Exception", .type "BaseException", .type "object"] hdct sn sub ab col dd k0 k1 k2 k3 k5 "ValueError.__new__") :=
  ⟨_, _, _, _, _, _, _, _, _, _, _, _, _, _, X 181 _ (by rfl)⟩
theorem new_dse (X : (hd.heap_39 w.params).In h) {v : Value}
    (hq : R (.ok (.ret (.ref (h.objs.size + 1)))) ⟨(h.push { cls := .type "tuple", data := .seq #[v] }).push (dseObj none h.objs.size), g, d, t, os⟩) :
    codeAny (model prog w) A (.call (.builtin "ValueError.__new__") ⟨[.ref 181, v], []⟩) R ⟨h, g, d, t, os⟩ := by
  obtain ⟨nm, q, bs, hdct, sn, sub, ab, col, dd, k0, k1, k2, k3, k5, hC⟩ := dse_hC X
  have F := PySem.F.excBase_ValueError
  have hcB : ([.ref 181, .type "ValueError", .ref 154, .type "Exception", .type "BaseException", .type "object"] : List Value).contains (.type "ValueError") = true := by decide +kernel
  have hcA : ([.ref 181, .type "ValueError", .ref 154, .type "Exception", .type "BaseException", .type "object"] : List Value).contains (.type "AttributeError") = false := by decide +kernel
  have hcN : ([.ref 181, .type "ValueError", .ref 154, .type "Exception", .type "BaseException", .type "object"] : List Value).contains (.type "NameError") = false := by decide +kernel
  have hstar := F.noStar
  refine codeAny_call_builtin_code (Code.quiet_builtin _ F.quiet) ?_
  simp only [checkBuiltinCall, F.newKind, F.newSplit, F.newRow]
  repeat (first | refine wpAny_loadPart_at hC ?_ | (refine wpAny_isSubtype_exc hC ?_; rw [hcB]) | refine wpAny_staticBase_exc hC ?_ | refine wpAny_madeBy_exc hC ?_ | simp only [bne_self_eq_false, Bool.false_eq_true, if_false] | wp_step)
  have hends := F.ends
  refine PySem.codeAny_builtinAt F.entry ?_
  unfold Builtin.«BaseException.__new__»
  refine PySem.wpAt_bind ?_
  show PySem.wpAt _ _ _ (stack >>= _) _ _ _
  refine PySem.wpAt_bind (PySem.wpAt_stack fun p below => PySem.wpAt_of_wpAny ?_)
  wp_walk
  refine PySem.wpAt_of_wpAny ?_
  rw [F.owner]
  repeat (first | with_reducible refine wpAny_madeHere_exc F.canon hC ?_ | with_reducible refine wpAny_loadPart_at hC ?_ | (with_reducible refine wpAny_isSubtype_exc hC ?_; first | rw [hcB] | rw [hcA] | rw [hcN]) | wp_step)
  show R _ _
  rw [Heap.size_push]
  exact hq
end
end
section
open Builtin Builtin.ObjectAttr
local macro_rules | `(tactic| walk_at "my enter") => `(tactic| (refine' code_def ?k1 ?k2 ?k3 ?k4 ?k5 ?kA ?kF ?kK ?k6 ?k7 ?k8 ?k9 ?kB ?_ ?c2 ?c3 ?c4 ?c5; (case kA => exact rfl); (case kF => exact rfl); (case kK => first | exact rfl | assumption); (case k1 => k_asm); (case k2 => k_asm); (case k3 => k_asm); (case k4 => k_asm); (case k5 => k_asm); (case k6 => k_is); (case k7 => k_is); (case k8 => ktr_room); (case k9 => first | exact BindsTo.of_eq rfl | exact binds_K (by k_in) rfl (by k_is) rfl rfl rfl); (case c5 => decide); (case kB => exact locs rfl); (case c2 => exact rfl); (case c3 => exact rfl); (case c4 => exact rfl); k_whole; intro g' L' h' FG' F' N' B' X' T'; (try dsimp only); (try k_fold)))
local macro_rules | `(tactic| walk_at "setAttr ref") => `(tactic| (k_here; k_dflt (refine' setattr_dse ?F ?X ?N ?ne ?_; (case F => k_asm); (case X => k_asm); (case N => k_asm); (case ne => assumption); intro h' tk' dx' F' N'; (try k_sweep))))
theorem init_dse : ∀ (w : World) {mean : ExcName → Option Value} {mg mb : Str → Option Value} {dp un : Nat} {gd : Option (List Code)} {cn : Str} {cs : Scope} {a : Addr} {ccd : Value} {outer : List Env} {A₀ : Around} {base h₀ : Heap} {L : Addr} {m : Str → Option Value} {s : Shared}
    {news : List (Addr × Obj)} {e t : Addr} {v : Value} {R : Result → Shared → Prop} (B : Below A₀ base outer h₀) (F : Fr h₀ L s.heap m) (X : (hd.heap_39 w.params).In h₀) (N : News h₀ L s.heap ((e, dseObj none t) :: news)) (hne : ∀ p ∈ news, p.1 ≠ e) (T : Top hd.view_39 lo mean mg mb h₀) (hk : cs.kind = .function)
    (hd1 : dp + 5 < recursionLimit) (hu : un + 20 < cLine)
    (hR : ∀ h' tk' dx, Fr h₀ L h' m → News h₀ L h' ((e, dseObj (some dx) t) :: news) → R (.ok (.ret .none)) { s with heap := h', toks := tk' }),
    codeAny (model PySem.Challenge.rw_fe0201_01.row.prog w) (AA dp un gd cn cs L a ccd outer) (.call (.ref 171) ⟨[.ref e, v], []⟩) R s := by
  k_fill
  intro w mean mg mb dp un gd cn cs a ccd outer A₀ base h₀ L m s news e t v R B F X N hne T hk hd1 hu hR
  k_dflt (walk_at "my enter")
  k_steps
  exact hR _ _ _ (by k_asm) (by k_asm)
theorem make_dse {w : World} {A : Around} {R : Result → Shared → Prop} {h : Heap} {g : Array GenState} {d : Drawn} {t : Nat} {os : OsState} {v : Value} (X : (hd.heap_39 w.params).In h)
    (hq : codeAny (model PySem.Challenge.rw_fe0201_01.row.prog w) (A.under (.builtin "type.__call__" ⟨[.ref 181, v], []⟩)) (.call (.ref 171) ⟨[.ref (h.objs.size + 1), v], []⟩) (InitBack (h.objs.size + 1) R) ⟨(h.push { cls := .type "tuple", data := .seq #[v] }).push (dseObj none h.objs.size), g, d, t, os⟩) :
    codeAny (model PySem.Challenge.rw_fe0201_01.row.prog w) A (.call (.ref 181) ⟨[v], []⟩) R ⟨h, g, d, t, os⟩ := by
  obtain ⟨nm, q, bs, hdct, sn, sub, ab, col, dd, k0, k1, k2, k3, k5, hC⟩ := dse_hC X
  have call : Looks (model PySem.Challenge.rw_fe0201_01.row.prog w) h (specialOf (.ref 181) "__call__") (some (.builtin "type.__call__")) := Looks.of_peek X (by kernel_rfl)
  have typ : Looks (model PySem.Challenge.rw_fe0201_01.row.prog w) h (isInstance (.ref 181) (.type "type")) true := Looks.of_peek X (by kernel_rfl)
  have hm : Looks (model PySem.Challenge.rw_fe0201_01.row.prog w) h (mroOf (.ref 181)) dseMro := Looks.of_peek X (by kernel_rfl)
  have made : Looks (model PySem.Challenge.rw_fe0201_01.row.prog w) h (Bind.madeBy (.ref 181)) (some "ValueError.__new__") := Looks.of_peek X (by kernel_rfl)
  refine codeAny_of_tree ?_
  show wpAny _ _ (callAny (.ref 181) _) _ _ _
  refine nd_load hC ?_
  show wpAny _ _ (callAny.viaDunder (.ref 181) _) _ _ _
  unfold callAny.viaDunder
  refine wpAny_bind (call.at ?_)
  dsimp only
  rw [tc_bind]
  refine wpAny_bind (wpAny_pure (wpAny_bind (wpAny_pure ?_)))
  refine wpAny_pure (a := Fin.again (.call (.builtin "type.__call__") ⟨[.ref 181, v], []⟩)) (And.intro rfl ?_)
  refine codeAny_call_builtin_at (Code.quiet_builtin _ (by decide +kernel)) entry_typeCall (check_slot (i := "type.__call__") (owner := "type") (n := "__call__") (self := .ref 181) (rest := [v]) (kw := []) tc_kind tc_split typ (tc_args _ _ _) ?_)
  unfold Builtin.«type.__call__»
  repeat (first | simp only [List.isEmpty_cons, Bool.false_eq_true, if_false] | with_reducible refine wpAny_call ?_ | lk)
  refine new_dse X ?_
  have k : ∀ b o, h.get? b = some o → ((h.push { cls := .type "tuple", data := .seq #[v] }).push (dseObj none h.objs.size)).get? b = some o := fun b o e => Heap.get?_push_of_some _ (Heap.get?_push_of_some _ e)
  have X2 : (hd.heap_39 w.params).In ((h.push { cls := .type "tuple", data := .seq #[v] }).push (dseObj none h.objs.size)) := X.keeps k
  have hx : ((h.push { cls := .type "tuple", data := .seq #[v] }).push (dseObj none h.objs.size)).get? (h.objs.size + 1) = some (dseObj none h.objs.size) := by heap_get
  have i1 : Looks (model PySem.Challenge.rw_fe0201_01.row.prog w) ((h.push { cls := .type "tuple", data := .seq #[v] }).push (dseObj none h.objs.size)) (isInstance (.ref (h.objs.size + 1)) (.ref 181)) true := looks_isi X2 (inst_dse hx) (by rfl)
  have t1 : Looks (model PySem.Challenge.rw_fe0201_01.row.prog w) ((h.push { cls := .type "tuple", data := .seq #[v] }).push (dseObj none h.objs.size)) (typeOf (.ref (h.objs.size + 1))) (.ref 181) := (inst_dse hx).type
  have l1 : Looks (model PySem.Challenge.rw_fe0201_01.row.prog w) ((h.push { cls := .type "tuple", data := .seq #[v] }).push (dseObj none h.objs.size)) (typeLookup (.ref 181) "__init__") (some (.ref 171)) := Looks.of_peek X2 (by kernel_rfl)
  have b1 : Looks (model PySem.Challenge.rw_fe0201_01.row.prog w) ((h.push { cls := .type "tuple", data := .seq #[v] }).push (dseObj none h.objs.size)) (bindSpecial (.ref 171) (.ref (h.objs.size + 1))) (.ref 171, [.ref (h.objs.size + 1)]) := bind_fn X2 _ (by rfl)
  refine wpAny_bind (i1.at ?_)
  rw [if_neg (by decide)]
  unfold callSpecial? specialOf
  repeat (first | with_reducible refine wpAny_call ?_ | lk)
  refine codeAny_mono hq fun r s' z => ?_
  rcases r with e | (v | _ | _ | _) <;> first | exact z | exact z.elim | skip
  obtain ⟨rfl, z⟩ := z
  exact wpAny_pure (wpAny_pure z)

/-- DefinitionSyntaxError(v), called -/
theorem call_dse {w : World} {mean : ExcName → Option Value} {mg mb : Str → Option Value} {dp un : Nat} {gd : Option (List Code)} {cn : Str} {cs : Scope} {a : Addr} {ccd : Value} {outer : List Env} {A₀ : Around} {base h₀ : Heap} {L : Addr} {m : Str → Option Value} {s : Shared}
    {news : List (Addr × Obj)} {v : Value} {Q E : Value → Shared → Prop} (B : Below A₀ base outer h₀) (F : Fr h₀ L s.heap m) (X : (hd.heap_39 w.params).In h₀) (N : News h₀ L s.heap news) (T : Top hd.view_39 lo mean mg mb h₀) (hk : cs.kind = .function)
    (hd1 : dp + 10 < recursionLimit) (hu : un + 40 < cLine)
    (h : ∀ e t dx h' tk', Fr h₀ L h' m → News h₀ L h' news → s.heap.get? e = none → h'.get? e = some (dseObj (some dx) t) → h₀.get? e = none → e ≠ L → Q (.ref e) { s with heap := h', toks := tk' }) :
    wpAny (model PySem.Challenge.rw_fe0201_01.row.prog w) (AA dp un gd cn cs L a ccd outer) (call (.ref 181) [v]) Q E s := by
  obtain ⟨hh, g, d, tk, os⟩ := s
  have XS := X.keeps F.keep
  refine wpAny_call (make_dse XS ?_)
  have F1 := (F.push { cls := .type "tuple", data := .seq #[v] }).push (dseObj none hh.objs.size)
  have N1 := (N.push F { cls := .type "tuple", data := .seq #[v] }).push (F.push _) (dseObj none hh.objs.size)
  rw [Heap.size_push] at N1
  have hw : (Code.builtin "type.__call__" ⟨[.ref 181, v], []⟩).weight = 1 := rfl
  have hw2 : (Code.builtin "type.__call__" ⟨[.ref 181, v], []⟩).cUnits = 1 := rfl
  refine init_dse w (news := (hh.objs.size, { cls := .type "tuple", data := .seq #[v] }) :: news) B F1 X N1 (fun p hp => ?_) T hk (by show dp + _ + 5 < _; rw [hw]; omega) (by show un + _ + 20 < _; rw [hw2]; omega) (fun h' tk' dx F2 N2 => ?_)
  · rcases List.mem_cons.mp hp with rfl | hp
    · exact Nat.ne_of_lt (Nat.lt_succ_self _)
    · exact Nat.ne_of_lt (Nat.lt_succ_of_lt (Heap.lt_size (N p hp).1))
  · have Ne := N2 _ (List.mem_cons_self ..)
    exact ⟨rfl, h _ _ dx h' tk' F2 (fun p hp => N2 p (List.mem_cons_of_mem _ (List.mem_cons_of_mem _ hp))) (Heap.get?_none_of_le (Nat.le_succ _)) Ne.1 Ne.2.2 Ne.2.1⟩
end
theorem tick_2 {prog : Program} {w : World} {A : Around} {E : Value → Shared → Prop} {env : Env} {Q : Flow → Shared → Prop} {s : Shared} (h : Q .next s) : wpAny (model prog w) A (execs [] env) Q E s := by
  walk1
  exact h
section
open Builtin Builtin.ObjectAttr
theorem raise_made {w : World} {A : Around} {E : Value → Shared → Prop} {s : Shared} {env : Env} {x : Sem Value} {Q : Flow → Shared → Prop} (hh : A.handled = none)
    (h : wpAny (model PySem.Challenge.rw_fe0201_01.row.prog w) A x (fun v s₁ => ∃ e t dx, v = .ref e ∧ (hd.heap_39 w.params).In s₁.heap ∧ s₁.heap.get? e = some (dseObj (some dx) t) ∧ E (.ref e) s₁) E s) :
    wpAny (model PySem.Challenge.rw_fe0201_01.row.prog w) A (raiseStmt env (some x) none) Q E s := by
  have hcB : ([.ref 181, .type "ValueError", .ref 154, .type "Exception", .type "BaseException", .type "object"] : List Value).contains (.type "BaseException") = true := by decide +kernel
  unfold raiseStmt
  refine wpAny_bind (wpAny_mono h (fun v s₁ h₁ => ?_) fun _ _ x => x)
  obtain ⟨e, t, dx, rfl, X, he, hE⟩ := h₁
  obtain ⟨nm, q, bs, hdct, sn, sub, ab, col, dd, k0, k1, k2, k3, k5, hC⟩ := dse_hC X
  obtain ⟨hp, g, d, tk, os⟩ := s₁
  repeat (first | with_reducible refine wpAny_loadPart_at he ?_ | with_reducible refine wpAny_loadPart_at hC ?_ | (with_reducible refine wpAny_isSubtype_exc hC ?_; rw [hcB]) | wp_step)
  exact wpAny_raiseNew_none hh hE

/-- an exception of one's own, new, and the frame that it leaves -/
structure NewX (h h' : Heap) (e : Addr) (cls : Value) : Prop where
  keeps : ∀ b o, h.get? b = some o → h'.get? b = some o
  new : h.get? e = none
  there : ∃ oe vs a0, h'.get? e = some oe ∧ oe.cls = cls ∧ oe.data = .fields vs ∧ vs[0]? = some a0 ∧ vs[1]? = some .none
theorem NewX.of {h h' : Heap} {e : Addr} {cls : String} (x : Heap.NewExc h h' e cls) : NewX h h' e (.type cls) := by
  obtain ⟨ob, t, he, hc, hd⟩ := x.there
  exact ⟨x.keeps, x.new, ob, _, t, he, hc, hd, rfl, rfl⟩
section
variable {M : Model} {A : Around} {E : Value → Shared → Prop} {s' : Shared} {base g g₂ h : Heap} {outer : List Env} {L a e t : Addr} {m : Str → Option Value} {name : Str} {scope : Scope} {cd : Value} {Q : Unit → Shared → Prop} {news : List (Addr × Obj)}
theorem leave_newX {cls : Value} (K : Below A base outer g) (hx : NewX h s'.heap e cls) (F : Fr g L h m) (N : News g L h news)
    (hQ : ∀ h', RaisedN base outer e cls news h' → g.UpToSlots h' → Q () { s' with heap := h' }) (hk : scope.kind = .function := by rfl) :
    wpAny M (A.deeper (envOf name scope L a cd)) (leaving (envOf name scope L a cd) (.ref e)) Q E s' := by
  have K' := K.push (name := name) (a := a) (cd := cd) F hk
  have hin : ∀ env ∈ (envOf name scope L a cd :: outer), ∀ b, env.frame = some b → b ∈ (envOf name scope L a cd :: outer).filterMap (·.frame) := fun env he b hb => List.mem_filterMap.mpr ⟨env, he, hb⟩
  have st : base.StaysIn (hideAll h ((envOf name scope L a cd :: outer).filterMap (·.frame))) := fun b o q => hideAll_get _ (K'.stays b o q) fun hm => by
    rw [(K'.frames.mem hm).1] at q; cases q
  have hl : ∀ q ∈ news, (hideAll h ((envOf name scope L a cd :: outer).filterMap (·.frame))).get? q.1 = some q.2 ∧ base.get? q.1 = none := fun q hq => by
    refine ⟨hideAll_get _ (N q hq).1 fun hm => ?_, fresh_of_stays K.stays (N q hq).2.2⟩
    obtain ⟨env, he, hf⟩ := List.mem_filterMap.mp hm
    rcases List.mem_cons.mp he with rfl | he
    · exact (N q hq).2.1 (Option.some.inj hf).symm
    · obtain ⟨o, ho, _⟩ := (K.frames.mem (List.mem_filterMap.mpr ⟨env, he, hf⟩)).2
      rw [(N q hq).2.2] at ho; cases ho
  obtain ⟨ob, vs, a0, he, hcls, hd, v0, v1⟩ := hx.there
  have hen : (hideAll h ((envOf name scope L a cd :: outer).filterMap (·.frame))).get? e = none := by
    cases q : (hideAll h ((envOf name scope L a cd :: outer).filterMap (·.frame))).get? e with
    | none => rfl
    | some o => have := of_hideAll _ q; rw [hx.new] at this; cases this
  refine wpAny_leaving_firstW (a0 := a0) K'.stack ((funFrames_hide K'.frames hin).of_keeps fun b o hb _ => ⟨o, hx.keeps b o hb, rfl⟩) rfl he (fun b o hb => hx.keeps b o (of_hideAll _ hb)) hen hd v1 v0 fun h' hL => ?_
  obtain ⟨k1, ⟨_, _, k2⟩, k3, k4⟩ := hL
  exact hQ h' ⟨_, a0, st, hl, k1, hen, k2, by rw [← hcls]; exact k3⟩ (((Heap.UpToSlots.of_keeps F.keep).trans (Heap.UpToSlots.of_keeps hx.keeps)).trans k4)
theorem RaisedN.mono {l : List Env} {cls : Value} {n1 n2 : List (Addr × Obj)} (R : RaisedN base l e cls n1 h) (hs : ∀ p ∈ n2, p ∈ n1) : RaisedN base l e cls n2 h := by
  obtain ⟨B, a0, b1, b2, b3⟩ := R
  exact ⟨B, a0, b1, fun q hq => b2 q (hs q hq), b3⟩
end
end
section
abbrev nodeD (w : World) (l o r : Value) (k1 k2 k3 : Tok) (n : Nat) : Obj := dictOf [⟨PyData.keyHash w.params (Str.ofString "left"), .str (Str.ofString "left") k1, l⟩, ⟨PyData.keyHash w.params (Str.ofString "operator"), .str (Str.ofString "operator") k2, o⟩, ⟨PyData.keyHash w.params (Str.ofString "right"), .str (Str.ofString "right") k3, r⟩] n
theorem allLt_ne {d : Addr} : ∀ {l : List (Addr × Obj)}, AllLt d l → ∀ p ∈ l, p.1 ≠ d
  | [], _, _, h => nomatch h
  | p :: r, h, q, hq => by
    rcases List.mem_cons.mp hq with rfl | hq
    · exact Nat.ne_of_lt h.1
    · exact allLt_ne h.2 q hq
local macro_rules | `(tactic| k_all) => `(tactic| exact allLt_ne (by assumption))
local macro_rules | `(tactic| walk_at "my enter") => `(tactic| (refine' code_def ?k1 ?k2 ?k3 ?k4 ?k5 ?kA ?kF ?kK ?k6 ?k7 ?k8 ?k9 ?kB ?_ ?c2 ?c3 ?c4 ?c5; (case kA => exact rfl); (case kF => exact rfl); (case kK => first | exact rfl | assumption); (case k1 => k_asm); (case k2 => k_asm); (case k3 => k_asm); (case k4 => k_asm); (case k5 => k_asm); (case k6 => k_is); (case k7 => k_is); (case k8 => ktr_room); (case k9 => first | exact BindsTo.of_eq rfl | exact binds_K (by k_in) rfl (by k_is) rfl rfl rfl | exact kp_binds (by k_in) (fun _ => by rfl)); (case c5 => decide); (case kB => exact locs rfl); (case c2 => exact rfl); (case c3 => exact rfl); (case c4 => exact rfl); k_whole; intro g' L' h' FG' F' N' B' X' T'; (try dsimp only); (try k_fold)))
theorem mk_leaf : ∀ (w : World) {mean : ExcName → Option Value} {mg mb : Str → Option Value} {dp un : Nat} {gd : Option (List Code)} {cn : Str} {cs : Scope} {a : Addr} {ccd : Value} {outer : List Env} {A₀ : Around} {base h₀ : Heap} {L : Addr} {m : Str → Option Value} {s : Shared}
    {news : List (Addr × Obj)} {l : Value} {Q E : Value → Shared → Prop} (B : Below A₀ base outer h₀) (F : Fr h₀ L s.heap m) (X : (hd.heap_39 w.params).In h₀) (N : News h₀ L s.heap news) (T : Top hd.view_39 lo mean mg mb h₀) (hk : cs.kind = .function)
    (hd1 : dp + 10 < recursionLimit) (hu : un + 40 < cLine)
    (h : ∀ x d k1 k2 k3 n h' tk', Fr h₀ L h' m → News h₀ L h' ((x, instObj 218 d) :: (d, nodeD w l .none .none k1 k2 k3 n) :: news) → Q (.ref x) { s with heap := h', toks := tk' }),
    wpAny (model PySem.Challenge.rw_fe0201_01.row.prog w) (AA dp un gd cn cs L a ccd outer) (call (.ref 218) [] [(Str.ofString "left", l)]) Q E s := by
  k_fill
  intro w mean mg mb dp un gd cn cs a ccd outer A₀ base h₀ L m s news l Q E B F X N T hk hd1 hu h
  k_dflt (refine' call_cls ?k1 ?k2 ?k3 ?k4 ?k5 ?k6 ?_; (case k1 => k_asm); (case k2 => k_asm); (case k3 => k_asm); (case k4 => k_is); (case k5 => k_is); (case k6 => k_is); k_whole; intro x' d' h' F' N' l1 l2; (try k_lt l1); (try k_lt2 l2); (try k_sweep))
  k_dflt (walk_at "my enter")
  k_steps
  exact h _ _ _ _ _ _ _ _ (by k_asm) (by k_asm)
theorem mk_imp : ∀ (w : World) {mean : ExcName → Option Value} {mg mb : Str → Option Value} {dp un : Nat} {gd : Option (List Code)} {cn : Str} {cs : Scope} {a : Addr} {ccd : Value} {outer : List Env} {A₀ : Around} {base h₀ : Heap} {L : Addr} {m : Str → Option Value} {s : Shared}
    {news : List (Addr × Obj)} {l r : Value} {Q E : Value → Shared → Prop} (B : Below A₀ base outer h₀) (F : Fr h₀ L s.heap m) (X : (hd.heap_39 w.params).In h₀) (N : News h₀ L s.heap news) (T : Top hd.view_39 lo mean mg mb h₀) (hk : cs.kind = .function)
    (hd1 : dp + 10 < recursionLimit) (hu : un + 40 < cLine)
    (h : ∀ x d k1 k2 k3 n h' tk', Fr h₀ L h' m → News h₀ L h' ((x, instObj 218 d) :: (d, nodeD w l .none r k1 k2 k3 n) :: news) → Q (.ref x) { s with heap := h', toks := tk' }),
    wpAny (model PySem.Challenge.rw_fe0201_01.row.prog w) (AA dp un gd cn cs L a ccd outer) (call (.ref 218) [] [(Str.ofString "left", l), (Str.ofString "right", r)]) Q E s := by
  k_fill
  intro w mean mg mb dp un gd cn cs a ccd outer A₀ base h₀ L m s news l r Q E B F X N T hk hd1 hu h
  k_dflt (refine' call_cls ?k1 ?k2 ?k3 ?k4 ?k5 ?k6 ?_; (case k1 => k_asm); (case k2 => k_asm); (case k3 => k_asm); (case k4 => k_is); (case k5 => k_is); (case k6 => k_is); k_whole; intro x' d' h' F' N' l1 l2; (try k_lt l1); (try k_lt2 l2); (try k_sweep))
  k_dflt (walk_at "my enter")
  k_steps
  exact h _ _ _ _ _ _ _ _ (by k_asm) (by k_asm)
theorem mk_bin : ∀ (w : World) {mean : ExcName → Option Value} {mg mb : Str → Option Value} {dp un : Nat} {gd : Option (List Code)} {cn : Str} {cs : Scope} {a : Addr} {ccd : Value} {outer : List Env} {A₀ : Around} {base h₀ : Heap} {L : Addr} {m : Str → Option Value} {s : Shared}
    {news : List (Addr × Obj)} {l o r : Value} {Q E : Value → Shared → Prop} (B : Below A₀ base outer h₀) (F : Fr h₀ L s.heap m) (X : (hd.heap_39 w.params).In h₀) (N : News h₀ L s.heap news) (T : Top hd.view_39 lo mean mg mb h₀) (hk : cs.kind = .function)
    (hd1 : dp + 10 < recursionLimit) (hu : un + 40 < cLine)
    (h : ∀ x d k1 k2 k3 n h' tk', Fr h₀ L h' m → News h₀ L h' ((x, instObj 218 d) :: (d, nodeD w l o r k1 k2 k3 n) :: news) → Q (.ref x) { s with heap := h', toks := tk' }),
    wpAny (model PySem.Challenge.rw_fe0201_01.row.prog w) (AA dp un gd cn cs L a ccd outer) (call (.ref 218) [] [(Str.ofString "left", l), (Str.ofString "operator", o), (Str.ofString "right", r)]) Q E s := by
  k_fill
  intro w mean mg mb dp un gd cn cs a ccd outer A₀ base h₀ L m s news l o r Q E B F X N T hk hd1 hu h
  k_dflt (refine' call_cls ?k1 ?k2 ?k3 ?k4 ?k5 ?k6 ?_; (case k1 => k_asm); (case k2 => k_asm); (case k3 => k_asm); (case k4 => k_is); (case k5 => k_is); (case k6 => k_is); k_whole; intro x' d' h' F' N' l1 l2; (try k_lt l1); (try k_lt2 l2); (try k_sweep))
  k_dflt (walk_at "my enter")
  k_steps
  exact h _ _ _ _ _ _ _ _ (by k_asm) (by k_asm)
theorem mk_un : ∀ (w : World) {mean : ExcName → Option Value} {mg mb : Str → Option Value} {dp un : Nat} {gd : Option (List Code)} {cn : Str} {cs : Scope} {a : Addr} {ccd : Value} {outer : List Env} {A₀ : Around} {base h₀ : Heap} {L : Addr} {m : Str → Option Value} {s : Shared}
    {news : List (Addr × Obj)} {l o : Value} {Q E : Value → Shared → Prop} (B : Below A₀ base outer h₀) (F : Fr h₀ L s.heap m) (X : (hd.heap_39 w.params).In h₀) (N : News h₀ L s.heap news) (T : Top hd.view_39 lo mean mg mb h₀) (hk : cs.kind = .function)
    (hd1 : dp + 10 < recursionLimit) (hu : un + 40 < cLine)
    (h : ∀ x d k1 k2 k3 n h' tk', Fr h₀ L h' m → News h₀ L h' ((x, instObj 218 d) :: (d, nodeD w l o .none k1 k2 k3 n) :: news) → Q (.ref x) { s with heap := h', toks := tk' }),
    wpAny (model PySem.Challenge.rw_fe0201_01.row.prog w) (AA dp un gd cn cs L a ccd outer) (call (.ref 218) [] [(Str.ofString "left", l), (Str.ofString "operator", o)]) Q E s := by
  k_fill
  intro w mean mg mb dp un gd cn cs a ccd outer A₀ base h₀ L m s news l o Q E B F X N T hk hd1 hu h
  k_dflt (refine' call_cls ?k1 ?k2 ?k3 ?k4 ?k5 ?k6 ?_; (case k1 => k_asm); (case k2 => k_asm); (case k3 => k_asm); (case k4 => k_is); (case k5 => k_is); (case k6 => k_is); k_whole; intro x' d' h' F' N' l1 l2; (try k_lt l1); (try k_lt2 l2); (try k_sweep))
  k_dflt (walk_at "my enter")
  k_steps
  exact h _ _ _ _ _ _ _ _ (by k_asm) (by k_asm)
end
theorem tick_3 {prog : Program} {w : World} {A : Around} {E : Value → Shared → Prop} {env : Env} {Q : Flow → Shared → Prop} {s : Shared} (h : Q .next s) : wpAny (model prog w) A (execs [] env) Q E s := by
  walk1
  exact h
/-- a token in the ledger -/
def TokO (nw : List (Addr × Obj)) (a : Addr) (k : Int) (wd : Wd) : Prop :=
  ∃ t1 t2 b3 b4 t5 n, TokIn nw a [.int k t1, .str wd t2, .ref b3, .ref b4, .str (Str.ofString "") t5] n ∧
    (∃ u1 u2, (b3, ({ cls := .type "tuple", data := .seq #[.int 1 u1, .int 0 u2] } : Obj)) ∈ nw) ∧ (∃ u1 u2, (b4, ({ cls := .type "tuple", data := .seq #[.int 1 u1, .int 1 u2] } : Obj)) ∈ nw)
def TkIs (nw : List (Addr × Obj)) (a : Addr) : Tk → Prop
  | .opn => TokO nw a 54 (Str.ofString "(")
  | .cls => TokO nw a 54 (Str.ofString ")")
  | .sign w => TokO nw a 54 w ∧ w ≠ Str.ofString "(" ∧ w ≠ Str.ofString ")" ∧ w.length ≤ 10
  | .atom w => (TokO nw a 1 w ∨ TokO nw a 2 w) ∧ w.length ≤ 10
  | .skip => ∃ w, TokO nw a 3 w ∨ TokO nw a 4 w
  | .eof => ∃ w, TokO nw a 0 w
def Toks (nw : List (Addr × Obj)) (T : Addr) (toks : List Tk) : Prop :=
  ∃ (as : List Addr) (n : Nat), (T, ({ cls := .type "list", data := .seq (as.map Value.ref).toArray n } : Obj)) ∈ nw ∧ as.length = toks.length ∧ toks.length ≤ 100 ∧ ∀ (i : Nat) (a : Addr) (tk : Tk), as[i]? = some a → toks[i]? = some tk → TkIs nw a tk
def TokAt (nw : List (Addr × Obj)) (a : Addr) (wd : Wd) : Prop := ∃ k, TokO nw a k wd
inductive TreeIn (w : World) (nw : List (Addr × Obj)) : Value → Tr → Prop
  | leaf {a d tk k1 k2 k3 n wd} : (a, instObj 218 d) ∈ nw → (d, nodeD w (.ref tk) .none .none k1 k2 k3 n) ∈ nw → TokAt nw tk wd → TreeIn w nw (.ref a) (.leaf wd)
  | bin {a d tk vl vr l r k1 k2 k3 n wd} : (a, instObj 218 d) ∈ nw → (d, nodeD w vl (.ref tk) vr k1 k2 k3 n) ∈ nw → TokAt nw tk wd → TreeIn w nw vl l → TreeIn w nw vr r → TreeIn w nw (.ref a) (.bin l wd r)
  | imp {a d vl vr l r k1 k2 k3 n} : (a, instObj 218 d) ∈ nw → (d, nodeD w vl .none vr k1 k2 k3 n) ∈ nw → TreeIn w nw vl l → TreeIn w nw vr r → TreeIn w nw (.ref a) (.imp l r)
  | un {a d tk vl l k1 k2 k3 n wd} : (a, instObj 218 d) ∈ nw → (d, nodeD w vl (.ref tk) .none k1 k2 k3 n) ∈ nw → TokAt nw tk wd → TreeIn w nw vl l → TreeIn w nw (.ref a) (.un wd l)
theorem TokO.mono {nw nw' : List (Addr × Obj)} {a : Addr} {k : Int} {wd : Wd} (h : TokO nw a k wd) (hs : ∀ p ∈ nw, p ∈ nw') : TokO nw' a k wd := by
  obtain ⟨t1, t2, b3, b4, t5, n, h1, ⟨u1, u2, h2⟩, ⟨u3, u4, h3⟩⟩ := h
  exact ⟨t1, t2, b3, b4, t5, n, h1.mono hs, ⟨u1, u2, hs _ h2⟩, ⟨u3, u4, hs _ h3⟩⟩
theorem TkIs.mono {nw nw' : List (Addr × Obj)} {a : Addr} (hs : ∀ p ∈ nw, p ∈ nw') : ∀ {tk : Tk}, TkIs nw a tk → TkIs nw' a tk
  | .opn, h => TokO.mono h hs
  | .cls, h => TokO.mono h hs
  | .sign _, h => ⟨h.1.mono hs, h.2⟩
  | .atom _, h => ⟨h.1.imp (·.mono hs) (·.mono hs), h.2⟩
  | .skip, ⟨w, h⟩ => ⟨w, h.imp (·.mono hs) (·.mono hs)⟩
  | .eof, ⟨w, h⟩ => ⟨w, h.mono hs⟩
theorem Toks.mono {nw nw' : List (Addr × Obj)} {T : Addr} {toks : List Tk} (h : Toks nw T toks) (hs : ∀ p ∈ nw, p ∈ nw') : Toks nw' T toks := by
  obtain ⟨as, n, h1, h2, h3, h4⟩ := h
  exact ⟨as, n, hs _ h1, h2, h3, fun i a tk ha ht => (h4 i a tk ha ht).mono hs⟩
theorem TokAt.mono {nw nw' : List (Addr × Obj)} {a : Addr} {wd : Wd} (h : TokAt nw a wd) (hs : ∀ p ∈ nw, p ∈ nw') : TokAt nw' a wd := let ⟨k, h⟩ := h; ⟨k, h.mono hs⟩
theorem TreeIn.mono {w : World} {nw nw' : List (Addr × Obj)} {v : Value} {t : Tr} (h : TreeIn w nw v t) (hs : ∀ p ∈ nw, p ∈ nw') : TreeIn w nw' v t := by
  induction h with
  | leaf a b c => exact .leaf (hs _ a) (hs _ b) (c.mono hs)
  | bin a b c _ _ i j => exact .bin (hs _ a) (hs _ b) (c.mono hs) i j
  | imp a b _ _ i j => exact .imp (hs _ a) (hs _ b) i j
  | un a b c _ i => exact .un (hs _ a) (hs _ b) (c.mono hs) i
/-- the table of ranks -/
def DictOk (w : World) (nw : List (Addr × Obj)) (D : Addr) (c : List (Str × Int)) : Prop :=
  ∀ h : Heap, (hd.heap_39 w.params).In h → (∀ p ∈ nw, h.get? p.1 = some p.2) → StrTab PySem.Challenge.rw_fe0201_01.row.prog w h D (kdpD c)
theorem DictOk.mono {w : World} {nw nw' : List (Addr × Obj)} {D : Addr} {c : List (Str × Int)} (h : DictOk w nw D c) (hs : ∀ p ∈ nw, p ∈ nw') : DictOk w nw' D c := fun hp X N => h hp X fun p q => N p (hs p q)
def rkOf (c : List (Str × Int)) (x : Wd) : Option Int := (c.find? fun p => decide (p.1 = x)).map (·.2)
def pvs : Pv → Wd
  | .none => Str.ofString "<none>"
  | .paren => Str.ofString "("
  | .op w => w
/-- the words that are no sign -/
structure COk (c : List (Str × Int)) (q : Int) : Prop where
  n0 : rkOf c (Str.ofString "<none>") = none
  n1 : rkOf c (Str.ofString "(") = none
  e : rkOf c wE = some q
def PvOk : Pv → Prop
  | .op w => w ≠ Str.ofString "<none>" ∧ w ≠ Str.ofString "("
  | _ => True
def ResIn (w : World) (nw : List (Addr × Obj)) (rv : Value) : Option Tr → Prop
  | none => rv = .none
  | some t => TreeIn w nw rv t
def StopAt (toks : List Tk) (idx : Int) : Stp → Prop
  | .at ts' => ∃ j : Nat, idx = (j : Int) ∧ toks.drop (j + 1) = ts' ∧ ts' ≠ [] ∧ ∃ tk, toks[j]? = some tk ∧ tk ≠ .eof
  | .close r => ∃ j : Nat, idx = (j : Int) ∧ toks.drop j = .cls :: r
  | .eof => ∃ (j : Nat) (r : List Tk), idx = (j : Int) ∧ toks.drop j = .eof :: r
def ErCls : Out → Value → Prop
  | .err .syn, c => c = .ref 181
  | .err .idle, c => c = .type "AssertionError"
  | .ok _ _, _ => False
def whileOf : Option Obj → Option (Scope × Value × PySem.Expr × List Stmt × List Stmt)
  | some ⟨_, _, .func fd, _⟩ => match fd.body with
    | .stmts [_, _, _, .While t b e _] => some (fd.scope, fd.code, t, b, e)
    | _ => none
  | _ => none
def LoopAst (w : World) (sc : Scope) (cdv : Value) (test : PySem.Expr) (body orelse : List Stmt) : Prop := whileOf ((hd.heap_39 w.params).lookup 230) = some (sc, cdv, test, body, orelse)
def cost (ts : List Tk) (res : Option Tr) : Nat := 4 * ts.length + (if res.isSome then 2 else 0)
abbrev sT := Str.ofString "tokens"
/-- what stands at a turn's start, in a turn, behind it -/
structure Stt (w : World) (mean : ExcName → Option Value) (mg mb : Str → Option Value) (A : Around) (outer : List Env) (base g : Heap) (L : Addr) (h : Heap) (m : Str → Option Value) (nw : List (Addr × Obj)) (c : List (Str × Int)) (T D : Addr) (toks : List Tk) (i : Nat) (d : Nat) (p : Pv) (rv : Value) (res : Option Tr) : Prop where
  B : Below A base outer g
  F : Fr g L h m
  X : (hd.heap_39 w.params).In g
  N : News g L h nw
  Tp : Top hd.view_39 lo mean mg mb g
  mT : m (Str.ofString "tokens") = some (.ref T)
  mD : m (Str.ofString "op_priority") = some (.ref D)
  mI : ∃ t, m (Str.ofString "index") = some (.int (i : Int) t)
  mE : ∃ t, m (Str.ofString "depth") = some (.int (d : Int) t)
  mP : ∃ t, m (Str.ofString "prev_op") = some (.str (pvs p) t)
  mR : m (Str.ofString "result") = some rv
  rs : ResIn w nw rv res
  tk : Toks nw T toks
  dk : DictOk w nw D c
  pv : PvOk p
  pd : ∀ x, p = .op x → 0 < d
abbrev A0 (dp un : Nat) (gd : Option (List Code)) (outer : List Env) : Around := { handled := none, depth := dp, frames := some outer, guards := gd, units := un }
abbrev bEnv (sc : Scope) (L : Addr) (cdv : Value) : Env := envOf (Str.ofString "_build_eval_tree") sc L 230 cdv
abbrev bE (w : World) (dp un : Nat) (gd : Option (List Code)) (outer : List Env) (sc : Scope) (L : Addr) (cdv : Value) (R : Result → Shared → Prop) : Value → Shared → Prop := fun e s' =>
  wpAny (model PySem.Challenge.rw_fe0201_01.row.prog w) ((A0 dp un (some []) outer).deeper (bEnv sc L cdv)) (leaving (bEnv sc L cdv) e) (fun _ s'' => R (.error e) s'') (fun e' s'' => R (.error e') s'') s'
/-- what a way out owes: the tuple handed back, or the exception behind the frame -/
structure Owes (w : World) (outer : List Env) (base g : Heap) (L : Addr) (s : Shared) (nw : List (Addr × Obj)) (toks : List Tk) (o : Out) (Q : Flow → Shared → Prop) (R : Result → Shared → Prop) : Prop where
  ok : ∀ t st v idx it tup n h' m' tk' nw', o = .ok t st → Fr g L h' m' → News g L h' nw' → (∀ p ∈ nw, p ∈ nw') → TreeIn w nw' v t → StopAt toks idx st → (tup, ({ cls := .type "tuple", data := .seq #[v, .int idx it] n } : Obj)) ∈ nw' → Q (.ret (.ref tup)) { s with heap := h', toks := tk' }
  er : ∀ e cls h' tk', ErCls o cls → RaisedN base outer e cls nw h' → g.UpToSlots h' → R (.error (.ref e)) { s with heap := h', toks := tk' }
/-- the loop from a turn's start -/
def LP (w : World) (sc : Scope) (cdv : Value) (test : PySem.Expr) (body orelse : List Stmt) (c : List (Str × Int)) (ts : List Tk) (d : Nat) (p : Pv) (res : Option Tr) (o : Out) : Prop :=
  ∀ {mean : ExcName → Option Value} {mg mb : Str → Option Value} {dp un : Nat} {outer : List Env} {base g : Heap} {L : Addr} {m : Str → Option Value} {s : Shared} {nw : List (Addr × Obj)} {Q : Flow → Shared → Prop} {R : Result → Shared → Prop}
    {T D : Addr} {toks : List Tk} {i : Nat} {rv : Value} {k : Nat},
    Stt w mean mg mb (A0 dp un (some []) outer) outer base g L s.heap m nw c T D toks i d p rv res →
    dp + cost ts res + 40 < recursionLimit → un + 5 * cost ts res + 200 < cLine → toks.drop i = ts → ts ≠ [] →
    (res ≠ none → 0 < i ∧ ∃ tk, toks[i - 1]? = some tk ∧ tk ≠ .eof) →
    Owes w outer base g L s nw toks o Q R →
    WhlRest PySem.Challenge.rw_fe0201_01.row.prog w ((A0 dp un (some []) outer).deeper (bEnv sc L cdv)) (bE w dp un (some []) outer sc L cdv R) (bEnv sc L cdv) test body orelse Q k s
/-- the turn's tail, at a token that is no end -/
def TP (w : World) (sc : Scope) (cdv : Value) (test : PySem.Expr) (body orelse : List Stmt) (c : List (Str × Int)) (d : Nat) (p : Pv) (res : Option Tr) (ts : List Tk) (o : Out) : Prop :=
  ∀ {mean : ExcName → Option Value} {mg mb : Str → Option Value} {dp un : Nat} {outer : List Env} {base g : Heap} {L : Addr} {m : Str → Option Value} {s : Shared} {nw : List (Addr × Obj)} {Q : Flow → Shared → Prop} {R : Result → Shared → Prop}
    {T D : Addr} {toks : List Tk} {i : Nat} {rv : Value} {k : Nat} {tk : Tk},
    Stt w mean mg mb (A0 dp un (some []) outer) outer base g L s.heap m nw c T D toks i d p rv res →
    dp + cost ts res + 40 < recursionLimit → un + 5 * cost ts res + 200 < cLine → toks.drop (i + 1) = ts → toks[i]? = some tk → tk ≠ .eof →
    Owes w outer base g L s nw toks o Q R →
    ∀ {Qw : Flow → Shared → Prop}, (∀ s', WhlRest PySem.Challenge.rw_fe0201_01.row.prog w ((A0 dp un (some []) outer).deeper (bEnv sc L cdv)) (bE w dp un (some []) outer sc L cdv R) (bEnv sc L cdv) test body orelse Q k s' → Qw .next s') → (∀ v s', Q (.ret v) s' → Qw (.ret v) s') →
    wpAny (model PySem.Challenge.rw_fe0201_01.row.prog w) ((A0 dp un (some []) outer).deeper (bEnv sc L cdv)) (execs (body.drop 4) (bEnv sc L cdv)) Qw (bE w dp un (some []) outer sc L cdv R) s
theorem fr_six {g h : Heap} {L : Addr} {m : Str → Option Value} {x1 x2 x3 x4 x5 x6 : Str} {v1 v2 v3 v4 v5 v6 : Value} (F : Fr g L h m) (h1 : m x1 = some v1) (h2 : m x2 = some v2) (h3 : m x3 = some v3) (h4 : m x4 = some v4) (h5 : m x5 = some v5) (h6 : m x6 = some v6) :
    Fr g L h (fun y => if y = x1 then some v1 else if y = x2 then some v2 else if y = x3 then some v3 else if y = x4 then some v4 else if y = x5 then some v5 else if y = x6 then some v6 else m y) := by
  have e : (fun y => if y = x1 then some v1 else if y = x2 then some v2 else if y = x3 then some v3 else if y = x4 then some v4 else if y = x5 then some v5 else if y = x6 then some v6 else m y) = m := by
    funext y
    repeat' split
    all_goals first | rfl | (rename_i e; subst e; exact Eq.symm (by assumption))
  rw [e]; exact F
section
variable {prog : Program} {w : World} {A : Around} {E : Value → Shared → Prop} {Q : Value → Shared → Prop} {s : Shared} {h₀ : Heap} {L : Addr} {nw : List (Addr × Obj)}
theorem list_item {value slice : PySem.Expr} {T a : Addr} {as : List Addr} {n i : Nat} {u : Tok} (N : News h₀ L s.heap nw) (hm : (T, ({ cls := .type "list", data := .seq (as.map Value.ref).toArray n } : Obj)) ∈ nw) (ha : as[i]? = some a) (hi : (i : Int) < 2 ^ 63) (h : Q (.ref a) s)
    (hs : subscripted slice false (.ref T) (.int (i : Int) u) = operate [.ref T, .int (i : Int) u] (getItem (.ref T) (.int (i : Int) u)) := by with_unfolding_all rfl) :
    wpAny (model prog w) A (subscriptTail value slice (.ref T) (.int (i : Int) u)) Q E s := by
  have hl : s.heap.IsList T (as.map Value.ref).toArray := ⟨_, (N _ hm).1, rfl, n, rfl⟩
  exact tail_any hl.typeIs slot_list_getitem.lookup (wpAny_getItem_list (x := .ref a) hl (by omega) hi (by simp [ha]) h) hs
theorem list_len {T : Addr} {as : List Addr} {n : Nat} (N : News h₀ L s.heap nw) (hm : (T, ({ cls := .type "list", data := .seq (as.map Value.ref).toArray n } : Obj)) ∈ nw) (hz : as.length ≤ 1000)
    (h : ∀ t, Q (.int (as.length : Int) t) { s with toks := s.toks + 1 + 1 }) : wpAny (model prog w) A (call (.builtin "len") [.ref T]) Q E s := by
  have hl : s.heap.IsList T (as.map Value.ref).toArray := ⟨_, (N _ hm).1, rfl, n, rfl⟩
  refine len_list hl (by simp; omega) ?_
  have := h (s.toks + 1)
  simpa using this
end
theorem tok_at {nw : List (Addr × Obj)} {a : Addr} {tk : Tk} (h : TkIs nw a tk) : ∃ k wd, TokO nw a k wd ∧ (tk ≠ .eof → k ≠ 0) := by
  cases tk with
  | opn => exact ⟨_, _, h, fun _ => by decide⟩
  | cls => exact ⟨_, _, h, fun _ => by decide⟩
  | sign w => exact ⟨_, _, h.1, fun _ => by decide⟩
  | atom w => exact h.1.elim (fun h => ⟨_, _, h, fun _ => by decide⟩) (fun h => ⟨_, _, h, fun _ => by decide⟩)
  | skip => obtain ⟨w, h⟩ := h; exact h.elim (fun h => ⟨_, _, h, fun _ => by decide⟩) (fun h => ⟨_, _, h, fun _ => by decide⟩)
  | eof => obtain ⟨w, h⟩ := h; exact ⟨_, _, h, fun e => absurd rfl e⟩
theorem ast_use {x : Option Obj} {o : Obj} {y : Option (Scope × Value × PySem.Expr × List Stmt × List Stmt)} {P : Prop} (e : x = some o) (h : whileOf x = y) (k : whileOf (some o) = y → P) : P := k (e ▸ h)

/-- an exception that the frame has just made -/
structure NewE (h₀ : Heap) (L : Addr) (news : List (Addr × Obj)) (h : Heap) (e : Addr) (cls : Value) : Prop where
  obj : ∃ oe vs a0, h.get? e = some oe ∧ oe.cls = cls ∧ oe.data = .fields vs ∧ vs[0]? = some a0 ∧ vs[1]? = some .none
  hg : h₀.get? e = none
  hL : e ≠ L
  hn : ∀ p ∈ news, p.1 ≠ e
theorem leave_newE {M : Model} {A : Around} {E : Value → Shared → Prop} {s' : Shared} {base g : Heap} {outer : List Env} {L a e : Addr} {m : Str → Option Value} {name : Str} {scope : Scope} {cd : Value} {Q : Unit → Shared → Prop} {news : List (Addr × Obj)} {cls : Value}
    (K : Below A base outer g) (F : Fr g L s'.heap m) (N : News g L s'.heap news) (x : NewE g L news s'.heap e cls)
    (hQ : ∀ h', RaisedN base outer e cls news h' → g.UpToSlots h' → Q () { s' with heap := h' }) (hk : scope.kind = .function := by rfl) :
    wpAny M (A.deeper (envOf name scope L a cd)) (leaving (envOf name scope L a cd) (.ref e)) Q E s' := by
  obtain ⟨oL, es, ep, hL, hr⟩ := F.ns
  have hN : NewX (s'.heap.hide e) s'.heap e cls := ⟨fun b o q => Heap.of_hide q, Heap.hide_self _ _, x.obj⟩
  refine leave_newX (h := s'.heap.hide e) K hN ⟨⟨oL, es, ep, (Heap.hide_ne _ (Ne.symm x.hL)).trans hL, hr⟩, fun b o q => (Heap.hide_ne _ (fun z => ?_)).trans (F.keep b o q), F.above⟩ (fun p hp => ⟨(Heap.hide_ne _ (x.hn p hp)).trans (N p hp).1, (N p hp).2⟩) hQ hk
  have hz : b = e := z
  rw [hz, x.hg] at q; cases q
/-- what a raise of DefinitionSyntaxError hands on -/
def DseBack (w : World) (E : Value → Shared → Prop) (v : Value) (s₁ : Shared) : Prop := ∃ e t dx, v = .ref e ∧ (hd.heap_39 w.params).In s₁.heap ∧ s₁.heap.get? e = some (dseObj (some dx) t) ∧ E (.ref e) s₁
theorem raise_stmt {w : World} {A : Around} {E : Value → Shared → Prop} {s : Shared} {env : Env} {x : PySem.Expr} {pos : Pos} {Q : Flow → Shared → Prop} (hh : A.handled = none)
    (h : wpAny (model PySem.Challenge.rw_fe0201_01.row.prog w) A (eval x env) (DseBack w E) E s) : wpAny (model PySem.Challenge.rw_fe0201_01.row.prog w) A (exec (.Raise (some x) none pos) env) Q E s := by
  rw [arm_exec_Raise]
  refine wpAny_bind (wpAny_standAt (raise_made (x := (eval x env >>= fun v => standAt pos >>= fun _ => pure v)) hh (wpAny_bind (wpAny_mono h (fun v s₁ h₁ => wpAny_bind (wpAny_standAt (wpAny_pure h₁))) fun _ _ x => x))))
theorem dse_back {w : World} {E : Value → Shared → Prop} {s₁ : Shared} {e t dx : Addr} {h₀ : Heap} {L : Addr} {m : Str → Option Value} (F : Fr h₀ L s₁.heap m) (X : (hd.heap_39 w.params).In h₀) (he : s₁.heap.get? e = some (dseObj (some dx) t)) (h : E (.ref e) s₁) : DseBack w E (.ref e) s₁ :=
  ⟨e, t, dx, rfl, X.keeps F.keep, he, h⟩
theorem call_dse2 {w : World} {mean : ExcName → Option Value} {mg mb : Str → Option Value} {dp un : Nat} {gd : Option (List Code)} {cn : Str} {cs : Scope} {a : Addr} {ccd : Value} {outer : List Env} {A₀ : Around} {base h₀ : Heap} {L : Addr} {m : Str → Option Value} {s : Shared}
    {news : List (Addr × Obj)} {v : Value} {Q E : Value → Shared → Prop} (B : Below A₀ base outer h₀) (F : Fr h₀ L s.heap m) (X : (hd.heap_39 w.params).In h₀) (N : News h₀ L s.heap news) (T : Top hd.view_39 lo mean mg mb h₀) (hk : cs.kind = .function)
    (hd1 : dp + 10 < recursionLimit) (hu : un + 40 < cLine)
    (h : ∀ e t dx h' tk', Fr h₀ L h' m → News h₀ L h' news → NewE h₀ L news h' e (.ref 181) → h'.get? e = some (dseObj (some dx) t) → Q (.ref e) { s with heap := h', toks := tk' }) :
    wpAny (model PySem.Challenge.rw_fe0201_01.row.prog w) (AA dp un gd cn cs L a ccd outer) (call (.ref 181) [v]) Q E s :=
  call_dse B F X N T hk hd1 hu fun e t dx h' tk' F' N' hs he hg hL => h e t dx h' tk' F' N' ⟨⟨_, _, _, he, rfl, rfl, rfl, rfl⟩, hg, hL, fun p hp z => by have := (N p hp).1; rw [z, hs] at this; cases this⟩ he
local macro_rules | `(tactic| walk_at "my fill") => `(tactic| (have : ∀ w : World, PySem.Challenge.rw_fe0201_01.name = PySem.Challenge.rw_fe0201_01.name → (hd.heap_39 w.params).length = (hd.heap_39 w.params).length → True := by (k_fill; intros; trivial)))
local macro_rules | `(tactic| k_mem) => `(tactic| assumption)
local macro_rules | `(tactic| k_all) => `(tactic| exact allLt_ne (by assumption))
local macro_rules | `(tactic| walk_at "my enter") => `(tactic| (refine' code_def ?k1 ?k2 ?k3 ?k4 ?k5 ?kA ?kF ?kK ?k6 ?k7 ?k8 ?k9 ?kB ?_ ?c2 ?c3 ?c4 ?c5; (case kA => exact rfl); (case kF => exact rfl); (case kK => first | exact rfl | assumption); (case k1 => k_asm); (case k2 => k_asm); (case k3 => k_asm); (case k4 => k_asm); (case k5 => k_asm); (case k6 => k_is); (case k7 => k_is); (case k8 => ktr_room); (case k9 => first | exact BindsTo.of_eq rfl | exact binds_K (by k_in) rfl (by k_is) rfl rfl rfl | exact kp_binds (by k_in) (fun _ => by rfl)); (case c5 => decide); (case kB => exact locs rfl); (case c2 => exact rfl); (case c3 => exact rfl); (case c4 => exact rfl); k_whole; intro g' L' h' FG' F' N' B' X' T'; (try dsimp only); (try k_fold)))
local macro_rules | `(tactic| walk_at "my ast") => `(tactic| (refine' ast_use ?e (by assumption) ?kk; (case e => k_dflt k_is); intro hast2; (dsimp only [whileOf] at hast2); (simp only [Option.some.injEq, Prod.mk.injEq] at hast2); obtain ⟨a1, a2, a3, a4, a5⟩ := hast2; subst a1 a2 a3 a4 a5))
local macro_rules | `(tactic| walk_at "my dp") => `(tactic| (show _ + _ < _; (try simp only [depth_in1, depth_deeper, depth_under_kw, units_in1, units_deeper]); (try dsimp only [A0, AA]); omega))
local macro_rules | `(tactic| walk_at "subscriptTail") => `(tactic| (k_here; (with_reducible show wpAny _ _ (subscriptTail _ _ (Value.ref _) (Value.int _ _)) _ _ _); k_dflt (refine' list_item ?N ?hm ?ha ?hi ?_; (case N => k_asm); (case hm => k_mem); (case ha => assumption); (case hi => omega))))
local macro_rules | `(tactic| walk_at "subscriptTail") => `(tactic| (k_here; (with_reducible show wpAny _ _ (subscriptTail _ _ (Value.ref _) (Value.int _ _)) _ _ _); k_dflt (refine' tok_item ?X ?hx ?m ?ns ?hs ?y ?hi ?_; (case X => k_in); (case hx => exact (TokIn.hp (by k_asm) (by assumption))); (case m => k_is); (case ns => k_is); (case hs => k_is); (case y => exact rfl); (case hi => decide))))
local macro_rules | `(tactic| walk_at "call builtin:len") => `(tactic| (k_here; k_dflt (refine' list_len ?N ?hm ?z ?_; (case N => k_asm); (case hm => k_mem); (case z => omega); intro _)))
local macro_rules | `(tactic| walk_at "my dec") => `(tactic| (simp only [decide_eq_true_eq, decide_eq_false_iff_not, Bool.not_eq_true, Bool.not_eq_true', Bool.decide_eq_true, beq_iff_eq, bne_iff_ne, ne_eq, Bool.not_eq_false, Bool.not_eq_false', Classical.not_not]; first | assumption | omega))
local macro_rules | `(tactic| walk_at "ite") => `(tactic| (k_here; first | refine ite_neg (by first | assumption | omega | walk_at "my dec") ?_ | refine ite_pos (by first | assumption | omega | walk_at "my dec") ?_))
local macro_rules | `(tactic| walk_at "exec Raise some none") => `(tactic| (k_here; (with_reducible show wpAny _ _ (exec (Stmt.Raise (some _) none _) _) _ _ _); k_dflt (refine raise_stmt rfl ?_)))
local macro_rules | `(tactic| walk_at "call ref") => `(tactic| (k_here; (with_reducible show wpAny _ _ (call (Value.ref 181) [_]) _ _ _); k_dflt (refine' call_dse2 ?B ?F ?X ?N ?T ?hk ?h1 ?h2 ?_; (case B => k_asm); (case F => k_asm); (case X => k_asm); (case N => k_asm); (case T => k_asm); (case hk => exact rfl); (case h1 => walk_at "my dp"); (case h2 => walk_at "my dp"); intro e' t' dx' h' tk' F' N' x' he'; (try k_sweep))))
local macro_rules | `(tactic| walk_at "DseBack") => `(tactic| (k_here; k_dflt (refine' dse_back ?F ?X ?he ?_; (case F => k_asm); (case X => k_asm); (case he => assumption))))
local macro_rules | `(tactic| walk_at "leaving ref") => `(tactic| (k_here; k_dflt (refine' leave_newE ?K ?F ?N ?x ?_; (case x => assumption); (case K => assumption); (case F => k_asm); (case N => k_asm); intro h' R' U')))
theorem Owes.move {w : World} {outer : List Env} {base g : Heap} {L : Addr} {s s2 : Shared} {nw nw2 : List (Addr × Obj)} {toks : List Tk} {o : Out} {Q : Flow → Shared → Prop} {R : Result → Shared → Prop}
    (O : Owes w outer base g L s nw toks o Q R) (hs : ∀ p ∈ nw, p ∈ nw2) {hh : Heap} {tt : Nat} (e : s2 = { s with heap := hh, toks := tt }) : Owes w outer base g L s2 nw2 toks o Q R := by
  subst e
  exact ⟨fun t st v idx it tup n h' m' tk' nw' ho F N hsub => O.ok t st v idx it tup n h' m' tk' nw' ho F N (fun p hp => hsub p (hs p hp)), fun e cls h' tk' hc hr => O.er e cls h' tk' hc (RaisedN.mono hr hs)⟩
theorem tail_go : ∀ {w : World} {sc : Scope} {cdv : Value} {test : PySem.Expr} {body orelse : List Stmt} {c : List (Str × Int)} {ts : List Tk} {d : Nat} {p : Pv} {res : Option Tr} {o : Out} (hast : LoopAst w sc cdv test body orelse) (hB : ts = [] → o = .err .syn) (hLP : ts ≠ [] → LP w sc cdv test body orelse c ts d p res o), TP w sc cdv test body orelse c d p res ts o := by
  walk_at "my fill"
  intro w sc cdv test body orelse c ts d p res o hast hB hLP
  unfold TP
  intro mean mg mb dp un outer base g L m s nw Q R T D toks i rv k kx S hd1 hu hdr hti hne O Qw hnext hret
  walk_at "my ast"
  obtain ⟨B, F, X, N, Tp, mT, mD, ⟨ti, mI⟩, ⟨td, mE⟩, ⟨tp, mP⟩, mR, rs, hT, dk, pv, pd⟩ := id S
  have F := fr_six F mT mD mI mE mP mR
  obtain ⟨as, n, hl, hlen, hsz, hat⟩ := id hT
  have hti' := (List.getElem?_eq_some_iff.mp hti).1
  have ha : as[i]? = some (as[i]'(by omega)) := List.getElem?_eq_getElem _
  generalize as[i]'(by omega) = a at ha
  obtain ⟨kk, wd, ⟨t1, t2, b3, b4, t5, n2, htok, h3, h4⟩, hk0⟩ := tok_at (hat i a kx ha hti)
  have hk0 := hk0 hne
  have hts : ts = [] ↔ toks.length ≤ i + 1 := by rw [← hdr, List.drop_eq_nil_iff]
  show wpAny _ _ (execs (_ :: _) _) _ _ _
  k_steps
  · refine O.er _ (.ref 181) _ _ ?_ (by assumption) (by assumption)
    rw [hB (hts.mpr (by omega))]; rfl
  · have hne2 : ts ≠ [] := fun z => by have := hts.mp z; omega
    refine hnext _ (hLP hne2 (i := i + 1) (rv := rv) ⟨B, by k_asm, X, by k_asm, Tp, rfl, rfl, ⟨_, rfl⟩, ⟨_, rfl⟩, ⟨_, rfl⟩, rfl, rs, hT, dk, pv, pd⟩ hd1 hu hdr hne2 (fun _ => ⟨Nat.succ_pos _, kx, hti, hne⟩) (O.move (fun _ h => h) rfl))
inductive EndOut : Pv → Option Tr → Out → Prop
  | paren {res} : EndOut .paren res (.err .syn)
  | n1 : EndOut .none none (.err .syn)
  | n2 {x} : EndOut (.op x) none (.err .syn)
  | t1 {t} : EndOut .none (some t) (.ok t .eof)
  | t2 {x t} : EndOut (.op x) (some t) (.ok t .eof)
theorem res_ref {w : World} {nw : List (Addr × Obj)} {rv : Value} {t : Tr} (h : ResIn w nw rv (some t)) : ∃ a, rv = .ref a := by
  cases h <;> exact ⟨_, rfl⟩
/-- the turn's tail, at the end -/
def TE (w : World) (sc : Scope) (cdv : Value) (body : List Stmt) (c : List (Str × Int)) (d : Nat) (p : Pv) (res : Option Tr) (o : Out) : Prop :=
  ∀ {mean : ExcName → Option Value} {mg mb : Str → Option Value} {dp un : Nat} {outer : List Env} {base g : Heap} {L : Addr} {m : Str → Option Value} {s : Shared} {nw : List (Addr × Obj)} {Q : Flow → Shared → Prop} {R : Result → Shared → Prop}
    {T D : Addr} {toks : List Tk} {i : Nat} {rv : Value},
    Stt w mean mg mb (A0 dp un (some []) outer) outer base g L s.heap m nw c T D toks i d p rv res →
    dp + 40 < recursionLimit → un + 200 < cLine → toks[i]? = some .eof →
    Owes w outer base g L s nw toks o Q R →
    ∀ {Qw : Flow → Shared → Prop}, (∀ v s', Q (.ret v) s' → Qw (.ret v) s') →
    wpAny (model PySem.Challenge.rw_fe0201_01.row.prog w) ((A0 dp un (some []) outer).deeper (bEnv sc L cdv)) (execs (body.drop 4) (bEnv sc L cdv)) Qw (bE w dp un (some []) outer sc L cdv R) s
theorem tail_end : ∀ {w : World} {sc : Scope} {cdv : Value} {test : PySem.Expr} {body orelse : List Stmt} {c : List (Str × Int)} {d : Nat} {p : Pv} {res : Option Tr} {o : Out} (hast : LoopAst w sc cdv test body orelse) (hO : EndOut p res o), TE w sc cdv body c d p res o := by
  walk_at "my fill"
  intro w sc cdv test body orelse c d p res o hast hO
  unfold TE
  intro mean mg mb dp un outer base g L m s nw Q R T D toks i rv S hd1 hu hti O Qw hret
  walk_at "my ast"
  obtain ⟨B, F, X, N, Tp, mT, mD, ⟨ti, mI⟩, ⟨td, mE⟩, ⟨tp, mP⟩, mR, rs, hT, dk, pv, pd⟩ := id S
  have F := fr_six F mT mD mI mE mP mR
  obtain ⟨as, n, hl, hlen, hsz, hat⟩ := id hT
  have hti' := (List.getElem?_eq_some_iff.mp hti).1
  have ha : as[i]? = some (as[i]'(by omega)) := List.getElem?_eq_getElem _
  generalize as[i]'(by omega) = a at ha
  obtain ⟨wd, ⟨t1, t2, b3, b4, t5, n2, htok, h3, h4⟩⟩ := hat i a .eof ha hti
  have hst : StopAt toks (i : Int) .eof := ⟨i, toks.drop (i + 1), rfl, List.drop_eq_getElem?_toList_append.trans (by rw [hti]; rfl)⟩
  show wpAny _ _ (execs (_ :: _) _) _ _ _
  cases hO
  all_goals simp only [pvs] at F
  · k_steps
    exact O.er _ (.ref 181) _ _ rfl (by assumption) (by assumption)
  · obtain rfl : rv = .none := rs
    k_steps
    exact O.er _ (.ref 181) _ _ rfl (by assumption) (by assumption)
  · obtain rfl : rv = .none := rs
    have hx := pv.2
    k_steps
    all_goals exact O.er _ (.ref 181) _ _ rfl (by assumption) (by assumption)
  · obtain ⟨v, rfl⟩ := res_ref rs
    k_steps
    all_goals exact hret _ _ (O.ok _ .eof _ _ _ _ _ _ _ _ _ rfl (by k_asm) (by k_asm) (fun _ h => List.mem_cons_of_mem _ h) (TreeIn.mono rs fun _ h => List.mem_cons_of_mem _ h) hst (List.mem_cons_self ..))
  · obtain ⟨v, rfl⟩ := res_ref rs
    have hx := pv.2
    have hd := pd _ rfl
    k_steps

    all_goals first | (exfalso; omega) | (exact absurd (beq_iff_eq.mp (by assumption)) hx) | exact hret _ _ (O.ok _ .eof _ _ _ _ _ _ _ _ _ rfl (by k_asm) (by k_asm) (fun _ h => List.mem_cons_of_mem _ h) (TreeIn.mono rs fun _ h => List.mem_cons_of_mem _ h) hst (List.mem_cons_self ..))
theorem execs_splitp {M : Model} {Γ : Ctx} {E : Value → Pos → Shared → Prop} {env : Env} {Q : Flow → Pos → Shared → Prop} : ∀ (n : Nat) (body : List Stmt) (p : Pos) (s : Shared),
    Sem.wp M Γ (execs (body.take n) env) (fun f p' s' => match f with | .next => Sem.wp M Γ (execs (body.drop n) env) Q E p' s' | f => Q f p' s') E p s → Sem.wp M Γ (execs body env) Q E p s
  | 0, body, p, s, h => h
  | n + 1, [], p, s, h => h
  | n + 1, st :: rest, p, s, h => by
    rw [List.take_succ_cons, List.drop_succ_cons] at h
    rw [execs_cons, Sem.wp_bind'] at h ⊢
    refine Sem.wp_mono _ Γ _ (fun f p' s' h' => ?_) (fun _ _ _ h' => h') _ _ h
    cases f with
    | next => exact execs_splitp n rest p' s' h'
    | _ => exact h'
theorem execs_split {M : Model} {A : Around} {E : Value → Shared → Prop} {env : Env} {Q : Flow → Shared → Prop} (n : Nat) (body : List Stmt) (s : Shared)
    (h : wpAny M A (execs (body.take n) env) (fun f s' => match f with | .next => wpAny M A (execs (body.drop n) env) Q E s' | f => Q f s') E s) : wpAny M A (execs body env) Q E s := by
  intro Γ p hΓ
  refine execs_splitp n body p s (Sem.wp_mono _ Γ _ (fun f p' s' h' => ?_) (fun _ _ _ h' => h') _ _ (h Γ p hΓ))
  cases f <;> first | exact h' Γ p' hΓ | exact h'
theorem turn : ∀ {w : World} {sc : Scope} {cdv : Value} {test : PySem.Expr} {body orelse : List Stmt} (hast : LoopAst w sc cdv test body orelse)
   {dp un : Nat} {outer : List Env} {base g : Heap} {L : Addr} {m : Str → Option Value} {s : Shared} {nw : List (Addr × Obj)} {Q : Flow → Shared → Prop} {R : Result → Shared → Prop}
    {k : Nat}
    (B : Below (A0 dp un (some []) outer) base outer g) (F : Fr g L s.heap m) (N : News g L s.heap nw)
    (h : ∀ Qb : Flow → Shared → Prop, (∀ s', wpAny (model PySem.Challenge.rw_fe0201_01.row.prog w) ((A0 dp un (some []) outer).deeper (bEnv sc L cdv)) (execs (body.drop 4) (bEnv sc L cdv)) (WhlPost PySem.Challenge.rw_fe0201_01.row.prog w ((A0 dp un (some []) outer).deeper (bEnv sc L cdv)) (bE w dp un (some []) outer sc L cdv R) (bEnv sc L cdv) test body orelse Q k) (bE w dp un (some []) outer sc L cdv R) s' → Qb .next s') →
      (∀ v s', Q (.ret v) s' → Qb (.ret v) s') →
      wpAny (model PySem.Challenge.rw_fe0201_01.row.prog w) ((A0 dp un (some []) outer).deeper (bEnv sc L cdv)) (execs (body.take 4) (bEnv sc L cdv)) Qb (bE w dp un (some []) outer sc L cdv R) s),
    WhlRest PySem.Challenge.rw_fe0201_01.row.prog w ((A0 dp un (some []) outer).deeper (bEnv sc L cdv)) (bE w dp un (some []) outer sc L cdv R) (bEnv sc L cdv) test body orelse Q k s := by
  walk_at "my fill"
  intro w sc cdv test body orelse hast dp un outer base g L m s nw Q R k B F N h
  walk_at "my ast"
  refine whl_turn (k := k) (by passes_own) ?_
  iterate 3 walk1
  exact WhlIf.yes rfl (execs_split 4 _ _ (h _ (fun _ h => h) (fun _ _ h => h)))
def Hold (P : Prop) : Prop := P
theorem hold_while {prog : Program} {w : World} {A : Around} {E : Value → Shared → Prop} {env : Env} {test : PySem.Expr} {body orelse : List Stmt} {Q : Flow → Shared → Prop} {s : Shared} {pos : Pos} (h : Hold (WhlRest prog w A E env test body orelse Q 0 s)) : wpAny (model prog w) A (exec (.While test body orelse pos) env) Q E s := whl_start 0 h
local macro_rules | `(tactic| walk_at "exec While") => `(tactic| (k_here; refine hold_while ?_))
/-- what a call of _build_eval_tree does -/
structure OkB (w : World) (toks : List Tk) (o : Out) (nw : List (Addr × Obj)) (r : Value) : Prop where
  x : ∃ t st v idx it tup n, r = .ref tup ∧ o = .ok t st ∧ TreeIn w nw v t ∧ StopAt toks idx st ∧ (tup, ({ cls := .type "tuple", data := .seq #[v, .int idx it] n } : Obj)) ∈ nw
def CP (w : World) (c : List (Str × Int)) (ts : List Tk) (d : Nat) (p : Pv) (o : Out) : Prop :=
  ∀ {mean : ExcName → Option Value} {mg mb : Str → Option Value} {T D : Addr} {toks : List Tk} {i : Nat} {news : List (Addr × Obj)} {t1 t2 t3 : Tok},
    Toks news T toks → DictOk w news D c → toks.drop i = ts →
    Spec w mean mg mb 230 [.ref T, .ref D, .int (i : Int) t1, .int (d : Int) t2, .str (pvs p) t3] (cost ts none + 40) (5 * cost ts none + 200) news (OkB w toks o) (ErCls o)
theorem prol : ∀ {w : World} {sc : Scope} {cdv : Value} {test : PySem.Expr} {body orelse : List Stmt} {c : List (Str × Int)} {ts : List Tk} {d : Nat} {p : Pv} {o : Out} (hast : LoopAst w sc cdv test body orelse) (hts : ts ≠ []) (hd : d ≤ 100) (pv : PvOk p) (pd : ∀ x, p = .op x → 0 < d) (h : LP w sc cdv test body orelse c ts d p none o),
    CP w c ts d p o := by
  walk_at "my fill"
  intro w sc cdv test body orelse c ts d p o hast hts hd pv pd h
  unfold CP Spec
  intro mean mg mb T D toks i news t1 t2 t3 hT dk hdr dp un cn cs a ccd outer A₀ base h₀ L m s Q E B F X N Tp hk hd1 hu hQ hE
  walk_at "my ast"
  refine wpAny_call ?_
  k_dflt (walk_at "my enter")
  k_steps
  show WhlRest _ _ _ _ _ _ _ _ _ _ _
  k_dflt refine' h (dp := dp) (un := un) (outer := envOf cn cs L a ccd :: outer) (R := fun r s' => match r with | .ok (.ret v) => Q v s' | .ok _ => False | .error e => E e s') (k := 0) (i := i) (T := T) (D := D) (toks := toks) (nw := news) (rv := .none) ?S ?h1 ?h2 hdr hts (fun z => absurd rfl z) ⟨?O1, ?O2⟩
  case S => exact ⟨by assumption, by k_asm, by assumption, by k_asm, by assumption, rfl, rfl, ⟨_, rfl⟩, ⟨_, rfl⟩, ⟨_, rfl⟩, rfl, rfl, hT, dk, pv, pd⟩
  case h1 => omega
  case h2 => omega
  · intro t st v idx it tup n h'' m'' tk'' nw' ho F2 N2 sub tin sta mem
    dsimp only
    k_steps
    exact hQ _ _ _ _ (by k_asm) (by k_asm) sub ⟨⟨_, _, _, _, _, _, _, rfl, ho, tin, sta, mem⟩⟩
  · intro e cls h'' tk'' hc hr hu
    exact hE _ _ _ _ _ hc (by assumption) hu hr
theorem drop_head {x : Tk} {r : List Tk} {toks : List Tk} {i : Nat} (h : toks.drop i = x :: r) : toks[i]? = some x ∧ toks.drop (i + 1) = r ∧ i < toks.length := by
  refine ⟨?_, ?_, ?_⟩
  · rw [← List.head?_drop, h]; rfl
  · rw [← List.tail_drop, h]; rfl
  · refine Nat.lt_of_not_le fun z => ?_
    rw [List.drop_eq_nil_of_le z] at h; cases h
local macro_rules | `(tactic| walk_at "getAttr ref") => `(tactic| (k_here; (with_reducible show wpAny _ _ (getAttr (Value.ref _) (PySem.Str.ofString "type") _) _ _ _); k_dflt (refine' tok_type ?B ?F ?X ?N ?T ?hk ?h1 ?h2 ?hx ?h3 ?hv ?_; (case hx => assumption); (case B => k_asm); (case F => k_asm); (case X => k_asm); (case N => k_asm); (case T => k_asm); (case hk => exact rfl); (case h1 => walk_at "my dp"); (case h2 => walk_at "my dp"); (case h3 => exact rfl); (case hv => exact rfl); intro h' tk' F' N'; (try k_sweep))))
local macro_rules | `(tactic| walk_at "getAttr ref") => `(tactic| (k_here; (with_reducible show wpAny _ _ (getAttr (Value.ref _) (PySem.Str.ofString "string") _) _ _ _); k_dflt (refine' tok_string ?B ?F ?X ?N ?T ?hk ?h1 ?h2 ?hx ?h3 ?hv ?_; (case hx => assumption); (case B => k_asm); (case F => k_asm); (case X => k_asm); (case N => k_asm); (case T => k_asm); (case hk => exact rfl); (case h1 => walk_at "my dp"); (case h2 => walk_at "my dp"); (case h3 => exact rfl); (case hv => exact rfl); intro h' tk' F' N'; (try k_sweep))))
local macro_rules | `(tactic| walk_at "call ref") => `(tactic| (k_here; (with_reducible show wpAny _ _ (call (Value.ref 218) [] _) _ _ _); k_dflt (show wpAny _ _ (call (Value.ref 218) [] [_]) _ _ _); k_dflt (refine' mk_leaf _ ?B ?F ?X ?N ?T ?hk ?h1 ?h2 ?_; (case B => k_asm); (case F => k_asm); (case X => k_asm); (case N => k_asm); (case T => k_asm); (case hk => exact rfl); (case h1 => walk_at "my dp"); (case h2 => walk_at "my dp"); intro x' d' k1' k2' k3' n' h' tk' F' N'; (try k_sweep))))
local macro_rules | `(tactic| walk_at "call ref") => `(tactic| (k_here; (with_reducible show wpAny _ _ (call (Value.ref 218) [] _) _ _ _); k_dflt (show wpAny _ _ (call (Value.ref 218) [] [(PySem.Str.ofString "left", _), (PySem.Str.ofString "right", _)]) _ _ _); k_dflt (refine' mk_imp _ ?B ?F ?X ?N ?T ?hk ?h1 ?h2 ?_; (case B => k_asm); (case F => k_asm); (case X => k_asm); (case N => k_asm); (case T => k_asm); (case hk => exact rfl); (case h1 => walk_at "my dp"); (case h2 => walk_at "my dp"); intro x' d' k1' k2' k3' n' h' tk' F' N'; (try k_sweep))))
local macro_rules | `(tactic| walk_at "call ref") => `(tactic| (k_here; (with_reducible show wpAny _ _ (call (Value.ref 218) [] _) _ _ _); k_dflt (show wpAny _ _ (call (Value.ref 218) [] [_, _, _]) _ _ _); k_dflt (refine' mk_bin _ ?B ?F ?X ?N ?T ?hk ?h1 ?h2 ?_; (case B => k_asm); (case F => k_asm); (case X => k_asm); (case N => k_asm); (case T => k_asm); (case hk => exact rfl); (case h1 => walk_at "my dp"); (case h2 => walk_at "my dp"); intro x' d' k1' k2' k3' n' h' tk' F' N'; (try k_sweep))))
local macro_rules | `(tactic| walk_at "call ref") => `(tactic| (k_here; (with_reducible show wpAny _ _ (call (Value.ref 218) [] _) _ _ _); k_dflt (show wpAny _ _ (call (Value.ref 218) [] [(PySem.Str.ofString "left", _), (PySem.Str.ofString "operator", _)]) _ _ _); k_dflt (refine' mk_un _ ?B ?F ?X ?N ?T ?hk ?h1 ?h2 ?_; (case B => k_asm); (case F => k_asm); (case X => k_asm); (case N => k_asm); (case T => k_asm); (case hk => exact rfl); (case h1 => walk_at "my dp"); (case h2 => walk_at "my dp"); intro x' d' k1' k2' k3' n' h' tk' F' N'; (try k_sweep))))
theorem News.sub {g hp : Heap} {L : Addr} {l l' : List (Addr × Obj)} (h : News g L hp l) (hs : ∀ p ∈ l', p ∈ l) : News g L hp l' := fun p hp => h p (hs p hp)
theorem news_tail {g hp : Heap} {L : Addr} {x : Addr × Obj} {l : List (Addr × Obj)} (h : News g L hp (x :: l)) : News g L hp l := fun p hp => h p (List.mem_cons_of_mem _ hp)
local macro_rules | `(tactic| walk_at "my news") => `(tactic| ((try dsimp only); first | assumption | (refine news_tail ?a; (case a => assumption)) | (refine news_tail (news_tail ?a); (case a => assumption)) | (refine news_tail (news_tail (news_tail ?a)); (case a => assumption)) | k_asm))
theorem tree_obj {w : World} {nw : List (Addr × Obj)} {v : Value} {t : Tr} (h : TreeIn w nw v t) : ∃ a d oD, v = .ref a ∧ (a, instObj 218 d) ∈ nw ∧ (d, oD) ∈ nw := by
  cases h <;> exact ⟨_, _, _, rfl, by assumption, by assumption⟩
theorem dk_use {w : World} {nw nw' : List (Addr × Obj)} {D : Addr} {c : List (Str × Int)} {g h : Heap} {L : Addr} {m : Str → Option Value} (dk : DictOk w nw D c) (F : Fr g L h m) (X : (hd.heap_39 w.params).In g) (N : News g L h nw') (hs : ∀ p ∈ nw, p ∈ nw') : StrTab PySem.Challenge.rw_fe0201_01.row.prog w h D (kdpD c) :=
  dk h (X.keeps F.keep) fun p hp => (N p (hs p hp)).1
theorem rk_has {c : List (Str × Int)} {x : Wd} {k : Int} (h : rkOf c x = some k) : kdpHas c x = true ∧ ∀ e, kdpLook c x e = k := by
  unfold rkOf at h
  unfold kdpHas kdpLook
  rw [h]
  refine ⟨?_, fun _ => rfl⟩
  rw [List.any_eq_true]
  cases hf : c.find? (fun p => decide (p.1 = x)) with
  | none => rw [hf] at h; cases h
  | some y => exact ⟨y, List.mem_of_find?_eq_some hf, by have := List.find?_some (p := fun p : Str × Int => decide (p.1 = x)) hf; exact this⟩
theorem rk_no {c : List (Str × Int)} {x : Wd} (h : rkOf c x = none) : kdpHas c x = false := by
  unfold rkOf at h
  unfold kdpHas
  rw [Option.map_eq_none_iff, List.find?_eq_none] at h
  rw [List.any_eq_false]
  exact h
theorem look_pr {c : List (Str × Int)} {q : Int} (hc : COk c q) (p : Pv) : kdpLook c (pvs p) (-1) = pr (rkOf c) p := by
  cases p with
  | none => show (rkOf c (Str.ofString "<none>")).getD (-1) = -1; rw [hc.n0]; rfl
  | paren => show (rkOf c (Str.ofString "(")).getD (-1) = -1; rw [hc.n1]; rfl
  | op w => rfl
local macro_rules | `(tactic| walk_at "my tab") => `(tactic| (refine' dk_use ?D ?F ?X ?N ?s; (case D => assumption); (case F => k_asm); (case X => k_asm); (case N => k_asm); (case s => intro p h; simp [h])))
local macro_rules | `(tactic| walk_at "compareOp In str ref") => `(tactic| (k_here; k_dflt (refine' kdp_in ?T ?_; (case T => walk_at "my tab"))))
local macro_rules | `(tactic| walk_at "subscriptTail") => `(tactic| (k_here; (with_reducible show wpAny _ _ (subscriptTail _ _ (Value.ref _) (Value.str _ _)) _ _ _); k_dflt (refine' kdp_item ?T ?hk ?_; (case T => walk_at "my tab"); (case hk => assumption); intro _)))
local macro_rules | `(tactic| walk_at "call builtin:dict.get") => `(tactic| (k_here; k_dflt (refine' kdp_get2 ?T ?_; (case T => walk_at "my tab"); intro _)))
local macro_rules | `(tactic| walk_at "getMethod ref") => `(tactic| (k_here; (with_reducible show wpAny _ _ (getMethod (Value.ref _) (PySem.Str.ofString "get") _) _ _ _); k_dflt (refine' getMethod_strTab_get ?T ?_; (case T => walk_at "my tab"))))
theorem pow_any (x : Wd) : ([Str.ofString "**", Str.ofString "^"].any fun y => y == x) = pow x := by
  unfold pow
  simp only [List.any_cons, List.any_nil, Bool.or_false]
  rw [Bool.beq_comm (a := x), Bool.beq_comm (a := x)]
theorem stop_at {toks ts : List Tk} {i : Nat} (h : 0 < i ∧ ∃ tk, toks[i - 1]? = some tk ∧ tk ≠ .eof) (hd : toks.drop i = ts) (hn : ts ≠ []) : StopAt toks ((i : Int) - 1) (.at ts) := by
  obtain ⟨h, h2⟩ := h
  refine ⟨i - 1, by omega, ?_, hn, h2⟩
  rw [Nat.sub_add_cancel h]; exact hd
theorem cp_call {w : World} {c : List (Str × Int)} {ts : List Tk} {d j : Nat} {p : Pv} {o : Out} (hCP : CP w c ts d p o)
    {mean : ExcName → Option Value} {mg mb : Str → Option Value} {T D : Addr} {toks : List Tk} {nw : List (Addr × Obj)} {e1 e2 : Int} {v3 : Str} {t1 t2 t3 : Tok}
    {dp un : Nat} {cn : Str} {cs : Scope} {a : Addr} {ccd : Value} {outer : List Env} {A₀ : Around} {base h₀ : Heap} {L : Addr} {m : Str → Option Value} {s : Shared} {Q E : Value → Shared → Prop}
    (hT : Toks nw T toks) (dk : DictOk w nw D c) (hdr : toks.drop j = ts) (h1 : e1 = (j : Int)) (h2 : e2 = (d : Int)) (h3 : v3 = pvs p)
    (B : Below A₀ base outer h₀) (F : Fr h₀ L s.heap m) (X : (hd.heap_39 w.params).In h₀) (N : News h₀ L s.heap nw) (Tp : Top hd.view_39 lo mean mg mb h₀) (hk : cs.kind = .function)
    (hd1 : dp + (cost ts none + 40) < recursionLimit) (hu : un + (5 * cost ts none + 200) < cLine)
    (ok : ∀ t st v idx it tup n h' tk' nw', o = .ok t st → Fr h₀ L h' m → News h₀ L h' nw' → (∀ p ∈ nw, p ∈ nw') → TreeIn w nw' v t → StopAt toks idx st → (tup, ({ cls := .type "tuple", data := .seq #[v, .int idx it] n } : Obj)) ∈ nw' → Q (.ref tup) { s with heap := h', toks := tk' })
    (er : ∀ e cls h' tk' g₂, ErCls o cls → Fr h₀ L g₂ m → g₂.UpToSlots h' → RaisedN base (envOf cn cs L a ccd :: outer) e cls nw h' → E (.ref e) { s with heap := h', toks := tk' }) :
    wpAny (model PySem.Challenge.rw_fe0201_01.row.prog w) (AA dp un (some []) cn cs L a ccd outer) (call (.ref 230) [.ref T, .ref D, .int e1 t1, .int e2 t2, .str v3 t3]) Q E s := by
  subst h1 h2 h3
  refine hCP hT dk hdr dp un cn cs a ccd outer A₀ base h₀ L m s Q E B F X N Tp hk hd1 hu (fun r nw' h' tk' F' N' sub x => ?_) er
  obtain ⟨t, st, v, idx, it, tup, n, rfl, ho, ti, sa, mem⟩ := x.x
  exact ok t st v idx it tup n h' tk' nw' ho F' N' sub ti sa mem
local macro_rules | `(tactic| walk_at "leaving ref") => `(tactic| (k_here; k_dflt (refine' leave_onN ?K ?F ?R ?u ?_; (case R => assumption); (case K => assumption); (case F => assumption); (case u => assumption); intro h' R' U')))
local macro_rules | `(tactic| walk_at "my sub") => `(tactic| (intro p h; simp [h]))
theorem c_skip : ∀ {w : World} {sc : Scope} {cdv : Value} {test : PySem.Expr} {body orelse : List Stmt} {c : List (Str × Int)} {q : Int} {r : List Tk} {d : Nat} {p : Pv} {res : Option Tr} {o : Out}  (hast : LoopAst w sc cdv test body orelse) (hc : COk c q) (h0 : r = [] → o = .err .syn) (h1 : r ≠ [] → LP w sc cdv test body orelse c r d p res o), LP w sc cdv test body orelse c (.skip :: r) d (p) (res) (o) := by
  walk_at "my fill"
  intro w sc cdv test body orelse c q r d p res o hast hc h0 h1
  unfold LP
  intro mean mg mb dp un outer base g L m s nw Q R T D toks i rv k S hd1 hu hdr hne hpr O
  refine turn hast S.B S.F S.N fun Qb hn hr => ?_
  walk_at "my ast"
  obtain ⟨B, F, X, N, Tp, mT, mD, ⟨ti, mI⟩, ⟨td, mE⟩, ⟨tp, mP⟩, mR, rs, hT, dk, pv, pd⟩ := id S
  have F := fr_six F mT mD mI mE mP mR
  obtain ⟨as, n, hl, hlen, hsz, hat⟩ := id hT
  obtain ⟨hti, hdr1, hti'⟩ := drop_head hdr
  have ha : as[i]? = some (as[i]'(by omega)) := List.getElem?_eq_getElem _
  generalize as[i]'(by omega) = a at ha
  have hat' := hat i a _ ha hti
  simp only [cost, List.length_cons, Option.isSome_none, Option.isSome_some, if_true, Bool.false_eq_true, if_false] at hd1 hu
  obtain ⟨kk, wd, ⟨t1, t2, b3, b4, t5, n2, htok, h3, h4⟩, hk⟩ : ∃ k wd, TokO nw a k wd ∧ (k = 3 ∨ k = 4) := by
    obtain ⟨wd, h | h⟩ := hat'
    · exact ⟨_, _, h, .inl rfl⟩
    · exact ⟨_, _, h, .inr rfl⟩
  show wpAny _ _ (execs [_, _, _, _] _) _ _ _
  rcases hk with rfl | rfl
  all_goals
    k_steps
    skip
    refine' hn _ (tail_go hast h0 h1 (rv := rv) (nw := nw) (T := T) (D := D) (toks := toks) (i := i) (k := k) (Q := Q) ?S ?b1 ?b2 hdr1 hti ?ne ?O (fun _ h => h) (fun _ _ h => h))
    case S => exact ⟨B, by k_asm, X, (News.sub (by k_asm) (by intro p h; simp [h])), Tp, rfl, rfl, ⟨_, rfl⟩, ⟨_, rfl⟩, ⟨_, rfl⟩, rfl, rs, hT, dk, pv, pd⟩
    case b1 => simp only [cost]; omega
    case b2 => simp only [cost]; omega
    case ne => exact fun z => by cases z
    case O => exact O.move (fun _ h => h) rfl

theorem c_leaf : ∀ {w : World} {sc : Scope} {cdv : Value} {test : PySem.Expr} {body orelse : List Stmt} {c : List (Str × Int)} {q : Int} {r : List Tk} {d : Nat} {p : Pv} {res : Option Tr} {o : Out} {x : Wd} (hast : LoopAst w sc cdv test body orelse) (hc : COk c q) (h0 : r = [] → o = .err .syn) (h1 : r ≠ [] → LP w sc cdv test body orelse c r d p (some (.leaf x)) o), LP w sc cdv test body orelse c (.atom x :: r) d (p) (none) (o) := by
  walk_at "my fill"
  intro w sc cdv test body orelse c q r d p res o x hast hc h0 h1
  unfold LP
  intro mean mg mb dp un outer base g L m s nw Q R T D toks i rv k S hd1 hu hdr hne hpr O
  refine turn hast S.B S.F S.N fun Qb hn hr => ?_
  walk_at "my ast"
  obtain ⟨B, F, X, N, Tp, mT, mD, ⟨ti, mI⟩, ⟨td, mE⟩, ⟨tp, mP⟩, mR, rs, hT, dk, pv, pd⟩ := id S
  have F := fr_six F mT mD mI mE mP mR
  obtain ⟨as, n, hl, hlen, hsz, hat⟩ := id hT
  obtain ⟨hti, hdr1, hti'⟩ := drop_head hdr
  have ha : as[i]? = some (as[i]'(by omega)) := List.getElem?_eq_getElem _
  generalize as[i]'(by omega) = a at ha
  have hat' := hat i a _ ha hti
  simp only [cost, List.length_cons, Option.isSome_none, Option.isSome_some, if_true, Bool.false_eq_true, if_false] at hd1 hu
  obtain rfl : rv = .none := rs
  obtain ⟨kk, ⟨t1, t2, b3, b4, t5, n2, htok, h3, h4⟩, hk⟩ : ∃ k, TokO nw a k x ∧ (k = 1 ∨ k = 2) := by
    obtain ⟨h | h, _⟩ := hat'
    · exact ⟨_, h, .inl rfl⟩
    · exact ⟨_, h, .inr rfl⟩
  show wpAny _ _ (execs [_, _, _, _] _) _ _ _
  rcases hk with rfl | rfl
  all_goals
    k_steps
    skip
    refine' hn _ (tail_go hast h0 h1 (T := T) (D := D) (toks := toks) (i := i) (k := k) (Q := Q) ?S ?b1 ?b2 hdr1 hti ?ne ?O (fun _ h => h) (fun _ _ h => h))
    case S => exact ⟨B, by k_asm, X, by k_asm, Tp, rfl, rfl, ⟨_, rfl⟩, ⟨_, rfl⟩, ⟨_, rfl⟩, rfl, .leaf (.head _) (.tail _ (.head _)) (TokAt.mono ⟨_, t1, t2, b3, b4, t5, n2, htok, h3, h4⟩ (by intro p h; simp [h])), hT.mono (by intro p h; simp [h]), dk.mono (by intro p h; simp [h]), pv, pd⟩
    case b1 => simp only [cost, Option.isSome_some, if_true]; omega
    case b2 => simp only [cost, Option.isSome_some, if_true]; omega
    case ne => exact fun z => by cases z
    case O => exact O.move (by intro p h; simp [h]) rfl
theorem c_sign_no : ∀ {w : World} {sc : Scope} {cdv : Value} {test : PySem.Expr} {body orelse : List Stmt} {c : List (Str × Int)} {q : Int} {r : List Tk} {d : Nat} {p : Pv} {res : Option Tr} {o : Out} {x : Wd} (hast : LoopAst w sc cdv test body orelse) (hc : COk c q) (h0 : rkOf c x = none), LP w sc cdv test body orelse c (.sign x :: r) d (p) (res) (.err .syn) := by
  walk_at "my fill"
  intro w sc cdv test body orelse c q r d p res o x hast hc h0
  unfold LP
  intro mean mg mb dp un outer base g L m s nw Q R T D toks i rv k S hd1 hu hdr hne hpr O
  refine turn hast S.B S.F S.N fun Qb hn hr => ?_
  walk_at "my ast"
  obtain ⟨B, F, X, N, Tp, mT, mD, ⟨ti, mI⟩, ⟨td, mE⟩, ⟨tp, mP⟩, mR, rs, hT, dk, pv, pd⟩ := id S
  have F := fr_six F mT mD mI mE mP mR
  obtain ⟨as, n, hl, hlen, hsz, hat⟩ := id hT
  obtain ⟨hti, hdr1, hti'⟩ := drop_head hdr
  have ha : as[i]? = some (as[i]'(by omega)) := List.getElem?_eq_getElem _
  generalize as[i]'(by omega) = a at ha
  have hat' := hat i a _ ha hti
  simp only [cost, List.length_cons, Option.isSome_none, Option.isSome_some, if_true, Bool.false_eq_true, if_false] at hd1 hu
  obtain ⟨⟨t1, t2, b3, b4, t5, n2, htok, h3, h4⟩, hx1, hx2, hx3⟩ := hat'
  have hno := rk_no h0
  show wpAny _ _ (execs [_, _, _, _] _) _ _ _
  k_steps
  skip
  all_goals exact O.er _ (.ref 181) _ _ rfl (by assumption) (by assumption)

theorem c_sign_ret : ∀ {w : World} {sc : Scope} {cdv : Value} {test : PySem.Expr} {body orelse : List Stmt} {c : List (Str × Int)} {q : Int} {r : List Tk} {d : Nat} {p : Pv} {res : Option Tr} {o : Out} {x : Wd} {kx : Int} {t : Tr} (hast : LoopAst w sc cdv test body orelse) (hc : COk c q) (h0 : rkOf c x = some kx) (hle : kx ≤ pr (rkOf c) p) (hp : pow x = false), LP w sc cdv test body orelse c (.sign x :: r) d (p) (some t) (.ok t (.at (.sign x :: r))) := by
  walk_at "my fill"
  intro w sc cdv test body orelse c q r d p res o x kx t hast hc h0 hle hp
  unfold LP
  intro mean mg mb dp un outer base g L m s nw Q R T D toks i rv k S hd1 hu hdr hne hpr O
  refine turn hast S.B S.F S.N fun Qb hn hr => ?_
  walk_at "my ast"
  obtain ⟨B, F, X, N, Tp, mT, mD, ⟨ti, mI⟩, ⟨td, mE⟩, ⟨tp, mP⟩, mR, rs, hT, dk, pv, pd⟩ := id S
  have F := fr_six F mT mD mI mE mP mR
  obtain ⟨as, n, hl, hlen, hsz, hat⟩ := id hT
  obtain ⟨hti, hdr1, hti'⟩ := drop_head hdr
  have ha : as[i]? = some (as[i]'(by omega)) := List.getElem?_eq_getElem _
  generalize as[i]'(by omega) = a at ha
  have hat' := hat i a _ ha hti
  simp only [cost, List.length_cons, Option.isSome_none, Option.isSome_some, if_true, Bool.false_eq_true, if_false] at hd1 hu
  obtain ⟨⟨t1, t2, b3, b4, t5, n2, htok, h3, h4⟩, hx1, hx2, hx3⟩ := hat'
  obtain ⟨ra, rd, rO, rfl, hr1, hr2⟩ := tree_obj rs
  obtain ⟨hh1, hh2⟩ := rk_has h0
  have hle2 : kdpLook c x 0 ≤ kdpLook c (pvs p) (-1) := by rw [hh2, look_pr hc]; exact hle
  have hpw := (pow_any x).trans hp
  show wpAny _ _ (execs [_, _, _, _] _) _ _ _
  k_steps
  skip
  all_goals exact hr _ _ (O.ok _ _ _ _ _ _ _ _ _ _ _ rfl (by k_asm) (by k_asm) (by intro p h; simp [h]) (TreeIn.mono rs (by intro p h; simp [h])) (stop_at (hpr (by simp)) hdr hne) (.head _))

theorem c_atom_ret : ∀ {w : World} {sc : Scope} {cdv : Value} {test : PySem.Expr} {body orelse : List Stmt} {c : List (Str × Int)} {q : Int} {r : List Tk} {d : Nat} {p : Pv} {res : Option Tr} {o : Out} {x : Wd} {t : Tr} (hast : LoopAst w sc cdv test body orelse) (hc : COk c q) (hle : q ≤ pr (rkOf c) p), LP w sc cdv test body orelse c (.atom x :: r) d (p) (some t) (.ok t (.at (.atom x :: r))) := by
  walk_at "my fill"
  intro w sc cdv test body orelse c q r d p res o x t hast hc hle
  unfold LP
  intro mean mg mb dp un outer base g L m s nw Q R T D toks i rv k S hd1 hu hdr hne hpr O
  refine turn hast S.B S.F S.N fun Qb hn hr => ?_
  walk_at "my ast"
  obtain ⟨B, F, X, N, Tp, mT, mD, ⟨ti, mI⟩, ⟨td, mE⟩, ⟨tp, mP⟩, mR, rs, hT, dk, pv, pd⟩ := id S
  have F := fr_six F mT mD mI mE mP mR
  obtain ⟨as, n, hl, hlen, hsz, hat⟩ := id hT
  obtain ⟨hti, hdr1, hti'⟩ := drop_head hdr
  have ha : as[i]? = some (as[i]'(by omega)) := List.getElem?_eq_getElem _
  generalize as[i]'(by omega) = a at ha
  have hat' := hat i a _ ha hti
  simp only [cost, List.length_cons, Option.isSome_none, Option.isSome_some, if_true, Bool.false_eq_true, if_false] at hd1 hu
  obtain ⟨ra, rd, rO, rfl, hr1, hr2⟩ := tree_obj rs
  obtain ⟨kk, ⟨t1, t2, b3, b4, t5, n2, htok, h3, h4⟩, hk⟩ : ∃ k, TokO nw a k x ∧ (k = 1 ∨ k = 2) := by
    obtain ⟨h | h, _⟩ := hat'
    · exact ⟨_, h, .inl rfl⟩
    · exact ⟨_, h, .inr rfl⟩
  obtain ⟨hh1, hh2⟩ := rk_has hc.e
  have hle2 : kdpLook c wE 0 ≤ kdpLook c (pvs p) (-1) := by rw [hh2, look_pr hc]; exact hle
  show wpAny _ _ (execs [_, _, _, _] _) _ _ _
  rcases hk with rfl | rfl
  all_goals
    k_steps
    skip
    all_goals exact hr _ _ (O.ok _ _ _ _ _ _ _ _ _ _ _ rfl (by k_asm) (by k_asm) (by intro p h; simp [h]) (TreeIn.mono rs (by intro p h; simp [h])) (stop_at (hpr (by simp)) hdr hne) (.head _))

theorem c_cls_close : ∀ {w : World} {sc : Scope} {cdv : Value} {test : PySem.Expr} {body orelse : List Stmt} {c : List (Str × Int)} {q : Int} {r : List Tk} {d : Nat} {p : Pv} {res : Option Tr} {o : Out} {t : Tr} (hast : LoopAst w sc cdv test body orelse) (hc : COk c q) , LP w sc cdv test body orelse c (.cls :: r) d (.paren) (some t) (.ok t (.close r)) := by
  walk_at "my fill"
  intro w sc cdv test body orelse c q r d p res o t hast hc
  unfold LP
  intro mean mg mb dp un outer base g L m s nw Q R T D toks i rv k S hd1 hu hdr hne hpr O
  refine turn hast S.B S.F S.N fun Qb hn hr => ?_
  walk_at "my ast"
  obtain ⟨B, F, X, N, Tp, mT, mD, ⟨ti, mI⟩, ⟨td, mE⟩, ⟨tp, mP⟩, mR, rs, hT, dk, pv, pd⟩ := id S
  have F := fr_six F mT mD mI mE mP mR
  obtain ⟨as, n, hl, hlen, hsz, hat⟩ := id hT
  obtain ⟨hti, hdr1, hti'⟩ := drop_head hdr
  have ha : as[i]? = some (as[i]'(by omega)) := List.getElem?_eq_getElem _
  generalize as[i]'(by omega) = a at ha
  have hat' := hat i a _ ha hti
  simp only [cost, List.length_cons, Option.isSome_none, Option.isSome_some, if_true, Bool.false_eq_true, if_false] at hd1 hu
  obtain ⟨t1, t2, b3, b4, t5, n2, htok, h3, h4⟩ := hat'
  obtain ⟨ra, rd, rO, rfl, hr1, hr2⟩ := tree_obj rs
  show wpAny _ _ (execs [_, _, _, _] _) _ _ _
  simp only [pvs] at F
  k_steps
  skip
  all_goals exact hr _ _ (O.ok _ _ _ _ _ _ _ _ _ _ _ rfl (by k_asm) (by k_asm) (by intro p h; simp [h]) (TreeIn.mono rs (by intro p h; simp [h])) ⟨i, rfl, hdr⟩ (.head _))

theorem c_cls_at : ∀ {w : World} {sc : Scope} {cdv : Value} {test : PySem.Expr} {body orelse : List Stmt} {c : List (Str × Int)} {q : Int} {r : List Tk} {d : Nat} {p : Pv} {res : Option Tr} {o : Out} {x : Wd} {t : Tr} (hast : LoopAst w sc cdv test body orelse) (hc : COk c q) , LP w sc cdv test body orelse c (.cls :: r) d (.op x) (some t) (.ok t (.at (.cls :: r))) := by
  walk_at "my fill"
  intro w sc cdv test body orelse c q r d p res o x t hast hc
  unfold LP
  intro mean mg mb dp un outer base g L m s nw Q R T D toks i rv k S hd1 hu hdr hne hpr O
  refine turn hast S.B S.F S.N fun Qb hn hr => ?_
  walk_at "my ast"
  obtain ⟨B, F, X, N, Tp, mT, mD, ⟨ti, mI⟩, ⟨td, mE⟩, ⟨tp, mP⟩, mR, rs, hT, dk, pv, pd⟩ := id S
  have F := fr_six F mT mD mI mE mP mR
  obtain ⟨as, n, hl, hlen, hsz, hat⟩ := id hT
  obtain ⟨hti, hdr1, hti'⟩ := drop_head hdr
  have ha : as[i]? = some (as[i]'(by omega)) := List.getElem?_eq_getElem _
  generalize as[i]'(by omega) = a at ha
  have hat' := hat i a _ ha hti
  simp only [cost, List.length_cons, Option.isSome_none, Option.isSome_some, if_true, Bool.false_eq_true, if_false] at hd1 hu
  obtain ⟨t1, t2, b3, b4, t5, n2, htok, h3, h4⟩ := hat'
  obtain ⟨ra, rd, rO, rfl, hr1, hr2⟩ := tree_obj rs
  show wpAny _ _ (execs [_, _, _, _] _) _ _ _
  have hx := pv.2
  have hx0 := pv.1
  simp only [pvs] at F
  k_steps
  skip
  all_goals exact hr _ _ (O.ok _ _ _ _ _ _ _ _ _ _ _ rfl (by k_asm) (by k_asm) (by intro p h; simp [h]) (TreeIn.mono rs (by intro p h; simp [h])) (stop_at (hpr (by simp)) hdr hne) (.head _))

theorem c_cls_idle : ∀ {w : World} {sc : Scope} {cdv : Value} {test : PySem.Expr} {body orelse : List Stmt} {c : List (Str × Int)} {q : Int} {r : List Tk} {d : Nat} {p : Pv} {res : Option Tr} {o : Out}  (hast : LoopAst w sc cdv test body orelse) (hc : COk c q) (hp : p ≠ .none), LP w sc cdv test body orelse c (.cls :: r) d (p) (none) (.err .idle) := by
  walk_at "my fill"
  intro w sc cdv test body orelse c q r d p res o hast hc hp
  unfold LP
  intro mean mg mb dp un outer base g L m s nw Q R T D toks i rv k S hd1 hu hdr hne hpr O
  refine turn hast S.B S.F S.N fun Qb hn hr => ?_
  walk_at "my ast"
  obtain ⟨B, F, X, N, Tp, mT, mD, ⟨ti, mI⟩, ⟨td, mE⟩, ⟨tp, mP⟩, mR, rs, hT, dk, pv, pd⟩ := id S
  have F := fr_six F mT mD mI mE mP mR
  obtain ⟨as, n, hl, hlen, hsz, hat⟩ := id hT
  obtain ⟨hti, hdr1, hti'⟩ := drop_head hdr
  have ha : as[i]? = some (as[i]'(by omega)) := List.getElem?_eq_getElem _
  generalize as[i]'(by omega) = a at ha
  have hat' := hat i a _ ha hti
  simp only [cost, List.length_cons, Option.isSome_none, Option.isSome_some, if_true, Bool.false_eq_true, if_false] at hd1 hu
  obtain ⟨t1, t2, b3, b4, t5, n2, htok, h3, h4⟩ := hat'
  obtain rfl : rv = .none := rs
  show wpAny _ _ (execs [_, _, _, _] _) _ _ _
  obtain hp | ⟨x, hp⟩ : p = .paren ∨ ∃ x, p = .op x := by cases p <;> simp_all
  · subst hp
    simp only [pvs] at F
    k_steps
    skip
    all_goals exact O.er _ (.type "AssertionError") _ _ rfl (by assumption) (by assumption)
  · subst hp
    have hx := pv.2
    have hx0 := pv.1
    simp only [pvs] at F
    k_steps
    skip
    all_goals exact O.er _ (.type "AssertionError") _ _ rfl (by assumption) (by assumption)

theorem c_eof : ∀ {w : World} {sc : Scope} {cdv : Value} {test : PySem.Expr} {body orelse : List Stmt} {c : List (Str × Int)} {q : Int} {r : List Tk} {d : Nat} {p : Pv} {res : Option Tr} {o : Out}  (hast : LoopAst w sc cdv test body orelse) (hc : COk c q) (hE : EndOut p res o), LP w sc cdv test body orelse c (.eof :: r) d (p) (res) (o) := by
  walk_at "my fill"
  intro w sc cdv test body orelse c q r d p res o hast hc hE
  unfold LP
  intro mean mg mb dp un outer base g L m s nw Q R T D toks i rv k S hd1 hu hdr hne hpr O
  refine turn hast S.B S.F S.N fun Qb hn hr => ?_
  walk_at "my ast"
  obtain ⟨B, F, X, N, Tp, mT, mD, ⟨ti, mI⟩, ⟨td, mE⟩, ⟨tp, mP⟩, mR, rs, hT, dk, pv, pd⟩ := id S
  have F := fr_six F mT mD mI mE mP mR
  obtain ⟨as, n, hl, hlen, hsz, hat⟩ := id hT
  obtain ⟨hti, hdr1, hti'⟩ := drop_head hdr
  have ha : as[i]? = some (as[i]'(by omega)) := List.getElem?_eq_getElem _
  generalize as[i]'(by omega) = a at ha
  have hat' := hat i a _ ha hti
  simp only [cost, List.length_cons, Option.isSome_none, Option.isSome_some, if_true, Bool.false_eq_true, if_false] at hd1 hu
  obtain ⟨wd, ⟨t1, t2, b3, b4, t5, n2, htok, h3, h4⟩⟩ := hat'
  show wpAny _ _ (execs [_, _, _, _] _) _ _ _
  k_steps
  skip
  refine' hn _ (tail_end hast hE (rv := rv) (nw := nw) (T := T) (D := D) (toks := toks) (i := i) (Q := Q) ?S ?b1 ?b2 hti ?O (fun _ _ h => h))
  case S => exact ⟨B, by k_asm, X, (News.sub (by k_asm) (by intro p h; simp [h])), Tp, rfl, rfl, ⟨_, rfl⟩, ⟨_, rfl⟩, ⟨_, rfl⟩, rfl, rs, hT, dk, pv, pd⟩
  case b1 => omega
  case b2 => omega
  case O => exact O.move (fun _ h => h) rfl
theorem c_opn_err : ∀ {w : World} {sc : Scope} {cdv : Value} {test : PySem.Expr} {body orelse : List Stmt} {c : List (Str × Int)} {q : Int} {r : List Tk} {d : Nat} {p : Pv} {res : Option Tr} {o : Out} {e : Er} (hast : LoopAst w sc cdv test body orelse) (hc : COk c q) (hrn : r ≠ []) (hcp : CP w c r 0 .paren (.err e)), LP w sc cdv test body orelse c (.opn :: r) d (p) (res) (.err e) := by
  walk_at "my fill"
  intro w sc cdv test body orelse c q r d p res o e hast hc hrn hcp
  unfold LP
  intro mean mg mb dp un outer base g L m s nw Q R T D toks i rv k S hd1 hu hdr hne hpr O
  refine turn hast S.B S.F S.N fun Qb hn hr => ?_
  walk_at "my ast"
  obtain ⟨B, F, X, N, Tp, mT, mD, ⟨ti, mI⟩, ⟨td, mE⟩, ⟨tp, mP⟩, mR, rs, hT, dk, pv, pd⟩ := id S
  have F := fr_six F mT mD mI mE mP mR
  obtain ⟨as, n, hl, hlen, hsz, hat⟩ := id hT
  obtain ⟨hti, hdr1, hti'⟩ := drop_head hdr
  have ha : as[i]? = some (as[i]'(by omega)) := List.getElem?_eq_getElem _
  generalize as[i]'(by omega) = a at ha
  have hat' := hat i a _ ha hti
  simp only [cost, List.length_cons, Option.isSome_none, Option.isSome_some, if_true, Bool.false_eq_true, if_false] at hd1 hu
  obtain ⟨t1, t2, b3, b4, t5, n2, htok, h3, h4⟩ := hat'
  show wpAny _ _ (execs [_, _, _, _] _) _ _ _
  k_steps
  refine' cp_call hcp (j := i + 1) (T := T) (D := D) (toks := toks) (hT.mono ?sub) (dk.mono ?sub) hdr1 rfl rfl rfl ?B ?F ?X ?N ?Tp rfl ?b1 ?b2 ?ok ?er
  case B => k_asm
  case F => k_asm
  case X => k_asm
  case N => k_asm
  case Tp => k_asm
  case sub => walk_at "my sub"
  case b1 => (show _ + 1 + _ < _); simp only [cost, Option.isSome_none, Bool.false_eq_true, if_false, List.length_cons]; omega
  case b2 => (show _ + _ < _); simp only [cost, Option.isSome_none, Bool.false_eq_true, if_false, List.length_cons]; omega
  case ok => intro t st v idx it tup n h' tk' nw' ho; cases ho
  case er =>
    intro e2 cls h' tk' g2 hc2 F2 hu2 hr2
    k_steps
    skip
    exact O.er _ _ _ _ hc2 (RaisedN.mono (by assumption) (by walk_at "my sub")) (by assumption)

theorem c_opn_some : ∀ {w : World} {sc : Scope} {cdv : Value} {test : PySem.Expr} {body orelse : List Stmt} {c : List (Str × Int)} {q : Int} {r : List Tk} {d : Nat} {p : Pv} {res : Option Tr} {o : Out} {t u : Tr} {r' : List Tk} (hast : LoopAst w sc cdv test body orelse) (hc : COk c q) (hrn : r ≠ []) (hcp : CP w c r 0 .paren (.ok u (.close r'))) (hln : r'.length ≤ r.length) (h0 : r' = [] → o = .err .syn) (h1 : r' ≠ [] → LP w sc cdv test body orelse c r' d p (some (.imp t u)) o), LP w sc cdv test body orelse c (.opn :: r) d (p) (some t) (o) := by
  walk_at "my fill"
  intro w sc cdv test body orelse c q r d p res o t u r' hast hc hrn hcp hln h0 h1
  unfold LP
  intro mean mg mb dp un outer base g L m s nw Q R T D toks i rv k S hd1 hu hdr hne hpr O
  refine turn hast S.B S.F S.N fun Qb hn hr => ?_
  walk_at "my ast"
  obtain ⟨B, F, X, N, Tp, mT, mD, ⟨ti, mI⟩, ⟨td, mE⟩, ⟨tp, mP⟩, mR, rs, hT, dk, pv, pd⟩ := id S
  have F := fr_six F mT mD mI mE mP mR
  obtain ⟨as, n, hl, hlen, hsz, hat⟩ := id hT
  obtain ⟨hti, hdr1, hti'⟩ := drop_head hdr
  have ha : as[i]? = some (as[i]'(by omega)) := List.getElem?_eq_getElem _
  generalize as[i]'(by omega) = a at ha
  have hat' := hat i a _ ha hti
  simp only [cost, List.length_cons, Option.isSome_none, Option.isSome_some, if_true, Bool.false_eq_true, if_false] at hd1 hu
  obtain ⟨t1, t2, b3, b4, t5, n2, htok, h3, h4⟩ := hat'
  obtain ⟨ra, rd, rO, rfl, hr1, hr2⟩ := tree_obj rs
  show wpAny _ _ (execs [_, _, _, _] _) _ _ _
  k_steps
  refine' cp_call hcp (j := i + 1) (T := T) (D := D) (toks := toks) (hT.mono ?sub) (dk.mono ?sub) hdr1 rfl rfl rfl ?B ?F ?X ?N ?Tp rfl ?b1 ?b2 ?ok ?er
  case B => k_asm
  case F => k_asm
  case X => k_asm
  case N => k_asm
  case Tp => k_asm
  case sub => walk_at "my sub"
  case b1 => (show _ + 1 + _ < _); simp only [cost, Option.isSome_none, Bool.false_eq_true, if_false, List.length_cons]; omega
  case b2 => (show _ + _ < _); simp only [cost, Option.isSome_none, Bool.false_eq_true, if_false, List.length_cons]; omega
  case er => intro e2 cls h' tk' g2 hc2; exact hc2.elim
  case ok =>
    intro t2 st v idx it tup n3 h' tk' nw' ho F2 N2 sub2 tin sta mem
    cases ho
    obtain ⟨j2, rfl, hdr2⟩ := sta
    obtain ⟨hti2, hdr3, hlt2⟩ := drop_head hdr2
    have ha2 : as[j2]? = some (as[j2]'(by omega)) := List.getElem?_eq_getElem _
    generalize as[j2]'(by omega) = a2 at ha2
    have hz : ∀ p ∈ nw, p ∈ nw' := fun p h => sub2 p (by simp [h])
    obtain ⟨t11, t12, b13, b14, t15, n12, htok2, h13, h14⟩ := TokO.mono (hat j2 a2 _ ha2 hti2) hz
    have hl2 := hz _ hl
    have hr3 := hz _ hr1
    have hr4 := hz _ hr2
    k_steps
    skip
    refine' hn _ (tail_go hast h0 h1 (T := T) (D := D) (toks := toks) (i := j2) (k := k) (Q := Q) ?S ?b1 ?b2 hdr3 hti2 ?ne ?O (fun _ h => h) (fun _ _ h => h))
    case S => exact ⟨B, by k_asm, X, by k_asm, Tp, rfl, rfl, ⟨_, rfl⟩, ⟨_, rfl⟩, ⟨_, rfl⟩, rfl, .imp (.head _) (.tail _ (.head _)) (TreeIn.mono rs (by intro p h; simp [hz p h])) (TreeIn.mono tin (by intro p h; simp [h])), hT.mono (by intro p h; simp [hz p h]), dk.mono (by intro p h; simp [hz p h]), pv, pd⟩
    case b1 => simp only [cost, Option.isSome_some, if_true]; omega
    case b2 => simp only [cost, Option.isSome_some, if_true]; omega
    case ne => exact fun z => by cases z
    case O => exact O.move (by intro p h; simp [hz p h]) rfl

theorem c_opn_none : ∀ {w : World} {sc : Scope} {cdv : Value} {test : PySem.Expr} {body orelse : List Stmt} {c : List (Str × Int)} {q : Int} {r : List Tk} {d : Nat} {p : Pv} {res : Option Tr} {o : Out} {u : Tr} {r' : List Tk} (hast : LoopAst w sc cdv test body orelse) (hc : COk c q) (hrn : r ≠ []) (hcp : CP w c r 0 .paren (.ok u (.close r'))) (hln : r'.length ≤ r.length) (h0 : r' = [] → o = .err .syn) (h1 : r' ≠ [] → LP w sc cdv test body orelse c r' d p (some u) o), LP w sc cdv test body orelse c (.opn :: r) d (p) (none) (o) := by
  walk_at "my fill"
  intro w sc cdv test body orelse c q r d p res o u r' hast hc hrn hcp hln h0 h1
  unfold LP
  intro mean mg mb dp un outer base g L m s nw Q R T D toks i rv k S hd1 hu hdr hne hpr O
  refine turn hast S.B S.F S.N fun Qb hn hr => ?_
  walk_at "my ast"
  obtain ⟨B, F, X, N, Tp, mT, mD, ⟨ti, mI⟩, ⟨td, mE⟩, ⟨tp, mP⟩, mR, rs, hT, dk, pv, pd⟩ := id S
  have F := fr_six F mT mD mI mE mP mR
  obtain ⟨as, n, hl, hlen, hsz, hat⟩ := id hT
  obtain ⟨hti, hdr1, hti'⟩ := drop_head hdr
  have ha : as[i]? = some (as[i]'(by omega)) := List.getElem?_eq_getElem _
  generalize as[i]'(by omega) = a at ha
  have hat' := hat i a _ ha hti
  simp only [cost, List.length_cons, Option.isSome_none, Option.isSome_some, if_true, Bool.false_eq_true, if_false] at hd1 hu
  obtain ⟨t1, t2, b3, b4, t5, n2, htok, h3, h4⟩ := hat'
  obtain rfl : rv = .none := rs
  show wpAny _ _ (execs [_, _, _, _] _) _ _ _
  k_steps
  refine' cp_call hcp (j := i + 1) (T := T) (D := D) (toks := toks) (hT.mono ?sub) (dk.mono ?sub) hdr1 rfl rfl rfl ?B ?F ?X ?N ?Tp rfl ?b1 ?b2 ?ok ?er
  case B => k_asm
  case F => k_asm
  case X => k_asm
  case N => k_asm
  case Tp => k_asm
  case sub => walk_at "my sub"
  case b1 => (show _ + 1 + _ < _); simp only [cost, Option.isSome_none, Bool.false_eq_true, if_false, List.length_cons]; omega
  case b2 => (show _ + _ < _); simp only [cost, Option.isSome_none, Bool.false_eq_true, if_false, List.length_cons]; omega
  case er => intro e2 cls h' tk' g2 hc2; exact hc2.elim
  case ok =>
    intro t2 st v idx it tup n3 h' tk' nw' ho F2 N2 sub2 tin sta mem
    cases ho
    obtain ⟨j2, rfl, hdr2⟩ := sta
    obtain ⟨hti2, hdr3, hlt2⟩ := drop_head hdr2
    have ha2 : as[j2]? = some (as[j2]'(by omega)) := List.getElem?_eq_getElem _
    generalize as[j2]'(by omega) = a2 at ha2
    have hz : ∀ p ∈ nw, p ∈ nw' := fun p h => sub2 p (by simp [h])
    obtain ⟨t11, t12, b13, b14, t15, n12, htok2, h13, h14⟩ := TokO.mono (hat j2 a2 _ ha2 hti2) hz
    have hl2 := hz _ hl
    k_steps
    skip
    refine' hn _ (tail_go hast h0 h1 (T := T) (D := D) (toks := toks) (i := j2) (k := k) (Q := Q) ?S ?b1 ?b2 hdr3 hti2 ?ne ?O (fun _ h => h) (fun _ _ h => h))
    case S => exact ⟨B, by k_asm, X, by k_asm, Tp, rfl, rfl, ⟨_, rfl⟩, ⟨_, rfl⟩, ⟨_, rfl⟩, rfl, (TreeIn.mono tin (by intro p h; simp [h])), hT.mono (by intro p h; simp [hz p h]), dk.mono (by intro p h; simp [hz p h]), pv, pd⟩
    case b1 => simp only [cost, Option.isSome_some, if_true]; omega
    case b2 => simp only [cost, Option.isSome_some, if_true]; omega
    case ne => exact fun z => by cases z
    case O => exact O.move (by intro p h; simp [hz p h]) rfl
theorem c_bin_err : ∀ {w : World} {sc : Scope} {cdv : Value} {test : PySem.Expr} {body orelse : List Stmt} {c : List (Str × Int)} {q : Int} {r : List Tk} {d : Nat} {p : Pv} {res : Option Tr} {o : Out} {x : Wd} {kx : Int} {t : Tr} {e : Er} (hast : LoopAst w sc cdv test body orelse) (hc : COk c q) (h0 : rkOf c x = some kx) (hnp : ¬ (kx ≤ pr (rkOf c) p ∧ pow x = false)) (hrn : r ≠ []) (hcp : CP w c r (d + 1) (.op x) (.err e)), LP w sc cdv test body orelse c (.sign x :: r) d (p) (some t) (.err e) := by
  walk_at "my fill"
  intro w sc cdv test body orelse c q r d p res o x kx t e hast hc h0 hnp hrn hcp
  unfold LP
  intro mean mg mb dp un outer base g L m s nw Q R T D toks i rv k S hd1 hu hdr hne hpr O
  refine turn hast S.B S.F S.N fun Qb hn hr => ?_
  walk_at "my ast"
  obtain ⟨B, F, X, N, Tp, mT, mD, ⟨ti, mI⟩, ⟨td, mE⟩, ⟨tp, mP⟩, mR, rs, hT, dk, pv, pd⟩ := id S
  have F := fr_six F mT mD mI mE mP mR
  obtain ⟨as, n, hl, hlen, hsz, hat⟩ := id hT
  obtain ⟨hti, hdr1, hti'⟩ := drop_head hdr
  have ha : as[i]? = some (as[i]'(by omega)) := List.getElem?_eq_getElem _
  generalize as[i]'(by omega) = a at ha
  have hat' := hat i a _ ha hti
  simp only [cost, List.length_cons, Option.isSome_none, Option.isSome_some, if_true, Bool.false_eq_true, if_false] at hd1 hu
  obtain ⟨⟨t1, t2, b3, b4, t5, n2, htok, h3, h4⟩, hx1, hx2, hx3⟩ := hat'
  obtain ⟨ra, rd, rO, rfl, hr1, hr2⟩ := tree_obj rs
  obtain ⟨hh1, hh2⟩ := rk_has h0
  have hle2 : (kx ≤ pr (rkOf c) p) = (kdpLook c x 0 ≤ kdpLook c (pvs p) (-1)) := by rw [hh2, look_pr hc]
  have hcond : ¬ (kdpLook c x 0 ≤ kdpLook c (pvs p) (-1)) ∨ (kdpLook c x 0 ≤ kdpLook c (pvs p) (-1) ∧ ([Str.ofString "**", Str.ofString "^"].any fun y => y == x) = true) := by
    rw [hle2] at hnp
    by_cases hl : kdpLook c x 0 ≤ kdpLook c (pvs p) (-1)
    · refine .inr ⟨hl, ?_⟩
      rw [pow_any]
      cases hp : pow x with
      | true => rfl
      | false => exact absurd ⟨hl, hp⟩ hnp
    · exact .inl hl
  show wpAny _ _ (execs [_, _, _, _] _) _ _ _
  rcases hcond with hcn | ⟨hcn, hpw⟩
  all_goals
    k_steps
    refine' cp_call hcp (j := i + 1) (T := T) (D := D) (toks := toks) (hT.mono ?sub) (dk.mono ?sub) hdr1 rfl rfl rfl ?B ?F ?X ?N ?Tp rfl ?b1 ?b2 ?ok ?er
    case B => k_asm
    case F => k_asm
    case X => k_asm
    case N => k_asm
    case Tp => k_asm
    case sub => walk_at "my sub"
    case b1 => (show _ + 1 + _ < _); simp only [cost, Option.isSome_none, Bool.false_eq_true, if_false, List.length_cons]; omega
    case b2 => (show _ + _ < _); simp only [cost, Option.isSome_none, Bool.false_eq_true, if_false, List.length_cons]; omega
    case ok => intro t st v idx it tup n h' tk' nw' ho; cases ho
    case er =>
      intro e2 cls h' tk' g2 hc2 F2 hu2 hr2
      k_steps
      skip
      exact O.er _ _ _ _ hc2 (RaisedN.mono (by assumption) (by walk_at "my sub")) (by assumption)

theorem c_bin_at : ∀ {w : World} {sc : Scope} {cdv : Value} {test : PySem.Expr} {body orelse : List Stmt} {c : List (Str × Int)} {q : Int} {r : List Tk} {d : Nat} {p : Pv} {res : Option Tr} {o : Out} {x : Wd} {kx : Int} {t u : Tr} {r' : List Tk} (hast : LoopAst w sc cdv test body orelse) (hc : COk c q) (h0 : rkOf c x = some kx) (hnp : ¬ (kx ≤ pr (rkOf c) p ∧ pow x = false)) (hrn : r ≠ []) (hcp : CP w c r (d + 1) (.op x) (.ok u (.at r'))) (hln : r'.length ≤ r.length) (h0' : r' = [] → o = .err .syn) (h1 : r' ≠ [] → LP w sc cdv test body orelse c r' d p (some (.bin t x u)) o), LP w sc cdv test body orelse c (.sign x :: r) d (p) (some t) (o) := by
  walk_at "my fill"
  intro w sc cdv test body orelse c q r d p res o x kx t u r' hast hc h0 hnp hrn hcp hln h0' h1
  unfold LP
  intro mean mg mb dp un outer base g L m s nw Q R T D toks i rv k S hd1 hu hdr hne hpr O
  refine turn hast S.B S.F S.N fun Qb hn hr => ?_
  walk_at "my ast"
  obtain ⟨B, F, X, N, Tp, mT, mD, ⟨ti, mI⟩, ⟨td, mE⟩, ⟨tp, mP⟩, mR, rs, hT, dk, pv, pd⟩ := id S
  have F := fr_six F mT mD mI mE mP mR
  obtain ⟨as, n, hl, hlen, hsz, hat⟩ := id hT
  obtain ⟨hti, hdr1, hti'⟩ := drop_head hdr
  have ha : as[i]? = some (as[i]'(by omega)) := List.getElem?_eq_getElem _
  generalize as[i]'(by omega) = a at ha
  have hat' := hat i a _ ha hti
  simp only [cost, List.length_cons, Option.isSome_none, Option.isSome_some, if_true, Bool.false_eq_true, if_false] at hd1 hu
  obtain ⟨⟨t1, t2, b3, b4, t5, n2, htok, h3, h4⟩, hx1, hx2, hx3⟩ := hat'
  obtain ⟨ra, rd, rO, rfl, hr1, hr2⟩ := tree_obj rs
  obtain ⟨hh1, hh2⟩ := rk_has h0
  have hle2 : (kx ≤ pr (rkOf c) p) = (kdpLook c x 0 ≤ kdpLook c (pvs p) (-1)) := by rw [hh2, look_pr hc]
  have hcond : ¬ (kdpLook c x 0 ≤ kdpLook c (pvs p) (-1)) ∨ (kdpLook c x 0 ≤ kdpLook c (pvs p) (-1) ∧ ([Str.ofString "**", Str.ofString "^"].any fun y => y == x) = true) := by
    rw [hle2] at hnp
    by_cases hl : kdpLook c x 0 ≤ kdpLook c (pvs p) (-1)
    · refine .inr ⟨hl, ?_⟩
      rw [pow_any]
      cases hp : pow x with
      | true => rfl
      | false => exact absurd ⟨hl, hp⟩ hnp
    · exact .inl hl
  show wpAny _ _ (execs [_, _, _, _] _) _ _ _
  rcases hcond with hcn | ⟨hcn, hpw⟩
  all_goals
    k_steps
    refine' cp_call hcp (j := i + 1) (T := T) (D := D) (toks := toks) (hT.mono ?sub) (dk.mono ?sub) hdr1 rfl rfl rfl ?B ?F ?X ?N ?Tp rfl ?b1 ?b2 ?ok ?er
    case B => k_asm
    case F => k_asm
    case X => k_asm
    case N => k_asm
    case Tp => k_asm
    case sub => walk_at "my sub"
    case b1 => (show _ + 1 + _ < _); simp only [cost, Option.isSome_none, Bool.false_eq_true, if_false, List.length_cons]; omega
    case b2 => (show _ + _ < _); simp only [cost, Option.isSome_none, Bool.false_eq_true, if_false, List.length_cons]; omega
    case er => intro e2 cls h' tk' g2 hc2; exact hc2.elim
    case ok =>
      intro t2 st v idx it tup n3 h' tk' nw' ho F2 N2 sub2 tin sta mem
      cases ho
      obtain ⟨j2, rfl, hdr3, hrne, tk2, hti2, hne2⟩ := sta
      have hz : ∀ p ∈ nw, p ∈ nw' := fun p h => sub2 p (by simp [h])
      have hr3 := hz _ hr1
      have hr4 := hz _ hr2
      have hc3 := htok.mono hz
      k_steps
      skip
      refine' hn _ (tail_go hast h0' h1 (T := T) (D := D) (toks := toks) (i := j2) (k := k) (Q := Q) ?S ?b1 ?b2 hdr3 hti2 ?ne ?O (fun _ h => h) (fun _ _ h => h))
      case S => exact ⟨B, by k_asm, X, by k_asm, Tp, rfl, rfl, ⟨_, rfl⟩, ⟨_, rfl⟩, ⟨_, rfl⟩, rfl, .bin (.head _) (.tail _ (.head _)) (TokAt.mono ⟨_, t1, t2, b3, b4, t5, n2, htok, h3, h4⟩ (by intro p h; simp [hz p h])) (TreeIn.mono rs (by intro p h; simp [hz p h])) (TreeIn.mono tin (by intro p h; simp [h])), hT.mono (by intro p h; simp [hz p h]), dk.mono (by intro p h; simp [hz p h]), pv, pd⟩
      case b1 => simp only [cost, Option.isSome_some, if_true]; omega
      case b2 => simp only [cost, Option.isSome_some, if_true]; omega
      case ne => exact hne2
      case O => exact O.move (by intro p h; simp [hz p h]) rfl

theorem c_bin_eof : ∀ {w : World} {sc : Scope} {cdv : Value} {test : PySem.Expr} {body orelse : List Stmt} {c : List (Str × Int)} {q : Int} {r : List Tk} {d : Nat} {p : Pv} {res : Option Tr} {o : Out} {x : Wd} {kx : Int} {t u : Tr} (hast : LoopAst w sc cdv test body orelse) (hc : COk c q) (h0 : rkOf c x = some kx) (hnp : ¬ (kx ≤ pr (rkOf c) p ∧ pow x = false)) (hrn : r ≠ []) (hcp : CP w c r (d + 1) (.op x) (.ok u .eof)) (hE : EndOut p (some (.bin t x u)) o), LP w sc cdv test body orelse c (.sign x :: r) d (p) (some t) (o) := by
  walk_at "my fill"
  intro w sc cdv test body orelse c q r d p res o x kx t u hast hc h0 hnp hrn hcp hE
  unfold LP
  intro mean mg mb dp un outer base g L m s nw Q R T D toks i rv k S hd1 hu hdr hne hpr O
  refine turn hast S.B S.F S.N fun Qb hn hr => ?_
  walk_at "my ast"
  obtain ⟨B, F, X, N, Tp, mT, mD, ⟨ti, mI⟩, ⟨td, mE⟩, ⟨tp, mP⟩, mR, rs, hT, dk, pv, pd⟩ := id S
  have F := fr_six F mT mD mI mE mP mR
  obtain ⟨as, n, hl, hlen, hsz, hat⟩ := id hT
  obtain ⟨hti, hdr1, hti'⟩ := drop_head hdr
  have ha : as[i]? = some (as[i]'(by omega)) := List.getElem?_eq_getElem _
  generalize as[i]'(by omega) = a at ha
  have hat' := hat i a _ ha hti
  simp only [cost, List.length_cons, Option.isSome_none, Option.isSome_some, if_true, Bool.false_eq_true, if_false] at hd1 hu
  obtain ⟨⟨t1, t2, b3, b4, t5, n2, htok, h3, h4⟩, hx1, hx2, hx3⟩ := hat'
  obtain ⟨ra, rd, rO, rfl, hr1, hr2⟩ := tree_obj rs
  obtain ⟨hh1, hh2⟩ := rk_has h0
  have hle2 : (kx ≤ pr (rkOf c) p) = (kdpLook c x 0 ≤ kdpLook c (pvs p) (-1)) := by rw [hh2, look_pr hc]
  have hcond : ¬ (kdpLook c x 0 ≤ kdpLook c (pvs p) (-1)) ∨ (kdpLook c x 0 ≤ kdpLook c (pvs p) (-1) ∧ ([Str.ofString "**", Str.ofString "^"].any fun y => y == x) = true) := by
    rw [hle2] at hnp
    by_cases hl : kdpLook c x 0 ≤ kdpLook c (pvs p) (-1)
    · refine .inr ⟨hl, ?_⟩
      rw [pow_any]
      cases hp : pow x with
      | true => rfl
      | false => exact absurd ⟨hl, hp⟩ hnp
    · exact .inl hl
  show wpAny _ _ (execs [_, _, _, _] _) _ _ _
  rcases hcond with hcn | ⟨hcn, hpw⟩
  all_goals
    k_steps
    refine' cp_call hcp (j := i + 1) (T := T) (D := D) (toks := toks) (hT.mono ?sub) (dk.mono ?sub) hdr1 rfl rfl rfl ?B ?F ?X ?N ?Tp rfl ?b1 ?b2 ?ok ?er
    case B => k_asm
    case F => k_asm
    case X => k_asm
    case N => k_asm
    case Tp => k_asm
    case sub => walk_at "my sub"
    case b1 => (show _ + 1 + _ < _); simp only [cost, Option.isSome_none, Bool.false_eq_true, if_false, List.length_cons]; omega
    case b2 => (show _ + _ < _); simp only [cost, Option.isSome_none, Bool.false_eq_true, if_false, List.length_cons]; omega
    case er => intro e2 cls h' tk' g2 hc2; exact hc2.elim
    case ok =>
      intro t2 st v idx it tup n3 h' tk' nw' ho F2 N2 sub2 tin sta mem
      cases ho
      obtain ⟨j2, r2, rfl, hdr2⟩ := sta
      obtain ⟨hti2, hdr3, hlt2⟩ := drop_head hdr2
      have hz : ∀ p ∈ nw, p ∈ nw' := fun p h => sub2 p (by simp [h])
      have hr3 := hz _ hr1
      have hr4 := hz _ hr2
      have hc3 := htok.mono hz
      k_steps
      skip
      refine' hn _ (tail_end hast hE (T := T) (D := D) (toks := toks) (i := j2) (Q := Q) ?S ?b1 ?b2 hti2 ?O (fun _ _ h => h))
      case S => exact ⟨B, by k_asm, X, by k_asm, Tp, rfl, rfl, ⟨_, rfl⟩, ⟨_, rfl⟩, ⟨_, rfl⟩, rfl, .bin (.head _) (.tail _ (.head _)) (TokAt.mono ⟨_, t1, t2, b3, b4, t5, n2, htok, h3, h4⟩ (by intro p h; simp [hz p h])) (TreeIn.mono rs (by intro p h; simp [hz p h])) (TreeIn.mono tin (by intro p h; simp [h])), hT.mono (by intro p h; simp [hz p h]), dk.mono (by intro p h; simp [hz p h]), pv, pd⟩
      case b1 => omega
      case b2 => omega
      case O => exact O.move (by intro p h; simp [hz p h]) rfl
theorem c_un_err : ∀ {w : World} {sc : Scope} {cdv : Value} {test : PySem.Expr} {body orelse : List Stmt} {c : List (Str × Int)} {q : Int} {r : List Tk} {d : Nat} {p : Pv} {res : Option Tr} {o : Out} {x : Wd} {kx : Int} {e : Er} (hast : LoopAst w sc cdv test body orelse) (hc : COk c q) (h0 : rkOf c x = some kx) (hrn : r ≠ []) (hcp : CP w c r (d + 1) (.op wU) (.err e)), LP w sc cdv test body orelse c (.sign x :: r) d (p) (none) (.err e) := by
  walk_at "my fill"
  intro w sc cdv test body orelse c q r d p res o x kx e hast hc h0 hrn hcp
  unfold LP
  intro mean mg mb dp un outer base g L m s nw Q R T D toks i rv k S hd1 hu hdr hne hpr O
  refine turn hast S.B S.F S.N fun Qb hn hr => ?_
  walk_at "my ast"
  obtain ⟨B, F, X, N, Tp, mT, mD, ⟨ti, mI⟩, ⟨td, mE⟩, ⟨tp, mP⟩, mR, rs, hT, dk, pv, pd⟩ := id S
  have F := fr_six F mT mD mI mE mP mR
  obtain ⟨as, n, hl, hlen, hsz, hat⟩ := id hT
  obtain ⟨hti, hdr1, hti'⟩ := drop_head hdr
  have ha : as[i]? = some (as[i]'(by omega)) := List.getElem?_eq_getElem _
  generalize as[i]'(by omega) = a at ha
  have hat' := hat i a _ ha hti
  simp only [cost, List.length_cons, Option.isSome_none, Option.isSome_some, if_true, Bool.false_eq_true, if_false] at hd1 hu
  obtain ⟨⟨t1, t2, b3, b4, t5, n2, htok, h3, h4⟩, hx1, hx2, hx3⟩ := hat'
  obtain rfl : rv = .none := rs
  obtain ⟨hh1, hh2⟩ := rk_has h0
  show wpAny _ _ (execs [_, _, _, _] _) _ _ _
  k_steps
  refine' cp_call hcp (j := i + 1) (T := T) (D := D) (toks := toks) (hT.mono ?sub) (dk.mono ?sub) hdr1 rfl rfl rfl ?B ?F ?X ?N ?Tp rfl ?b1 ?b2 ?ok ?er
  case B => k_asm
  case F => k_asm
  case X => k_asm
  case N => k_asm
  case Tp => k_asm
  case sub => walk_at "my sub"
  case b1 => (show _ + 1 + _ < _); simp only [cost, Option.isSome_none, Bool.false_eq_true, if_false, List.length_cons]; omega
  case b2 => (show _ + _ < _); simp only [cost, Option.isSome_none, Bool.false_eq_true, if_false, List.length_cons]; omega
  case ok => intro t st v idx it tup n h' tk' nw' ho; cases ho
  case er =>
    intro e2 cls h' tk' g2 hc2 F2 hu2 hr2
    k_steps
    skip
    exact O.er _ _ _ _ hc2 (RaisedN.mono (by assumption) (by walk_at "my sub")) (by assumption)

theorem c_un_at : ∀ {w : World} {sc : Scope} {cdv : Value} {test : PySem.Expr} {body orelse : List Stmt} {c : List (Str × Int)} {q : Int} {r : List Tk} {d : Nat} {p : Pv} {res : Option Tr} {o : Out} {x : Wd} {kx : Int} {u : Tr} {r' : List Tk} (hast : LoopAst w sc cdv test body orelse) (hc : COk c q) (h0 : rkOf c x = some kx) (hrn : r ≠ []) (hcp : CP w c r (d + 1) (.op wU) (.ok u (.at r'))) (hln : r'.length ≤ r.length) (h0' : r' = [] → o = .err .syn) (h1 : r' ≠ [] → LP w sc cdv test body orelse c r' d p (some (.un x u)) o), LP w sc cdv test body orelse c (.sign x :: r) d (p) (none) (o) := by
  walk_at "my fill"
  intro w sc cdv test body orelse c q r d p res o x kx u r' hast hc h0 hrn hcp hln h0' h1
  unfold LP
  intro mean mg mb dp un outer base g L m s nw Q R T D toks i rv k S hd1 hu hdr hne hpr O
  refine turn hast S.B S.F S.N fun Qb hn hr => ?_
  walk_at "my ast"
  obtain ⟨B, F, X, N, Tp, mT, mD, ⟨ti, mI⟩, ⟨td, mE⟩, ⟨tp, mP⟩, mR, rs, hT, dk, pv, pd⟩ := id S
  have F := fr_six F mT mD mI mE mP mR
  obtain ⟨as, n, hl, hlen, hsz, hat⟩ := id hT
  obtain ⟨hti, hdr1, hti'⟩ := drop_head hdr
  have ha : as[i]? = some (as[i]'(by omega)) := List.getElem?_eq_getElem _
  generalize as[i]'(by omega) = a at ha
  have hat' := hat i a _ ha hti
  simp only [cost, List.length_cons, Option.isSome_none, Option.isSome_some, if_true, Bool.false_eq_true, if_false] at hd1 hu
  obtain ⟨⟨t1, t2, b3, b4, t5, n2, htok, h3, h4⟩, hx1, hx2, hx3⟩ := hat'
  obtain rfl : rv = .none := rs
  obtain ⟨hh1, hh2⟩ := rk_has h0
  show wpAny _ _ (execs [_, _, _, _] _) _ _ _
  k_steps
  refine' cp_call hcp (j := i + 1) (T := T) (D := D) (toks := toks) (hT.mono ?sub) (dk.mono ?sub) hdr1 rfl rfl rfl ?B ?F ?X ?N ?Tp rfl ?b1 ?b2 ?ok ?er
  case B => k_asm
  case F => k_asm
  case X => k_asm
  case N => k_asm
  case Tp => k_asm
  case sub => walk_at "my sub"
  case b1 => (show _ + 1 + _ < _); simp only [cost, Option.isSome_none, Bool.false_eq_true, if_false, List.length_cons]; omega
  case b2 => (show _ + _ < _); simp only [cost, Option.isSome_none, Bool.false_eq_true, if_false, List.length_cons]; omega
  case er => intro e2 cls h' tk' g2 hc2; exact hc2.elim
  case ok =>
    intro t2 st v idx it tup n3 h' tk' nw' ho F2 N2 sub2 tin sta mem
    cases ho
    obtain ⟨j2, rfl, hdr3, hrne, tk2, hti2, hne2⟩ := sta
    have hz : ∀ p ∈ nw, p ∈ nw' := fun p h => sub2 p (by simp [h])
    have hc3 := htok.mono hz
    k_steps
    skip
    refine' hn _ (tail_go hast h0' h1 (T := T) (D := D) (toks := toks) (i := j2) (k := k) (Q := Q) ?S ?b1 ?b2 hdr3 hti2 ?ne ?O (fun _ h => h) (fun _ _ h => h))
    case S => exact ⟨B, by k_asm, X, by k_asm, Tp, rfl, rfl, ⟨_, rfl⟩, ⟨_, rfl⟩, ⟨_, rfl⟩, rfl, .un (.head _) (.tail _ (.head _)) (TokAt.mono ⟨_, t1, t2, b3, b4, t5, n2, htok, h3, h4⟩ (by intro p h; simp [hz p h])) (TreeIn.mono tin (by intro p h; simp [h])), hT.mono (by intro p h; simp [hz p h]), dk.mono (by intro p h; simp [hz p h]), pv, pd⟩
    case b1 => simp only [cost, Option.isSome_some, if_true]; omega
    case b2 => simp only [cost, Option.isSome_some, if_true]; omega
    case ne => exact hne2
    case O => exact O.move (by intro p h; simp [hz p h]) rfl

theorem c_un_eof : ∀ {w : World} {sc : Scope} {cdv : Value} {test : PySem.Expr} {body orelse : List Stmt} {c : List (Str × Int)} {q : Int} {r : List Tk} {d : Nat} {p : Pv} {res : Option Tr} {o : Out} {x : Wd} {kx : Int} {u : Tr} (hast : LoopAst w sc cdv test body orelse) (hc : COk c q) (h0 : rkOf c x = some kx) (hrn : r ≠ []) (hcp : CP w c r (d + 1) (.op wU) (.ok u .eof)) (hE : EndOut p (some (.un x u)) o), LP w sc cdv test body orelse c (.sign x :: r) d (p) (none) (o) := by
  walk_at "my fill"
  intro w sc cdv test body orelse c q r d p res o x kx u hast hc h0 hrn hcp hE
  unfold LP
  intro mean mg mb dp un outer base g L m s nw Q R T D toks i rv k S hd1 hu hdr hne hpr O
  refine turn hast S.B S.F S.N fun Qb hn hr => ?_
  walk_at "my ast"
  obtain ⟨B, F, X, N, Tp, mT, mD, ⟨ti, mI⟩, ⟨td, mE⟩, ⟨tp, mP⟩, mR, rs, hT, dk, pv, pd⟩ := id S
  have F := fr_six F mT mD mI mE mP mR
  obtain ⟨as, n, hl, hlen, hsz, hat⟩ := id hT
  obtain ⟨hti, hdr1, hti'⟩ := drop_head hdr
  have ha : as[i]? = some (as[i]'(by omega)) := List.getElem?_eq_getElem _
  generalize as[i]'(by omega) = a at ha
  have hat' := hat i a _ ha hti
  simp only [cost, List.length_cons, Option.isSome_none, Option.isSome_some, if_true, Bool.false_eq_true, if_false] at hd1 hu
  obtain ⟨⟨t1, t2, b3, b4, t5, n2, htok, h3, h4⟩, hx1, hx2, hx3⟩ := hat'
  obtain rfl : rv = .none := rs
  obtain ⟨hh1, hh2⟩ := rk_has h0
  show wpAny _ _ (execs [_, _, _, _] _) _ _ _
  k_steps
  refine' cp_call hcp (j := i + 1) (T := T) (D := D) (toks := toks) (hT.mono ?sub) (dk.mono ?sub) hdr1 rfl rfl rfl ?B ?F ?X ?N ?Tp rfl ?b1 ?b2 ?ok ?er
  case B => k_asm
  case F => k_asm
  case X => k_asm
  case N => k_asm
  case Tp => k_asm
  case sub => walk_at "my sub"
  case b1 => (show _ + 1 + _ < _); simp only [cost, Option.isSome_none, Bool.false_eq_true, if_false, List.length_cons]; omega
  case b2 => (show _ + _ < _); simp only [cost, Option.isSome_none, Bool.false_eq_true, if_false, List.length_cons]; omega
  case er => intro e2 cls h' tk' g2 hc2; exact hc2.elim
  case ok =>
    intro t2 st v idx it tup n3 h' tk' nw' ho F2 N2 sub2 tin sta mem
    cases ho
    obtain ⟨j2, r2, rfl, hdr2⟩ := sta
    obtain ⟨hti2, hdr3, hlt2⟩ := drop_head hdr2
    have hz : ∀ p ∈ nw, p ∈ nw' := fun p h => sub2 p (by simp [h])
    have hc3 := htok.mono hz
    k_steps
    skip
    refine' hn _ (tail_end hast hE (T := T) (D := D) (toks := toks) (i := j2) (Q := Q) ?S ?b1 ?b2 hti2 ?O (fun _ _ h => h))
    case S => exact ⟨B, by k_asm, X, by k_asm, Tp, rfl, rfl, ⟨_, rfl⟩, ⟨_, rfl⟩, ⟨_, rfl⟩, rfl, .un (.head _) (.tail _ (.head _)) (TokAt.mono ⟨_, t1, t2, b3, b4, t5, n2, htok, h3, h4⟩ (by intro p h; simp [hz p h])) (TreeIn.mono tin (by intro p h; simp [h])), hT.mono (by intro p h; simp [hz p h]), dk.mono (by intro p h; simp [hz p h]), pv, pd⟩
    case b1 => omega
    case b2 => omega
    case O => exact O.move (by intro p h; simp [hz p h]) rfl
theorem c_imp_err : ∀ {w : World} {sc : Scope} {cdv : Value} {test : PySem.Expr} {body orelse : List Stmt} {c : List (Str × Int)} {q : Int} {r : List Tk} {d : Nat} {p : Pv} {res : Option Tr} {o : Out} {x : Wd} {t : Tr} {e : Er} (hast : LoopAst w sc cdv test body orelse) (hc : COk c q) (hnp : ¬ q ≤ pr (rkOf c) p) (hcp : CP w c (.atom x :: r) (d + 1) (.op wE) (.err e)), LP w sc cdv test body orelse c (.atom x :: r) d (p) (some t) (.err e) := by
  walk_at "my fill"
  intro w sc cdv test body orelse c q r d p res o x t e hast hc hnp hcp
  unfold LP
  intro mean mg mb dp un outer base g L m s nw Q R T D toks i rv k S hd1 hu hdr hne hpr O
  refine turn hast S.B S.F S.N fun Qb hn hr => ?_
  walk_at "my ast"
  obtain ⟨B, F, X, N, Tp, mT, mD, ⟨ti, mI⟩, ⟨td, mE⟩, ⟨tp, mP⟩, mR, rs, hT, dk, pv, pd⟩ := id S
  have F := fr_six F mT mD mI mE mP mR
  obtain ⟨as, n, hl, hlen, hsz, hat⟩ := id hT
  obtain ⟨hti, hdr1, hti'⟩ := drop_head hdr
  have ha : as[i]? = some (as[i]'(by omega)) := List.getElem?_eq_getElem _
  generalize as[i]'(by omega) = a at ha
  have hat' := hat i a _ ha hti
  simp only [cost, List.length_cons, Option.isSome_none, Option.isSome_some, if_true, Bool.false_eq_true, if_false] at hd1 hu
  obtain ⟨ra, rd, rO, rfl, hr1, hr2⟩ := tree_obj rs
  obtain ⟨kk, ⟨t1, t2, b3, b4, t5, n2, htok, h3, h4⟩, hk⟩ : ∃ k, TokO nw a k x ∧ (k = 1 ∨ k = 2) := by
    obtain ⟨h | h, _⟩ := hat'
    · exact ⟨_, h, .inl rfl⟩
    · exact ⟨_, h, .inr rfl⟩
  obtain ⟨hh1, hh2⟩ := rk_has hc.e
  have hle2 : ¬ (kdpLook c wE 0 ≤ kdpLook c (pvs p) (-1)) := by rw [hh2, look_pr hc]; exact hnp
  show wpAny _ _ (execs [_, _, _, _] _) _ _ _
  rcases hk with rfl | rfl
  all_goals
    k_steps
    refine' cp_call hcp (j := i) (T := T) (D := D) (toks := toks) (hT.mono ?sub) (dk.mono ?sub) hdr rfl rfl rfl ?B ?F ?X ?N ?Tp rfl ?b1 ?b2 ?ok ?er
    case B => k_asm
    case F => k_asm
    case X => k_asm
    case N => k_asm
    case Tp => k_asm
    case sub => walk_at "my sub"
    case b1 => (show _ + 1 + _ < _); simp only [cost, Option.isSome_none, Bool.false_eq_true, if_false, List.length_cons]; omega
    case b2 => (show _ + _ < _); simp only [cost, Option.isSome_none, Bool.false_eq_true, if_false, List.length_cons]; omega
    case ok => intro t st v idx it tup n h' tk' nw' ho; cases ho
    case er =>
      intro e2 cls h' tk' g2 hc2 F2 hu2 hr2
      k_steps
      skip
      exact O.er _ _ _ _ hc2 (RaisedN.mono (by assumption) (by walk_at "my sub")) (by assumption)

theorem c_imp_at : ∀ {w : World} {sc : Scope} {cdv : Value} {test : PySem.Expr} {body orelse : List Stmt} {c : List (Str × Int)} {q : Int} {r : List Tk} {d : Nat} {p : Pv} {res : Option Tr} {o : Out} {x : Wd} {t u : Tr} {r' : List Tk} (hast : LoopAst w sc cdv test body orelse) (hc : COk c q) (hnp : ¬ q ≤ pr (rkOf c) p) (hcp : CP w c (.atom x :: r) (d + 1) (.op wE) (.ok u (.at r'))) (hln : r'.length ≤ r.length + 1) (h0' : r' = [] → o = .err .syn) (h1 : r' ≠ [] → LP w sc cdv test body orelse c r' d p (some (.imp t u)) o), LP w sc cdv test body orelse c (.atom x :: r) d (p) (some t) (o) := by
  walk_at "my fill"
  intro w sc cdv test body orelse c q r d p res o x t u r' hast hc hnp hcp hln h0' h1
  unfold LP
  intro mean mg mb dp un outer base g L m s nw Q R T D toks i rv k S hd1 hu hdr hne hpr O
  refine turn hast S.B S.F S.N fun Qb hn hr => ?_
  walk_at "my ast"
  obtain ⟨B, F, X, N, Tp, mT, mD, ⟨ti, mI⟩, ⟨td, mE⟩, ⟨tp, mP⟩, mR, rs, hT, dk, pv, pd⟩ := id S
  have F := fr_six F mT mD mI mE mP mR
  obtain ⟨as, n, hl, hlen, hsz, hat⟩ := id hT
  obtain ⟨hti, hdr1, hti'⟩ := drop_head hdr
  have ha : as[i]? = some (as[i]'(by omega)) := List.getElem?_eq_getElem _
  generalize as[i]'(by omega) = a at ha
  have hat' := hat i a _ ha hti
  simp only [cost, List.length_cons, Option.isSome_none, Option.isSome_some, if_true, Bool.false_eq_true, if_false] at hd1 hu
  obtain ⟨ra, rd, rO, rfl, hr1, hr2⟩ := tree_obj rs
  obtain ⟨kk, ⟨t1, t2, b3, b4, t5, n2, htok, h3, h4⟩, hk⟩ : ∃ k, TokO nw a k x ∧ (k = 1 ∨ k = 2) := by
    obtain ⟨h | h, _⟩ := hat'
    · exact ⟨_, h, .inl rfl⟩
    · exact ⟨_, h, .inr rfl⟩
  obtain ⟨hh1, hh2⟩ := rk_has hc.e
  have hle2 : ¬ (kdpLook c wE 0 ≤ kdpLook c (pvs p) (-1)) := by rw [hh2, look_pr hc]; exact hnp
  show wpAny _ _ (execs [_, _, _, _] _) _ _ _
  rcases hk with rfl | rfl
  all_goals
    k_steps
    refine' cp_call hcp (j := i) (T := T) (D := D) (toks := toks) (hT.mono ?sub) (dk.mono ?sub) hdr rfl rfl rfl ?B ?F ?X ?N ?Tp rfl ?b1 ?b2 ?ok ?er
    case B => k_asm
    case F => k_asm
    case X => k_asm
    case N => k_asm
    case Tp => k_asm
    case sub => walk_at "my sub"
    case b1 => (show _ + 1 + _ < _); simp only [cost, Option.isSome_none, Bool.false_eq_true, if_false, List.length_cons]; omega
    case b2 => (show _ + _ < _); simp only [cost, Option.isSome_none, Bool.false_eq_true, if_false, List.length_cons]; omega
    case er => intro e2 cls h' tk' g2 hc2; exact hc2.elim
    case ok =>
      intro t2 st v idx it tup n3 h' tk' nw' ho F2 N2 sub2 tin sta mem
      cases ho
      obtain ⟨j2, rfl, hdr3, hrne, tk2, hti2, hne2⟩ := sta
      have hz : ∀ p ∈ nw, p ∈ nw' := fun p h => sub2 p (by simp [h])
      have hr3 := hz _ hr1
      have hr4 := hz _ hr2
      k_steps
      skip
      refine' hn _ (tail_go hast h0' h1 (T := T) (D := D) (toks := toks) (i := j2) (k := k) (Q := Q) ?S ?b1 ?b2 hdr3 hti2 ?ne ?O (fun _ h => h) (fun _ _ h => h))
      case S => exact ⟨B, by k_asm, X, by k_asm, Tp, rfl, rfl, ⟨_, rfl⟩, ⟨_, rfl⟩, ⟨_, rfl⟩, rfl, .imp (.head _) (.tail _ (.head _)) (TreeIn.mono rs (by intro p h; simp [hz p h])) (TreeIn.mono tin (by intro p h; simp [h])), hT.mono (by intro p h; simp [hz p h]), dk.mono (by intro p h; simp [hz p h]), pv, pd⟩
      case b1 => simp only [cost, Option.isSome_some, if_true]; omega
      case b2 => simp only [cost, Option.isSome_some, if_true]; omega
      case ne => exact hne2
      case O => exact O.move (by intro p h; simp [hz p h]) rfl

theorem c_imp_eof : ∀ {w : World} {sc : Scope} {cdv : Value} {test : PySem.Expr} {body orelse : List Stmt} {c : List (Str × Int)} {q : Int} {r : List Tk} {d : Nat} {p : Pv} {res : Option Tr} {o : Out} {x : Wd} {t u : Tr} (hast : LoopAst w sc cdv test body orelse) (hc : COk c q) (hnp : ¬ q ≤ pr (rkOf c) p) (hcp : CP w c (.atom x :: r) (d + 1) (.op wE) (.ok u .eof)) (hE : EndOut p (some (.imp t u)) o), LP w sc cdv test body orelse c (.atom x :: r) d (p) (some t) (o) := by
  walk_at "my fill"
  intro w sc cdv test body orelse c q r d p res o x t u hast hc hnp hcp hE
  unfold LP
  intro mean mg mb dp un outer base g L m s nw Q R T D toks i rv k S hd1 hu hdr hne hpr O
  refine turn hast S.B S.F S.N fun Qb hn hr => ?_
  walk_at "my ast"
  obtain ⟨B, F, X, N, Tp, mT, mD, ⟨ti, mI⟩, ⟨td, mE⟩, ⟨tp, mP⟩, mR, rs, hT, dk, pv, pd⟩ := id S
  have F := fr_six F mT mD mI mE mP mR
  obtain ⟨as, n, hl, hlen, hsz, hat⟩ := id hT
  obtain ⟨hti, hdr1, hti'⟩ := drop_head hdr
  have ha : as[i]? = some (as[i]'(by omega)) := List.getElem?_eq_getElem _
  generalize as[i]'(by omega) = a at ha
  have hat' := hat i a _ ha hti
  simp only [cost, List.length_cons, Option.isSome_none, Option.isSome_some, if_true, Bool.false_eq_true, if_false] at hd1 hu
  obtain ⟨ra, rd, rO, rfl, hr1, hr2⟩ := tree_obj rs
  obtain ⟨kk, ⟨t1, t2, b3, b4, t5, n2, htok, h3, h4⟩, hk⟩ : ∃ k, TokO nw a k x ∧ (k = 1 ∨ k = 2) := by
    obtain ⟨h | h, _⟩ := hat'
    · exact ⟨_, h, .inl rfl⟩
    · exact ⟨_, h, .inr rfl⟩
  obtain ⟨hh1, hh2⟩ := rk_has hc.e
  have hle2 : ¬ (kdpLook c wE 0 ≤ kdpLook c (pvs p) (-1)) := by rw [hh2, look_pr hc]; exact hnp
  show wpAny _ _ (execs [_, _, _, _] _) _ _ _
  rcases hk with rfl | rfl
  all_goals
    k_steps
    refine' cp_call hcp (j := i) (T := T) (D := D) (toks := toks) (hT.mono ?sub) (dk.mono ?sub) hdr rfl rfl rfl ?B ?F ?X ?N ?Tp rfl ?b1 ?b2 ?ok ?er
    case B => k_asm
    case F => k_asm
    case X => k_asm
    case N => k_asm
    case Tp => k_asm
    case sub => walk_at "my sub"
    case b1 => (show _ + 1 + _ < _); simp only [cost, Option.isSome_none, Bool.false_eq_true, if_false, List.length_cons]; omega
    case b2 => (show _ + _ < _); simp only [cost, Option.isSome_none, Bool.false_eq_true, if_false, List.length_cons]; omega
    case er => intro e2 cls h' tk' g2 hc2; exact hc2.elim
    case ok =>
      intro t2 st v idx it tup n3 h' tk' nw' ho F2 N2 sub2 tin sta mem
      cases ho
      obtain ⟨j2, r2, rfl, hdr2⟩ := sta
      obtain ⟨hti2, hdr3, hlt2⟩ := drop_head hdr2
      have hz : ∀ p ∈ nw, p ∈ nw' := fun p h => sub2 p (by simp [h])
      have hr3 := hz _ hr1
      have hr4 := hz _ hr2
      k_steps
      skip
      refine' hn _ (tail_end hast hE (T := T) (D := D) (toks := toks) (i := j2) (Q := Q) ?S ?b1 ?b2 hti2 ?O (fun _ _ h => h))
      case S => exact ⟨B, by k_asm, X, by k_asm, Tp, rfl, rfl, ⟨_, rfl⟩, ⟨_, rfl⟩, ⟨_, rfl⟩, rfl, .imp (.head _) (.tail _ (.head _)) (TreeIn.mono rs (by intro p h; simp [hz p h])) (TreeIn.mono tin (by intro p h; simp [h])), hT.mono (by intro p h; simp [hz p h]), dk.mono (by intro p h; simp [hz p h]), pv, pd⟩
      case b1 => omega
      case b2 => omega
      case O => exact O.move (by intro p h; simp [hz p h]) rfl
section
theorem tok_class : ∀ {w : World} {A : Around} {s : Shared} {Q E : Value → Shared → Prop} {h₀ : Heap} {L : Addr} {m : Str → Option Value}
    {news : List (Addr × Obj)} {x : Addr} {vs : List Value} {n : Nat × Addr} {expr : Bool}
    (F : Fr h₀ L s.heap m) (X : (hd.heap_39 w.params).In h₀) (N : News h₀ L s.heap news) (hx : TokIn news x vs n)
    (h : Q (.ref 141) { s with toks := s.toks + 1 }),
    wpAny (model PySem.Challenge.rw_fe0201_01.row.prog w) A (getAttr (.ref x) (Str.ofString "__class__") expr) Q E s := by
  k_fill
  intro w A s Q E h₀ L m news x vs n expr F X N hx h
  have XS := X.keeps F.keep
  have I := inst_tok (hx.hp N)
  refine get_bind_tup (K := hd.heap_39 w.params) (C := 141) (ox := tokObj vs n) (od := some emptyDict) (g := .builtin "getset_descriptor.__get__") (a := .builtin "object.__class__") XS I ?ga ?gn ?gm ?fo ?call
  case ga => k_dflt k_is
  case gn => k_dflt k_is
  case gm => k_dflt k_is
  case fo => exact findObj_tup (K := hd.heap_39 w.params) (C := 141) (od := some emptyDict) (a := .builtin "object.__class__") (g := .builtin "getset_descriptor.__get__") (by rfl) (by k_dflt k_is) (by k_dflt k_is) (by k_dflt k_is)
  case call =>
    exact wpAny_call (class_get (s := { s with toks := s.toks + 1 }) (ox := tokObj vs n) (od := some emptyDict) XS I (by k_dflt k_is) (handed_on rfl h))
local macro_rules | `(tactic| walk_at "getAttr ref") => `(tactic| (k_here; (with_reducible show wpAny _ _ (getAttr (Value.ref _) (PySem.Str.ofString "__class__") _) _ _ _); k_dflt (refine' tok_class ?F ?X ?N ?hx ?_; (case hx => assumption); (case F => k_asm); (case X => k_asm); (case N => k_asm))))
section
open Builtin Builtin.ObjectAttr Builtin.Getset_descriptor
theorem name_dga (d tp : Value) (c : Addr) : descrGetArgs ⟨[d, .ref c, tp], []⟩ = pure (d, some (.ref c), given tp) := by kernel_rfl
theorem name_get {w : World} {A : Around} {s : Shared} {R : Result → Shared → Prop} {tp : Value} (X : (hd.heap_39 w.params).In s.heap) (h : R (.ok (.ret (.str (Str.ofString "TokenInfo") 265))) s) :
    codeAny (model PySem.Challenge.rw_fe0201_01.row.prog w) A (.call (.builtin "getset_descriptor.__get__") ⟨[.builtin "type.__name__", .ref 141, tp], []⟩) R s := by
  obtain ⟨hh, g, dr, t, os⟩ := s
  have L0 : Looks (model PySem.Challenge.rw_fe0201_01.row.prog w) hh (typeOf (.ref 141)) (.type "type") := Looks.of_peek X (by kernel_rfl)
  have L1 : Looks (model PySem.Challenge.rw_fe0201_01.row.prog w) hh (isSubtype (.type "type") (.type "type")) true := Looks.of_pure (by rw [isSubtype_type]; kernel_rfl)
  have L2 : Looks (model PySem.Challenge.rw_fe0201_01.row.prog w) hh (slotAt 141 2) (some (.str (Str.ofString "TokenInfo") 265)) := Looks.of_peek X (by kernel_rfl)
  refine codeAny_call_builtin KF.slot_gs.plain KF.entry_gs (KF.slot_gs.check _ _ _ _ _ _ _ _ ktyn_type (KF.args_gs _ _ _) ?_)
  unfold Builtin.«getset_descriptor.__get__» descrGet
  rw [name_dga]
  refine wpAny_bind (wpAny_pure ?_)
  unfold descrGetter descrCheckInstance descrNameAndClass isInstance
  simp only [ktyn_owner]
  repeat lk
  refine ⟨Code.quiet_builtin _ (by decide +kernel), codeAny_builtin ktyn_entry ?_⟩
  unfold Builtin.«type.__name__»
  dsimp only
  unfold keptObject
  dsimp only
  refine wpAny_bind (L2.at ?_)
  exact wpAny_pure h
theorem tok_name {w : World} {A : Around} {s : Shared} {Q E : Value → Shared → Prop} {expr : Bool} (X : (hd.heap_39 w.params).In s.heap)
    (h : Q (.str (Str.ofString "TokenInfo") 265) { s with toks := s.toks + 1 }) :
    wpAny (model PySem.Challenge.rw_fe0201_01.row.prog w) A (getAttr (.ref 141) (Str.ofString "__name__") expr) Q E s := by
  have L0 : Looks (model PySem.Challenge.rw_fe0201_01.row.prog w) s.heap (typeOf (.ref 141)) (.type "type") := Looks.of_peek X (by kernel_rfl)
  have LO : Looks (model PySem.Challenge.rw_fe0201_01.row.prog w) s.heap (opaqueClassAbove (.ref 141)) none := Looks.of_peek X (by kernel_rfl)
  have hg : findIn (hd.heap_39 w.params) (.type "type") "__getattribute__" = some (some (.builtin "type.__getattribute__")) := type_tga
  have e : findCls (hd.heap_39 w.params) (.ref 141) (.type "type") "__name__" = some (.get (.builtin "getset_descriptor.__get__") (.builtin "type.__name__") (.ref 141) (.type "type")) := by kernel_rfl
  refine cls_open X LO L0 hg (looks_hook X (r := none) (by rfl)) (by show subIn _ _ _ = _; rfl) e ?_
  show wpAny _ _ (do ret (← holding [Value.builtin "type.__name__"] (call (.builtin "getset_descriptor.__get__") [.builtin "type.__name__", .ref 141, .type "type"]))) _ _ _
  refine wpAny_bind (wpAny_holding (wpAny_call (name_get (s := { s with toks := s.toks + 1 }) X ?_)))
  exact wpAny_pure (handed_on rfl h)
end
local macro_rules | `(tactic| walk_at "getAttr ref") => `(tactic| (k_here; (with_reducible show wpAny _ _ (getAttr (Value.ref 141) (PySem.Str.ofString "__name__") _) _ _ _); k_dflt (refine' tok_name ?X ?_; (case X => k_in))))
section
open Builtin Builtin.Str
variable {prog : Program} {w : World} {A : Around} {E : Value → Shared → Prop} {s : Shared}
theorem under_gives {T id : String} {B : Builtin} {v : Value} {x : PySem.Str} {b : Nat} {Q : Value → Shared → Prop} (hT : s.TypeIs v T) (slot : Slot T "__repr__" id)
    (entry : entryFor table id = some B) (args : argsOk id ⟨[v], []⟩) (g : Gives (B ⟨[v], []⟩) (.str x)) (hn : reprUnder? (.builtin id) = none) (h : Q (.str x s.toks) { s with toks := s.toks + 1 })
    (hv : [v].any Value.onHeap = false := by rfl) (hx : x.length ≤ sizeLine := by size_fits) :
    wpAny (model prog w) A (pyReprObjUnder b v) Q E s := by
  unfold pyReprObjUnder pyReprObjBy
  simp only [cRoomFor, hv, Bool.false_eq_true, if_false, pure_bind]
  refine wpAny_bind (wpAny_specialOf (name := Str.ofString "__repr__") hT slot.lookup ?_)
  refine wpAny_bind (wpAny_callSpecialIfBoundBy?_slotG (name := Str.ofString "__repr__") hT slot.toG ?_)
  simp only [hn]
  refine call_gives slot hT entry args g ⟨hx, ?_⟩
  exact wpAny_bind (wpAny_isInstance (T := "str") (b := true) rfl isSubtype_str_str (wpAny_pure h))
theorem under_int {n : Int} {t : Tok} {b : Nat} {Q : Value → Shared → Prop} (hn : n.natAbs.log2 < 1920) (h : Q (.str (Str.ofString (toString n)) s.toks) { s with toks := s.toks + 1 }) :
    wpAny (model prog w) A (pyReprObjUnder b (.int n t)) Q E s :=
  under_gives (typeIs_int s n t) F.slot_int_repr F.entry_int_repr (F.args_int_repr_1 _) (gives_int_repr n t hn) rfl h (hx := int_text_fits hn)
theorem under_str {x : PySem.Str} {t : Tok} {b : Nat} {Q : Value → Shared → Prop} (hx : (reprText x).length ≤ sizeLine) (h : Q (.str (reprText x) s.toks) { s with toks := s.toks + 1 }) :
    wpAny (model prog w) A (pyReprObjUnder b (.str x t)) Q E s :=
  under_gives (typeIs_str s x t) F.slot_str_repr F.entry_str_repr (F.args_str_repr_1 _) (gives_str_repr x t) rfl h (hx := hx)
theorem under_pair {n : Nat} {i j : Int} {t u : Tok} {b : Nat} {a : Addr} {Q : Value → Shared → Prop} (ha : s.heap.get? a = some ({ cls := .type "tuple", data := .seq #[.int i t, .int j u] n } : Obj)) (hi : i.natAbs.log2 < 1920) (hj : j.natAbs.log2 < 1920)
    (hg : A.guards = some []) (hu : A.units + 1 < cLine) (hz : b + (tupleText [Str.ofString (toString i), Str.ofString (toString j)]).length ≤ sizeLine)
    (h : ∀ h' v tk, (∀ b o, s.heap.get? b = some o → h'.get? b = some o) → Q (.str (tupleText [Str.ofString (toString i), Str.ofString (toString j)]) v) { s with heap := h', toks := tk }) :
    wpAny (model prog w) A (pyReprObjUnder b (.ref a)) Q E s := by
  refine wpAny_pyReprObjUnder_tupleK (as := []) (h₀ := s.heap) (d := 0) ha rfl rfl (by simp) (.cons (.of_is (.int t hi) _ _ _) (.cons (.of_is (.int u hj) _ _ _) .nil)) hg (fun b _ => Clear.nil b) hu (fun _ _ e => e) h hz
end
open Builtin Builtin.Str in
theorem fills_look {M : Model} {A : Around} {s : Shared} {E : Value → Shared → Prop} {x : Addr} {Q : Bool → Shared → Prop} {v : Option Value} (L : Looks M s.heap (specialOf (.ref x) "__getitem__") v) (h : ∀ b, Q b s) : wpAny M A (fillsMappingSlot (.ref x)) Q E s := by
  unfold fillsMappingSlot
  refine wpAny_bind (L.here ?_)
  split <;> exact wpAny_pure (h _)
abbrev F107 : PySem.Str := ⟨#[40, 116, 121, 112, 101, 61, 37, 114, 44, 32, 115, 116, 114, 105, 110, 103, 61, 37, 114, 44, 32, 115, 116, 97, 114, 116, 61, 37, 114, 44, 32, 101, 110, 100, 61, 37, 114, 44, 32, 108, 105, 110, 101, 61, 37, 114, 41]⟩
open Builtin Builtin.Str in
theorem tok_mod {w : World} {A : Around} {s : Shared} {Q E : Value → Shared → Prop} {x b3 b4 : Addr} {n : Nat × Addr} {t t1 t2 t5 u1 u2 u3 u4 : Tok} (X : (hd.heap_39 w.params).In s.heap)
    (hx : TokHp s.heap x [.int 54 t1, .str (Str.ofString ")") t2, .ref b3, .ref b4, .str (Str.ofString "") t5] n)
    (h3 : s.heap.get? b3 = some ({ cls := .type "tuple", data := .seq #[.int 1 u1, .int 0 u2] } : Obj)) (h4 : s.heap.get? b4 = some ({ cls := .type "tuple", data := .seq #[.int 1 u3, .int 1 u4] } : Obj))
    (hg : A.guards = some []) (hu : A.units + 20 < cLine)
    (h : ∀ y ty h' tk', (∀ b o, s.heap.get? b = some o → h'.get? b = some o) → y.length ≤ 300 → Q (.str y ty) { s with heap := h', toks := tk' }) :
    wpAny (model PySem.Challenge.rw_fe0201_01.row.prog w) A (binaryOp .Mod (.str F107 t) (.ref x)) Q E s := by
  have I := inst_tok hx
  have LT := I.type (M := model PySem.Challenge.rw_fe0201_01.row.prog w)
  have LN : Looks (model PySem.Challenge.rw_fe0201_01.row.prog w) s.heap (fillsNumberSlot (.ref 141) "mod") false := Looks.of_peek X (by kernel_rfl)
  have LM : Looks (model PySem.Challenge.rw_fe0201_01.row.prog w) s.heap (isInstance (.ref x) (.type "tuple")) true := looks_isi X I (by kernel_rfl)
  have LG : Looks (model PySem.Challenge.rw_fe0201_01.row.prog w) s.heap (specialOf (.ref x) "__getitem__") (some (.builtin "tuple.__getitem__")) := LT.andThen (looks_findIn X (by kernel_rfl))
  have hop : Operator.Mod.info = ("%", "mod") := rfl
  simp only [binaryOp, hop]
  try with_reducible refine wpAny_holding ?_
  refine wpAny_bind ?_
  simp only [binaryOp1]
  refine wpAny_bind (wpAny_typeOf (typeIs_str s F107 t) (wpAny_bind (LT.here (wpAny_bind (wpAny_of_eq F.fills_str_mod ?_)))))
  rw [show (Value.type "str" == Value.ref 141) = false from rfl]
  simp only [Bool.false_eq_true, if_false]
  refine wpAny_bind (LN.here ?_)
  simp only [if_true, pure_bind, Bool.and_false, Bool.false_and, Bool.false_eq_true, if_false]
  refine wpAny_bind ?_
  refine wpAny_tryMethod_slot (T := "str") (name := PySem.dunder "mod") (id := "str.__mod__") (typeIs_str s F107 t) ?sl ?_
  case sl => exact F.slot_str_mod
  refine wpAny_call (codeAny_call_builtin F.slot_str_mod.plain F.entry_str_mod (F.slot_str_mod.check _ _ _ _ _ _ _ _ (typeIs_str s F107 t) (F.args_str_mod_2 _ _) ?_))
  rw [KPt.entry_is_r]
  unfold Builtin.Str.percentFormat
  refine wpAny_bind (LM.here ?_)
  refine wpAny_bind (KPt.asStr_ref hx.hx rfl ?_)
  refine wpAny_bind (fills_look LG fun b => ?_)
  kpc_if
  refine wpAny_bind (wpAny_seqItems hx.hx rfl ?_)
  refine wpAny_bind (wpAny_pure ?_)
  refine wpAny_bind ?_
  rw [KPc.range_list]
  refine KPc.start ?_
  intro w1 g1
  refine KPc.turn ?_
  kpc_check
  repeat kpc_if
  refine wpAny_pure ?_
  kpt_piece
  refine KPc.turn ?_
  kpc_check
  repeat kpc_if
  refine wpAny_bind ?_
  refine wpAny_holding ?_
  repeat kpc_if
  refine wpAny_bind ?_
  repeat kpc_if
  refine under_int (by decide) ?_
  refine wpAny_bind (wpAny_of_eq (a := some _) rfl ?_)
  refine wpAny_pure ?_
  refine wpAny_pure ?_
  refine KPc.after_str (K := 30) (by kpc_g) (by decide +kernel) (by kpc_obj) ?_
  intro _ _
  refine KPc.turn ?_
  kpc_check
  repeat kpc_if
  refine wpAny_pure ?_
  kpt_piece
  refine KPc.turn ?_
  kpc_check
  repeat kpc_if
  refine wpAny_bind ?_
  refine wpAny_holding ?_
  repeat kpc_if
  refine wpAny_bind ?_
  repeat kpc_if
  refine under_str (by decide +kernel) ?_
  refine wpAny_bind (wpAny_of_eq (a := some _) rfl ?_)
  refine wpAny_pure ?_
  refine wpAny_pure ?_
  refine KPc.after_str (K := 30) (by kpc_g) (by decide +kernel) (by kpc_obj) ?_
  intro _ _
  refine KPc.turn ?_
  kpc_check
  repeat kpc_if
  refine wpAny_pure ?_
  kpt_piece
  refine KPc.turn ?_
  kpc_check
  repeat kpc_if
  refine wpAny_bind ?_
  refine wpAny_holding ?_
  repeat kpc_if
  refine wpAny_bind ?_
  repeat kpc_if
  refine under_pair (h3) (by decide) (by decide) hg (by show A.units + _ + 1 < _; omega) (Nat.le_trans (Nat.add_le_add_right (KPc.Good.total (by kpc_g)) _) (by decide +kernel)) ?_
  intro h1 v1 tk1 k1
  refine wpAny_bind (wpAny_of_eq (a := some _) rfl ?_)
  refine wpAny_pure ?_
  refine wpAny_pure ?_
  refine KPc.after_str (K := 30) (by kpc_g) (by decide +kernel) (by kpc_obj) ?_
  intro _ _
  refine KPc.turn ?_
  kpc_check
  repeat kpc_if
  refine wpAny_pure ?_
  kpt_piece
  refine KPc.turn ?_
  kpc_check
  repeat kpc_if
  refine wpAny_bind ?_
  refine wpAny_holding ?_
  repeat kpc_if
  refine wpAny_bind ?_
  repeat kpc_if
  refine under_pair (k1 _ _ h4) (by decide) (by decide) hg (by show A.units + _ + 1 < _; omega) (Nat.le_trans (Nat.add_le_add_right (KPc.Good.total (by kpc_g)) _) (by decide +kernel)) ?_
  intro h2 v2 tk2 k2
  refine wpAny_bind (wpAny_of_eq (a := some _) rfl ?_)
  refine wpAny_pure ?_
  refine wpAny_pure ?_
  refine KPc.after_str (K := 30) (by kpc_g) (by decide +kernel) (by kpc_obj) ?_
  intro _ _
  refine KPc.turn ?_
  kpc_check
  repeat kpc_if
  refine wpAny_pure ?_
  kpt_piece
  refine KPc.turn ?_
  kpc_check
  repeat kpc_if
  refine wpAny_bind ?_
  refine wpAny_holding ?_
  repeat kpc_if
  refine wpAny_bind ?_
  repeat kpc_if
  refine under_str (by decide +kernel) ?_
  refine wpAny_bind (wpAny_of_eq (a := some _) rfl ?_)
  refine wpAny_pure ?_
  refine wpAny_pure ?_
  refine KPc.after_str (K := 30) (by kpc_g) (by decide +kernel) (by kpc_obj) ?_
  intro _ _
  refine KPc.turn ?_
  kpc_check
  repeat kpc_if
  refine wpAny_pure ?_
  kpt_piece
  refine KPc.turn ?_
  kpc_check
  repeat kpc_if
  refine wpAny_pure ?_
  kpc_if
  refine KPc.finish_ok (by kpc_g) (by decide +kernel) rfl ?_
  intro ty kk
  refine ⟨(fun e => nomatch e), ?_⟩
  repeat (refine wpAny_pure ?_)
  exact h _ _ _ _ (fun b o e => k2 b o (k1 b o e)) (Nat.le_trans (KPc.Good.len (by kpc_g)) (by decide +kernel))
end
theorem tick_4 {prog : Program} {w : World} {A : Around} {E : Value → Shared → Prop} {env : Env} {Q : Flow → Shared → Prop} {s : Shared} (h : Q .next s) : wpAny (model prog w) A (execs [] env) Q E s := by
  walk1
  exact h
section
local macro_rules | `(tactic| walk_at "getAttr ref") => `(tactic| (k_here; (with_reducible show wpAny _ _ (getAttr (Value.ref _) (PySem.Str.ofString "__class__") _) _ _ _); k_dflt (refine' tok_class ?F ?X ?N ?hx ?_; (case hx => assumption); (case F => k_asm); (case X => k_asm); (case N => k_asm))))
local macro_rules | `(tactic| walk_at "getAttr ref") => `(tactic| (k_here; (with_reducible show wpAny _ _ (getAttr (Value.ref 141) (PySem.Str.ofString "__name__") _) _ _ _); k_dflt (refine' tok_name ?X ?_; (case X => k_in))))
theorem Fr.up {g h h' : Heap} {L : Addr} {m : Str → Option Value} (F : Fr g L h m) (k : ∀ b o, h.get? b = some o → h'.get? b = some o) : Fr g L h' m := by
  obtain ⟨⟨oL, es, ep, hL, hr⟩, keep, ab⟩ := F
  exact ⟨⟨oL, es, ep, k _ _ hL, hr⟩, fun b o e => k b o (keep b o e), ab⟩
theorem News.up {g h h' : Heap} {L : Addr} {l : List (Addr × Obj)} (N : News g L h l) (k : ∀ b o, h.get? b = some o → h'.get? b = some o) : News g L h' l := fun p hp => ⟨k _ _ (N p hp).1, (N p hp).2⟩
local macro_rules | `(tactic| walk_at "binaryOp Mod str ref") => `(tactic| (k_here; k_dflt (refine' tok_mod ?X ?hx ?h3 ?h4 ?hg ?hu ?_; (case X => k_in); (case hx => exact (TokIn.hp (by k_asm) (by assumption))); (case h3 => exact (News.get (by k_asm) (by assumption))); (case h4 => exact (News.get (by k_asm) (by assumption))); (case hg => exact rfl); (case hu => (show _ + _ < _; (try simp only [depth_in1, depth_deeper, depth_under_kw, units_in1, units_deeper]); (try dsimp only [A0, AA]); omega)); intro yy ty hh tk kk ylen; (have F9 := Fr.up (by assumption) kk); (have N9 := News.up (by assumption) kk))))
theorem tok_repr : ∀ {w : World} {mean : ExcName → Option Value} {mg mb : Str → Option Value} {dp un : Nat} {cn : Str} {cs : Scope} {a : Addr} {ccd : Value} {outer : List Env} {A₀ : Around} {base h₀ : Heap} {L : Addr} {m : Str → Option Value} {s : Shared} {Q E : Value → Shared → Prop}
    {news : List (Addr × Obj)} {x b3 b4 : Addr} {n : Nat × Addr} {t1 t2 t5 u1 u2 u3 u4 : Tok}
    (B : Below A₀ base outer h₀) (F : Fr h₀ L s.heap m) (X : (hd.heap_39 w.params).In h₀) (N : News h₀ L s.heap news) (T : Top hd.view_39 lo mean mg mb h₀) (hk : cs.kind = .function) (hd1 : dp + 6 < recursionLimit) (hu : un + 30 < cLine) (hx : TokIn news x [.int 54 t1, .str (Str.ofString ")") t2, .ref b3, .ref b4, .str (Str.ofString "") t5] n)
    (h3 : (b3, ({ cls := .type "tuple", data := .seq #[.int 1 u1, .int 0 u2] } : Obj)) ∈ news) (h4 : (b4, ({ cls := .type "tuple", data := .seq #[.int 1 u3, .int 1 u4] } : Obj)) ∈ news)
    (h : ∀ y ty h' tk', Fr h₀ L h' m → News h₀ L h' news → y.length ≤ 400 → Q (.str y ty) { s with heap := h', toks := tk' }),
    wpAny (model PySem.Challenge.rw_fe0201_01.row.prog w) (AA dp un (some []) cn cs L a ccd outer) (call (.ref 107) [.ref x]) Q E s := by
  k_fill
  intro w mean mg mb dp un cn cs a ccd outer A₀ base h₀ L m s Q E news x b3 b4 n t1 t2 t5 u1 u2 u3 u4 B F X N T hk hd1 hu hx h3 h4 h
  refine wpAny_call ?_
  k_dflt (walk_at "my enter")
  k_steps
  exact h _ _ _ _ (by k_asm) (by k_asm) (by rw [PySem.Str.length_append]; exact Nat.le_trans (Nat.add_le_add_left (by assumption) _) (by decide +kernel))
theorem tok_field : ∀ {w : World} {mean : ExcName → Option Value} {mg mb : Str → Option Value} {dp un : Nat} {cn : Str} {cs : Scope} {a : Addr} {ccd : Value} {outer : List Env} {A₀ : Around} {base h₀ : Heap} {L : Addr} {m : Str → Option Value} {s : Shared} {Q E : Value → Shared → Prop}
    {news : List (Addr × Obj)} {x b3 b4 : Addr} {n : Nat × Addr} {t1 t2 t5 u1 u2 u3 u4 : Tok}
    (B : Below A₀ base outer h₀) (F : Fr h₀ L s.heap m) (X : (hd.heap_39 w.params).In h₀) (N : News h₀ L s.heap news) (T : Top hd.view_39 lo mean mg mb h₀) (hk : cs.kind = .function) (hd1 : dp + 12 < recursionLimit) (hu : un + 45 < cLine) (hx : TokIn news x [.int 54 t1, .str (Str.ofString ")") t2, .ref b3, .ref b4, .str (Str.ofString "") t5] n)
    (h3 : (b3, ({ cls := .type "tuple", data := .seq #[.int 1 u1, .int 0 u2] } : Obj)) ∈ news) (h4 : (b4, ({ cls := .type "tuple", data := .seq #[.int 1 u3, .int 1 u4] } : Obj)) ∈ news)
    (h : ∀ y ty h' tk', Fr h₀ L h' m → News h₀ L h' news → y.length ≤ 400 → Q (.str y ty) { s with heap := h', toks := tk' }),
    wpAny (model PySem.Challenge.rw_fe0201_01.row.prog w) (AA dp un (some []) cn cs L a ccd outer) (formatField (.ref x) Str.empty) Q E s := by
  k_fill
  intro w mean mg mb dp un cn cs a ccd outer A₀ base h₀ L m s Q E news x b3 b4 n t1 t2 t5 u1 u2 u3 u4 B F X N T hk hd1 hu hx h3 h4 h
  have XS := X.keeps F.keep
  have I := inst_tok (hx.hp N)
  refine kfo_fieldR (K := hd.heap_39 w.params) (C := 141) (f := 107) (by show un + _ < _; omega) (by show un + _ + _ < _; omega) XS I ?g ?m ?s ?r ?f ?call
  case g => k_dflt k_is
  case m => k_dflt k_is
  case s => k_dflt k_is
  case r => k_dflt k_is
  case f => k_dflt k_is
  case call =>
    show wpAny _ (AA dp (un + 1 + 1) (some []) cn cs L a ccd outer) _ _ _ _
    refine tok_repr (s := { s with toks := s.toks + 1 }) B F X N T hk (by omega) (by omega) hx h3 h4 ?_
    intro y ty h' tk' F' N' hl
    exact h y ty h' tk' F' N' hl
end
theorem tick_5 {prog : Program} {w : World} {A : Around} {E : Value → Shared → Prop} {env : Env} {Q : Flow → Shared → Prop} {s : Shared} (h : Q .next s) : wpAny (model prog w) A (execs [] env) Q E s := by
  walk1
  exact h
section
theorem tok_new {w : World} {A : Around} {s : Shared} {E Q : Value → Shared → Prop} {T : Addr} {vs : List Value} {n : Nat} (X : (hd.heap_39 w.params).In s.heap)
    (hT : s.heap.get? T = some ({ cls := .type "tuple", data := .seq vs.toArray n } : Obj)) (hz : vs.length ≤ 100)
    (h : ∀ h' : Heap, (∀ b o, s.heap.get? b = some o → h'.get? b = some o) → Q (.ref (h'.objs.size + 1)) { s with heap := (h'.push emptyDict).push (tokObj vs (0, h'.objs.size)) }) :
    wpAny (model PySem.Challenge.rw_fe0201_01.row.prog w) A (call (.builtin "tuple.__new__") [.ref 141, .ref T]) Q E s := by
  have L1 : Looks (model PySem.Challenge.rw_fe0201_01.row.prog w) s.heap (isType (.ref 141)) true := Looks.of_peek X (by kernel_rfl)
  have L2 : Looks (model PySem.Challenge.rw_fe0201_01.row.prog w) s.heap (isSubtype (.ref 141) (.type "tuple")) true := Looks.of_peek X (by kernel_rfl)
  have L3 : Looks (model PySem.Challenge.rw_fe0201_01.row.prog w) s.heap (Bind.madeHere "tuple.__new__" (.ref 141)) () := Looks.of_peek X (by kernel_rfl)
  have L4 : Looks (model PySem.Challenge.rw_fe0201_01.row.prog w) s.heap (typeLookup (.ref 141) "__init__") (some (.builtin "object.__init__")) := Looks.of_peek X (by kernel_rfl)
  refine wpAny_call (codeAny_call_builtin F.plain_tuple_new F.entry_tuple_new ?_)
  have L0 : Looks (model PySem.Challenge.rw_fe0201_01.row.prog w) s.heap (checkBuiltinCall "tuple.__new__" ⟨[.ref 141, .ref T], []⟩) () := Looks.of_peek X (by kernel_rfl)
  refine L0.here ?_
  unfold Builtin.«tuple.__new__»
  dsimp only
  repeat (first | simp only [Bool.not_true, Bool.false_eq_true, if_false] | (with_reducible refine wpAny_collect_seq T (.inr rfl) hT rfl rfl (fun h' hk => ?_) (Nat.le_trans (by simpa using hz) (by decide : 100 ≤ sizeLine))) | lk)
  have hs : vs.toArray.size ≤ sizeLine := Nat.le_trans (by simpa using hz) (by decide : 100 ≤ sizeLine)
  rw [if_neg (Nat.not_lt.mpr hs)]
  have LD : Looks (model PySem.Challenge.rw_fe0201_01.row.prog w) ((h'.push emptyDict).push (tokObj vs (0, h'.objs.size))) (classHasDel 141) false := Looks.of_peek (X.keeps fun b o e => Heap.get?_push_of_some _ (Heap.get?_push_of_some _ (hk b o e))) (by kernel_rfl)
  unfold newObjAsIs
  refine wpAny_bind (wpAny_alloc ?_)
  dsimp only
  refine wpAny_bind (LD.here ?_)
  simp only [Bool.false_eq_true, if_false]
  have := h h' hk
  have e : (h'.push emptyDict).objs.size = h'.objs.size + 1 := Heap.size_push ..
  rw [← e] at this
  exact wpAny_pure (wpAny_pure this)
theorem get_new : ∀ {w : World} {A : Around} {s : Shared} {E Q : Value → Shared → Prop} {h₀ : Heap} {L : Addr} {m : Str → Option Value} (F : Fr h₀ L s.heap m) (X : (hd.heap_39 w.params).In h₀) (h : Q (.ref 82) { s with toks := s.toks + 1 }),
    wpAny (model PySem.Challenge.rw_fe0201_01.row.prog w) A (getAttr (.ref 141) (Str.ofString "__new__")) Q E s := by
  k_fill
  intro w A s E Q h₀ L m F X h
  k_dflt (refine' cls_sm F X ?hm ?hr ?e ?hp ?hv ?_)
  case hm => k_dflt k_is
  case hr => k_dflt k_is
  case e => k_dflt k_is
  case hp => k_dflt k_is
  case hv => rfl
  exact h
theorem hold_it {P : Prop} (h : Hold P) : P := h
theorem oi_args6 (a v1 v2 v3 v4 v5 : Value) : argsOk "object.__init__" ⟨[a, v1, v2, v3, v4, v5], []⟩ := by unfold argsOk; kernel_rfl
/-- what the maker hands back -/
structure MadeTok (w : World) (x : Addr) (s' : Shared) : Prop where
  X : (hd.heap_39 w.params).In s'.heap
  k : ∃ vs n, TokHp s'.heap x vs n
theorem tok_init {w : World} {A : Around} {s : Shared} {E Q : Value → Shared → Prop} {x : Addr} {v1 v2 v3 v4 v5 : Value} (k : MadeTok w x s) (h : Q .none s) :
    wpAny (model PySem.Challenge.rw_fe0201_01.row.prog w) A (call (.builtin "object.__init__") [.ref x, v1, v2, v3, v4, v5]) Q E s := by
  obtain ⟨X, vs, n, k⟩ := k
  have I := inst_tok k
  have LT := I.type (M := model PySem.Challenge.rw_fe0201_01.row.prog w)
  have L3 : Looks (model PySem.Challenge.rw_fe0201_01.row.prog w) s.heap (Bind.madeBy (.ref 141)) none := Looks.of_peek X (by kernel_rfl)
  have L4 : Looks (model PySem.Challenge.rw_fe0201_01.row.prog w) s.heap (typeLookup (.ref 141) "__init__") (some (.builtin "object.__init__")) := Looks.of_peek X (by kernel_rfl)
  have L5 : Looks (model PySem.Challenge.rw_fe0201_01.row.prog w) s.heap (isInstance (.ref x) (.type "object")) true := looks_isi X I (by kernel_rfl)
  refine wpAny_call (codeAny_call_builtin oi_plain entry_oi (@check_slot (model PySem.Challenge.rw_fe0201_01.row.prog w) _ _ s "object.__init__" "object" "__init__" (.ref x) [v1, v2, v3, v4, v5] [] _ oi_kind oi_split L5 (oi_args6 _ _ _ _ _ _) ?_))
  unfold Builtin.«object.__init__»
  dsimp only
  simp only [List.isEmpty_cons, Bool.not_false, Bool.true_or, if_true]
  refine wpAny_bind (LT.here (wpAny_bind (L4.here ?_)))
  simp only [bne_self_eq_false]
  refine wpAny_bind (L3.here ?_)
  simp only [Bool.false_or, show ((none : Option String) != some "object.__new__") = true from rfl, Bool.not_true, Bool.false_eq_true, if_false]
  exact wpAny_pure h
/-- type.__call__ on TokenInfo -/
theorem tok_call {w : World} {A : Around} {s : Shared} {E Q : Value → Shared → Prop} {h₀ : Heap} {L : Addr} {m : Str → Option Value} {v1 v2 v3 v4 v5 : Value} (F : Fr h₀ L s.heap m) (X : (hd.heap_39 w.params).In h₀)
    (h : wpAny (model PySem.Challenge.rw_fe0201_01.row.prog w) (A.under (.builtin "type.__call__" ⟨[.ref 141, v1, v2, v3, v4, v5], []⟩)) (call (.ref 82) [.ref 141, v1, v2, v3, v4, v5]) (fun v s' => ∃ x, v = .ref x ∧ MadeTok w x s' ∧ Q v s') E { s with toks := s.toks + 1 }) :
    wpAny (model PySem.Challenge.rw_fe0201_01.row.prog w) A (call (.ref 141) [v1, v2, v3, v4, v5]) Q E s := by
  have XS := X.keeps F.keep
  have L1 : Looks (model PySem.Challenge.rw_fe0201_01.row.prog w) s.heap (specialOf (.ref 141) "__call__") (some (.builtin "type.__call__")) := Looks.of_peek XS (by kernel_rfl)
  have L2 : Looks (model PySem.Challenge.rw_fe0201_01.row.prog w) s.heap (isInstance (.ref 141) (.type "type")) true := Looks.of_peek XS (by kernel_rfl)
  have L3 : Looks (model PySem.Challenge.rw_fe0201_01.row.prog w) s.heap (Bind.madeBy (.ref 141)) none := Looks.of_peek XS (by kernel_rfl)
  have L4 : Looks (model PySem.Challenge.rw_fe0201_01.row.prog w) s.heap (mroOf (.ref 141)) [.ref 141, .type "tuple", .type "object"] := Looks.of_peek XS (by kernel_rfl)
  obtain ⟨oc, od, cd, sl, hC⟩ : ∃ oc od cd sl, s.heap.get? 141 = some ⟨oc, od, .cls cd, sl⟩ := ⟨_, _, _, _, XS _ _ (by rfl)⟩
  refine wpAny_call (codeAny_of_tree ?_)
  show wpAny _ _ (callAny (.ref 141) _) _ _ _
  refine nd_load hC ?_
  show wpAny _ _ (callAny.viaDunder (.ref 141) _) _ _ _
  unfold callAny.viaDunder
  refine wpAny_bind (L1.here ?_)
  dsimp only
  rw [tc_bind]
  refine wpAny_bind (wpAny_pure (wpAny_bind (wpAny_pure ?_)))
  refine wpAny_pure (a := Fin.again (.call (.builtin "type.__call__") ⟨[.ref 141, v1, v2, v3, v4, v5], []⟩)) (And.intro rfl ?_)
  refine codeAny_call_builtin_at (Code.quiet_builtin _ (by decide +kernel)) entry_typeCall (check_slot tc_kind tc_split L2 (tc_args _ _ _) ?_)
  unfold Builtin.«type.__call__»
  repeat (first | simp only [List.isEmpty_cons, Bool.false_eq_true, if_false] | (with_reducible refine get_new F X ?_) | (with_reducible refine wpAny_mono h (fun v s' hh => hold_it ?_) (fun _ _ e => e)) | lk)
  obtain ⟨x, rfl, mk, hq⟩ := hh
  unfold Hold
  have mk' := mk
  obtain ⟨X', vs, n, k⟩ := mk'
  have I := inst_tok k
  have LT := I.type (M := model PySem.Challenge.rw_fe0201_01.row.prog w)
  have L5 : Looks (model PySem.Challenge.rw_fe0201_01.row.prog w) s'.heap (isInstance (.ref x) (.ref 141)) true := looks_isi X' I (by kernel_rfl)
  have L6 : Looks (model PySem.Challenge.rw_fe0201_01.row.prog w) s'.heap (typeLookup (.ref 141) "__init__") (some (.builtin "object.__init__")) := Looks.of_peek X' (by kernel_rfl)
  refine wpAny_bind (L5.here ?_)
  simp only [Bool.not_true, Bool.false_eq_true, if_false]
  refine wpAny_bind (wpAny_holding ?_)
  unfold callSpecial? specialOf
  repeat (first | rw [oi_bind] | simp only [List.cons_append, List.nil_append] | (with_reducible refine tok_init mk (hold_it ?_)) | lk)
  unfold Hold
  refine wpAny_pure ?_
  dsimp only
  simp only [bne_self_eq_false, Bool.false_eq_true, if_false]
  exact wpAny_pure hq
theorem permD {a b c : Addr × Obj} {tl : List (Addr × Obj)} : ∀ p ∈ a :: b :: tl, p ∈ a :: b :: c :: tl := by
  intro p h
  simp only [List.mem_cons] at h ⊢
  rcases h with h | h | h
  · exact .inl h
  · exact .inr (.inl h)
  · exact .inr (.inr (.inr h))
theorem tok_newN {w : World} {A : Around} {s : Shared} {E Q : Value → Shared → Prop} {h₀ : Heap} {L T : Addr} {m : Str → Option Value} {nw : List (Addr × Obj)} {vs : List Value} {n : Nat} (F : Fr h₀ L s.heap m) (X : (hd.heap_39 w.params).In h₀) (N : News h₀ L s.heap nw)
    (hT : (T, ({ cls := .type "tuple", data := .seq vs.toArray n } : Obj)) ∈ nw) (hz : vs.length ≤ 100)
    (h : ∀ x d h', Fr h₀ L h' m → News h₀ L h' ((x, tokObj vs (0, d)) :: (d, emptyDict) :: nw) → AllLt d nw → @LT.lt Nat _ d x → Q (.ref x) { s with heap := h' }) :
    wpAny (model PySem.Challenge.rw_fe0201_01.row.prog w) A (call (.builtin "tuple.__new__") [.ref 141, .ref T]) Q E s := by
  refine tok_new (X.keeps F.keep) (N _ hT).1 hz fun h' hk => ?_
  have F1 := Mine.Fr.up F hk
  have N1 := Mine.News.up N hk
  have N2 := (N1.push F1 emptyDict).push (F1.push _) (tokObj vs (0, h'.objs.size))
  rw [Heap.size_push] at N2
  exact h _ _ _ ((F1.push _).push _) N2 (allLt_of fun p hp => Heap.lt_size (N1 p hp).1) (Nat.lt_succ_self _)
local macro_rules | `(tactic| walk_at "getMethod type:tuple") => `(tactic| (k_here; refine' method_type ?F ?X ?m (by decide +kernel) ?e ?h ?_; (case F => k_asm); (case X => k_asm); (case m => exact tuple_meta); (case e => k_dflt k_is); (case h => k_handed)))
local macro_rules | `(tactic| walk_at "call builtin:tuple.__new__") => `(tactic| (k_here; k_dflt (refine' tok_newN (vs := [_, _, _, _, _]) ?F ?X ?N ?hT ?hz ?_; (case F => k_asm); (case X => k_asm); (case N => k_asm); (case hT => exact List.mem_cons_self ..); (case hz => simp); intro x' d' h' F' N' l1 l2)))
theorem mk_tok : ∀ (w : World) {mean : ExcName → Option Value} {mg mb : Str → Option Value} {dp un : Nat} {gd : Option (List Code)} {cn : Str} {cs : Scope} {a : Addr} {ccd : Value} {outer : List Env} {A₀ : Around} {base h₀ : Heap} {L : Addr} {m : Str → Option Value} {s : Shared}
    {news : List (Addr × Obj)} {v1 v2 v3 v4 v5 : Value} {Q E : Value → Shared → Prop} (B : Below A₀ base outer h₀) (F : Fr h₀ L s.heap m) (X : (hd.heap_39 w.params).In h₀) (N : News h₀ L s.heap news) (T : Top hd.view_39 lo mean mg mb h₀) (hk : cs.kind = .function)
    (hd1 : dp + 10 < recursionLimit) (hu : un + 40 < cLine)
    (h : ∀ x d h' tk', Fr h₀ L h' m → News h₀ L h' ((x, tokObj [v1, v2, v3, v4, v5] (0, d)) :: (d, emptyDict) :: news) → AllLt d news → @LT.lt Nat _ d x → Q (.ref x) { s with heap := h', toks := tk' }),
    wpAny (model PySem.Challenge.rw_fe0201_01.row.prog w) (AA dp un gd cn cs L a ccd outer) (call (.ref 141) [v1, v2, v3, v4, v5]) Q E s := by
  k_fill
  intro w mean mg mb dp un gd cn cs a ccd outer A₀ base h₀ L m s news v1 v2 v3 v4 v5 Q E B F X N T hk hd1 hu h
  refine tok_call F X (wpAny_call ?_)
  k_dflt (walk_at "my enter")
  k_steps
  · refine ⟨by k_in, _, _, TokIn.hp (by k_asm) ⟨List.mem_cons_self .., List.mem_cons_of_mem _ (List.mem_cons_self ..)⟩⟩
  · exact h _ _ _ _ (by k_asm) (News.sub (by k_asm) permD) (And.right (by assumption)) (by assumption)
end
theorem tick_6 {prog : Program} {w : World} {A : Around} {E : Value → Shared → Prop} {env : Env} {Q : Flow → Shared → Prop} {s : Shared} (h : Q .next s) : wpAny (model prog w) A (execs [] env) Q E s := by
  walk1
  exact h
local macro_rules | `(tactic| walk_at "formatField ref") => `(tactic| (k_here; k_dflt (refine' tok_field ?B ?F ?X ?N ?T ?hk ?h1 ?h2 ?hx ?h3 ?h4 ?_; (case hx => assumption); (case B => k_asm); (case F => k_asm); (case X => k_asm); (case N => k_asm); (case T => k_asm); (case hk => exact rfl); (case h1 => walk_at "my dp"); (case h2 => walk_at "my dp"); (case h3 => assumption); (case h4 => assumption); intro y' ty' h' tk' F' N' hl')))
theorem c_cls_none : ∀ {w : World} {sc : Scope} {cdv : Value} {test : PySem.Expr} {body orelse : List Stmt} {c : List (Str × Int)} {q : Int} {r : List Tk} {d : Nat} {p : Pv} {res : Option Tr} {o : Out}  (hast : LoopAst w sc cdv test body orelse) (hc : COk c q) , LP w sc cdv test body orelse c (.cls :: r) d (.none) (res) (.err .syn) := by
  walk_at "my fill"
  intro w sc cdv test body orelse c q r d p res o hast hc
  unfold LP
  intro mean mg mb dp un outer base g L m s nw Q R T D toks i rv k S hd1 hu hdr hne hpr O
  refine turn hast S.B S.F S.N fun Qb hn hr => ?_
  walk_at "my ast"
  obtain ⟨B, F, X, N, Tp, mT, mD, ⟨ti, mI⟩, ⟨td, mE⟩, ⟨tp, mP⟩, mR, rs, hT, dk, pv, pd⟩ := id S
  have F := fr_six F mT mD mI mE mP mR
  obtain ⟨as, n, hl, hlen, hsz, hat⟩ := id hT
  obtain ⟨hti, hdr1, hti'⟩ := drop_head hdr
  have ha : as[i]? = some (as[i]'(by omega)) := List.getElem?_eq_getElem _
  generalize as[i]'(by omega) = a at ha
  have hat' := hat i a _ ha hti
  simp only [cost, List.length_cons, Option.isSome_none, Option.isSome_some, if_true, Bool.false_eq_true, if_false] at hd1 hu
  obtain ⟨t1, t2, b3, b4, t5, n2, htok, ⟨u1, u2, h3⟩, ⟨u3, u4, h4⟩⟩ := hat'
  show wpAny _ _ (execs [_, _, _, _] _) _ _ _
  simp only [pvs] at F
  k_steps
  skip
  all_goals exact O.er _ (.ref 181) _ _ rfl (by assumption) (by assumption)
def stLen : Stp → Nat
  | .at l => l.length
  | .close l => l.length
  | .eof => 0
theorem bet_len {rk : Wd → Option Int} {q : Int} {ts : List Tk} {d : Nat} {p : Pv} {res : Option Tr} {o : Out} (h : Bet rk q ts d p res o) : ∀ t st, o = .ok t st → stLen st ≤ ts.length := by
  induction h <;> intro t st e
  all_goals first
    | (cases e; done)
    | (cases e; simp [stLen]; done)
    | (rename_i i1 i2; have h1 := i1 _ _ rfl; have h2 := i2 _ _ e; simp only [stLen, List.length_cons] at h1 h2 ⊢; omega)
    | (rename_i i1; have h1 := i1 _ _ e; simp only [stLen, List.length_cons] at h1 ⊢; omega)
theorem pv_op {c : List (Str × Int)} {q k : Int} {x : Wd} (hc : COk c q) (h : rkOf c x = some k) : PvOk (.op x) :=
  ⟨fun e => (nomatch (e ▸ h).symm.trans hc.n0), fun e => (nomatch (e ▸ h).symm.trans hc.n1)⟩
theorem pv_un : PvOk (.op wU) := ⟨by decide, by decide⟩
theorem pv_imp : PvOk (.op wE) := ⟨by decide, by decide⟩
theorem end_some {p : Pv} {t : Tr} (h : p ≠ .paren) : EndOut p (some t) (.ok t .eof) := by
  cases p with
  | none => exact .t1
  | paren => exact absurd rfl h
  | op x => exact .t2
theorem end_none {p : Pv} (h : p ≠ .paren) : EndOut p none (.err .syn) := by
  cases p with
  | none => exact .n1
  | paren => exact absurd rfl h
  | op x => exact .n2
theorem bet_walk {w : World} {sc : Scope} {cdv : Value} {test : PySem.Expr} {body orelse : List Stmt} {c : List (Str × Int)} {q : Int} (hast : LoopAst w sc cdv test body orelse) (hc : COk c q)
    {ts : List Tk} {d : Nat} {p : Pv} {res : Option Tr} {o : Out} (h : Bet (rkOf c) q ts d p res o) : (ts = [] → o = .err .syn) ∧ (ts ≠ [] → LP w sc cdv test body orelse c ts d p res o) := by
  induction h with
  | nil => exact ⟨fun _ => rfl, fun h => absurd rfl h⟩
  | cls_none => exact ⟨nofun, fun _ => c_cls_none (q := q) (o := .err .syn) (p := .none) hast hc⟩
  | cls_idle hp => exact ⟨nofun, fun _ => c_cls_idle (q := q) (o := .err .syn) (res := none) hast hc hp⟩
  | cls_close => exact ⟨nofun, fun _ => c_cls_close (q := q) (o := .err .syn) (res := none) (p := .none) hast hc⟩
  | cls_at => exact ⟨nofun, fun _ => c_cls_at (q := q) (o := .err .syn) (res := none) (p := .none) hast hc⟩
  | opn_err hr b i => exact ⟨nofun, fun _ => c_opn_err (q := q) (o := .err .syn) hast hc hr (prol (d := 0) (p := .paren) hast hr (by omega) trivial (fun x h => nomatch h) (i.2 hr))⟩
  | opn_some hr b1 b2 i1 i2 => exact ⟨nofun, fun _ => c_opn_some (q := q) (res := none) hast hc hr (prol (d := 0) (p := .paren) hast hr (by omega) trivial (fun x h => nomatch h) (i1.2 hr)) (bet_len b1 _ _ rfl) i2.1 i2.2⟩
  | opn_none hr b1 b2 i1 i2 => exact ⟨nofun, fun _ => c_opn_none (q := q) (res := none) hast hc hr (prol (d := 0) (p := .paren) hast hr (by omega) trivial (fun x h => nomatch h) (i1.2 hr)) (bet_len b1 _ _ rfl) i2.1 i2.2⟩
  | sign_no h0 => exact ⟨nofun, fun _ => c_sign_no (q := q) (o := .err .syn) hast hc h0⟩
  | sign_ret h0 h1 h2 => exact ⟨nofun, fun _ => c_sign_ret (q := q) (o := .err .syn) (res := none) hast hc h0 h1 h2⟩
  | bin_err h0 hn hr hd b i => exact ⟨nofun, fun _ => c_bin_err (q := q) (o := .err .syn) (res := none) hast hc h0 hn hr (prol hast hr hd (pv_op hc h0) (fun _ _ => Nat.succ_pos _) (i.2 hr))⟩
  | bin_at h0 hn hr hd b1 b2 i1 i2 => exact ⟨nofun, fun _ => c_bin_at (q := q) (res := none) hast hc h0 hn hr (prol hast hr hd (pv_op hc h0) (fun _ _ => Nat.succ_pos _) (i1.2 hr)) (bet_len b1 _ _ rfl) i2.1 i2.2⟩
  | bin_eofp h0 hn hr hd b i => exact ⟨nofun, fun _ => c_bin_eof (q := q) (res := none) hast hc h0 hn hr (prol hast hr hd (pv_op hc h0) (fun _ _ => Nat.succ_pos _) (i.2 hr)) .paren⟩
  | bin_eof h0 hn hr hd b hp i => exact ⟨nofun, fun _ => c_bin_eof (q := q) (res := none) hast hc h0 hn hr (prol hast hr hd (pv_op hc h0) (fun _ _ => Nat.succ_pos _) (i.2 hr)) (end_some hp)⟩
  | un_err h0 hr hd b i => exact ⟨nofun, fun _ => c_un_err (q := q) (o := .err .syn) (res := none) hast hc h0 hr (prol hast hr hd pv_un (fun _ _ => Nat.succ_pos _) (i.2 hr))⟩
  | un_at h0 hr hd b1 b2 i1 i2 => exact ⟨nofun, fun _ => c_un_at (q := q) (res := none) hast hc h0 hr (prol hast hr hd pv_un (fun _ _ => Nat.succ_pos _) (i1.2 hr)) (bet_len b1 _ _ rfl) i2.1 i2.2⟩
  | un_eofp h0 hr hd b i => exact ⟨nofun, fun _ => c_un_eof (q := q) (res := none) hast hc h0 hr (prol hast hr hd pv_un (fun _ _ => Nat.succ_pos _) (i.2 hr)) .paren⟩
  | un_eof h0 hr hd b hp i => exact ⟨nofun, fun _ => c_un_eof (q := q) (res := none) hast hc h0 hr (prol hast hr hd pv_un (fun _ _ => Nat.succ_pos _) (i.2 hr)) (end_some hp)⟩
  | leaf b i => exact ⟨nofun, fun _ => c_leaf (q := q) (res := none) hast hc i.1 i.2⟩
  | atom_ret h => exact ⟨nofun, fun _ => c_atom_ret (q := q) (o := .err .syn) (res := none) hast hc h⟩
  | imp_err hn hd b i => exact ⟨nofun, fun _ => c_imp_err (q := q) (o := .err .syn) (res := none) hast hc hn (prol hast (by simp) hd pv_imp (fun _ _ => Nat.succ_pos _) (i.2 (by simp)))⟩
  | imp_at hn hd b1 b2 i1 i2 => exact ⟨nofun, fun _ => c_imp_at (q := q) (res := none) hast hc hn (prol hast (by simp) hd pv_imp (fun _ _ => Nat.succ_pos _) (i1.2 (by simp))) (bet_len b1 _ _ rfl) i2.1 i2.2⟩
  | imp_eofp hn hd b i => exact ⟨nofun, fun _ => c_imp_eof (q := q) (res := none) hast hc hn (prol hast (by simp) hd pv_imp (fun _ _ => Nat.succ_pos _) (i.2 (by simp))) .paren⟩
  | imp_eof hn hd b hp i => exact ⟨nofun, fun _ => c_imp_eof (q := q) (res := none) hast hc hn (prol hast (by simp) hd pv_imp (fun _ _ => Nat.succ_pos _) (i.2 (by simp))) (end_some hp)⟩
  | skip b i => exact ⟨nofun, fun _ => c_skip (q := q) hast hc i.1 i.2⟩
  | eof_p => exact ⟨nofun, fun _ => c_eof (q := q) hast hc .paren⟩
  | eof_n hp => exact ⟨nofun, fun _ => c_eof (q := q) hast hc (end_none hp)⟩
  | eof_t hp => exact ⟨nofun, fun _ => c_eof (q := q) hast hc (end_some hp)⟩
/-- _build_eval_tree, called at the top -/
theorem build_tree {w : World} {c : List (Str × Int)} {q : Int} (hc : COk c q) {ts : List Tk} {o : Out} (hts : ts ≠ []) (h : Bet (rkOf c) q ts 0 .none none o) : CP w c ts 0 .none o := by
  obtain ⟨sc, cdv, test, body, orelse, hast⟩ : ∃ sc cdv test body orelse, LoopAst w sc cdv test body orelse := ⟨_, _, _, _, _, rfl⟩
  exact prol (d := 0) (p := .none) hast hts (by omega) trivial (fun x h => nomatch h) ((bet_walk hast hc h).2 hts)
def ToksAs (nw : List (Addr × Obj)) (as : List Addr) (toks : List Tk) : Prop := as.length = toks.length ∧ toks.length ≤ 100 ∧ ∀ (i : Nat) (a : Addr) (tk : Tk), as[i]? = some a → toks[i]? = some tk → TkIs nw a tk
theorem ToksAs.mono {nw nw' : List (Addr × Obj)} {as : List Addr} {toks : List Tk} (h : ToksAs nw as toks) (hs : ∀ p ∈ nw, p ∈ nw') : ToksAs nw' as toks := ⟨h.1, h.2.1, fun i a tk ha ht => (h.2.2 i a tk ha ht).mono hs⟩
abbrev refsO (cls : String) (as : List Addr) (n : Nat) : Obj := { cls := .type cls, data := .seq (as.map Value.ref).toArray n }
structure TopOk (w : World) (o : Out) (nw : List (Addr × Obj)) (r : Value) : Prop where
  x : ∃ t st, o = .ok t st ∧ TreeIn w nw r t
def CP4 (w : World) (c : List (Str × Int)) (ts : List Tk) (o : Out) : Prop :=
  ∀ {mean : ExcName → Option Value} {mg mb : Str → Option Value} {T D : Addr} {toks : List Tk} {i : Nat} {news : List (Addr × Obj)} {t1 t2 : Tok},
    Toks news T toks → DictOk w news D c → toks.drop i = ts →
    Spec w mean mg mb 230 [.ref T, .ref D, .int (i : Int) t1, .int 0 t2] (cost ts none + 40) (5 * cost ts none + 200) news (OkB w toks o) (ErCls o)
theorem prol4 : ∀ {w : World} {sc : Scope} {cdv : Value} {test : PySem.Expr} {body orelse : List Stmt} {c : List (Str × Int)} {ts : List Tk} {o : Out} (hast : LoopAst w sc cdv test body orelse) (hts : ts ≠ []) (h : LP w sc cdv test body orelse c ts 0 .none none o),
    CP4 w c ts o := by
  walk_at "my fill"
  intro w sc cdv test body orelse c ts o hast hts h
  unfold CP4 Spec
  intro mean mg mb T D toks i news t1 t2 hT dk hdr dp un cn cs a ccd outer A₀ base h₀ L m s Q E B F X N Tp hk hd1 hu hQ hE
  walk_at "my ast"
  refine wpAny_call ?_
  k_dflt (walk_at "my enter")
  k_steps
  show WhlRest _ _ _ _ _ _ _ _ _ _ _
  k_dflt refine' h (dp := dp) (un := un) (outer := envOf cn cs L a ccd :: outer) (R := fun r s' => match r with | .ok (.ret v) => Q v s' | .ok _ => False | .error e => E e s') (k := 0) (i := i) (T := T) (D := D) (toks := toks) (nw := news) (rv := .none) ?S ?h1 ?h2 hdr hts (fun z => absurd rfl z) ⟨?O1, ?O2⟩
  case S => exact ⟨by assumption, by k_asm, by assumption, by k_asm, by assumption, rfl, rfl, ⟨_, rfl⟩, ⟨_, rfl⟩, ⟨_, rfl⟩, rfl, rfl, hT, dk, trivial, (fun x h => nomatch h)⟩
  case h1 => omega
  case h2 => omega
  · intro t st v idx it tup n h'' m'' tk'' nw' ho F2 N2 sub tin sta mem
    dsimp only
    k_steps
    exact hQ _ _ _ _ (by k_asm) (by k_asm) sub ⟨⟨_, _, _, _, _, _, _, rfl, ho, tin, sta, mem⟩⟩
  · intro e cls h'' tk'' hc hr hu
    exact hE _ _ _ _ _ hc (by assumption) hu hr
theorem build_tree4 {w : World} {c : List (Str × Int)} {q : Int} (hc : COk c q) {ts : List Tk} {o : Out} (hts : ts ≠ []) (h : Bet (rkOf c) q ts 0 .none none o) : CP4 w c ts o := by
  obtain ⟨sc, cdv, test, body, orelse, hast⟩ : ∃ sc cdv test body orelse, LoopAst w sc cdv test body orelse := ⟨_, _, _, _, _, rfl⟩
  exact prol4 hast hts ((bet_walk hast hc h).2 hts)
theorem cp_call4 {w : World} {c : List (Str × Int)} {ts : List Tk} {o : Out} (hCP : CP4 w c ts o)
    {mean : ExcName → Option Value} {mg mb : Str → Option Value} {T D : Addr} {nw : List (Addr × Obj)} {t1 t2 : Tok}
    {dp un : Nat} {cn : Str} {cs : Scope} {a : Addr} {ccd : Value} {outer : List Env} {A₀ : Around} {base h₀ : Heap} {L : Addr} {m : Str → Option Value} {s : Shared} {Q E : Value → Shared → Prop}
    (hT : Toks nw T ts) (dk : DictOk w nw D c)
    (B : Below A₀ base outer h₀) (F : Fr h₀ L s.heap m) (X : (hd.heap_39 w.params).In h₀) (N : News h₀ L s.heap nw) (Tp : Top hd.view_39 lo mean mg mb h₀) (hk : cs.kind = .function)
    (hd1 : dp + (cost ts none + 40) < recursionLimit) (hu : un + (5 * cost ts none + 200) < cLine)
    (ok : ∀ t st v idx it tup n h' tk' nw', o = .ok t st → Fr h₀ L h' m → News h₀ L h' nw' → (∀ p ∈ nw, p ∈ nw') → TreeIn w nw' v t → StopAt ts idx st → (tup, ({ cls := .type "tuple", data := .seq #[v, .int idx it] n } : Obj)) ∈ nw' → Q (.ref tup) { s with heap := h', toks := tk' })
    (er : ∀ e cls h' tk' g₂, ErCls o cls → Fr h₀ L g₂ m → g₂.UpToSlots h' → RaisedN base (envOf cn cs L a ccd :: outer) e cls nw h' → E (.ref e) { s with heap := h', toks := tk' }) :
    wpAny (model PySem.Challenge.rw_fe0201_01.row.prog w) (AA dp un (some []) cn cs L a ccd outer) (call (.ref 230) [.ref T, .ref D, .int 0 t1, .int 0 t2]) Q E s := by
  refine hCP hT dk (i := 0) rfl dp un cn cs a ccd outer A₀ base h₀ L m s Q E B F X N Tp hk hd1 hu (fun r nw' h' tk' F' N' sub x => ?_) er
  obtain ⟨t, st, v, idx, it, tup, n, rfl, ho, ti, sa, mem⟩ := x.x
  exact ok t st v idx it tup n h' tk' nw' ho F' N' sub ti sa mem
theorem bet_list : ∀ {w : World} {c : List (Str × Int)} {q : Int} {ts : List Tk} {o : Out} (hc : COk c q) (hts : ts ≠ []) (hB : Bet (rkOf c) q ts 0 .none none o) {mean : ExcName → Option Value} {mg mb : Str → Option Value}
    {TL D : Addr} {as : List Addr} {n : Nat} {news : List (Addr × Obj)} (hl : (TL, refsO "list" as n) ∈ news) (hT : ToksAs news as ts) (dk : DictOk w news D c),
    Spec w mean mg mb 238 [.ref TL, .ref D] (cost ts none + 45) (5 * cost ts none + 250) news (TopOk w o) (ErCls o) := by
  unfold Spec
  walk_at "my fill"
  intro w c q ts o hc hts hB mean mg mb TL D as n news hl hT dk dp un cn cs a ccd outer A₀ base h₀ L m s Q E B F X N Tp hk hd1 hu hQ hE
  have hcp : CP4 w c ts o := build_tree4 (w := w) hc hts hB
  refine wpAny_call ?_
  k_dflt (walk_at "my enter")
  k_steps
  refine' cp_call4 hcp (T := TL) (D := D) ⟨as, n, hl, hT⟩ dk ?B ?F ?X ?N ?Tp rfl ?b1 ?b2 ?ok ?er
  case B => k_asm
  case F => k_asm
  case X => k_asm
  case N => k_asm
  case Tp => k_asm
  case b1 => (show dp + 1 + _ < _); omega
  case b2 => (show un + 3 + _ < _); omega
  case er =>
    intro e cls h' tk' g2 hc2 F2 hu2 hr2
    k_steps
    exact hE _ _ _ _ _ hc2 (by assumption) (by assumption) (by assumption)
  case ok =>
    intro t st v idx it tup n3 h' tk' nw' ho F2 N2 sub2 tin sta mem
    k_steps
    exact hQ _ _ _ _ (by k_asm) (by k_asm) sub2 ⟨t, st, ho, tin⟩
theorem bet_tuple : ∀ {w : World} {c : List (Str × Int)} {q : Int} {ts : List Tk} {o : Out} (hc : COk c q) (hts : ts ≠ []) (hB : Bet (rkOf c) q ts 0 .none none o) {mean : ExcName → Option Value} {mg mb : Str → Option Value}
    {TL D : Addr} {as : List Addr} {n : Nat} {news : List (Addr × Obj)} (hl : (TL, refsO "tuple" as n) ∈ news) (hT : ToksAs news as ts) (dk : DictOk w news D c),
    Spec w mean mg mb 238 [.ref TL, .ref D] (cost ts none + 45) (5 * cost ts none + 250) news (TopOk w o) (ErCls o) := by
  unfold Spec
  walk_at "my fill"
  intro w c q ts o hc hts hB mean mg mb TL D as n news hl hT dk dp un cn cs a ccd outer A₀ base h₀ L m s Q E B F X N Tp hk hd1 hu hQ hE
  have hcp : CP4 w c ts o := build_tree4 (w := w) hc hts hB
  refine wpAny_call ?_
  k_dflt (walk_at "my enter")
  k_steps
  refine' kup_listOfT (zs := as.map Value.ref) ?F0 ?N0 hl ?e0 ?_ ?z0
  case F0 => k_asm
  case N0 => k_asm
  case e0 => simp
  case z0 => exact Nat.le_trans (by simp [hT.1, hT.2.1]) (by decide : 100 ≤ sizeLine)
  intro D2 c2 h2 F2 N2 l2
  k_steps
  refine' cp_call4 hcp (T := D2) (D := D) ⟨as, c2, List.mem_cons_self .., ToksAs.mono hT (fun _ h => List.mem_cons_of_mem _ h)⟩ (dk.mono (fun _ h => List.mem_cons_of_mem _ h)) ?B ?F ?X ?N ?Tp ?hk ?b1 ?b2 ?ok ?er
  case hk => rfl
  case B => k_asm
  case F => k_asm
  case X => k_asm
  case N => k_asm
  case Tp => k_asm
  case b1 => (show dp + 1 + _ < _); omega
  case b2 => (show un + 3 + _ < _); omega
  case er =>
    intro e cls h' tk' g2 hc2 F2 hu2 hr2
    k_steps
    exact hE _ _ _ _ _ hc2 (by assumption) (by assumption) (RaisedN.mono (by assumption) fun p h => List.mem_cons_of_mem _ h)
  case ok =>
    intro t st v idx it tup n3 h' tk' nw' ho F2 N2 sub2 tin sta mem
    k_steps
    exact hQ _ _ _ _ (by k_asm) (by k_asm) (fun p h => sub2 p (List.mem_cons_of_mem _ h)) ⟨t, st, ho, tin⟩
theorem bet_usual : ∀ {w : World} {c : List (Str × Int)} {q : Int} {ts : List Tk} {o : Out} (hc : COk c q) (hts : ts ≠ []) (hB : Bet (rkOf c) q ts 0 .none none o) {mean : ExcName → Option Value} {mg mb : Str → Option Value}
    {TL : Addr} {as : List Addr} {n : Nat} {news : List (Addr × Obj)} (hl : (TL, refsO "list" as n) ∈ news) (hT : ToksAs news as ts) (dk : DictOk w news 185 c),
    Spec w mean mg mb 238 [.ref TL, .none] (cost ts none + 45) (5 * cost ts none + 250) news (TopOk w o) (ErCls o) := by
  unfold Spec
  walk_at "my fill"
  intro w c q ts o hc hts hB mean mg mb TL as n news hl hT dk dp un cn cs a ccd outer A₀ base h₀ L m s Q E B F X N Tp hk hd1 hu hQ hE
  have hcp : CP4 w c ts o := build_tree4 (w := w) hc hts hB
  refine wpAny_call ?_
  k_dflt (walk_at "my enter")
  k_steps
  refine' cp_call4 hcp (T := TL) (D := 185) ⟨as, n, hl, hT⟩ dk ?B ?F ?X ?N ?Tp ?hk ?b1 ?b2 ?ok ?er
  case hk => rfl
  case B => k_asm
  case F => k_asm
  case X => k_asm
  case N => k_asm
  case Tp => k_asm
  case b1 => (show dp + 1 + _ < _); omega
  case b2 => (show un + 3 + _ < _); omega
  case er =>
    intro e cls h' tk' g2 hc2 F2 hu2 hr2
    k_steps
    exact hE _ _ _ _ _ hc2 (by assumption) (by assumption) (by assumption)
  case ok =>
    intro t st v idx it tup n3 h' tk' nw' ho F2 N2 sub2 tin sta mem
    k_steps
    exact hQ _ _ _ _ (by k_asm) (by k_asm) sub2 ⟨t, st, ho, tin⟩
section
open PyProof.V
abbrev entK (w : World) (x : Str × Tok × Int × Tok) : DictEntry := { hash := PyData.keyHash w.params x.1, key := .str x.1 x.2.1, val := .int x.2.2.1 x.2.2.2 }
def tabC (l : List (Str × Tok × Int × Tok)) : List (Str × Int) := l.map fun x => (x.1, x.2.2.1)
def tabV (l : List (Str × Tok × Int × Tok)) : List (Str × Value) := l.map fun x => (x.1, .int x.2.2.1 x.2.2.2)
theorem tab_pairs {prog : Program} {w : World} : ∀ l : List (Str × Tok × Int × Tok), Pairs (strKind prog w) (l.map (entK w)) (tabV l)
  | [] => .nil
  | x :: l => .cons (strKind_is prog w x.1 x.2.1) rfl (tab_pairs l)
theorem tab_flat : ∀ l : List (Str × Tok × Int × Tok), FlatPairs PyData.str (tabV l) (kdpD (tabC l))
  | [] => .nil
  | x :: l => .cons (Flat.int _ _) (tab_flat l)
theorem tab_ok {w : World} {news : List (Addr × Obj)} {D : Addr} {l : List (Str × Tok × Int × Tok)} {n : Nat} (hD : (D == sysModules) = false)
    (hl : (hd.heap_39 w.params).lookup D = some { cls := .type "dict", data := .dict (l.map (entK w)).toArray n }) (nd : (l.map (·.1)).Nodup) : DictOk w news D (tabC l) := fun h X _ => by
  refine TabAt.ofObj hD (X _ _ hl) ⟨(l.map (entK w)).toArray, n, ⟨rfl, rfl, rfl⟩, rfl, fun e he => ?_, tab_pairs l, ?_⟩ (tab_flat l)
  · obtain ⟨x, _, rfl⟩ := List.mem_map.mp (List.mem_toArray.mp he)
    exact ⟨x.1, strKind_is _ w x.1 x.2.1, rfl⟩
  · unfold tabV
    rw [List.map_map]
    exact nd
def c240 : List (Str × Int) := [(Str.ofString "**", 3), (Str.ofString "^", 3), (Str.ofString "unary", 2), (Str.ofString "*", 1), (Str.ofString "", 1), (Str.ofString "//", 1), (Str.ofString "/", 1), (Str.ofString "%", 1), (Str.ofString "+", 0), (Str.ofString "-", 0)]
def c185 : List (Str × Int) := (Str.ofString "+/-", 4) :: c240
theorem dk240 : ∀ {w : World} {news : List (Addr × Obj)}, DictOk w news 240 c240 := by
  walk_at "my fill"
  intro w news
  refine tab_ok (l := [(_, _, _, _), (_, _, _, _), (_, _, _, _), (_, _, _, _), (_, _, _, _), (_, _, _, _), (_, _, _, _), (_, _, _, _), (_, _, _, _), (_, _, _, _)]) (n := 10) (by decide) (by k_dflt k_is) ?_
  decide +kernel
theorem dk185 : ∀ {w : World} {news : List (Addr × Obj)}, DictOk w news 185 c185 := by
  walk_at "my fill"
  intro w news
  refine tab_ok (l := [(_, _, _, _), (_, _, _, _), (_, _, _, _), (_, _, _, _), (_, _, _, _), (_, _, _, _), (_, _, _, _), (_, _, _, _), (_, _, _, _), (_, _, _, _), (_, _, _, _)]) (n := 11) (by decide) (by k_dflt k_is) ?_
  decide +kernel
theorem cok240 : COk c240 1 := ⟨by decide +kernel, by decide +kernel, by decide +kernel⟩
theorem cok185 : COk c185 1 := ⟨by decide +kernel, by decide +kernel, by decide +kernel⟩
theorem rk_nonneg {c : List (Str × Int)} (h : ∀ p ∈ c, 0 ≤ p.2) : ∀ w k, rkOf c w = some k → 0 ≤ k := fun w k e => by
  unfold rkOf at e
  cases hf : c.find? (fun p => decide (p.1 = w)) with
  | none => rw [hf] at e; cases e
  | some y =>
    rw [hf] at e
    have := h y (List.mem_of_find?_eq_some hf)
    have e2 : y.2 = k := Option.some.inj e
    omega
theorem rk185 {w : Wd} (h : w ≠ Str.ofString "+/-") : rkOf c185 w = rkOf c240 w := by
  unfold rkOf c185
  rw [List.find?_cons_of_neg (by simpa using fun e => h e.symm)]
end
section
variable {prog : Program} {w : World} {M : Model} {A : Around} {E : Value → Shared → Prop} {s : Shared} {K : Frag} {x C : Addr}
theorem tl_kind : builtinKind "tuple.__len__" = some .slot := by decide +kernel
theorem tl_split : splitId "tuple.__len__" = some ("tuple", "__len__") := by decide +kernel
theorem tok_len_code {vs : List Value} {n : Nat × Addr} {R : Fin → Shared → Prop} (hx : TokHp s.heap x vs n)
    (hq : ∀ t, R (.done (.ret (.int vs.length t))) { s with toks := s.toks + 1 }) : wpAny (model prog w) A (Builtin.«tuple.__len__» ⟨[.ref x], []⟩) R E s := by
  obtain ⟨hp, g, d, tk, os⟩ := s
  have hl : hp.get? x = some (tokObj vs n) := hx.hx
  wp_walk using wpAny_loadPart' hl
  have := hq tk
  rw [← List.size_toArray] at this
  exact this
theorem tok_truthy {vs : List Value} {n : Nat × Addr} {Q : Bool → Shared → Prop} (X : K.In s.heap) (hx : TokHp s.heap x vs n) (hm : mroIn K 141 (.type "tuple") = some true)
    (hb : findIn K (.ref 141) "__bool__" = some none) (hl : findIn K (.ref 141) "__len__" = some (some (.builtin "tuple.__len__"))) (hv : vs.length = 5)
    (h : ∀ tk, Q true { s with toks := tk }) : wpAny (model prog w) A (truthy (.ref x)) Q E s := by
  have I := inst_tok hx
  have key : wpAny (model prog w) A (runValue (.builtin "len" ⟨[.ref x], []⟩)) (fun r s' => (∃ t, r = .int 5 t) ∧ Q true s') E s := by
    refine wpAny_runValue (codeAny_builtin entry_len ?_)
    rw [Around.under_plainId plain_len _]
    unfold Builtin.«len»
    refine wpAny_bind (m := oneArg "len" _) (wpAny_pure ?_)
    refine wpAny_bind (m := callSpecial? (.ref x) (Str.ofString "__len__")) (kfo_special X I hl F.slot_tuple_len.bind ?_)
    refine wpAny_call (codeAny_call_builtin F.slot_tuple_len.plain F.entry_tuple_len ?_)
    refine check_slot (i := "tuple.__len__") (owner := "tuple") (n := "__len__") (self := .ref x) (rest := []) (kw := []) tl_kind tl_split (looks_isi X I hm) ?_ ?_
    · exact F.args_tuple_len_1 _
    · refine tok_len_code hx fun t => ?_
      rw [hv]
      refine wpAny_bind (wpAny_holding (wpAny_pure ?_))
      refine wpAny_bind (wpAny_letGo ?_)
      show wpAny _ _ (if (5 : Int) < 0 then _ else _) _ _ _
      rw [if_neg (by omega)]
      show wpAny _ _ (if (5 : Int) ≥ 2 ^ 63 then _ else _) _ _ _
      rw [if_neg (by omega)]
      exact wpAny_bind (wpAny_mkInt (wpAny_pure ⟨⟨_, rfl⟩, h _⟩))
  unfold truthy
  refine wpAny_bind (m := callSpecial? (.ref x) (Str.ofString "__bool__")) (wpAny_bind (wpAny_bind (I.type.here ((looks_findIn X hb).here (wpAny_pure ?_)))))
  refine wpAny_bind (wpAny_bind (I.type.here ((looks_findIn X hl).here ?_)))
  refine wpAny_bind (wpAny_mono key (fun r s' h' => ?_) fun _ _ e => e)
  obtain ⟨⟨t, rfl⟩, hq⟩ := h'
  exact wpAny_pure hq
end
def tsz : Tr → Nat
  | .leaf _ => 1
  | .bin l _ r => tsz l + tsz r + 1
  | .imp l r => tsz l + tsz r + 1
  | .un _ l => tsz l + 1
def TrOk : Tr → Prop
  | .leaf x => x.length ≤ 10
  | .bin l x r => TrOk l ∧ x.length ≤ 10 ∧ TrOk r
  | .imp l r => TrOk l ∧ TrOk r
  | .un x l => x.length ≤ 10 ∧ TrOk l
def glu (l : List PySem.Str) : PySem.Str := Builtin.Str.glued (Str.ofString " ") l
def par (x : PySem.Str) : PySem.Str := Str.ofString "(" ++ x ++ Str.ofString ")"
def sho : Tr → PySem.Str
  | .leaf x => x
  | .bin l x r => par (glu [sho l, x, sho r])
  | .imp l r => par (glu [sho l, sho r])
  | .un x l => par (glu [x, sho l])
theorem glu2 (x y : PySem.Str) : (glu [x, y]).length = x.length + y.length + 1 := by
  unfold glu
  rw [size_glued]
  have : (Str.ofString " ").length = 1 := by decide +kernel
  simp [this]
theorem glu3 (x y z : PySem.Str) : (glu [x, y, z]).length = x.length + y.length + z.length + 2 := by
  unfold glu
  rw [size_glued]
  have : (Str.ofString " ").length = 1 := by decide +kernel
  simp [this]; omega
theorem par_len (x : PySem.Str) : (par x).length = x.length + 2 := by
  unfold par
  rw [PySem.Str.length_append, PySem.Str.length_append]
  have h1 : (Str.ofString "(").length = 1 := by decide +kernel
  have h2 : (Str.ofString ")").length = 1 := by decide +kernel
  omega
theorem sho_len : ∀ {t : Tr}, TrOk t → (sho t).length ≤ 14 * tsz t
  | .leaf x, h => by have : x.length ≤ 10 := h; simp only [sho, tsz]; omega
  | .bin l x r, h => by have h1 := sho_len h.1; have h2 := sho_len h.2.2; have h3 := h.2.1; simp only [sho, tsz, par_len, glu3]; omega
  | .imp l r, h => by have h1 := sho_len h.1; have h2 := sho_len h.2; simp only [sho, tsz, par_len, glu2]; omega
  | .un x l, h => by have h1 := sho_len h.2; have h3 := h.1; simp only [sho, tsz, par_len, glu2]; omega
section
variable {prog : Program} {w : World} {A : Around} {E : Value → Shared → Prop} {s : Shared} {h₀ : Heap} {L : Addr} {nw : List (Addr × Obj)}
theorem join_vals {t : Tok} {a : Addr} {l : List (PySem.Str × Tok)} {p q : PySem.Str × Tok} {r : List (PySem.Str × Tok)} {n : Nat} {Q : Value → Shared → Prop} (N : News h₀ L s.heap nw) (hm : (a, W.listOf (strValues l).toArray n) ∈ nw) (h2 : l = p :: q :: r)
    (hz : (l.map (·.1)).toArray.foldl (· + ·.length + (Str.ofString " ").length) 0 ≤ 200000) (hz2 : (glu (l.map (·.1))).length ≤ 200000) (h : ∀ u, Q (.str (glu (l.map (·.1))) u) { s with toks := s.toks + 1 }) :
    wpAny (model prog w) A (call (.builtin "str.join") [.str (Str.ofString " ") t, .ref a]) Q E s := by
  refine call_meets F.slot_str_join (typeIs_str s _ t) F.entry_str_join (F.args_str_join_2 _ _) (meets_str_join_list (Str.ofString " ") t a l ?_) ⟨N.isList hm, ?_⟩
  · unfold Builtin.Str.tooLong
    rw [sizeLine_eq]
    exact decide_eq_false (by omega)
  · subst h2
    exact ⟨Nat.le_trans hz2 (by decide), h _⟩
theorem one_sp : (Str.ofString " ").length = 1 := by decide +kernel
theorem join2 {t : Tok} {a : Addr} {x y : PySem.Str} {tx ty : Tok} {n : Nat} {Q : Value → Shared → Prop} (N : News h₀ L s.heap nw) (hm : (a, W.listOf #[.str x tx, .str y ty] n) ∈ nw) (hx : x.length ≤ 30000) (hy : y.length ≤ 30000)
    (h : ∀ u, (glu [x, y]).length ≤ 100000 → Q (.str (glu [x, y]) u) { s with toks := s.toks + 1 }) :
    wpAny (model prog w) A (call (.builtin "str.join") [.str (Str.ofString " ") t, .ref a]) Q E s :=
  join_vals (l := [(x, tx), (y, ty)]) N hm rfl (by simp [one_sp]; omega) (by show (glu [x, y]).length ≤ _; rw [glu2]; omega) fun u => h u (by rw [glu2]; omega)
theorem join3 {t : Tok} {a : Addr} {x y z : PySem.Str} {tx ty tz : Tok} {n : Nat} {Q : Value → Shared → Prop} (N : News h₀ L s.heap nw) (hm : (a, W.listOf #[.str x tx, .str y ty, .str z tz] n) ∈ nw) (hx : x.length ≤ 30000) (hy : y.length ≤ 30000) (hz : z.length ≤ 30000)
    (h : ∀ u, (glu [x, y, z]).length ≤ 100000 → Q (.str (glu [x, y, z]) u) { s with toks := s.toks + 1 }) :
    wpAny (model prog w) A (call (.builtin "str.join") [.str (Str.ofString " ") t, .ref a]) Q E s :=
  join_vals (l := [(x, tx), (y, ty), (z, tz)]) N hm rfl (by simp [one_sp]; omega) (by show (glu [x, y, z]).length ≤ _; rw [glu3]; omega) fun u => h u (by rw [glu3]; omega)
end
local macro_rules | `(tactic| walk_at "call builtin:str.join") => `(tactic| (k_here; k_dflt (first
  | (refine' join2 ?N ?hm ?hx ?hy ?_; (case N => k_asm); (case hm => first | assumption | exact List.mem_cons_self ..); (case hx => omega); (case hy => omega)) | (refine' join3 ?N ?hm ?hx ?hy ?hz ?_; (case N => k_asm); (case hm => first | assumption | exact List.mem_cons_self ..); (case hx => omega); (case hy => omega); (case hz => omega))); intro u' hl'))
def SS (w : World) (t : Tr) : Prop := ∀ {mean : ExcName → Option Value} {mg mb : Str → Option Value} {news : List (Addr × Obj)} {v : Value}, TreeIn w news v t → Spec w mean mg mb 207 [v] (6 * tsz t + 20) (20 * tsz t + 80) news (fun nw r => ∃ ty, r = .str (sho t) ty) (fun _ => False)
local macro_rules | `(tactic| k_mem) => `(tactic| (refine List.mem_cons_of_mem _ ?_; assumption))
local macro_rules | `(tactic| walk_at "getAttr ref") => `(tactic| (k_here; (with_reducible show wpAny _ _ (getAttr (Value.ref _) (PySem.Str.ofString "string") _) _ _ _); k_dflt (refine' tok_string ?B ?F ?X ?N ?T ?hk ?h1 ?h2 ?hx ?h3 ?hv ?_; (case N => k_asm); (case hx => k_mem); (case B => k_asm); (case F => k_asm); (case X => k_asm); (case T => k_asm); (case hk => exact rfl); (case h1 => walk_at "my dp"); (case h2 => walk_at "my dp"); (case h3 => exact rfl); (case hv => exact rfl); intro h' tk' F' N'; (try k_sweep))))
local macro_rules | `(tactic| walk_at "getAttr ref") => `(tactic| (k_here; (with_reducible show wpAny _ _ (getAttr (Value.ref _) (PySem.Str.ofString "string") _) _ _ _); k_dflt (refine' tok_string ?B ?F ?X ?N ?T ?hk ?h1 ?h2 ?hx ?h3 ?hv ?_; (case N => k_asm); (case hx => first | assumption | exact TokIn.mono (by assumption) (by intro p h; simp [h])); (case B => k_asm); (case F => k_asm); (case X => k_asm); (case T => k_asm); (case hk => exact rfl); (case h1 => walk_at "my dp"); (case h2 => walk_at "my dp"); (case h3 => exact rfl); (case hv => exact rfl); intro h' tk' F' N'; (try k_sweep))))
local macro_rules | `(tactic| walk_at "truthy ref") => `(tactic| (k_here; (with_reducible show wpAny _ _ (truthy (Value.ref _)) _ _ _); k_dflt (refine' tok_truthy ?X ?hx ?m ?b ?l ?v ?_; (case hx => first | exact (TokIn.hp (by k_asm) (by assumption)) | exact (TokIn.hp (by k_asm) (TokIn.mono (by assumption) (by intro p h; simp [h])))); (case X => k_in); (case m => k_is); (case b => k_is); (case l => k_is); (case v => exact rfl); intro _)))
local macro_rules | `(tactic| walk_at "call builtin:isinstance") => `(tactic| (k_here; (with_reducible show wpAny _ _ (call _ [Value.ref _, Value.ref 141]) _ _ _); k_dflt (refine' isi_call ?k1 ?k2 ?k3 ?k4 ?_; (case k1 => k_in); (case k2 => (intro M; first | exact InstAt.type (inst_tok (TokIn.hp (by k_asm) (by assumption))) | exact InstAt.type (inst_tok (TokIn.hp (by k_asm) (TokIn.mono (by assumption) (by intro p h; simp [h])))))); (case k3 => k_is); (case k4 => intro e; cases e); k_whole)))
theorem tree_obj2 {w : World} {nw : List (Addr × Obj)} {v : Value} {t : Tr} (h : TreeIn w nw v t) : ∃ a d l o r k1 k2 k3 n, v = .ref a ∧ (a, instObj 218 d) ∈ nw ∧ (d, nodeD w l o r k1 k2 k3 n) ∈ nw := by
  cases h <;> exact ⟨_, _, _, _, _, _, _, _, _, rfl, by assumption, by assumption⟩
theorem ss_call {w : World} {t : Tr} (hS : SS w t) {mean : ExcName → Option Value} {mg mb : Str → Option Value} {nw : List (Addr × Obj)} {v : Value}
    {dp un : Nat} {cn : Str} {cs : Scope} {a : Addr} {ccd : Value} {outer : List Env} {A₀ : Around} {base h₀ : Heap} {L : Addr} {m : Str → Option Value} {s : Shared} {Q E : Value → Shared → Prop}
    (hv : TreeIn w nw v t) (B : Below A₀ base outer h₀) (F : Fr h₀ L s.heap m) (X : (hd.heap_39 w.params).In h₀) (N : News h₀ L s.heap nw) (Tp : Top hd.view_39 lo mean mg mb h₀) (hk : cs.kind = .function)
    (hd1 : dp + (6 * tsz t + 20) < recursionLimit) (hu : un + (20 * tsz t + 80) < cLine)
    (h : ∀ ty h' tk', Fr h₀ L h' m → News h₀ L h' nw → Q (.str (sho t) ty) { s with heap := h', toks := tk' }) :
    wpAny (model PySem.Challenge.rw_fe0201_01.row.prog w) (AA dp un (some []) cn cs L a ccd outer) (call (.ref 207) [v]) Q E s := by
  refine hS hv dp un cn cs a ccd outer A₀ base h₀ L m s Q E B F X N Tp hk hd1 hu (fun r nw' h' tk' F' N' sub x => ?_) (fun _ _ _ _ _ z => z.elim)
  obtain ⟨ty, rfl⟩ := x
  exact h ty h' tk' F' (fun p hp => N' p (sub p hp))
local macro_rules | `(tactic| walk_at "call ref") => `(tactic| (k_here; k_dflt (refine' ss_call ?hS ?hv ?B ?F ?X ?N ?T ?hk ?h1 ?h2 ?_; (case N => k_asm); (case hv => first | assumption | exact TreeIn.mono (by assumption) (by intro p h; simp [h])); (case hS => assumption); (case B => k_asm); (case F => k_asm); (case X => k_asm); (case T => k_asm); (case hk => exact rfl); (case h1 => walk_at "my dp"); (case h2 => walk_at "my dp"); intro ty' h' tk' F' N'; (try k_sweep))))
theorem ss_leaf : ∀ {w : World} {x : Wd}, SS w (.leaf x) := by
  walk_at "my fill"
  intro w x
  unfold SS Spec
  intro mean mg mb news v ht dp un cn cs a ccd outer A₀ base h₀ L m s Q E B F X N Tp hk hd1 hu hQ hE
  cases ht with
  | leaf m1 m2 m3 =>
    obtain ⟨kk, t1, t2, b3, b4, t5, n, m4, m5⟩ := m3
    refine wpAny_call ?_
    k_dflt (walk_at "my enter")
    k_steps
    exact hQ _ _ _ _ (by k_asm) (by k_asm) (fun _ h => h) ⟨_, rfl⟩
theorem ss_un : ∀ {w : World} {x : Wd} {l : Tr} (hok : TrOk (.un x l)) (hl : SS w l), SS w (.un x l) := by
  walk_at "my fill"
  intro w x l hok hl
  unfold SS Spec
  intro mean mg mb news v ht dp un cn cs a ccd outer A₀ base h₀ L m s Q E B F X N Tp hk hd1 hu hQ hE
  have hll := sho_len hok.2
  have hxl := hok.1
  simp only [tsz] at hd1 hu
  have hrl : recursionLimit = 1000 := rfl
  cases ht with
  | un m1 m2 m3 htl =>
    obtain ⟨kk, t1, t2, b3, b4, t5, n, m4, m5⟩ := m3
    obtain ⟨la, ld, w1, w2, w3, q1, q2, q3, qn, rfl, m6, m7⟩ := tree_obj2 htl
    refine wpAny_call ?_
    k_dflt (walk_at "my enter")
    k_steps
    exact hQ _ _ _ _ (by k_asm) (by k_asm) (fun _ h => List.mem_cons_of_mem _ h) ⟨_, rfl⟩
theorem ss_imp : ∀ {w : World} {l r : Tr} (hok : TrOk (.imp l r)) (hl : SS w l) (hr : SS w r), SS w (.imp l r) := by
  walk_at "my fill"
  intro w l r hok hl hr
  unfold SS Spec
  intro mean mg mb news v ht dp un cn cs a ccd outer A₀ base h₀ L m s Q E B F X N Tp hk hd1 hu hQ hE
  have hll := sho_len hok.1
  have hrr := sho_len hok.2
  simp only [tsz] at hd1 hu
  have hrl : recursionLimit = 1000 := rfl
  cases ht with
  | imp m1 m2 htl htr =>
    obtain ⟨la, ld, w1, w2, w3, q1, q2, q3, qn, rfl, m6, m7⟩ := tree_obj2 htl
    obtain ⟨ra, rd, w4, w5, w6, q4, q5, q6, qm, rfl, m8, m9⟩ := tree_obj2 htr
    refine wpAny_call ?_
    k_dflt (walk_at "my enter")
    k_steps
    exact hQ _ _ _ _ (by k_asm) (by k_asm) (fun _ h => List.mem_cons_of_mem _ h) ⟨_, rfl⟩
theorem ss_bin : ∀ {w : World} {x : Wd} {l r : Tr} (hok : TrOk (.bin l x r)) (hl : SS w l) (hr : SS w r), SS w (.bin l x r) := by
  walk_at "my fill"
  intro w x l r hok hl hr
  unfold SS Spec
  intro mean mg mb news v ht dp un cn cs a ccd outer A₀ base h₀ L m s Q E B F X N Tp hk hd1 hu hQ hE
  have hll := sho_len hok.1
  have hrr := sho_len hok.2.2
  have hxl := hok.2.1
  simp only [tsz] at hd1 hu
  have hrl : recursionLimit = 1000 := rfl
  cases ht with
  | bin m1 m2 m3 htl htr =>
    obtain ⟨kk, t1, t2, b3, b4, t5, n, m4, m5⟩ := m3
    obtain ⟨la, ld, w1, w2, w3, q1, q2, q3, qn, rfl, m6, m7⟩ := tree_obj2 htl
    obtain ⟨ra, rd, w4, w5, w6, q4, q5, q6, qm, rfl, m8, m9⟩ := tree_obj2 htr
    refine wpAny_call ?_
    k_dflt (walk_at "my enter")
    k_steps
    exact hQ _ _ _ _ (by k_asm) (by k_asm) (fun _ h => List.mem_cons_of_mem _ h) ⟨_, rfl⟩
theorem ss_all {w : World} : ∀ {t : Tr}, TrOk t → SS w t
  | .leaf _, _ => ss_leaf
  | .bin _ _ _, h => ss_bin h (ss_all h.1) (ss_all h.2.2)
  | .imp _ _, h => ss_imp h (ss_all h.1) (ss_all h.2)
  | .un _ _, h => ss_un h (ss_all h.2)
/-- a list that stands for a stack: the top first -/
abbrev stk (vs : List Value) (n : Nat) : Obj := W.listOf vs.reverse.toArray n
theorem kl_last_append : ∀ (l : List Value) (y : Value), kl_last (l ++ [y]) = some (l, y) := by
  intro l y
  cases h : kl_last (l ++ [y]) with
  | none => have := kl_last_none h; simp at this
  | some p =>
    have := kl_last_spec (l := l ++ [y]) (p := p.1) (y := p.2) h
    have h1 := List.append_inj_left' this rfl
    have h2 := List.append_inj_right' this rfl
    simp only [List.cons.injEq, and_true] at h2
    rw [h1, h2]
section
variable {prog : Program} {w : World} {A : Around} {E : Value → Shared → Prop} {s : Shared} {h₀ : Heap} {L P : Addr} {m : Str → Option Value} {nw nw' : List (Addr × Obj)} {vs : List Value} {v : Value} {n : Nat}
theorem stk_list (N : News h₀ L s.heap nw) (hm : (P, stk vs n) ∈ nw) : s.heap.IsList P vs.reverse.toArray := N.isList hm
theorem stk_ne {e : Addr} {k : Nat} {Q : Value → Shared → Prop} (N : News h₀ L s.heap nw) (hm : (P, stk vs n) ∈ nw) (he : (e, W.listOf #[] k) ∈ nw) (hu : A.units < cLine) (h : Q (.bool (!vs.isEmpty)) s) :
    wpAny (model prog w) A (compareOp .NotEq (.ref P) (.ref e)) Q E s := by
  refine cmp_ofNotEq ?_
  cases vs with
  | nil => exact SeqAt.RcNeAt.lists (e := fun _ => true) (N.isList hm) (N.isList he) rfl hu (fun j h1 _ => absurd h1 (Nat.not_lt_zero _)) prog w E Q h
  | cons v vs => exact SeqAt.RcNeAt.lists_lengths (N.isList hm) (N.isList he) (by simp) hu prog w E Q h
theorem stk_top {value slice : PySem.Expr} {u : Tok} {Q : Value → Shared → Prop} (N : News h₀ L s.heap nw) (hm : (P, stk (v :: vs) n) ∈ nw) (h : Q v s)
    (hs : subscripted slice false (.ref P) (.int (-1) u) = operate [.ref P, .int (-1) u] (getItem (.ref P) (.int (-1) u)) := by with_unfolding_all rfl) :
    wpAny (model prog w) A (subscriptTail value slice (.ref P) (.int (-1) u)) Q E s := by
  have hl := stk_list N hm
  refine tail_any hl.typeIs slot_list_getitem.lookup (wpAny_getItem_list_neg (x := v) hl (by decide) (by simp; omega) (by decide) ?_ h) hs
  simp only [List.reverse_cons, List.size_toArray, List.length_append, List.length_reverse, List.length_cons, List.length_nil]
  have : ((-1 : Int) + ((vs.length + (0 + 1) : Nat) : Int)).toNat = vs.length := by omega
  rw [this]
  simp
theorem stk_pop {Q : Value → Shared → Prop} (F : Fr h₀ L s.heap m) (N : News h₀ L s.heap nw) (hz : (v :: vs).length ≤ 1000) (U : Upd P (stk (v :: vs) n) (stk vs (n + 1)) nw nw')
    (h : ∀ h', Fr h₀ L h' m → News h₀ L h' nw' → Q v { s with heap := h' }) : wpAny (model prog w) A (call (.builtin "list.pop") [.ref P]) Q E s :=
  kl_pop (its := (v :: vs).reverse.toArray) F N (by rw [List.toList_toArray, List.reverse_cons]; exact kl_last_append _ _) U (by rw [List.toList_toArray, List.length_reverse]; exact Nat.le_trans hz (by decide)) h
theorem stk_push {Q : Value → Shared → Prop} (F : Fr h₀ L s.heap m) (N : News h₀ L s.heap nw) (hz : vs.length ≤ 1000) (U : Upd P (stk vs n) (stk (v :: vs) (n + 1)) nw nw')
    (h : ∀ h', Fr h₀ L h' m → News h₀ L h' nw' → Q .none { s with heap := h' }) : wpAny (model prog w) A (call (.builtin "list.append") [.ref P, v]) Q E s := by
  refine append_K (its := vs.reverse.toArray) (n := n) F N (news' := nw') ?_ h ?_
  · rw [show vs.reverse.toArray.push v = (v :: vs).reverse.toArray by simp]
    exact U
  · exact Nat.le_trans (by simp; exact hz) (by decide : 1000 ≤ sizeLine)
end
/-- strings of trees -/
inductive PR : List Value → List Tr → Prop
  | nil : PR [] []
  | cons {t : Tr} {tk : Tok} {vs : List Value} {ps : List Tr} : PR vs ps → PR (.str (sho t) tk :: vs) (t :: ps)
abbrev entO (x : Wt) (t1 t2 t3 : Tok) (n : Nat) : Obj := { cls := .type "tuple", data := .seq #[.int x.rank t1, .str x.word t2, .int (if x.two then 2 else 1) t3] n }
inductive WR (nw : List (Addr × Obj)) : List Value → List Wt → Prop
  | nil : WR nw [] []
  | cons {e : Addr} {x : Wt} {t1 t2 t3 : Tok} {n : Nat} {us : List Value} {ws : List Wt} : (e, entO x t1 t2 t3 n) ∈ nw → WR nw us ws → WR nw (.ref e :: us) (x :: ws)
theorem WR.mono {nw nw' : List (Addr × Obj)} {us : List Value} {ws : List Wt} (h : WR nw us ws) (hs : ∀ p ∈ nw, p ∈ nw') : WR nw' us ws := by
  induction h with
  | nil => exact .nil
  | cons a _ i => exact .cons (hs _ a) i
theorem WR.len {nw : List (Addr × Obj)} {us : List Value} {ws : List Wt} (h : WR nw us ws) : us.length = ws.length := by
  induction h with
  | nil => rfl
  | cons a _ i => simp [i]
theorem PR.len {vs : List Value} {ps : List Tr} (h : PR vs ps) : vs.length = ps.length := by
  induction h with
  | nil => rfl
  | cons a i => simp [i]
def psz : List Tr → Nat
  | [] => 0
  | t :: l => tsz t + psz l
theorem psz_len : ∀ (l : List Tr), l.length ≤ psz l
  | [] => Nat.le_refl _
  | t :: l => by have := psz_len l; have : 1 ≤ tsz t := (by cases t <;> simp [tsz]); simp only [psz, List.length_cons]; omega
def while1 : Option Obj → Option (Scope × Value × PySem.Expr × List Stmt × List Stmt)
  | some ⟨_, _, .func fd, _⟩ => match fd.body with
    | .stmts [.While t b e _] => some (fd.scope, fd.code, t, b, e)
    | _ => none
  | _ => none
def LbAst (w : World) (sc : Scope) (cdv : Value) (test : PySem.Expr) (body orelse : List Stmt) : Prop := while1 ((hd.heap_39 w.params).lookup 268) = some (sc, cdv, test, body, orelse)
theorem lb_use {x : Option Obj} {o : Obj} {y : Option (Scope × Value × PySem.Expr × List Stmt × List Stmt)} {P : Prop} (e : x = some o) (h : while1 x = y) (k : while1 (some o) = y → P) : P := k (e ▸ h)
local macro_rules | `(tactic| walk_at "lb ast") => `(tactic| (refine' lb_use ?e (by assumption) ?kk; (case e => k_dflt k_is); intro hast2; (dsimp only [while1] at hast2); (simp only [Option.some.injEq, Prod.mk.injEq] at hast2); obtain ⟨a1, a2, a3, a4, a5⟩ := hast2; subst a1 a2 a3 a4 a5))
theorem tab3 {m : Str → Option Value} {x1 x2 x3 : Str} {v1 v2 v3 : Value} (h1 : m x1 = some v1) (h2 : m x2 = some v2) (h3 : m x3 = some v3) :
    m = (fun y => if y = x1 then some v1 else if y = x2 then some v2 else if y = x3 then some v3 else m y) := by
  funext y
  repeat' split
  all_goals first | rfl | (rename_i e; subst e; assumption)
structure LbS (m : Str → Option Value) (P W : Addr) (fl : Int) : Prop where
  mP : m (Str.ofString "parts") = some (.ref P)
  mW : m (Str.ofString "waiting") = some (.ref W)
  mF : ∃ t, m (Str.ofString "floor") = some (.int fl t)
abbrev lbEnv (sc : Scope) (L : Addr) (cdv : Value) : Env := envOf (Str.ofString "_law_bound") sc L 268 cdv
abbrev lbE (w : World) (dp un : Nat) (outer : List Env) (sc : Scope) (L : Addr) (cdv : Value) (R : Result → Shared → Prop) : Value → Shared → Prop := fun e s' =>
  wpAny (model PySem.Challenge.rw_fe0201_01.row.prog w) ((A0 dp un (some []) outer).deeper (lbEnv sc L cdv)) (leaving (lbEnv sc L cdv) e) (fun _ s'' => R (.error e) s'') (fun e' s'' => R (.error e') s'') s'
section
variable {prog : Program} {w : World} {A : Around} {E : Value → Shared → Prop} {s : Shared} {h₀ : Heap} {L P : Addr} {nw : List (Addr × Obj)} {vs : List Value} {v : Value} {n : Nat}
theorem stk_ne0 {e : Addr} {k : Nat} {Q : Value → Shared → Prop} (N : News h₀ L s.heap nw) (hm : (P, stk [] n) ∈ nw) (he : (e, W.listOf #[] k) ∈ nw) (hu : A.units < cLine) (h : Q (.bool false) s) :
    wpAny (model prog w) A (compareOp .NotEq (.ref P) (.ref e)) Q E s := stk_ne N hm he hu h
theorem stk_ne1 {e : Addr} {k : Nat} {Q : Value → Shared → Prop} (N : News h₀ L s.heap nw) (hm : (P, stk (v :: vs) n) ∈ nw) (he : (e, W.listOf #[] k) ∈ nw) (hu : A.units < cLine) (h : Q (.bool true) s) :
    wpAny (model prog w) A (compareOp .NotEq (.ref P) (.ref e)) Q E s := stk_ne N hm he hu h
end
local macro_rules | `(tactic| k_mem) => `(tactic| first | assumption | (exact List.mem_cons_self ..) | (exact List.mem_cons_of_mem _ (List.mem_cons_self ..)) | (exact List.mem_cons_of_mem _ (List.mem_cons_of_mem _ (List.mem_cons_self ..))) | (exact List.mem_cons_of_mem _ (List.mem_cons_of_mem _ (List.mem_cons_of_mem _ (List.mem_cons_self ..)))) | (refine List.mem_cons_of_mem _ ?_; assumption) | (refine List.mem_cons_of_mem _ (List.mem_cons_of_mem _ ?_); assumption) | (refine List.mem_cons_of_mem _ (List.mem_cons_of_mem _ (List.mem_cons_of_mem _ ?_)); assumption) | (refine List.mem_cons_of_mem _ (List.mem_cons_of_mem _ (List.mem_cons_of_mem _ (List.mem_cons_of_mem _ ?_))); assumption) | (refine List.mem_cons_of_mem _ (List.mem_cons_of_mem _ (List.mem_cons_of_mem _ (List.mem_cons_of_mem _ (List.mem_cons_of_mem _ ?_)))); assumption))
local macro_rules | `(tactic| walk_at "subscriptTail") => `(tactic| (k_here; (with_reducible show wpAny _ _ (subscriptTail _ _ (Value.ref _) (Value.int (-1) _)) _ _ _); (refine' stk_top ?N ?hm ?_; (case N => k_asm); (case hm => first | assumption | (exact List.mem_cons_self ..) | (exact List.mem_cons_of_mem _ (List.mem_cons_self ..)) | (exact List.mem_cons_of_mem _ (List.mem_cons_of_mem _ (List.mem_cons_self ..)))))))
local macro_rules | `(tactic| walk_at "compareOp NotEq ref ref") => `(tactic| (k_here; k_dflt (first | (refine' stk_ne0 ?N ?hm ?he ?hu ?_; (case N => k_asm); (case he => exact List.mem_cons_self ..); (case hm => first | (exact List.mem_cons_of_mem _ (List.mem_cons_self ..)) | (exact List.mem_cons_of_mem _ (List.mem_cons_of_mem _ (List.mem_cons_self ..))) | (exact List.mem_cons_of_mem _ (List.mem_cons_of_mem _ (List.mem_cons_of_mem _ (List.mem_cons_self ..))))); (case hu => walk_at "my dp")) | (refine' stk_ne1 ?N ?hm ?he ?hu ?_; (case N => k_asm); (case he => exact List.mem_cons_self ..); (case hm => first | (exact List.mem_cons_of_mem _ (List.mem_cons_self ..)) | (exact List.mem_cons_of_mem _ (List.mem_cons_of_mem _ (List.mem_cons_self ..))) | (exact List.mem_cons_of_mem _ (List.mem_cons_of_mem _ (List.mem_cons_of_mem _ (List.mem_cons_self ..))))); (case hu => walk_at "my dp")))))
theorem lb_test : ∀ {w : World} {sc : Scope} {cdv : Value} {test : PySem.Expr} {body orelse : List Stmt} (hast : LbAst w sc cdv test body orelse)
    {mean : ExcName → Option Value} {mg mb : Str → Option Value} {dp un : Nat} {outer : List Env} {base g : Heap} {L P W : Addr} {m : Str → Option Value} {s : Shared} {rest : List (Addr × Obj)} {Q : Bool → Shared → Prop} {E : Value → Shared → Prop} {fl : Int} {vs us : List Value} {ws : List Wt} {n k : Nat}
    (B : Below (A0 dp un (some []) outer) base outer g) (F : Fr g L s.heap m) (X : (hd.heap_39 w.params).In g) (N : News g L s.heap ((P, stk vs n) :: (W, stk us k) :: rest)) (Tp : Top hd.view_39 lo mean mg mb g) (S : LbS m P W fl) (hw : WR rest us ws) (hd1 : dp + 20 < recursionLimit) (hu : un + 50 < cLine)
    (h : ∀ h' tk', Fr g L h' m → News g L h' ((P, stk vs n) :: (W, stk us k) :: rest) → Q (match ws with | [] => false | x :: _ => decide (fl ≤ x.rank)) { s with heap := h', toks := tk' }),
    wpAny (model PySem.Challenge.rw_fe0201_01.row.prog w) ((A0 dp un (some []) outer).deeper (lbEnv sc L cdv)) (PySem.isTrue test (lbEnv sc L cdv) (eval test (lbEnv sc L cdv))) Q E s := by
  walk_at "my fill"
  intro w sc cdv test body orelse hast mean mg mb dp un outer base g L P W m s rest Q E fl vs us ws n k B F X N Tp S hw hd1 hu h
  walk_at "lb ast"
  obtain ⟨mP, mW, ⟨tf, mF⟩⟩ := id S
  have em := tab3 mP mW mF
  rw [em] at F
  cases hw with
  | nil =>
    k_steps
    exact h _ _ (by rw [em]; k_asm) (News.sub (by k_asm) fun _ h => List.mem_cons_of_mem _ h)
  | @cons e x t1 t2 t3 n2 us ws he hw =>
    dsimp only at h
    have hT : fl ≤ x.rank → decide (fl ≤ x.rank) = true := decide_eq_true
    have hF : ¬ fl ≤ x.rank → decide (fl ≤ x.rank) = false := decide_eq_false
    k_steps
    · rw [hT (by assumption)] at h
      exact h _ _ (by rw [em]; k_asm) (News.sub (by k_asm) fun _ h => List.mem_cons_of_mem _ h)
    · rw [hF (by omega)] at h
      exact h _ _ (by rw [em]; k_asm) (News.sub (by k_asm) fun _ h => List.mem_cons_of_mem _ h)
local macro_rules | `(tactic| walk_at "my upd") => `(tactic| first | exact Upd.head (List.forall_mem_cons.mpr ⟨by assumption, by assumption⟩) | exact Upd.tail (by assumption) (Upd.head (by assumption)))
local macro_rules | `(tactic| walk_at "call builtin:list.pop") => `(tactic| (k_here; (with_reducible show wpAny _ _ (call (Value.builtin _) [Value.ref _]) _ _ _); k_dflt (refine' stk_pop ?F ?N ?hz ?U ?_; (case N => k_asm); (case U => walk_at "my upd"); (case F => k_asm); (case hz => (simp only [List.length_cons]; omega)); intro h' F' N')))
local macro_rules | `(tactic| walk_at "call builtin:list.append") => `(tactic| (k_here; (with_reducible show wpAny _ _ (call (Value.builtin _) [Value.ref _, _]) _ _ _); k_dflt (refine' stk_push ?F ?N ?hz ?U ?_; (case N => k_asm); (case U => walk_at "my upd"); (case F => k_asm); (case hz => ((try simp only [List.length_cons]); omega)); intro h' F' N')))
theorem lb_un : ∀ {w : World} {sc : Scope} {cdv : Value} {test : PySem.Expr} {body orelse : List Stmt} (hast : LbAst w sc cdv test body orelse)
    {mean : ExcName → Option Value} {mg mb : Str → Option Value} {dp un : Nat} {outer : List Env} {base g : Heap} {L P W : Addr} {m : Str → Option Value} {s : Shared} {rest : List (Addr × Obj)} {Q : Flow → Shared → Prop} {E : Value → Shared → Prop} {fl rk : Int} {wd : Wd} {t : Tr} {tt : Tok} {vs us : List Value} {n k n2 : Nat} {e : Addr} {t1 t2 t3 : Tok}
    (B : Below (A0 dp un (some []) outer) base outer g) (F : Fr g L s.heap m) (X : (hd.heap_39 w.params).In g) (N : News g L s.heap ((P, stk (.str (sho t) tt :: vs) n) :: (W, stk (.ref e :: us) k) :: rest)) (Tp : Top hd.view_39 lo mean mg mb g) (S : LbS m P W fl) (hd1 : dp + 20 < recursionLimit) (hu : un + 50 < cLine)
    (he : (e, ({ cls := .type "tuple", data := .seq #[.int rk t1, .str wd t2, .int 1 t3] n2 } : Obj)) ∈ rest) (hPW : P ≠ W) (hWP : W ≠ P) (hrP : ∀ p ∈ rest, p.1 ≠ P) (hrW : ∀ p ∈ rest, p.1 ≠ W) (hl1 : (sho t).length ≤ 3000) (hl2 : wd.length ≤ 10) (hv : vs.length ≤ 200) (hv2 : us.length ≤ 200)
    (h : ∀ h' tk' m' ty n' k', Fr g L h' m' → LbS m' P W fl → News g L h' ((P, stk (.str (Str.ofString "(" ++ wd ++ Str.ofString " " ++ sho t ++ Str.ofString ")") ty :: vs) n') :: (W, stk us k') :: rest) → Q .next { s with heap := h', toks := tk' }),
    wpAny (model PySem.Challenge.rw_fe0201_01.row.prog w) ((A0 dp un (some []) outer).deeper (lbEnv sc L cdv)) (execs body (lbEnv sc L cdv)) Q E s := by
  walk_at "my fill"
  intro w sc cdv test body orelse hast mean mg mb dp un outer base g L P W m s rest Q E fl rk wd t tt vs us n k n2 e t1 t2 t3 B F X N Tp S hd1 hu he hPW hWP hrP hrW hl1 hl2 hv hv2 h
  walk_at "lb ast"
  obtain ⟨mP, mW, ⟨tf, mF⟩⟩ := id S
  have em := tab3 mP mW mF
  rw [em] at F
  show wpAny _ _ (execs (_ :: _) _) _ _ _
  k_steps
  exact h _ _ _ _ _ _ (by k_asm) ⟨rfl, rfl, ⟨_, rfl⟩⟩ (by k_asm)
theorem lb_bin : ∀ {w : World} {sc : Scope} {cdv : Value} {test : PySem.Expr} {body orelse : List Stmt} (hast : LbAst w sc cdv test body orelse)
    {mean : ExcName → Option Value} {mg mb : Str → Option Value} {dp un : Nat} {outer : List Env} {base g : Heap} {L P W : Addr} {m : Str → Option Value} {s : Shared} {rest : List (Addr × Obj)} {Q : Flow → Shared → Prop} {E : Value → Shared → Prop} {fl rk : Int} {wd : Wd} {t a : Tr} {tt ta : Tok} {vs us : List Value} {n k n2 : Nat} {e : Addr} {t1 t2 t3 : Tok}
    (B : Below (A0 dp un (some []) outer) base outer g) (F : Fr g L s.heap m) (X : (hd.heap_39 w.params).In g) (N : News g L s.heap ((P, stk (.str (sho t) tt :: .str (sho a) ta :: vs) n) :: (W, stk (.ref e :: us) k) :: rest)) (Tp : Top hd.view_39 lo mean mg mb g) (S : LbS m P W fl) (hd1 : dp + 20 < recursionLimit) (hu : un + 50 < cLine)
    (he : (e, ({ cls := .type "tuple", data := .seq #[.int rk t1, .str wd t2, .int 2 t3] n2 } : Obj)) ∈ rest) (hPW : P ≠ W) (hWP : W ≠ P) (hrP : ∀ p ∈ rest, p.1 ≠ P) (hrW : ∀ p ∈ rest, p.1 ≠ W) (hl1 : (sho t).length ≤ 3000) (hne : wd ≠ Str.ofString "") (hla : (sho a).length ≤ 3000) (hl2 : wd.length ≤ 10) (hv : vs.length ≤ 200) (hv2 : us.length ≤ 200)
    (h : ∀ h' tk' m' ty n' k', Fr g L h' m' → LbS m' P W fl → News g L h' ((P, stk (.str (Str.ofString "(" ++ sho a ++ Str.ofString " " ++ (wd ++ Str.ofString " ") ++ sho t ++ Str.ofString ")") ty :: vs) n') :: (W, stk us k') :: rest) → Q .next { s with heap := h', toks := tk' }),
    wpAny (model PySem.Challenge.rw_fe0201_01.row.prog w) ((A0 dp un (some []) outer).deeper (lbEnv sc L cdv)) (execs body (lbEnv sc L cdv)) Q E s := by
  walk_at "my fill"
  intro w sc cdv test body orelse hast mean mg mb dp un outer base g L P W m s rest Q E fl rk wd t a tt ta vs us n k n2 e t1 t2 t3 B F X N Tp S hd1 hu he hPW hWP hrP hrW hl1 hne hla hl2 hv hv2 h
  walk_at "lb ast"
  obtain ⟨mP, mW, ⟨tf, mF⟩⟩ := id S
  have em := tab3 mP mW mF
  rw [em] at F
  show wpAny _ _ (execs (_ :: _) _) _ _ _
  k_steps

  exact h _ _ _ _ _ _ (by k_asm) ⟨rfl, rfl, ⟨_, rfl⟩⟩ (by k_asm)
theorem lb_imp : ∀ {w : World} {sc : Scope} {cdv : Value} {test : PySem.Expr} {body orelse : List Stmt} (hast : LbAst w sc cdv test body orelse)
    {mean : ExcName → Option Value} {mg mb : Str → Option Value} {dp un : Nat} {outer : List Env} {base g : Heap} {L P W : Addr} {m : Str → Option Value} {s : Shared} {rest : List (Addr × Obj)} {Q : Flow → Shared → Prop} {E : Value → Shared → Prop} {fl rk : Int} {t a : Tr} {tt ta : Tok} {vs us : List Value} {n k n2 : Nat} {e : Addr} {t1 t2 t3 : Tok}
    (B : Below (A0 dp un (some []) outer) base outer g) (F : Fr g L s.heap m) (X : (hd.heap_39 w.params).In g) (N : News g L s.heap ((P, stk (.str (sho t) tt :: .str (sho a) ta :: vs) n) :: (W, stk (.ref e :: us) k) :: rest)) (Tp : Top hd.view_39 lo mean mg mb g) (S : LbS m P W fl) (hd1 : dp + 20 < recursionLimit) (hu : un + 50 < cLine)
    (he : (e, ({ cls := .type "tuple", data := .seq #[.int rk t1, .str (Str.ofString "") t2, .int 2 t3] n2 } : Obj)) ∈ rest) (hPW : P ≠ W) (hWP : W ≠ P) (hrP : ∀ p ∈ rest, p.1 ≠ P) (hrW : ∀ p ∈ rest, p.1 ≠ W) (hl1 : (sho t).length ≤ 3000) (hla : (sho a).length ≤ 3000) (hv : vs.length ≤ 200) (hv2 : us.length ≤ 200)
    (h : ∀ h' tk' m' ty n' k', Fr g L h' m' → LbS m' P W fl → News g L h' ((P, stk (.str (Str.ofString "(" ++ sho a ++ Str.ofString " " ++ Str.ofString "" ++ sho t ++ Str.ofString ")") ty :: vs) n') :: (W, stk us k') :: rest) → Q .next { s with heap := h', toks := tk' }),
    wpAny (model PySem.Challenge.rw_fe0201_01.row.prog w) ((A0 dp un (some []) outer).deeper (lbEnv sc L cdv)) (execs body (lbEnv sc L cdv)) Q E s := by
  walk_at "my fill"
  intro w sc cdv test body orelse hast mean mg mb dp un outer base g L P W m s rest Q E fl rk t a tt ta vs us n k n2 e t1 t2 t3 B F X N Tp S hd1 hu he hPW hWP hrP hrW hl1 hla hv hv2 h
  walk_at "lb ast"
  obtain ⟨mP, mW, ⟨tf, mF⟩⟩ := id S
  have em := tab3 mP mW mF
  rw [em] at F
  show wpAny _ _ (execs (_ :: _) _) _ _ _
  k_steps

  exact h _ _ _ _ _ _ (by k_asm) ⟨rfl, rfl, ⟨_, rfl⟩⟩ (by k_asm)
theorem str_ext {x y : PySem.Str} (h : x.cps = y.cps) : x = y := congrArg PySem.Str.mk h
theorem glu_cps2 (x y : PySem.Str) : (glu [x, y]).cps = x.cps ++ (Str.ofString " ").cps ++ y.cps := rfl
theorem glu_cps3 (x y z : PySem.Str) : (glu [x, y, z]).cps = x.cps ++ (Str.ofString " ").cps ++ y.cps ++ (Str.ofString " ").cps ++ z.cps := rfl
theorem e_cps : (Str.ofString "").cps = #[] := by decide +kernel
theorem s_un (wd : Wd) (t : Tr) : Str.ofString "(" ++ wd ++ Str.ofString " " ++ sho t ++ Str.ofString ")" = sho (.un wd t) := by
  apply str_ext
  simp only [sho, par, PySem.Str.cps_append, glu_cps2, Array.append_assoc]
theorem s_bin (a t : Tr) (wd : Wd) : Str.ofString "(" ++ sho a ++ Str.ofString " " ++ (wd ++ Str.ofString " ") ++ sho t ++ Str.ofString ")" = sho (.bin a wd t) := by
  apply str_ext
  simp only [sho, par, PySem.Str.cps_append, glu_cps3, Array.append_assoc]
theorem s_imp (a t : Tr) : Str.ofString "(" ++ sho a ++ Str.ofString " " ++ Str.ofString "" ++ sho t ++ Str.ofString ")" = sho (.imp a t) := by
  apply str_ext
  simp only [sho, par, PySem.Str.cps_append, glu_cps2, Array.append_assoc, e_cps, Array.empty_append]
/-- the parts and the waiting signs, within bounds -/
structure BOk (ps : List Tr) (ws : List Wt) : Prop where
  ok : ∀ t ∈ ps, TrOk t
  wd : ∀ x ∈ ws, x.word.length ≤ 10
  sz : psz ps + ws.length ≤ 200
theorem BOk.len {t : Tr} {ps : List Tr} {ws : List Wt} (h : BOk (t :: ps) ws) : (sho t).length ≤ 3000 := by
  have h1 := sho_len (h.ok t (List.mem_cons_self ..))
  have h2 := h.sz
  simp only [psz] at h2
  omega
theorem BOk.next {x : Wt} {ps ps' : List Tr} {ws : List Wt} (h : BOk ps (x :: ws)) (hb : bld x ps = some ps') : BOk ps' ws := by
  have hw := h.wd x (List.mem_cons_self ..)
  cases ps with
  | nil => cases hb
  | cons t l =>
    have ht := h.ok t (List.mem_cons_self ..)
    have hs := h.sz
    simp only [psz, List.length_cons] at hs
    unfold bld at hb
    by_cases h2 : x.two = true
    · simp only [h2, if_true] at hb
      cases l with
      | nil => cases hb
      | cons a l =>
        have ha := h.ok a (List.mem_cons_of_mem _ (List.mem_cons_self ..))
        simp only [Option.some.injEq] at hb
        subst hb
        simp only [psz] at hs
        refine ⟨fun u hu => ?_, fun y hy => h.wd y (List.mem_cons_of_mem _ hy), ?_⟩
        · rcases List.mem_cons.mp hu with rfl | hu
          · unfold joinT
            split
            · exact ⟨ha, ht⟩
            · exact ⟨ha, hw, ht⟩
          · exact h.ok u (List.mem_cons_of_mem _ (List.mem_cons_of_mem _ hu))
        · unfold joinT
          split <;> simp only [psz, tsz] <;> omega
    · simp only [h2, if_false, Bool.false_eq_true, Option.some.injEq] at hb
      subst hb
      refine ⟨fun u hu => ?_, fun y hy => h.wd y (List.mem_cons_of_mem _ hy), ?_⟩
      · rcases List.mem_cons.mp hu with rfl | hu
        · exact ⟨hw, ht⟩
        · exact h.ok u (List.mem_cons_of_mem _ hu)
      · simp only [psz, tsz]; omega
theorem lb_turn : ∀ {w : World} {sc : Scope} {cdv : Value} {test : PySem.Expr} {body orelse : List Stmt} (hast : LbAst w sc cdv test body orelse)
    {dp un : Nat} {outer : List Env} {base g : Heap} {L : Addr} {m : Str → Option Value} {s : Shared} {nw : List (Addr × Obj)} {Q : Flow → Shared → Prop} {R : Result → Shared → Prop}
    (B : Below (A0 dp un (some []) outer) base outer g) (F : Fr g L s.heap m) (N : News g L s.heap nw)
    (h : wpAny (model PySem.Challenge.rw_fe0201_01.row.prog w) ((A0 dp un (some []) outer).deeper (lbEnv sc L cdv)) (PySem.isTrue test (lbEnv sc L cdv) (eval test (lbEnv sc L cdv)))
      (fun b s₂ => WhlIf b (wpAny (model PySem.Challenge.rw_fe0201_01.row.prog w) ((A0 dp un (some []) outer).deeper (lbEnv sc L cdv)) (execs body (lbEnv sc L cdv)) (WhlPost PySem.Challenge.rw_fe0201_01.row.prog w ((A0 dp un (some []) outer).deeper (lbEnv sc L cdv)) (lbE w dp un outer sc L cdv R) (lbEnv sc L cdv) test body orelse Q 0) (lbE w dp un outer sc L cdv R) s₂) (Q .next s₂)) (lbE w dp un outer sc L cdv R) s),
    WhlRest PySem.Challenge.rw_fe0201_01.row.prog w ((A0 dp un (some []) outer).deeper (lbEnv sc L cdv)) (lbE w dp un outer sc L cdv R) (lbEnv sc L cdv) test body orelse Q 0 s := by
  walk_at "my fill"
  intro w sc cdv test body orelse hast dp un outer base g L m s nw Q R B F N h
  walk_at "lb ast"
  refine whl_turn (k := 0) (by passes_own) (wpAny_mono h (fun b s₂ hb => ?_) fun _ _ e => e)
  cases b with
  | true => exact hb
  | false => exact WhlIf.no rfl (wpAny_execs_nil hb)
theorem lb_loop {w : World} {sc : Scope} {cdv : Value} {test : PySem.Expr} {body orelse : List Stmt} (hast : LbAst w sc cdv test body orelse)
    {mean : ExcName → Option Value} {mg mb : Str → Option Value} {dp un : Nat} {outer : List Env} {base g : Heap} {L P W : Addr} {rest : List (Addr × Obj)} {Q : Flow → Shared → Prop} {R : Result → Shared → Prop} {fl : Int}
    (B : Below (A0 dp un (some []) outer) base outer g) (X : (hd.heap_39 w.params).In g) (Tp : Top hd.view_39 lo mean mg mb g) (hd1 : dp + 20 < recursionLimit) (hu : un + 50 < cLine)
    (hPW : P ≠ W) (hWP : W ≠ P) (hrP : ∀ p ∈ rest, p.1 ≠ P) (hrW : ∀ p ∈ rest, p.1 ≠ W) {ps' : List Tr} {ws' : List Wt} :
    ∀ (ws : List Wt) (ps : List Tr) (vs us : List Value) (n k : Nat) (m : Str → Option Value) (s : Shared), Fr g L s.heap m → News g L s.heap ((P, stk vs n) :: (W, stk us k) :: rest) → LbS m P W fl → PR vs ps → WR rest us ws → BOk ps ws → bnd fl ps ws = some (ps', ws') →
      (∀ vs' us' n' k' m' h' tk', Fr g L h' m' → News g L h' ((P, stk vs' n') :: (W, stk us' k') :: rest) → PR vs' ps' → WR rest us' ws' → BOk ps' ws' → Q .next { s with heap := h', toks := tk' }) →
      WhlRest PySem.Challenge.rw_fe0201_01.row.prog w ((A0 dp un (some []) outer).deeper (lbEnv sc L cdv)) (lbE w dp un outer sc L cdv R) (lbEnv sc L cdv) test body orelse Q 0 s := by
  intro ws
  induction ws with
  | nil =>
    intro ps vs us n k m s F N S hP hW hO hb hq
    cases hW
    simp only [bnd, Option.some.injEq, Prod.mk.injEq] at hb
    obtain ⟨rfl, rfl⟩ := hb
    refine lb_turn hast B F N (lb_test hast B F X N Tp S .nil hd1 hu fun h' tk' F' N' => ?_)
    exact WhlIf.no rfl (hq _ _ _ _ _ _ _ F' N' hP .nil hO)
  | cons x ws ih =>
    intro ps vs us n k m s F N S hP hW hO hb hq
    cases hW with
    | @cons e x t1 t2 t3 n2 us ws he hw =>
    refine lb_turn hast B F N (lb_test hast B F X N Tp S (.cons he hw) hd1 hu fun h' tk' F' N' => ?_)
    unfold bnd at hb
    by_cases hle : fl ≤ x.rank
    · rw [if_pos hle] at hb
      refine WhlIf.yes (decide_eq_true hle) ?_
      cases hbl : bld x ps with
      | none => rw [hbl] at hb; cases hb
      | some ps2 =>
        rw [hbl] at hb
        have hb : bnd fl ps2 ws = some (ps', ws') := hb
        have hO2 := hO.next hbl
        have hwd := hO.wd x (List.mem_cons_self ..)
        have hsz := hO.sz
        have hpl := psz_len ps
        have hul := hw.len
        have hvl := hP.len
        simp only [List.length_cons] at hsz
        cases hP with
        | nil => cases hbl
        | @cons t tk vs l hP =>
          have hlt := hO.len
          simp only [List.length_cons] at hpl hvl
          obtain ⟨rank, word, two⟩ := x
          cases two with
          | false =>
            simp only [bld, Bool.false_eq_true, if_false, Option.some.injEq] at hbl
            subst hbl
            refine lb_un hast B F' X N' Tp S hd1 hu he hPW hWP hrP hrW hlt hwd (by omega) (by omega) fun h2 tk2 m2 ty n' k' F2 S2 N2 => ?_
            rw [s_un] at N2
            exact ih _ _ _ _ _ _ _ F2 N2 S2 (.cons hP) hw hO2 hb hq
          | true =>
            cases l with
            | nil => cases hbl
            | cons a l =>
              cases hP with
              | @cons _ ta vs _ hP =>
              have hla : (sho a).length ≤ 3000 := by
                have h1 := sho_len (hO.ok a (List.mem_cons_of_mem _ (List.mem_cons_self ..)))
                have h2 := hO.sz
                simp only [psz] at h2
                omega
              simp only [bld, if_true, Option.some.injEq] at hbl
              simp only [List.length_cons] at hvl hpl
              unfold joinT at hbl
              by_cases he0 : word = wE
              · subst he0
                simp only [if_true] at hbl
                subst hbl
                refine lb_imp hast B F' X N' Tp S hd1 hu he hPW hWP hrP hrW hlt hla (by omega) (by omega) fun h2 tk2 m2 ty n' k' F2 S2 N2 => ?_
                rw [s_imp] at N2
                exact ih _ _ _ _ _ _ _ F2 N2 S2 (.cons hP) hw hO2 hb hq
              · simp only [he0, if_false] at hbl
                subst hbl
                refine lb_bin hast B F' X N' Tp S hd1 hu he hPW hWP hrP hrW hlt he0 hla hwd (by omega) (by omega) fun h2 tk2 m2 ty n' k' F2 S2 N2 => ?_
                rw [s_bin] at N2
                exact ih _ _ _ _ _ _ _ F2 N2 S2 (.cons hP) hw hO2 hb hq
    · rw [if_neg hle] at hb
      simp only [Option.some.injEq, Prod.mk.injEq] at hb
      obtain ⟨rfl, rfl⟩ := hb
      exact WhlIf.no (decide_eq_false hle) (hq _ _ _ _ _ _ _ F' N' hP (.cons he hw) hO)
theorem lb_call : ∀ {w : World} {mean : ExcName → Option Value} {mg mb : Str → Option Value} {dp un : Nat} {cn : Str} {cs : Scope} {a : Addr} {ccd : Value} {outer : List Env} {A₀ : Around} {base h₀ : Heap} {L P W : Addr} {m : Str → Option Value} {s : Shared} {Q E : Value → Shared → Prop} {rest : List (Addr × Obj)} {fl : Int} {tf : Tok}
    {ps ps' : List Tr} {ws ws' : List Wt} {vs us : List Value} {n k : Nat}
    (B : Below A₀ base outer h₀) (F : Fr h₀ L s.heap m) (X : (hd.heap_39 w.params).In h₀) (N : News h₀ L s.heap ((P, stk vs n) :: (W, stk us k) :: rest)) (T : Top hd.view_39 lo mean mg mb h₀) (hk : cs.kind = .function) (hd1 : dp + 25 < recursionLimit) (hu : un + 60 < cLine)
    (hPW : P ≠ W) (hWP : W ≠ P) (hrP : ∀ p ∈ rest, p.1 ≠ P) (hrW : ∀ p ∈ rest, p.1 ≠ W) (hP : PR vs ps) (hW : WR rest us ws) (hO : BOk ps ws) (hb : bnd fl ps ws = some (ps', ws'))
    (h : ∀ vs' us' n' k' h' tk', Fr h₀ L h' m → News h₀ L h' ((P, stk vs' n') :: (W, stk us' k') :: rest) → PR vs' ps' → WR rest us' ws' → BOk ps' ws' → Q .none { s with heap := h', toks := tk' }),
    wpAny (model PySem.Challenge.rw_fe0201_01.row.prog w) (AA dp un (some []) cn cs L a ccd outer) (call (.ref 268) [.ref P, .ref W, .int fl tf]) Q E s := by
  walk_at "my fill"
  intro w mean mg mb dp un cn cs a ccd outer A₀ base h₀ L P W m s Q E rest fl tf ps ps' ws ws' vs us n k B F X N T hk hd1 hu hPW hWP hrP hrW hP hW hO hb h
  refine wpAny_call ?_
  k_dflt (walk_at "my enter")
  k_steps
  show WhlRest _ _ _ _ _ _ _ _ _ _ _
  k_dflt refine' lb_loop (sc := _) (dp := dp) (un := un) (outer := envOf cn cs L a ccd :: outer) (R := fun r s' => match r with | .ok (.ret v) => Q v s' | .ok _ => False | .error e => E e s') ?ast ?B ?X ?T ?h1 ?h2 hPW hWP hrP hrW ws ps vs us n k _ _ ?F ?N ?S hP hW hO hb ?q
  case ast => exact rfl
  case B => assumption
  case X => assumption
  case T => assumption
  case h1 => omega
  case h2 => omega
  case F => k_asm
  case N => k_asm
  case S => exact ⟨rfl, rfl, ⟨_, rfl⟩⟩
  case q =>
    intro vs' us' n' k' m' h' tk' F' N' P' W' O'
    dsimp only
    k_steps
    exact h _ _ _ _ _ _ (by k_asm) (by k_asm) P' W' O'
def KW (k : Int) (w : Wd) : Tk → Prop
  | .opn => k = 54 ∧ w = Str.ofString "("
  | .cls => k = 54 ∧ w = Str.ofString ")"
  | .sign x => k = 54 ∧ w = x ∧ x ≠ Str.ofString "(" ∧ x ≠ Str.ofString ")" ∧ x.length ≤ 10
  | .atom x => (k = 1 ∨ k = 2) ∧ w = x ∧ x.length ≤ 10
  | .skip => k = 3 ∨ k = 4
  | .eof => k = 0
def for1 : Option Obj → Option (Scope × Value × PySem.Expr × List Stmt)
  | some ⟨_, _, .func fd, _⟩ => match fd.body with
    | .stmts [_, .For t _ b _ _, _] => some (fd.scope, fd.code, t, b)
    | _ => none
  | _ => none
def LrAst (w : World) (sc : Scope) (cdv : Value) (target : PySem.Expr) (body : List Stmt) : Prop := for1 ((hd.heap_39 w.params).lookup 275) = some (sc, cdv, target, body)
theorem lr_use {x : Option Obj} {o : Obj} {y : Option (Scope × Value × PySem.Expr × List Stmt)} {P : Prop} (e : x = some o) (h : for1 x = y) (k : for1 (some o) = y → P) : P := k (e ▸ h)
local macro_rules | `(tactic| walk_at "lr ast") => `(tactic| (refine' lr_use ?e (by assumption) ?kk; (case e => k_dflt k_is); intro hast2; (dsimp only [for1] at hast2); (simp only [Option.some.injEq, Prod.mk.injEq] at hast2); obtain ⟨a1, a2, a3, a4⟩ := hast2; subst a1 a2 a3 a4))
theorem tab5 {m : Str → Option Value} {x1 x2 x3 x4 x5 : Str} {v1 v2 v3 v4 v5 : Value} (h1 : m x1 = some v1) (h2 : m x2 = some v2) (h3 : m x3 = some v3) (h4 : m x4 = some v4) (h5 : m x5 = some v5) :
    m = (fun y => if y = x1 then some v1 else if y = x2 then some v2 else if y = x3 then some v3 else if y = x4 then some v4 else if y = x5 then some v5 else m y) := by
  funext y
  repeat' split
  all_goals first | rfl | (rename_i e; subst e; assumption)
structure LrS (m : Str → Option Value) (H D : Addr) (ready : Bool) : Prop where
  mH : m (Str.ofString "heaps") = some (.ref H)
  mR : m (Str.ofString "ready") = some (.bool ready)
  mD : m (Str.ofString "ranks") = some (.ref D)
abbrev grpO (P W : Addr) (j : Bool) (n : Nat) : Obj := { cls := .type "tuple", data := .seq #[.ref P, .ref W, .bool j] n }
abbrev lrEnv (sc : Scope) (L : Addr) (cdv : Value) : Env := envOf (Str.ofString "_law_read") sc L 275 cdv
/-- what the top of the heaps is, in the ledger -/
structure TopG (tl : List (Addr × Obj)) (H G P W : Addr) (j : Bool) : Prop where
  hG : ∃ n, (G, grpO P W j n) ∈ tl
  hHP : H ≠ P
  hPH : P ≠ H
  hHW : H ≠ W
  hWH : W ≠ H
  hPW : P ≠ W
  hWP : W ≠ P
  tH : ∀ p ∈ tl, p.1 ≠ H
  tP : ∀ p ∈ tl, p.1 ≠ P
  tW : ∀ p ∈ tl, p.1 ≠ W
abbrev led (H G P W : Addr) (hv vs us : List Value) (nH n k : Nat) (tl : List (Addr × Obj)) : List (Addr × Obj) := (H, stk (.ref G :: hv) nH) :: (P, stk vs n) :: (W, stk us k) :: tl
theorem stk_len {prog : Program} {w : World} {A : Around} {E : Value → Shared → Prop} {s : Shared} {h₀ : Heap} {L P : Addr} {nw : List (Addr × Obj)} {vs : List Value} {n M : Nat} {Q : Value → Shared → Prop} (N : News h₀ L s.heap nw) (hm : (P, stk vs n) ∈ nw) (e : vs.length = M) (hz : M ≤ 1000)
    (h : ∀ t, Q (.int (M : Int) t) { s with toks := s.toks + 1 + 1 }) : wpAny (model prog w) A (call (.builtin "len") [.ref P]) Q E s := by
  refine len_list (stk_list N hm) (by simp; omega) ?_
  have := h (s.toks + 1)
  subst e
  simpa using this
local macro_rules | `(tactic| walk_at "call builtin:len") => `(tactic| (k_here; k_dflt (refine' stk_len ?N ?hm ?e ?z ?_; (case N => k_asm); (case hm => k_mem); (case e => ((try simp only [List.length_cons, List.length_nil]); exact rfl)); (case z => omega); intro _)))
local macro_rules | `(tactic| walk_at "compareOp NotIn str ref") => `(tactic| (k_here; k_dflt (refine' kdp_notin ?T ?_; (case T => walk_at "my tab"))))
local macro_rules | `(tactic| walk_at "my ne") => `(tactic| first | assumption | k_ne)
local macro_rules | `(tactic| walk_at "my all") => `(tactic| first | assumption | exact List.forall_mem_nil _ | (refine List.forall_mem_cons.mpr ⟨?a, ?b⟩; (case a => walk_at "my ne"); (case b => walk_at "my all")))
local macro_rules | `(tactic| walk_at "my upd") => `(tactic| first | (refine' Upd.head ?a; (case a => walk_at "my all")) | (refine' Upd.tail ?a ?b; (case a => walk_at "my ne"); (case b => walk_at "my upd")))
local macro_rules | `(tactic| walk_at "my perm") => `(tactic| (intro p h; (simp only [List.mem_cons] at h ⊢); (repeat (rcases h with h | h; · simp [h])); simp [h]))
theorem perm4 {x a b c : Addr × Obj} {tl : List (Addr × Obj)} : ∀ p ∈ a :: b :: c :: x :: tl, p ∈ x :: a :: b :: c :: tl := by walk_at "my perm"
theorem perm5 {x y a b c : Addr × Obj} {tl : List (Addr × Obj)} : ∀ p ∈ a :: b :: c :: x :: tl, p ∈ x :: y :: a :: b :: c :: tl := by walk_at "my perm"
theorem perm6 {a b c d e f : Addr × Obj} {tl : List (Addr × Obj)} : ∀ p ∈ a :: b :: c :: d :: e :: f :: tl, p ∈ f :: c :: b :: a :: d :: e :: tl := by walk_at "my perm"
theorem WR.strip {H : Addr} {v : List Value} {n : Nat} {tl : List (Addr × Obj)} {us : List Value} {ws : List Wt} (h : WR ((H, stk v n) :: tl) us ws) : WR tl us ws := by
  induction h with
  | nil => exact .nil
  | @cons e x t1 t2 t3 n2 us ws a _ i =>
    refine WR.cons (x := x) (t1 := t1) (t2 := t2) (t3 := t3) (n := n2) ?_ i
    rcases List.mem_cons.mp a with e | e
    · have := congrArg (fun p : Addr × Obj => p.2.cls) e
      exact absurd this (by simp)
    · exact e
theorem permA {a b c : Addr × Obj} {tl : List (Addr × Obj)} : ∀ p ∈ b :: c :: a :: tl, p ∈ a :: b :: c :: tl := by walk_at "my perm"
theorem permB {a b c : Addr × Obj} {tl : List (Addr × Obj)} : ∀ p ∈ a :: b :: c :: tl, p ∈ b :: c :: a :: tl := by walk_at "my perm"
theorem lb_led {w : World} {mean : ExcName → Option Value} {mg mb : Str → Option Value} {dp un : Nat} {cn : Str} {cs : Scope} {a : Addr} {ccd : Value} {outer : List Env} {A₀ : Around} {base h₀ : Heap} {L H G P W : Addr} {m : Str → Option Value} {s : Shared} {Q E : Value → Shared → Prop} {tl : List (Addr × Obj)} {fl : Int} {tf : Tok} {j : Bool}
    {ps ps' : List Tr} {ws ws' : List Wt} {hv vs us : List Value} {nH n k : Nat}
    (N : News h₀ L s.heap (led H G P W hv vs us nH n k tl)) (TG : TopG tl H G P W j) (hP : PR vs ps) (hW : WR tl us ws) (hO : BOk ps ws) (hb : bnd fl ps ws = some (ps', ws'))
    (B : Below A₀ base outer h₀) (F : Fr h₀ L s.heap m) (X : (hd.heap_39 w.params).In h₀) (T : Top hd.view_39 lo mean mg mb h₀) (hk : cs.kind = .function) (hd1 : dp + 25 < recursionLimit) (hu : un + 60 < cLine)
    (h : ∀ vs' us' n' k' h' tk', Fr h₀ L h' m → News h₀ L h' (led H G P W hv vs' us' nH n' k' tl) → PR vs' ps' → WR tl us' ws' → BOk ps' ws' → Q .none { s with heap := h', toks := tk' }) :
    wpAny (model PySem.Challenge.rw_fe0201_01.row.prog w) (AA dp un (some []) cn cs L a ccd outer) (call (.ref 268) [.ref P, .ref W, .int fl tf]) Q E s := by
  obtain ⟨⟨gn, hG⟩, d1, d2, d3, d4, d5, d6, d7, d8, d9⟩ := id TG
  refine lb_call (rest := (H, stk (.ref G :: hv) nH) :: tl) B F X (News.sub N permA) T hk hd1 hu d5 d6 (List.forall_mem_cons.mpr ⟨d1, d8⟩) (List.forall_mem_cons.mpr ⟨d3, d9⟩) hP (hW.mono fun _ h => List.mem_cons_of_mem _ h) hO hb fun vs' us' n' k' h' tk' F' N' P' W' O' => ?_
  exact h _ _ _ _ _ _ F' (News.sub N' permB) P' W'.strip O'
theorem stk_item0 {prog : Program} {w : World} {A : Around} {E : Value → Shared → Prop} {s : Shared} {h₀ : Heap} {L P : Addr} {nw : List (Addr × Obj)} {v : Value} {n : Nat} {value slice : PySem.Expr} {u : Tok} {Q : Value → Shared → Prop} (N : News h₀ L s.heap nw) (hm : (P, stk [v] n) ∈ nw) (h : Q v s)
    (hs : subscripted slice false (.ref P) (.int 0 u) = operate [.ref P, .int 0 u] (getItem (.ref P) (.int 0 u)) := by with_unfolding_all rfl) :
    wpAny (model prog w) A (subscriptTail value slice (.ref P) (.int 0 u)) Q E s := by
  have hl := stk_list N hm
  exact tail_any hl.typeIs slot_list_getitem.lookup (wpAny_getItem_list (x := v) hl (by decide) (by decide) (by simp) h) hs
theorem PR.one {vs : List Value} {t : Tr} (h : PR vs [t]) : ∃ tk, vs = [.str (sho t) tk] := by
  cases h with
  | cons h => cases h; exact ⟨_, rfl⟩
local macro_rules | `(tactic| walk_at "subscriptTail") => `(tactic| (k_here; (with_reducible show wpAny _ _ (subscriptTail _ _ (Value.ref _) (Value.int 0 _)) _ _ _); (refine' stk_item0 ?N ?hm ?_; (case N => k_asm); (case hm => first | assumption | (exact List.mem_cons_self ..) | (exact List.mem_cons_of_mem _ (List.mem_cons_self ..)) | (exact List.mem_cons_of_mem _ (List.mem_cons_of_mem _ (List.mem_cons_self ..)))))))
theorem permC {a b c d e : Addr × Obj} {tl : List (Addr × Obj)} : ∀ p ∈ a :: d :: e :: tl, p ∈ a :: b :: c :: d :: e :: tl := by walk_at "my perm"
theorem s_imp2 (a t : Tr) : Str.ofString "(" ++ sho a ++ Str.ofString " " ++ sho t ++ Str.ofString ")" = sho (.imp a t) := by
  apply str_ext
  simp only [sho, par, PySem.Str.cps_append, glu_cps2, Array.append_assoc]
theorem r_skip : ∀ {w : World} {sc : Scope} {cdv : Value} {target : PySem.Expr} {body : List Stmt} (hast : LrAst w sc cdv target body)
    {mean : ExcName → Option Value} {mg mb : Str → Option Value} {dp un : Nat} {outer : List Env} {base g : Heap} {L : Addr} {m : Str → Option Value} {s : Shared} {Qb : Flow → Shared → Prop} {E : Value → Shared → Prop}
    {H G P W D : Addr} {hv vs us : List Value} {nH n k : Nat} {tl : List (Addr × Obj)} {j ready : Bool} {kd : Int} {wd : Wd} {tk1 tk2 : Tok} {c : List (Str × Int)} {q : Int} {ps : List Tr} {ws : List Wt} 
    (B : Below (A0 dp un (some []) outer) base outer g) (F : Fr g L s.heap m) (X : (hd.heap_39 w.params).In g) (N : News g L s.heap (led H G P W hv vs us nH n k tl)) (Tp : Top hd.view_39 lo mean mg mb g) (S : LrS m H D ready) (hd1 : dp + 60 < recursionLimit) (hu : un + 120 < cLine)
    (mK : m (Str.ofString "kind") = some (.int kd tk1)) (mW : m (Str.ofString "word") = some (.str wd tk2)) (hK : KW kd wd .skip) (TG : TopG tl H G P W j) (dk : DictOk w tl D c) (hP : PR vs ps) (hW : WR tl us ws) (hO : BOk ps ws) (hvl : hv.length ≤ 50) 
    (hn : ∀ h' tk' m', Fr g L h' m' → LrS m' H D ready → News g L h' (led H G P W hv vs us nH n k tl) → Qb .next { s with heap := h', toks := tk' }),
    wpAny (model PySem.Challenge.rw_fe0201_01.row.prog w) ((A0 dp un (some []) outer).deeper (lrEnv sc L cdv)) (execs body (lrEnv sc L cdv)) Qb E s := by
  walk_at "my fill"
  intro w sc cdv target body hast mean mg mb dp un outer base g L m s Qb E H G P W D hv vs us nH n k tl j ready kd wd tk1 tk2 c q ps ws  B F X N Tp S hd1 hu mK mW hK TG dk hP hW hO hvl  hn
  walk_at "lr ast"
  obtain ⟨mH, mR, mD⟩ := id S
  have em := tab5 mH mR mD mK mW
  rw [em] at F
  obtain ⟨⟨gn, hG⟩, d1, d2, d3, d4, d5, d6, d7, d8, d9⟩ := id TG
  have hul := hW.len
  have hvl2 := hP.len
  have hsz := hO.sz
  have hpl := psz_len ps

  show wpAny _ _ (execs (_ :: _) _) _ _ _
  rcases hK with rfl | rfl
  all_goals
    k_steps
    skip
    exact hn _ _ _ (by k_asm) ⟨rfl, rfl, rfl⟩ (News.sub (by k_asm) (fun p h => List.mem_cons_of_mem _ h))

theorem r_eof_1 : ∀ {w : World} {sc : Scope} {cdv : Value} {target : PySem.Expr} {body : List Stmt} (hast : LrAst w sc cdv target body)
    {mean : ExcName → Option Value} {mg mb : Str → Option Value} {dp un : Nat} {outer : List Env} {base g : Heap} {L : Addr} {m : Str → Option Value} {s : Shared} {Qb : Flow → Shared → Prop} {E : Value → Shared → Prop}
    {H G P W D : Addr} {hv vs us : List Value} {nH n k : Nat} {tl : List (Addr × Obj)} {j ready : Bool} {kd : Int} {wd : Wd} {tk1 tk2 : Tok} {c : List (Str × Int)} {q : Int} {ps : List Tr} {ws : List Wt} 
    (B : Below (A0 dp un (some []) outer) base outer g) (F : Fr g L s.heap m) (X : (hd.heap_39 w.params).In g) (N : News g L s.heap (led H G P W hv vs us nH n k tl)) (Tp : Top hd.view_39 lo mean mg mb g) (S : LrS m H D ready) (hd1 : dp + 60 < recursionLimit) (hu : un + 120 < cLine)
    (mK : m (Str.ofString "kind") = some (.int kd tk1)) (mW : m (Str.ofString "word") = some (.str wd tk2)) (hK : KW kd wd .eof) (TG : TopG tl H G P W j) (dk : DictOk w tl D c) (hP : PR vs ps) (hW : WR tl us ws) (hO : BOk ps ws) (hvl : hv.length ≤ 50) (h1 : hv ≠ [])
    (hr : ∀ ty h' tk' m', Fr g L h' m' → News g L h' tl → Qb (.ret (.str (Str.ofString "syntax") ty)) { s with heap := h', toks := tk' }),
    wpAny (model PySem.Challenge.rw_fe0201_01.row.prog w) ((A0 dp un (some []) outer).deeper (lrEnv sc L cdv)) (execs body (lrEnv sc L cdv)) Qb E s := by
  walk_at "my fill"
  intro w sc cdv target body hast mean mg mb dp un outer base g L m s Qb E H G P W D hv vs us nH n k tl j ready kd wd tk1 tk2 c q ps ws  B F X N Tp S hd1 hu mK mW hK TG dk hP hW hO hvl h1 hr
  walk_at "lr ast"
  obtain ⟨mH, mR, mD⟩ := id S
  have em := tab5 mH mR mD mK mW
  rw [em] at F
  obtain ⟨⟨gn, hG⟩, d1, d2, d3, d4, d5, d6, d7, d8, d9⟩ := id TG
  have hul := hW.len
  have hvl2 := hP.len
  have hsz := hO.sz
  have hpl := psz_len ps
  have hk : kd = 0 := hK
  subst hk
  obtain ⟨v0, hv0, rfl⟩ : ∃ a b, hv = a :: b := by cases hv with | nil => exact absurd rfl h1 | cons a b => exact ⟨_, _, rfl⟩
  simp only [List.length_cons] at hvl
  show wpAny _ _ (execs (_ :: _) _) _ _ _
  k_steps
  skip
  all_goals exact hr _ _ _ _ (by k_asm) (News.sub (by k_asm) (by intro p h; simp [h]))

theorem r_eof_2 : ∀ {w : World} {sc : Scope} {cdv : Value} {target : PySem.Expr} {body : List Stmt} (hast : LrAst w sc cdv target body)
    {mean : ExcName → Option Value} {mg mb : Str → Option Value} {dp un : Nat} {outer : List Env} {base g : Heap} {L : Addr} {m : Str → Option Value} {s : Shared} {Qb : Flow → Shared → Prop} {E : Value → Shared → Prop}
    {H G P W D : Addr} {hv vs us : List Value} {nH n k : Nat} {tl : List (Addr × Obj)} {j ready : Bool} {kd : Int} {wd : Wd} {tk1 tk2 : Tok} {c : List (Str × Int)} {q : Int} {ps : List Tr} {ws : List Wt} 
    (B : Below (A0 dp un (some []) outer) base outer g) (F : Fr g L s.heap m) (X : (hd.heap_39 w.params).In g) (N : News g L s.heap (led H G P W hv vs us nH n k tl)) (Tp : Top hd.view_39 lo mean mg mb g) (S : LrS m H D ready) (hd1 : dp + 60 < recursionLimit) (hu : un + 120 < cLine)
    (mK : m (Str.ofString "kind") = some (.int kd tk1)) (mW : m (Str.ofString "word") = some (.str wd tk2)) (hK : KW kd wd .eof) (TG : TopG tl H G P W j) (dk : DictOk w tl D c) (hP : PR vs ps) (hW : WR tl us ws) (hO : BOk ps ws) (hvl : hv.length ≤ 50) (h1 : hv = []) (hb : ready = false)
    (hr : ∀ ty h' tk' m', Fr g L h' m' → News g L h' tl → Qb (.ret (.str (Str.ofString "syntax") ty)) { s with heap := h', toks := tk' }),
    wpAny (model PySem.Challenge.rw_fe0201_01.row.prog w) ((A0 dp un (some []) outer).deeper (lrEnv sc L cdv)) (execs body (lrEnv sc L cdv)) Qb E s := by
  walk_at "my fill"
  intro w sc cdv target body hast mean mg mb dp un outer base g L m s Qb E H G P W D hv vs us nH n k tl j ready kd wd tk1 tk2 c q ps ws  B F X N Tp S hd1 hu mK mW hK TG dk hP hW hO hvl h1 hb hr
  walk_at "lr ast"
  obtain ⟨mH, mR, mD⟩ := id S
  have em := tab5 mH mR mD mK mW
  rw [em] at F
  obtain ⟨⟨gn, hG⟩, d1, d2, d3, d4, d5, d6, d7, d8, d9⟩ := id TG
  have hul := hW.len
  have hvl2 := hP.len
  have hsz := hO.sz
  have hpl := psz_len ps
  have hk : kd = 0 := hK
  subst hk
  subst h1
  subst hb
  show wpAny _ _ (execs (_ :: _) _) _ _ _
  k_steps
  skip
  all_goals exact hr _ _ _ _ (by k_asm) (News.sub (by k_asm) (by intro p h; simp [h]))

theorem r_eof_3 : ∀ {w : World} {sc : Scope} {cdv : Value} {target : PySem.Expr} {body : List Stmt} (hast : LrAst w sc cdv target body)
    {mean : ExcName → Option Value} {mg mb : Str → Option Value} {dp un : Nat} {outer : List Env} {base g : Heap} {L : Addr} {m : Str → Option Value} {s : Shared} {Qb : Flow → Shared → Prop} {E : Value → Shared → Prop}
    {H G P W D : Addr} {hv vs us : List Value} {nH n k : Nat} {tl : List (Addr × Obj)} {j ready : Bool} {kd : Int} {wd : Wd} {tk1 tk2 : Tok} {c : List (Str × Int)} {q : Int} {ps : List Tr} {ws : List Wt} {t : Tr} {ws' : List Wt}
    (B : Below (A0 dp un (some []) outer) base outer g) (F : Fr g L s.heap m) (X : (hd.heap_39 w.params).In g) (N : News g L s.heap (led H G P W hv vs us nH n k tl)) (Tp : Top hd.view_39 lo mean mg mb g) (S : LrS m H D ready) (hd1 : dp + 60 < recursionLimit) (hu : un + 120 < cLine)
    (mK : m (Str.ofString "kind") = some (.int kd tk1)) (mW : m (Str.ofString "word") = some (.str wd tk2)) (hK : KW kd wd .eof) (TG : TopG tl H G P W j) (dk : DictOk w tl D c) (hP : PR vs ps) (hW : WR tl us ws) (hO : BOk ps ws) (hvl : hv.length ≤ 50) (h1 : hv = []) (hb : ready = true) (hbn : bnd (-1) ps ws = some ([t], ws'))
    (hr : ∀ ty h' tk' m', Fr g L h' m' → News g L h' tl → Qb (.ret (.str (sho t) ty)) { s with heap := h', toks := tk' }),
    wpAny (model PySem.Challenge.rw_fe0201_01.row.prog w) ((A0 dp un (some []) outer).deeper (lrEnv sc L cdv)) (execs body (lrEnv sc L cdv)) Qb E s := by
  walk_at "my fill"
  intro w sc cdv target body hast mean mg mb dp un outer base g L m s Qb E H G P W D hv vs us nH n k tl j ready kd wd tk1 tk2 c q ps ws t ws' B F X N Tp S hd1 hu mK mW hK TG dk hP hW hO hvl h1 hb hbn hr
  walk_at "lr ast"
  obtain ⟨mH, mR, mD⟩ := id S
  have em := tab5 mH mR mD mK mW
  rw [em] at F
  obtain ⟨⟨gn, hG⟩, d1, d2, d3, d4, d5, d6, d7, d8, d9⟩ := id TG
  have hul := hW.len
  have hvl2 := hP.len
  have hsz := hO.sz
  have hpl := psz_len ps
  have hk : kd = 0 := hK
  subst hk
  subst h1
  subst hb
  obtain ⟨ps', hps⟩ : ∃ q, q = [t] := ⟨_, rfl⟩
  rw [← hps] at hbn
  show wpAny _ _ (execs (_ :: _) _) _ _ _
  k_steps
  refine' lb_led (H := H) (G := G) (P := P) (W := W) (hv := []) (tl := tl) (News.sub (by k_asm) (fun _ h => h)) TG hP hW hO hbn ?B ?F ?X ?T ?hk ?h1 ?h2 ?h
  case B => k_asm
  case F => k_asm
  case X => k_asm
  case T => k_asm
  case hk => rfl
  case h1 => (show dp + 1 + _ < _); omega
  case h2 => (show un + _ + _ < _); omega
  case h =>
    intro vs' us' n' k' h' tk' F' N' P' W' O'
    have hul' := W'.len
    have hvl' := P'.len
    have hsz' := O'.sz
    have hpl' := psz_len ps'
    subst hps
    obtain ⟨tkp, rfl⟩ := P'.one
    k_steps
    skip
    exact hr _ _ _ _ (by k_asm) (News.sub (by k_asm) (by intro p h; simp [h]))
theorem r_cls_idle1 : ∀ {w : World} {sc : Scope} {cdv : Value} {target : PySem.Expr} {body : List Stmt} (hast : LrAst w sc cdv target body)
    {mean : ExcName → Option Value} {mg mb : Str → Option Value} {dp un : Nat} {outer : List Env} {base g : Heap} {L : Addr} {m : Str → Option Value} {s : Shared} {Qb : Flow → Shared → Prop} {E : Value → Shared → Prop}
    {H G P W D : Addr} {hv vs us : List Value} {nH n k : Nat} {tl : List (Addr × Obj)} {j ready : Bool} {kd : Int} {wd : Wd} {tk1 tk2 : Tok} {c : List (Str × Int)} {q : Int} {ps : List Tr} {ws : List Wt} 
    (B : Below (A0 dp un (some []) outer) base outer g) (F : Fr g L s.heap m) (X : (hd.heap_39 w.params).In g) (N : News g L s.heap (led H G P W hv vs us nH n k tl)) (Tp : Top hd.view_39 lo mean mg mb g) (S : LrS m H D ready) (hd1 : dp + 60 < recursionLimit) (hu : un + 120 < cLine)
    (mK : m (Str.ofString "kind") = some (.int kd tk1)) (mW : m (Str.ofString "word") = some (.str wd tk2)) (hK : KW kd wd .cls) (TG : TopG tl H G P W j) (dk : DictOk w tl D c) (hP : PR vs ps) (hW : WR tl us ws) (hO : BOk ps ws) (hvl : hv.length ≤ 50) (h1 : hv ≠ []) (hb : ready = false)
    (hr : ∀ ty h' tk' m', Fr g L h' m' → News g L h' tl → Qb (.ret (.str (Str.ofString "idle") ty)) { s with heap := h', toks := tk' }),
    wpAny (model PySem.Challenge.rw_fe0201_01.row.prog w) ((A0 dp un (some []) outer).deeper (lrEnv sc L cdv)) (execs body (lrEnv sc L cdv)) Qb E s := by
  walk_at "my fill"
  intro w sc cdv target body hast mean mg mb dp un outer base g L m s Qb E H G P W D hv vs us nH n k tl j ready kd wd tk1 tk2 c q ps ws  B F X N Tp S hd1 hu mK mW hK TG dk hP hW hO hvl h1 hb hr
  walk_at "lr ast"
  obtain ⟨mH, mR, mD⟩ := id S
  have em := tab5 mH mR mD mK mW
  rw [em] at F
  obtain ⟨⟨gn, hG⟩, d1, d2, d3, d4, d5, d6, d7, d8, d9⟩ := id TG
  have hul := hW.len
  have hvl2 := hP.len
  have hsz := hO.sz
  have hpl := psz_len ps
  obtain ⟨hk1, hk2⟩ := hK
  subst hk1 hk2
  obtain ⟨v0, hv0, rfl⟩ : ∃ a b, hv = a :: b := by cases hv with | nil => exact absurd rfl h1 | cons a b => exact ⟨_, _, rfl⟩
  simp only [List.length_cons] at hvl
  subst hb
  show wpAny _ _ (execs (_ :: _) _) _ _ _
  k_steps
  skip
  all_goals exact hr _ _ _ _ (by k_asm) (News.sub (by k_asm) (by intro p h; simp [h]))

theorem r_cls_idle2 : ∀ {w : World} {sc : Scope} {cdv : Value} {target : PySem.Expr} {body : List Stmt} (hast : LrAst w sc cdv target body)
    {mean : ExcName → Option Value} {mg mb : Str → Option Value} {dp un : Nat} {outer : List Env} {base g : Heap} {L : Addr} {m : Str → Option Value} {s : Shared} {Qb : Flow → Shared → Prop} {E : Value → Shared → Prop}
    {H G P W D : Addr} {hv vs us : List Value} {nH n k : Nat} {tl : List (Addr × Obj)} {j ready : Bool} {kd : Int} {wd : Wd} {tk1 tk2 : Tok} {c : List (Str × Int)} {q : Int} {ps : List Tr} {ws : List Wt} 
    (B : Below (A0 dp un (some []) outer) base outer g) (F : Fr g L s.heap m) (X : (hd.heap_39 w.params).In g) (N : News g L s.heap (led H G P W hv vs us nH n k tl)) (Tp : Top hd.view_39 lo mean mg mb g) (S : LrS m H D ready) (hd1 : dp + 60 < recursionLimit) (hu : un + 120 < cLine)
    (mK : m (Str.ofString "kind") = some (.int kd tk1)) (mW : m (Str.ofString "word") = some (.str wd tk2)) (hK : KW kd wd .cls) (TG : TopG tl H G P W j) (dk : DictOk w tl D c) (hP : PR vs ps) (hW : WR tl us ws) (hO : BOk ps ws) (hvl : hv.length ≤ 50) (h1 : hv = []) (h2 : ws ≠ []) (hb : ready = false)
    (hr : ∀ ty h' tk' m', Fr g L h' m' → News g L h' tl → Qb (.ret (.str (Str.ofString "idle") ty)) { s with heap := h', toks := tk' }),
    wpAny (model PySem.Challenge.rw_fe0201_01.row.prog w) ((A0 dp un (some []) outer).deeper (lrEnv sc L cdv)) (execs body (lrEnv sc L cdv)) Qb E s := by
  walk_at "my fill"
  intro w sc cdv target body hast mean mg mb dp un outer base g L m s Qb E H G P W D hv vs us nH n k tl j ready kd wd tk1 tk2 c q ps ws  B F X N Tp S hd1 hu mK mW hK TG dk hP hW hO hvl h1 h2 hb hr
  walk_at "lr ast"
  obtain ⟨mH, mR, mD⟩ := id S
  have em := tab5 mH mR mD mK mW
  rw [em] at F
  obtain ⟨⟨gn, hG⟩, d1, d2, d3, d4, d5, d6, d7, d8, d9⟩ := id TG
  have hul := hW.len
  have hvl2 := hP.len
  have hsz := hO.sz
  have hpl := psz_len ps
  obtain ⟨hk1, hk2⟩ := hK
  subst hk1 hk2
  subst h1
  subst hb
  obtain ⟨x0, ws0, rfl⟩ : ∃ a b, ws = a :: b := by cases ws with | nil => exact absurd rfl h2 | cons a b => exact ⟨_, _, rfl⟩
  cases hW with
  | @cons e x t1 t2 t3 n2 us ws he hw =>
  show wpAny _ _ (execs (_ :: _) _) _ _ _
  k_steps
  skip
  all_goals exact hr _ _ _ _ (by k_asm) (News.sub (by k_asm) (by intro p h; simp [h]))

theorem r_cls_syn1 : ∀ {w : World} {sc : Scope} {cdv : Value} {target : PySem.Expr} {body : List Stmt} (hast : LrAst w sc cdv target body)
    {mean : ExcName → Option Value} {mg mb : Str → Option Value} {dp un : Nat} {outer : List Env} {base g : Heap} {L : Addr} {m : Str → Option Value} {s : Shared} {Qb : Flow → Shared → Prop} {E : Value → Shared → Prop}
    {H G P W D : Addr} {hv vs us : List Value} {nH n k : Nat} {tl : List (Addr × Obj)} {j ready : Bool} {kd : Int} {wd : Wd} {tk1 tk2 : Tok} {c : List (Str × Int)} {q : Int} {ps : List Tr} {ws : List Wt} 
    (B : Below (A0 dp un (some []) outer) base outer g) (F : Fr g L s.heap m) (X : (hd.heap_39 w.params).In g) (N : News g L s.heap (led H G P W hv vs us nH n k tl)) (Tp : Top hd.view_39 lo mean mg mb g) (S : LrS m H D ready) (hd1 : dp + 60 < recursionLimit) (hu : un + 120 < cLine)
    (mK : m (Str.ofString "kind") = some (.int kd tk1)) (mW : m (Str.ofString "word") = some (.str wd tk2)) (hK : KW kd wd .cls) (TG : TopG tl H G P W j) (dk : DictOk w tl D c) (hP : PR vs ps) (hW : WR tl us ws) (hO : BOk ps ws) (hvl : hv.length ≤ 50) (h1 : hv = []) (hb : ready = true)
    (hr : ∀ ty h' tk' m', Fr g L h' m' → News g L h' tl → Qb (.ret (.str (Str.ofString "syntax") ty)) { s with heap := h', toks := tk' }),
    wpAny (model PySem.Challenge.rw_fe0201_01.row.prog w) ((A0 dp un (some []) outer).deeper (lrEnv sc L cdv)) (execs body (lrEnv sc L cdv)) Qb E s := by
  walk_at "my fill"
  intro w sc cdv target body hast mean mg mb dp un outer base g L m s Qb E H G P W D hv vs us nH n k tl j ready kd wd tk1 tk2 c q ps ws  B F X N Tp S hd1 hu mK mW hK TG dk hP hW hO hvl h1 hb hr
  walk_at "lr ast"
  obtain ⟨mH, mR, mD⟩ := id S
  have em := tab5 mH mR mD mK mW
  rw [em] at F
  obtain ⟨⟨gn, hG⟩, d1, d2, d3, d4, d5, d6, d7, d8, d9⟩ := id TG
  have hul := hW.len
  have hvl2 := hP.len
  have hsz := hO.sz
  have hpl := psz_len ps
  obtain ⟨hk1, hk2⟩ := hK
  subst hk1 hk2
  subst h1
  subst hb
  show wpAny _ _ (execs (_ :: _) _) _ _ _
  k_steps
  skip
  all_goals exact hr _ _ _ _ (by k_asm) (News.sub (by k_asm) (by intro p h; simp [h]))

theorem r_cls_syn2 : ∀ {w : World} {sc : Scope} {cdv : Value} {target : PySem.Expr} {body : List Stmt} (hast : LrAst w sc cdv target body)
    {mean : ExcName → Option Value} {mg mb : Str → Option Value} {dp un : Nat} {outer : List Env} {base g : Heap} {L : Addr} {m : Str → Option Value} {s : Shared} {Qb : Flow → Shared → Prop} {E : Value → Shared → Prop}
    {H G P W D : Addr} {hv vs us : List Value} {nH n k : Nat} {tl : List (Addr × Obj)} {j ready : Bool} {kd : Int} {wd : Wd} {tk1 tk2 : Tok} {c : List (Str × Int)} {q : Int} {ps : List Tr} {ws : List Wt} 
    (B : Below (A0 dp un (some []) outer) base outer g) (F : Fr g L s.heap m) (X : (hd.heap_39 w.params).In g) (N : News g L s.heap (led H G P W hv vs us nH n k tl)) (Tp : Top hd.view_39 lo mean mg mb g) (S : LrS m H D ready) (hd1 : dp + 60 < recursionLimit) (hu : un + 120 < cLine)
    (mK : m (Str.ofString "kind") = some (.int kd tk1)) (mW : m (Str.ofString "word") = some (.str wd tk2)) (hK : KW kd wd .cls) (TG : TopG tl H G P W j) (dk : DictOk w tl D c) (hP : PR vs ps) (hW : WR tl us ws) (hO : BOk ps ws) (hvl : hv.length ≤ 50) (h1 : hv = []) (h2 : ws = []) (hb : ready = false)
    (hr : ∀ ty h' tk' m', Fr g L h' m' → News g L h' tl → Qb (.ret (.str (Str.ofString "syntax") ty)) { s with heap := h', toks := tk' }),
    wpAny (model PySem.Challenge.rw_fe0201_01.row.prog w) ((A0 dp un (some []) outer).deeper (lrEnv sc L cdv)) (execs body (lrEnv sc L cdv)) Qb E s := by
  walk_at "my fill"
  intro w sc cdv target body hast mean mg mb dp un outer base g L m s Qb E H G P W D hv vs us nH n k tl j ready kd wd tk1 tk2 c q ps ws  B F X N Tp S hd1 hu mK mW hK TG dk hP hW hO hvl h1 h2 hb hr
  walk_at "lr ast"
  obtain ⟨mH, mR, mD⟩ := id S
  have em := tab5 mH mR mD mK mW
  rw [em] at F
  obtain ⟨⟨gn, hG⟩, d1, d2, d3, d4, d5, d6, d7, d8, d9⟩ := id TG
  have hul := hW.len
  have hvl2 := hP.len
  have hsz := hO.sz
  have hpl := psz_len ps
  obtain ⟨hk1, hk2⟩ := hK
  subst hk1 hk2
  subst h1
  subst hb
  subst h2
  cases hW
  show wpAny _ _ (execs (_ :: _) _) _ _ _
  k_steps
  skip
  all_goals exact hr _ _ _ _ (by k_asm) (News.sub (by k_asm) (by intro p h; simp [h]))
theorem r_sign_no : ∀ {w : World} {sc : Scope} {cdv : Value} {target : PySem.Expr} {body : List Stmt} (hast : LrAst w sc cdv target body)
    {mean : ExcName → Option Value} {mg mb : Str → Option Value} {dp un : Nat} {outer : List Env} {base g : Heap} {L : Addr} {m : Str → Option Value} {s : Shared} {Qb : Flow → Shared → Prop} {E : Value → Shared → Prop}
    {H G P W D : Addr} {hv vs us : List Value} {nH n k : Nat} {tl : List (Addr × Obj)} {j ready : Bool} {kd : Int} {wd : Wd} {tk1 tk2 : Tok} {c : List (Str × Int)} {q : Int} {ps : List Tr} {ws : List Wt} {x : Wd}
    (B : Below (A0 dp un (some []) outer) base outer g) (F : Fr g L s.heap m) (X : (hd.heap_39 w.params).In g) (N : News g L s.heap (led H G P W hv vs us nH n k tl)) (Tp : Top hd.view_39 lo mean mg mb g) (S : LrS m H D ready) (hd1 : dp + 60 < recursionLimit) (hu : un + 120 < cLine)
    (mK : m (Str.ofString "kind") = some (.int kd tk1)) (mW : m (Str.ofString "word") = some (.str wd tk2)) (hK : KW kd wd (.sign x)) (TG : TopG tl H G P W j) (dk : DictOk w tl D c) (hP : PR vs ps) (hW : WR tl us ws) (hO : BOk ps ws) (hvl : hv.length ≤ 50) (h0 : rkOf c x = none)
    (hr : ∀ ty h' tk' m', Fr g L h' m' → News g L h' tl → Qb (.ret (.str (Str.ofString "syntax") ty)) { s with heap := h', toks := tk' }),
    wpAny (model PySem.Challenge.rw_fe0201_01.row.prog w) ((A0 dp un (some []) outer).deeper (lrEnv sc L cdv)) (execs body (lrEnv sc L cdv)) Qb E s := by
  walk_at "my fill"
  intro w sc cdv target body hast mean mg mb dp un outer base g L m s Qb E H G P W D hv vs us nH n k tl j ready kd wd tk1 tk2 c q ps ws x B F X N Tp S hd1 hu mK mW hK TG dk hP hW hO hvl h0 hr
  walk_at "lr ast"
  obtain ⟨mH, mR, mD⟩ := id S
  have em := tab5 mH mR mD mK mW
  rw [em] at F
  obtain ⟨⟨gn, hG⟩, d1, d2, d3, d4, d5, d6, d7, d8, d9⟩ := id TG
  have hul := hW.len
  have hvl2 := hP.len
  have hsz := hO.sz
  have hpl := psz_len ps
  obtain ⟨hk1, hk2, hx1, hx2, hx3⟩ := hK
  subst hk1 hk2
  have hno := rk_no h0
  show wpAny _ _ (execs (_ :: _) _) _ _ _
  k_steps
  skip
  all_goals exact hr _ _ _ _ (by k_asm) (News.sub (by k_asm) (by intro p h; simp [h]))

theorem r_sign_new : ∀ {w : World} {sc : Scope} {cdv : Value} {target : PySem.Expr} {body : List Stmt} (hast : LrAst w sc cdv target body)
    {mean : ExcName → Option Value} {mg mb : Str → Option Value} {dp un : Nat} {outer : List Env} {base g : Heap} {L : Addr} {m : Str → Option Value} {s : Shared} {Qb : Flow → Shared → Prop} {E : Value → Shared → Prop}
    {H G P W D : Addr} {hv vs us : List Value} {nH n k : Nat} {tl : List (Addr × Obj)} {j ready : Bool} {kd : Int} {wd : Wd} {tk1 tk2 : Tok} {c : List (Str × Int)} {q : Int} {ps : List Tr} {ws : List Wt} {x : Wd} {kx : Int}
    (B : Below (A0 dp un (some []) outer) base outer g) (F : Fr g L s.heap m) (X : (hd.heap_39 w.params).In g) (N : News g L s.heap (led H G P W hv vs us nH n k tl)) (Tp : Top hd.view_39 lo mean mg mb g) (S : LrS m H D ready) (hd1 : dp + 60 < recursionLimit) (hu : un + 120 < cLine)
    (mK : m (Str.ofString "kind") = some (.int kd tk1)) (mW : m (Str.ofString "word") = some (.str wd tk2)) (hK : KW kd wd (.sign x)) (TG : TopG tl H G P W j) (dk : DictOk w tl D c) (hP : PR vs ps) (hW : WR tl us ws) (hO : BOk ps ws) (hvl : hv.length ≤ 50) (h0 : rkOf c x = some kx) (hb : ready = false)
    (hn : ∀ E' t1 t2 t3 g' k' h' tk' m', Fr g L h' m' → LrS m' H D false → News g L h' (led H G P W hv vs (.ref E' :: us) nH n k' ((E', entO ⟨(rkOf c wU).getD (-1), x, false⟩ t1 t2 t3 g') :: tl)) → (H < E' ∧ P < E' ∧ W < E' ∧ AllLt E' tl) → Qb .next { s with heap := h', toks := tk' }),
    wpAny (model PySem.Challenge.rw_fe0201_01.row.prog w) ((A0 dp un (some []) outer).deeper (lrEnv sc L cdv)) (execs body (lrEnv sc L cdv)) Qb E s := by
  walk_at "my fill"
  intro w sc cdv target body hast mean mg mb dp un outer base g L m s Qb E H G P W D hv vs us nH n k tl j ready kd wd tk1 tk2 c q ps ws x kx B F X N Tp S hd1 hu mK mW hK TG dk hP hW hO hvl h0 hb hn
  walk_at "lr ast"
  obtain ⟨mH, mR, mD⟩ := id S
  have em := tab5 mH mR mD mK mW
  rw [em] at F
  obtain ⟨⟨gn, hG⟩, d1, d2, d3, d4, d5, d6, d7, d8, d9⟩ := id TG
  have hul := hW.len
  have hvl2 := hP.len
  have hsz := hO.sz
  have hpl := psz_len ps
  obtain ⟨hk1, hk2, hx1, hx2, hx3⟩ := hK
  subst hk1 hk2
  subst hb
  obtain ⟨hh1, hh2⟩ := rk_has h0
  show wpAny _ _ (execs (_ :: _) _) _ _ _
  k_steps
  skip
  exact hn _ _ _ _ _ _ _ _ _ (by k_asm) ⟨rfl, rfl, rfl⟩ (News.sub (by k_asm) perm4) (by assumption)

theorem r_sign_pow : ∀ {w : World} {sc : Scope} {cdv : Value} {target : PySem.Expr} {body : List Stmt} (hast : LrAst w sc cdv target body)
    {mean : ExcName → Option Value} {mg mb : Str → Option Value} {dp un : Nat} {outer : List Env} {base g : Heap} {L : Addr} {m : Str → Option Value} {s : Shared} {Qb : Flow → Shared → Prop} {E : Value → Shared → Prop}
    {H G P W D : Addr} {hv vs us : List Value} {nH n k : Nat} {tl : List (Addr × Obj)} {j ready : Bool} {kd : Int} {wd : Wd} {tk1 tk2 : Tok} {c : List (Str × Int)} {q : Int} {ps : List Tr} {ws : List Wt} {x : Wd} {kx : Int}
    (B : Below (A0 dp un (some []) outer) base outer g) (F : Fr g L s.heap m) (X : (hd.heap_39 w.params).In g) (N : News g L s.heap (led H G P W hv vs us nH n k tl)) (Tp : Top hd.view_39 lo mean mg mb g) (S : LrS m H D ready) (hd1 : dp + 60 < recursionLimit) (hu : un + 120 < cLine)
    (mK : m (Str.ofString "kind") = some (.int kd tk1)) (mW : m (Str.ofString "word") = some (.str wd tk2)) (hK : KW kd wd (.sign x)) (TG : TopG tl H G P W j) (dk : DictOk w tl D c) (hP : PR vs ps) (hW : WR tl us ws) (hO : BOk ps ws) (hvl : hv.length ≤ 50) (h0 : rkOf c x = some kx) (hb : ready = true) (hp : pow x = true)
    (hn : ∀ E' t1 t2 t3 g' k' h' tk' m', Fr g L h' m' → LrS m' H D false → News g L h' (led H G P W hv vs (.ref E' :: us) nH n k' ((E', entO ⟨kdpLook c x 0, x, true⟩ t1 t2 t3 g') :: tl)) → (H < E' ∧ P < E' ∧ W < E' ∧ AllLt E' tl) → Qb .next { s with heap := h', toks := tk' }),
    wpAny (model PySem.Challenge.rw_fe0201_01.row.prog w) ((A0 dp un (some []) outer).deeper (lrEnv sc L cdv)) (execs body (lrEnv sc L cdv)) Qb E s := by
  walk_at "my fill"
  intro w sc cdv target body hast mean mg mb dp un outer base g L m s Qb E H G P W D hv vs us nH n k tl j ready kd wd tk1 tk2 c q ps ws x kx B F X N Tp S hd1 hu mK mW hK TG dk hP hW hO hvl h0 hb hp hn
  walk_at "lr ast"
  obtain ⟨mH, mR, mD⟩ := id S
  have em := tab5 mH mR mD mK mW
  rw [em] at F
  obtain ⟨⟨gn, hG⟩, d1, d2, d3, d4, d5, d6, d7, d8, d9⟩ := id TG
  have hul := hW.len
  have hvl2 := hP.len
  have hsz := hO.sz
  have hpl := psz_len ps
  obtain ⟨hk1, hk2, hx1, hx2, hx3⟩ := hK
  subst hk1 hk2
  subst hb
  obtain ⟨hh1, hh2⟩ := rk_has h0
  have hpw := (pow_any wd).trans hp
  show wpAny _ _ (execs (_ :: _) _) _ _ _
  k_steps
  skip
  exact hn _ _ _ _ _ _ _ _ _ (by k_asm) ⟨rfl, rfl, rfl⟩ (News.sub (by k_asm) perm5) (And.right (by assumption))

theorem r_sign_bnd : ∀ {w : World} {sc : Scope} {cdv : Value} {target : PySem.Expr} {body : List Stmt} (hast : LrAst w sc cdv target body)
    {mean : ExcName → Option Value} {mg mb : Str → Option Value} {dp un : Nat} {outer : List Env} {base g : Heap} {L : Addr} {m : Str → Option Value} {s : Shared} {Qb : Flow → Shared → Prop} {E : Value → Shared → Prop}
    {H G P W D : Addr} {hv vs us : List Value} {nH n k : Nat} {tl : List (Addr × Obj)} {j ready : Bool} {kd : Int} {wd : Wd} {tk1 tk2 : Tok} {c : List (Str × Int)} {q : Int} {ps : List Tr} {ws : List Wt} {x : Wd} {kx : Int} {ps' : List Tr} {ws' : List Wt}
    (B : Below (A0 dp un (some []) outer) base outer g) (F : Fr g L s.heap m) (X : (hd.heap_39 w.params).In g) (N : News g L s.heap (led H G P W hv vs us nH n k tl)) (Tp : Top hd.view_39 lo mean mg mb g) (S : LrS m H D ready) (hd1 : dp + 60 < recursionLimit) (hu : un + 120 < cLine)
    (mK : m (Str.ofString "kind") = some (.int kd tk1)) (mW : m (Str.ofString "word") = some (.str wd tk2)) (hK : KW kd wd (.sign x)) (TG : TopG tl H G P W j) (dk : DictOk w tl D c) (hP : PR vs ps) (hW : WR tl us ws) (hO : BOk ps ws) (hvl : hv.length ≤ 50) (h0 : rkOf c x = some kx) (hb : ready = true) (hp : pow x = false) (hbn : bnd (kdpLook c x 0) ps ws = some (ps', ws'))
    (hn : ∀ E' t1 t2 t3 g' n' k' h' tk' m' vs' us', Fr g L h' m' → LrS m' H D false → News g L h' (led H G P W hv vs' (.ref E' :: us') nH n' k' ((E', entO ⟨kdpLook c x 0, x, true⟩ t1 t2 t3 g') :: tl)) → PR vs' ps' → WR tl us' ws' → BOk ps' ws' → (H < E' ∧ P < E' ∧ W < E' ∧ AllLt E' tl) → Qb .next { s with heap := h', toks := tk' }),
    wpAny (model PySem.Challenge.rw_fe0201_01.row.prog w) ((A0 dp un (some []) outer).deeper (lrEnv sc L cdv)) (execs body (lrEnv sc L cdv)) Qb E s := by
  walk_at "my fill"
  intro w sc cdv target body hast mean mg mb dp un outer base g L m s Qb E H G P W D hv vs us nH n k tl j ready kd wd tk1 tk2 c q ps ws x kx ps' ws' B F X N Tp S hd1 hu mK mW hK TG dk hP hW hO hvl h0 hb hp hbn hn
  walk_at "lr ast"
  obtain ⟨mH, mR, mD⟩ := id S
  have em := tab5 mH mR mD mK mW
  rw [em] at F
  obtain ⟨⟨gn, hG⟩, d1, d2, d3, d4, d5, d6, d7, d8, d9⟩ := id TG
  have hul := hW.len
  have hvl2 := hP.len
  have hsz := hO.sz
  have hpl := psz_len ps
  obtain ⟨hk1, hk2, hx1, hx2, hx3⟩ := hK
  subst hk1 hk2
  subst hb
  obtain ⟨hh1, hh2⟩ := rk_has h0
  have hpw := (pow_any wd).trans hp
  show wpAny _ _ (execs (_ :: _) _) _ _ _
  k_steps
  refine' lb_led (H := H) (G := G) (P := P) (W := W) (hv := hv) (tl := tl) (News.sub (by k_asm) (fun _ h => List.mem_cons_of_mem _ h)) TG hP hW hO hbn ?B ?F ?X ?T ?hk ?h1 ?h2 ?h
  case B => k_asm
  case F => k_asm
  case X => k_asm
  case T => k_asm
  case hk => rfl
  case h1 => (show dp + 1 + _ < _); omega
  case h2 => (show un + _ + _ < _); omega
  case h =>
    intro vs' us' n' k' h' tk' F' N' P' W' O'
    have hul' := W'.len
    have hvl' := P'.len
    have hsz' := O'.sz
    have hpl' := psz_len ps'
    k_steps
    skip
    exact hn _ _ _ _ _ _ _ _ _ _ _ _ (by k_asm) ⟨rfl, rfl, rfl⟩ (News.sub (by k_asm) perm4) P' W' O' (by assumption)
theorem r_atom_new : ∀ {w : World} {sc : Scope} {cdv : Value} {target : PySem.Expr} {body : List Stmt} (hast : LrAst w sc cdv target body)
    {mean : ExcName → Option Value} {mg mb : Str → Option Value} {dp un : Nat} {outer : List Env} {base g : Heap} {L : Addr} {m : Str → Option Value} {s : Shared} {Qb : Flow → Shared → Prop} {E : Value → Shared → Prop}
    {H G P W D : Addr} {hv vs us : List Value} {nH n k : Nat} {tl : List (Addr × Obj)} {j ready : Bool} {kd : Int} {wd : Wd} {tk1 tk2 : Tok} {c : List (Str × Int)} {q : Int} {ps : List Tr} {ws : List Wt} {x : Wd}
    (B : Below (A0 dp un (some []) outer) base outer g) (F : Fr g L s.heap m) (X : (hd.heap_39 w.params).In g) (N : News g L s.heap (led H G P W hv vs us nH n k tl)) (Tp : Top hd.view_39 lo mean mg mb g) (S : LrS m H D ready) (hd1 : dp + 60 < recursionLimit) (hu : un + 120 < cLine)
    (mK : m (Str.ofString "kind") = some (.int kd tk1)) (mW : m (Str.ofString "word") = some (.str wd tk2)) (hK : KW kd wd (.atom x)) (TG : TopG tl H G P W j) (dk : DictOk w tl D c) (hP : PR vs ps) (hW : WR tl us ws) (hO : BOk ps ws) (hvl : hv.length ≤ 50) (hb : ready = false)
    (hn : ∀ ty n' h' tk' m', Fr g L h' m' → LrS m' H D true → News g L h' (led H G P W hv (.str wd ty :: vs) us nH n' k tl) → Qb .next { s with heap := h', toks := tk' }),
    wpAny (model PySem.Challenge.rw_fe0201_01.row.prog w) ((A0 dp un (some []) outer).deeper (lrEnv sc L cdv)) (execs body (lrEnv sc L cdv)) Qb E s := by
  walk_at "my fill"
  intro w sc cdv target body hast mean mg mb dp un outer base g L m s Qb E H G P W D hv vs us nH n k tl j ready kd wd tk1 tk2 c q ps ws x B F X N Tp S hd1 hu mK mW hK TG dk hP hW hO hvl hb hn
  walk_at "lr ast"
  obtain ⟨mH, mR, mD⟩ := id S
  have em := tab5 mH mR mD mK mW
  rw [em] at F
  obtain ⟨⟨gn, hG⟩, d1, d2, d3, d4, d5, d6, d7, d8, d9⟩ := id TG
  have hul := hW.len
  have hvl2 := hP.len
  have hsz := hO.sz
  have hpl := psz_len ps
  obtain ⟨hk0, hk2, hx3⟩ := hK
  subst hk2 hb
  show wpAny _ _ (execs (_ :: _) _) _ _ _
  rcases hk0 with rfl | rfl
  all_goals
    k_steps
    skip
    exact hn _ _ _ _ _ (by k_asm) ⟨rfl, rfl, rfl⟩ (News.sub (by k_asm) (fun p h => List.mem_cons_of_mem _ h))

theorem r_atom_imp : ∀ {w : World} {sc : Scope} {cdv : Value} {target : PySem.Expr} {body : List Stmt} (hast : LrAst w sc cdv target body)
    {mean : ExcName → Option Value} {mg mb : Str → Option Value} {dp un : Nat} {outer : List Env} {base g : Heap} {L : Addr} {m : Str → Option Value} {s : Shared} {Qb : Flow → Shared → Prop} {E : Value → Shared → Prop}
    {H G P W D : Addr} {hv vs us : List Value} {nH n k : Nat} {tl : List (Addr × Obj)} {j ready : Bool} {kd : Int} {wd : Wd} {tk1 tk2 : Tok} {c : List (Str × Int)} {q : Int} {ps : List Tr} {ws : List Wt} {x : Wd} {ps' : List Tr} {ws' : List Wt}
    (B : Below (A0 dp un (some []) outer) base outer g) (F : Fr g L s.heap m) (X : (hd.heap_39 w.params).In g) (N : News g L s.heap (led H G P W hv vs us nH n k tl)) (Tp : Top hd.view_39 lo mean mg mb g) (S : LrS m H D ready) (hd1 : dp + 60 < recursionLimit) (hu : un + 120 < cLine)
    (mK : m (Str.ofString "kind") = some (.int kd tk1)) (mW : m (Str.ofString "word") = some (.str wd tk2)) (hK : KW kd wd (.atom x)) (TG : TopG tl H G P W j) (dk : DictOk w tl D c) (hP : PR vs ps) (hW : WR tl us ws) (hO : BOk ps ws) (hvl : hv.length ≤ 50) (hce : kdpHas c wE = true) (hb : ready = true) (hbn : bnd (kdpLook c wE 0) ps ws = some (ps', ws'))
    (hn : ∀ E' t1 t2 t3 g' n' k' h' tk' m' vs' us', Fr g L h' m' → LrS m' H D true → News g L h' (led H G P W hv (.str wd tk2 :: vs') (.ref E' :: us') nH n' k' ((E', entO ⟨kdpLook c wE 0, wE, true⟩ t1 t2 t3 g') :: tl)) → PR vs' ps' → WR tl us' ws' → BOk ps' ws' → (H < E' ∧ P < E' ∧ W < E' ∧ AllLt E' tl) → Qb .next { s with heap := h', toks := tk' }),
    wpAny (model PySem.Challenge.rw_fe0201_01.row.prog w) ((A0 dp un (some []) outer).deeper (lrEnv sc L cdv)) (execs body (lrEnv sc L cdv)) Qb E s := by
  walk_at "my fill"
  intro w sc cdv target body hast mean mg mb dp un outer base g L m s Qb E H G P W D hv vs us nH n k tl j ready kd wd tk1 tk2 c q ps ws x ps' ws' B F X N Tp S hd1 hu mK mW hK TG dk hP hW hO hvl hce hb hbn hn
  walk_at "lr ast"
  obtain ⟨mH, mR, mD⟩ := id S
  have em := tab5 mH mR mD mK mW
  rw [em] at F
  obtain ⟨⟨gn, hG⟩, d1, d2, d3, d4, d5, d6, d7, d8, d9⟩ := id TG
  have hul := hW.len
  have hvl2 := hP.len
  have hsz := hO.sz
  have hpl := psz_len ps
  obtain ⟨hk0, hk2, hx3⟩ := hK
  subst hk2 hb
  show wpAny _ _ (execs (_ :: _) _) _ _ _
  rcases hk0 with rfl | rfl
  all_goals
    k_steps
    refine' lb_led (H := H) (G := G) (P := P) (W := W) (hv := hv) (tl := tl) (News.sub (by k_asm) (fun _ h => List.mem_cons_of_mem _ h)) TG hP hW hO hbn ?B ?F ?X ?T ?hk ?h1 ?h2 ?h
    case B => k_asm
    case F => k_asm
    case X => k_asm
    case T => k_asm
    case hk => rfl
    case h1 => (show dp + 1 + _ < _); omega
    case h2 => (show un + _ + _ < _); omega
    case h =>
      intro vs' us' n' k' h' tk' F' N' P' W' O'
      have hul' := W'.len
      have hvl' := P'.len
      have hsz' := O'.sz
      have hpl' := psz_len ps'
      k_steps
      skip
      exact hn _ _ _ _ _ _ _ _ _ _ _ _ (by k_asm) ⟨rfl, rfl, rfl⟩ (News.sub (by k_asm) perm4) P' W' O' (by assumption)

theorem r_opn : ∀ {w : World} {sc : Scope} {cdv : Value} {target : PySem.Expr} {body : List Stmt} (hast : LrAst w sc cdv target body)
    {mean : ExcName → Option Value} {mg mb : Str → Option Value} {dp un : Nat} {outer : List Env} {base g : Heap} {L : Addr} {m : Str → Option Value} {s : Shared} {Qb : Flow → Shared → Prop} {E : Value → Shared → Prop}
    {H G P W D : Addr} {hv vs us : List Value} {nH n k : Nat} {tl : List (Addr × Obj)} {j ready : Bool} {kd : Int} {wd : Wd} {tk1 tk2 : Tok} {c : List (Str × Int)} {q : Int} {ps : List Tr} {ws : List Wt} 
    (B : Below (A0 dp un (some []) outer) base outer g) (F : Fr g L s.heap m) (X : (hd.heap_39 w.params).In g) (N : News g L s.heap (led H G P W hv vs us nH n k tl)) (Tp : Top hd.view_39 lo mean mg mb g) (S : LrS m H D ready) (hd1 : dp + 60 < recursionLimit) (hu : un + 120 < cLine)
    (mK : m (Str.ofString "kind") = some (.int kd tk1)) (mW : m (Str.ofString "word") = some (.str wd tk2)) (hK : KW kd wd .opn) (TG : TopG tl H G P W j) (dk : DictOk w tl D c) (hP : PR vs ps) (hW : WR tl us ws) (hO : BOk ps ws) (hvl : hv.length ≤ 50) 
    (hn : ∀ G' P' W' nH' g' n' k' h' tk' m', Fr g L h' m' → LrS m' H D false → News g L h' ((H, stk (.ref G' :: .ref G :: hv) nH') :: (P', stk [] n') :: (W', stk [] k') :: (P, stk vs n) :: (W, stk us k) :: (G', grpO P' W' ready g') :: tl) →
      (H < P' ∧ P < P' ∧ W < P' ∧ AllLt P' tl) → (P' < W' ∧ H < W' ∧ P < W' ∧ W < W' ∧ AllLt W' tl) → (W' < G' ∧ P' < G' ∧ H < G' ∧ P < G' ∧ W < G' ∧ AllLt G' tl) → Qb .next { s with heap := h', toks := tk' }),
    wpAny (model PySem.Challenge.rw_fe0201_01.row.prog w) ((A0 dp un (some []) outer).deeper (lrEnv sc L cdv)) (execs body (lrEnv sc L cdv)) Qb E s := by
  walk_at "my fill"
  intro w sc cdv target body hast mean mg mb dp un outer base g L m s Qb E H G P W D hv vs us nH n k tl j ready kd wd tk1 tk2 c q ps ws  B F X N Tp S hd1 hu mK mW hK TG dk hP hW hO hvl  hn
  walk_at "lr ast"
  obtain ⟨mH, mR, mD⟩ := id S
  have em := tab5 mH mR mD mK mW
  rw [em] at F
  obtain ⟨⟨gn, hG⟩, d1, d2, d3, d4, d5, d6, d7, d8, d9⟩ := id TG
  have hul := hW.len
  have hvl2 := hP.len
  have hsz := hO.sz
  have hpl := psz_len ps
  obtain ⟨hk1, hk2⟩ := hK
  subst hk1 hk2
  show wpAny _ _ (execs (_ :: _) _) _ _ _
  k_steps
  skip
  exact hn _ _ _ _ _ _ _ _ _ _ (by k_asm) ⟨rfl, rfl, rfl⟩ (News.sub (by k_asm) perm6) (by assumption) (by assumption) (by assumption)
theorem r_cls_plain : ∀ {w : World} {sc : Scope} {cdv : Value} {target : PySem.Expr} {body : List Stmt} (hast : LrAst w sc cdv target body)
    {mean : ExcName → Option Value} {mg mb : Str → Option Value} {dp un : Nat} {outer : List Env} {base g : Heap} {L : Addr} {m : Str → Option Value} {s : Shared} {Qb : Flow → Shared → Prop} {E : Value → Shared → Prop}
    {H G P W D : Addr} {hv vs us : List Value} {nH n k : Nat} {tl : List (Addr × Obj)} {j ready : Bool} {kd : Int} {wd : Wd} {tk1 tk2 : Tok} {c : List (Str × Int)} {q : Int} {ps : List Tr} {ws : List Wt} {G2 P2 W2 : Addr} {hv2 vs2 us2 : List Value} {n2 k2 : Nat} {tl2 : List (Addr × Obj)} {j2 : Bool} {t : Tr} {ws' : List Wt}
    (B : Below (A0 dp un (some []) outer) base outer g) (F : Fr g L s.heap m) (X : (hd.heap_39 w.params).In g) (N : News g L s.heap (led H G P W hv vs us nH n k tl)) (Tp : Top hd.view_39 lo mean mg mb g) (S : LrS m H D ready) (hd1 : dp + 60 < recursionLimit) (hu : un + 120 < cLine)
    (mK : m (Str.ofString "kind") = some (.int kd tk1)) (mW : m (Str.ofString "word") = some (.str wd tk2)) (hK : KW kd wd .cls) (TG : TopG tl H G P W j) (dk : DictOk w tl D c) (hP : PR vs ps) (hW : WR tl us ws) (hO : BOk ps ws) (hvl : hv.length ≤ 50) (hj : j = false) (h1 : hv = .ref G2 :: hv2) (hb : ready = true) (htl : tl = (P2, stk vs2 n2) :: (W2, stk us2 k2) :: tl2) (TG2 : TopG tl2 H G2 P2 W2 j2) (hbn : bnd (-1) ps ws = some ([t], ws')) (hv2l : vs2.length ≤ 200)
    (hn : ∀ nH' n2' h' tk' m' ty, Fr g L h' m' → LrS m' H D true → News g L h' (led H G2 P2 W2 hv2 (.str (sho t) ty :: vs2) us2 nH' n2' k2 tl2) → Qb .next { s with heap := h', toks := tk' }),
    wpAny (model PySem.Challenge.rw_fe0201_01.row.prog w) ((A0 dp un (some []) outer).deeper (lrEnv sc L cdv)) (execs body (lrEnv sc L cdv)) Qb E s := by
  walk_at "my fill"
  intro w sc cdv target body hast mean mg mb dp un outer base g L m s Qb E H G P W D hv vs us nH n k tl j ready kd wd tk1 tk2 c q ps ws G2 P2 W2 hv2 vs2 us2 n2 k2 tl2 j2 t ws' B F X N Tp S hd1 hu mK mW hK TG dk hP hW hO hvl hj h1 hb htl TG2 hbn hv2l hn
  walk_at "lr ast"
  obtain ⟨mH, mR, mD⟩ := id S
  have em := tab5 mH mR mD mK mW
  rw [em] at F
  obtain ⟨⟨gn, hG⟩, d1, d2, d3, d4, d5, d6, d7, d8, d9⟩ := id TG
  have hul := hW.len
  have hvl2 := hP.len
  have hsz := hO.sz
  have hpl := psz_len ps
  obtain ⟨hk1, hk2⟩ := hK
  subst hk1 hk2
  subst hb hj
  subst htl h1
  obtain ⟨ps', hps⟩ : ∃ q, q = [t] := ⟨_, rfl⟩
  rw [← hps] at hbn
  simp only [List.length_cons] at hvl
  obtain ⟨⟨gn2, hG2⟩, e1, e2, e3, e4, e5, e6, e7, e8, e9⟩ := id TG2
  obtain ⟨f1, f2, f3⟩ := (List.forall_mem_cons.trans (and_congr_right fun _ => List.forall_mem_cons)).mp d8
  obtain ⟨f4, f5, f6⟩ := (List.forall_mem_cons.trans (and_congr_right fun _ => List.forall_mem_cons)).mp d9
  have f1 : P2 ≠ P := f1
  have f4 : P2 ≠ W := f4
  have f2 : W2 ≠ P := f2
  have f5 : W2 ≠ W := f5
  have f1' := f1.symm
  have f4' := f4.symm
  have f2' := f2.symm
  have f5' := f5.symm
  show wpAny _ _ (execs (_ :: _) _) _ _ _
  k_steps
  refine' lb_led (H := H) (G := G) (P := P) (W := W) (hv := (.ref G2 :: hv2)) (tl := (P2, stk vs2 n2) :: (W2, stk us2 k2) :: tl2) (News.sub (by k_asm) (fun _ h => h)) TG hP hW hO hbn ?B ?F ?X ?T ?hk ?h1 ?h2 ?h
  case B => k_asm
  case F => k_asm
  case X => k_asm
  case T => k_asm
  case hk => rfl
  case h1 => (show dp + 1 + _ < _); omega
  case h2 => (show un + _ + _ < _); omega
  case h =>
    intro vs' us' n' k' h' tk' F' N' P' W' O'
    have hul' := W'.len
    have hvl' := P'.len
    have hsz' := O'.sz
    have hpl' := psz_len ps'
    subst hps
    obtain ⟨tkp, rfl⟩ := P'.one
    have hlt := O'.len
    k_steps
    skip
    exact hn _ _ _ _ _ _ (by k_asm) ⟨rfl, rfl, rfl⟩ (News.sub (by k_asm) permC)

theorem r_cls_join : ∀ {w : World} {sc : Scope} {cdv : Value} {target : PySem.Expr} {body : List Stmt} (hast : LrAst w sc cdv target body)
    {mean : ExcName → Option Value} {mg mb : Str → Option Value} {dp un : Nat} {outer : List Env} {base g : Heap} {L : Addr} {m : Str → Option Value} {s : Shared} {Qb : Flow → Shared → Prop} {E : Value → Shared → Prop}
    {H G P W D : Addr} {hv vs us : List Value} {nH n k : Nat} {tl : List (Addr × Obj)} {j ready : Bool} {kd : Int} {wd : Wd} {tk1 tk2 : Tok} {c : List (Str × Int)} {q : Int} {ps : List Tr} {ws : List Wt} {G2 P2 W2 : Addr} {hv2 vs2 us2 : List Value} {n2 k2 : Nat} {tl2 : List (Addr × Obj)} {j2 : Bool} {t l : Tr} {tkl : Tok} {vs3 : List Value} {ws' : List Wt}
    (B : Below (A0 dp un (some []) outer) base outer g) (F : Fr g L s.heap m) (X : (hd.heap_39 w.params).In g) (N : News g L s.heap (led H G P W hv vs us nH n k tl)) (Tp : Top hd.view_39 lo mean mg mb g) (S : LrS m H D ready) (hd1 : dp + 60 < recursionLimit) (hu : un + 120 < cLine)
    (mK : m (Str.ofString "kind") = some (.int kd tk1)) (mW : m (Str.ofString "word") = some (.str wd tk2)) (hK : KW kd wd .cls) (TG : TopG tl H G P W j) (dk : DictOk w tl D c) (hP : PR vs ps) (hW : WR tl us ws) (hO : BOk ps ws) (hvl : hv.length ≤ 50) (hj : j = true) (h3 : vs2 = .str (sho l) tkl :: vs3) (hll : (sho l).length ≤ 3000) (h1 : hv = .ref G2 :: hv2) (hb : ready = true) (htl : tl = (P2, stk vs2 n2) :: (W2, stk us2 k2) :: tl2) (TG2 : TopG tl2 H G2 P2 W2 j2) (hbn : bnd (-1) ps ws = some ([t], ws')) (hv2l : vs2.length ≤ 200)
    (hn : ∀ nH' n2' h' tk' m' ty, Fr g L h' m' → LrS m' H D true → News g L h' (led H G2 P2 W2 hv2 (.str (Str.ofString "(" ++ sho l ++ Str.ofString " " ++ sho t ++ Str.ofString ")") ty :: vs3) us2 nH' n2' k2 tl2) → Qb .next { s with heap := h', toks := tk' }),
    wpAny (model PySem.Challenge.rw_fe0201_01.row.prog w) ((A0 dp un (some []) outer).deeper (lrEnv sc L cdv)) (execs body (lrEnv sc L cdv)) Qb E s := by
  walk_at "my fill"
  intro w sc cdv target body hast mean mg mb dp un outer base g L m s Qb E H G P W D hv vs us nH n k tl j ready kd wd tk1 tk2 c q ps ws G2 P2 W2 hv2 vs2 us2 n2 k2 tl2 j2 t l tkl vs3 ws' B F X N Tp S hd1 hu mK mW hK TG dk hP hW hO hvl hj h3 hll h1 hb htl TG2 hbn hv2l hn
  walk_at "lr ast"
  obtain ⟨mH, mR, mD⟩ := id S
  have em := tab5 mH mR mD mK mW
  rw [em] at F
  obtain ⟨⟨gn, hG⟩, d1, d2, d3, d4, d5, d6, d7, d8, d9⟩ := id TG
  have hul := hW.len
  have hvl2 := hP.len
  have hsz := hO.sz
  have hpl := psz_len ps
  subst h3
  obtain ⟨hk1, hk2⟩ := hK
  subst hk1 hk2
  subst hb hj
  subst htl h1
  obtain ⟨ps', hps⟩ : ∃ q, q = [t] := ⟨_, rfl⟩
  rw [← hps] at hbn
  simp only [List.length_cons] at hvl
  obtain ⟨⟨gn2, hG2⟩, e1, e2, e3, e4, e5, e6, e7, e8, e9⟩ := id TG2
  obtain ⟨f1, f2, f3⟩ := (List.forall_mem_cons.trans (and_congr_right fun _ => List.forall_mem_cons)).mp d8
  obtain ⟨f4, f5, f6⟩ := (List.forall_mem_cons.trans (and_congr_right fun _ => List.forall_mem_cons)).mp d9
  have f1 : P2 ≠ P := f1
  have f4 : P2 ≠ W := f4
  have f2 : W2 ≠ P := f2
  have f5 : W2 ≠ W := f5
  have f1' := f1.symm
  have f4' := f4.symm
  have f2' := f2.symm
  have f5' := f5.symm
  simp only [List.length_cons] at hv2l
  show wpAny _ _ (execs (_ :: _) _) _ _ _
  k_steps
  refine' lb_led (H := H) (G := G) (P := P) (W := W) (hv := (.ref G2 :: hv2)) (tl := (P2, stk (.str (sho l) tkl :: vs3) n2) :: (W2, stk us2 k2) :: tl2) (News.sub (by k_asm) (fun _ h => h)) TG hP hW hO hbn ?B ?F ?X ?T ?hk ?h1 ?h2 ?h
  case B => k_asm
  case F => k_asm
  case X => k_asm
  case T => k_asm
  case hk => rfl
  case h1 => (show dp + 1 + _ < _); omega
  case h2 => (show un + _ + _ < _); omega
  case h =>
    intro vs' us' n' k' h' tk' F' N' P' W' O'
    have hul' := W'.len
    have hvl' := P'.len
    have hsz' := O'.sz
    have hpl' := psz_len ps'
    subst hps
    obtain ⟨tkp, rfl⟩ := P'.one
    have hlt := O'.len
    k_steps
    skip
    exact hn _ _ _ _ _ _ (by k_asm) ⟨rfl, rfl, rfl⟩ (News.sub (by k_asm) permC)
/-- a group of _law_read, in the heap -/
structure GA where
  G : Addr
  P : Addr
  W : Addr
  vs : List Value
  us : List Value
  n : Nat
  k : Nat
def muts : List GA → List (Addr × Obj)
  | [] => []
  | g :: l => (g.P, stk g.vs g.n) :: (g.W, stk g.us g.k) :: muts l
def maddr : List GA → List Addr
  | [] => []
  | g :: l => g.P :: g.W :: maddr l
inductive GR (rest : List (Addr × Obj)) : List GA → List Grp → Prop
  | nil : GR rest [] []
  | cons {g : GA} {gl : List GA} {y : Grp} {Y : List Grp} {n : Nat} : (g.G, grpO g.P g.W y.joined n) ∈ rest → PR g.vs y.parts → WR rest g.us y.wait → (∀ t ∈ y.parts, TrOk t) → (∀ x ∈ y.wait, x.word.length ≤ 10) → GR rest gl Y → GR rest (g :: gl) (y :: Y)
def gsz : List Grp → Nat
  | [] => 0
  | y :: Y => psz y.parts + y.wait.length + gsz Y
theorem GR.mono {r r' : List (Addr × Obj)} {gl : List GA} {Y : List Grp} (h : GR r gl Y) (hs : ∀ p ∈ r, p ∈ r') : GR r' gl Y := by
  induction h with
  | nil => exact .nil
  | cons a b c d e _ i => exact .cons (hs _ a) b (c.mono hs) d e i
theorem GR.len {r : List (Addr × Obj)} {gl : List GA} {Y : List Grp} (h : GR r gl Y) : gl.length = Y.length := by
  induction h with
  | nil => rfl
  | cons a b c d e _ i => simp [i]
/-- what the loop of _law_read keeps between turns -/
structure LInv (rest : List (Addr × Obj)) (H I : Addr) (gl : List GA) (Y : List Grp) (left : Nat) : Prop where
  gr : GR rest gl Y
  nd : (I :: H :: maddr gl).Nodup
  fr : ∀ p ∈ rest, p.1 ∉ I :: H :: maddr gl
  sz : gsz Y + 2 * left ≤ 100
  ln : gl.length + left ≤ 45
abbrev lled (H : Addr) (nH : Nat) (gl : List GA) (rest : List (Addr × Obj)) : List (Addr × Obj) := (H, stk (gl.map fun g => .ref g.G) nH) :: (muts gl ++ rest)
theorem mem_muts {gl : List GA} {p : Addr × Obj} (h : p ∈ muts gl) : p.1 ∈ maddr gl := by
  induction gl with
  | nil => cases h
  | cons g l ih =>
    simp only [muts, maddr, List.mem_cons] at h ⊢
    rcases h with h | h | h
    · simp [h]
    · simp [h]
    · simp [ih h]
theorem cls_muts {gl : List GA} {p : Addr × Obj} (h : p ∈ muts gl) : p.2.cls = .type "list" := by
  induction gl with
  | nil => cases h
  | cons g l ih =>
    simp only [muts, List.mem_cons] at h
    rcases h with h | h | h
    · rw [h]
    · rw [h]
    · exact ih h
theorem bld_sz {x : Wt} {ps ps' : List Tr} (hb : bld x ps = some ps') (a : ∀ t ∈ ps, TrOk t) (hw : x.word.length ≤ 10) : (∀ t ∈ ps', TrOk t) ∧ psz ps' ≤ psz ps + 1 := by
  cases ps with
  | nil => cases hb
  | cons t l =>
    have ht := a t (List.mem_cons_self ..)
    unfold bld at hb
    by_cases h2 : x.two = true
    · simp only [h2, if_true] at hb
      cases l with
      | nil => cases hb
      | cons b l =>
        have hbo := a b (List.mem_cons_of_mem _ (List.mem_cons_self ..))
        simp only [Option.some.injEq] at hb
        subst hb
        refine ⟨fun u hu => ?_, ?_⟩
        · rcases List.mem_cons.mp hu with rfl | hu
          · unfold joinT
            split
            · exact ⟨hbo, ht⟩
            · exact ⟨hbo, hw, ht⟩
          · exact a u (List.mem_cons_of_mem _ (List.mem_cons_of_mem _ hu))
        · unfold joinT
          split <;> simp only [psz, tsz] <;> omega
    · simp only [h2, if_false, Bool.false_eq_true, Option.some.injEq] at hb
      subst hb
      refine ⟨fun u hu => ?_, ?_⟩
      · rcases List.mem_cons.mp hu with rfl | hu
        · exact ⟨hw, ht⟩
        · exact a u (List.mem_cons_of_mem _ hu)
      · simp only [psz, tsz]; omega
theorem bnd_sz {fl : Int} : ∀ {ws : List Wt} {ps ps' : List Tr} {ws' : List Wt}, bnd fl ps ws = some (ps', ws') → (∀ t ∈ ps, TrOk t) → (∀ x ∈ ws, x.word.length ≤ 10) →
    (∀ t ∈ ps', TrOk t) ∧ (∀ x ∈ ws', x.word.length ≤ 10) ∧ psz ps' + ws'.length ≤ psz ps + ws.length
  | [], ps, ps', ws', h, a, b => by
    simp only [bnd, Option.some.injEq, Prod.mk.injEq] at h
    obtain ⟨rfl, rfl⟩ := h
    exact ⟨a, b, Nat.le_refl _⟩
  | x :: ws, ps, ps', ws', h, a, b => by
    unfold bnd at h
    by_cases hle : fl ≤ x.rank
    · rw [if_pos hle] at h
      cases hbl : bld x ps with
      | none => rw [hbl] at h; cases h
      | some ps2 =>
        rw [hbl] at h
        obtain ⟨a2, s2⟩ := bld_sz hbl a (b x (List.mem_cons_self ..))
        obtain ⟨a3, b3, s3⟩ := bnd_sz (ws := ws) h a2 fun y hy => b y (List.mem_cons_of_mem _ hy)
        refine ⟨a3, b3, ?_⟩
        simp only [List.length_cons]
        omega
    · rw [if_neg hle] at h
      simp only [Option.some.injEq, Prod.mk.injEq] at h
      obtain ⟨rfl, rfl⟩ := h
      exact ⟨a, b, Nat.le_refl _⟩
/-- the row's items in the heap -/
inductive RowIs (nw : List (Addr × Obj)) : List Value → List Tk → Prop
  | nil : RowIs nw [] []
  | cons {T : Addr} {kd : Int} {wd : Wd} {t1 t2 : Tok} {n : Nat} {tk : Tk} {vs : List Value} {ts : List Tk} : (T, ({ cls := .type "tuple", data := .seq #[.int kd t1, .str wd t2] n } : Obj)) ∈ nw → KW kd wd tk → RowIs nw vs ts → RowIs nw (.ref T :: vs) (tk :: ts)
theorem RowIs.mono {nw nw' : List (Addr × Obj)} {vs : List Value} {ts : List Tk} (h : RowIs nw vs ts) (hs : ∀ p ∈ nw, p ∈ nw') : RowIs nw' vs ts := by
  induction h with
  | nil => exact .nil
  | cons a b _ i => exact .cons (hs _ a) b i
theorem RowIs.len {nw : List (Addr × Obj)} {vs : List Value} {ts : List Tk} (h : RowIs nw vs ts) : vs.length = ts.length := by
  induction h with
  | nil => rfl
  | cons a b _ i => simp [i]
def outS : LOut → Str
  | .err .syn => Str.ofString "syntax"
  | .err .idle => Str.ofString "idle"
  | .tree t => sho t
theorem lperm {H : Addr} {nH : Nat} {g : GA} {gl : List GA} {rest : List (Addr × Obj)} {x : Addr × Obj} : ∀ p ∈ led H g.G g.P g.W (gl.map fun g => .ref g.G) g.vs g.us nH g.n g.k (muts gl ++ (x :: rest)), p ∈ x :: lled H nH (g :: gl) rest := by
  intro p h
  simp only [muts, List.mem_cons, List.mem_append, List.map_cons, List.cons_append] at h ⊢
  grind
theorem lperm2 {H : Addr} {nH : Nat} {g : GA} {gl : List GA} {rest : List (Addr × Obj)} {x : Addr × Obj} : ∀ p ∈ x :: lled H nH (g :: gl) rest, p ∈ led H g.G g.P g.W (gl.map fun g => .ref g.G) g.vs g.us nH g.n g.k (muts gl ++ (x :: rest)) := by
  intro p h
  simp only [muts, List.mem_cons, List.mem_append, List.map_cons, List.cons_append] at h ⊢
  grind
theorem lperm3 {H : Addr} {nH : Nat} {g : GA} {gl : List GA} {rest : List (Addr × Obj)} {x y : Addr × Obj} : ∀ p ∈ x :: lled H nH (g :: gl) (y :: rest), p ∈ led H g.G g.P g.W (gl.map fun g => .ref g.G) g.vs g.us nH g.n g.k (y :: (muts gl ++ (x :: rest))) := by
  intro p h
  simp only [muts, List.mem_cons, List.mem_append, List.map_cons, List.cons_append] at h ⊢
  grind
theorem LInv.topG {rest : List (Addr × Obj)} {H I : Addr} {g : GA} {gl : List GA} {y : Grp} {Y : List Grp} {left : Nat} {o : Obj} (h : LInv rest H I (g :: gl) (y :: Y) left) : TopG (muts gl ++ ((I, o) :: rest)) H g.G g.P g.W y.joined := by
  obtain ⟨gr, nd, fr, _, _⟩ := h
  cases gr with
  | @cons _ _ _ _ n hG hP hW h1 h2 gr =>
  simp only [maddr, List.nodup_cons, List.mem_cons, not_or] at nd
  obtain ⟨⟨i1, i2, i3, i4⟩, ⟨j1, j2, j3⟩, ⟨k1, k2⟩, k3, nd⟩ := nd
  have key : ∀ p ∈ muts gl ++ ((I, o) :: rest), p.1 ∈ maddr gl ∨ p.1 = I ∨ (p ∈ rest) := by
    intro p hp
    rcases List.mem_append.mp hp with hp | hp
    · exact .inl (mem_muts hp)
    · rcases List.mem_cons.mp hp with hp | hp
      · exact .inr (.inl (by rw [hp]))
      · exact .inr (.inr hp)
  have fr' : ∀ p ∈ rest, p.1 ≠ H ∧ p.1 ≠ g.P ∧ p.1 ≠ g.W := by
    intro p hp
    have := fr p hp
    simp only [maddr, List.mem_cons, not_or] at this
    exact ⟨this.2.1, this.2.2.1, this.2.2.2.1⟩
  refine ⟨⟨n, List.mem_append_right _ (List.mem_cons_of_mem _ hG)⟩, j1, Ne.symm j1, j2, Ne.symm j2, k1, Ne.symm k1, fun p hp => ?_, fun p hp => ?_, fun p hp => ?_⟩
  · rcases key p hp with e | e | e
    · exact fun z => j3 (z ▸ e)
    · exact fun z => i1 (e.symm.trans z)
    · exact (fr' p e).1
  · rcases key p hp with e | e | e
    · exact fun z => k2 (z ▸ e)
    · exact fun z => i2 (e.symm.trans z)
    · exact (fr' p e).2.1
  · rcases key p hp with e | e | e
    · exact fun z => k3 (z ▸ e)
    · exact fun z => i3 (e.symm.trans z)
    · exact (fr' p e).2.2
theorem WR.strip2 {gl : List GA} {x : Addr × Obj} {rest : List (Addr × Obj)} {us : List Value} {ws : List Wt} (hx : x.2.cls = .type "list_iterator") (h : WR (muts gl ++ (x :: rest)) us ws) : WR rest us ws := by
  induction h with
  | nil => exact .nil
  | @cons e y t1 t2 t3 n2 us ws a _ i =>
    refine WR.cons (x := y) (t1 := t1) (t2 := t2) (t3 := t3) (n := n2) ?_ i
    rcases List.mem_append.mp a with e | e
    · exact absurd (cls_muts e) (by simp)
    · rcases List.mem_cons.mp e with e | e
      · have : x.2.cls = .type "tuple" := by rw [← e]
        rw [hx] at this
        exact absurd this (by simp)
      · exact e
section
def forR : Option Obj → Option (Scope × Value × PySem.Expr × List Stmt)
  | some ⟨_, _, .func fd, _⟩ => match fd.body with
    | .stmts [_, .For t _ b _ _, _] => some (fd.scope, fd.code, t, b)
    | _ => none
  | _ => none
def RwAst (w : World) (sc : Scope) (cdv : Value) (target : PySem.Expr) (body : List Stmt) : Prop := forR ((hd.heap_39 w.params).lookup 261) = some (sc, cdv, target, body)
theorem rw_use {x : Option Obj} {o : Obj} {y : Option (Scope × Value × PySem.Expr × List Stmt)} {P : Prop} (e : x = some o) (h : forR x = y) (k : forR (some o) = y → P) : P := k (e ▸ h)
local macro_rules | `(tactic| walk_at "rw ast") => `(tactic| (refine' rw_use ?e (by assumption) ?kk; (case e => k_dflt k_is); intro hast2; (dsimp only [forR] at hast2); (simp only [Option.some.injEq, Prod.mk.injEq] at hast2); obtain ⟨a1, a2, a3, a4⟩ := hast2; subst a1 a2 a3 a4))
abbrev rwEnv (sc : Scope) (L : Addr) (cdv : Value) : Env := envOf (Str.ofString "_law_row") sc L 261 cdv
structure RwS (m : Str → Option Value) (R : Addr) (d : Int) (b : Bool) : Prop where
  mR : m (Str.ofString "row") = some (.ref R)
  mD : ∃ t, m (Str.ofString "depth") = some (.int d t)
  mB : m (Str.ofString "ready") = some (.bool b)
theorem tab4' {m : Str → Option Value} {x1 x2 x3 x4 : Str} {v1 v2 v3 v4 : Value} (h1 : m x1 = some v1) (h2 : m x2 = some v2) (h3 : m x3 = some v3) (h4 : m x4 = some v4) :
    m = (fun y => if y = x1 then some v1 else if y = x2 then some v2 else if y = x3 then some v3 else if y = x4 then some v4 else m y) := by
  funext y
  repeat' split
  all_goals first | rfl | (rename_i e; subst e; assumption)
theorem hold_rest {M : Model} {A : Around} {E : Value → Shared → Prop} {env : Env} {b : List Stmt} {Q : Flow → Shared → Prop} {s : Shared} (h : Hold (wpAny M A (execs b env) Q E s)) : wpAny M A (execs b env) Q E s := h
theorem row_a : ∀ {w : World} {sc : Scope} {cdv : Value} {target : PySem.Expr} {body : List Stmt} (hast : RwAst w sc cdv target body)
    {mean : ExcName → Option Value} {mg mb : Str → Option Value} {dp un : Nat} {outer : List Env} {base g : Heap} {L : Addr} {m : Str → Option Value} {s : Shared} {nw : List (Addr × Obj)} {Q : Flow → Shared → Prop} {E : Value → Shared → Prop} {R : Addr} {d z : Int} {b : Bool} {t0 : Tok}
    (B : Below (A0 dp un (some []) outer) base outer g) (F : Fr g L s.heap m) (X : (hd.heap_39 w.params).In g) (N : News g L s.heap nw) (Tp : Top hd.view_39 lo mean mg mb g) (S : RwS m R d b) (mN : m (Str.ofString "number") = some (.int z t0)) (hd1 : dp + 20 < recursionLimit) (hu : un + 60 < cLine)
    (h : ∀ h' tk' m' ts tr, Fr g L h' m' → News g L h' nw → RwS m' R d b → m' (Str.ofString "sort") = some (.int (z.fmod 16) ts) → m' (Str.ofString "rest") = some (.int (z.fdiv 16) tr) → wpAny (model PySem.Challenge.rw_fe0201_01.row.prog w) ((A0 dp un (some []) outer).deeper (rwEnv sc L cdv)) (execs (body.drop 1) (rwEnv sc L cdv)) Q E { s with heap := h', toks := tk' }),
    wpAny (model PySem.Challenge.rw_fe0201_01.row.prog w) ((A0 dp un (some []) outer).deeper (rwEnv sc L cdv)) (execs body (rwEnv sc L cdv)) Q E s := by
  walk_at "my fill"
  intro w sc cdv target body hast mean mg mb dp un outer base g L m s nw Q E R d z b t0 B F X N Tp S mN hd1 hu h
  walk_at "rw ast"
  obtain ⟨mR, ⟨td, mD⟩, mB⟩ := id S
  have em := tab4' mR mD mB mN
  rw [em] at F
  show wpAny _ _ (execs (_ :: _) _) _ _ _
  iterate 24 (first | walk1 | (dsimp only; walk1) | skip)
  exact h _ _ _ _ _ (by k_asm) (News.sub (by k_asm) (fun p h => List.mem_cons_of_mem _ h)) ⟨rfl, ⟨_, rfl⟩, rfl⟩ rfl rfl
theorem lit_item {prog : Program} {w : World} {A : Around} {E : Value → Shared → Prop} {s : Shared} {h₀ : Heap} {L l : Addr} {nw : List (Addr × Obj)} {vs : List Value} {v : Value} {n i : Nat} {value slice : PySem.Expr} {u : Tok} {Q : Value → Shared → Prop} (N : News h₀ L s.heap nw) (hm : (l, W.listOf vs.toArray n) ∈ nw) (hv : vs[i]? = some v) (hi : (i : Int) < 2 ^ 63) (h : Q v s)
    (hs : subscripted slice false (.ref l) (.int (i : Int) u) = operate [.ref l, .int (i : Int) u] (getItem (.ref l) (.int (i : Int) u)) := by with_unfolding_all rfl) :
    wpAny (model prog w) A (subscriptTail value slice (.ref l) (.int (i : Int) u)) Q E s := by
  have hl := N.isList hm
  exact tail_any hl.typeIs slot_list_getitem.lookup (wpAny_getItem_list (x := v) hl (by omega) hi (by simpa using hv) h) hs
theorem pmA {r t x : Addr × Obj} {nw : List (Addr × Obj)} : ∀ p ∈ r :: t :: nw, p ∈ t :: x :: r :: nw := by
  intro p h
  simp only [List.mem_cons] at h ⊢
  rcases h with h | h | h
  · exact .inr (.inr (.inl h))
  · exact .inl h
  · exact .inr (.inr (.inr h))
theorem pmB {r t : Addr × Obj} {nw : List (Addr × Obj)} : ∀ p ∈ r :: t :: nw, p ∈ t :: r :: nw := by
  intro p h
  simp only [List.mem_cons] at h ⊢
  rcases h with h | h | h
  · exact .inr (.inl h)
  · exact .inl h
  · exact .inr (.inr h)
theorem pmC {r t x : Addr × Obj} {nw : List (Addr × Obj)} : ∀ p ∈ r :: t :: nw, p ∈ x :: t :: r :: nw := by
  intro p h
  simp only [List.mem_cons] at h ⊢
  rcases h with h | h | h
  · exact .inr (.inr (.inl h))
  · exact .inr (.inl h)
  · exact .inr (.inr (.inr h))
def sgn (k : Int) : Wd := if k = 4 then Str.ofString "+" else if k = 5 then Str.ofString "-" else if k = 6 then Str.ofString "*" else if k = 7 then Str.ofString "/" else if k = 8 then Str.ofString "**" else if k = 9 then Str.ofString "^" else if k = 10 then Str.ofString "%" else Str.ofString "@"
theorem rb_at0 : ∀ {w : World} {sc : Scope} {cdv : Value} {target : PySem.Expr} {body : List Stmt} (hast : RwAst w sc cdv target body)
    {mean : ExcName → Option Value} {mg mb : Str → Option Value} {dp un : Nat} {outer : List Env} {base g : Heap} {L : Addr} {m : Str → Option Value} {s : Shared} {nw : List (Addr × Obj)} {Q : Flow → Shared → Prop} {E : Value → Shared → Prop} {R : Addr} {d r : Int} {b : Bool} {ts tr : Tok} {us : List Value} {n : Nat} 
    (B : Below (A0 dp un (some []) outer) base outer g) (F : Fr g L s.heap m) (X : (hd.heap_39 w.params).In g) (N : News g L s.heap ((R, stk us n) :: nw)) (Tp : Top hd.view_39 lo mean mg mb g) (S : RwS m R d b) (hnw : ∀ p ∈ nw, p.1 ≠ R) (hz : us.length ≤ 200) (hd1 : dp + 20 < recursionLimit) (hu : un + 60 < cLine)
    (mS : m (Str.ofString "sort") = some (.int 0 ts)) (mr : m (Str.ofString "rest") = some (.int r tr))
    (h : ∀ T t1 t2 n' h' tk' m', Fr g L h' m' → News g L h' ((R, stk (.ref T :: us) n') :: (T, ({ cls := .type "tuple", data := .seq #[.int 1 t1, .str (Str.ofString "a") t2] } : Obj)) :: nw) → RwS m' R d true → Q .next { s with heap := h', toks := tk' }),
    wpAny (model PySem.Challenge.rw_fe0201_01.row.prog w) ((A0 dp un (some []) outer).deeper (rwEnv sc L cdv)) (execs (body.drop 1) (rwEnv sc L cdv)) Q E s := by
  walk_at "my fill"
  intro w sc cdv target body hast mean mg mb dp un outer base g L m s nw Q E R d r b ts tr us n  B F X N Tp S hnw hz hd1 hu mS mr h
  walk_at "rw ast"
  obtain ⟨mR, ⟨td, mD⟩, mB⟩ := id S

  have em := tab5 mR mD mB mS mr
  rw [em] at F
  show wpAny _ _ (execs (_ :: _) _) _ _ _
  k_steps
  skip
  all_goals
    refine h _ _ _ _ _ _ _ (by k_asm) (News.sub (by k_asm) (by first | exact pmA | exact pmB | exact pmC)) ⟨rfl, ⟨_, rfl⟩, rfl⟩

theorem rb_at1 : ∀ {w : World} {sc : Scope} {cdv : Value} {target : PySem.Expr} {body : List Stmt} (hast : RwAst w sc cdv target body)
    {mean : ExcName → Option Value} {mg mb : Str → Option Value} {dp un : Nat} {outer : List Env} {base g : Heap} {L : Addr} {m : Str → Option Value} {s : Shared} {nw : List (Addr × Obj)} {Q : Flow → Shared → Prop} {E : Value → Shared → Prop} {R : Addr} {d r : Int} {b : Bool} {ts tr : Tok} {us : List Value} {n : Nat} 
    (B : Below (A0 dp un (some []) outer) base outer g) (F : Fr g L s.heap m) (X : (hd.heap_39 w.params).In g) (N : News g L s.heap ((R, stk us n) :: nw)) (Tp : Top hd.view_39 lo mean mg mb g) (S : RwS m R d b) (hnw : ∀ p ∈ nw, p.1 ≠ R) (hz : us.length ≤ 200) (hd1 : dp + 20 < recursionLimit) (hu : un + 60 < cLine)
    (mS : m (Str.ofString "sort") = some (.int 1 ts)) (mr : m (Str.ofString "rest") = some (.int r tr))
    (h : ∀ T t1 t2 n' h' tk' m', Fr g L h' m' → News g L h' ((R, stk (.ref T :: us) n') :: (T, ({ cls := .type "tuple", data := .seq #[.int 2 t1, .str (Str.ofString "2") t2] } : Obj)) :: nw) → RwS m' R d true → Q .next { s with heap := h', toks := tk' }),
    wpAny (model PySem.Challenge.rw_fe0201_01.row.prog w) ((A0 dp un (some []) outer).deeper (rwEnv sc L cdv)) (execs (body.drop 1) (rwEnv sc L cdv)) Q E s := by
  walk_at "my fill"
  intro w sc cdv target body hast mean mg mb dp un outer base g L m s nw Q E R d r b ts tr us n  B F X N Tp S hnw hz hd1 hu mS mr h
  walk_at "rw ast"
  obtain ⟨mR, ⟨td, mD⟩, mB⟩ := id S

  have em := tab5 mR mD mB mS mr
  rw [em] at F
  show wpAny _ _ (execs (_ :: _) _) _ _ _
  k_steps
  skip
  all_goals
    refine h _ _ _ _ _ _ _ (by k_asm) (News.sub (by k_asm) (by first | exact pmA | exact pmB | exact pmC)) ⟨rfl, ⟨_, rfl⟩, rfl⟩

theorem rb_at2 : ∀ {w : World} {sc : Scope} {cdv : Value} {target : PySem.Expr} {body : List Stmt} (hast : RwAst w sc cdv target body)
    {mean : ExcName → Option Value} {mg mb : Str → Option Value} {dp un : Nat} {outer : List Env} {base g : Heap} {L : Addr} {m : Str → Option Value} {s : Shared} {nw : List (Addr × Obj)} {Q : Flow → Shared → Prop} {E : Value → Shared → Prop} {R : Addr} {d r : Int} {b : Bool} {ts tr : Tok} {us : List Value} {n : Nat} 
    (B : Below (A0 dp un (some []) outer) base outer g) (F : Fr g L s.heap m) (X : (hd.heap_39 w.params).In g) (N : News g L s.heap ((R, stk us n) :: nw)) (Tp : Top hd.view_39 lo mean mg mb g) (S : RwS m R d b) (hnw : ∀ p ∈ nw, p.1 ≠ R) (hz : us.length ≤ 200) (hd1 : dp + 20 < recursionLimit) (hu : un + 60 < cLine)
    (mS : m (Str.ofString "sort") = some (.int 2 ts)) (mr : m (Str.ofString "rest") = some (.int r tr))
    (h : ∀ T t1 t2 n' h' tk' m', Fr g L h' m' → News g L h' ((R, stk (.ref T :: us) n') :: (T, ({ cls := .type "tuple", data := .seq #[.int 1 t1, .str (Str.ofString "b") t2] } : Obj)) :: nw) → RwS m' R d true → Q .next { s with heap := h', toks := tk' }),
    wpAny (model PySem.Challenge.rw_fe0201_01.row.prog w) ((A0 dp un (some []) outer).deeper (rwEnv sc L cdv)) (execs (body.drop 1) (rwEnv sc L cdv)) Q E s := by
  walk_at "my fill"
  intro w sc cdv target body hast mean mg mb dp un outer base g L m s nw Q E R d r b ts tr us n  B F X N Tp S hnw hz hd1 hu mS mr h
  walk_at "rw ast"
  obtain ⟨mR, ⟨td, mD⟩, mB⟩ := id S

  have em := tab5 mR mD mB mS mr
  rw [em] at F
  show wpAny _ _ (execs (_ :: _) _) _ _ _
  k_steps
  skip
  all_goals
    refine h _ _ _ _ _ _ _ (by k_asm) (News.sub (by k_asm) (by first | exact pmA | exact pmB | exact pmC)) ⟨rfl, ⟨_, rfl⟩, rfl⟩

theorem rb_at3 : ∀ {w : World} {sc : Scope} {cdv : Value} {target : PySem.Expr} {body : List Stmt} (hast : RwAst w sc cdv target body)
    {mean : ExcName → Option Value} {mg mb : Str → Option Value} {dp un : Nat} {outer : List Env} {base g : Heap} {L : Addr} {m : Str → Option Value} {s : Shared} {nw : List (Addr × Obj)} {Q : Flow → Shared → Prop} {E : Value → Shared → Prop} {R : Addr} {d r : Int} {b : Bool} {ts tr : Tok} {us : List Value} {n : Nat} 
    (B : Below (A0 dp un (some []) outer) base outer g) (F : Fr g L s.heap m) (X : (hd.heap_39 w.params).In g) (N : News g L s.heap ((R, stk us n) :: nw)) (Tp : Top hd.view_39 lo mean mg mb g) (S : RwS m R d b) (hnw : ∀ p ∈ nw, p.1 ≠ R) (hz : us.length ≤ 200) (hd1 : dp + 20 < recursionLimit) (hu : un + 60 < cLine)
    (mS : m (Str.ofString "sort") = some (.int 3 ts)) (mr : m (Str.ofString "rest") = some (.int r tr))
    (h : ∀ T t1 t2 n' h' tk' m', Fr g L h' m' → News g L h' ((R, stk (.ref T :: us) n') :: (T, ({ cls := .type "tuple", data := .seq #[.int 2 t1, .str (Str.ofString "3.5") t2] } : Obj)) :: nw) → RwS m' R d true → Q .next { s with heap := h', toks := tk' }),
    wpAny (model PySem.Challenge.rw_fe0201_01.row.prog w) ((A0 dp un (some []) outer).deeper (rwEnv sc L cdv)) (execs (body.drop 1) (rwEnv sc L cdv)) Q E s := by
  walk_at "my fill"
  intro w sc cdv target body hast mean mg mb dp un outer base g L m s nw Q E R d r b ts tr us n  B F X N Tp S hnw hz hd1 hu mS mr h
  walk_at "rw ast"
  obtain ⟨mR, ⟨td, mD⟩, mB⟩ := id S

  have em := tab5 mR mD mB mS mr
  rw [em] at F
  show wpAny _ _ (execs (_ :: _) _) _ _ _
  k_steps
  skip
  all_goals
    refine h _ _ _ _ _ _ _ (by k_asm) (News.sub (by k_asm) (by first | exact pmA | exact pmB | exact pmC)) ⟨rfl, ⟨_, rfl⟩, rfl⟩
theorem rb_sub1 : ∀ {w : World} {sc : Scope} {cdv : Value} {target : PySem.Expr} {body : List Stmt} (hast : RwAst w sc cdv target body)
    {mean : ExcName → Option Value} {mg mb : Str → Option Value} {dp un : Nat} {outer : List Env} {base g : Heap} {L : Addr} {m : Str → Option Value} {s : Shared} {nw : List (Addr × Obj)} {Q : Flow → Shared → Prop} {E : Value → Shared → Prop} {R : Addr} {d r : Int} {b : Bool} {ts tr : Tok} {us : List Value} {n : Nat} 
    (B : Below (A0 dp un (some []) outer) base outer g) (F : Fr g L s.heap m) (X : (hd.heap_39 w.params).In g) (N : News g L s.heap ((R, stk us n) :: nw)) (Tp : Top hd.view_39 lo mean mg mb g) (S : RwS m R d b) (hnw : ∀ p ∈ nw, p.1 ≠ R) (hz : us.length ≤ 200) (hd1 : dp + 20 < recursionLimit) (hu : un + 60 < cLine)
    (mS : m (Str.ofString "sort") = some (.int 13 ts)) (mr : m (Str.ofString "rest") = some (.int r tr)) (hd0 : d = 0) (hr3 : r.fmod 4 < 3)
    (h : ∀ T t1 t2 n' h' tk' m', Fr g L h' m' → News g L h' ((R, stk (.ref T :: us) n') :: (T, ({ cls := .type "tuple", data := .seq #[.int 1 t1, .str (Str.ofString "a") t2] } : Obj)) :: nw) → RwS m' R d true → Q .next { s with heap := h', toks := tk' }),
    wpAny (model PySem.Challenge.rw_fe0201_01.row.prog w) ((A0 dp un (some []) outer).deeper (rwEnv sc L cdv)) (execs (body.drop 1) (rwEnv sc L cdv)) Q E s := by
  walk_at "my fill"
  intro w sc cdv target body hast mean mg mb dp un outer base g L m s nw Q E R d r b ts tr us n  B F X N Tp S hnw hz hd1 hu mS mr hd0 hr3 h
  walk_at "rw ast"
  obtain ⟨mR, ⟨td, mD⟩, mB⟩ := id S
  subst hd0
  have em := tab5 mR mD mB mS mr
  rw [em] at F
  show wpAny _ _ (execs (_ :: _) _) _ _ _
  k_steps
  skip
  all_goals
    refine h _ _ _ _ _ _ _ (by k_asm) (News.sub (by k_asm) (by first | exact pmA | exact pmB | exact pmC)) ⟨rfl, ⟨_, rfl⟩, rfl⟩

theorem rb_sub2 : ∀ {w : World} {sc : Scope} {cdv : Value} {target : PySem.Expr} {body : List Stmt} (hast : RwAst w sc cdv target body)
    {mean : ExcName → Option Value} {mg mb : Str → Option Value} {dp un : Nat} {outer : List Env} {base g : Heap} {L : Addr} {m : Str → Option Value} {s : Shared} {nw : List (Addr × Obj)} {Q : Flow → Shared → Prop} {E : Value → Shared → Prop} {R : Addr} {d r : Int} {b : Bool} {ts tr : Tok} {us : List Value} {n : Nat} 
    (B : Below (A0 dp un (some []) outer) base outer g) (F : Fr g L s.heap m) (X : (hd.heap_39 w.params).In g) (N : News g L s.heap ((R, stk us n) :: nw)) (Tp : Top hd.view_39 lo mean mg mb g) (S : RwS m R d b) (hnw : ∀ p ∈ nw, p.1 ≠ R) (hz : us.length ≤ 200) (hd1 : dp + 20 < recursionLimit) (hu : un + 60 < cLine)
    (mS : m (Str.ofString "sort") = some (.int 13 ts)) (mr : m (Str.ofString "rest") = some (.int r tr)) (hd0 : d ≠ 0) (hb : b = false) (hr3 : r.fmod 4 < 3)
    (h : ∀ T t1 t2 n' h' tk' m', Fr g L h' m' → News g L h' ((R, stk (.ref T :: us) n') :: (T, ({ cls := .type "tuple", data := .seq #[.int 1 t1, .str (Str.ofString "a") t2] } : Obj)) :: nw) → RwS m' R d true → Q .next { s with heap := h', toks := tk' }),
    wpAny (model PySem.Challenge.rw_fe0201_01.row.prog w) ((A0 dp un (some []) outer).deeper (rwEnv sc L cdv)) (execs (body.drop 1) (rwEnv sc L cdv)) Q E s := by
  walk_at "my fill"
  intro w sc cdv target body hast mean mg mb dp un outer base g L m s nw Q E R d r b ts tr us n  B F X N Tp S hnw hz hd1 hu mS mr hd0 hb hr3 h
  walk_at "rw ast"
  obtain ⟨mR, ⟨td, mD⟩, mB⟩ := id S
  subst hb
  have em := tab5 mR mD mB mS mr
  rw [em] at F
  show wpAny _ _ (execs (_ :: _) _) _ _ _
  k_steps
  skip
  all_goals
    refine h _ _ _ _ _ _ _ (by k_asm) (News.sub (by k_asm) (by first | exact pmA | exact pmB | exact pmC)) ⟨rfl, ⟨_, rfl⟩, rfl⟩

theorem rb_cl1 : ∀ {w : World} {sc : Scope} {cdv : Value} {target : PySem.Expr} {body : List Stmt} (hast : RwAst w sc cdv target body)
    {mean : ExcName → Option Value} {mg mb : Str → Option Value} {dp un : Nat} {outer : List Env} {base g : Heap} {L : Addr} {m : Str → Option Value} {s : Shared} {nw : List (Addr × Obj)} {Q : Flow → Shared → Prop} {E : Value → Shared → Prop} {R : Addr} {d r : Int} {b : Bool} {ts tr : Tok} {us : List Value} {n : Nat} 
    (B : Below (A0 dp un (some []) outer) base outer g) (F : Fr g L s.heap m) (X : (hd.heap_39 w.params).In g) (N : News g L s.heap ((R, stk us n) :: nw)) (Tp : Top hd.view_39 lo mean mg mb g) (S : RwS m R d b) (hnw : ∀ p ∈ nw, p.1 ≠ R) (hz : us.length ≤ 200) (hd1 : dp + 20 < recursionLimit) (hu : un + 60 < cLine)
    (mS : m (Str.ofString "sort") = some (.int 13 ts)) (mr : m (Str.ofString "rest") = some (.int r tr)) (hd0 : d = 0) (hr3 : ¬ r.fmod 4 < 3)
    (h : ∀ T t1 t2 n' h' tk' m', Fr g L h' m' → News g L h' ((R, stk (.ref T :: us) n') :: (T, ({ cls := .type "tuple", data := .seq #[.int 54 t1, .str (Str.ofString ")") t2] } : Obj)) :: nw) → RwS m' R 0 b → Q .next { s with heap := h', toks := tk' }),
    wpAny (model PySem.Challenge.rw_fe0201_01.row.prog w) ((A0 dp un (some []) outer).deeper (rwEnv sc L cdv)) (execs (body.drop 1) (rwEnv sc L cdv)) Q E s := by
  walk_at "my fill"
  intro w sc cdv target body hast mean mg mb dp un outer base g L m s nw Q E R d r b ts tr us n  B F X N Tp S hnw hz hd1 hu mS mr hd0 hr3 h
  walk_at "rw ast"
  obtain ⟨mR, ⟨td, mD⟩, mB⟩ := id S
  subst hd0
  have em := tab5 mR mD mB mS mr
  rw [em] at F
  show wpAny _ _ (execs (_ :: _) _) _ _ _
  k_steps
  skip
  all_goals
    refine h _ _ _ _ _ _ _ (by k_asm) (News.sub (by k_asm) (by first | exact pmA | exact pmB | exact pmC)) ⟨rfl, ⟨_, rfl⟩, rfl⟩

theorem rb_cl2 : ∀ {w : World} {sc : Scope} {cdv : Value} {target : PySem.Expr} {body : List Stmt} (hast : RwAst w sc cdv target body)
    {mean : ExcName → Option Value} {mg mb : Str → Option Value} {dp un : Nat} {outer : List Env} {base g : Heap} {L : Addr} {m : Str → Option Value} {s : Shared} {nw : List (Addr × Obj)} {Q : Flow → Shared → Prop} {E : Value → Shared → Prop} {R : Addr} {d r : Int} {b : Bool} {ts tr : Tok} {us : List Value} {n : Nat} 
    (B : Below (A0 dp un (some []) outer) base outer g) (F : Fr g L s.heap m) (X : (hd.heap_39 w.params).In g) (N : News g L s.heap ((R, stk us n) :: nw)) (Tp : Top hd.view_39 lo mean mg mb g) (S : RwS m R d b) (hnw : ∀ p ∈ nw, p.1 ≠ R) (hz : us.length ≤ 200) (hd1 : dp + 20 < recursionLimit) (hu : un + 60 < cLine)
    (mS : m (Str.ofString "sort") = some (.int 13 ts)) (mr : m (Str.ofString "rest") = some (.int r tr)) (hd0 : 0 < d) (hb : b = false) (hr3 : ¬ r.fmod 4 < 3)
    (h : ∀ T t1 t2 n' h' tk' m', Fr g L h' m' → News g L h' ((R, stk (.ref T :: us) n') :: (T, ({ cls := .type "tuple", data := .seq #[.int 54 t1, .str (Str.ofString ")") t2] } : Obj)) :: nw) → RwS m' R (if d - 1 > 0 then d - 1 else 0) b → Q .next { s with heap := h', toks := tk' }),
    wpAny (model PySem.Challenge.rw_fe0201_01.row.prog w) ((A0 dp un (some []) outer).deeper (rwEnv sc L cdv)) (execs (body.drop 1) (rwEnv sc L cdv)) Q E s := by
  walk_at "my fill"
  intro w sc cdv target body hast mean mg mb dp un outer base g L m s nw Q E R d r b ts tr us n  B F X N Tp S hnw hz hd1 hu mS mr hd0 hb hr3 h
  walk_at "rw ast"
  obtain ⟨mR, ⟨td, mD⟩, mB⟩ := id S
  subst hb
  have em := tab5 mR mD mB mS mr
  rw [em] at F
  show wpAny _ _ (execs (_ :: _) _) _ _ _
  k_steps
  skip
  all_goals
    refine h _ _ _ _ _ _ _ (by k_asm) (News.sub (by k_asm) (by first | exact pmA | exact pmB | exact pmC)) ⟨rfl, ⟨_, rfl⟩, rfl⟩

theorem rb_cl3 : ∀ {w : World} {sc : Scope} {cdv : Value} {target : PySem.Expr} {body : List Stmt} (hast : RwAst w sc cdv target body)
    {mean : ExcName → Option Value} {mg mb : Str → Option Value} {dp un : Nat} {outer : List Env} {base g : Heap} {L : Addr} {m : Str → Option Value} {s : Shared} {nw : List (Addr × Obj)} {Q : Flow → Shared → Prop} {E : Value → Shared → Prop} {R : Addr} {d r : Int} {b : Bool} {ts tr : Tok} {us : List Value} {n : Nat} 
    (B : Below (A0 dp un (some []) outer) base outer g) (F : Fr g L s.heap m) (X : (hd.heap_39 w.params).In g) (N : News g L s.heap ((R, stk us n) :: nw)) (Tp : Top hd.view_39 lo mean mg mb g) (S : RwS m R d b) (hnw : ∀ p ∈ nw, p.1 ≠ R) (hz : us.length ≤ 200) (hd1 : dp + 20 < recursionLimit) (hu : un + 60 < cLine)
    (mS : m (Str.ofString "sort") = some (.int 13 ts)) (mr : m (Str.ofString "rest") = some (.int r tr)) (hd0 : 0 < d) (hb : b = true)
    (h : ∀ T t1 t2 n' h' tk' m', Fr g L h' m' → News g L h' ((R, stk (.ref T :: us) n') :: (T, ({ cls := .type "tuple", data := .seq #[.int 54 t1, .str (Str.ofString ")") t2] } : Obj)) :: nw) → RwS m' R (if d - 1 > 0 then d - 1 else 0) b → Q .next { s with heap := h', toks := tk' }),
    wpAny (model PySem.Challenge.rw_fe0201_01.row.prog w) ((A0 dp un (some []) outer).deeper (rwEnv sc L cdv)) (execs (body.drop 1) (rwEnv sc L cdv)) Q E s := by
  walk_at "my fill"
  intro w sc cdv target body hast mean mg mb dp un outer base g L m s nw Q E R d r b ts tr us n  B F X N Tp S hnw hz hd1 hu mS mr hd0 hb h
  walk_at "rw ast"
  obtain ⟨mR, ⟨td, mD⟩, mB⟩ := id S
  subst hb
  have em := tab5 mR mD mB mS mr
  rw [em] at F
  show wpAny _ _ (execs (_ :: _) _) _ _ _
  k_steps
  skip
  all_goals
    refine h _ _ _ _ _ _ _ (by k_asm) (News.sub (by k_asm) (by first | exact pmA | exact pmB | exact pmC)) ⟨rfl, ⟨_, rfl⟩, rfl⟩
theorem rb_sk1 : ∀ {w : World} {sc : Scope} {cdv : Value} {target : PySem.Expr} {body : List Stmt} (hast : RwAst w sc cdv target body)
    {mean : ExcName → Option Value} {mg mb : Str → Option Value} {dp un : Nat} {outer : List Env} {base g : Heap} {L : Addr} {m : Str → Option Value} {s : Shared} {nw : List (Addr × Obj)} {Q : Flow → Shared → Prop} {E : Value → Shared → Prop} {R : Addr} {d r : Int} {b : Bool} {ts tr : Tok} {us : List Value} {n : Nat} 
    (B : Below (A0 dp un (some []) outer) base outer g) (F : Fr g L s.heap m) (X : (hd.heap_39 w.params).In g) (N : News g L s.heap ((R, stk us n) :: nw)) (Tp : Top hd.view_39 lo mean mg mb g) (S : RwS m R d b) (hnw : ∀ p ∈ nw, p.1 ≠ R) (hz : us.length ≤ 200) (hd1 : dp + 20 < recursionLimit) (hu : un + 60 < cLine)
    (mS : m (Str.ofString "sort") = some (.int 14 ts)) (mr : m (Str.ofString "rest") = some (.int r tr)) (hr3 : r.fmod 2 = 1)
    (h : ∀ T t1 t2 n' h' tk' m', Fr g L h' m' → News g L h' ((R, stk (.ref T :: us) n') :: (T, ({ cls := .type "tuple", data := .seq #[.int 3 t1, .str (Str.ofString "s") t2] } : Obj)) :: nw) → RwS m' R d b → Q .next { s with heap := h', toks := tk' }),
    wpAny (model PySem.Challenge.rw_fe0201_01.row.prog w) ((A0 dp un (some []) outer).deeper (rwEnv sc L cdv)) (execs (body.drop 1) (rwEnv sc L cdv)) Q E s := by
  walk_at "my fill"
  intro w sc cdv target body hast mean mg mb dp un outer base g L m s nw Q E R d r b ts tr us n  B F X N Tp S hnw hz hd1 hu mS mr hr3 h
  walk_at "rw ast"
  obtain ⟨mR, ⟨td, mD⟩, mB⟩ := id S

  have em := tab5 mR mD mB mS mr
  rw [em] at F
  show wpAny _ _ (execs (_ :: _) _) _ _ _
  k_steps
  skip
  all_goals
    refine h _ _ _ _ _ _ _ (by k_asm) (News.sub (by k_asm) (by first | exact pmA | exact pmB | exact pmC)) ⟨rfl, ⟨_, rfl⟩, rfl⟩

theorem rb_sk2 : ∀ {w : World} {sc : Scope} {cdv : Value} {target : PySem.Expr} {body : List Stmt} (hast : RwAst w sc cdv target body)
    {mean : ExcName → Option Value} {mg mb : Str → Option Value} {dp un : Nat} {outer : List Env} {base g : Heap} {L : Addr} {m : Str → Option Value} {s : Shared} {nw : List (Addr × Obj)} {Q : Flow → Shared → Prop} {E : Value → Shared → Prop} {R : Addr} {d r : Int} {b : Bool} {ts tr : Tok} {us : List Value} {n : Nat} 
    (B : Below (A0 dp un (some []) outer) base outer g) (F : Fr g L s.heap m) (X : (hd.heap_39 w.params).In g) (N : News g L s.heap ((R, stk us n) :: nw)) (Tp : Top hd.view_39 lo mean mg mb g) (S : RwS m R d b) (hnw : ∀ p ∈ nw, p.1 ≠ R) (hz : us.length ≤ 200) (hd1 : dp + 20 < recursionLimit) (hu : un + 60 < cLine)
    (mS : m (Str.ofString "sort") = some (.int 14 ts)) (mr : m (Str.ofString "rest") = some (.int r tr)) (hr3 : r.fmod 2 ≠ 1)
    (h : ∀ T t1 t2 n' h' tk' m', Fr g L h' m' → News g L h' ((R, stk (.ref T :: us) n') :: (T, ({ cls := .type "tuple", data := .seq #[.int 4 t1, .str (Str.ofString "") t2] } : Obj)) :: nw) → RwS m' R d b → Q .next { s with heap := h', toks := tk' }),
    wpAny (model PySem.Challenge.rw_fe0201_01.row.prog w) ((A0 dp un (some []) outer).deeper (rwEnv sc L cdv)) (execs (body.drop 1) (rwEnv sc L cdv)) Q E s := by
  walk_at "my fill"
  intro w sc cdv target body hast mean mg mb dp un outer base g L m s nw Q E R d r b ts tr us n  B F X N Tp S hnw hz hd1 hu mS mr hr3 h
  walk_at "rw ast"
  obtain ⟨mR, ⟨td, mD⟩, mB⟩ := id S

  have em := tab5 mR mD mB mS mr
  rw [em] at F
  show wpAny _ _ (execs (_ :: _) _) _ _ _
  k_steps
  skip
  all_goals
    refine h _ _ _ _ _ _ _ (by k_asm) (News.sub (by k_asm) (by first | exact pmA | exact pmB | exact pmC)) ⟨rfl, ⟨_, rfl⟩, rfl⟩

theorem rb_eof : ∀ {w : World} {sc : Scope} {cdv : Value} {target : PySem.Expr} {body : List Stmt} (hast : RwAst w sc cdv target body)
    {mean : ExcName → Option Value} {mg mb : Str → Option Value} {dp un : Nat} {outer : List Env} {base g : Heap} {L : Addr} {m : Str → Option Value} {s : Shared} {nw : List (Addr × Obj)} {Q : Flow → Shared → Prop} {E : Value → Shared → Prop} {R : Addr} {d r : Int} {b : Bool} {ts tr : Tok} {us : List Value} {n : Nat} 
    (B : Below (A0 dp un (some []) outer) base outer g) (F : Fr g L s.heap m) (X : (hd.heap_39 w.params).In g) (N : News g L s.heap ((R, stk us n) :: nw)) (Tp : Top hd.view_39 lo mean mg mb g) (S : RwS m R d b) (hnw : ∀ p ∈ nw, p.1 ≠ R) (hz : us.length ≤ 200) (hd1 : dp + 20 < recursionLimit) (hu : un + 60 < cLine)
    (mS : m (Str.ofString "sort") = some (.int 15 ts)) (mr : m (Str.ofString "rest") = some (.int r tr)) (hr3 : r.fmod 4 = 3)
    (h : ∀ T t1 t2 n' h' tk' m', Fr g L h' m' → News g L h' ((R, stk (.ref T :: us) n') :: (T, ({ cls := .type "tuple", data := .seq #[.int 0 t1, .str (Str.ofString "") t2] } : Obj)) :: nw) → RwS m' R d b → Q .next { s with heap := h', toks := tk' }),
    wpAny (model PySem.Challenge.rw_fe0201_01.row.prog w) ((A0 dp un (some []) outer).deeper (rwEnv sc L cdv)) (execs (body.drop 1) (rwEnv sc L cdv)) Q E s := by
  walk_at "my fill"
  intro w sc cdv target body hast mean mg mb dp un outer base g L m s nw Q E R d r b ts tr us n  B F X N Tp S hnw hz hd1 hu mS mr hr3 h
  walk_at "rw ast"
  obtain ⟨mR, ⟨td, mD⟩, mB⟩ := id S

  have em := tab5 mR mD mB mS mr
  rw [em] at F
  show wpAny _ _ (execs (_ :: _) _) _ _ _
  k_steps
  skip
  all_goals
    refine h _ _ _ _ _ _ _ (by k_asm) (News.sub (by k_asm) (by first | exact pmA | exact pmB | exact pmC)) ⟨rfl, ⟨_, rfl⟩, rfl⟩

theorem rb_op1 : ∀ {w : World} {sc : Scope} {cdv : Value} {target : PySem.Expr} {body : List Stmt} (hast : RwAst w sc cdv target body)
    {mean : ExcName → Option Value} {mg mb : Str → Option Value} {dp un : Nat} {outer : List Env} {base g : Heap} {L : Addr} {m : Str → Option Value} {s : Shared} {nw : List (Addr × Obj)} {Q : Flow → Shared → Prop} {E : Value → Shared → Prop} {R : Addr} {d r : Int} {b : Bool} {ts tr : Tok} {us : List Value} {n : Nat} 
    (B : Below (A0 dp un (some []) outer) base outer g) (F : Fr g L s.heap m) (X : (hd.heap_39 w.params).In g) (N : News g L s.heap ((R, stk us n) :: nw)) (Tp : Top hd.view_39 lo mean mg mb g) (S : RwS m R d b) (hnw : ∀ p ∈ nw, p.1 ≠ R) (hz : us.length ≤ 200) (hd1 : dp + 20 < recursionLimit) (hu : un + 60 < cLine)
    (mS : m (Str.ofString "sort") = some (.int 15 ts)) (mr : m (Str.ofString "rest") = some (.int r tr)) (hr3 : r.fmod 4 ≠ 3)
    (h : ∀ T t1 t2 n' h' tk' m', Fr g L h' m' → News g L h' ((R, stk (.ref T :: us) n') :: (T, ({ cls := .type "tuple", data := .seq #[.int 54 t1, .str (Str.ofString "(") t2] } : Obj)) :: nw) → RwS m' R (d + 1) false → Q .next { s with heap := h', toks := tk' }),
    wpAny (model PySem.Challenge.rw_fe0201_01.row.prog w) ((A0 dp un (some []) outer).deeper (rwEnv sc L cdv)) (execs (body.drop 1) (rwEnv sc L cdv)) Q E s := by
  walk_at "my fill"
  intro w sc cdv target body hast mean mg mb dp un outer base g L m s nw Q E R d r b ts tr us n  B F X N Tp S hnw hz hd1 hu mS mr hr3 h
  walk_at "rw ast"
  obtain ⟨mR, ⟨td, mD⟩, mB⟩ := id S

  have em := tab5 mR mD mB mS mr
  rw [em] at F
  show wpAny _ _ (execs (_ :: _) _) _ _ _
  k_steps
  skip
  all_goals
    refine h _ _ _ _ _ _ _ (by k_asm) (News.sub (by k_asm) (by first | exact pmA | exact pmB | exact pmC)) ⟨rfl, ⟨_, rfl⟩, rfl⟩

theorem rb_op2 : ∀ {w : World} {sc : Scope} {cdv : Value} {target : PySem.Expr} {body : List Stmt} (hast : RwAst w sc cdv target body)
    {mean : ExcName → Option Value} {mg mb : Str → Option Value} {dp un : Nat} {outer : List Env} {base g : Heap} {L : Addr} {m : Str → Option Value} {s : Shared} {nw : List (Addr × Obj)} {Q : Flow → Shared → Prop} {E : Value → Shared → Prop} {R : Addr} {d r : Int} {b : Bool} {ts tr : Tok} {us : List Value} {n : Nat} 
    (B : Below (A0 dp un (some []) outer) base outer g) (F : Fr g L s.heap m) (X : (hd.heap_39 w.params).In g) (N : News g L s.heap ((R, stk us n) :: nw)) (Tp : Top hd.view_39 lo mean mg mb g) (S : RwS m R d b) (hnw : ∀ p ∈ nw, p.1 ≠ R) (hz : us.length ≤ 200) (hd1 : dp + 20 < recursionLimit) (hu : un + 60 < cLine)
    (mS : m (Str.ofString "sort") = some (.int 12 ts)) (mr : m (Str.ofString "rest") = some (.int r tr))
    (h : ∀ T t1 t2 n' h' tk' m', Fr g L h' m' → News g L h' ((R, stk (.ref T :: us) n') :: (T, ({ cls := .type "tuple", data := .seq #[.int 54 t1, .str (Str.ofString "(") t2] } : Obj)) :: nw) → RwS m' R (d + 1) false → Q .next { s with heap := h', toks := tk' }),
    wpAny (model PySem.Challenge.rw_fe0201_01.row.prog w) ((A0 dp un (some []) outer).deeper (rwEnv sc L cdv)) (execs (body.drop 1) (rwEnv sc L cdv)) Q E s := by
  walk_at "my fill"
  intro w sc cdv target body hast mean mg mb dp un outer base g L m s nw Q E R d r b ts tr us n  B F X N Tp S hnw hz hd1 hu mS mr h
  walk_at "rw ast"
  obtain ⟨mR, ⟨td, mD⟩, mB⟩ := id S

  have em := tab5 mR mD mB mS mr
  rw [em] at F
  show wpAny _ _ (execs (_ :: _) _) _ _ _
  k_steps
  skip
  all_goals
    refine h _ _ _ _ _ _ _ (by k_asm) (News.sub (by k_asm) (by first | exact pmA | exact pmB | exact pmC)) ⟨rfl, ⟨_, rfl⟩, rfl⟩
section
local macro_rules | `(tactic| walk_at "subscriptTail") => `(tactic| ((k_here; (with_reducible show wpAny _ _ (subscriptTail _ _ (Value.ref 239) (Value.int _ _)) _ _ _); (with_unfolding_all refine' pickK (listIn ?kx ?kf ?ko) ?k3 ?k4 ?k5 ?_ ?k6; (case kx => k_asm); (case kf => k_asm); (case ko => k_is); (case k3 => l_idx); (case k4 => l_idx); (case k5 => l_idx); (case k6 => with_unfolding_all rfl); k_whole); k_few); (dsimp only [PickAt]); k_places; (all_goals (try k_fold))))
theorem rb_sg : ∀ {w : World} {sc : Scope} {cdv : Value} {target : PySem.Expr} {body : List Stmt} (hast : RwAst w sc cdv target body)
    {mean : ExcName → Option Value} {mg mb : Str → Option Value} {dp un : Nat} {outer : List Env} {base g : Heap} {L : Addr} {m : Str → Option Value} {s : Shared} {nw : List (Addr × Obj)} {Q : Flow → Shared → Prop} {E : Value → Shared → Prop} {R : Addr} {d r : Int} {b : Bool} {ts tr : Tok} {us : List Value} {n : Nat} {k : Int}
    (B : Below (A0 dp un (some []) outer) base outer g) (F : Fr g L s.heap m) (X : (hd.heap_39 w.params).In g) (N : News g L s.heap ((R, stk us n) :: nw)) (Tp : Top hd.view_39 lo mean mg mb g) (S : RwS m R d b) (hnw : ∀ p ∈ nw, p.1 ≠ R) (hz : us.length ≤ 200) (hd1 : dp + 20 < recursionLimit) (hu : un + 60 < cLine)
    (mS : m (Str.ofString "sort") = some (.int k ts)) (mr : m (Str.ofString "rest") = some (.int r tr)) (hk4 : 4 ≤ k) (hk12 : k < 12)
    (h : ∀ T t1 t2 n' h' tk' m', Fr g L h' m' → News g L h' ((R, stk (.ref T :: us) n') :: (T, ({ cls := .type "tuple", data := .seq #[.int 54 t1, .str (sgn k) t2] } : Obj)) :: nw) → RwS m' R d false → Q .next { s with heap := h', toks := tk' }),
    wpAny (model PySem.Challenge.rw_fe0201_01.row.prog w) ((A0 dp un (some []) outer).deeper (rwEnv sc L cdv)) (execs (body.drop 1) (rwEnv sc L cdv)) Q E s := by
  walk_at "my fill"
  intro w sc cdv target body hast mean mg mb dp un outer base g L m s nw Q E R d r b ts tr us n k  B F X N Tp S hnw hz hd1 hu mS mr hk4 hk12 h
  walk_at "rw ast"
  obtain ⟨mR, ⟨td, mD⟩, mB⟩ := id S

  have em := tab5 mR mD mB mS mr
  rw [em] at F
  show wpAny _ _ (execs (_ :: _) _) _ _ _
  k_steps
  skip
  all_goals
    have e : k = 4 ∨ k = 5 ∨ k = 6 ∨ k = 7 ∨ k = 8 ∨ k = 9 ∨ k = 10 ∨ k = 11 := by omega
    rcases e with e | e | e | e | e | e | e | e <;> first | (exfalso; omega) | (subst e; refine h _ _ _ _ _ _ _ (by k_asm) (News.sub (by k_asm) (by first | exact pmB)) ⟨rfl, ⟨_, rfl⟩, rfl⟩)
end
theorem tick_7 {prog : Program} {w : World} {A : Around} {E : Value → Shared → Prop} {env : Env} {Q : Flow → Shared → Prop} {s : Shared} (h : Q .next s) : wpAny (model prog w) A (execs [] env) Q E s := by
  walk1
  exact h
theorem news_ne {g h : Heap} {L a b : Addr} {oa ob : Obj} {nw : List (Addr × Obj)} (N : News g L h nw) (ha : (a, oa) ∈ nw) (hb : (b, ob) ∈ nw) (hc : oa.cls ≠ ob.cls) : a ≠ b := by
  intro e
  have h1 := (N _ ha).1
  have h2 := (N _ hb).1
  dsimp only at h1 h2
  rw [e, h2] at h1
  exact hc (by rw [Option.some.inj h1])
abbrev SgOk (w : Wd) : Prop := w ≠ wE ∧ w ≠ Str.ofString "+/-"
theorem sgn_ok (k : Int) : sgn k ≠ Str.ofString "(" ∧ sgn k ≠ Str.ofString ")" ∧ (sgn k).length ≤ 10 ∧ SgOk (sgn k) := by
  unfold sgn
  repeat' split
  all_goals decide +kernel
theorem rw_turn {w : World} {sc : Scope} {cdv : Value} {target : PySem.Expr} {body : List Stmt} (hast : RwAst w sc cdv target body)
    {mean : ExcName → Option Value} {mg mb : Str → Option Value} {dp un : Nat} {outer : List Env} {base g : Heap} {L : Addr} {m : Str → Option Value} {s : Shared} {nw : List (Addr × Obj)} {Q : Flow → Shared → Prop} {E : Value → Shared → Prop} {R : Addr} {d z : Int} {b : Bool} {t0 : Tok} {us : List Value} {n : Nat}
    (B : Below (A0 dp un (some []) outer) base outer g) (F : Fr g L s.heap m) (X : (hd.heap_39 w.params).In g) (N : News g L s.heap ((R, stk us n) :: nw)) (Tp : Top hd.view_39 lo mean mg mb g) (S : RwS m R d b) (mN : m (Str.ofString "number") = some (.int z t0)) (hnw : ∀ p ∈ nw, p.1 ≠ R) (hz : us.length ≤ 200) (hd1 : dp + 20 < recursionLimit) (hu : un + 60 < cLine) (hd0 : 0 ≤ d)
    (h : ∀ T kd wd tk t1 t2 n' h' tk' m' d' b', Fr g L h' m' → News g L h' ((R, stk (.ref T :: us) n') :: (T, ({ cls := .type "tuple", data := .seq #[.int kd t1, .str wd t2] } : Obj)) :: nw) → KW kd wd tk → (∀ w, tk = .sign w → SgOk w) → RwS m' R d' b' → 0 ≤ d' → Q .next { s with heap := h', toks := tk' }) :
    wpAny (model PySem.Challenge.rw_fe0201_01.row.prog w) ((A0 dp un (some []) outer).deeper (rwEnv sc L cdv)) (execs body (rwEnv sc L cdv)) Q E s := by
  refine row_a hast B F X N Tp S mN hd1 hu fun h1 tk1 m1 ts tr F1 N1 S1 mS mr => ?_
  have hm : 0 ≤ z.fmod 16 ∧ z.fmod 16 < 16 := ⟨Int.fmod_nonneg_of_pos _ (by decide), Int.fmod_lt_of_pos _ (by decide)⟩
  generalize z.fdiv 16 = r at mr
  generalize z.fmod 16 = k at mS hm
  have nos : ∀ {tk : Tk}, (∀ w, tk ≠ .sign w) → ∀ w, tk = .sign w → SgOk w := fun h w e => absurd e (h w)
  by_cases h4 : 4 ≤ k ∧ k < 12
  · have sk := sgn_ok k
    exact rb_sg hast B F1 X N1 Tp S1 hnw hz hd1 hu mS mr h4.1 h4.2 fun T t1 t2 n' h' tk' m' F' N' S' => h _ _ _ (.sign (sgn k)) _ _ _ _ _ _ _ _ F' N' ⟨rfl, rfl, sk.1, sk.2.1, sk.2.2.1⟩ (fun w e => by cases e; exact sk.2.2.2) S' hd0
  have hk : k = 0 ∨ k = 1 ∨ k = 2 ∨ k = 3 ∨ k = 12 ∨ k = 13 ∨ k = 14 ∨ k = 15 := by omega
  rcases hk with rfl | rfl | rfl | rfl | rfl | rfl | rfl | rfl
  · exact rb_at0 hast B F1 X N1 Tp S1 hnw hz hd1 hu mS mr fun T t1 t2 n' h' tk' m' F' N' S' => h _ _ _ (.atom _) _ _ _ _ _ _ _ _ F' N' ⟨.inl rfl, rfl, by decide +kernel⟩ (nos fun w e => by cases e) S' hd0
  · exact rb_at1 hast B F1 X N1 Tp S1 hnw hz hd1 hu mS mr fun T t1 t2 n' h' tk' m' F' N' S' => h _ _ _ (.atom _) _ _ _ _ _ _ _ _ F' N' ⟨.inr rfl, rfl, by decide +kernel⟩ (nos fun w e => by cases e) S' hd0
  · exact rb_at2 hast B F1 X N1 Tp S1 hnw hz hd1 hu mS mr fun T t1 t2 n' h' tk' m' F' N' S' => h _ _ _ (.atom _) _ _ _ _ _ _ _ _ F' N' ⟨.inl rfl, rfl, by decide +kernel⟩ (nos fun w e => by cases e) S' hd0
  · exact rb_at3 hast B F1 X N1 Tp S1 hnw hz hd1 hu mS mr fun T t1 t2 n' h' tk' m' F' N' S' => h _ _ _ (.atom _) _ _ _ _ _ _ _ _ F' N' ⟨.inr rfl, rfl, by decide +kernel⟩ (nos fun w e => by cases e) S' hd0
  · exact rb_op2 hast B F1 X N1 Tp S1 hnw hz hd1 hu mS mr fun T t1 t2 n' h' tk' m' F' N' S' => h _ _ _ .opn _ _ _ _ _ _ _ _ F' N' ⟨rfl, rfl⟩ (nos fun w e => by cases e) S' (by omega)
  · by_cases hr3 : r.fmod 4 < 3
    · by_cases hd2 : d = 0
      · exact rb_sub1 hast B F1 X N1 Tp S1 hnw hz hd1 hu mS mr hd2 hr3 fun T t1 t2 n' h' tk' m' F' N' S' => h _ _ _ (.atom _) _ _ _ _ _ _ _ _ F' N' ⟨.inl rfl, rfl, by decide +kernel⟩ (nos fun w e => by cases e) S' hd0
      · cases b with
        | false => exact rb_sub2 hast B F1 X N1 Tp S1 hnw hz hd1 hu mS mr hd2 rfl hr3 fun T t1 t2 n' h' tk' m' F' N' S' => h _ _ _ (.atom _) _ _ _ _ _ _ _ _ F' N' ⟨.inl rfl, rfl, by decide +kernel⟩ (nos fun w e => by cases e) S' hd0
        | true => exact rb_cl3 hast B F1 X N1 Tp S1 hnw hz hd1 hu mS mr (by omega) rfl fun T t1 t2 n' h' tk' m' F' N' S' => h _ _ _ .cls _ _ _ _ _ _ _ _ F' N' ⟨rfl, rfl⟩ (nos fun w e => by cases e) S' (by split <;> omega)
    · by_cases hd2 : d = 0
      · exact rb_cl1 hast B F1 X N1 Tp S1 hnw hz hd1 hu mS mr hd2 hr3 fun T t1 t2 n' h' tk' m' F' N' S' => h _ _ _ .cls _ _ _ _ _ _ _ _ F' N' ⟨rfl, rfl⟩ (nos fun w e => by cases e) S' (Int.le_refl _)
      · cases b with
        | false => exact rb_cl2 hast B F1 X N1 Tp S1 hnw hz hd1 hu mS mr (by omega) rfl hr3 fun T t1 t2 n' h' tk' m' F' N' S' => h _ _ _ .cls _ _ _ _ _ _ _ _ F' N' ⟨rfl, rfl⟩ (nos fun w e => by cases e) S' (by split <;> omega)
        | true => exact rb_cl3 hast B F1 X N1 Tp S1 hnw hz hd1 hu mS mr (by omega) rfl fun T t1 t2 n' h' tk' m' F' N' S' => h _ _ _ .cls _ _ _ _ _ _ _ _ F' N' ⟨rfl, rfl⟩ (nos fun w e => by cases e) S' (by split <;> omega)
  · by_cases hr3 : r.fmod 2 = 1
    · exact rb_sk1 hast B F1 X N1 Tp S1 hnw hz hd1 hu mS mr hr3 fun T t1 t2 n' h' tk' m' F' N' S' => h _ _ _ .skip _ _ _ _ _ _ _ _ F' N' (.inl rfl) (nos fun w e => by cases e) S' hd0
    · exact rb_sk2 hast B F1 X N1 Tp S1 hnw hz hd1 hu mS mr hr3 fun T t1 t2 n' h' tk' m' F' N' S' => h _ _ _ .skip _ _ _ _ _ _ _ _ F' N' (.inr rfl) (nos fun w e => by cases e) S' hd0
  · by_cases hr3 : r.fmod 4 = 3
    · exact rb_eof hast B F1 X N1 Tp S1 hnw hz hd1 hu mS mr hr3 fun T t1 t2 n' h' tk' m' F' N' S' => h _ _ _ .eof _ _ _ _ _ _ _ _ F' N' rfl (nos fun w e => by cases e) S' hd0
    · exact rb_op1 hast B F1 X N1 Tp S1 hnw hz hd1 hu mS mr hr3 fun T t1 t2 n' h' tk' m' F' N' S' => h _ _ _ .opn _ _ _ _ _ _ _ _ F' N' ⟨rfl, rfl⟩ (nos fun w e => by cases e) S' (by omega)
theorem rw_assign : ∀ {w : World} {sc : Scope} {cdv : Value} {target : PySem.Expr} {body : List Stmt} (hast : RwAst w sc cdv target body)
    {dp un : Nat} {outer : List Env} {base g : Heap} {L : Addr} {m : Str → Option Value} {s : Shared} {Q : Unit → Shared → Prop} {E : Value → Shared → Prop} {nw : List (Addr × Obj)}
    {R : Addr} {d z : Int} {b : Bool} {t0 : Tok}
    (B : Below (A0 dp un (some []) outer) base outer g) (F : Fr g L s.heap m) (N : News g L s.heap nw) (S : RwS m R d b)
    (h : ∀ h' tk' m', Fr g L h' m' → News g L h' nw → RwS m' R d b → m' (Str.ofString "number") = some (.int z t0) → Q () { s with heap := h', toks := tk' }),
    wpAny (model PySem.Challenge.rw_fe0201_01.row.prog w) ((A0 dp un (some []) outer).deeper (rwEnv sc L cdv)) (assign target (rwEnv sc L cdv) (.int z t0)) Q E s := by
  walk_at "my fill"
  intro w sc cdv target body hast dp un outer base g L m s Q E nw R d z b t0 B F N S h
  walk_at "rw ast"
  obtain ⟨mR, ⟨td, mD⟩, mB⟩ := id S
  have em := tab3 mR mD mB
  rw [em] at F
  show wpAny _ _ (assign (Expr.Name _ _) _ _) _ _ _
  k_steps
  exact h _ _ _ (by k_asm) (by k_asm) ⟨rfl, ⟨_, rfl⟩, rfl⟩ rfl
theorem RowIs.snoc {nw : List (Addr × Obj)} {vs : List Value} {ts : List Tk} {T : Addr} {kd : Int} {wd : Wd} {t1 t2 : Tok} {n : Nat} {tk : Tk} (h : RowIs nw vs ts) (h1 : (T, ({ cls := .type "tuple", data := .seq #[.int kd t1, .str wd t2] n } : Obj)) ∈ nw) (h2 : KW kd wd tk) : RowIs nw (vs ++ [.ref T]) (ts ++ [tk]) := by
  induction h with
  | nil => exact .cons h1 h2 .nil
  | cons a b _ i => exact .cons a b i
theorem rw_loop {w : World} {sc : Scope} {cdv : Value} {target : PySem.Expr} {body : List Stmt} (hast : RwAst w sc cdv target body)
    {mean : ExcName → Option Value} {mg mb : Str → Option Value} {dp un : Nat} {outer : List Env} {base g : Heap} {L : Addr} {s : Shared} {Q : Flow → Shared → Prop} {E : Value → Shared → Prop} {R NL I : Addr} {numO : Obj} {nw0 : List (Addr × Obj)} {tot : Nat}
    (B : Below (A0 dp un (some []) outer) base outer g) (X : (hd.heap_39 w.params).In g) (Tp : Top hd.view_39 lo mean mg mb g) (hd1 : dp + 20 < recursionLimit) (hu : un + 60 < cLine) (htot : tot ≤ 100)
    (hn : ∀ us ts n' nw' h' tk' m', Fr g L h' m' → News g L h' ((R, stk us n') :: nw') → (∀ p ∈ nw0, p ∈ nw') → RowIs nw' us.reverse ts → ts.length = tot → (∀ w, Tk.sign w ∈ ts → SgOk w) → m' (Str.ofString "row") = some (.ref R) → Q .next { s with heap := h', toks := tk' }) :
    ∀ (zs : List Int) (vs : List Value) (us : List Value) (ts : List Tk) (n : Nat) (nw : List (Addr × Obj)) (m : Str → Option Value) (d : Int) (b : Bool), IntsAre vs zs → RowIs nw us.reverse ts → ts.length + zs.length = tot → (∀ w, Tk.sign w ∈ ts → SgOk w) → (NL, numO) ∈ nw → (∀ p ∈ nw0, p ∈ nw) → (∀ p ∈ nw, p.1 ≠ R) → (∀ p ∈ nw, p.1 ≠ I) → R ≠ I → RwS m R d b → 0 ≤ d →
      ItemsRest PySem.Challenge.rw_fe0201_01.row.prog w ((A0 dp un (some []) outer).deeper (rwEnv sc L cdv)) E g (rwEnv sc L cdv) target body Q s [(I, "list_iterator")] [(NL, numO)] (vs.map .val) m ((R, stk us n) :: nw) := by
  intro zs
  induction zs with
  | nil =>
    intro vs us ts n nw m d b hI hR hl hs hN h0 hr hi ne S hd0
    cases hI
    refine ItemsRest.zero fun h tk F N => ?_
    exact hn _ _ _ _ _ _ _ F N h0 hR (by simpa using hl) hs S.mR
  | cons z zs ih =>
    intro vs us ts n nw m d b hI hR hl hs hN h0 hr hi ne S hd0
    cases hI with
    | @cons _ t0 vs _ hI =>
    refine ItemsRest.val fun h tk0 F => AllObj.cons fun o ho => AllObj.nil fun N => ?_
    refine rw_assign hast B F N S fun h2 tk2 m2 F2 N2 S2 mN => ?_
    have hul : us.length = ts.length := by rw [← hR.len, List.length_reverse]
    simp only [List.length_cons] at hl
    refine rw_turn hast (nw := (I, o) :: nw) B F2 X (News.sub N2 fun p hp => by
      rcases List.mem_cons.mp hp with e | hp
      · exact e ▸ List.mem_cons_of_mem _ (List.mem_cons_self ..)
      · rcases List.mem_cons.mp hp with e | hp
        · exact e ▸ List.mem_cons_self ..
        · exact List.mem_cons_of_mem _ (List.mem_cons_of_mem _ hp)) Tp S2 mN (List.forall_mem_cons.mpr ⟨Ne.symm ne, hr⟩) (by omega) hd1 hu hd0 fun T kd wd tk t1 t2 n' h' tk' m' d' b' F' N' hK hsg S' hd' => ?_
    have mT : (T, ({ cls := .type "tuple", data := .seq #[.int kd t1, .str wd t2] } : Obj)) ∈ (R, stk (.ref T :: us) n') :: (T, ({ cls := .type "tuple", data := .seq #[.int kd t1, .str wd t2] } : Obj)) :: (I, o) :: nw := List.mem_cons_of_mem _ (List.mem_cons_self ..)
    have neR : T ≠ R := news_ne N' mT (List.mem_cons_self ..) (by simp)
    have neI : T ≠ I := news_ne N' mT (List.mem_cons_of_mem _ (List.mem_cons_of_mem _ (List.mem_cons_self ..))) (by dsimp only; rw [ho]; simp)
    have sub : ∀ p ∈ nw, p ∈ (T, ({ cls := .type "tuple", data := .seq #[.int kd t1, .str wd t2] } : Obj)) :: nw := fun p hp => List.mem_cons_of_mem _ hp
    refine ⟨h', tk', m', (R, stk (.ref T :: us) n') :: (T, ({ cls := .type "tuple", data := .seq #[.int kd t1, .str wd t2] } : Obj)) :: nw, rfl, F', News.sub N' ?_, ?_, ⟨List.mem_cons_of_mem _ (sub _ hN), trivial⟩, ?_⟩
    · intro p hp
      rcases List.mem_append.mp hp with hp | hp
      · rw [List.mem_singleton.mp hp]
        exact List.mem_cons_of_mem _ (List.mem_cons_of_mem _ (List.mem_cons_self ..))
      · rcases List.mem_cons.mp hp with e | hp
        · exact e ▸ List.mem_cons_self ..
        · rcases List.mem_cons.mp hp with e | hp
          · exact e ▸ List.mem_cons_of_mem _ (List.mem_cons_self ..)
          · exact List.mem_cons_of_mem _ (List.mem_cons_of_mem _ (List.mem_cons_of_mem _ hp))
    · intro p hp x hx
      rw [List.mem_singleton.mp hx]
      rcases List.mem_cons.mp hp with e | hp
      · rw [e]; exact ne
      · rcases List.mem_cons.mp hp with e | hp
        · rw [e]; exact neI
        · exact hi p hp
    · refine ih vs (.ref T :: us) (ts ++ [tk]) n' _ m' d' b' hI ?_ (by simp only [List.length_append, List.length_cons, List.length_nil]; omega) ?_ (sub _ hN) (fun p hp => sub p (h0 p hp)) (List.forall_mem_cons.mpr ⟨neR, hr⟩) (List.forall_mem_cons.mpr ⟨neI, hi⟩) ne S' hd'
      · rw [List.reverse_cons]
        exact (hR.mono sub).snoc (List.mem_cons_self ..) hK
      · intro x hx
        rcases List.mem_append.mp hx with hx | hx
        · exact hs x hx
        · exact hsg x (List.mem_singleton.mp hx).symm
theorem tab1 {m : Str → Option Value} {x1 : Str} {v1 : Value} (h1 : m x1 = some v1) : m = (fun y => if y = x1 then some v1 else m y) := by
  funext y
  split
  · rename_i e; rw [e]; exact h1
  · rfl
theorem aux_ne {news : List (Addr × Obj)} {R : Addr} (h : ∀ p ∈ news, @LT.lt Nat _ p.1 R) : ∀ p ∈ news, p.1 ≠ R := fun p hp e => Nat.lt_irrefl _ (show @LT.lt Nat _ _ _ from e ▸ h p hp)
structure RowOk (len : Nat) (nw : List (Addr × Obj)) (r : Value) : Prop where
  x : ∃ R vs n ts, r = .ref R ∧ (R, W.listOf (List.toArray vs) n) ∈ nw ∧ RowIs nw vs ts ∧ ts.length = len ∧ ∀ w, Tk.sign w ∈ ts → SgOk w
section
local macro_rules | `(tactic| walk_at "exec For Name Name cons nil") => `(tactic| (k_here; refine hold_it ?_))
theorem rw_call : ∀ {w : World} {mean : ExcName → Option Value} {mg mb : Str → Option Value} {NL : Addr} {vs : List Value} {zs : List Int} {n : Nat} {news : List (Addr × Obj)}
    (hN : (NL, W.listOf vs.toArray n) ∈ news) (hI : IntsAre vs zs) (hz : zs.length ≤ 100),
    Spec w mean mg mb 261 [.ref NL] 30 80 news (RowOk zs.length) (fun _ => False) := by
  unfold Spec
  walk_at "my fill"
  intro w mean mg mb NL vs zs n news hN hI hz dp un cn cs a ccd outer A₀ base h₀ L m s Q E B F X N Tp hk hd1 hu hQ hE
  refine wpAny_call ?_
  k_dflt (walk_at "my enter")
  k_steps
  try unfold Hold
  k_dflt refine' For_turns ?F0 ?_
  case F0 => k_asm
  k_whole
  walk1
  refine' iter_listTurns (lo := W.listOf vs.toArray n) (vs := vs) (n := n) ?hh ?F ?N ?hm rfl rfl ?_
  case hh => exact rfl
  case F => k_asm
  case N => exact News.sub (by k_asm) (fun p h => List.mem_cons_of_mem _ h)
  case hm => exact List.mem_cons_of_mem _ hN
  intro I hIn
  have ne' : ∀ {a b : Addr}, @LT.lt Nat _ a b → a ≠ b := fun h e => Nat.lt_irrefl _ (show @LT.lt Nat _ _ _ from e ▸ h)
  refine' rw_loop (dp := dp) (un := un) (nw0 := news) (tot := zs.length) ?ast ?B ?X ?T ?h1 ?h2 hz ?hn zs vs [] [] 0 news _ 0 false hI .nil (by simp) (fun w h => nomatch h) hN (fun _ h => h) ?a1 ?a2 ?a3 ?S (Int.le_refl _)
  case ast => exact rfl
  case B => k_asm
  case X => k_asm
  case T => k_asm
  case h1 => omega
  case h2 => omega
  case a1 => first | exact aux_ne (by assumption) | exact allLt_ne (by assumption)
  case a2 => exact fun p hp => ne' (hIn p (List.mem_cons_of_mem _ hp))
  case a3 => exact ne' (hIn _ (List.mem_cons_self ..))
  case S => exact ⟨rfl, ⟨_, rfl⟩, rfl⟩
  case hn =>
    intro us ts n' nw' h' tk' m' F' N' sub hR hl hs mR
    have em := tab1 mR
    rw [em] at F'
    dsimp only
    k_steps
    exact hQ _ _ _ _ (by k_asm) (by k_asm) (fun p hp => List.mem_cons_of_mem _ (sub p hp)) ⟨⟨_, us.reverse, n', ts, rfl, List.mem_cons_self .., hR.mono fun p hp => List.mem_cons_of_mem _ hp, hl, hs⟩⟩
end
theorem tick_8 {prog : Program} {w : World} {A : Around} {E : Value → Shared → Prop} {env : Env} {Q : Flow → Shared → Prop} {s : Shared} (h : Q .next s) : wpAny (model prog w) A (execs [] env) Q E s := by
  walk1
  exact h
end
theorem tick_9 {prog : Program} {w : World} {A : Around} {E : Value → Shared → Prop} {env : Env} {Q : Flow → Shared → Prop} {s : Shared} (h : Q .next s) : wpAny (model prog w) A (execs [] env) Q E s := by
  walk1
  exact h
section
open PyProof.V
def RkAst (w : World) (sc : Scope) (cdv : Value) (target : PySem.Expr) (body : List Stmt) : Prop := forR ((hd.heap_39 w.params).lookup 254) = some (sc, cdv, target, body)
local macro_rules | `(tactic| walk_at "rk ast") => `(tactic| (refine' rw_use ?e (by assumption) ?kk; (case e => k_dflt k_is); intro hast2; (dsimp only [forR] at hast2); (simp only [Option.some.injEq, Prod.mk.injEq] at hast2); obtain ⟨a1, a2, a3, a4⟩ := hast2; subst a1 a2 a3 a4))
abbrev rkEnv (sc : Scope) (L : Addr) (cdv : Value) : Env := envOf (Str.ofString "_law_ranks") sc L 254 cdv
structure RkS (m : Str → Option Value) (RD : Addr) (f : Int) : Prop where
  mR : m (Str.ofString "ranks") = some (.ref RD)
  mF : ∃ t, m (Str.ofString "first") = some (.int f t)
def rkDr (f kk : Int) : Int := (f.fdiv (9 ^ kk.toNat) + kk * f.fmod 7 + kk).fmod 9
def rkStep (f kk : Int) (wd : Wd) (c : List (Str × Int)) : List (Str × Int) := if rkDr f kk < 8 ∨ wd = wE then kdpPut c wd ((rkDr f kk).fmod 4) else c
theorem rkStep_1 {f kk : Int} {wd : Wd} {c : List (Str × Int)} (h : rkDr f kk < 8) : rkStep f kk wd c = kdpPut c wd ((rkDr f kk).fmod 4) := if_pos (.inl h)
theorem rkStep_2 {f kk : Int} {wd : Wd} {c : List (Str × Int)} (h : (wd == Str.ofString "") = true) : rkStep f kk wd c = kdpPut c wd ((rkDr f kk).fmod 4) := if_pos (.inr (eq_of_beq h))
theorem rkStep_3 {f kk : Int} {wd : Wd} {c : List (Str × Int)} (h : ¬ rkDr f kk < 8) (h2 : (wd == Str.ofString "") = false) : rkStep f kk wd c = c := if_neg (fun z => z.elim h fun e => by rw [e] at h2; exact absurd h2 (by decide))
section
local macro_rules | `(tactic| walk_at "setItem ref") => `(tactic| (k_here; k_dflt (refine' kdp_setItem ?F ?N ?U ?ho ?hf ?hc ?_; (case F => k_asm); (case N => k_asm); (case U => exact UpdF.head (by assumption)); (case ho => assumption); (case hf => assumption); (case hc => omega); intro h' o' kvs' F' N' a b)))
theorem rk_turn : ∀ {w : World} {sc : Scope} {cdv : Value} {target : PySem.Expr} {body : List Stmt} (hast : RkAst w sc cdv target body)
    {mean : ExcName → Option Value} {mg mb : Str → Option Value} {dp un : Nat} {outer : List Env} {base g : Heap} {L : Addr} {m : Str → Option Value} {s : Shared} {nw : List (Addr × Obj)} {Q : Flow → Shared → Prop} {E : Value → Shared → Prop} {RD : Addr} {f : Int} {t0 t1 : Tok} {kk : Int} {wd : Wd} {o : Obj} {kvs : List (Str × Value)} {c : List (Str × Int)}
    (B : Below (A0 dp un (some []) outer) base outer g) (F : Fr g L s.heap m) (X : (hd.heap_39 w.params).In g) (N : News g L s.heap ((RD, o) :: nw)) (Tp : Top hd.view_39 lo mean mg mb g) (S : RkS m RD f) (mK : m (Str.ofString "k") = some (.int kk t0)) (mW : m (Str.ofString "word") = some (.str wd t1)) (hnw : ∀ p ∈ nw, p.1 ≠ RD)
    (ho : o.IsDictOf (PySem.strKind PySem.Challenge.rw_fe0201_01.row.prog w) kvs) (hf : FlatPairs PyData.str kvs (kdpD c)) (hc : c.length ≤ 100) (hd1 : dp + 20 < recursionLimit) (hu : un + 60 < cLine) (hf0 : 0 ≤ f) (hi : kk = 0 ∨ kk = 1 ∨ kk = 2 ∨ kk = 3 ∨ kk = 4 ∨ kk = 5 ∨ kk = 6 ∨ kk = 7 ∨ kk = 8 ∨ kk = 9) (hf9 : f < 3486784401)
    (h : ∀ h' tk' m' o' kvs', Fr g L h' m' → News g L h' ((RD, o') :: nw) → o'.IsDictOf (PySem.strKind PySem.Challenge.rw_fe0201_01.row.prog w) kvs' → FlatPairs PyData.str kvs' (kdpD (rkStep f kk wd c)) → RkS m' RD f → Q .next { s with heap := h', toks := tk' }),
    wpAny (model PySem.Challenge.rw_fe0201_01.row.prog w) ((A0 dp un (some []) outer).deeper (rkEnv sc L cdv)) (execs body (rkEnv sc L cdv)) Q E s := by
  walk_at "my fill"
  intro w sc cdv target body hast mean mg mb dp un outer base g L m s nw Q E RD f t0 t1 kk wd o kvs c B F X N Tp S mK mW hnw ho hf hc hd1 hu hf0 hi hf9 h
  walk_at "rk ast"
  obtain ⟨mR, ⟨tf, mF⟩⟩ := id S
  have em := tab4' mR mF mK mW
  rw [em] at F
  rcases hi with rfl | rfl | rfl | rfl | rfl | rfl | rfl | rfl | rfl | rfl
  all_goals
    show wpAny _ _ (execs (_ :: _) _) _ _ _
    k_steps
    · exact h _ _ _ _ _ (by k_asm) (by k_asm) (by assumption) (by rw [rkStep_1 (by assumption)]; assumption) ⟨rfl, ⟨_, rfl⟩⟩
    · exact h _ _ _ _ _ (by k_asm) (by k_asm) (by assumption) (by rw [rkStep_2 (by assumption)]; assumption) ⟨rfl, ⟨_, rfl⟩⟩
    · exact h _ _ _ _ _ (by k_asm) (by k_asm) (by assumption) (by rw [rkStep_3 (by assumption) (by assumption)]; assumption) ⟨rfl, ⟨_, rfl⟩⟩
end
theorem tick_10 {prog : Program} {w : World} {A : Around} {E : Value → Shared → Prop} {env : Env} {Q : Flow → Shared → Prop} {s : Shared} (h : Q .next s) : wpAny (model prog w) A (execs [] env) Q E s := by
  walk1
  exact h
theorem rk_assign : ∀ {w : World} {sc : Scope} {cdv : Value} {target : PySem.Expr} {body : List Stmt} (hast : RkAst w sc cdv target body)
    {dp un : Nat} {outer : List Env} {base g : Heap} {L : Addr} {m : Str → Option Value} {s : Shared} {Q : Unit → Shared → Prop} {E : Value → Shared → Prop} {nw : List (Addr × Obj)}
    {RD T : Addr} {f kk : Int} {wd : Wd} {t0 t1 : Tok}
    (B : Below (A0 dp un (some []) outer) base outer g) (F : Fr g L s.heap m) (N : News g L s.heap nw) (hT : IsTup s.heap T #[.int kk t0, .str wd t1]) (S : RkS m RD f)
    (h : ∀ h' tk' m', Fr g L h' m' → News g L h' nw → RkS m' RD f → m' (Str.ofString "k") = some (.int kk t0) → m' (Str.ofString "word") = some (.str wd t1) → Q () { s with heap := h', toks := tk' }),
    wpAny (model PySem.Challenge.rw_fe0201_01.row.prog w) ((A0 dp un (some []) outer).deeper (rkEnv sc L cdv)) (assign target (rkEnv sc L cdv) (.ref T)) Q E s := by
  walk_at "my fill"
  intro w sc cdv target body hast dp un outer base g L m s Q E nw RD T f kk wd t0 t1 B F N hT S h
  walk_at "rk ast"
  obtain ⟨mR, ⟨td, mF⟩⟩ := id S
  have em : m = (fun y => if y = Str.ofString "ranks" then some (.ref RD) else if y = Str.ofString "first" then some (.int f td) else m y) := by
    funext y
    repeat' split
    all_goals first | rfl | (rename_i e; subst e; assumption)
  rw [em] at F
  show wpAny _ _ (assign (Expr.Tuple _ _ _) _ (Value.ref _)) _ _ _
  refine' unpackN_ F N hT rfl rfl rfl ?_
  intro h' F' N'
  k_steps
  exact h _ _ _ (by k_asm) (by k_asm) ⟨rfl, ⟨_, rfl⟩⟩ rfl rfl
def rkGo (f : Int) : Nat → List Wd → List (Str × Int) → List (Str × Int)
  | _, [], c => c
  | i, w :: l, c => rkGo f (i + 1) l (rkStep f (i : Int) w c)
def rkWords : List Wd := [Str.ofString "+", Str.ofString "-", Str.ofString "*", Str.ofString "/", Str.ofString "**", Str.ofString "^", Str.ofString "%", Str.ofString "@", Str.ofString "", Str.ofString "unary"]
def ranksOf (f : Int) : List (Str × Int) := rkGo f 0 rkWords []
theorem rkStep_len (f kk : Int) (wd : Wd) (c : List (Str × Int)) : (rkStep f kk wd c).length ≤ c.length + 1 := by
  unfold rkStep
  split
  · exact kdpPut_len _ _ _
  · omega
theorem rk_loop {w : World} {sc : Scope} {cdv : Value} {target : PySem.Expr} {body : List Stmt} (hast : RkAst w sc cdv target body)
    {mean : ExcName → Option Value} {mg mb : Str → Option Value} {dp un : Nat} {outer : List Env} {base g : Heap} {L : Addr} {s : Shared} {Q : Flow → Shared → Prop} {E : Value → Shared → Prop} {RD NL I1 I2 : Addr} {f : Int} {numO : Obj} {nw : List (Addr × Obj)} {fin : List (Str × Int)}
    (B : Below (A0 dp un (some []) outer) base outer g) (X : (hd.heap_39 w.params).In g) (Tp : Top hd.view_39 lo mean mg mb g) (hd1 : dp + 20 < recursionLimit) (hu : un + 60 < cLine) (hf0 : 0 ≤ f) (hf9 : f < 3486784401)
    (hN : (NL, numO) ∈ nw) (hr : ∀ p ∈ nw, p.1 ≠ RD) (h1 : ∀ p ∈ nw, p.1 ≠ I1) (h2 : ∀ p ∈ nw, p.1 ≠ I2) (n1 : RD ≠ I1) (n2 : RD ≠ I2)
    (hn : ∀ o' kvs' h' tk' m', Fr g L h' m' → News g L h' ((RD, o') :: nw) → o'.IsDictOf (PySem.strKind PySem.Challenge.rw_fe0201_01.row.prog w) kvs' → FlatPairs PyData.str kvs' (kdpD fin) → m' (Str.ofString "ranks") = some (.ref RD) → Q .next { s with heap := h', toks := tk' }) :
    ∀ (ws : List (Wd × Tok)) (i : Nat) (o : Obj) (kvs : List (Str × Value)) (c : List (Str × Int)) (m : Str → Option Value), i + ws.length ≤ 10 → c.length ≤ i → rkGo f i (ws.map (·.1)) c = fin → o.IsDictOf (PySem.strKind PySem.Challenge.rw_fe0201_01.row.prog w) kvs → FlatPairs PyData.str kvs (kdpD c) → RkS m RD f →
      ItemsRest PySem.Challenge.rw_fe0201_01.row.prog w ((A0 dp un (some []) outer).deeper (rkEnv sc L cdv)) E g (rkEnv sc L cdv) target body Q s [(I1, "enumerate"), (I2, "list_iterator")] [(NL, numO)] (enumItems i (ws.map fun p => .str p.1 p.2)) m ((RD, o) :: nw) := by
  intro ws
  induction ws with
  | nil =>
    intro i o kvs c m hi hc hg ho hf S
    have hg : c = fin := hg
    subst hg
    exact ItemsRest.zero fun h tk F N => hn _ _ _ _ _ F N ho hf S.mR
  | cons p ws ih =>
    intro i o kvs c m hi hc hg ho hf S
    simp only [List.length_cons] at hi
    refine ItemsRest.pair fun T t h tk0 hT F => AllObj.cons fun o1 ho1 => AllObj.cons fun o2 ho2 => AllObj.nil fun N => ?_
    refine rk_assign hast B F N hT S fun h2' tk2 m2 F2 N2 S2 mK mW => ?_
    refine rk_turn hast (nw := (I1, o1) :: (I2, o2) :: nw) B F2 X (News.sub N2 fun p hp => by
      simp only [List.mem_cons, List.cons_append, List.nil_append] at hp ⊢
      rcases hp with e | e | e | e
      · exact .inr (.inr (.inl e))
      · exact .inl e
      · exact .inr (.inl e)
      · exact .inr (.inr (.inr e))) Tp S2 mK mW (List.forall_mem_cons.mpr ⟨Ne.symm n1, List.forall_mem_cons.mpr ⟨Ne.symm n2, hr⟩⟩) ho hf (by omega) hd1 hu hf0 (by omega) hf9 fun h' tk' m' o' kvs' F' N' ho' hf' S' => ?_
    refine ⟨h', tk', m', (RD, o') :: nw, rfl, F', News.sub N' ?_, ?_, ⟨List.mem_cons_of_mem _ hN, trivial⟩, ?_⟩
    · intro p hp
      simp only [List.mem_cons, List.cons_append, List.nil_append] at hp ⊢
      rcases hp with e | e | e | e
      · exact .inr (.inl e)
      · exact .inr (.inr (.inl e))
      · exact .inl e
      · exact .inr (.inr (.inr e))
    · intro p hp x hx
      simp only [List.mem_cons, List.not_mem_nil, or_false] at hx
      rcases List.mem_cons.mp hp with e | hp
      · rcases hx with hx | hx
        · rw [e, hx]; exact n1
        · rw [e, hx]; exact n2
      · rcases hx with hx | hx
        · rw [hx]; exact h1 p hp
        · rw [hx]; exact h2 p hp
    · have := rkStep_len f (i : Int) p.1 c
      exact ih (i + 1) o' kvs' (rkStep f (i : Int) p.1 c) m' (by omega) (by omega) hg ho' hf' S'
theorem hold_rk {P : Prop} (h : Hold P) : P := h
section
local macro_rules | `(tactic| walk_at "binaryOp Add ref ref") => `(tactic| (k_here; (with_reducible show wpAny _ _ (binaryOp _ (Value.ref 239) (Value.ref _)) _ _ _); k_dflt (refine' kmk_add_lit ?F ?N ?a ?b ?e ?_ ?z; (case F => k_asm); (case N => k_asm); (case a => exact listIn (by k_asm) (by k_asm) (by k_is)); (case b => exact News.isList (by k_asm) (List.mem_cons_self ..)); (case e => exact rfl); (case z => exact Nat.le_of_ble_eq_true rfl)); intro D' h' F' N' l1))
local macro_rules | `(tactic| walk_at "exec For Tuple Call cons nil") => `(tactic| (k_here; refine hold_rk ?_))
local macro_rules | `(tactic| walk_at "call type:enumerate") => `(tactic| (k_here; refine hold_rk ?_))
structure RanksOk (w : World) (f : Int) (nw : List (Addr × Obj)) (r : Value) : Prop where
  x : ∃ RD o kvs, r = .ref RD ∧ (RD, o) ∈ nw ∧ (RD == sysModules) = false ∧ o.IsDictOf (PySem.strKind PySem.Challenge.rw_fe0201_01.row.prog w) kvs ∧ FlatPairs PyData.str kvs (kdpD (ranksOf f))
theorem rk_call : ∀ {w : World} {mean : ExcName → Option Value} {mg mb : Str → Option Value} {f : Int} {tf : Tok} {news : List (Addr × Obj)} (hf0 : 0 ≤ f) (hf9 : f < 3486784401),
    Spec w mean mg mb 254 [.int f tf] 30 80 news (RanksOk w f) (fun _ => False) := by
  unfold Spec
  walk_at "my fill"
  intro w mean mg mb f tf news hf0 hf9 dp un cn cs a ccd outer A₀ base h₀ L m s Q E B F X N Tp hk hd1 hu hQ hE
  refine wpAny_call ?_
  k_dflt (walk_at "my enter")
  k_steps
  try unfold Hold
  rename Fr _ _ _ _ => lF
  with_unfolding_all refine' For_turns lF ?_
  k_whole
  k_steps
  unfold Hold
  have ne' : ∀ {a b : Addr}, @LT.lt Nat _ a b → a ≠ b := fun h e => Nat.lt_irrefl _ (show @LT.lt Nat _ _ _ from e ▸ h)
  rename (∀ p ∈ (_ : Addr × Obj) :: _ :: news, @LT.lt Nat _ p.1 _) => lD
  have lD' := lD _ (List.mem_cons_of_mem _ (List.mem_cons_self ..))
  refine' ktu_enum (vs := List.map (fun p : Wd × Tok => Value.str p.1 p.2) [(_, _), (_, _), (_, _), (_, _), (_, _), (_, _), (_, _), (_, _), (_, _), (_, _)]) ?hh ?F ?N ?hm ?hc ?hd ?hx ?_
  case hh => exact rfl
  case F => k_asm
  case N => exact News.sub (by k_asm) pmA
  case hm => exact List.mem_cons_of_mem _ (List.mem_cons_self ..)
  case hc => exact rfl
  case hd => exact rfl
  case hx => exact rfl
  intro I hIn
  refine' rk_loop (dp := dp) (un := un) (fin := ranksOf f) (f := f) ?ast ?B ?X ?T ?h1 ?h2 hf0 hf9 (List.mem_cons_self ..) ?a1 ?a2 ?a3 ?a4 ?a5 ?hn _ 0 _ _ [] _ (Nat.le_refl _) (Nat.le_refl _) ?go ?ho ?hf ?S
  case ast => exact rfl
  case B => k_asm
  case X => k_asm
  case T => k_asm
  case h1 => omega
  case h2 => omega
  case a1 => exact List.forall_mem_cons.mpr ⟨(ne' lD').symm, by first | exact aux_ne (by assumption) | exact allLt_ne (by assumption)⟩
  case a2 => exact fun p hp => ne' (Nat.lt_succ_of_lt (hIn p (List.mem_cons_of_mem _ hp)))
  case a3 => exact fun p hp => ne' (hIn p (List.mem_cons_of_mem _ hp))
  case a4 => exact ne' (Nat.lt_succ_of_lt (hIn _ (List.mem_cons_self ..)))
  case a5 => exact ne' (hIn _ (List.mem_cons_self ..))
  case go => exact rfl
  case ho => assumption
  case hf => exact .nil
  case S => exact ⟨rfl, ⟨_, rfl⟩⟩
  case hn =>
    intro o' kvs' h' tk' m' F' N' ho' hf' mR
    have em := tab1 mR
    rw [em] at F'
    dsimp only
    k_steps
    exact hQ _ _ _ _ (by k_asm) (by k_asm) (fun p hp => List.mem_cons_of_mem _ (List.mem_cons_of_mem _ hp)) ⟨⟨_, _, _, rfl, List.mem_cons_self .., by assumption, ho', hf'⟩⟩
end
theorem tick_11 {prog : Program} {w : World} {A : Around} {E : Value → Shared → Prop} {env : Env} {Q : Flow → Shared → Prop} {s : Shared} (h : Q .next s) : wpAny (model prog w) A (execs [] env) Q E s := by
  walk1
  exact h
end
theorem tick_12 {prog : Program} {w : World} {A : Around} {E : Value → Shared → Prop} {env : Env} {Q : Flow → Shared → Prop} {s : Shared} (h : Q .next s) : wpAny (model prog w) A (execs [] env) Q E s := by
  walk1
  exact h
theorem lr_assign : ∀ {w : World} {sc : Scope} {cdv : Value} {target : PySem.Expr} {body : List Stmt} (hast : LrAst w sc cdv target body)
    {dp un : Nat} {outer : List Env} {base g : Heap} {L : Addr} {m : Str → Option Value} {s : Shared} {Q : Unit → Shared → Prop} {E : Value → Shared → Prop} {nw : List (Addr × Obj)}
    {H D T : Addr} {ready : Bool} {kd : Int} {wd : Wd} {t1 t2 : Tok} {n : Nat}
    (B : Below (A0 dp un (some []) outer) base outer g) (F : Fr g L s.heap m) (N : News g L s.heap nw) (hT : (T, ({ cls := .type "tuple", data := .seq #[.int kd t1, .str wd t2] n } : Obj)) ∈ nw) (S : LrS m H D ready)
    (h : ∀ h' tk' m', Fr g L h' m' → News g L h' nw → LrS m' H D ready → m' (Str.ofString "kind") = some (.int kd t1) → m' (Str.ofString "word") = some (.str wd t2) → Q () { s with heap := h', toks := tk' }),
    wpAny (model PySem.Challenge.rw_fe0201_01.row.prog w) ((A0 dp un (some []) outer).deeper (lrEnv sc L cdv)) (assign target (lrEnv sc L cdv) (.ref T)) Q E s := by
  walk_at "my fill"
  intro w sc cdv target body hast dp un outer base g L m s Q E nw H D T ready kd wd t1 t2 n B F N hT S h
  walk_at "lr ast"
  obtain ⟨mH, mR, mD⟩ := id S
  have em := tab3 mH mR mD
  rw [em] at F
  show wpAny _ _ (assign (Expr.Tuple _ _ _) _ (Value.ref _)) _ _ _
  refine' unpackN_ F N (News.isTup N hT) rfl rfl rfl ?_
  intro h' F' N'
  k_steps
  exact h _ _ _ (by k_asm) (by k_asm) ⟨rfl, rfl, rfl⟩ rfl rfl
theorem maddr_mem {gl : List GA} {a : Addr} (h : a ∈ maddr gl) : ∃ p ∈ muts gl, p.1 = a := by
  induction gl with
  | nil => cases h
  | cons g l ih =>
    simp only [maddr, List.mem_cons] at h
    rcases h with h | h | h
    · exact ⟨_, List.mem_cons_self .., h.symm⟩
    · exact ⟨_, List.mem_cons_of_mem _ (List.mem_cons_self ..), h.symm⟩
    · obtain ⟨p, hp, e⟩ := ih h
      exact ⟨p, List.mem_cons_of_mem _ (List.mem_cons_of_mem _ hp), e⟩
theorem allLt_at {d : Addr} {l : List (Addr × Obj)} (h : AllLt d l) : ∀ p ∈ l, @LT.lt Nat _ p.1 d := by
  induction l with
  | nil => exact fun _ h => nomatch h
  | cons x l ih =>
    intro p hp
    rcases List.mem_cons.mp hp with rfl | hp
    · exact h.1
    · exact ih h.2 p hp
section
variable {rest rest' : List (Addr × Obj)} {H I : Addr} {g : GA} {gl : List GA} {y : Grp} {Y : List Grp} {left : Nat} {o : Obj}
theorem LInv.off {E' : Addr} (h1 : @LT.lt Nat _ H E') (h2 : @LT.lt Nat _ g.P E') (h3 : @LT.lt Nat _ g.W E') (h4 : AllLt E' (muts gl ++ ((I, o) :: rest))) : E' ∉ I :: H :: maddr (g :: gl) := by
  have h5 := allLt_at h4
  intro hm
  simp only [maddr, List.mem_cons] at hm
  rcases hm with e | e | e | e | e
  · exact Nat.lt_irrefl _ (show @LT.lt Nat _ I I from e ▸ h5 (I, o) (List.mem_append_right _ (List.mem_cons_self ..)))
  · exact Nat.lt_irrefl _ (show @LT.lt Nat _ H H from e ▸ h1)
  · exact Nat.lt_irrefl _ (show @LT.lt Nat _ g.P g.P from e ▸ h2)
  · exact Nat.lt_irrefl _ (show @LT.lt Nat _ g.W g.W from e ▸ h3)
  · obtain ⟨p, hp, e2⟩ := maddr_mem e
    exact Nat.lt_irrefl _ (show @LT.lt Nat _ p.1 p.1 from (e2.symm ▸ h5 p (List.mem_append_left _ hp) : @LT.lt Nat _ p.1 p.1))
theorem LInv.set (h : LInv rest H I (g :: gl) (y :: Y) (left + 1)) (hs : ∀ p ∈ rest, p ∈ rest') (hf : ∀ p ∈ rest', p.1 ∉ I :: H :: maddr (g :: gl)) {vs' us' : List Value} {n' k' : Nat} {ps' : List Tr} {ws' : List Wt}
    (hP : PR vs' ps') (hW : WR rest' us' ws') (h1 : ∀ t ∈ ps', TrOk t) (h2 : ∀ x ∈ ws', x.word.length ≤ 10) (hz : psz ps' + ws'.length ≤ psz y.parts + y.wait.length + 2) :
    LInv rest' H I ({ g with vs := vs', us := us', n := n', k := k' } :: gl) (⟨ps', ws', y.joined⟩ :: Y) left := by
  obtain ⟨gr, nd, fr, sz, ln⟩ := h
  cases gr with
  | @cons _ _ _ _ n hG _ _ _ _ gr =>
  refine ⟨.cons (hs _ hG) hP hW h1 h2 (gr.mono hs), nd, hf, ?_, ?_⟩
  · simp only [gsz] at sz ⊢; omega
  · simp only [List.length_cons] at ln ⊢; omega
theorem LInv.less (h : LInv rest H I gl Y (left + 1)) : LInv rest H I gl Y left := ⟨h.gr, h.nd, h.fr, by have := h.sz; omega, by have := h.ln; omega⟩
theorem LInv.tail (h : LInv rest H I (g :: gl) (y :: Y) left) : LInv rest H I gl Y left := by
  obtain ⟨gr, nd, fr, sz, ln⟩ := h
  cases gr with
  | @cons _ _ _ _ n hG _ _ _ _ gr =>
  refine ⟨gr, ?_, fun p hp => ?_, ?_, ?_⟩
  · simp only [maddr, List.nodup_cons, List.mem_cons, not_or] at nd ⊢
    exact ⟨⟨nd.1.1, nd.1.2.2.2⟩, nd.2.1.2.2, nd.2.2.2.2⟩
  · have := fr p hp
    simp only [maddr, List.mem_cons, not_or] at this ⊢
    exact ⟨this.1, this.2.1, this.2.2.2.2⟩
  · simp only [gsz] at sz ⊢; omega
  · simp only [List.length_cons] at ln ⊢; omega
theorem LInv.push (h : LInv rest H I (g :: gl) (y :: Y) (left + 1)) {G' P' W' : Addr} {ready : Bool} {n' k' g' : Nat}
    (hP : @LT.lt Nat _ H P' ∧ @LT.lt Nat _ g.P P' ∧ @LT.lt Nat _ g.W P' ∧ AllLt P' (muts gl ++ ((I, o) :: rest))) (hW : @LT.lt Nat _ P' W' ∧ @LT.lt Nat _ H W' ∧ @LT.lt Nat _ g.P W' ∧ @LT.lt Nat _ g.W W' ∧ AllLt W' (muts gl ++ ((I, o) :: rest)))
    (hG : @LT.lt Nat _ W' G' ∧ @LT.lt Nat _ P' G' ∧ @LT.lt Nat _ H G' ∧ @LT.lt Nat _ g.P G' ∧ @LT.lt Nat _ g.W G' ∧ AllLt G' (muts gl ++ ((I, o) :: rest))) :
    LInv ((G', grpO P' W' ready g') :: rest) H I (⟨G', P', W', [], [], n', k'⟩ :: g :: gl) (⟨[], [], ready⟩ :: y :: Y) left := by
  obtain ⟨gr, nd, fr, sz, ln⟩ := h
  have oP := LInv.off hP.1 hP.2.1 hP.2.2.1 hP.2.2.2
  have oW := LInv.off hW.2.1 hW.2.2.1 hW.2.2.2.1 hW.2.2.2.2
  have oG := LInv.off hG.2.2.1 hG.2.2.2.1 hG.2.2.2.2.1 hG.2.2.2.2.2
  have lPW : P' ≠ W' := fun e => Nat.lt_irrefl _ (show @LT.lt Nat _ W' W' from e ▸ hW.1)
  have lWG : G' ≠ W' := fun e => Nat.lt_irrefl _ (show @LT.lt Nat _ G' G' from (e.symm ▸ hG.1 : @LT.lt Nat _ G' G'))
  have lPG : G' ≠ P' := fun e => Nat.lt_irrefl _ (show @LT.lt Nat _ G' G' from (e.symm ▸ hG.2.1 : @LT.lt Nat _ G' G'))
  have key : ∀ p ∈ rest, p.1 ≠ P' ∧ p.1 ≠ W' := fun p hp =>
    ⟨Nat.ne_of_lt (allLt_at hP.2.2.2 p (List.mem_append_right _ (List.mem_cons_of_mem _ hp))), Nat.ne_of_lt (allLt_at hW.2.2.2.2 p (List.mem_append_right _ (List.mem_cons_of_mem _ hp)))⟩
  refine ⟨.cons (List.mem_cons_self ..) .nil .nil (fun _ h => nomatch h) (fun _ h => nomatch h) (gr.mono fun p hp => List.mem_cons_of_mem _ hp), ?_, ?_, ?_, ?_⟩
  · simp only [maddr, List.nodup_cons, List.mem_cons, not_or] at nd oP oW ⊢
    exact ⟨⟨nd.1.1, Ne.symm oP.1, Ne.symm oW.1, nd.1.2⟩, ⟨Ne.symm oP.2.1, Ne.symm oW.2.1, nd.2.1⟩, ⟨lPW, oP.2.2⟩, oW.2.2, nd.2.2⟩
  · refine List.forall_mem_cons.mpr ⟨?_, fun p hp => ?_⟩
    · simp only [maddr, List.mem_cons, not_or] at oG ⊢
      exact ⟨oG.1, oG.2.1, lPG, lWG, oG.2.2⟩
    · have h1 := fr p hp
      have h2 := key p hp
      simp only [maddr, List.mem_cons, not_or] at h1 ⊢
      exact ⟨h1.1, h1.2.1, h2.1, h2.2, h1.2.2⟩
  · simp only [gsz, psz, List.length_nil] at sz ⊢; omega
  · simp only [List.length_cons] at ln ⊢; omega
end
theorem lperm4 {H G' P' W' : Addr} {nH n' k' : Nat} {g : GA} {gl : List GA} {rest : List (Addr × Obj)} {x y : Addr × Obj} : ∀ p ∈ x :: lled H nH (⟨G', P', W', [], [], n', k'⟩ :: g :: gl) (y :: rest),
    p ∈ (H, stk (.ref G' :: .ref g.G :: gl.map fun g => .ref g.G) nH) :: (P', stk [] n') :: (W', stk [] k') :: (g.P, stk g.vs g.n) :: (g.W, stk g.us g.k) :: y :: (muts gl ++ (x :: rest)) := by
  intro p h
  simp only [muts, List.mem_cons, List.mem_append, List.map_cons, List.cons_append] at h ⊢
  grind
theorem RaisedPR {t : Tr} {vs : List Value} {ps : List Tr} (h : PR vs (t :: ps)) : ∃ tk vs', vs = .str (sho t) tk :: vs' ∧ PR vs' ps := by
  cases h with
  | cons h => exact ⟨_, _, rfl, h⟩
theorem lr_loop {w : World} {sc : Scope} {cdv : Value} {target : PySem.Expr} {body : List Stmt} (hast : LrAst w sc cdv target body)
    {mean : ExcName → Option Value} {mg mb : Str → Option Value} {dp un : Nat} {outer : List Env} {base g : Heap} {L : Addr} {s : Shared} {Q : Flow → Shared → Prop} {E : Value → Shared → Prop}
    {H D R I : Addr} {c : List (Str × Int)} {q : Int} {rowO : Obj} {nw0 : List (Addr × Obj)} {res : LOut}
    (B : Below (A0 dp un (some []) outer) base outer g) (X : (hd.heap_39 w.params).In g) (Tp : Top hd.view_39 lo mean mg mb g) (hd1 : dp + 60 < recursionLimit) (hu : un + 120 < cLine) (hq : rkOf c wE = some q)
    (hr : ∀ ty h' tk' m', Fr g L h' m' → News g L h' nw0 → Q (.ret (.str (outS res) ty)) { s with heap := h', toks := tk' })
    (hn : res = .err .syn → ∀ h' tk' m', Fr g L h' m' → News g L h' nw0 → Q .next { s with heap := h', toks := tk' }) :
    ∀ (ts : List Tk) (vs : List Value) (rest : List (Addr × Obj)) (g0 : GA) (gl : List GA) (y : Grp) (Y : List Grp) (nH : Nat) (ready : Bool) (m : Str → Option Value), RowIs rest vs ts → (R, rowO) ∈ rest → DictOk w rest D c → (∀ p ∈ nw0, p ∈ rest) → LInv rest H I (g0 :: gl) (y :: Y) ts.length → LrS m H D ready → lr (rkOf c) q ts (y :: Y) ready = some res →
      ItemsRest PySem.Challenge.rw_fe0201_01.row.prog w ((A0 dp un (some []) outer).deeper (lrEnv sc L cdv)) E g (lrEnv sc L cdv) target body Q s [(I, "list_iterator")] [(R, rowO)] (vs.map .val) m (lled H nH (g0 :: gl) rest) := by
  intro ts
  induction ts with
  | nil =>
    intro vs rest g0 gl y Y nH ready m hR hk dk sub inv S hl
    cases hR
    simp only [lr, Option.some.injEq] at hl
    exact ItemsRest.zero fun h tk F N => hn hl.symm _ _ _ F (News.sub N fun p hp => List.mem_cons_of_mem _ (List.mem_append_right _ (sub p hp)))
  | cons tk ts ih =>
    intro vs rest g0 gl y Y nH ready m hR hk dk sub inv S hl
    cases hR with
    | @cons T kd wd t1 t2 nT _ vs _ hT hK hR =>
    refine ItemsRest.val fun h tk0 F => AllObj.cons fun o ho => AllObj.nil fun N => ?_
    refine lr_assign hast B F N (List.mem_cons_of_mem _ (List.mem_cons_of_mem _ (List.mem_append_right _ hT))) S fun h2 tk2 m2 F2 N2 S2 mK mW => ?_
    have fin : ∀ (h' : Heap) (tk' : Nat) (m' : Str → Option Value) (rest' : List (Addr × Obj)) (g1 : GA) (gl' : List GA) (y' : Grp) (Y' : List Grp) (nH' : Nat) (ready' : Bool), Fr g L h' m' → LrS m' H D ready' → News g L h' ((I, o) :: lled H nH' (g1 :: gl') rest') → (∀ p ∈ rest, p ∈ rest') → LInv rest' H I (g1 :: gl') (y' :: Y') ts.length → lr (rkOf c) q ts (y' :: Y') ready' = some res →
        UnrPostW g L { s with heap := h, toks := tk0 } [(I, o)] (fun m' n' => SubL [(R, rowO)] n' ∧ ItemsRest PySem.Challenge.rw_fe0201_01.row.prog w ((A0 dp un (some []) outer).deeper (lrEnv sc L cdv)) E g (lrEnv sc L cdv) target body Q s [(I, "list_iterator")] [(R, rowO)] (vs.map .val) m' n') Q .next { s with heap := h', toks := tk' } := by
      intro h' tk' m' rest' g1 gl' y' Y' nH' ready' F' S' N' hs inv' hl'
      refine ⟨h', tk', m', lled H nH' (g1 :: gl') rest', rfl, F', N', ?_, ⟨⟨List.mem_cons_of_mem _ (List.mem_append_right _ (hs _ hk)), trivial⟩, ?_⟩⟩
      · intro p hp x hx
        rw [List.mem_singleton.mp hx]
        have nd := inv'.nd
        have fr := inv'.fr
        simp only [List.nodup_cons, List.mem_cons, not_or] at nd
        rcases List.mem_cons.mp hp with e | hp
        · rw [e]; exact Ne.symm nd.1.1
        · rcases List.mem_append.mp hp with hp | hp
          · exact fun z => nd.1.2 ((show p.1 = I from z) ▸ mem_muts hp)
          · exact fun z => fr p hp (by rw [z]; exact List.mem_cons_self ..)
      · exact ih vs rest' g1 gl' y' Y' nH' ready' m' (hR.mono hs) (hs _ hk) (dk.mono hs) (fun p hp => hs _ (sub p hp)) inv' S' hl'
    have TG := inv.topG (o := o)
    have N3 := News.sub N2 (lperm (H := H) (nH := nH) (g := g0) (gl := gl) (rest := rest) (x := (I, o)))
    have stl : ∀ p ∈ rest, p ∈ muts gl ++ ((I, o) :: rest) := fun p hp => List.mem_append_right _ (List.mem_cons_of_mem _ hp)
    have dk3 := dk.mono stl
    have sub3 : ∀ p ∈ nw0, p ∈ muts gl ++ ((I, o) :: rest) := fun p hp => stl p (sub p hp)
    obtain ⟨hGm, hP, hW, hok, hwd, hgl⟩ : (∃ n, (g0.G, grpO g0.P g0.W y.joined n) ∈ rest) ∧ PR g0.vs y.parts ∧ WR rest g0.us y.wait ∧ (∀ t ∈ y.parts, TrOk t) ∧ (∀ x ∈ y.wait, x.word.length ≤ 10) ∧ GR rest gl Y := by
      cases inv.gr with
      | cons a b c d e f => exact ⟨⟨_, a⟩, b, c, d, e, f⟩
    have hsz := inv.sz
    have hln := inv.ln
    have hglen := hgl.len
    simp only [gsz, List.length_cons] at hsz hln
    have hW3 := hW.mono stl
    have hO : BOk y.parts y.wait := ⟨hok, hwd, by omega⟩
    have hvl : (gl.map fun g => Value.ref g.G).length ≤ 50 := by rw [List.length_map]; omega
    have fr0 := inv.fr
    cases tk with
    | skip =>
      simp only [lr] at hl
      refine r_skip hast (q := q) B F2 X N3 Tp S2 hd1 hu mK mW hK TG dk3 hP hW3 hO hvl fun h' tk' m' F' S' N' => ?_
      exact fin h' tk' m' rest g0 gl y Y nH ready F' S' (News.sub N' lperm2) (fun _ h => h) inv.less hl
    | eof =>
      simp only [lr] at hl
      by_cases hY : Y = []
      · subst hY
        cases hgl
        cases ready with
        | false =>
          simp only [or_true, if_true, Option.some.injEq] at hl
          subst hl
          exact r_eof_2 hast (q := q) B F2 X N3 Tp S2 hd1 hu mK mW hK TG dk3 hP hW3 hO hvl rfl rfl fun ty h' tk' m' F' N' => hr _ _ _ _ F' (News.sub N' sub3)
        | true =>
          simp only [ne_eq, not_true_eq_false, Bool.true_eq_false, or_self, if_false] at hl
          split at hl
          · rename_i t ws' hb
            simp only [Option.some.injEq] at hl
            subst hl
            exact r_eof_3 hast (q := q) B F2 X N3 Tp S2 hd1 hu mK mW hK TG dk3 hP hW3 hO hvl rfl rfl hb fun ty h' tk' m' F' N' => hr _ _ _ _ F' (News.sub N' sub3)
          · cases hl
      · rw [if_pos (.inl hY)] at hl
        simp only [Option.some.injEq] at hl
        subst hl
        have hne : (gl.map fun g => Value.ref g.G) ≠ [] := by
          cases hgl with
          | nil => exact absurd rfl hY
          | cons => simp
        exact r_eof_1 hast (q := q) B F2 X N3 Tp S2 hd1 hu mK mW hK TG dk3 hP hW3 hO hvl hne fun ty h' tk' m' F' N' => hr _ _ _ _ F' (News.sub N' sub3)
    | opn =>
      simp only [lr] at hl
      refine r_opn hast (q := q) B F2 X N3 Tp S2 hd1 hu mK mW hK TG dk3 hP hW3 hO hvl fun G' P' W' nH' g' n' k' h' tk' m' F' S' N' oP oW oG => ?_
      exact fin h' tk' m' _ ⟨G', P', W', [], [], n', k'⟩ (g0 :: gl) ⟨[], [], ready⟩ (y :: Y) nH' false F' S' (News.sub N' lperm4) (fun _ h => List.mem_cons_of_mem _ h) (inv.push oP oW oG) hl
    | sign x =>
      have hK' : wd = x ∧ x.length ≤ 10 := ⟨hK.2.1, hK.2.2.2.2⟩
      simp only [lr] at hl
      cases hx : rkOf c x with
      | none =>
        rw [hx] at hl
        simp only [Option.some.injEq] at hl
        subst hl
        exact r_sign_no hast (q := q) B F2 X N3 Tp S2 hd1 hu mK mW hK TG dk3 hP hW3 hO hvl hx fun ty h' tk' m' F' N' => hr _ _ _ _ F' (News.sub N' sub3)
      | some kx =>
        have hkx := (rk_has hx).2 0
        rw [hx] at hl
        cases ready with
        | false =>
          simp only [Bool.false_eq_true, false_and, if_false] at hl
          refine r_sign_new hast (q := q) B F2 X N3 Tp S2 hd1 hu mK mW hK TG dk3 hP hW3 hO hvl hx rfl fun E' e1 e2 e3 g' k' h' tk' m' F' S' N' oE => ?_
          have oE' := LInv.off oE.1 oE.2.1 oE.2.2.1 oE.2.2.2
          refine fin h' tk' m' ((E', entO ⟨(rkOf c wU).getD (-1), x, false⟩ e1 e2 e3 g') :: rest) { g0 with us := .ref E' :: g0.us, k := k' } gl ⟨y.parts, ⟨(rkOf c wU).getD (-1), x, false⟩ :: y.wait, y.joined⟩ Y nH false F' S' (News.sub N' lperm3) (fun _ h => List.mem_cons_of_mem _ h) ?_ hl
          exact inv.set (vs' := g0.vs) (n' := g0.n) (fun _ h => List.mem_cons_of_mem _ h) (List.forall_mem_cons.mpr ⟨oE', fr0⟩) hP (.cons (List.mem_cons_self ..) (hW.mono fun _ h => List.mem_cons_of_mem _ h)) hok (List.forall_mem_cons.mpr ⟨hK'.2, hwd⟩) (by simp only [List.length_cons]; omega)
        | true =>
          cases hp : pow x with
          | true =>
            rw [hp] at hl
            simp only [Bool.true_eq_false, and_false, if_false, if_true] at hl
            refine r_sign_pow hast (q := q) B F2 X N3 Tp S2 hd1 hu mK mW hK TG dk3 hP hW3 hO hvl hx rfl hp fun E' e1 e2 e3 g' k' h' tk' m' F' S' N' oE => ?_
            have oE' := LInv.off oE.1 oE.2.1 oE.2.2.1 oE.2.2.2
            rw [hkx] at N'
            refine fin h' tk' m' ((E', entO ⟨kx, x, true⟩ e1 e2 e3 g') :: rest) { g0 with us := .ref E' :: g0.us, k := k' } gl ⟨y.parts, ⟨kx, x, true⟩ :: y.wait, y.joined⟩ Y nH false F' S' (News.sub N' lperm3) (fun _ h => List.mem_cons_of_mem _ h) ?_ hl
            exact inv.set (vs' := g0.vs) (n' := g0.n) (fun _ h => List.mem_cons_of_mem _ h) (List.forall_mem_cons.mpr ⟨oE', fr0⟩) hP (.cons (List.mem_cons_self ..) (hW.mono fun _ h => List.mem_cons_of_mem _ h)) hok (List.forall_mem_cons.mpr ⟨hK'.2, hwd⟩) (by simp only [List.length_cons]; omega)
          | false =>
            rw [hp] at hl
            simp only [and_self, if_true] at hl
            split at hl
            · cases hl
            · rename_i ps' ws' hb
              obtain ⟨ok', wd', sz'⟩ := bnd_sz hb hok hwd
              rw [← hkx] at hb
              refine r_sign_bnd hast (q := q) B F2 X N3 Tp S2 hd1 hu mK mW hK TG dk3 hP hW3 hO hvl hx rfl hp hb fun E' e1 e2 e3 g' n' k' h' tk' m' vs' us' F' S' N' P' W' O' oE => ?_
              have oE' := LInv.off oE.1 oE.2.1 oE.2.2.1 oE.2.2.2
              rw [hkx] at N'
              refine fin h' tk' m' ((E', entO ⟨kx, x, true⟩ e1 e2 e3 g') :: rest) { g0 with vs := vs', us := .ref E' :: us', n := n', k := k' } gl ⟨ps', ⟨kx, x, true⟩ :: ws', y.joined⟩ Y nH false F' S' (News.sub N' lperm3) (fun _ h => List.mem_cons_of_mem _ h) ?_ hl
              exact inv.set (fun _ h => List.mem_cons_of_mem _ h) (List.forall_mem_cons.mpr ⟨oE', fr0⟩) P' (.cons (List.mem_cons_self ..) ((WR.strip2 ho W').mono fun _ h => List.mem_cons_of_mem _ h)) ok' (List.forall_mem_cons.mpr ⟨hK'.2, wd'⟩) (by simp only [List.length_cons]; omega)
    | atom x =>
      have hK' : wd = x ∧ x.length ≤ 10 := hK.2
      simp only [lr] at hl
      cases ready with
      | false =>
        simp only [Bool.false_eq_true, if_false] at hl
        refine r_atom_new hast (q := q) B F2 X N3 Tp S2 hd1 hu mK mW hK TG dk3 hP hW3 hO hvl rfl fun ty n' h' tk' m' F' S' N' => ?_
        refine fin h' tk' m' rest { g0 with vs := .str wd ty :: g0.vs, n := n' } gl ⟨.leaf x :: y.parts, y.wait, y.joined⟩ Y nH true F' S' (News.sub N' lperm2) (fun _ h => h) ?_ hl
        refine inv.set (us' := g0.us) (k' := g0.k) (fun _ h => h) fr0 ?_ hW (List.forall_mem_cons.mpr ⟨hK'.2, hok⟩) hwd (by simp only [psz, tsz]; omega)
        rw [hK'.1]
        exact PR.cons (t := .leaf x) hP
      | true =>
        simp only [if_true] at hl
        obtain ⟨hh1, hh2⟩ := rk_has hq
        split at hl
        · cases hl
        · rename_i ps' ws' hb
          obtain ⟨ok', wd', sz'⟩ := bnd_sz hb hok hwd
          rw [← hh2 0] at hb
          refine r_atom_imp hast (q := q) B F2 X N3 Tp S2 hd1 hu mK mW hK TG dk3 hP hW3 hO hvl hh1 rfl hb fun E' e1 e2 e3 g' n' k' h' tk' m' vs' us' F' S' N' P' W' O' oE => ?_
          have oE' := LInv.off oE.1 oE.2.1 oE.2.2.1 oE.2.2.2
          rw [hh2 0] at N'
          refine fin h' tk' m' ((E', entO ⟨q, wE, true⟩ e1 e2 e3 g') :: rest) { g0 with vs := .str wd t2 :: vs', us := .ref E' :: us', n := n', k := k' } gl ⟨.leaf x :: ps', ⟨q, wE, true⟩ :: ws', y.joined⟩ Y nH true F' S' (News.sub N' lperm3) (fun _ h => List.mem_cons_of_mem _ h) ?_ hl
          refine inv.set (fun _ h => List.mem_cons_of_mem _ h) (List.forall_mem_cons.mpr ⟨oE', fr0⟩) ?_ (.cons (List.mem_cons_self ..) ((WR.strip2 ho W').mono fun _ h => List.mem_cons_of_mem _ h)) (List.forall_mem_cons.mpr ⟨hK'.2, ok'⟩) (List.forall_mem_cons.mpr ⟨(by show Str.length wE ≤ 10; decide), wd'⟩) (by simp only [psz, tsz, List.length_cons]; omega)
          rw [hK'.1]
          exact PR.cons (t := .leaf x) P'
    | cls =>
      simp only [lr] at hl
      cases hgl with
      | nil =>
        cases ready with
        | false =>
          by_cases hw0 : y.wait = []
          · rw [if_neg (by simp [hw0])] at hl
            simp only [Option.some.injEq] at hl
            subst hl
            exact r_cls_syn2 hast (q := q) B F2 X N3 Tp S2 hd1 hu mK mW hK TG dk3 hP hW3 hO hvl rfl hw0 rfl fun ty h' tk' m' F' N' => hr _ _ _ _ F' (News.sub N' sub3)
          · rw [if_pos ⟨rfl, .inr hw0⟩] at hl
            simp only [Option.some.injEq] at hl
            subst hl
            exact r_cls_idle2 hast (q := q) B F2 X N3 Tp S2 hd1 hu mK mW hK TG dk3 hP hW3 hO hvl rfl hw0 rfl fun ty h' tk' m' F' N' => hr _ _ _ _ F' (News.sub N' sub3)
        | true =>
          rw [if_neg (by simp)] at hl
          simp only [Option.some.injEq] at hl
          subst hl
          exact r_cls_syn1 hast (q := q) B F2 X N3 Tp S2 hd1 hu mK mW hK TG dk3 hP hW3 hO hvl rfl rfl fun ty h' tk' m' F' N' => hr _ _ _ _ F' (News.sub N' sub3)
      | @cons g2 gl2 y2 Y2 n2 hG2 hP2 hW2 hok2 hwd2 hgl2 =>
        cases ready with
        | false =>
          rw [if_pos ⟨rfl, .inl (by simp)⟩] at hl
          simp only [Option.some.injEq] at hl
          subst hl
          exact r_cls_idle1 hast (q := q) B F2 X N3 Tp S2 hd1 hu mK mW hK TG dk3 hP hW3 hO hvl (by simp) rfl fun ty h' tk' m' F' N' => hr _ _ _ _ F' (News.sub N' sub3)
        | true =>
          rw [if_neg (by simp)] at hl
          simp only at hl
          split at hl
          · rename_i t ws' hb
            obtain ⟨ok', wd', sz'⟩ := bnd_sz hb hok hwd
            have invT := inv.tail
            have TG2 := invT.topG (o := o)
            have hszT := invT.sz
            have hpl2 := psz_len y2.parts
            have hvl2 := hP2.len
            simp only [gsz, psz] at hszT sz' hsz
            have hv2l : g2.vs.length ≤ 200 := by omega
            cases hj : y.joined with
            | false =>
              rw [hj] at hl
              simp only [Bool.false_eq_true, if_false] at hl
              refine r_cls_plain hast (q := q) B F2 X N3 Tp S2 hd1 hu mK mW hK TG dk3 hP hW3 hO hvl hj rfl rfl rfl TG2 hb hv2l fun nH' n2' h' tk' m' ty F' S' N' => ?_
              refine fin h' tk' m' rest { g2 with vs := .str (sho t) ty :: g2.vs, n := n2' } gl2 ⟨t :: y2.parts, y2.wait, y2.joined⟩ Y2 nH' true F' S' (News.sub N' lperm2) (fun _ h => h) ?_ hl
              refine ⟨.cons hG2 (.cons hP2) hW2 (List.forall_mem_cons.mpr ⟨ok' t (List.mem_cons_self ..), hok2⟩) hwd2 hgl2, invT.nd, invT.fr, ?_, ?_⟩
              · simp only [gsz, psz]; omega
              · have := invT.ln; simp only [List.length_cons] at this ⊢; omega
            | true =>
              rw [hj] at hl
              simp only [if_true] at hl
              split at hl
              · rename_i l ps hps
                rw [hps] at hP2 hok2 hpl2 hszT hsz
                obtain ⟨tkl, vs3, hvs, hP3⟩ := RaisedPR hP2
                simp only [psz] at hszT hsz
                have hll : (sho l).length ≤ 3000 := by
                  have := sho_len (hok2 l (List.mem_cons_self ..))
                  omega
                refine r_cls_join hast (q := q) B F2 X N3 Tp S2 hd1 hu mK mW hK TG dk3 hP hW3 hO hvl hj hvs hll rfl rfl rfl TG2 hb hv2l fun nH' n2' h' tk' m' ty F' S' N' => ?_
                rw [s_imp2] at N'
                refine fin h' tk' m' rest { g2 with vs := .str (sho (.imp l t)) ty :: vs3, n := n2' } gl2 ⟨.imp l t :: ps, y2.wait, y2.joined⟩ Y2 nH' true F' S' (News.sub N' lperm2) (fun _ h => h) ?_ hl
                refine ⟨.cons hG2 (.cons hP3) hW2 (List.forall_mem_cons.mpr ⟨⟨hok2 l (List.mem_cons_self ..), ok' t (List.mem_cons_self ..)⟩, fun z hz => hok2 z (List.mem_cons_of_mem _ hz)⟩) hwd2 hgl2, invT.nd, invT.fr, ?_, ?_⟩
                · simp only [gsz, psz, tsz]; omega
                · have := invT.ln; simp only [List.length_cons] at this ⊢; omega
              · cases hl
          · cases hl
section
theorem hold_for {prog : Program} {w : World} {A : Around} {E : Value → Shared → Prop} {env : Env} {target iter : PySem.Expr} {body : List Stmt} {Q : Flow → Shared → Prop} {s : Shared} {pos : Pos} (h : Hold (wpAny (model prog w) A (exec (.For target iter body [] pos) env) Q E s)) : wpAny (model prog w) A (exec (.For target iter body [] pos) env) Q E s := h
structure ReadOk (res : LOut) (nw : List (Addr × Obj)) (r : Value) : Prop where
  x : ∃ ty, r = .str (outS res) ty
local macro_rules | `(tactic| walk_at "exec For Tuple Name cons nil") => `(tactic| (k_here; refine hold_for ?_))
theorem lr_init {hp g : Heap} {L P W1 G H D' : Addr} {x : Obj} {news : List (Addr × Obj)} {gn : Nat} (N : News g L hp ((D', x) :: (H, W.listOf #[.ref G] 0) :: (G, grpO P W1 false gn) :: (W1, W.listOf #[] 0) :: (P, W.listOf #[] 0) :: news)) :
    News g L hp (lled H 0 [⟨G, P, W1, [], [], 0, 0⟩] ((G, grpO P W1 false gn) :: news)) := by
  refine News.sub N fun p h => ?_
  simp only [muts, List.mem_cons, List.mem_append, List.map_cons, List.map_nil, List.cons_append, List.nil_append] at h ⊢
  rcases h with h | h | h | h | h
  · exact .inr (.inl h)
  · exact .inr (.inr (.inr (.inr (.inl h))))
  · exact .inr (.inr (.inr (.inl h)))
  · exact .inr (.inr (.inl h))
  · exact .inr (.inr (.inr (.inr (.inr h))))
theorem lr_inv {P W1 G H I : Addr} {news : List (Addr × Obj)} {gn left : Nat} (hz : left ≤ 40) (l1 : ∀ p ∈ news, @LT.lt Nat _ p.1 P) (l2 : @LT.lt Nat _ P W1 ∧ AllLt W1 news) (l3 : @LT.lt Nat _ W1 G ∧ @LT.lt Nat _ P G ∧ AllLt G news) (l4 : @LT.lt Nat _ G H ∧ @LT.lt Nat _ W1 H ∧ @LT.lt Nat _ P H ∧ AllLt H news)
    (hI : ∀ p ∈ lled H 0 [⟨G, P, W1, [], [], 0, 0⟩] ((G, grpO P W1 false gn) :: news), @LT.lt Nat _ p.1 I) : LInv ((G, grpO P W1 false gn) :: news) H I [⟨G, P, W1, [], [], 0, 0⟩] [⟨[], [], false⟩] left := by
  have i1 : @LT.lt Nat _ H I := hI (H, _) (List.mem_cons_self ..)
  have i2 : @LT.lt Nat _ P I := hI (P, stk [] 0) (by simp [muts])
  have i3 : @LT.lt Nat _ W1 I := hI (W1, stk [] 0) (by simp [muts])
  have a2 := allLt_at l2.2
  have a3 := allLt_at l3.2.2
  have a4 := allLt_at l4.2.2.2
  have ne : ∀ {a b : Addr}, @LT.lt Nat _ a b → a ≠ b := fun h e => Nat.lt_irrefl _ (show @LT.lt Nat _ _ _ from e ▸ h)
  refine ⟨.cons (List.mem_cons_self ..) .nil .nil (fun _ h => nomatch h) (fun _ h => nomatch h) .nil, ?_, List.forall_mem_cons.mpr ⟨?_, fun p hp => ?_⟩, ?_, ?_⟩
  · simp only [maddr, List.nodup_cons, List.mem_cons, List.not_mem_nil, or_false, not_or, not_false_eq_true, List.nodup_nil, and_true]
    exact ⟨⟨(ne i1).symm, (ne i2).symm, (ne i3).symm⟩, ⟨(ne l4.2.2.1).symm, (ne l4.2.1).symm⟩, ne l2.1⟩
  · simp only [maddr, List.mem_cons, List.not_mem_nil, or_false, not_or]
    exact ⟨ne (Nat.lt_trans l4.1 i1), ne l4.1, (ne l3.2.1).symm, (ne l3.1).symm⟩
  · simp only [maddr, List.mem_cons, List.not_mem_nil, or_false, not_or]
    exact ⟨ne (hI p (List.mem_cons_of_mem _ (List.mem_append_right _ (List.mem_cons_of_mem _ hp)))), ne (a4 p hp), ne (l1 p hp), ne (a2 p hp)⟩
  · simp only [gsz, psz, List.length_nil]; omega
  · simp only [List.length_cons, List.length_nil]; omega
theorem lr_call : ∀ {w : World} {mean : ExcName → Option Value} {mg mb : Str → Option Value} {c : List (Str × Int)} {q : Int} {ts : List Tk} {res : LOut} {R D : Addr} {vs : List Value} {n : Nat} {news : List (Addr × Obj)}
    (hq : rkOf c wE = some q) (hR : (R, W.listOf vs.toArray n) ∈ news) (hI : RowIs news vs ts) (dk : DictOk w news D c) (hz : ts.length ≤ 40) (hl : lr (rkOf c) q ts [⟨[], [], false⟩] false = some res),
    Spec w mean mg mb 275 [.ref R, .ref D] 70 140 news (ReadOk res) (fun _ => False) := by
  unfold Spec
  walk_at "my fill"
  intro w mean mg mb c q ts res R D vs n news hq hR hI dk hz hl dp un cn cs a ccd outer A₀ base h₀ L m s Q E B F X N Tp hk hd1 hu hQ hE
  refine wpAny_call ?_
  k_dflt (walk_at "my enter")
  k_steps
  show wpAny _ _ _ _ _ _
  k_dflt refine' For_turns ?F ?_
  case F => k_asm
  k_whole
  iterate 3 (first | walk1 | (dsimp only; walk1) | skip)
  rename_i l1 l2 l3 l4 _ _ _
  refine' iter_listTurns (lo := W.listOf vs.toArray n) (vs := vs) (n := n) ?hh ?F ?N ?hm rfl rfl ?_
  case hh => exact rfl
  case F => k_asm
  case N => exact lr_init (by k_asm)
  case hm => exact List.mem_cons_of_mem _ (List.mem_append_right _ (List.mem_cons_of_mem _ hR))
  intro I hIn
  refine' lr_loop (D := D) (q := q) (dp := dp) (un := un) (nw0 := news) (res := res) ?ast ?B ?X ?T ?h1 ?h2 hq ?hr ?hn ts vs _ _ _ _ _ _ _ _ ?RI ?hk ?dk ?sub ?inv ?S hl
  case ast => exact rfl
  case B => k_asm
  case X => k_asm
  case T => k_asm
  case h1 => omega
  case h2 => omega
  case RI => exact hI.mono fun p h => List.mem_cons_of_mem _ h
  case hk => exact List.mem_cons_of_mem _ hR
  case dk => exact dk.mono fun p h => List.mem_cons_of_mem _ h
  case sub => exact fun p h => List.mem_cons_of_mem _ h
  case inv => exact lr_inv hz (by assumption) (by assumption) (by assumption) (by assumption) hIn
  case S => exact ⟨rfl, rfl, rfl⟩
  case hr =>
    intro ty h' tk' m' F2 N2
    dsimp only
    k_steps
    exact hQ _ _ _ _ (by k_asm) (by k_asm) (fun _ h => h) ⟨_, rfl⟩
  case hn =>
    intro he h' tk' m' F2 N2
    subst he
    dsimp only
    k_steps
    exact hQ _ _ _ _ (by k_asm) (by k_asm) (fun _ h => h) ⟨_, rfl⟩
end
theorem tick_13 {prog : Program} {w : World} {A : Around} {E : Value → Shared → Prop} {env : Env} {Q : Flow → Shared → Prop} {s : Shared} (h : Q .next s) : wpAny (model prog w) A (execs [] env) Q E s := by
  walk1
  exact h
section
def comp1 : Option Obj → Option (Scope × Value × PySem.Expr × Scope)
  | some ⟨_, _, .func fd, _⟩ => match fd.body with
    | .stmts (.Assign _ (.ListComp e _ c _) _ :: _) => some (fd.scope, fd.code, e, c)
    | _ => none
  | _ => none
def HoAst (w : World) (sc : Scope) (cdv : Value) (elt : PySem.Expr) (csc : Scope) : Prop := comp1 ((hd.heap_39 w.params).lookup 280) = some (sc, cdv, elt, csc)
theorem ho_use {x : Option Obj} {o : Obj} {y : Option (Scope × Value × PySem.Expr × Scope)} {P : Prop} (e : x = some o) (h : comp1 x = y) (k : comp1 (some o) = y → P) : P := k (e ▸ h)
local macro_rules | `(tactic| walk_at "ho ast") => `(tactic| (refine' ho_use ?e (by assumption) ?kk; (case e => k_dflt k_is); intro hast2; (dsimp only [comp1] at hast2); (simp only [Option.some.injEq, Prod.mk.injEq] at hast2); obtain ⟨a1, a2, a3, a4⟩ := hast2; subst a1 a2 a3 a4))
abbrev hoEnv (sc : Scope) (L : Addr) (cdv : Value) : Env := envOf (Str.ofString "_law_holds") sc L 280 cdv
local macro_rules | `(tactic| walk_at "call ref") => `(tactic| (k_here; (with_reducible show wpAny _ _ (call (Value.ref 141) [_, _, _, _, _]) _ _ _); k_dflt (refine' mk_tok _ ?B ?F ?X ?N ?T ?hk ?h1 ?h2 ?_; (case B => k_asm); (case F => k_asm); (case X => k_asm); (case N => k_asm); (case T => k_asm); (case hk => exact rfl); (case h1 => walk_at "my dp"); (case h2 => walk_at "my dp"); intro x' d' h' tk' F' N' l1' l2')))
theorem tok_elt : ∀ {w : World} {sc csc : Scope} {cdv : Value} {elt : PySem.Expr} (hast : HoAst w sc cdv elt csc)
    {mean : ExcName → Option Value} {mg mb : Str → Option Value} {dp un : Nat} {outer : List Env} {base g : Heap} {L : Addr} {m m2 : Str → Option Value} {s : Shared} {Q E : Value → Shared → Prop} {nw : List (Addr × Obj)} {I C D : Addr} {oI oC : Obj} {ys : List Value} {kd : Int} {wd : Wd} {t1 t2 : Tok}
    (B : Below (A0 dp un (some []) outer) base outer g) (F : Fr g L s.heap m) (X : (hd.heap_39 w.params).In g) (N : News g L s.heap ((I, oI) :: (C, oC) :: (D, LCg.lst ys) :: nw)) (Tp : Top hd.view_39 lo mean mg mb g) (hC : LCg.NsObj oC m2) (hx : m2 (Str.ofString "kind") = some (.int kd t1)) (hy : m2 (Str.ofString "word") = some (.str wd t2))
    (hd1 : dp + 20 < recursionLimit) (hu : un + 60 < cLine)
    (h : ∀ x d b3 b4 u1 u2 u3 u4 t5 h' tk', Fr g L h' m → News g L h' ((x, tokObj [.int kd t1, .str wd t2, .ref b3, .ref b4, .str (Str.ofString "") t5] (0, d)) :: (d, emptyDict) :: (b4, ({ cls := .type "tuple", data := .seq #[.int 1 u3, .int 1 u4] } : Obj)) :: (b3, ({ cls := .type "tuple", data := .seq #[.int 1 u1, .int 0 u2] } : Obj)) :: (I, oI) :: (C, oC) :: (D, LCg.lst ys) :: nw) → AllLt b3 ((I, oI) :: (C, oC) :: (D, LCg.lst ys) :: nw) → AllLt b4 ((I, oI) :: (C, oC) :: (D, LCg.lst ys) :: nw) → AllLt d ((I, oI) :: (C, oC) :: (D, LCg.lst ys) :: nw) → @LT.lt Nat _ d x → Q (.ref x) { s with heap := h', toks := tk' }),
    wpAny (model PySem.Challenge.rw_fe0201_01.row.prog w) ((A0 dp un (some []) outer).deeper (hoEnv sc L cdv)) (eval elt (compEnvC csc [] C (hoEnv sc L cdv))) Q E s := by
  walk_at "my fill"
  intro w sc csc cdv elt hast mean mg mb dp un outer base g L m m2 s Q E nw I C D oI oC ys kd wd t1 t2 B F X N Tp hC hx hy hd1 hu h
  walk_at "ho ast"
  show wpAny _ _ (eval (Expr.Call _ _ _ _) _) _ _ _
  k_steps
  exact h _ _ _ _ _ _ _ _ _ _ _ (by k_asm) (by k_asm) (by assumption) (And.right (by assumption)) (And.right (And.right (by assumption))) (by assumption)
theorem AllLt.trans {d x : Addr} (h2 : @LT.lt Nat _ d x) : ∀ {l : List (Addr × Obj)}, AllLt d l → AllLt x l
  | [], _ => trivial
  | _ :: _, h => ⟨Nat.lt_trans h.1 h2, AllLt.trans h2 h.2⟩
/-- the tokens of a row -/
inductive TokL (nw : List (Addr × Obj)) : List Addr → List Tk → Prop
  | nil : TokL nw [] []
  | cons {a : Addr} {kd : Int} {wd : Wd} {tk : Tk} {as : List Addr} {ts : List Tk} : TokO nw a kd wd → KW kd wd tk → TokL nw as ts → TokL nw (a :: as) (tk :: ts)
theorem TokL.mono {nw nw' : List (Addr × Obj)} {as : List Addr} {ts : List Tk} (h : TokL nw as ts) (hs : ∀ p ∈ nw, p ∈ nw') : TokL nw' as ts := by
  induction h with
  | nil => exact .nil
  | cons a b _ i => exact .cons (a.mono hs) b i
theorem TokL.snoc {nw : List (Addr × Obj)} {as : List Addr} {ts : List Tk} {a : Addr} {kd : Int} {wd : Wd} {tk : Tk} (h : TokL nw as ts) (h1 : TokO nw a kd wd) (h2 : KW kd wd tk) : TokL nw (as ++ [a]) (ts ++ [tk]) := by
  induction h with
  | nil => exact .cons h1 h2 .nil
  | cons a b _ i => exact .cons a b i
theorem TokL.len {nw : List (Addr × Obj)} {as : List Addr} {ts : List Tk} (h : TokL nw as ts) : as.length = ts.length := by
  induction h with
  | nil => rfl
  | cons a b _ i => simp [i]
theorem comp_loop {w : World} {sc csc : Scope} {cdv : Value} {elt : PySem.Expr} (hast : HoAst w sc cdv elt csc)
    {mean : ExcName → Option Value} {mg mb : Str → Option Value} {dp un : Nat} {outer : List Env} {base g : Heap} {L R : Addr} {m : Str → Option Value} {s : Shared} {its : Array Value} {n : Nat} {Fin : List Value → List (Addr × Obj) → Prop} {nw0 : List (Addr × Obj)} {all : List Tk}
    (B : Below (A0 dp un (some []) outer) base outer g) (X : (hd.heap_39 w.params).In g) (Tp : Top hd.view_39 lo mean mg mb g) (hd1 : dp + 20 < recursionLimit) (hu : un + 60 < cLine)
    (fin : ∀ as nw, TokL nw as all → (∀ p ∈ nw0, p ∈ nw) → Fin (as.map .ref) nw) :
    ∀ (ts : List Tk) (vs : List Value) (i : Nat) (pre : List Value) (as : List Addr) (done : List Tk) (nw : List (Addr × Obj)), its.toList = pre ++ vs → i = pre.length → RowIs nw vs ts → done ++ ts = all → TokL nw as done → (R, W.listOf its n) ∈ nw → (∀ p ∈ nw0, p ∈ nw) →
      LCp.CompRestP PySem.Challenge.rw_fe0201_01.row.prog w ((A0 dp un (some []) outer).deeper (hoEnv sc L cdv)) g L m (hoEnv sc L cdv) elt (Str.ofString "kind") (Str.ofString "word") csc [] s (LCg.SrcAt g R its) (fun i v => its[i]? = some v) Fin vs.length i (as.map .ref) nw := by
  intro ts
  induction ts with
  | nil =>
    intro vs i pre as done nw hv hi hR ha hA hm hs
    cases hR
    rw [List.append_nil] at ha
    subst ha
    exact LCp.CompRestP.zero (fin _ _ hA hs)
  | cons tk ts ih =>
    intro vs i pre as done nw hv hi hR ha hA hm hs
    cases hR with
    | @cons T kd wd t1 t2 nT _ vs _ hT hK hR =>
    refine LCp.CompRestP.succ fun v hP => ?_
    have hP' : v = .ref T := by
      have h1 : its[i]? = some v := hP
      rw [← Array.getElem?_toList, hv, hi, List.getElem?_append_right (Nat.le_refl _), Nat.sub_self] at h1
      exact (Option.some.inj h1).symm
    refine ⟨T, _, _, _, nT, hP', hT, rfl, rfl, ?_⟩
    intro I oI C oC D m2 h tk0 E' hC hx hy F N off ne
    refine tok_elt hast B F X N Tp hC hx hy hd1 hu fun x d b3 b4 u1 u2 u3 u4 t5 h' tk' F' N' l3 l4 ld lx => ?_
    have ne' : ∀ {a b : Addr}, @LT.lt Nat _ a b → b ≠ a := fun h e => Nat.lt_irrefl _ (show @LT.lt Nat _ _ _ from e ▸ h)
    have lX := AllLt.trans lx ld
    have o3 : ∀ {a : Addr}, AllLt a ((I, oI) :: (C, oC) :: (D, LCg.lst (as.map .ref)) :: nw) → a ≠ I ∧ a ≠ C ∧ a ≠ D := fun l => ⟨ne' l.1, ne' l.2.1, ne' l.2.2.1⟩
    have sub : ∀ p ∈ nw, p ∈ (x, tokObj [.int kd t1, .str wd t2, .ref b3, .ref b4, .str (Str.ofString "") t5] (0, d)) :: (d, emptyDict) :: (b4, ({ cls := .type "tuple", data := .seq #[.int 1 u3, .int 1 u4] } : Obj)) :: (b3, ({ cls := .type "tuple", data := .seq #[.int 1 u1, .int 0 u2] } : Obj)) :: nw :=
      fun p hp => List.mem_cons_of_mem _ (List.mem_cons_of_mem _ (List.mem_cons_of_mem _ (List.mem_cons_of_mem _ hp)))
    refine ⟨h', tk', (x, tokObj [.int kd t1, .str wd t2, .ref b3, .ref b4, .str (Str.ofString "") t5] (0, d)) :: (d, emptyDict) :: (b4, ({ cls := .type "tuple", data := .seq #[.int 1 u3, .int 1 u4] } : Obj)) :: (b3, ({ cls := .type "tuple", data := .seq #[.int 1 u1, .int 0 u2] } : Obj)) :: nw, rfl, F', News.sub N' ?_, ⟨o3 lX, o3 ld, o3 l4, o3 l3, off⟩, .inr ⟨_, sub _ hm, rfl, n, rfl⟩, ?_⟩
    · intro p hp
      simp only [List.mem_cons] at hp ⊢
      grind
    · have := ih vs (i + 1) (pre ++ [.ref T]) (as ++ [x]) (done ++ [tk]) _ (by rw [hv]; simp) (by simp [hi]) (hR.mono sub) (by rw [← ha]; simp) ((hA.mono sub).snoc ⟨t1, t2, b3, b4, t5, (0, d), ⟨by simp, by simp⟩, ⟨u1, u2, by simp⟩, ⟨u3, u4, by simp⟩⟩ hK) (sub _ hm) (fun p hp => sub p (hs p hp))
      rw [List.map_append] at this
      exact this
end
theorem tick_14 {prog : Program} {w : World} {A : Around} {E : Value → Shared → Prop} {env : Env} {Q : Flow → Shared → Prop} {s : Shared} (h : Q .next s) : wpAny (model prog w) A (execs [] env) Q E s := by
  walk1
  exact h
section
variable {prog : Program} {w : World} {A₀ A : Around} {s : Shared} {h₀ : Heap} {L a : Addr} {m : Str → Option Value} {cn : Str} {cs : Scope} {ccd : Value} {news : List (Addr × Obj)} {K : Frag} {p : Program} {loose : List Str} {mean : ExcName → Option Value} {mg mb : Str → Option Value}
    {R : Result → Shared → Prop} {name qual : Str} {params : Arguments} {body : List Stmt} {scope : Scope} {dV kV doc pm cdv ct oc : Value} {an od : Option Addr} {osl : Array (Option Value)} {f : Addr} {args : Args} {binds : List (Str × Value)}
/-- a ground that holds what the caller's ground holds, and the caller's frame -/
structure GroundH (A : Around) (h₀ : Heap) (L : Addr) (m : Str → Option Value) (env : Env) (s : Shared) (news : List (Addr × Obj)) (g : Heap) : Prop where
  lf : ∃ oL es ep, g.get? L = some oL ∧ oL.data = .dict es ep ∧ (∀ h', h'.get? L = some oL → Heap.Ns h' L m) ∧ (∀ (sl : Array (Option Value)) h', h'.get? L = some { oL with slots := sl } → Heap.Ns h' L m)
  st : h₀.StaysIn g
  bl : Below A h₀ [env] g
  sb : ∀ b o, g.get? b = some o → s.heap.get? b = some o
  sz : g.objs.size = s.heap.objs.size
  nw : ∀ p ∈ news, g.get? p.1 = none
  hb : ∀ b o, g.get? b = some o → b ≠ L → h₀.get? b = some o
theorem groundH (B : Below A₀ h₀ [] h₀) (F : Fr h₀ L s.heap m) (N : News h₀ L s.heap news) (hA : A.frames = some [envOf cn cs L a ccd]) (hck : cs.kind = .function) : ∃ g, GroundH A h₀ L m (envOf cn cs L a ccd) s news g := by
  obtain ⟨hs, hhs⟩ : ∃ hs : List Addr, ∀ b, b ∈ hs ↔ (b < s.heap.objs.size ∧ h₀.get? b = none ∧ b ≠ L) := by
    refine ⟨(List.range s.heap.objs.size).filter fun b => decide (h₀.get? b = none ∧ b ≠ L), fun b => ?_⟩
    rw [List.mem_filter, List.mem_range, decide_eq_true_eq]
  have nm : ∀ b o, h₀.get? b = some o → b ∉ hs := fun b o e q => by
    have := ((hhs b).mp q).2.1
    rw [this] at e; cases e
  have st : h₀.StaysIn (hideAll s.heap hs) := fun b o e => hideAll_get _ (F.keep b o e) (nm b o e)
  have nL : L ∉ hs := fun q => ((hhs L).mp q).2.2 rfl
  obtain ⟨oL, es, ep, hL, hLd, hLk, hLf⟩ := F.ns
  have hLg := hideAll_get hs hL nL
  have B₁ := B.push (name := cn) (scope := cs) (a := a) (cd := ccd) F hck
  refine ⟨hideAll s.heap hs, ⟨oL, es, ep, hLg, hLd, fun h' e => ⟨oL, es, ep, e, hLd, hLk, hLf⟩, fun sl h' e => ⟨_, es, ep, e, hLd, hLk, hLf⟩⟩, st, ⟨hA, fun b o e => st b o e, funFrames_hideAll B₁.frames fun env he b hb hf => by
    cases he with
    | head => exact nL ((Option.some.inj hf : L = b) ▸ hb)
    | tail _ he => cases he⟩, fun b o e => of_hideAll _ e, hideAll_size _ _, fun p hp => hideAll_none _ ((hhs _).mpr ⟨Heap.lt_size (N p hp).1, (N p hp).2.2, (N p hp).2.1⟩), fun b o e hb => ?_⟩
  have he := of_hideAll _ e
  cases q : h₀.get? b with
  | some o' => rw [F.keep b o' q] at he; exact he
  | none =>
    have := hideAll_none (h := s.heap) hs ((hhs b).mpr ⟨Heap.lt_size he, q, hb⟩)
    rw [this] at e; cases e
theorem code_defH (B : Below A₀ h₀ [] h₀) (F : Fr h₀ L s.heap m) (X₀ : K.In h₀) (N : News h₀ L s.heap news) (T : Top p loose mean mg mb h₀) (hA : A.frames = some [envOf cn cs L a ccd])
    (ho : K.lookup f = some ⟨oc, od, .func (fnOf name qual params body scope dV kV doc pm an cdv ct), osl⟩) (hcd : codeIn K cdv qual = true) (hroom : A.depth < recursionLimit)
    (hbind : BindsTo s (fnOf name qual params body scope dV kV doc pm an cdv ct) args binds) (hloc : ∀ y ∈ binds, scope.names.lookup y.1 = some .local)
    (h : ∀ g L' h₁, Fr h₀ L g m → Fr g L' h₁ (fun y => binds.reverse.lookup y) → News g L' h₁ news → Below A h₀ [envOf cn cs L a ccd] g → K.In g → Top p loose mean mg mb g → KtsDicts ([envOf cn cs L a ccd].filterMap (·.frame)) g → (∀ b o, g.get? b = some o → b ≠ L → h₀.get? b = some o) →
      wpAny (model prog w) (A.deeper (envOf qual scope L' f cdv)) (execs body (envOf qual scope L' f cdv))
        (fun fl s' => LeaveS0 ([envOf cn cs L a ccd].filterMap (·.frame)) h₀ L m g R (match fl with | .ret v => v | _ => .none) s')
        (fun e s' => wpAny (model prog w) (A.deeper (envOf qual scope L' f cdv)) (leaving (envOf qual scope L' f cdv) e) (fun _ s'' => R (.error e) s'') (fun e' s'' => R (.error e') s'') s')
        { s with heap := h₁, toks := s.toks + binds.length })
    (hck : cs.kind = .function) (hco : scope.isCoroutine = false) (hgen : scope.isGenerator = false) (hk : scope.kind = .function)
    (hcell : ∀ x ∈ scope.names, x.2 ≠ .cell) : codeAny (model prog w) A (.call (.ref f) args) R s := by
  have X := X₀.keeps F.keep
  refine codeAny_call_def (fd := fnOf name qual params body scope dV kV doc pm an cdv ct) (body := body) (binds := binds) hroom (X _ _ ho) rfl (T.nolimit.keeps F.keep) (codeRec_of X hcd) rfl hbind hcell hloc (fun h₁ hns hk₁ => ?_) hco hgen hk
  obtain ⟨g, ⟨oL, es, ep, hLg, hLd, hN, hNs⟩, st, B₂, sb, sz, nw, hb⟩ := groundH B F N hA hck
  refine wpAny_mono (h g s.heap.objs.size h₁ ⟨hN _ hLg, st, F.above⟩ ⟨hns, fun b o e => hk₁ b o (sb _ _ e), Nat.le_of_eq sz⟩
    (fun p hp => ⟨hk₁ _ _ (N p hp).1, Nat.ne_of_lt (Heap.lt_size (N p hp).1), nw p hp⟩) B₂ (X₀.keeps st) (T.keeps st) (fun b hb => by
      rcases kts_mem hb with rfl | z
      · exact ⟨oL, es, ep, hLg, hLd⟩
      · simp at z) hb) (fun fl s' hl => ?_) fun _ _ y => y
  obtain ⟨g', L', m', news', T', F', N', k⟩ := hl
  have nL₀ : h₀.get? L = none := kts_self F
  obtain ⟨sl, hs⟩ := T'.up hLg
  refine k ⟨hNs sl _ (F'.keep _ _ hs), fun b o e => F'.keep b o (T'.other b o (st b o e) (fun q => by
    rcases kts_mem q with z | z
    · rw [z, nL₀] at e
      cases e
    · simp at z)), F.above⟩ fun p hp => ⟨(N' p hp).1, fun q => ?_, ?_⟩
  · have := (N' p hp).2.2; rw [q, hs] at this; cases this
  · cases q : h₀.get? p.1 with
    | none => rfl
    | some o =>
      obtain ⟨sl', hs'⟩ := T'.up (st _ _ q)
      have := (N' p hp).2.2
      rw [hs'] at this
      cases this
/-- a raise that came to the frame: enough to catch it -/
theorem raised_up {g g₂ h base : Heap} {L₁ e : Addr} {m₁ : Str → Option Value} {env : Env} {l : List Env} {cls : Value} {news nw' : List (Addr × Obj)} (R : RaisedN base (env :: l) e cls news h) (hf : env.frame = some L₁) (F : Fr g L₁ g₂ m₁) (hsm : g₂.UpToSlots h)
    (hb : ∀ b o, g.get? b = some o → b ∉ l.filterMap (·.frame) → base.get? b = some o) (hn : ∀ q ∈ news, g.get? q.1 = none ∧ q.1 ≠ L₁) :
    ∃ G, Fr g L₁ G m₁ ∧ G.UpToSlots h ∧ RaisedSN base G (env :: l) e cls news h := by
  obtain ⟨hs, hhs⟩ : ∃ hs : List Addr, ∀ b, b ∈ hs ↔ (b < g₂.objs.size ∧ g.get? b = none ∧ b ≠ L₁) := by
    refine ⟨(List.range g₂.objs.size).filter fun b => decide (g.get? b = none ∧ b ≠ L₁), fun b => ?_⟩
    rw [List.mem_filter, List.mem_range, decide_eq_true_eq]
  have nm : ∀ b o, g.get? b = some o → b ∉ hs := fun b o e q => by
    have := ((hhs b).mp q).2.1
    rw [this] at e; cases e
  have nL : L₁ ∉ hs := fun q => ((hhs L₁).mp q).2.2 rfl
  obtain ⟨oL, es, ep, hL, hLd, hLk, hLf⟩ := F.ns
  obtain ⟨B, a0, hB, hl, hfl⟩ := R
  refine ⟨hideAll g₂ hs, ⟨⟨oL, es, ep, hideAll_get hs hL nL, hLd, hLk, hLf⟩, fun b o e => hideAll_get _ (F.keep b o e) (nm b o e), F.above⟩, fun b o e hd => hsm b o (of_hideAll _ e) hd, B, a0, hB, fun b o e hm => ?_, fun q hq => ⟨(hl q hq).1, ?_, (hl q hq).2⟩, hfl⟩
  · have he := of_hideAll _ e
    have hbL : b ≠ L₁ := fun z => hm (List.mem_filterMap.mpr ⟨env, List.mem_cons_self .., by rw [z]; exact hf⟩)
    cases q : g.get? b with
    | none =>
      have := hideAll_none (h := g₂) hs ((hhs b).mpr ⟨Heap.lt_size he, q, hbL⟩)
      rw [this] at e; cases e
    | some o' =>
      have : o' = o := by have z := F.keep b o' q; rw [he] at z; exact (Option.some.inj z).symm
      subst this
      exact hB b o' (hb b o' q fun z => hm (by
        obtain ⟨e1, h1, h2⟩ := List.mem_filterMap.mp z
        exact List.mem_filterMap.mpr ⟨e1, List.mem_cons_of_mem _ h1, h2⟩))
  · cases q2 : (hideAll g₂ hs).get? q.1 with
    | none => rfl
    | some o =>
      have he := of_hideAll _ q2
      have := hideAll_none (h := g₂) hs ((hhs q.1).mpr ⟨Heap.lt_size he, (hn q hq).1, (hn q hq).2⟩)
      rw [this] at q2; cases q2
end
section
local macro_rules | `(tactic| walk_at "my enterH") => `(tactic| (refine' code_defH ?k1 ?k2 ?k3 ?k4 ?k5 ?kA ?k6 ?k7 ?k8 ?k9 ?kB ?_ ?cK ?c2 ?c3 ?c4 ?c5; (case kA => exact rfl); (case k2 => k_asm); (case k1 => assumption); (case k3 => k_asm); (case k4 => k_asm); (case k5 => k_asm); (case k6 => k_is); (case k7 => k_is); (case k8 => ktr_room); (case k9 => first | exact BindsTo.of_eq rfl | exact binds_K (by k_in) rfl (by k_is) rfl rfl rfl); (case kB => exact locs rfl); (case cK => first | exact rfl | assumption); (case c2 => exact rfl); (case c3 => exact rfl); (case c4 => exact rfl); (case c5 => decide); k_whole; intro g' L' h' FG' F' N' B' X' T' D' hB'; (try dsimp only); (try k_fold)))
theorem tok_sn {prog : Program} {w : World} {A : Around} {E : Value → Shared → Prop} {env : Env} {target : PySem.Expr} {v : PySem.Expr} {Q : Flow → Shared → Prop} {s : Shared} {pos : Pos} (h : Hold (wpAny (model prog w) A (exec (.Assign [target] v pos) env) Q E s)) : wpAny (model prog w) A (exec (.Assign [target] v pos) env) Q E s := h
local macro_rules | `(tactic| walk_at "exec Assign cons ListComp") => `(tactic| (k_here; refine tok_sn ?_))
local macro_rules | `(tactic| walk_at "exec Try") => `(tactic| (k_here; refine hold_it ?_))
theorem lst_eq {prog : Program} {w : World} {A : Around} {E : Value → Shared → Prop} {s : Shared} {h₀ : Heap} {L a b : Addr} {nw : List (Addr × Obj)} {xs : List Value} {n k : Nat} {Q : Value → Shared → Prop} (N : News h₀ L s.heap nw) (ha : (a, W.listOf xs.toArray n) ∈ nw) (hb : (b, W.listOf xs.toArray k) ∈ nw) (hu : A.units < cLine) (h : Q (.bool true) s) :
    wpAny (model prog w) A (compareOp .Eq (.ref a) (.ref b)) Q E s := by
  refine cmp_ofEq ?_
  have := SeqAt.RcAt.lists (e := fun _ => true) (N.isList ha) (N.isList hb) rfl hu (fun j h1 h2 => SeqAt.EqAt.same _) prog w E Q
  refine this ?_
  have e : ∀ l : List Nat, (l.all fun _ => true) = true := fun l => by simp
  simpa [e] using h
theorem pick_all (xs : List Value) : kms_pick xs none none = xs := by simp [kms_pick, kms_lo, kms_hi]
local macro_rules | `(tactic| walk_at "subscriptTail Name Slice ref ref") => `(tactic| (k_here; k_dflt (refine' kms_slice_lit (its := (List.map Value.ref _).toArray) (zs := List.map Value.ref _) ?F ?N ?l ?p ?q ?e ?_ ?s ?t ?z; (case F => k_asm); (case N => k_asm); (case l => exact News.isList (by k_asm) (List.mem_cons_self ..)); (case p => kmk_part); (case q => kmk_part); (case e => exact pick_all _); (case s => with_unfolding_all rfl); (case t => kmk_pure); (case z => exact Nat.le_trans (by simpa using (by assumption)) (by decide : 40 ≤ sizeLine))); intro D' h' F' N' l1))
local macro_rules | `(tactic| walk_at "compareOp Eq ref ref") => `(tactic| (k_here; k_dflt (refine' lst_eq ?N ?a ?b ?u ?_; (case N => k_asm); (case a => first | exact List.mem_cons_of_mem _ (List.mem_cons_self ..) | exact List.mem_cons_of_mem _ (List.mem_cons_of_mem _ (List.mem_cons_self ..)) | assumption); (case b => first | exact List.mem_cons_self .. | exact List.mem_cons_of_mem _ (List.mem_cons_self ..) | assumption); (case u => walk_at "my dp"))))
theorem tup_listN {prog : Program} {w : World} {A : Around} {E : Value → Shared → Prop} {s : Shared} {h₀ : Heap} {L a : Addr} {m : Str → Option Value} {nw : List (Addr × Obj)} {xs : List Value} {n : Nat} {Q : Value → Shared → Prop} (F : Fr h₀ L s.heap m) (N : News h₀ L s.heap nw) (ha : (a, W.listOf xs.toArray n) ∈ nw) (hz : xs.length ≤ 100)
    (h : ∀ D h', Fr h₀ L h' m → News h₀ L h' ((D, ({ cls := .type "tuple", data := .seq xs.toArray } : Obj)) :: nw) → AllLt D nw → Q (.ref D) { s with heap := h' }) : wpAny (model prog w) A (call (.type "tuple") [.ref a]) Q E s := by
  refine call_tuple_list (N.isList ha) (fun h' hk => ?_) (Nat.le_trans (by simpa using hz) (by decide : 100 ≤ sizeLine))
  have F1 := Mine.Fr.up F hk
  have N1 := Mine.News.up N hk
  exact h _ _ (F1.push _) (N1.push F1 _) (allLt_of fun p hp => Heap.lt_size (N1 p hp).1)
theorem sp_call {w : World} {mean : ExcName → Option Value} {mg mb : Str → Option Value} {args : List Value} {nd nu : Nat} {nw : List (Addr × Obj)} {o : Out} (hS : Spec w mean mg mb 238 args nd nu nw (TopOk w o) (ErCls o))
    {dp un : Nat} {cn : Str} {cs : Scope} {a : Addr} {ccd : Value} {outer : List Env} {A₀ : Around} {base h₀ : Heap} {L : Addr} {m : Str → Option Value} {s : Shared} {Q E : Value → Shared → Prop}
    (B : Below A₀ base outer h₀) (F : Fr h₀ L s.heap m) (X : (hd.heap_39 w.params).In h₀) (N : News h₀ L s.heap nw) (Tp : Top hd.view_39 lo mean mg mb h₀) (hk : cs.kind = .function) (hd1 : dp + nd < recursionLimit) (hu : un + nu < cLine)
    (hb : ∀ b o, h₀.get? b = some o → b ∉ outer.filterMap (·.frame) → base.get? b = some o)
    (ok : ∀ t st v h' tk' nw', o = .ok t st → Fr h₀ L h' m → News h₀ L h' nw' → (∀ p ∈ nw, p ∈ nw') → TreeIn w nw' v t → Q v { s with heap := h', toks := tk' })
    (er : ∀ e cls h' tk' G, ErCls o cls → Fr h₀ L G m → G.UpToSlots h' → RaisedSN base G (envOf cn cs L a ccd :: outer) e cls nw h' → E (.ref e) { s with heap := h', toks := tk' }) :
    wpAny (model PySem.Challenge.rw_fe0201_01.row.prog w) (AA dp un (some []) cn cs L a ccd outer) (call (.ref 238) args) Q E s := by
  refine hS dp un cn cs a ccd outer A₀ base h₀ L m s Q E B F X N Tp hk hd1 hu (fun r nw' h' tk' F' N' sub x => ?_) (fun e cls h' tk' g₂ hc F2 hsm R => ?_)
  · obtain ⟨t, st, ho, ti⟩ := x.x
    exact ok t st r h' tk' nw' ho F' N' sub ti
  · obtain ⟨G, FG, hG, RG⟩ := raised_up (nw' := nw) R rfl F2 hsm hb fun q hq => ⟨(N q hq).2.2, (N q hq).2.1⟩
    exact er e cls h' tk' G hc FG hG RG
local macro_rules | `(tactic| walk_at "call ref") => `(tactic| (k_here; (with_reducible show wpAny _ _ (call (Value.ref 238) [_, _]) _ _ _); refine hold_it ?_))
theorem lr_at {w : World} {mean : ExcName → Option Value} {mg mb : Str → Option Value} {c : List (Str × Int)} {q : Int} {ts : List Tk} {res : LOut} {R D : Addr} {vs : List Value} {n : Nat} {news nw : List (Addr × Obj)}
    (hq : rkOf c wE = some q) (hR : (R, W.listOf vs.toArray n) ∈ news) (hI : RowIs news vs ts) (dk : DictOk w news D c) (hz : ts.length ≤ 40) (hl : lr (rkOf c) q ts [⟨[], [], false⟩] false = some res) (sub : ∀ p ∈ news, p ∈ nw)
    {dp un : Nat} {cn : Str} {cs : Scope} {a : Addr} {ccd : Value} {outer : List Env} {A₀ : Around} {base h₀ : Heap} {L : Addr} {m : Str → Option Value} {s : Shared} {Q E : Value → Shared → Prop}
    (B : Below A₀ base outer h₀) (F : Fr h₀ L s.heap m) (X : (hd.heap_39 w.params).In h₀) (N : News h₀ L s.heap nw) (Tp : Top hd.view_39 lo mean mg mb h₀) (hk : cs.kind = .function) (hd1 : dp + 70 < recursionLimit) (hu : un + 140 < cLine)
    (h : ∀ ty h' tk', Fr h₀ L h' m → News h₀ L h' nw → Q (.str (outS res) ty) { s with heap := h', toks := tk' }) :
    wpAny (model PySem.Challenge.rw_fe0201_01.row.prog w) (AA dp un (some []) cn cs L a ccd outer) (call (.ref 275) [.ref R, .ref D]) Q E s := by
  refine lr_call hq (sub _ hR) (hI.mono sub) (dk.mono sub) hz hl dp un cn cs a ccd outer A₀ base h₀ L m s Q E B F X N Tp hk hd1 hu (fun r nw' h' tk' F' N' sub' x => ?_) (fun _ _ _ _ _ z => z.elim)
  obtain ⟨ty, rfl⟩ := x.x
  exact h ty h' tk' F' (fun p hp => N' p (sub' p hp))
local macro_rules | `(tactic| walk_at "call ref") => `(tactic| (k_here; (with_reducible show wpAny _ _ (call (Value.ref 275) [_, _]) _ _ _); refine hold_it ?_))
local macro_rules | `(tactic| walk_at "call type:tuple") => `(tactic| (k_here; k_dflt (refine' tup_listN ?F ?N ?a ?z ?_; (case F => k_asm); (case N => k_asm); (case a => first | assumption | exact List.mem_cons_of_mem _ (List.mem_cons_self ..)); (case z => simpa using Nat.le_trans (by assumption) (by decide : 40 ≤ 100)); intro D' h' F' N' l1)))
theorem toksAs {nw : List (Addr × Obj)} {as : List Addr} {ts : List Tk} (h : TokL nw as ts) (hz : ts.length ≤ 100) : ToksAs nw as ts := by
  refine ⟨h.len, hz, ?_⟩
  clear hz
  induction h with
  | nil => intro i a tk ha ht; cases ha
  | @cons a0 kd wd tk0 as ts h1 h2 _ ih =>
    intro i a tk ha ht
    cases i with
    | succ i => exact ih i a tk ha ht
    | zero =>
      cases ha
      cases ht
      cases tk0 with
      | opn => obtain ⟨rfl, rfl⟩ := h2; exact h1
      | cls => obtain ⟨rfl, rfl⟩ := h2; exact h1
      | sign x => obtain ⟨rfl, rfl, x1, x2, x3⟩ := h2; exact ⟨h1, x1, x2, x3⟩
      | atom x =>
        obtain ⟨x1, rfl, x3⟩ := h2
        rcases x1 with rfl | rfl
        · exact ⟨.inl h1, x3⟩
        · exact ⟨.inr h1, x3⟩
      | skip =>
        rcases h2 with rfl | rfl
        · exact ⟨_, .inl h1⟩
        · exact ⟨_, .inr h1⟩
      | eof =>
        have h2 : kd = 0 := h2
        subst h2
        exact ⟨_, h1⟩
theorem ho_call : ∀ {w : World} {mean : ExcName → Option Value} {mg mb : Str → Option Value} {c : List (Str × Int)} {q : Int} {ts : List Tk} {res : LOut} {R D : Addr} {vs : List Value} {n : Nat} {news : List (Addr × Obj)} {gv : Value} {whole : Bool} {o : Out}
    {dp un : Nat} {cn : Str} {cs : Scope} {a : Addr} {ccd : Value} {A₀ : Around} {h₀ : Heap} {L : Addr} {m : Str → Option Value} {s : Shared} {Q E : Value → Shared → Prop}
    (hR : (R, W.listOf vs.toArray n) ∈ news) (hI : RowIs news vs ts) (dk : DictOk w news D c) (hz : ts.length ≤ 40) (hq : rkOf c wE = some q) (hl : lr (rkOf c) q ts [⟨[], [], false⟩] false = some res)
    (hsp : ∀ (TL : Addr) (as : List Addr) (n : Nat) (nw : List (Addr × Obj)), (TL, refsO (if whole then "list" else "tuple") as n) ∈ nw → ToksAs nw as ts → (∀ p ∈ news, p ∈ nw) → Spec w mean mg mb 238 [.ref TL, gv] (cost ts none + 45) (5 * cost ts none + 250) nw (TopOk w o) (ErCls o))
    (ag : (∃ e, o = .err e ∧ res = .err e) ∨ (∃ t, o = .ok t .eof ∧ res = .tree t ∧ TrOk t ∧ tsz t ≤ 50))
    (B : Below A₀ h₀ [] h₀) (F : Fr h₀ L s.heap m) (X : (hd.heap_39 w.params).In h₀) (N : News h₀ L s.heap news) (T : Top hd.view_39 lo mean mg mb h₀) (hk : cs.kind = .function) (hd1 : dp + 400 < recursionLimit) (hu : un + 2000 < cLine)
    (h : ∀ h' tk', Fr h₀ L h' m → News h₀ L h' news → Q (.bool true) { s with heap := h', toks := tk' }),
    wpAny (model PySem.Challenge.rw_fe0201_01.row.prog w) (AA dp un (some []) cn cs L a ccd []) (call (.ref 280) [.ref R, .ref D, gv, .bool whole]) Q E s := by
  walk_at "my fill"
  intro w mean mg mb c q ts res R D vs n news gv whole o dp un cn cs a ccd A₀ h₀ L m s Q E hR hI dk hz hq hl hsp ag B F X N T hk hd1 hu h
  refine wpAny_call ?_
  k_dflt (walk_at "my enterH")
  k_steps
  show wpAny _ _ _ _ _ _
  k_dflt (refine LCp.Assign_ListComp_P (F₀ := by k_asm) (by rfl) (by with_unfolding_all rfl) (by with_unfolding_all rfl) (by decide) (by rfl) (by decide) (by rfl) (by rfl) (by decide) (by rfl) (by rfl) ?_)
  walk1
  refine LCp.SrcLP.ledger (its := vs.toArray) (k := n) rfl (by k_asm) (by k_asm) hR (Nat.le_trans (by simpa [hI.len] using hz) (by decide : 40 ≤ sizeLine)) ?_
  intro g9
  refine' comp_loop (sc := _) (R := R) (n := n) (nw0 := news) (all := ts) ?ast ?B ?X ?T ?h1 ?h2 ?fin ts vs 0 [] [] [] news rfl rfl hI rfl .nil hR (fun _ h => h)
  case ast => exact rfl
  case B => k_asm
  case X => k_asm
  case T => k_asm
  case h1 => omega
  case h2 => omega
  intro as nw hA hs TL h2 tk2 F2 N2 o2
  have hal : as.length ≤ 40 := by rw [hA.len]; exact hz
  k_steps
  have hcst : cost ts none ≤ 160 := by
    unfold cost
    rw [if_neg (by decide)]
    omega
  unfold Hold
  cases whole with
  | true =>
    refine wpAny_Try_except ?_
    k_steps
    unfold Hold
    k_dflt refine' sp_call (hsp TL as (List.map Value.ref as).length _ ?m1 ?m2 ?m3) ?B ?F ?X ?N ?T ?hk ?h1 ?h2 ?hb ?ok ?er
    case N => k_asm
    case m1 =>
      show (TL, LCg.lst (List.map Value.ref as)) ∈ _
      exact List.mem_cons_of_mem _ (List.mem_cons_self ..)
    case m2 => exact ToksAs.mono (toksAs hA (by omega)) (fun p hp => List.mem_cons_of_mem _ (List.mem_cons_of_mem _ hp))
    case m3 => exact fun p hp => List.mem_cons_of_mem _ (List.mem_cons_of_mem _ (hs p hp))
    case B => k_asm
    case F => k_asm
    case X => k_asm
    case T => k_asm
    case hk => rfl
    case h1 => (show dp + 1 + _ < _); omega
    case h2 => (show un + 3 + _ < _); omega
    case hb =>
      intro b o' e hm
      exact (by assumption : ∀ b o, Heap.get? _ b = some o → b ≠ L → h₀.get? b = some o) b o' e (fun z => hm (List.mem_filterMap.mpr ⟨_, List.mem_cons_self .., by rw [z]; rfl⟩))
    case ok =>
      intro t st v h' tk' nw' ho F3 N3 sub3 ti
      rcases ag with ⟨e, rfl, _⟩ | ⟨t0, rfl, rfl, hok, hsz⟩
      · cases ho
      · cases ho
        have hS : SS w t := ss_all hok
        obtain ⟨na, nd, nl, no, nr, q1, q2, q3, qn, rfl, m1, m2⟩ := tree_obj2 ti
        k_steps
        unfold Hold
        k_dflt refine' lr_at hq hR hI dk hz hl ?sb1 ?B1 ?F1 ?X1 ?N1 ?T1 ?hk1 ?h11 ?h21 ?_
        case N1 => k_asm
        case sb1 => exact fun p hp => sub3 p (List.mem_cons_of_mem _ (List.mem_cons_of_mem _ (hs p hp)))
        case B1 => k_asm
        case F1 => k_asm
        case X1 => k_asm
        case T1 => k_asm
        case hk1 => rfl
        case h11 => (show dp + 1 + _ < _); omega
        case h21 => (show un + _ + _ < _); omega
        intro ty9 h9 tk9 F9 N9
        have mK := sub3 _ (List.mem_cons_self ..)
        have mT := sub3 _ (List.mem_cons_of_mem _ (List.mem_cons_self ..))
        k_steps
        · rw [show (sho t == outS (LOut.tree t)) = true from beq_self_eq_true (sho t)]
          exact h _ _ (by k_asm) (News.sub (by k_asm) fun p hp => sub3 p (List.mem_cons_of_mem _ (List.mem_cons_of_mem _ (hs p hp))))
        all_goals
          have z : (sho t == sho t) = false := by assumption
          rw [beq_self_eq_true] at z
          cases z
    case er =>
      intro e cls h' tk' G hc F3 U3 R3
      rcases ag with ⟨e0, rfl, rfl⟩ | ⟨t0, rfl, rfl, hok, hsz⟩
      · cases e0 with
        | syn =>
          have hc : cls = .ref 181 := hc
          subst hc
          k_steps
          unfold Hold
          k_dflt refine' lr_at hq hR hI dk hz hl ?sb2 ?B2 ?F2 ?X2 ?N2 ?T2 ?hk2 ?h12 ?h22 ?_
          case N2 => k_asm
          case sb2 => exact fun p hp => List.mem_cons_of_mem _ (List.mem_cons_of_mem _ (hs p hp))
          case B2 => k_asm
          case F2 => k_asm
          case X2 => k_asm
          case T2 => k_asm
          case hk2 => rfl
          case h12 => (show dp + 1 + _ < _); omega
          case h22 => (show un + _ + _ < _); omega
          intro ty9 h9 tk9 F9 N9
          k_steps
          rw [show (Str.ofString "syntax" == outS (LOut.err Er.syn)) = true from beq_self_eq_true _]
          exact h _ _ (by k_asm) (News.sub (by k_asm) fun p hp => List.mem_cons_of_mem _ (List.mem_cons_of_mem _ (hs p hp)))
        | idle =>
          have hc : cls = .type "AssertionError" := hc
          subst hc
          k_steps
          unfold Hold
          k_dflt refine' lr_at hq hR hI dk hz hl ?sb3 ?B3 ?F3 ?X3 ?N3 ?T3 ?hk3 ?h13 ?h23 ?_
          case N3 => k_asm
          case sb3 => exact fun p hp => List.mem_cons_of_mem _ (List.mem_cons_of_mem _ (hs p hp))
          case B3 => k_asm
          case F3 => k_asm
          case X3 => k_asm
          case T3 => k_asm
          case hk3 => rfl
          case h13 => (show dp + 1 + _ < _); omega
          case h23 => (show un + _ + _ < _); omega
          intro ty9 h9 tk9 F9 N9
          k_steps
          rw [show (Str.ofString "idle" == outS (LOut.err Er.idle)) = true from beq_self_eq_true _]
          exact h _ _ (by k_asm) (News.sub (by k_asm) fun p hp => List.mem_cons_of_mem _ (List.mem_cons_of_mem _ (hs p hp)))
      · exact hc.elim
  | false =>
    refine wpAny_Try_except ?_
    k_steps
    unfold Hold
    k_dflt refine' sp_call (hsp _ as 0 _ ?m1q ?m2q ?m3q) ?Bq ?Fq ?Xq ?Nq ?Tq ?hkq ?h1q ?h2q ?hbq ?okq ?erq
    case Nq => k_asm
    case m1q =>
      exact List.mem_cons_self ..
    case m2q => exact ToksAs.mono (toksAs hA (by omega)) (fun p hp => List.mem_cons_of_mem _ (List.mem_cons_of_mem _ (List.mem_cons_of_mem _ hp)))
    case m3q => exact fun p hp => List.mem_cons_of_mem _ (List.mem_cons_of_mem _ (List.mem_cons_of_mem _ (hs p hp)))
    case Bq => k_asm
    case Fq => k_asm
    case Xq => k_asm
    case Tq => k_asm
    case hkq => rfl
    case h1q => (show dp + 1 + _ < _); omega
    case h2q => (show un + 3 + _ < _); omega
    case hbq =>
      intro b o' e hm
      exact (by assumption : ∀ b o, Heap.get? _ b = some o → b ≠ L → h₀.get? b = some o) b o' e (fun z => hm (List.mem_filterMap.mpr ⟨_, List.mem_cons_self .., by rw [z]; rfl⟩))
    case okq =>
      intro t st v h' tk' nw' ho F3 N3 sub3 ti
      rcases ag with ⟨e, rfl, _⟩ | ⟨t0, rfl, rfl, hok, hsz⟩
      · cases ho
      · cases ho
        have hS : SS w t := ss_all hok
        obtain ⟨na, nd, nl, no, nr, q1, q2, q3, qn, rfl, m1, m2⟩ := tree_obj2 ti
        k_steps
        unfold Hold
        k_dflt refine' lr_at hq hR hI dk hz hl ?sb1q ?B1q ?F1q ?X1q ?N1q ?T1q ?hk1q ?h11q ?h21q ?_
        case N1q => k_asm
        case sb1q => exact fun p hp => sub3 p (List.mem_cons_of_mem _ (List.mem_cons_of_mem _ (List.mem_cons_of_mem _ (hs p hp))))
        case B1q => k_asm
        case F1q => k_asm
        case X1q => k_asm
        case T1q => k_asm
        case hk1q => rfl
        case h11q => (show dp + 1 + _ < _); omega
        case h21q => (show un + _ + _ < _); omega
        intro ty9 h9 tk9 F9 N9
        have mK := sub3 _ (List.mem_cons_of_mem _ (List.mem_cons_self ..))
        have mT := sub3 _ (List.mem_cons_of_mem _ (List.mem_cons_of_mem _ (List.mem_cons_self ..)))
        k_steps
        · rw [show (sho t == outS (LOut.tree t)) = true from beq_self_eq_true (sho t)]
          exact h _ _ (by k_asm) (News.sub (by k_asm) fun p hp => sub3 p (List.mem_cons_of_mem _ (List.mem_cons_of_mem _ (List.mem_cons_of_mem _ (hs p hp)))))
        all_goals
          have z : (sho t == sho t) = false := by assumption
          rw [beq_self_eq_true] at z
          cases z
    case erq =>
      intro e cls h' tk' G hc F3 U3 R3
      rcases ag with ⟨e0, rfl, rfl⟩ | ⟨t0, rfl, rfl, hok, hsz⟩
      · cases e0 with
        | syn =>
          have hc : cls = .ref 181 := hc
          subst hc
          k_steps
          unfold Hold
          k_dflt refine' lr_at hq hR hI dk hz hl ?sb2q ?B2q ?F2q ?X2q ?N2q ?T2q ?hk2q ?h12q ?h22q ?_
          case N2q => k_asm
          case sb2q => exact fun p hp => List.mem_cons_of_mem _ (List.mem_cons_of_mem _ (List.mem_cons_of_mem _ (hs p hp)))
          case B2q => k_asm
          case F2q => k_asm
          case X2q => k_asm
          case T2q => k_asm
          case hk2q => rfl
          case h12q => (show dp + 1 + _ < _); omega
          case h22q => (show un + _ + _ < _); omega
          intro ty9 h9 tk9 F9 N9
          k_steps
          rw [show (Str.ofString "syntax" == outS (LOut.err Er.syn)) = true from beq_self_eq_true _]
          exact h _ _ (by k_asm) (News.sub (by k_asm) fun p hp => List.mem_cons_of_mem _ (List.mem_cons_of_mem _ (List.mem_cons_of_mem _ (hs p hp))))
        | idle =>
          have hc : cls = .type "AssertionError" := hc
          subst hc
          k_steps
          unfold Hold
          k_dflt refine' lr_at hq hR hI dk hz hl ?sb3q ?B3q ?F3q ?X3q ?N3q ?T3q ?hk3q ?h13q ?h23q ?_
          case N3q => k_asm
          case sb3q => exact fun p hp => List.mem_cons_of_mem _ (List.mem_cons_of_mem _ (List.mem_cons_of_mem _ (hs p hp)))
          case B3q => k_asm
          case F3q => k_asm
          case X3q => k_asm
          case T3q => k_asm
          case hk3q => rfl
          case h13q => (show dp + 1 + _ < _); omega
          case h23q => (show un + _ + _ < _); omega
          intro ty9 h9 tk9 F9 N9
          k_steps
          rw [show (Str.ofString "idle" == outS (LOut.err Er.idle)) = true from beq_self_eq_true _]
          exact h _ _ (by k_asm) (News.sub (by k_asm) fun p hp => List.mem_cons_of_mem _ (List.mem_cons_of_mem _ (List.mem_cons_of_mem _ (hs p hp))))
      · exact hc.elim
end
theorem tick_15 {prog : Program} {w : World} {A : Around} {E : Value → Shared → Prop} {env : Env} {Q : Flow → Shared → Prop} {s : Shared} (h : Q .next s) : wpAny (model prog w) A (execs [] env) Q E s := by
  walk1
  exact h
section
open PyProof.V
structure CInv (c : List (Str × Int)) : Prop where
  nd : (c.map (·.1)).Nodup
  kw : ∀ p ∈ c, p.1 ∈ rkWords
  vl : ∀ p ∈ c, 0 ≤ p.2
theorem CInv.put {c : List (Str × Int)} (h : CInv c) {k : Str} {v : Int} (hk : k ∈ rkWords) (hv : 0 ≤ v) : CInv (kdpPut c k v) := by
  unfold kdpPut
  split
  · rename_i hc
    have e : (c.map (fun p => if decide (p.1 = k) then (p.1, v) else p)).map (·.1) = c.map (·.1) := by
      rw [List.map_map]
      refine List.map_congr_left fun p _ => ?_
      show (if decide (p.1 = k) = true then (p.1, v) else p).1 = p.1
      split <;> rfl
    refine ⟨by rw [e]; exact h.nd, fun p hp => ?_, fun p hp => ?_⟩
    · obtain ⟨x, hx, rfl⟩ := List.mem_map.mp hp
      have := h.kw x hx
      split <;> exact this
    · obtain ⟨x, hx, rfl⟩ := List.mem_map.mp hp
      have := h.vl x hx
      split
      · exact hv
      · exact this
  · rename_i hc
    have hc' : ∀ p ∈ c, p.1 ≠ k := by
      intro p hp e
      exact hc (List.any_eq_true.mpr ⟨p, hp, by simp [e]⟩)
    refine ⟨?_, fun p hp => ?_, fun p hp => ?_⟩
    · rw [List.map_append, List.nodup_append]
      refine ⟨h.nd, by simp, fun a ha b hb => ?_⟩
      obtain ⟨x, hx, rfl⟩ := List.mem_map.mp ha
      have : b = k := by simpa using hb
      rw [this]
      exact hc' x hx
    · rcases List.mem_append.mp hp with hp | hp
      · exact h.kw p hp
      · rw [List.mem_singleton.mp hp]; exact hk
    · rcases List.mem_append.mp hp with hp | hp
      · exact h.vl p hp
      · rw [List.mem_singleton.mp hp]; exact hv
theorem CInv.step {f kk : Int} {c : List (Str × Int)} (h : CInv c) {k : Str} (hk : k ∈ rkWords) : CInv (rkStep f kk k c) := by
  unfold rkStep
  split
  · exact h.put hk (Int.fmod_nonneg_of_pos _ (by decide))
  · exact h
theorem CInv.go {f : Int} : ∀ (ws : List Wd) (i : Nat) (c : List (Str × Int)), CInv c → (∀ w ∈ ws, w ∈ rkWords) → CInv (rkGo f i ws c)
  | [], _, _, h, _ => h
  | w :: ws, i, c, h, hw => CInv.go ws (i + 1) _ (h.step (hw w (List.mem_cons_self ..))) fun x hx => hw x (List.mem_cons_of_mem _ hx)
theorem has_step {f kk : Int} {c : List (Str × Int)} {k j : Str} (h : kdpHas c j = true ∨ (j = k ∧ k = wE)) : kdpHas (rkStep f kk k c) j = true := by
  unfold rkStep
  split
  · rw [kdpHas_put]
    rcases h with h | h
    · rw [h, Bool.or_true]
    · rw [decide_eq_true h.1, Bool.true_or]
  · rename_i hn
    rcases h with h | h
    · exact h
    · exact absurd (.inr h.2) hn
theorem has_go {f : Int} : ∀ (ws : List Wd) (i : Nat) (c : List (Str × Int)), (kdpHas c wE = true ∨ wE ∈ ws) → kdpHas (rkGo f i ws c) wE = true
  | [], _, _, h => h.elim id fun h => nomatch h
  | w :: ws, i, c, h => has_go ws (i + 1) _ (by
      rcases h with h | h
      · exact .inl (has_step (.inl h))
      · rcases List.mem_cons.mp h with h | h
        · exact .inl (has_step (.inr ⟨h, h.symm⟩))
        · exact .inr h)
theorem ranks_inv (f : Int) : CInv (ranksOf f) := CInv.go rkWords 0 [] ⟨List.nodup_nil, (fun _ h => nomatch h), (fun _ h => nomatch h)⟩ fun _ h => h
theorem rk_none {c : List (Str × Int)} {x : Wd} (h : ∀ p ∈ c, p.1 ≠ x) : rkOf c x = none := by
  unfold rkOf
  rw [Option.map_eq_none_iff, List.find?_eq_none]
  exact fun p hp => by simpa using h p hp
theorem ranks_cok (f : Int) : ∃ q, COk (ranksOf f) q ∧ 0 ≤ q := by
  have hi := ranks_inv f
  have hh : kdpHas (ranksOf f) wE = true := has_go rkWords 0 [] (.inr (by decide))
  have hnn := rk_nonneg hi.vl
  cases hr : rkOf (ranksOf f) wE with
  | none => rw [rk_no hr] at hh; cases hh
  | some q =>
    refine ⟨q, ⟨rk_none fun p hp e => ?_, rk_none fun p hp e => ?_, hr⟩, hnn _ _ hr⟩
    · exact absurd (e ▸ hi.kw p hp) (by decide +kernel)
    · exact absurd (e ▸ hi.kw p hp) (by decide +kernel)
theorem ranks_dk {w : World} {nw : List (Addr × Obj)} {RD : Addr} {o : Obj} {kvs : List (Str × Value)} {c : List (Str × Int)} (hm : (RD, o) ∈ nw) (hs : (RD == sysModules) = false) (ho : o.IsDictOf (PySem.strKind PySem.Challenge.rw_fe0201_01.row.prog w) kvs) (hf : FlatPairs PyData.str kvs (kdpD c)) : DictOk w nw RD c :=
  fun h _ N => TabAt.ofObj hs (N _ hm) ho hf
theorem rows_same (c : List (Str × Int)) (nd : (c.map (·.1)).Nodup) : ∀ l : List (Str × Int), (∀ p ∈ l, p ∈ c) → KeqRows (kdpD c) (kdpD l) true
  | [], _ => .nil
  | (k, v) :: l, h => by
    have hk := h (k, v) (List.mem_cons_self ..)
    have hl : PySem.Spec.lookup (PyData.str k) (kdpD c) = some (PyData.int v) := by
      rw [kdpD_lookup]
      have : c.find? (fun p => decide (p.1 = k)) = some (k, v) := by
        clear h
        induction c with
        | nil => cases hk
        | cons x c ih =>
          rw [List.map_cons, List.nodup_cons] at nd
          rw [List.find?_cons]
          rcases List.mem_cons.mp hk with e | hk'
          · rw [← e]; simp
          · have : x.1 ≠ k := fun e => nd.1 (by rw [e]; exact List.mem_map.mpr ⟨_, hk', rfl⟩)
            rw [decide_eq_false this]
            exact ih nd.2 hk'
      rw [this]
      rfl
    have := KeqRows.hit (v := PyData.int v) hl (rows_same c nd l fun p hp => h p (List.mem_cons_of_mem _ hp))
    have e : (PyData.eqv (PyData.int v) (PyData.int v) && true) = true := by simp [PyData.eqv]
    rw [e] at this
    exact this
theorem ranks_eq {w : World} {A : Around} {E : Value → Shared → Prop} {s : Shared} {a b : Addr} {c : List (Str × Int)} {Q : Value → Shared → Prop} (nd : (c.map (·.1)).Nodup)
    (Ta : StrTab PySem.Challenge.rw_fe0201_01.row.prog w s.heap a (kdpD c)) (Tb : StrTab PySem.Challenge.rw_fe0201_01.row.prog w s.heap b (kdpD c)) (hu : A.units < cLine) (h : Q (.bool true) s) :
    wpAny (model PySem.Challenge.rw_fe0201_01.row.prog w) A (compareOp .Eq (.ref a) (.ref b)) Q E s :=
  keq_tabs same_str Ta Tb rfl hu (rows_same c nd c fun _ h => h) h
def TkW : Tk → Prop
  | .sign w => w.length ≤ 10
  | .atom w => w.length ≤ 10
  | _ => True
def GOk (Y : List Grp) : Prop := ∀ y ∈ Y, (∀ t ∈ y.parts, TrOk t) ∧ (∀ x ∈ y.wait, x.word.length ≤ 10)
theorem GOk.cons {y : Grp} {Y : List Grp} (h : GOk Y) (h1 : ∀ t ∈ y.parts, TrOk t) (h2 : ∀ x ∈ y.wait, x.word.length ≤ 10) : GOk (y :: Y) := List.forall_mem_cons.mpr ⟨⟨h1, h2⟩, h⟩
theorem lr_sz {rk : Wd → Option Int} {q : Int} {t : Tr} {N : Nat} : ∀ (ts : List Tk) (Y : List Grp) (ready : Bool), lr rk q ts Y ready = some (.tree t) → (∀ tk ∈ ts, TkW tk) → GOk Y → gsz Y + 2 * ts.length ≤ N → TrOk t ∧ tsz t ≤ N := by
  intro ts
  induction ts with
  | nil => intro Y ready h; cases (show some (LOut.err Er.syn) = some (LOut.tree t) by simpa only [lr] using h)
  | cons tk ts ih =>
    intro Y ready hl hw hY hN
    obtain ⟨hw0, hw1⟩ := List.forall_mem_cons.mp hw
    simp only [List.length_cons] at hN
    cases tk with
    | skip =>
      cases Y with
      | nil => simp [lr] at hl
      | cons y Y =>
        simp only [lr] at hl
        exact ih _ ready hl hw1 hY (by omega)
    | eof =>
      cases Y with
      | nil => simp [lr] at hl
      | cons y Y =>
        obtain ⟨⟨h1, h2⟩, hYa⟩ := List.forall_mem_cons.mp hY
        have hY1 : GOk Y := hYa
        simp only [gsz] at hN
        simp only [lr] at hl
        split at hl
        · cases hl
        · split at hl
          · rename_i t' ws' hb
            cases hl
            obtain ⟨k1, k2, k3⟩ := bnd_sz hb h1 h2
            simp only [psz] at k3
            exact ⟨k1 _ (List.mem_cons_self ..), by omega⟩
          · cases hl
    | opn =>
      cases Y with
      | nil => simp [lr] at hl
      | cons y Y =>
        simp only [lr] at hl
        exact ih _ _ hl hw1 (hY.cons (fun _ h => nomatch h) (fun _ h => nomatch h)) (by simp only [gsz, psz, List.length_nil] at hN ⊢; omega)
    | sign x =>
      have hx10 : x.length ≤ 10 := hw0
      cases Y with
      | nil => simp [lr] at hl
      | cons y Y =>
        obtain ⟨⟨h1, h2⟩, hYa⟩ := List.forall_mem_cons.mp hY
        have hY1 : GOk Y := hYa
        simp only [gsz] at hN
        simp only [lr] at hl
        cases hx : rk x with
        | none => rw [hx] at hl; simp at hl
        | some kx =>
          rw [hx] at hl
          simp only at hl
          split at hl
          · cases hl
          · rename_i ps ws hb
            have k : (∀ t ∈ ps, TrOk t) ∧ (∀ x ∈ ws, x.word.length ≤ 10) ∧ psz ps + ws.length ≤ psz y.parts + y.wait.length := by
              split at hb
              · exact bnd_sz hb h1 h2
              · cases hb; exact ⟨h1, h2, Nat.le_refl _⟩
            obtain ⟨k1, k2, k3⟩ := k
            refine ih _ _ hl hw1 (hY1.cons k1 (List.forall_mem_cons.mpr ⟨?_, k2⟩)) (by simp only [gsz, List.length_cons]; omega)
            split <;> exact hx10
    | atom x =>
      have hx10 : x.length ≤ 10 := hw0
      cases Y with
      | nil => simp [lr] at hl
      | cons y Y =>
        obtain ⟨⟨h1, h2⟩, hYa⟩ := List.forall_mem_cons.mp hY
        have hY1 : GOk Y := hYa
        simp only [gsz] at hN
        simp only [lr] at hl
        split at hl
        · split at hl
          · cases hl
          · rename_i ps ws hb
            obtain ⟨k1, k2, k3⟩ := bnd_sz hb h1 h2
            exact ih _ _ hl hw1 (hY1.cons (List.forall_mem_cons.mpr ⟨hx10, k1⟩) (List.forall_mem_cons.mpr ⟨(by show Str.length wE ≤ 10; decide), k2⟩)) (by simp only [gsz, psz, tsz, List.length_cons]; omega)
        · exact ih _ _ hl hw1 (hY1.cons (List.forall_mem_cons.mpr ⟨hx10, h1⟩) h2) (by simp only [gsz, psz, tsz]; omega)
    | cls =>
      cases Y with
      | nil => simp [lr] at hl
      | cons y Y =>
        obtain ⟨⟨h1, h2⟩, hYa⟩ := List.forall_mem_cons.mp hY
        have hY1 : GOk Y := hYa
        simp only [gsz] at hN
        simp only [lr] at hl
        split at hl
        · cases hl
        · cases Y with
          | nil => simp at hl
          | cons y2 Y2 =>
            obtain ⟨⟨h3, h4⟩, hYb⟩ := List.forall_mem_cons.mp hY1
            have hY2 : GOk Y2 := hYb
            simp only [gsz] at hN
            simp only at hl
            split at hl
            · rename_i t' ws' hb
              obtain ⟨k1, k2, k3⟩ := bnd_sz hb h1 h2
              have kt := k1 _ (List.mem_cons_self ..)
              simp only [psz] at k3
              split at hl
              · split at hl
                · rename_i l ps hps
                  rw [hps] at h3 hN
                  simp only [psz] at hN
                  obtain ⟨h5, h6⟩ := List.forall_mem_cons.mp h3
                  exact ih _ _ hl hw1 (hY2.cons (List.forall_mem_cons.mpr ⟨⟨h5, kt⟩, h6⟩) h4) (by simp only [gsz, psz, tsz]; omega)
                · cases hl
              · exact ih _ _ hl hw1 (hY2.cons (List.forall_mem_cons.mpr ⟨kt, h3⟩) h4) (by simp only [gsz, psz]; omega)
            · cases hl
theorem lr_congr {rk rk' : Wd → Option Int} {q : Int} (hU : rk wU = rk' wU) : ∀ (ts : List Tk) (Y : List Grp) (ready : Bool), (∀ w, Tk.sign w ∈ ts → rk w = rk' w) → lr rk q ts Y ready = lr rk' q ts Y ready := by
  intro ts
  induction ts with
  | nil => intro Y ready h; simp [lr]
  | cons tk ts ih =>
    intro Y ready h
    have ih' : ∀ Y ready, lr rk q ts Y ready = lr rk' q ts Y ready := fun Y ready => ih Y ready fun w hw => h w (List.mem_cons_of_mem _ hw)
    cases tk with
    | skip => cases Y <;> simp only [lr, ih']
    | eof => cases Y <;> simp only [lr]
    | opn => cases Y <;> simp only [lr, ih']
    | sign x =>
      have hx := h x (List.mem_cons_self ..)
      cases Y <;> simp only [lr, ih', hx, hU]
    | atom x => cases Y <;> simp only [lr, ih']
    | cls => cases Y <;> simp only [lr, ih']
theorem kw_tkw {kd : Int} {wd : Wd} {tk : Tk} (h : KW kd wd tk) : TkW tk := by
  cases tk with
  | sign w => exact h.2.2.2.2
  | atom w => exact h.2.2
  | _ => trivial
theorem RowIs.tkw {nw : List (Addr × Obj)} {vs : List Value} {ts : List Tk} (h : RowIs nw vs ts) : ∀ tk ∈ ts, TkW tk := by
  induction h with
  | nil => exact fun _ h => nomatch h
  | cons a b _ i => exact List.forall_mem_cons.mpr ⟨kw_tkw b, i⟩
theorem agree {c : List (Str × Int)} {q : Int} {ts : List Tk} (hc : COk c q) (hnn : ∀ p ∈ c, 0 ≤ p.2) (hl : ts.length ≤ 20) (hok : EndOk ts) (hs : ∀ w, Tk.sign w ∈ ts → SgOk w) (hw : ∀ tk ∈ ts, TkW tk) :
    ∃ o res, Bet (rkOf c) q ts 0 .none none o ∧ lr (rkOf c) q ts [⟨[], [], false⟩] false = some res ∧ ((∃ e, o = .err e ∧ res = .err e) ∨ (∃ t, o = .ok t .eof ∧ res = .tree t ∧ TrOk t ∧ tsz t ≤ 50)) := by
  rcases plain hc.e (rk_nonneg hnn) (by omega : ts.length ≤ 100) hok (fun w h => (hs w h).1) with ⟨e, h1, h2⟩ | ⟨t, h1, h2⟩
  · exact ⟨_, _, h1, h2, .inl ⟨e, rfl, rfl⟩⟩
  · have := lr_sz (N := 40) ts [⟨[], [], false⟩] false h2 hw (List.forall_mem_cons.mpr ⟨⟨(fun _ h => nomatch h), (fun _ h => nomatch h)⟩, (fun _ h => nomatch h)⟩) (by simp only [gsz, psz, List.length_nil]; omega)
    exact ⟨_, _, h1, h2, .inr ⟨t, rfl, rfl, this.1, by omega⟩⟩
section
variable {w : World} {mean : ExcName → Option Value} {mg mb : Str → Option Value} {c : List (Str × Int)} {q : Int} {ts : List Tk} {R D : Addr} {vs : List Value} {n : Nat} {news : List (Addr × Obj)} {whole : Bool}
    {dp un : Nat} {cn : Str} {cs : Scope} {a : Addr} {ccd : Value} {A₀ : Around} {h₀ : Heap} {L : Addr} {m : Str → Option Value} {s : Shared} {Q E : Value → Shared → Prop}
theorem ho_ranks (hR : (R, W.listOf vs.toArray n) ∈ news) (hI : RowIs news vs ts) (dk : DictOk w news D c) (hc : COk c q) (hnn : ∀ p ∈ c, 0 ≤ p.2) (hz : ts.length ≤ 20) (hne : ts ≠ []) (hok : EndOk ts) (hs : ∀ w, Tk.sign w ∈ ts → SgOk w)
    (B : Below A₀ h₀ [] h₀) (F : Fr h₀ L s.heap m) (X : (hd.heap_39 w.params).In h₀) (N : News h₀ L s.heap news) (T : Top hd.view_39 lo mean mg mb h₀) (hk : cs.kind = .function) (hd1 : dp + 400 < recursionLimit) (hu : un + 2000 < cLine)
    (h : ∀ h' tk', Fr h₀ L h' m → News h₀ L h' news → Q (.bool true) { s with heap := h', toks := tk' }) :
    wpAny (model PySem.Challenge.rw_fe0201_01.row.prog w) (AA dp un (some []) cn cs L a ccd []) (call (.ref 280) [.ref R, .ref D, .ref D, .bool whole]) Q E s := by
  obtain ⟨o, res, hB, hl, ag⟩ := agree hc hnn hz hok hs hI.tkw
  refine ho_call (o := o) hR hI dk (by omega) hc.e hl (fun TL as k nw hm hT sub => ?_) ag B F X N T hk hd1 hu h
  cases whole with
  | true => exact bet_list hc hne hB hm hT (dk.mono sub)
  | false => exact bet_tuple hc hne hB hm hT (dk.mono sub)
theorem ho_usual (hR : (R, W.listOf vs.toArray n) ∈ news) (hI : RowIs news vs ts) (hz : ts.length ≤ 20) (hne : ts ≠ []) (hok : EndOk ts) (hs : ∀ w, Tk.sign w ∈ ts → SgOk w)
    (B : Below A₀ h₀ [] h₀) (F : Fr h₀ L s.heap m) (X : (hd.heap_39 w.params).In h₀) (N : News h₀ L s.heap news) (T : Top hd.view_39 lo mean mg mb h₀) (hk : cs.kind = .function) (hd1 : dp + 400 < recursionLimit) (hu : un + 2000 < cLine)
    (h : ∀ h' tk', Fr h₀ L h' m → News h₀ L h' news → Q (.bool true) { s with heap := h', toks := tk' }) :
    wpAny (model PySem.Challenge.rw_fe0201_01.row.prog w) (AA dp un (some []) cn cs L a ccd []) (call (.ref 280) [.ref R, .ref 240, .none, .bool true]) Q E s := by
  obtain ⟨o, res, hB, hl, ag⟩ := agree cok185 (by decide +kernel) hz hok hs hI.tkw
  rw [lr_congr (rk' := rkOf c240) (rk185 (by decide +kernel)) _ _ _ fun w hw => rk185 (hs w hw).2] at hl
  refine ho_call (o := o) hR hI dk240 (by omega) cok240.e hl (fun TL as k nw hm hT sub => ?_) ag B F X N T hk hd1 hu h
  exact bet_usual cok185 hne hB hm hT dk185
end
def lwOf : Option Obj → Option (Scope × List Stmt)
  | some ⟨_, _, .func fd, _⟩ => match fd.body with
    | .stmts b => some (fd.scope, b)
    | _ => none
  | _ => none
def LwAst (w : World) (sc : Scope) (body : List Stmt) : Prop := lwOf ((hd.heap_39 w.params).lookup 287) = some (sc, body)
theorem lw_use {x : Option Obj} {o : Obj} {y : Option (Scope × List Stmt)} {P : Prop} (e : x = some o) (h : lwOf x = y) (k : lwOf (some o) = y → P) : P := k (e ▸ h)
local macro_rules | `(tactic| walk_at "lw ast") => `(tactic| (refine' lw_use ?e (by assumption) ?kk; (case e => k_dflt k_is); intro hast2; (dsimp only [lwOf] at hast2); (simp only [Option.some.injEq, Prod.mk.injEq] at hast2); obtain ⟨a1, a2⟩ := hast2; subst a1 a2))
abbrev lwEnv (sc : Scope) (L a : Addr) (cdv : Value) : Env := envOf (Str.ofString "law") sc L a cdv
theorem ints_take : ∀ {vs : List Value} {zs : List Int} (n : Nat), IntsAre vs zs → IntsAre (vs.take n) (zs.take n)
  | _, _, 0, _ => by simpa using IntsAre.nil
  | _, _, n + 1, .nil => by simpa using IntsAre.nil
  | _, _, n + 1, .cons z t h => IntsAre.cons z t (ints_take n h)
theorem ints_drop : ∀ {vs : List Value} {zs : List Int} (n : Nat), IntsAre vs zs → IntsAre (vs.drop n) (zs.drop n)
  | _, _, 0, h => h
  | _, _, n + 1, .nil => .nil
  | _, _, n + 1, .cons z t h => ints_drop n h
theorem ints_app {vs : List Value} {zs : List Int} {vs' : List Value} {zs' : List Int} (h : IntsAre vs zs) (h' : IntsAre vs' zs') : IntsAre (vs ++ vs') (zs ++ zs') := by
  induction h with
  | nil => exact h'
  | cons z t _ i => exact .cons z t i
theorem ints_pick1 {vs : List Value} {zs : List Int} (h : IntsAre vs zs) : ∃ zs1, IntsAre (kms_pick vs (some 1) (some 13)) zs1 ∧ zs1.length ≤ 12 := by
  refine ⟨(zs.drop (kms_lo (some 1) vs.length)).take (kms_hi (some 13) vs.length - kms_lo (some 1) vs.length), ints_take _ (ints_drop _ h), ?_⟩
  rw [List.length_take]
  simp only [kms_lo, kms_hi, show ¬ (1 : Int) < 0 by decide, show ¬ (13 : Int) < 0 by decide, if_false]
  have : (1 : Int).toNat = 1 := rfl
  have : (13 : Int).toNat = 13 := rfl
  omega
theorem ints_pick2 {vs : List Value} {zs : List Int} {n : Nat} (h : IntsAre vs zs) : ∃ zs1, IntsAre (kms_pick vs (some (n : Int)) none) zs1 ∧ zs1.length = zs.length - n := by
  refine ⟨(zs.drop (kms_lo (some (n : Int)) vs.length)).take (kms_hi none vs.length - kms_lo (some (n : Int)) vs.length), ints_take _ (ints_drop _ h), ?_⟩
  rw [List.length_take, List.length_drop]
  have hl := h.length
  simp only [kms_lo, kms_hi, show ¬ (n : Int) < 0 by omega, if_false, Int.toNat_natCast]
  omega
theorem add_more {prog : Program} {w : World} {A : Around} {E : Value → Shared → Prop} {s : Shared} {h₀ : Heap} {L a b : Addr} {m : Str → Option Value} {nw : List (Addr × Obj)} {vs1 ml : List Value} {zs1 mz : List Int} {k1 k2 : Nat} {Q : Value → Shared → Prop} (F : Fr h₀ L s.heap m) (N : News h₀ L s.heap nw)
    (ha : (a, W.listOf vs1.toArray k1) ∈ nw) (hb : (b, W.listOf (kms_pick ml (some ((vs1.length : Nat) : Int)) none).toArray k2) ∈ nw) (hI1 : IntsAre vs1 zs1) (hM : IntsAre ml mz) (hl : mz.length = 12) (hz : zs1.length ≤ 12)
    (h : ∀ D us zs h', Fr h₀ L h' m → News h₀ L h' ((D, W.listOf us.toArray 0) :: nw) → IntsAre us zs → zs.length = 12 → Q (.ref D) { s with heap := h' }) : wpAny (model prog w) A (binaryOp .Add (.ref a) (.ref b)) Q E s := by
  obtain ⟨zs2, hI2, hz2⟩ := ints_pick2 (n := vs1.length) hM
  have hv1 := hI1.length
  have hv2 := hI2.length
  refine kmk_add_lit F N (N.isList ha) (N.isList hb) rfl (fun D h' F' N' _ => h D _ (zs1 ++ zs2) h' F' N' (ints_app hI1 hI2) (by rw [List.length_append]; omega)) (Nat.le_trans ?_ (by decide : 24 ≤ sizeLine))
  show vs1.length + (kms_pick ml (some ((vs1.length : Nat) : Int)) none).length ≤ 24
  omega
section
local macro_rules | `(tactic| walk_at "subscriptTail Name Slice ref ref") => `(tactic| (k_here; refine hold_it ?_))
local macro_rules | `(tactic| walk_at "subscriptTail Call Slice ref ref") => `(tactic| (k_here; refine hold_it ?_))
local macro_rules | `(tactic| walk_at "binaryOp Add ref ref") => `(tactic| (k_here; refine hold_it ?_))
local macro_rules | `(tactic| walk_at "call builtin:len") => `(tactic| (k_here; refine hold_it ?_))
local macro_rules | `(tactic| walk_at "call ref") => `(tactic| (k_here; (first | (with_reducible show wpAny _ _ (call (Value.ref 261) _) _ _ _) | (with_reducible show wpAny _ _ (call (Value.ref 254) _) _ _ _) | (with_reducible show wpAny _ _ (call (Value.ref 280) _) _ _ _)); refine hold_it ?_))
local macro_rules | `(tactic| walk_at "execs cons") => `(tactic| (k_here; (with_reducible show wpAny _ _ (execs (Stmt.For _ _ _ _ _ :: _) _) _ _ _); refine hold_it ?_))
theorem law_1 : ∀ {w : World} {sc : Scope} {body : List Stmt} (hast : LwAst w sc body) {mean : ExcName → Option Value} {mg mb : Str → Option Value} {h₀ : Heap} {a L SL : Addr} {cdv : Value} {m : Str → Option Value} {s : Shared} {Q : Flow → Shared → Prop} {E : Value → Shared → Prop} {f : Int} {tf : Tok} {vs : List Value} {zs : List Int}
    (B : Below callerA h₀ [] h₀) (F : Fr h₀ L s.heap m) (X : (hd.heap_39 w.params).In h₀) (N : News h₀ L s.heap []) (Tp : Top hd.view_39 lo mean mg mb h₀) (mS : m (Str.ofString "script") = some (.ref SL)) (mF : m (Str.ofString "first") = some (.int f tf)) (hf0 : 0 ≤ f) (hf9 : f < 3486784401) (hL : h₀.IsList SL vs.toArray) (hI : IntsAre vs zs) (hz : zs.length ≤ 63)
    (h : ∀ R rvs rn ts RD o kvs nw h' tk' m', Fr h₀ L h' m' → News h₀ L h' nw → (R, W.listOf (List.toArray rvs) rn) ∈ nw → RowIs nw rvs ts → ts.length = 12 → (∀ w, Tk.sign w ∈ ts → SgOk w) → (RD, o) ∈ nw → (RD == sysModules) = false → o.IsDictOf (PySem.strKind PySem.Challenge.rw_fe0201_01.row.prog w) kvs → FlatPairs PyData.str kvs (kdpD (ranksOf f)) →
      m' (Str.ofString "row") = some (.ref R) → m' (Str.ofString "ranks") = some (.ref RD) → (∃ tf, m' (Str.ofString "first") = some (.int f tf)) → wpAny (model PySem.Challenge.rw_fe0201_01.row.prog w) (callerA.deeper (lwEnv sc L a cdv)) (execs (body.drop 4) (lwEnv sc L a cdv)) Q E { s with heap := h', toks := tk' }),
    wpAny (model PySem.Challenge.rw_fe0201_01.row.prog w) (callerA.deeper (lwEnv sc L a cdv)) (execs (body.drop 1) (lwEnv sc L a cdv)) Q E s := by
  walk_at "my fill"
  intro w sc body hast mean mg mb h₀ a L SL cdv m s Q E f tf vs zs B F X N Tp mS mF hf0 hf9 hL hI hz h
  walk_at "lw ast"
  have em : m = (fun y => if y = Str.ofString "script" then some (.ref SL) else if y = Str.ofString "first" then some (.int f tf) else m y) := by
    funext y
    repeat' split
    all_goals first | rfl | (rename_i e; subst e; assumption)
  rw [em] at F
  show wpAny _ _ (execs (_ :: _) _) _ _ _
  k_steps
  unfold Hold
  have hvz := hI.length
  k_dflt refine' kms_slice_lit (its := vs.toArray) (zs := kms_pick vs (some 1) (some 13)) ?F1 ?N1 ?l1 ?p1 ?q1 ?e1 ?_ ?s1 ?t1 ?z1
  case F1 => k_asm
  case N1 => k_asm
  case l1 => exact Fr.lst (by k_asm) hL
  case p1 => kmk_part
  case q1 => kmk_part
  case e1 => rfl
  case s1 => with_unfolding_all rfl
  case t1 => kmk_pure
  case z1 => exact Nat.le_trans (by simpa [hvz] using hz) (by decide : 63 ≤ sizeLine)
  intro D1 h1 F1' N1' l1
  obtain ⟨zs1, hI1, hz1⟩ := ints_pick1 hI
  generalize kms_pick vs (some 1) (some 13) = vs1 at *
  k_steps
  unfold Hold
  have hv1 := hI1.length
  refine len_list (News.isList (by k_asm) (List.mem_cons_of_mem _ (List.mem_cons_self ..))) (by simp; omega) ?_
  k_steps
  unfold Hold
  k_dflt refine' kms_slice_lit (zs := kms_pick (Array.toList _) (some ((vs1.length : Nat) : Int)) none) ?F2 ?N2 ?l2 ?p2 ?q2 ?e2 ?_ ?s2 ?t2 ?z2
  case F2 => k_asm
  case N2 => k_asm
  case l2 => exact News.isList (by k_asm) (List.mem_cons_self ..)
  case p2 => kmk_part
  case q2 => kmk_part
  case e2 => rfl
  case s2 => with_unfolding_all rfl
  case t2 => kmk_pure
  case z2 => exact Nat.le_of_ble_eq_true rfl
  intro D2 h2 F2' N2' l2
  refine' add_more (mz := [0, 8, 5, 1, 2, 12, 3, 6, 0, 13, 5, 2]) ?F3 ?N3 ?ha ?hb hI1 ?hM rfl hz1 ?_
  case F3 => k_asm
  case N3 => k_asm
  case hb => exact List.mem_cons_self ..
  case ha => exact List.mem_cons_of_mem _ (List.mem_cons_of_mem _ (List.mem_cons_self ..))
  case hM => exact .cons 0 _ (.cons 8 _ (.cons 5 _ (.cons 1 _ (.cons 2 _ (.cons 12 _ (.cons 3 _ (.cons 6 _ (.cons 0 _ (.cons 13 _ (.cons 5 _ (.cons 2 _ .nil)))))))))))
  intro D3 us zs3 h3 F3' N3' hI3 hz3
  k_steps
  unfold Hold
  have hcl : claimMargin = 300 := rfl
  have hrl : recursionLimit = 1000 := rfl
  have hcc : cLine = 9900 := rfl
  refine rw_call (List.mem_cons_self ..) hI3 (by omega) _ _ _ _ _ _ [] callerA h₀ h₀ L _ _ _ _ B (by k_asm) X (by k_asm) Tp rfl (by show 1 + claimMargin + 1 + _ < _; omega) (by show 4 + _ + _ < _; omega) (fun r nw4 h4 tk4 F4 N4 sub4 x4 => ?_) (fun _ _ _ _ _ z => z.elim)
  obtain ⟨R, rvs, rn, ts, rfl, mR, hRI, hlen, hsg⟩ := x4.x
  k_steps
  unfold Hold
  refine rk_call hf0 hf9 _ _ _ _ _ _ [] callerA h₀ h₀ L _ _ _ _ B (by k_asm) X (by k_asm) Tp rfl (by show 1 + claimMargin + 1 + _ < _; omega) (by show 4 + _ + _ < _; omega) (fun r nw5 h5 tk5 F5 N5 sub5 x5 => ?_) (fun _ _ _ _ _ z => z.elim)
  obtain ⟨RD, o, kvs, rfl, mD, hsm, ho, hf⟩ := x5.x
  k_steps
  unfold Hold
  exact h R rvs rn ts RD o kvs nw5 _ _ _ (by k_asm) (by k_asm) (sub5 _ mR) (hRI.mono sub5) (by omega) hsg mD hsm ho hf rfl rfl ⟨_, rfl⟩
end
theorem tick_16 {prog : Program} {w : World} {A : Around} {E : Value → Shared → Prop} {env : Env} {Q : Flow → Shared → Prop} {s : Shared} (h : Q .next s) : wpAny (model prog w) A (execs [] env) Q E s := by
  walk1
  exact h
def lfOf : Option Obj → Option (Scope × List Stmt)
  | some ⟨_, _, .func fd, _⟩ => match fd.body with
    | .stmts [_, _, _, _, .For _ _ b _ _, _, _] => some (fd.scope, b)
    | _ => none
  | _ => none
def LfAst (w : World) (sc : Scope) (body : List Stmt) : Prop := lfOf ((hd.heap_39 w.params).lookup 287) = some (sc, body)
theorem lf_use {x : Option Obj} {o : Obj} {y : Option (Scope × List Stmt)} {P : Prop} (e : x = some o) (h : lfOf x = y) (k : lfOf (some o) = y → P) : P := k (e ▸ h)
local macro_rules | `(tactic| walk_at "lf ast") => `(tactic| (refine' lf_use ?e (by assumption) ?kk; (case e => k_dflt k_is); intro hast2; (dsimp only [lfOf] at hast2); (simp only [Option.some.injEq, Prod.mk.injEq] at hast2); obtain ⟨a1, a2⟩ := hast2; subst a1 a2))
theorem pick_upto (xs : List Value) (k : Nat) : kms_pick xs none (some (k : Int)) = xs.take k := by
  simp only [kms_pick, kms_lo, kms_hi, show ¬ (k : Int) < 0 by omega, if_false, List.drop_zero, Nat.sub_zero, Int.toNat_natCast]
  exact kmk_take_min xs k
theorem RowIs.take {nw : List (Addr × Obj)} : ∀ {vs : List Value} {ts : List Tk} (k : Nat), RowIs nw vs ts → RowIs nw (vs.take k) (ts.take k)
  | _, _, 0, _ => by simpa using RowIs.nil
  | _, _, k + 1, .nil => by simpa using RowIs.nil
  | _, _, k + 1, .cons a b h => .cons a b (RowIs.take k h)
theorem endOk_snoc {ts : List Tk} {x : Tk} (h : x = .eof ∨ ∃ w, x = .atom w) : EndOk (ts ++ [x]) := by
  intro y hy
  rw [List.getLast?_append] at hy
  cases hy
  exact h
section
local macro_rules | `(tactic| walk_at "subscriptTail Name Slice ref ref") => `(tactic| (k_here; refine hold_it ?_))
local macro_rules | `(tactic| walk_at "binaryOp Add ref ref") => `(tactic| (k_here; refine hold_it ?_))
local macro_rules | `(tactic| walk_at "call ref") => `(tactic| (k_here; (with_reducible show wpAny _ _ (call (Value.ref 280) _) _ _ _); refine hold_it ?_))
theorem law_turn : ∀ {w : World} {sc : Scope} {body : List Stmt} (hast : LfAst w sc body) {mean : ExcName → Option Value} {mg mb : Str → Option Value} {h₀ : Heap} {a L R RD : Addr} {cdv : Value} {m : Str → Option Value} {s : Shared} {Q : Flow → Shared → Prop} {E : Value → Shared → Prop} {rvs : List Value} {ts : List Tk} {rn : Nat} {nw : List (Addr × Obj)} {c : List (Str × Int)} {q : Int} {k : Nat} {tz : Tok}
    (B : Below callerA h₀ [] h₀) (F : Fr h₀ L s.heap m) (X : (hd.heap_39 w.params).In h₀) (N : News h₀ L s.heap nw) (Tp : Top hd.view_39 lo mean mg mb h₀) (mR : m (Str.ofString "row") = some (.ref R)) (mD : m (Str.ofString "ranks") = some (.ref RD)) (mZ : m (Str.ofString "size") = some (.int (k : Int) tz))
    (hR : (R, W.listOf rvs.toArray rn) ∈ nw) (hI : RowIs nw rvs ts) (hz : ts.length = 12) (hs : ∀ w, Tk.sign w ∈ ts → SgOk w) (dk : DictOk w nw RD c) (hc : COk c q) (hnn : ∀ p ∈ c, 0 ≤ p.2) (hk : k ≤ 12)
    (h : ∀ h' tk', Fr h₀ L h' m → News h₀ L h' nw → Q .next { s with heap := h', toks := tk' }),
    wpAny (model PySem.Challenge.rw_fe0201_01.row.prog w) (callerA.deeper (lwEnv sc L a cdv)) (execs body (lwEnv sc L a cdv)) Q E s := by
  walk_at "my fill"
  intro w sc body hast mean mg mb h₀ a L R RD cdv m s Q E rvs ts rn nw c q k tz B F X N Tp mR mD mZ hR hI hz hs dk hc hnn hk h
  walk_at "lf ast"
  have em := tab3 mR mD mZ
  have hrl := hI.len
  rw [em] at F
  show wpAny _ _ (execs (_ :: _) _) _ _ _
  k_steps
  unfold Hold
  k_dflt refine' kms_slice_lit (its := rvs.toArray) (zs := rvs.take k) ?F2 ?N2 ?l2 ?p2 ?q2 ?e2 ?_ ?s2 ?t2 ?z2
  case F2 => k_asm
  case N2 => k_asm
  case l2 => exact News.isList (by k_asm) hR
  case p2 => kmk_part
  case q2 => kmk_part
  case e2 => exact pick_upto rvs k
  case s2 => with_unfolding_all rfl
  case t2 => kmk_pure
  case z2 => exact Nat.le_trans (by simp [hrl, hz]) (by decide : 12 ≤ sizeLine)
  intro D2 h2 F2 N2 l2
  k_steps
  unfold Hold
  k_dflt refine' kmk_add_lit (its := (rvs.take k).toArray) (its2 := #[Value.ref _]) (zs := rvs.take k ++ [Value.ref _]) ?F3 ?N3 ?a3 ?b3 ?e3 ?_ ?z3
  case F3 => k_asm
  case N3 => k_asm
  case b3 => exact News.isList (by k_asm) (List.mem_cons_self ..)
  case a3 => exact News.isList (by k_asm) (List.mem_cons_of_mem _ (List.mem_cons_of_mem _ (List.mem_cons_self ..)))
  case e3 => exact rfl
  case z3 => exact Nat.le_trans (by simp; omega) (by decide : 13 ≤ sizeLine)
  intro D3 h3 F3 N3 l3
  k_steps
  unfold Hold
  have hcl : claimMargin = 300 := rfl
  have hrlm : recursionLimit = 1000 := rfl
  have hcc : cLine = 9900 := rfl
  k_dflt refine' ho_ranks (ts := ts.take k ++ [.eof]) (c := c) (q := q) ?R4 ?I4 ?dk4 hc hnn ?z4 ?ne4 (endOk_snoc (.inl rfl)) ?s4 B ?F4 X ?N4 Tp rfl ?d4 ?u4 ?_
  case F4 => k_asm
  case N4 => k_asm
  case R4 => exact List.mem_cons_self ..
  case I4 => exact (RowIs.mono (RowIs.take k hI) fun p hp => by simp [hp]).snoc (T := _) (kd := 0) (List.mem_cons_of_mem _ (List.mem_cons_of_mem _ (List.mem_cons_self ..))) rfl
  case dk4 => exact dk.mono fun p hp => by simp [hp]
  case z4 => simp; omega
  case ne4 => simp
  case s4 =>
    intro w hw
    rcases List.mem_append.mp hw with hw | hw
    · exact hs w (List.mem_of_mem_take hw)
    · cases List.mem_singleton.mp hw
  case d4 => (show 1 + claimMargin + 1 + _ < _); omega
  case u4 => (show 4 + _ + _ < _); omega
  intro h5 tk5 F5 N5
  k_steps
  exact h _ _ (by rw [em]; k_asm) (News.sub (by k_asm) fun p hp => by simp [hp])
end
theorem tick_17 {prog : Program} {w : World} {A : Around} {E : Value → Shared → Prop} {env : Env} {Q : Flow → Shared → Prop} {s : Shared} (h : Q .next s) : wpAny (model prog w) A (execs [] env) Q E s := by
  walk1
  exact h
theorem law_loop {w : World} {sc : Scope} {fb : List Stmt} (hast : LfAst w sc fb) {mean : ExcName → Option Value} {mg mb : Str → Option Value} {h₀ : Heap} {a L R RD I : Addr} {cdv : Value} {s : Shared} {Q : Flow → Shared → Prop} {E : Value → Shared → Prop} {rvs : List Value} {ts : List Tk} {rn : Nat} {nw : List (Addr × Obj)} {c : List (Str × Int)} {q f : Int} {tf : Tok}
    (B : Below callerA h₀ [] h₀) (X : (hd.heap_39 w.params).In h₀) (Tp : Top hd.view_39 lo mean mg mb h₀) (hR : (R, W.listOf rvs.toArray rn) ∈ nw) (hI : RowIs nw rvs ts) (hz : ts.length = 12) (hs : ∀ w, Tk.sign w ∈ ts → SgOk w) (dk : DictOk w nw RD c) (hc : COk c q) (hnn : ∀ p ∈ c, 0 ≤ p.2) (hi : ∀ p ∈ nw, p.1 ≠ I)
    (hn : ∀ h' tk' m', Fr h₀ L h' m' → News h₀ L h' nw → m' (Str.ofString "row") = some (.ref R) → m' (Str.ofString "ranks") = some (.ref RD) → m' (Str.ofString "first") = some (.int f tf) → Q .next { s with heap := h', toks := tk' }) :
    ∀ (k i : Nat) (m : Str → Option Value), i + k = 12 → m (Str.ofString "row") = some (.ref R) → m (Str.ofString "ranks") = some (.ref RD) → m (Str.ofString "first") = some (.int f tf) →
      RangeRest PySem.Challenge.rw_fe0201_01.row.prog w (callerA.deeper (lwEnv sc L a cdv)) E h₀ (lwEnv sc L a cdv) (Str.ofString "size") fb Q s I 1 12 k i m nw := by
  intro k
  induction k with
  | zero =>
    intro i m _ mR mD mF
    exact RangeRest.zero fun h tk F N => hn h tk m F N mR mD mF
  | succ k ih =>
    intro i m hk mR mD mF
    refine RangeRest.succ fun t h tk F N => ?_
    have sub : ∀ {x : Addr × Obj}, ∀ p ∈ nw, p ∈ x :: nw := fun p hp => List.mem_cons_of_mem _ hp
    refine law_turn hast (k := i + 1) (tz := t) (R := R) (RD := RD) (q := q) B F X N Tp ?_ ?_ ?_ (sub _ hR) (hI.mono sub) hz hs (dk.mono sub) hc hnn (by omega) fun h' tk' F' N' => ?_
    · rw [if_neg (by decide)]; exact mR
    · rw [if_neg (by decide)]; exact mD
    · rw [if_pos rfl]
      have : (1 : Int) + (i : Int) = ((i + 1 : Nat) : Int) := by omega
      rw [this]
    · exact ⟨h', tk', _, nw, rfl, F', N', hi, ih (i + 1) _ (by omega) (by rw [if_neg (by decide)]; exact mR) (by rw [if_neg (by decide)]; exact mD) (by rw [if_neg (by decide)]; exact mF)⟩
section
local macro_rules | `(tactic| walk_at "exec For Name Call cons nil") => `(tactic| (k_here; refine hold_it ?_))
local macro_rules | `(tactic| walk_at "pyIter ref") => `(tactic| (k_here; refine hold_it ?_))
local macro_rules | `(tactic| walk_at "call builtin:len") => `(tactic| (k_here; refine hold_it ?_))
local macro_rules | `(tactic| walk_at "binaryOp Add ref ref") => `(tactic| (k_here; refine hold_it ?_))
local macro_rules | `(tactic| walk_at "compareOp Eq ref ref") => `(tactic| (k_here; refine hold_it ?_))
local macro_rules | `(tactic| walk_at "call ref") => `(tactic| (k_here; (with_reducible show wpAny _ _ (call (Value.ref 280) _) _ _ _); refine hold_it ?_))
local macro_rules | `(tactic| walk_at "call ref") => `(tactic| (k_here; (with_reducible show wpAny _ _ (call (Value.ref 254) _) _ _ _); refine hold_it ?_))
theorem law_2 : ∀ {w : World} {sc : Scope} {body : List Stmt} (hast : LwAst w sc body) {mean : ExcName → Option Value} {mg mb : Str → Option Value} {h₀ : Heap} {a L R RD : Addr} {cdv : Value} {m : Str → Option Value} {s : Shared} {Q : Flow → Shared → Prop} {E : Value → Shared → Prop} {rvs : List Value} {ts : List Tk} {rn : Nat} {nw : List (Addr × Obj)} {f : Int} {tf : Tok} {o : Obj} {kvs : List (Str × Value)}
    (B : Below callerA h₀ [] h₀) (F : Fr h₀ L s.heap m) (X : (hd.heap_39 w.params).In h₀) (N : News h₀ L s.heap nw) (Tp : Top hd.view_39 lo mean mg mb h₀) (mR : m (Str.ofString "row") = some (.ref R)) (mD : m (Str.ofString "ranks") = some (.ref RD)) (mF : m (Str.ofString "first") = some (.int f tf)) (hf0 : 0 ≤ f) (hf9 : f < 3486784401)
    (hR : (R, W.listOf rvs.toArray rn) ∈ nw) (hI : RowIs nw rvs ts) (hz : ts.length = 12) (hs : ∀ w, Tk.sign w ∈ ts → SgOk w) (hm : (RD, o) ∈ nw) (hsm : (RD == sysModules) = false) (ho : o.IsDictOf (PySem.strKind PySem.Challenge.rw_fe0201_01.row.prog w) kvs) (hf : FlatPairs PyData.str kvs (kdpD (ranksOf f)))
    (hE : PassesOwn (model PySem.Challenge.rw_fe0201_01.row.prog w) (callerA.deeper (lwEnv sc L a cdv)) (lwEnv sc L a cdv) E)
    (h : ∀ h' tk' m', Fr h₀ L h' m' → Q (.ret (.bool true)) { s with heap := h', toks := tk' }),
    wpAny (model PySem.Challenge.rw_fe0201_01.row.prog w) (callerA.deeper (lwEnv sc L a cdv)) (execs (body.drop 4) (lwEnv sc L a cdv)) Q E s := by
  walk_at "my fill"
  intro w sc body hast mean mg mb h₀ a L R RD cdv m s Q E rvs ts rn nw f tf o kvs B F X N Tp mR mD mF hf0 hf9 hR hI hz hs hm hsm ho hf hE h
  walk_at "lw ast"
  have em := tab3 mR mD mF
  have hrl := hI.len
  obtain ⟨q, hc, hq0⟩ := ranks_cok f
  have dk := ranks_dk (nw := nw) (w := w) hm hsm ho hf
  rw [em] at F
  show wpAny _ _ (execs (_ :: _) _) _ _ _
  k_steps
  unfold Hold
  rename Fr _ _ _ _ => lF
  with_unfolding_all refine' For_invVF (hE := hE) lF ?k1 ?k2 ?_
  case k1 => rfl
  case k2 => rfl
  k_whole
  k_steps
  unfold Hold
  refine len_list (News.isList (by k_asm) hR) (by simp [hrl, hz]) ?_
  k_steps
  unfold Hold
  have h12 : (rvs.toArray.size : Int) = 12 := by simp [hrl, hz]
  refine' iter_rangeUnr (n := 12) rfl (by assumption) ?sm ?rn (by k_asm) (by k_asm) ?_
  case sm => rw [h12]; rfl
  case rn => rw [h12]; rfl
  intro I hIn
  refine' law_loop (f := f) (tf := tf) (q := q) ?ast B X Tp hR hI hz hs dk hc (ranks_inv f).vl (fun p hp e => absurd (hIn p hp) (by rw [e]; exact Nat.lt_irrefl _)) ?hn 12 0 _ rfl rfl rfl rfl
  case ast => exact rfl
  case hn =>
    intro h6 tk6 m6 F6 N6 m6R m6D m6F
    have em6 := tab3 m6R m6D m6F
    rw [em6] at F6
    dsimp only
    k_steps
    unfold Hold
    have hcl : claimMargin = 300 := rfl
    have hrlm : recursionLimit = 1000 := rfl
    have hcc : cLine = 9900 := rfl
    have hvs : rvs.length = 12 := by omega
    k_dflt refine' kmk_add_lit (its := rvs.toArray) (its2 := #[Value.ref _]) (zs := rvs ++ [Value.ref _]) ?F3 ?N3 ?a3 ?b3 ?e3 ?_ ?z3
    case F3 => k_asm
    case N3 => k_asm
    case b3 => exact News.isList (by k_asm) (List.mem_cons_self ..)
    case a3 => exact News.isList (by k_asm) (List.mem_cons_of_mem _ (List.mem_cons_of_mem _ hR))
    case e3 => exact rfl
    case z3 => exact Nat.le_trans (by simp; omega) (by decide : 13 ≤ sizeLine)
    intro D3 h3 F3 N3 l3
    k_steps
    unfold Hold
    k_dflt refine' ho_ranks (ts := ts ++ [.atom (Str.ofString "a")]) (c := ranksOf f) (q := q) ?R4 ?I4 ?dk4 hc (ranks_inv f).vl ?z4 ?ne4 (endOk_snoc (.inr ⟨Str.ofString "a", rfl⟩)) ?s4 B ?F4 X ?N4 Tp rfl ?d4 ?u4 ?_
    case F4 => k_asm
    case N4 => k_asm
    case R4 => exact List.mem_cons_self ..
    case I4 => exact (hI.mono fun p hp => by simp [hp]).snoc (T := _) (kd := 1) (List.mem_cons_of_mem _ (List.mem_cons_of_mem _ (List.mem_cons_self ..))) ⟨.inl rfl, rfl, by decide⟩
    case dk4 => exact dk.mono fun p hp => by simp [hp]
    case z4 => simp; omega
    case ne4 => simp
    case s4 =>
      intro w hw
      rcases List.mem_append.mp hw with hw | hw
      · exact hs w hw
      · cases List.mem_singleton.mp hw
    case d4 => (show 1 + claimMargin + 1 + _ < _); omega
    case u4 => (show 4 + _ + _ < _); omega
    intro h5 tk5 F5 N5
    k_steps
    unfold Hold
    k_dflt refine' kmk_add_lit (its := rvs.toArray) (its2 := #[Value.ref _, Value.ref _]) (zs := rvs ++ [Value.ref _, Value.ref _]) ?F7 ?N7 ?a7 ?b7 ?e7 ?_ ?z7
    case F7 => k_asm
    case N7 => k_asm
    case b7 => exact News.isList (by k_asm) (List.mem_cons_self ..)
    case a7 => exact News.isList (by k_asm) (by repeat (first | exact hR | apply List.mem_cons_of_mem))
    case e7 => exact rfl
    case z7 => exact Nat.le_trans (by simp; omega) (by decide : 14 ≤ sizeLine)
    intro D7 h7 F7 N7 l7
    k_steps
    unfold Hold
    k_dflt refine' ho_usual (ts := ts ++ [.skip] ++ [.eof]) ?R8 ?I8 ?z8 ?ne8 (endOk_snoc (.inl rfl)) ?s8 B ?F8 X ?N8 Tp rfl ?d8 ?u8 ?_
    case F8 => k_asm
    case N8 => k_asm
    case R8 => exact List.mem_cons_self ..
    case I8 =>
      rw [show ∀ a b : Value, rvs ++ [a, b] = rvs ++ [a] ++ [b] from fun a b => by simp]
      refine RowIs.snoc (kd := 0) (RowIs.snoc (kd := 4) (hI.mono fun p hp => by simp [hp]) (List.mem_cons_of_mem _ (List.mem_cons_of_mem _ (List.mem_cons_of_mem _ (List.mem_cons_self ..)))) (.inr rfl)) (List.mem_cons_of_mem _ (List.mem_cons_of_mem _ (List.mem_cons_self ..))) rfl
    case z8 => simp; omega
    case ne8 => simp
    case s8 =>
      intro w hw
      rcases List.mem_append.mp hw with hw | hw
      · rcases List.mem_append.mp hw with hw | hw
        · exact hs w hw
        · cases List.mem_singleton.mp hw
      · cases List.mem_singleton.mp hw
    case d8 => (show 1 + claimMargin + 1 + _ < _); omega
    case u8 => (show 4 + _ + _ < _); omega
    intro h9 tk9 F9 N9
    k_steps
    unfold Hold
    refine rk_call hf0 hf9 _ _ _ _ _ _ [] callerA h₀ h₀ L _ _ _ _ B (by k_asm) X (by k_asm) Tp rfl (by show 1 + claimMargin + 1 + _ < _; omega) (by show 4 + _ + _ < _; omega) (fun r nwa ha tka Fa Na suba xa => ?_) (fun _ _ _ _ _ z => z.elim)
    obtain ⟨RD2, o2, kvs2, rfl, mD2, hsm2, ho2, hf2⟩ := xa.x
    have TD := dk _ (X.keeps Fa.keep) fun p hp => (Na p (suba p (by repeat (first | exact hp | apply List.mem_cons_of_mem)))).1
    k_steps
    unfold Hold
    refine ranks_eq (ranks_inv f).nd TD (TabAt.ofObj hsm2 (Na _ mD2).1 ho2 hf2) (by show 4 + _ < _; omega) ?_
    k_steps
    exact h _ _ _ (by k_asm)
end
theorem tick_18 {prog : Program} {w : World} {A : Around} {E : Value → Shared → Prop} {env : Env} {Q : Flow → Shared → Prop} {s : Shared} (h : Q .next s) : wpAny (model prog w) A (execs [] env) Q E s := by
  walk1
  exact h
theorem law_1r : ∀ {w : World} {sc : Scope} {body : List Stmt} (hast : LwAst w sc body) {mean : ExcName → Option Value} {mg mb : Str → Option Value} {h₀ : Heap} {a L SL : Addr} {cdv : Value} {m : Str → Option Value} {s : Shared} {Q : Flow → Shared → Prop} {E : Value → Shared → Prop} {f : Int} {tf : Tok} {vs : List Value} {zs : List Int} {rest : List Stmt} (hr : rest = body.drop 1)
    (B : Below callerA h₀ [] h₀) (F : Fr h₀ L s.heap m) (X : (hd.heap_39 w.params).In h₀) (N : News h₀ L s.heap []) (Tp : Top hd.view_39 lo mean mg mb h₀) (mS : m (Str.ofString "script") = some (.ref SL)) (mF : m (Str.ofString "first") = some (.int f tf)) (hf0 : 0 ≤ f) (hf9 : f < 3486784401) (hL : h₀.IsList SL vs.toArray) (hI : IntsAre vs zs) (hz : zs.length ≤ 63)
    (h : ∀ R rvs rn ts RD o kvs nw h' tk' m', Fr h₀ L h' m' → News h₀ L h' nw → (R, W.listOf (List.toArray rvs) rn) ∈ nw → RowIs nw rvs ts → ts.length = 12 → (∀ w, Tk.sign w ∈ ts → SgOk w) → (RD, o) ∈ nw → (RD == sysModules) = false → o.IsDictOf (PySem.strKind PySem.Challenge.rw_fe0201_01.row.prog w) kvs → FlatPairs PyData.str kvs (kdpD (ranksOf f)) →
      m' (Str.ofString "row") = some (.ref R) → m' (Str.ofString "ranks") = some (.ref RD) → (∃ tf, m' (Str.ofString "first") = some (.int f tf)) → wpAny (model PySem.Challenge.rw_fe0201_01.row.prog w) (callerA.deeper (lwEnv sc L a cdv)) (execs (body.drop 4) (lwEnv sc L a cdv)) Q E { s with heap := h', toks := tk' }),
    wpAny (model PySem.Challenge.rw_fe0201_01.row.prog w) (callerA.deeper (lwEnv sc L a cdv)) (execs rest (lwEnv sc L a cdv)) Q E s := by
  intro w sc body hast mean mg mb h₀ a L SL cdv m s Q E f tf vs zs rest hr B F X N Tp mS mF hf0 hf9 hL hI hz h
  subst hr
  exact law_1 hast B F X N Tp mS mF hf0 hf9 hL hI hz h
section
local macro_rules | `(tactic| walk_at "execs cons") => `(tactic| (k_here; (with_reducible show wpAny _ _ (execs (Stmt.Assign [Expr.Name (PySem.Str.ofString "drawn") _] _ _ :: _) _) _ _ _); refine hold_it ?_))
theorem go0 : PySem.Challenge.rw_fe0201_01.Holds := by
  refine hd ?_
  k_go0
  all_goals try k_fold
  k_steps
  all_goals
    unfold Hold
    k_dflt refine' law_1r ?ast ?hr ?B ?F ?X ?N ?T ?mS ?mF ?f0 ?f9 ?L ?I ?z ?_
    case ast => exact rfl
    case hr => exact rfl
    case F => k_asm
    case N => k_asm
    case X => assumption
    case T => assumption
    case B => assumption
    case mS => exact rfl
    case mF => exact rfl
    case L => assumption
    case I => assumption
    case f0 => first | exact Int.fmod_nonneg_of_pos _ (by decide) | decide
    case f9 => first | exact Int.fmod_lt_of_pos _ (by decide) | decide
    case z => omega
    intro R rvs rn ts RD o kvs nw h' tk' m' F N mR hRI hlen hsg mD hsm ho hf mrow mranks mfirst
    obtain ⟨tf, mfirst⟩ := mfirst
    k_dflt refine' law_2 ?ast2 ?B2 F ?X2 N ?T2 mrow mranks mfirst ?f02 ?f92 mR hRI hlen hsg mD hsm ho hf ?hE2 ?_
    case ast2 => exact rfl
    case B2 => assumption
    case X2 => assumption
    case T2 => assumption
    case f02 => first | exact Int.fmod_nonneg_of_pos _ (by decide) | decide
    case f92 => first | exact Int.fmod_lt_of_pos _ (by decide) | decide
    case hE2 => passes_own
    intro h7 tk7 m7 F7
    dsimp only
  all_goals k_steps
  all_goals (try k_data)
  all_goals w_report
end
end
theorem tick_19 {prog : Program} {w : World} {A : Around} {E : Value → Shared → Prop} {env : Env} {Q : Flow → Shared → Prop} {s : Shared} (h : Q .next s) : wpAny (model prog w) A (execs [] env) Q E s := by
  walk1
  exact h
end Mine
theorem PySem.Challenge.cw_fe0201_01_holds : PySem.Challenge.rw_fe0201_01.Holds :=
  Mine.go0
