import PyProof.Rows.All
import Wide.All
import OpenK.AllK
import Wide.FinOn
import PySem.Challenge.RW_oy0005_01
set_option Elab.async false
set_option linter.unusedVariables false
-- part OyTop
namespace Mine
open PySem PySem.W PyProof.Rows
set_option maxRecDepth 100000
set_option maxHeartbeats 8000000
open_top hd for PySem.Challenge.rw_oy0005_01
end Mine
-- part OyC
namespace Mine
open PySem PySem.W PyProof.Rows
set_option maxRecDepth 100000
set_option maxHeartbeats 4000000
def CL (D U : Nat) (w : World) (mean : ExcName → Option Value) (mg mb : Str → Option Value) (f : Addr) (vs : List Value) (R : Tok → Value) : Prop :=
  ∀ (news : List (Addr × Obj)) (dp un : Nat) (gd : Option (List Code)) (cn : Str) (cs : Scope) (a : Addr) (ccd : Value) (cl : List (Str × Addr)) (outer : List Env) (A₀ : Around) (base h₀ : Heap) (L : Addr) (m : Str → Option Value) (s : Shared) (Q E : Value → Shared → Prop),
    Below A₀ base outer h₀ → Fr h₀ L s.heap m → (Mine.hd.heap_39 w.params).In h₀ → News h₀ L s.heap news → Top Mine.hd.view_39 (looseW Mine.hd.view_39 []) mean mg mb h₀ → cs.kind = .function →
    dp + D < recursionLimit → un + U < cLine → (∀ (t : Tok) (h' : Heap) (tk' : Nat), Fr h₀ L h' m → News h₀ L h' news → Q (R t) { s with heap := h', toks := tk' }) →
      wpAny (model Challenge.rw_oy0005_01.row.prog w) (ktrTop dp un gd cn cs L a ccd cl outer) (call (.ref f) vs) Q E s
theorem CL.use {D U : Nat} {w : World} {mean : ExcName → Option Value} {mg mb : Str → Option Value} {f : Addr} {vs : List Value} {R : Tok → Value} (c : CL D U w mean mg mb f vs R)
    {news : List (Addr × Obj)} {dp un : Nat} {gd : Option (List Code)} {cn : Str} {cs : Scope} {a : Addr} {ccd : Value} {cl : List (Str × Addr)} {outer : List Env} {A₀ : Around} {base h₀ : Heap} {L : Addr} {m : Str → Option Value} {s : Shared} {Q E : Value → Shared → Prop}
    (B : Below A₀ base outer h₀) (F : Fr h₀ L s.heap m) (X : (Mine.hd.heap_39 w.params).In h₀) (N : News h₀ L s.heap news) (T : Top Mine.hd.view_39 (looseW Mine.hd.view_39 []) mean mg mb h₀) (hk : cs.kind = .function)
    (hd : dp + D < recursionLimit) (hu : un + U < cLine) (hr : (∀ (t : Tok) (h' : Heap) (tk' : Nat), Fr h₀ L h' m → News h₀ L h' news → Q (R t) { s with heap := h', toks := tk' })) :
      wpAny (model Challenge.rw_oy0005_01.row.prog w) (ktrTop dp un gd cn cs L a ccd cl outer) (call (.ref f) vs) Q E s := c _ _ _ _ _ _ _ _ _ _ _ _ _ _ _ _ _ _ B F X N T hk hd hu hr


theorem len_0 : (Str.ofString "").length = 0 := by decide +kernel
theorem len_e : Str.empty.length = 0 := by decide +kernel
theorem len_1 : (Str.ofString "_").length = 1 := by decide +kernel
theorem len_2 : (Str.ofString "__").length = 2 := by decide +kernel
theorem len_3 : (Str.ofString "x__").length = 3 := by decide +kernel
theorem len_4 : (Str.ofString "__x").length = 3 := by decide +kernel
theorem len_a : (Str.ofString "a").length = 1 := by decide +kernel
theorem len_b : (Str.ofString "a_").length = 2 := by decide +kernel
local macro_rules | `(tactic| size_fits) => `(tactic| ((with_reducible show PySem.Str.length _ ≤ _); (try rw [PySem.sizeLine_eq]); (try simp only [Str.length_append]); (have q0 := len_0); (have qe := len_e); (have q1 := len_1); (have q2 := len_2); (have q3 := len_3); (have q4 := len_4); (have qa := len_a); (have qb := len_b); omega))
def isDunder (x : Str) : Bool := Txt.startswith x (Str.ofString "__") && Txt.endswith x (Str.ofString "__")
theorem dunder_t {x : Str} (h : Txt.startswith x (Str.ofString "__") = true) : Txt.endswith x (Str.ofString "__") = isDunder x := by rw [isDunder, h]; rfl
theorem dunder_f {x : Str} (h : Txt.startswith x (Str.ofString "__") = false) : Txt.startswith x (Str.ofString "__") = isDunder x := by rw [isDunder, h]; rfl
def isSunder (x : Str) : Bool := decide (2 < (x.length : Int)) && (Txt.item x 0 == Txt.item x (-1) && (Txt.item x (-1) == Str.ofString "_" && (Txt.item x 1 != Str.ofString "_" && Txt.item x (-2) != Str.ofString "_")))
section
variable {x : Str}
theorem sunder_1 (h1 : 2 < (x.length : Int)) (h2 : (Txt.item x 0 == Txt.item x (-1)) = true) (h3 : (Txt.item x (-1) == Str.ofString "_") = true) (h4 : (Txt.item x 1 != Str.ofString "_") = true) : (Txt.item x (-2) != Str.ofString "_") = isSunder x := by
  rw [isSunder, decide_eq_true h1, h2, h3, h4]; rfl
theorem sunder_2 (h1 : 2 < (x.length : Int)) (h2 : (Txt.item x 0 == Txt.item x (-1)) = true) (h3 : (Txt.item x (-1) == Str.ofString "_") = true) (h4 : (Txt.item x 1 != Str.ofString "_") = false) : (Txt.item x 1 != Str.ofString "_") = isSunder x := by
  rw [isSunder, decide_eq_true h1, h2, h3, h4]; rfl
theorem sunder_3 (h1 : 2 < (x.length : Int)) (h2 : (Txt.item x 0 == Txt.item x (-1)) = true) (h3 : (Txt.item x (-1) == Str.ofString "_") = false) : (Txt.item x (-1) == Str.ofString "_") = isSunder x := by
  rw [isSunder, decide_eq_true h1, h2, h3]; rfl
theorem sunder_4 (h1 : 2 < (x.length : Int)) (h2 : (Txt.item x 0 == Txt.item x (-1)) = false) : (Txt.item x 0 == Txt.item x (-1)) = isSunder x := by
  rw [isSunder, decide_eq_true h1, h2]; rfl
theorem sunder_5 (h1 : ¬ 2 < (x.length : Int)) : (decide (2 < (x.length : Int))) = isSunder x := by
  rw [isSunder, decide_eq_false h1]; rfl
end
def patOf (c : Str) : Str := Str.ofString "_" ++ c ++ Str.ofString "__"
def patLen (c : Str) : Nat := (Str.ofString "_").length + c.length + (Str.ofString "__").length
def isPrivate (c x : Str) : Bool := decide ((patLen c : Int) < (x.length : Int)) && (Txt.startswith x (patOf c) && (Txt.item x (-1) != Str.ofString "_" || Txt.item x (-2) != Str.ofString "_"))
section
variable {c x : Str}
theorem private_1 (h1 : (((Str.ofString "_").length + c.length + (Str.ofString "__").length : Nat) : Int) < (x.length : Int)) (h2 : Txt.startswith x (Str.ofString "_" ++ c ++ Str.ofString "__") = true) (h3 : (Txt.item x (-1) != Str.ofString "_") = true) : true = isPrivate c x := by
  rw [isPrivate, patLen, patOf, decide_eq_true h1, h2, h3]; rfl
theorem private_2 (h1 : (((Str.ofString "_").length + c.length + (Str.ofString "__").length : Nat) : Int) < (x.length : Int)) (h2 : Txt.startswith x (Str.ofString "_" ++ c ++ Str.ofString "__") = true) (h4 : (Txt.item x (-2) != Str.ofString "_") = true) : true = isPrivate c x := by
  rw [isPrivate, patLen, patOf, decide_eq_true h1, h2, h4, Bool.or_true]; rfl
theorem private_3 (h3 : (Txt.item x (-1) != Str.ofString "_") = false) (h4 : (Txt.item x (-2) != Str.ofString "_") = false) : false = isPrivate c x := by
  rw [isPrivate, h3, h4, Bool.or_false, Bool.and_false, Bool.and_false]
theorem private_4 (h2 : Txt.startswith x (Str.ofString "_" ++ c ++ Str.ofString "__") = false) : false = isPrivate c x := by
  rw [isPrivate, patOf, h2, Bool.false_and, Bool.and_false]
theorem private_5 (h1 : ¬ (((Str.ofString "_").length + c.length + (Str.ofString "__").length : Nat) : Int) < (x.length : Int)) : false = isPrivate c x := by
  rw [isPrivate, patLen, decide_eq_false h1, Bool.false_and]
end
theorem c_dunder (w : World) (mean : ExcName → Option Value) (mg mb : Str → Option Value) (x : Str) (t : Tok) (hx : x.length ≤ 1000) :
    CL 1 8 w mean mg mb 35 [.str x t] (fun _ => .bool (isDunder x)) := by
  unfold CL
  dsimp only
  w_top off
  k_fill
  intros; rename_i hret
  refine wpAny_call ?_
  k_dflt cell_enter
  k_steps
  all_goals (refine cb_retB hret ?_ (by with_reducible assumption) (by with_reducible assumption); with_reducible first | exact dunder_t (by assumption) | exact dunder_f (by assumption))
theorem c_sunder (w : World) (mean : ExcName → Option Value) (mg mb : Str → Option Value) (x : Str) (t : Tok) (hx : x.length ≤ 1000) :
    CL 1 8 w mean mg mb 21 [.str x t] (fun _ => .bool (isSunder x)) := by
  unfold CL
  dsimp only
  w_top off
  k_fill
  intros; rename_i hret
  refine wpAny_call ?_
  k_dflt cell_enter
  k_steps
  all_goals (refine cb_retB hret ?_ (by with_reducible assumption) (by with_reducible assumption); with_reducible first | exact sunder_1 (by assumption) (by assumption) (by assumption) (by assumption) | exact sunder_2 (by assumption) (by assumption) (by assumption) (by assumption) | exact sunder_3 (by assumption) (by assumption) (by assumption) | exact sunder_4 (by assumption) (by assumption) | exact sunder_5 (by assumption))
section
local macro_rules | `(tactic| walk_at "storeName") => `(tactic| (k_here; dsimp only))
local macro_rules | `(tactic| walk_at "execs cons") => `(tactic| ((with_reducible refine wpAny_execs_cons ?_); try dsimp only))
theorem c_private (w : World) (mean : ExcName → Option Value) (mg mb : Str → Option Value) (c x : Str) (t t1 : Tok) (hx : x.length ≤ 1000) (hc : c.length ≤ 1000):
    CL 1 8 w mean mg mb 28 [.str c t1, .str x t] (fun _ => .bool (isPrivate c x)) := by
  unfold CL
  dsimp only
  w_top off
  k_fill
  intros; rename_i hret
  refine wpAny_call ?_
  k_dflt cell_enter
  k_steps
  all_goals (refine cb_retB hret ?_ (by with_reducible assumption) (by with_reducible assumption); with_reducible first | exact private_1 (by assumption) (by assumption) (by assumption) | exact private_2 (by assumption) (by assumption) (by assumption) | exact private_3 (by assumption) (by assumption) | exact private_4 (by assumption) | exact private_5 (by assumption))
end
end Mine
-- part OyD
namespace Mine
open PySem PySem.W PyProof.Rows
set_option maxRecDepth 100000
set_option maxHeartbeats 4000000
local macro_rules | `(tactic| size_fits) => `(tactic| ((with_reducible show PySem.Str.length _ ≤ _); (try rw [PySem.sizeLine_eq]); (try simp only [Str.length_append]); (have q0 := len_0); (have qe := len_e); (have q1 := len_1); (have q2 := len_2); (have q3 := len_3); (have q4 := len_4); (have qa := len_a); (have qb := len_b); omega))
local macro_rules | `(tactic| walk_at "call ref") => `(tactic| (
  k_here
  (with_reducible show wpAny _ _ (call (Value.ref 35) [Value.str _ _]) _ _ _)
  refine' CL.use (c_dunder _ _ _ _ _ _ ?kx) ?k1 ?k2 ?k3 ?k4 ?k5 ?kK ?kd ?ku ?_
  (case k1 => k_asm)
  (case k2 => k_asm)
  (case k3 => k_asm)
  (case k4 => k_asm)
  (case k5 => k_asm)
  (case kK => first | exact rfl | assumption)
  (case kd => ktr_room)
  (case ku => ktr_units)
  (case kx => ((try simp only [Str.length_append]); (have q0 := len_0); (have q1 := len_1); (have q2 := len_2); (have q3 := len_3); (have q4 := len_4); omega))
  intro t9 h9 tk9 F9 N9
  (try dsimp only)
  (try k_fold)))

def lawSunder (x : Str) : Bool := (x != Str.ofString "") && (isDunder (Str.ofString "_" ++ x ++ Str.ofString "_") && (!isDunder (x ++ Str.ofString "_") && !isDunder (Str.ofString "_" ++ x)))
section
variable {x : Str}
theorem lsunder_1 (h1 : (x != Str.ofString "") = true) (h2 : isDunder (Str.ofString "_" ++ x ++ Str.ofString "_") = true) (h3 : isDunder (x ++ Str.ofString "_") = true) : (!isDunder (x ++ Str.ofString "_")) = lawSunder x := by
  rw [lawSunder, h1, h2, h3]; rfl
theorem lsunder_2 (h1 : (x != Str.ofString "") = true) (h2 : isDunder (Str.ofString "_" ++ x ++ Str.ofString "_") = true) (h3 : isDunder (x ++ Str.ofString "_") = false) : (!isDunder (Str.ofString "_" ++ x)) = lawSunder x := by
  rw [lawSunder, h1, h2, h3]; rfl
theorem lsunder_3 (h1 : (x != Str.ofString "") = true) (h2 : isDunder (Str.ofString "_" ++ x ++ Str.ofString "_") = false) : isDunder (Str.ofString "_" ++ x ++ Str.ofString "_") = lawSunder x := by
  rw [lawSunder, h1, h2]; rfl
theorem lsunder_4 (h1 : (x != Str.ofString "") = false) : (x != Str.ofString "") = lawSunder x := by
  rw [lawSunder, h1]; rfl
end
theorem c_law_sunder (w : World) (mean : ExcName → Option Value) (mg mb : Str → Option Value) (x : Str) (t : Tok) (hx : x.length ≤ 900) :
    CL 2 16 w mean mg mb 42 [.str x t] (fun _ => .bool (lawSunder x)) := by
  unfold CL
  dsimp only
  w_top off
  k_fill
  intros; rename_i hret
  refine wpAny_call ?_
  k_dflt cell_enter
  k_steps
  all_goals (refine cb_retB hret ?_ (by with_reducible assumption) (by with_reducible assumption); with_reducible first | exact lsunder_1 (by assumption) (by assumption) (by assumption) | exact lsunder_2 (by assumption) (by assumption) (by assumption) | exact lsunder_3 (by assumption) (by assumption) | exact lsunder_4 (by assumption))

def restOf (c x : Str) : Str := Txt.slice x (some (((Str.ofString "_").length + c.length : Nat) : Int)) none
def lawPrivate (c x : Str) : Bool := (Txt.slice x none (some (((Str.ofString "_").length + c.length : Nat) : Int)) == Str.ofString "_" ++ c) && (decide (2 < ((restOf c x).length : Int)) && (isDunder (restOf c x ++ Str.ofString "x__") && !isDunder (Str.ofString "__x" ++ x)))
section
variable {c x : Str}
theorem lprivate_1 (h1 : (Txt.slice x none (some (((Str.ofString "_").length + c.length : Nat) : Int)) == Str.ofString "_" ++ c) = true) (h2 : 2 < ((Txt.slice x (some (((Str.ofString "_").length + c.length : Nat) : Int)) none).length : Int)) (h3 : isDunder (Txt.slice x (some (((Str.ofString "_").length + c.length : Nat) : Int)) none ++ Str.ofString "x__") = true) : (!isDunder (Str.ofString "__x" ++ x)) = lawPrivate c x := by
  rw [lawPrivate, restOf, h1, decide_eq_true h2, h3]; rfl
theorem lprivate_2 (h1 : (Txt.slice x none (some (((Str.ofString "_").length + c.length : Nat) : Int)) == Str.ofString "_" ++ c) = true) (h2 : 2 < ((Txt.slice x (some (((Str.ofString "_").length + c.length : Nat) : Int)) none).length : Int)) (h3 : isDunder (Txt.slice x (some (((Str.ofString "_").length + c.length : Nat) : Int)) none ++ Str.ofString "x__") = false) : isDunder (Txt.slice x (some (((Str.ofString "_").length + c.length : Nat) : Int)) none ++ Str.ofString "x__") = lawPrivate c x := by
  rw [lawPrivate, restOf, h1, decide_eq_true h2, h3]; rfl
theorem lprivate_3 (h1 : (Txt.slice x none (some (((Str.ofString "_").length + c.length : Nat) : Int)) == Str.ofString "_" ++ c) = true) (h2 : ¬ 2 < ((Txt.slice x (some (((Str.ofString "_").length + c.length : Nat) : Int)) none).length : Int)) : decide (2 < ((Txt.slice x (some (((Str.ofString "_").length + c.length : Nat) : Int)) none).length : Int)) = lawPrivate c x := by
  rw [lawPrivate, restOf, h1, decide_eq_false h2]; rfl
theorem lprivate_4 (h1 : (Txt.slice x none (some (((Str.ofString "_").length + c.length : Nat) : Int)) == Str.ofString "_" ++ c) = false) : (Txt.slice x none (some (((Str.ofString "_").length + c.length : Nat) : Int)) == Str.ofString "_" ++ c) = lawPrivate c x := by
  rw [lawPrivate, h1]; rfl
end
theorem c_law_private (w : World) (mean : ExcName → Option Value) (mg mb : Str → Option Value) (c x : Str) (t t1 : Tok) (hx : x.length ≤ 900) (hc : c.length ≤ 900) :
    CL 2 16 w mean mg mb 49 [.str c t1, .str x t] (fun _ => .bool (lawPrivate c x)) := by
  unfold CL
  dsimp only
  w_top off
  k_fill
  intros; rename_i hret
  refine wpAny_call ?_
  k_dflt cell_enter
  k_steps
  all_goals (refine cb_retB hret ?_ (by with_reducible assumption) (by with_reducible assumption); with_reducible first | exact lprivate_1 (by assumption) (by assumption) (by assumption) | exact lprivate_2 (by assumption) (by assumption) (by assumption) | exact lprivate_3 (by assumption) (by assumption) | exact lprivate_4 (by assumption))
end Mine
-- part OyE
namespace Mine
open PySem PySem.W PyProof.Rows
set_option maxRecDepth 100000
set_option maxHeartbeats 8000000
/-- the end of a comprehension's turn that makes a text and leaves the ledger as it was -/
def StrEnd (h₀ : Heap) (L : Addr) (m : Str → Option Value) (nw : List (Addr × Obj)) (s : Shared) (r : Str) (y : Value) (s' : Shared) : Prop :=
  ∃ h' tk' t, y = .str r t ∧ s' = { s with heap := h', toks := tk' } ∧ Fr h₀ L h' m ∧ News h₀ L h' nw
theorem StrEnd.intro {h₀ : Heap} {L : Addr} {m : Str → Option Value} {nw : List (Addr × Obj)} {s : Shared} {r : Str} {h' : Heap} {tk' : Nat} {t : Tok} (F : Fr h₀ L h' m) (N : News h₀ L h' nw) :
    StrEnd h₀ L m nw s r (.str r t) { s with heap := h', toks := tk' } := ⟨h', tk', t, rfl, rfl, F, N⟩
section
variable {prog : Program} {w : World} {A : Around} {h₀ : Heap} {L : Addr} {m : Str → Option Value} {env : Env} {elt : Expr} {x : Str} {scope : Scope} {cl : List (Str × Addr)} {s : Shared} {S : List (Addr × Obj) → Prop} {P : Nat → Value → Prop} {Fin : List Value → List (Addr × Obj) → Prop} {news : List (Addr × Obj)}
theorem str_rest {n : Nat} {ks : List Str} (g : Str → Str) (hks : ks.length = n) (hS : S news) (hP : ∀ i v, i < n → P i v → ∃ k t, ks[i]? = some k ∧ v = .str k t)
    (turn : ∀ k t I oI C oC D m₂ ys h tk (E' : Value → Shared → Prop), k ∈ ks → LCg.NsObj oC m₂ → m₂ x = some (.str k t) → Fr h₀ L h m → News h₀ L h ((I, oI) :: (C, oC) :: (D, LCg.lst ys) :: news) →
      wpAny (model prog w) A (eval elt (compEnvC scope cl C env)) (StrEnd h₀ L m ((I, oI) :: (C, oC) :: (D, LCg.lst ys) :: news) { s with heap := h, toks := tk } (g k)) E' { s with heap := h, toks := tk })
    (fin : ∀ ys, StrsAre ys (ks.map g) → Fin ys news) : LCg.CompRest prog w A h₀ L m env elt x scope cl s S P Fin n 0 [] news := by
  have key : ∀ (j i : Nat) (ys : List Value), i + j = n → StrsAre ys ((ks.take i).map g) → LCg.CompRest prog w A h₀ L m env elt x scope cl s S P Fin j i ys news := by
    intro j
    induction j with
    | zero =>
      intro i ys hi hy
      have e : i = ks.length := by omega
      subst e
      rw [List.take_length] at hy
      exact LCg.CompRest.zero (fin ys hy)
    | succ j ih =>
      intro i ys hi hy
      refine LCg.CompRest.succ ?_
      intro v I oI C oC D m₂ h tk E' hv hC hx F N off ne
      obtain ⟨k, t, hk, hv'⟩ := hP i v (by omega) hv
      rw [hv'] at hx
      refine wpAny_mono (turn k t I oI C oC D m₂ ys h tk E' (List.mem_of_getElem? hk) hC hx F N) (fun y s₂ hq => ?_) fun _ _ e => e
      obtain ⟨h', tk', t', hy', e, F', N'⟩ := hq
      refine ⟨h', tk', news, e, F', N', off, hS, ?_⟩
      rw [hy']
      refine ih (i + 1) _ (by omega) ?_
      rw [List.take_add_one, hk]
      simpa using kct_snoc hy
  exact key n 0 [] (by omega) (by simp only [List.take_zero, List.map_nil]; exact .nil)
end
section
variable {M : Model} {A : Around} {E : Value → Shared → Prop} {s : Shared} {h₀ : Heap} {L : Addr} {m : Str → Option Value} {news : List (Addr × Obj)} {Q : Value → Shared → Prop}
def BoolEnd (h₀ : Heap) (L : Addr) (m : Str → Option Value) (nw : List (Addr × Obj)) (s : Shared) (b : Bool) (y : Value) (s' : Shared) : Prop :=
  ∃ h' tk' c, y = .bool c ∧ c = b ∧ s' = { s with heap := h', toks := tk' } ∧ Fr h₀ L h' m ∧ News h₀ L h' nw
theorem BoolEnd.intro {b c : Bool} {h' : Heap} {tk' : Nat} (e : c = b) (F : Fr h₀ L h' m) (N : News h₀ L h' news) :
    BoolEnd h₀ L m news s b (.bool c) { s with heap := h', toks := tk' } := ⟨h', tk', c, rfl, e, rfl, F, N⟩
theorem cut_bool {t : Sem Value} (b : Bool) (h1 : wpAny M A t (BoolEnd h₀ L m news s b) E s)
    (h2 : ∀ h' tk', Fr h₀ L h' m → News h₀ L h' news → Q (.bool b) { s with heap := h', toks := tk' }) : wpAny M A t Q E s :=
  wpAny_mono h1 (fun y s' hq => by
    obtain ⟨h', tk', c, rfl, rfl, rfl, F, N⟩ := hq
    exact h2 h' tk' F N) fun _ _ e => e
end
end Mine
-- part OyF
namespace Mine
open PySem PySem.W PyProof.Rows
set_option maxRecDepth 100000
set_option maxHeartbeats 4000000
theorem four_P {a b c d : Str} {ta tb tc td : Tok} : ∀ (i : Nat) (v : Value), i < 4 → (#[.str a ta, .str b tb, .str c tc, .str d td] : Array Value)[i]? = some v → ∃ k t, [a, b, c, d][i]? = some k ∧ v = .str k t := by
  intro i v hi h
  match i, hi with
  | 0, _ => exact ⟨a, ta, rfl, (Option.some.inj h).symm⟩
  | 1, _ => exact ⟨b, tb, rfl, (Option.some.inj h).symm⟩
  | 2, _ => exact ⟨c, tc, rfl, (Option.some.inj h).symm⟩
  | 3, _ => exact ⟨d, td, rfl, (Option.some.inj h).symm⟩
theorem four_inv {ys : List Value} {p q r s : Str} (h : StrsAre ys [p, q, r, s]) : ∃ t0 t1 t2 t3, ys = [.str p t0, .str q t1, .str r t2, .str s t3] := by
  obtain ⟨t0, _, rfl, h1⟩ := h.cons_inv
  obtain ⟨t1, _, rfl, h2⟩ := h1.cons_inv
  obtain ⟨t2, _, rfl, h3⟩ := h2.cons_inv
  obtain ⟨t3, _, rfl, h4⟩ := h3.cons_inv
  obtain rfl := h4.nil_inv
  exact ⟨t0, t1, t2, t3, rfl⟩
section
variable {prog : Program} {w : World} {A : Around} {h₀ : Heap} {L : Addr} {m : Str → Option Value} {env : Env} {elt : Expr} {x : Str} {scope : Scope} {cl : List (Str × Addr)} {s₁ : Shared} {Fin : Shared → List Value → List (Addr × Obj) → Prop} {news : List (Addr × Obj)}
theorem four_src {ax : Addr} {a b c d : Str} {ta tb tc td : Tok} {k : Nat} (g : Str → Str) (hh : A.handled = none) (F : Fr h₀ L s₁.heap m) (N : News h₀ L s₁.heap news)
    (hm : (ax, ({ cls := .type "list", data := .seq #[.str a ta, .str b tb, .str c tc, .str d td] k } : Obj)) ∈ news)
    (turn : ∀ (s₂ : Heap) k t I oI C oC D m₂ ys h tk (E' : Value → Shared → Prop), k ∈ [a, b, c, d] → LCg.NsObj oC m₂ → m₂ x = some (.str k t) → Fr h₀ L h m → News h₀ L h ((I, oI) :: (C, oC) :: (D, LCg.lst ys) :: news) →
      wpAny (model prog w) A (eval elt (compEnvC scope cl C env)) (StrEnd h₀ L m ((I, oI) :: (C, oC) :: (D, LCg.lst ys) :: news) { heap := h, gens := s₁.gens, drawn := s₁.drawn, toks := tk, os := s₁.os } (g k)) E' { heap := h, gens := s₁.gens, drawn := s₁.drawn, toks := tk, os := s₁.os })
    (fin : ∀ s₂ t0 t1 t2 t3, Fin { s₁ with heap := s₂ } [.str (g a) t0, .str (g b) t1, .str (g c) t2, .str (g d) t3] news) :
    LCg.CompSrc prog w A h₀ L m env elt x scope cl Fin (.ref ax) s₁ := by
  refine LCg.CompSrc.ledger hh F N hm (by show 4 ≤ sizeLine; rw [sizeLine_eq]; omega) fun g' => ?_
  refine str_rest (ks := [a, b, c, d]) g rfl (.inr ⟨_, hm, rfl, _, rfl⟩) (fun i v hi hv => four_P i v hi hv) (fun k t I oI C oC D m₂ ys h tk E' hk hC hx F N => turn g' k t I oI C oC D m₂ ys h tk E' hk hC hx F N) fun ys hy => ?_
  obtain ⟨t0, t1, t2, t3, rfl⟩ := four_inv hy
  exact fin g' t0 t1 t2 t3
end
local macro_rules | `(tactic| size_fits) => `(tactic| ((with_reducible show PySem.Str.length _ ≤ _); (try rw [PySem.sizeLine_eq]); (try simp only [Str.length_append]); (have q0 := len_0); (have qe := len_e); (have q1 := len_1); (have q2 := len_2); (have q3 := len_3); (have q4 := len_4); (have qa := len_a); (have qb := len_b); omega))
theorem all_ne {news : List (Addr × Obj)} {L d : Nat} (h : ∀ p ∈ news, p.1 < L) (hd : L ≤ d) : ∀ p ∈ news, p.1 ≠ d := fun p hp => Nat.ne_of_lt (Nat.lt_of_lt_of_le (h p hp) hd)
local macro_rules | `(tactic| k_all) => `(tactic| exact all_ne (by assumption) (by omega))
def txtB (b : Bool) : Str := if b = true then Str.ofString "True" else Str.ofString "False"
def plainS (x : Str) : Bool := decide ([(x.length : Int) - ((Txt.lstripChars x (Str.ofString "_")).length : Int), (x.length : Int) - ((Txt.rstripChars x (Str.ofString "_")).length : Int)] = [1, 1]) && decide (2 < (x.length : Int))
def plainP (h x : Str) : Bool := decide (Txt.find x h = 0) && ((x != h) && decide ((x.length : Int) - ((Txt.rstripChars x (Str.ofString "_")).length : Int) < 2))
def XMark (x : Str) : Prop := x = x
section
variable {prog : Program} {w : World} {A : Around} {h₀ : Heap} {L : Addr} {m : Str → Option Value} {env : Env} {elt : Expr} {x : Str} {scope : Scope} {cl : List (Str × Addr)} {s₁ : Shared} {Fin : Shared → List Value → List (Addr × Obj) → Prop} {news : List (Addr × Obj)}
theorem four_srcP {z : Str} (mark : XMark z) {ax : Addr} {a b c d : Str} {ta tb tc td : Tok} {k : Nat} (hh : A.handled = none) (F : Fr h₀ L s₁.heap m) (N : News h₀ L s₁.heap news)
    (hm : (ax, ({ cls := .type "list", data := .seq #[.str a ta, .str b tb, .str c tc, .str d td] k } : Obj)) ∈ news)
    (turn : ∀ (s₂ : Heap) k t I oI C oC D m₂ ys h tk (E' : Value → Shared → Prop), k ∈ [a, b, c, d] → LCg.NsObj oC m₂ → m₂ x = some (.str k t) → Fr h₀ L h m → News h₀ L h ((I, oI) :: (C, oC) :: (D, LCg.lst ys) :: news) →
      wpAny (model prog w) A (eval elt (compEnvC scope cl C env)) (StrEnd h₀ L m ((I, oI) :: (C, oC) :: (D, LCg.lst ys) :: news) { heap := h, gens := s₁.gens, drawn := s₁.drawn, toks := tk, os := s₁.os } (txtB (plainP k z))) E' { heap := h, gens := s₁.gens, drawn := s₁.drawn, toks := tk, os := s₁.os })
    (fin : ∀ s₂ t0 t1 t2 t3, Fin { s₁ with heap := s₂ } [.str (txtB (plainP a z)) t0, .str (txtB (plainP b z)) t1, .str (txtB (plainP c z)) t2, .str (txtB (plainP d z)) t3] news) :
    LCg.CompSrc prog w A h₀ L m env elt x scope cl Fin (.ref ax) s₁ := four_src (fun k => txtB (plainP k z)) hh F N hm turn fin
end
section
variable {M : Model} {A : Around} {E : Value → Shared → Prop} {s : Shared} {h₀ : Heap} {L : Addr} {m : Str → Option Value} {news : List (Addr × Obj)} {Q : Value → Shared → Prop}
theorem cut_S {z : Str} {t : Sem Value} (mark : XMark z) (F : Fr h₀ L s.heap m) (N : News h₀ L s.heap news) (h1 : wpAny M A t (BoolEnd h₀ L m news s (plainS z)) E s)
    (h2 : ∀ h' tk', Fr h₀ L h' m → News h₀ L h' news → Q (.bool (plainS z)) { s with heap := h', toks := tk' }) : wpAny M A t Q E s := cut_bool _ h1 h2
theorem cut_P {z k : Str} {u : Tok} {m₂ : Str → Option Value} {t : Sem Value} (mark : XMark z) (hx : m₂ (Str.ofString "head") = some (.str k u)) (F : Fr h₀ L s.heap m) (N : News h₀ L s.heap news) (h1 : wpAny M A t (BoolEnd h₀ L m news s (plainP k z)) E s)
    (h2 : ∀ h' tk', Fr h₀ L h' m → News h₀ L h' news → Q (.bool (plainP k z)) { s with heap := h', toks := tk' }) : wpAny M A t Q E s := cut_bool _ h1 h2
theorem drop1 {h : Heap} {p : Addr × Obj} (N : News h₀ L h (p :: news)) : News h₀ L h news := fun q hq => N q (List.mem_cons_of_mem _ hq)
theorem drop2 {h : Heap} {p p' : Addr × Obj} (N : News h₀ L h (p :: p' :: news)) : News h₀ L h news := fun q hq => N q (List.mem_cons_of_mem _ (List.mem_cons_of_mem _ hq))
end
section
variable {x h : Str}
theorem pls_1 (h1 : [(x.length : Int) - ((Txt.lstripChars x (Str.ofString "_")).length : Int), (x.length : Int) - ((Txt.rstripChars x (Str.ofString "_")).length : Int)] = [1, 1]) : decide (2 < (x.length : Int)) = plainS x := by
  rw [plainS, decide_eq_true h1]; rfl
theorem pls_2 (h1 : ¬ [(x.length : Int) - ((Txt.lstripChars x (Str.ofString "_")).length : Int), (x.length : Int) - ((Txt.rstripChars x (Str.ofString "_")).length : Int)] = [1, 1]) : decide ([(x.length : Int) - ((Txt.lstripChars x (Str.ofString "_")).length : Int), (x.length : Int) - ((Txt.rstripChars x (Str.ofString "_")).length : Int)] = [1, 1]) = plainS x := by
  rw [plainS, decide_eq_false h1]; rfl
theorem plp_1 (h1 : Txt.find x h = 0) (h2 : (x != h) = true) : decide ((x.length : Int) - ((Txt.rstripChars x (Str.ofString "_")).length : Int) < 2) = plainP h x := by
  rw [plainP, decide_eq_true h1, h2]; rfl
theorem plp_2 (h1 : Txt.find x h = 0) (h2 : (x != h) = false) : (x != h) = plainP h x := by
  rw [plainP, decide_eq_true h1, h2]; rfl
theorem plp_3 (h1 : Txt.find x h ≠ 0) : (Txt.find x h == 0) = plainP h x := by
  rw [plainP, decide_eq_false h1, beq_false_of_ne h1]; rfl
end
theorem own_len {k : Str} (h : k ∈ [Str.ofString "", Str.ofString "a", Str.ofString "_", Str.ofString "a_"]) : k.length ≤ 2 := by
  simp only [List.mem_cons, List.not_mem_nil, or_false] at h
  rcases h with rfl | rfl | rfl | rfl <;> decide +kernel
theorem pat_len {g : Str → Str} {k : Str} (hg : ∀ c, (g c).length = c.length + 3) (h : k ∈ [g (Str.ofString ""), g (Str.ofString "a"), g (Str.ofString "_"), g (Str.ofString "a_")]) : k.length ≤ 5 := by
  simp only [List.mem_cons, List.not_mem_nil, or_false] at h
  have q0 := len_0
  have q1 := len_1
  have qa := len_a
  have qb := len_b
  rcases h with rfl | rfl | rfl | rfl <;> rw [hg] <;> omega
theorem pat_g : ∀ c : Str, ((fun k : Str => Str.ofString "_" ++ k ++ Str.ofString "__") c).length = c.length + 3 := by
  intro c
  show (Str.ofString "_" ++ c ++ Str.ofString "__").length = c.length + 3
  rw [Str.length_append, Str.length_append, len_1, len_2]; omega
local macro_rules | `(tactic| walk_at "exec Assign cons ListComp") => `(tactic| (k_here; k_dflt (refine LCg.Assign_ListComp_U (F₀ := by k_asm) (by rfl) (by with_unfolding_all rfl) (by with_unfolding_all rfl) (by decide) (by rfl) (by decide) (by rfl) (by rfl) (by rfl) ?_)))
local macro_rules | `(tactic| walk_at "eval ListComp") => `(tactic| (k_here; k_dflt (refine LCg.ListComp_U (F₀ := by k_asm) (by with_unfolding_all rfl) (by decide) (by rfl) (by decide) (by rfl) ?_)))
local macro_rules | `(tactic| walk_at "CompSrc") => `(tactic| (
  k_here
  k_dflt (first
    | (refine' four_src (a := Str.ofString "") (fun k => Str.ofString "_" ++ k ++ Str.ofString "__") ?k1 ?k2 ?k3 ?k4 ?_ ?_; (case k1 => exact rfl); (case k2 => k_asm); (case k3 => k_asm); (case k4 => repeat' (first | assumption | exact List.Mem.head _ | refine' List.Mem.tail _ ?_)); (intro s2' k' t' I' oI' C' oC' D' m' ys' h' tk' E' hk' hC' hx' F' N'; have hl' := own_len hk'; try dsimp only); rotate_left; (intro s2' u0' u1' u2' u3'; try dsimp only); rotate_right)
    | (refine' four_srcP ?k0 ?k1 ?k2 ?k3 ?k4 ?_ ?_; (case k0 => assumption); (case k1 => exact rfl); (case k2 => k_asm); (case k3 => k_asm); (case k4 => repeat' (first | assumption | exact List.Mem.head _ | refine' List.Mem.tail _ ?_)); (intro s2' k' t' I' oI' C' oC' D' m' ys' h' tk' E' hk' hC' hx' F' N'; have hl' := pat_len (g := fun k => Str.ofString "_" ++ k ++ Str.ofString "__") pat_g hk'; try dsimp only); rotate_left; (intro s2' u0' u1' u2' u3'; try dsimp only); rotate_right))))
local macro_rules | `(tactic| walk_at "StrEnd") => `(tactic| (k_dflt (refine' StrEnd.intro ?k1 ?k2; (case k1 => k_asm); (case k2 => k_asm))))
local macro_rules | `(tactic| walk_at "BoolEnd") => `(tactic| (k_dflt (refine' BoolEnd.intro ?k0 ?k1 ?k2; (case k1 => k_asm); (case k2 => (first | k_asm | exact drop1 (by k_asm) | exact drop2 (by k_asm))); (case k0 => (with_reducible first | exact pls_1 (by assumption) | exact pls_2 (by assumption) | exact plp_1 (by assumption) (by assumption) | exact plp_2 (by assumption) (by assumption) | exact plp_3 (by assumption))))))
local macro_rules | `(tactic| walk_at "eval BoolOp") => `(tactic| (k_here; (first
  | (with_reducible show wpAny _ _ (eval (Expr.BoolOp _ [_, _, _] _) (compEnvC _ _ _ _)) _ _ _; (fail_if_success (with_reducible show wpAny _ _ _ (BoolEnd _ _ _ _ _ _) _ _)); (k_dflt (refine' cut_P ?k0 ?k9 ?k1 ?k2 ?_ ?_)); (case k0 => assumption); (case k9 => assumption); (case k1 => k_asm); (case k2 => k_asm); rotate_left; (intro h' tk' F' N'; try dsimp only); rotate_right)
  | (with_reducible show wpAny _ _ (eval (Expr.BoolOp _ [_, _] _) (envOfC _ _ _ _ _)) _ _ _; (fail_if_success (with_reducible show wpAny _ _ _ (BoolEnd _ _ _ _ _ _) _ _)); (k_dflt (refine' cut_S ?k0 ?k1 ?k2 ?_ ?_)); (case k0 => assumption); (case k1 => k_asm); (case k2 => k_asm); rotate_left; (intro h' tk' F' N'; try dsimp only); rotate_right))))
theorem keep16 {h₀ h : Heap} {L : Addr} {a b c d e f g : Addr × Obj} {news : List (Addr × Obj)} (N : News h₀ L h (a :: b :: c :: d :: e :: f :: g :: news)) : News h₀ L h (a :: news) := by
  intro p hp
  rcases List.mem_cons.mp hp with rfl | hp
  · exact N _ (List.Mem.head _)
  · exact N _ (List.Mem.tail _ (List.Mem.tail _ (List.Mem.tail _ (List.Mem.tail _ (List.Mem.tail _ (List.Mem.tail _ (List.Mem.tail _ hp)))))))
theorem c_plain (w : World) (mean : ExcName → Option Value) (mg mb : Str → Option Value) (x : Str) (t : Tok) (hx : x.length ≤ 800) (ow : Addr) (t0 t1 t2 t3 : Tok) :
  ∀ (news : List (Addr × Obj)) (dp un : Nat) (gd : Option (List Code)) (cn : Str) (cs : Scope) (a : Addr) (ccd : Value) (cl : List (Str × Addr)) (outer : List Env) (A₀ : Around) (base h₀ : Heap) (L : Addr) (m : Str → Option Value) (s : Shared) (Q E : Value → Shared → Prop),
    Below A₀ base outer h₀ → Fr h₀ L s.heap m → (Mine.hd.heap_39 w.params).In h₀ → News h₀ L s.heap news → Top Mine.hd.view_39 (looseW Mine.hd.view_39 []) mean mg mb h₀ → cs.kind = .function →
    dp + 2 < recursionLimit → un + 128 < cLine →
    (ow, W.listOf #[.str (Str.ofString "") t0, .str (Str.ofString "a") t1, .str (Str.ofString "_") t2, .str (Str.ofString "a_") t3] 0) ∈ news →
    (∀ (r : Addr) (h' : Heap) (tk' : Nat) (u u0 u1 u2 u3 : Tok), Fr h₀ L h' m → News h₀ L h' ((r, W.listOf #[.str (if plainS x = true then Str.ofString "True" else Str.ofString "False") u, .str (txtB (plainP (Str.ofString "_" ++ Str.ofString "" ++ Str.ofString "__") x)) u0, .str (txtB (plainP (Str.ofString "_" ++ Str.ofString "a" ++ Str.ofString "__") x)) u1, .str (txtB (plainP (Str.ofString "_" ++ Str.ofString "_" ++ Str.ofString "__") x)) u2, .str (txtB (plainP (Str.ofString "_" ++ Str.ofString "a_" ++ Str.ofString "__") x)) u3] 0) :: news) → Q (.ref r) { s with heap := h', toks := tk' }) →
      wpAny (model Challenge.rw_oy0005_01.row.prog w) (ktrTop dp un gd cn cs L a ccd cl outer) (call (.ref 54) [.str x t, .ref ow]) Q E s := by
  w_top off
  k_fill
  intros; rename_i hmem hret
  have hMark : XMark x := rfl
  refine wpAny_call ?_
  k_dflt (refine' code_defC ?k1 ?k2 ?k3 ?k4 ?k5 ?kA ?kF ?kK ?k6 ?k7 ?k8 ?k9 ?kB ?kD ?_ ?c2 ?c3 ?c4; (case kA => exact rfl); (case kF => exact rfl); (case kK => assumption); (case k1 => k_asm); (case k2 => k_asm); (case k3 => k_asm); (case k4 => k_asm); (case k5 => k_asm); (case k6 => k_is); (case k7 => k_is); (case k8 => ktr_room); (case k9 => exact BindsTo.of_eq rfl); (case kB => exact rfl); (case kD => decide +kernel); (case c2 => exact rfl); (case c3 => exact rfl); (case c4 => exact rfl); k_whole; intro g' L' h' tk' cells' FG' F' N' Y' B' X' T' l1; (try k_lt l1); k_cells Y'; (try simp only [List.cons_append, List.nil_append] at N'); (try dsimp only); (try k_lift B'); (try k_fold))
  k_steps
  exact hret _ _ _ _ _ _ _ _ (by assumption) (keep16 (by assumption))
end Mine
-- part OyL
namespace Mine
open PySem PySem.W PyProof.Rows
set_option maxRecDepth 100000
section plain
open PySem.Builtin PySem.Builtin.Str
theorem us_eq : Str.ofString "_" = ⟨#[95]⟩ := by decide +kernel
theorem uu_eq : Str.ofString "__" = ⟨#[95, 95]⟩ := by decide +kernel
theorem nil_eq : Str.ofString "" = ⟨#[]⟩ := by decide +kernel
theorem xuu_eq : Str.ofString "x__" = ⟨#[120, 95, 95]⟩ := by decide +kernel
theorem uux_eq : Str.ofString "__x" = ⟨#[95, 95, 120]⟩ := by decide +kernel
theorem str_iff {a b : Str} : a = b ↔ a.cps.toList = b.cps.toList := by
  obtain ⟨⟨a⟩⟩ := a
  obtain ⟨⟨b⟩⟩ := b
  simp
theorem len_list (x : Str) : x.length = x.cps.toList.length := by simp [Str.length]
theorem app_list (a b : Str) : (a ++ b).cps.toList = a.cps.toList ++ b.cps.toList := by rw [Str.cps_append]; simp
theorem take2 (m : List Nat) (p q : Nat) : m.take 2 = [p, q] ↔ m[0]? = some p ∧ m[1]? = some q := by
  match m with
  | [] => simp
  | [a] => simp
  | a :: b :: r => simp
theorem starts_iff (x : Str) : Txt.startswith x (Str.ofString "__") = true ↔ 2 ≤ x.cps.toList.length ∧ x.cps.toList[0]? = some 95 ∧ x.cps.toList[1]? = some 95 := by
  unfold Txt.startswith
  rw [StrLaws.subAt_eq, len_2, uu_eq, len_list, Bool.and_eq_true, decide_eq_true_eq, beq_iff_eq, List.drop_zero, Nat.zero_add]
  rw [show (⟨#[95, 95]⟩ : Str).cps.toList = [95, 95] from rfl, take2]
theorem ends_iff (x : Str) : Txt.endswith x (Str.ofString "__") = true ↔ 2 ≤ x.cps.toList.length ∧ x.cps.toList[x.cps.toList.length - 2]? = some 95 ∧ x.cps.toList[x.cps.toList.length - 1]? = some 95 := by
  unfold Txt.endswith
  rw [StrLaws.subAt_eq, len_2, uu_eq, len_list, Bool.and_eq_true, decide_eq_true_eq, beq_iff_eq, Nat.zero_add]
  rw [show (⟨#[95, 95]⟩ : Str).cps.toList = [95, 95] from rfl, take2, List.getElem?_drop, List.getElem?_drop]
  constructor
  · rintro ⟨h, h1, h2⟩
    refine ⟨h, by simpa using h1, ?_⟩
    rw [show x.cps.toList.length - 2 + 1 = x.cps.toList.length - 1 by omega] at h2
    exact h2
  · rintro ⟨h, h1, h2⟩
    refine ⟨h, by simpa using h1, ?_⟩
    rw [show x.cps.toList.length - 2 + 1 = x.cps.toList.length - 1 by omega]
    exact h2
def DunL (l : List Nat) : Prop := 2 ≤ l.length ∧ l[0]? = some 95 ∧ l[1]? = some 95 ∧ l[l.length - 2]? = some 95 ∧ l[l.length - 1]? = some 95
theorem dunder_iff (x : Str) : isDunder x = true ↔ DunL x.cps.toList := by
  unfold isDunder DunL
  rw [Bool.and_eq_true, starts_iff, ends_iff]
  constructor
  · rintro ⟨⟨h, a, b⟩, _, c, d⟩; exact ⟨h, a, b, c, d⟩
  · rintro ⟨h, a, b, c, d⟩; exact ⟨⟨h, a, b⟩, h, c, d⟩

theorem sliceRange_nat (a b : Nat) : sliceRange (a : Int) (b : Int) 1 = (List.range (b - a)).map (fun k => a + k) := by
  unfold sliceRange
  have e : (if (1 : Int) > 0 then (if (a : Int) < (b : Int) then ((b : Int) - (a : Int) + 1 - 1) / 1 else 0) else (if (a : Int) > (b : Int) then ((a : Int) - (b : Int) - 1 - 1) / (-1) else 0)).toNat = b - a := by
    rw [if_pos (by decide)]
    split
    · rw [Int.ediv_one]; omega
    · omega
  dsimp only
  rw [e]
  refine List.map_congr_left fun k _ => ?_
  omega
theorem slice_list {x : Str} {l u : Option Int} {lo hi : Nat} (h : strSliceIndices l u 1 x.length = sliceRange (lo : Int) (hi : Int) 1) (hh : hi ≤ x.length) : (Txt.slice x l u).cps.toList = (x.cps.toList.drop lo).take (hi - lo) := by
  have hn := len_list x
  unfold Txt.slice
  rw [h, sliceRange_nat]
  split
  · rename_i e
    have e' : hi - lo = x.length := by simpa using e
    by_cases h0 : x.length = 0
    · have : x.cps.toList = [] := List.eq_nil_of_length_eq_zero (by omega)
      rw [this]; simp
    · have : lo = 0 := by omega
      subst this
      rw [List.drop_zero, e', hn, List.take_length]
  · by_cases hl : lo ≤ hi
    · rw [← StrLaws.picks x.cps.toList (hi - lo) lo (by omega)]
      simp
    · rw [show hi - lo = 0 by omega]; simp
theorem slice_to (x : Str) (k : Nat) : (Txt.slice x none (some (k : Int))).cps.toList = x.cps.toList.take k := by
  have hn := len_list x
  rw [slice_list (lo := 0) (hi := min k x.length) ?_ (by omega), List.drop_zero, Nat.sub_zero]
  · by_cases h : k ≤ x.length
    · rw [Nat.min_eq_left h]
    · rw [Nat.min_eq_right (by omega), hn, List.take_length, List.take_of_length_le (by omega)]
  · unfold strSliceIndices
    have h1 : (1 : Int) > 0 := by decide
    have h2 : ¬ (k : Int) < 0 := by omega
    simp only [h1, h2, if_true, if_false]
    congr 1
    omega
theorem slice_from (x : Str) (k : Nat) : (Txt.slice x (some (k : Int)) none).cps.toList = x.cps.toList.drop k := by
  have hn := len_list x
  rw [slice_list (lo := min k x.length) (hi := x.length) ?_ (by omega)]
  · by_cases h : k ≤ x.length
    · rw [Nat.min_eq_left h, hn, List.take_of_length_le (by rw [List.length_drop]; omega)]
    · rw [Nat.min_eq_right (by omega), Nat.sub_self, List.take_zero, List.drop_eq_nil_of_le (by omega)]
  · unfold strSliceIndices
    have h1 : (1 : Int) > 0 := by decide
    have h2 : ¬ (k : Int) < 0 := by omega
    simp only [h1, h2, if_true, if_false]
    congr 1
    omega
theorem slice_neg2 (x : Str) : (Txt.slice x (some (-2)) none).cps.toList = x.cps.toList.drop (x.cps.toList.length - 2) := by
  have hn := len_list x
  rw [slice_list (lo := x.length - 2) (hi := x.length) ?_ (by omega)]
  · rw [hn, List.take_of_length_le (by rw [List.length_drop]; omega)]
  · unfold strSliceIndices
    have h1 : (1 : Int) > 0 := by decide
    have h2 : (-2 : Int) < 0 := by decide
    simp only [h1, h2, if_true]
    congr 1
    omega
theorem last2 (l : List Nat) : l.drop (l.length - 2) = [95, 95] ↔ 2 ≤ l.length ∧ l[l.length - 2]? = some 95 ∧ l[l.length - 1]? = some 95 := by
  have e : l.drop (l.length - 2) = (l.drop (l.length - 2)).take 2 := by rw [List.take_of_length_le]; rw [List.length_drop]; omega
  constructor
  · intro h
    have hl := congrArg List.length h
    rw [List.length_drop] at hl
    have h2 : 2 ≤ l.length := by simp at hl; omega
    rw [e, take2, List.getElem?_drop, List.getElem?_drop] at h
    rw [show l.length - 2 + 1 = l.length - 1 by omega] at h
    exact ⟨h2, by simpa using h.1, h.2⟩
  · rintro ⟨h, a, b⟩
    rw [e, take2, List.getElem?_drop, List.getElem?_drop, show l.length - 2 + 1 = l.length - 1 by omega]
    exact ⟨by simpa using a, b⟩
theorem eqD (x : Str) : (Txt.slice x none (some 2) == Str.ofString "__" && Txt.slice x (some (-2)) none == Str.ofString "__") = isDunder x := by
  rw [Bool.eq_iff_iff, Bool.and_eq_true, beq_iff_eq, beq_iff_eq, dunder_iff, str_iff, str_iff, slice_neg2, uu_eq]
  have e := slice_to x 2
  rw [show ((2 : Nat) : Int) = 2 from rfl] at e
  rw [e, show (⟨#[95, 95]⟩ : Str).cps.toList = [95, 95] from rfl, take2, last2]
  unfold DunL
  constructor
  · rintro ⟨⟨a, b⟩, h, c, d⟩; exact ⟨h, a, b, c, d⟩
  · rintro ⟨h, a, b, c, d⟩; exact ⟨⟨a, b⟩, h, c, d⟩

theorem item_us (x : Str) (i : Int) : (Txt.item x i == Str.ofString "_") = true ↔ Txt.charAt x i = some 95 := by
  rw [us_eq, beq_iff_eq, str_iff]
  unfold Txt.item
  cases Txt.charAt x i with
  | none => simp
  | some c => simp
theorem charAt_pos (x : Str) (k : Nat) (h : k < x.cps.toList.length) : Txt.charAt x (k : Int) = x.cps.toList[k]? := by
  have hn := len_list x
  unfold Txt.charAt seqIndex?
  have h1 : ¬ (k : Int) < 0 := by omega
  have h2 : (0 : Int) ≤ (k : Int) := by omega
  have h3 : (k : Int) < (x.length : Int) := by omega
  simp [h1, h2, h3]
theorem charAt_neg (x : Str) (k : Nat) (h0 : 0 < k) (h : k ≤ x.cps.toList.length) : Txt.charAt x (-(k : Int)) = x.cps.toList[x.cps.toList.length - k]? := by
  have hn := len_list x
  unfold Txt.charAt seqIndex?
  have h1 : (-(k : Int)) < 0 := by omega
  have h2 : (0 : Int) ≤ -(k : Int) + (x.length : Int) := by omega
  have h3 : -(k : Int) + (x.length : Int) < (x.length : Int) := by omega
  have h4 : (-(k : Int) + (x.length : Int)).toNat = x.cps.toList.length - k := by omega
  simp only [h1, if_true, h2, h3, decide_true, Bool.and_self, Option.bind_some, h4]
  rw [Array.getElem?_toList]
def SunL (l : List Nat) : Prop := 2 < l.length ∧ l[0]? = some 95 ∧ ¬ l[1]? = some 95 ∧ l[l.length - 1]? = some 95 ∧ ¬ l[l.length - 2]? = some 95
theorem bne_us (x : Str) (i : Int) : (Txt.item x i != Str.ofString "_") = true ↔ ¬ Txt.charAt x i = some 95 := by
  rw [← item_us]
  simp [bne]
theorem sunder_iff (x : Str) : isSunder x = true ↔ SunL x.cps.toList := by
  have hn := len_list x
  unfold isSunder SunL
  rw [Bool.and_eq_true, Bool.and_eq_true, Bool.and_eq_true, Bool.and_eq_true, decide_eq_true_eq, item_us, bne_us, bne_us]
  constructor
  · rintro ⟨h, e, a, b, c⟩
    have h2 : 2 < x.cps.toList.length := by omega
    have c1 := charAt_neg x 1 (by omega) (by omega)
    have c2 := charAt_neg x 2 (by omega) (by omega)
    have c3 := charAt_pos x 1 (by omega)
    have c0 := charAt_pos x 0 (by omega)
    rw [show (-((1 : Nat) : Int)) = -1 from rfl] at c1
    rw [show (-((2 : Nat) : Int)) = -2 from rfl] at c2
    rw [show ((1 : Nat) : Int) = 1 from rfl] at c3
    rw [show ((0 : Nat) : Int) = 0 from rfl] at c0
    have a' := (item_us x (-1)).mpr a
    rw [beq_iff_eq] at e a'
    have a0 := (item_us x 0).mp (by rw [beq_iff_eq, e, a'])
    rw [c0] at a0
    rw [c1] at a
    rw [c2] at c
    rw [c3] at b
    exact ⟨h2, a0, b, a, c⟩
  · rintro ⟨h2, a0, b, a, c⟩
    have c1 := charAt_neg x 1 (by omega) (by omega)
    have c2 := charAt_neg x 2 (by omega) (by omega)
    have c3 := charAt_pos x 1 (by omega)
    have c0 := charAt_pos x 0 (by omega)
    rw [show (-((1 : Nat) : Int)) = -1 from rfl] at c1
    rw [show (-((2 : Nat) : Int)) = -2 from rfl] at c2
    rw [show ((1 : Nat) : Int) = 1 from rfl] at c3
    rw [show ((0 : Nat) : Int) = 0 from rfl] at c0
    rw [← c0] at a0
    rw [← c1] at a
    rw [← c2] at c
    rw [← c3] at b
    have a' := (item_us x (-1)).mpr a
    have a0' := (item_us x 0).mpr a0
    rw [beq_iff_eq] at a' a0'
    exact ⟨by omega, by rw [beq_iff_eq, a0', a'], a, b, c⟩
theorem cons_app_get (l : List Nat) (i : Nat) (h : i < l.length) : ([95] ++ l ++ [95])[i + 1]? = l[i]? := by
  rw [List.append_assoc, List.singleton_append, List.getElem?_cons_succ, List.getElem?_append_left h]
theorem lsunder_iff (x : Str) : lawSunder x = true ↔ SunL x.cps.toList := by
  have hn := len_list x
  unfold lawSunder
  rw [Bool.and_eq_true, Bool.and_eq_true, Bool.and_eq_true, Bool.not_eq_true', Bool.not_eq_true', ← Bool.not_eq_true, ← Bool.not_eq_true, dunder_iff, dunder_iff, dunder_iff, app_list, app_list, app_list, us_eq,
    bne_iff_ne, Ne, str_iff, nil_eq, show (⟨#[]⟩ : Str).cps.toList = [] from rfl, show (⟨#[95]⟩ : Str).cps.toList = [95] from rfl]
  generalize x.cps.toList = l
  unfold DunL SunL
  match l with
  | [] => simp
  | [a] => simp
  | [a, b] => simp
  | a :: b :: c :: r =>
    simp only [List.length_append, List.length_cons, List.length_nil]
    have e1 : ([95] ++ a :: b :: c :: r ++ [95])[0 + 1 + (r.length + 1 + 1 + 1) + (0 + 1) - 2]? = (a :: b :: c :: r)[r.length + 1 + 1 + 1 - 1]? := by
      rw [show 0 + 1 + (r.length + 1 + 1 + 1) + (0 + 1) - 2 = (r.length + 2) + 1 by omega, cons_app_get _ _ (by simp)]
      rfl
    have e2 : ([95] ++ a :: b :: c :: r ++ [95])[0 + 1 + (r.length + 1 + 1 + 1) + (0 + 1) - 1]? = some 95 := by
      rw [show 0 + 1 + (r.length + 1 + 1 + 1) + (0 + 1) - 1 = ([95] ++ a :: b :: c :: r).length by simp; omega, List.getElem?_append_right (Nat.le_refl _), Nat.sub_self]
      rfl
    have e3 : (a :: b :: c :: r ++ [95])[r.length + 1 + 1 + 1 + (0 + 1) - 2]? = (a :: b :: c :: r)[r.length + 1 + 1 + 1 - 1]? := by
      rw [List.getElem?_append_left (by simp)]
      congr 1
    have e4 : (a :: b :: c :: r ++ [95])[r.length + 1 + 1 + 1 + (0 + 1) - 1]? = some 95 := by
      rw [List.getElem?_append_right (by simp)]
      simp
    have e5 : ([95] ++ a :: b :: c :: r)[0 + 1 + (r.length + 1 + 1 + 1) - 2]? = (a :: b :: c :: r)[r.length + 1 + 1 + 1 - 2]? := by
      rw [show 0 + 1 + (r.length + 1 + 1 + 1) - 2 = (r.length + 1) + 1 by omega, List.singleton_append, List.getElem?_cons_succ]
      congr 1
    have e6 : ([95] ++ a :: b :: c :: r)[0 + 1 + (r.length + 1 + 1 + 1) - 1]? = (a :: b :: c :: r)[r.length + 1 + 1 + 1 - 1]? := by
      rw [show 0 + 1 + (r.length + 1 + 1 + 1) - 1 = (r.length + 2) + 1 by omega, List.singleton_append, List.getElem?_cons_succ]
      congr 1
    rw [e1, e2, e3, e4, e5, e6]
    generalize (a :: b :: c :: r)[r.length + 1 + 1 + 1 - 1]? = p
    generalize (a :: b :: c :: r)[r.length + 1 + 1 + 1 - 2]? = q
    simp only [List.nil_append, List.cons_append, List.getElem?_cons_zero, List.getElem?_cons_succ, Option.some.injEq]
    constructor
    · rintro ⟨_, ⟨_, _, ha, hp, _⟩, h3, h4⟩
      refine ⟨by omega, ha, fun hb => h3 ⟨by omega, ha, hb, hp, trivial⟩, hp, fun hq => h4 ⟨by omega, trivial, ha, hq, hp⟩⟩
    · rintro ⟨_, ha, hb, hp, hq⟩
      exact ⟨by simp, ⟨by omega, trivial, ha, hp, trivial⟩, fun h => hb h.2.2.1, fun h => hq h.2.2.2.1⟩
end plain
end Mine
-- part OyM
namespace Mine
open PySem PySem.W PyProof.Rows
set_option maxRecDepth 100000
section plain
open PySem.Builtin PySem.Builtin.Str
theorem goes_iff (x : Str) (k : Nat) : (Str.ofString "_").cps.contains (x.cps.getD k 0) = true ↔ x.cps.toList[k]? = some 95 := by
  rw [us_eq, ← getD_list, List.getD_eq_getElem?_getD]
  cases x.cps.toList[k]? with
  | none => simp
  | some c =>
    simp only [Option.getD_some, Option.some.injEq]
    simp
theorem lstrip_len (x : Str) : ∃ k : Nat, (x.length : Int) - ((Txt.lstripChars x (Str.ofString "_")).length : Int) = (k : Int) ∧ k ≤ x.cps.toList.length ∧ (∀ j : Nat, j < k → x.cps.toList[j]? = some 95) ∧ (k = x.cps.toList.length ∨ ¬ x.cps.toList[k]? = some 95) := by
  have hn := len_list x
  obtain ⟨h1, h2, h3⟩ := lo_facts (Str.ofString "_").cps.contains x
  refine ⟨stripLo (Str.ofString "_").cps.contains true x, ?_, by omega, fun j hj => (goes_iff x j).mp (h2 j hj), ?_⟩
  · have hl : (Txt.lstripChars x (Str.ofString "_")).length = x.length - stripLo (Str.ofString "_").cps.contains true x := by
      unfold Txt.lstripChars Txt.stripBy
      split
      · rename_i e
        unfold stripSame at e
        rw [Bool.and_eq_true, beq_iff_eq] at e
        rw [e.1]; rfl
      · rw [len_list, PySem.stripped, StrLaws.strSub_toList, List.length_take, List.length_drop]
        rw [show stripHi (Str.ofString "_").cps.contains false x (stripLo (Str.ofString "_").cps.contains true x) = x.length from rfl]
        omega
    omega
  · rcases h3 with h | h
    · exact .inl (by omega)
    · exact .inr fun e => by rw [(goes_iff x _).mpr e] at h; cases h
theorem rstrip_len (x : Str) : ∃ k : Nat, (x.length : Int) - ((Txt.rstripChars x (Str.ofString "_")).length : Int) = (k : Int) ∧ k ≤ x.cps.toList.length ∧ (∀ j : Nat, x.cps.toList.length - k ≤ j → j < x.cps.toList.length → x.cps.toList[j]? = some 95) ∧
    (k = x.cps.toList.length ∨ ¬ x.cps.toList[x.cps.toList.length - k - 1]? = some 95) := by
  have hn := len_list x
  obtain ⟨h0, h1, h2, h3⟩ := hi_facts (Str.ofString "_").cps.contains x 0 (Nat.zero_le _)
  have e0 : stripLo (Str.ofString "_").cps.contains false x = 0 := rfl
  refine ⟨x.length - stripHi (Str.ofString "_").cps.contains true x 0, ?_, by omega, fun j hj hj' => (goes_iff x j).mp (h2 j (by omega) (by omega)), ?_⟩
  · have hl : (Txt.rstripChars x (Str.ofString "_")).length = stripHi (Str.ofString "_").cps.contains true x 0 := by
      unfold Txt.rstripChars Txt.stripBy
      split
      · rename_i e
        unfold stripSame at e
        rw [Bool.and_eq_true, beq_iff_eq, beq_iff_eq, e0] at e
        exact e.2.symm
      · rw [len_list, PySem.stripped, e0, StrLaws.strSub_toList, List.length_take, List.length_drop]
        omega
    omega
  · rcases h3 with h | h
    · exact .inl (by omega)
    · by_cases hz : stripHi (Str.ofString "_").cps.contains true x 0 = 0
      · exact .inl (by omega)
      · refine .inr fun e => ?_
        rw [show x.cps.toList.length - (x.length - stripHi (Str.ofString "_").cps.contains true x 0) - 1 = stripHi (Str.ofString "_").cps.contains true x 0 - 1 by omega] at e
        rw [(goes_iff x _).mpr e] at h; cases h
theorem plainS_iff (x : Str) : plainS x = true ↔ SunL x.cps.toList := by
  have hn := len_list x
  unfold plainS SunL
  rw [Bool.and_eq_true, decide_eq_true_eq, decide_eq_true_eq]
  obtain ⟨f, hf, f1, f2, f3⟩ := lstrip_len x
  obtain ⟨b, hb, b1, b2, b3⟩ := rstrip_len x
  rw [hf, hb]
  simp only [List.cons.injEq, and_true]
  constructor
  · rintro ⟨⟨ef, eb⟩, hl⟩
    have ef' : f = 1 := by omega
    have eb' : b = 1 := by omega
    subst ef' eb'
    refine ⟨by omega, f2 0 (by omega), ?_, b2 _ (by omega) (by omega), ?_⟩
    · rcases f3 with h | h
      · omega
      · exact h
    · rcases b3 with h | h
      · omega
      · rw [show x.cps.toList.length - 1 - 1 = x.cps.toList.length - 2 by omega] at h; exact h
  · rintro ⟨hl, u0, u1, v0, v1⟩
    have ef : f = 1 := by
      by_cases h0 : f = 0
      · subst h0
        rcases f3 with h | h
        · omega
        · exact absurd u0 h
      · by_cases h2 : 1 < f
        · exact absurd (f2 1 h2) u1
        · omega
    have eb : b = 1 := by
      by_cases h0 : b = 0
      · subst h0
        rcases b3 with h | h
        · omega
        · rw [Nat.sub_zero] at h; exact absurd v0 h
      · by_cases h2 : 1 < b
        · exact absurd (b2 (x.cps.toList.length - 2) (by omega) (by omega)) v1
        · omega
    subst ef eb
    exact ⟨⟨rfl, rfl⟩, by omega⟩
theorem eqS1 (x : Str) : isSunder x = plainS x := by rw [Bool.eq_iff_iff, sunder_iff, plainS_iff]
theorem eqS2 (x : Str) : lawSunder x = plainS x := by rw [Bool.eq_iff_iff, lsunder_iff, plainS_iff]
def TailL (l : List Nat) : Prop := ¬ (l[l.length - 1]? = some 95 ∧ l[l.length - 2]? = some 95)
def PrivL (p l : List Nat) : Prop := p.length < l.length ∧ l.take p.length = p ∧ TailL l
theorem pat_list (c : Str) : (Str.ofString "_" ++ c ++ Str.ofString "__").cps.toList = 95 :: c.cps.toList ++ [95, 95] := by
  rw [app_list, app_list, us_eq, uu_eq]; rfl
theorem starts_any (x y : Str) : Txt.startswith x y = true ↔ y.cps.toList.length ≤ x.cps.toList.length ∧ x.cps.toList.take y.cps.toList.length = y.cps.toList := by
  unfold Txt.startswith
  rw [StrLaws.subAt_eq, Bool.and_eq_true, decide_eq_true_eq, beq_iff_eq, List.drop_zero, Nat.zero_add, len_list, len_list]
theorem private_iff (c x : Str) : isPrivate c x = true ↔ PrivL (95 :: c.cps.toList ++ [95, 95]) x.cps.toList := by
  have hn := len_list x
  have hc := len_list c
  have hp := pat_list c
  unfold isPrivate PrivL TailL patLen patOf
  rw [Bool.and_eq_true, Bool.and_eq_true, Bool.or_eq_true, decide_eq_true_eq, bne_us, bne_us, starts_any, hp, len_1, len_2]
  have el : (95 :: c.cps.toList ++ [95, 95]).length = c.cps.toList.length + 3 := by simp
  rw [el]
  constructor
  · rintro ⟨h, ⟨_, h2⟩, h3⟩
    have hl : c.cps.toList.length + 3 < x.cps.toList.length := by omega
    refine ⟨hl, h2, fun ⟨a, b⟩ => ?_⟩
    have c1 := charAt_neg x 1 (by omega) (by omega)
    have c2 := charAt_neg x 2 (by omega) (by omega)
    rw [show (-((1 : Nat) : Int)) = -1 from rfl] at c1
    rw [show (-((2 : Nat) : Int)) = -2 from rfl] at c2
    rcases h3 with h3 | h3
    · exact h3 (c1.trans a)
    · exact h3 (c2.trans b)
  · rintro ⟨hl, h2, h3⟩
    have c1 := charAt_neg x 1 (by omega) (by omega)
    have c2 := charAt_neg x 2 (by omega) (by omega)
    rw [show (-((1 : Nat) : Int)) = -1 from rfl] at c1
    rw [show (-((2 : Nat) : Int)) = -2 from rfl] at c2
    refine ⟨by omega, ⟨by omega, h2⟩, ?_⟩
    by_cases a : Txt.charAt x (-1) = some 95
    · exact .inr fun b => h3 ⟨c1.symm.trans a, c2.symm.trans b⟩
    · exact .inl a
theorem find_iff (x y : Str) : Txt.find x y = 0 ↔ Txt.startswith x y = true := by
  unfold Txt.find
  rcases StrLaws.occ_head_from x y 0 1 (Nat.le_refl _) with ⟨e, h⟩ | ⟨i, r, e, h0, hi, h⟩
  · rw [e]
    have := h 0 (Nat.le_refl _)
    unfold StrLaws.At at this
    unfold Txt.startswith
    rw [Bool.and_eq_true, decide_eq_true_eq]
    constructor
    · intro q; cases q
    · intro q; exact absurd q this
  · rw [e]
    unfold Txt.startswith
    rw [Bool.and_eq_true, decide_eq_true_eq]
    constructor
    · intro q
      have : i = 0 := by simpa using q
      subst this
      exact hi
    · intro q
      by_cases hz : i = 0
      · subst hz; rfl
      · exact absurd q (h 0 (Nat.le_refl _) (by omega))
theorem plainP_iff (c x : Str) : plainP (Str.ofString "_" ++ c ++ Str.ofString "__") x = true ↔ PrivL (95 :: c.cps.toList ++ [95, 95]) x.cps.toList := by
  have hn := len_list x
  have hp := pat_list c
  have el : (95 :: c.cps.toList ++ [95, 95]).length = c.cps.toList.length + 3 := by simp
  obtain ⟨b, hb, b1, b2, b3⟩ := rstrip_len x
  unfold plainP PrivL TailL
  rw [Bool.and_eq_true, Bool.and_eq_true, decide_eq_true_eq, decide_eq_true_eq, find_iff, starts_any, bne_iff_ne, Ne, str_iff, hp, hb, el]
  constructor
  · rintro ⟨⟨h1, h2⟩, h3, h4⟩
    have hl : c.cps.toList.length + 3 < x.cps.toList.length := by
      by_cases e : x.cps.toList.length = c.cps.toList.length + 3
      · rw [← e, List.take_length] at h2; exact absurd h2 h3
      · omega
    refine ⟨hl, h2, fun ⟨u, v⟩ => ?_⟩
    rcases b3 with h | h
    · omega
    · have : b = 0 ∨ b = 1 := by omega
      rcases this with rfl | rfl
      · rw [Nat.sub_zero] at h; exact h u
      · rw [show x.cps.toList.length - 1 - 1 = x.cps.toList.length - 2 by omega] at h; exact h v
  · rintro ⟨hl, h2, h3⟩
    refine ⟨⟨by omega, h2⟩, fun e => ?_, ?_⟩
    · rw [e, el] at hl; omega
    · by_cases hb2 : b < 2
      · omega
      · exact absurd ⟨b2 _ (by omega) (by omega), b2 _ (by omega) (by omega)⟩ h3
theorem take_two (l q : List Nat) (k : Nat) (hq : q.length = k) (hk : k + 2 ≤ l.length) : l.take (k + 2) = q ++ [95, 95] ↔ l.take k = q ∧ l[k]? = some 95 ∧ l[k + 1]? = some 95 := by
  have e : l.take (k + 2) = l.take k ++ (l.drop k).take 2 := by rw [List.take_add]
  have h2 := take2 (l.drop k) 95 95
  rw [List.getElem?_drop, List.getElem?_drop, Nat.add_zero] at h2
  rw [e]
  constructor
  · intro h
    have := List.append_inj h (by rw [List.length_take, hq]; omega)
    exact ⟨this.1, h2.mp this.2⟩
  · rintro ⟨h, h'⟩
    rw [h, h2.mpr h']
theorem lprivate_iff (c x : Str) : lawPrivate c x = true ↔ PrivL (95 :: c.cps.toList ++ [95, 95]) x.cps.toList := by
  have hn := len_list x
  have hc := len_list c
  have el : (95 :: c.cps.toList ++ [95, 95]).length = c.cps.toList.length + 3 := by simp
  have er : (restOf c x).cps.toList = x.cps.toList.drop (1 + c.cps.toList.length) := by unfold restOf; rw [slice_from, len_1, hc]
  unfold lawPrivate PrivL TailL
  rw [Bool.and_eq_true, Bool.and_eq_true, Bool.and_eq_true, Bool.not_eq_true', ← Bool.not_eq_true, decide_eq_true_eq, dunder_iff, dunder_iff, app_list, app_list, er, beq_iff_eq, str_iff, slice_to, app_list, us_eq, xuu_eq, uux_eq,
    show (⟨#[95]⟩ : Str).length = 1 from rfl, len_list (restOf c x), er, len_list c, el, show (⟨#[95]⟩ : Str).cps.toList = [95] from rfl, show (⟨#[120, 95, 95]⟩ : Str).cps.toList = [120, 95, 95] from rfl, show (⟨#[95, 95, 120]⟩ : Str).cps.toList = [95, 95, 120] from rfl, List.singleton_append]
  generalize x.cps.toList = l
  generalize c.cps.toList = d
  by_cases hl : d.length + 3 < l.length
  · have hr : (l.drop (1 + d.length)).length = l.length - (1 + d.length) := List.length_drop
    have t2 := take_two l (95 :: d) (1 + d.length) (by simp; omega) (by omega)
    rw [show 1 + d.length + 2 = d.length + 3 by omega] at t2
    rw [show (95 :: d) ++ [95, 95] = 95 :: d ++ [95, 95] from rfl] at t2
    have d1 : DunL (l.drop (1 + d.length) ++ [120, 95, 95]) ↔ l[1 + d.length]? = some 95 ∧ l[1 + d.length + 1]? = some 95 := by
      unfold DunL
      have e0 : (l.drop (1 + d.length) ++ [120, 95, 95])[0]? = l[1 + d.length]? := by rw [List.getElem?_append_left (by omega), List.getElem?_drop, Nat.add_zero]
      have e1 : (l.drop (1 + d.length) ++ [120, 95, 95])[1]? = l[1 + d.length + 1]? := by rw [List.getElem?_append_left (by omega), List.getElem?_drop]
      have e2 : (l.drop (1 + d.length) ++ [120, 95, 95]).length = (l.drop (1 + d.length)).length + 3 := by simp
      have e3 : (l.drop (1 + d.length) ++ [120, 95, 95])[(l.drop (1 + d.length)).length + 3 - 2]? = some 95 := by
        rw [List.getElem?_append_right (by omega), show (l.drop (1 + d.length)).length + 3 - 2 - (l.drop (1 + d.length)).length = 1 by omega]; rfl
      have e4 : (l.drop (1 + d.length) ++ [120, 95, 95])[(l.drop (1 + d.length)).length + 3 - 1]? = some 95 := by
        rw [List.getElem?_append_right (by omega), show (l.drop (1 + d.length)).length + 3 - 1 - (l.drop (1 + d.length)).length = 2 by omega]; rfl
      rw [e2, e0, e1, e3, e4]
      constructor
      · rintro ⟨_, a, b, _, _⟩; exact ⟨a, b⟩
      · rintro ⟨a, b⟩; exact ⟨by omega, a, b, rfl, rfl⟩
    have d2 : DunL ([95, 95, 120] ++ l) ↔ l[l.length - 1]? = some 95 ∧ l[l.length - 2]? = some 95 := by
      unfold DunL
      have e2 : ([95, 95, 120] ++ l).length = l.length + 3 := by rw [List.length_append]; simp only [List.length_cons, List.length_nil]; omega
      have e3 : ([95, 95, 120] ++ l)[l.length + 3 - 2]? = l[l.length - 2]? := by
        rw [List.getElem?_append_right (by simp only [List.length_cons, List.length_nil]; omega)]
        congr 1
      have e4 : ([95, 95, 120] ++ l)[l.length + 3 - 1]? = l[l.length - 1]? := by
        rw [List.getElem?_append_right (by simp only [List.length_cons, List.length_nil]; omega)]
        congr 1
      rw [e2, e3, e4]
      constructor
      · rintro ⟨_, _, _, a, b⟩; exact ⟨b, a⟩
      · rintro ⟨a, b⟩; exact ⟨by omega, rfl, rfl, b, a⟩
    rw [t2, d1, d2, hr]
    constructor
    · rintro ⟨h1, h2, h3, h4⟩; exact ⟨hl, ⟨h1, h3⟩, h4⟩
    · rintro ⟨_, ⟨h1, h3⟩, h4⟩; exact ⟨h1, by omega, h3, h4⟩
  · constructor
    · rintro ⟨_, h, _⟩
      rw [List.length_drop] at h
      omega
    · rintro ⟨h, _⟩; exact absurd h hl
theorem eqP1 (c x : Str) : isPrivate c x = plainP (Str.ofString "_" ++ c ++ Str.ofString "__") x := by rw [Bool.eq_iff_iff, private_iff, plainP_iff]
theorem eqP2 (c x : Str) : lawPrivate c x = plainP (Str.ofString "_" ++ c ++ Str.ofString "__") x := by rw [Bool.eq_iff_iff, lprivate_iff, plainP_iff]
end plain
end Mine
-- part OyG
namespace Mine
open PySem PySem.W PyProof.Rows
set_option maxRecDepth 100000
set_option maxHeartbeats 4000000
theorem k_sunder (w : World) (mean : ExcName → Option Value) (mg mb : Str → Option Value) (x : Str) (t : Tok) (hx : x.length ≤ 1000) :
    CL 1 8 w mean mg mb 21 [.str x t] (fun _ => .bool (plainS x)) := by rw [← eqS1]; exact c_sunder w mean mg mb x t hx
theorem k_private (w : World) (mean : ExcName → Option Value) (mg mb : Str → Option Value) (c x : Str) (t t1 : Tok) (hx : x.length ≤ 1000) (hc : c.length ≤ 1000) :
    CL 1 8 w mean mg mb 28 [.str c t1, .str x t] (fun _ => .bool (plainP (Str.ofString "_" ++ c ++ Str.ofString "__") x)) := by rw [← eqP1]; exact c_private w mean mg mb c x t t1 hx hc
theorem k_law_sunder (w : World) (mean : ExcName → Option Value) (mg mb : Str → Option Value) (x : Str) (t : Tok) (hx : x.length ≤ 900) :
    CL 2 16 w mean mg mb 42 [.str x t] (fun _ => .bool (plainS x)) := by rw [← eqS2]; exact c_law_sunder w mean mg mb x t hx
theorem k_law_private (w : World) (mean : ExcName → Option Value) (mg mb : Str → Option Value) (c x : Str) (t t1 : Tok) (hx : x.length ≤ 900) (hc : c.length ≤ 900) :
    CL 2 16 w mean mg mb 49 [.str c t1, .str x t] (fun _ => .bool (plainP (Str.ofString "_" ++ c ++ Str.ofString "__") x)) := by rw [← eqP2]; exact c_law_private w mean mg mb c x t t1 hx hc
section
variable {prog : Program} {w : World} {A : Around} {h₀ : Heap} {L : Addr} {m : Str → Option Value} {env : Env} {elt : Expr} {x : Str} {scope : Scope} {cl : List (Str × Addr)} {s₁ : Shared} {Fin : Shared → List Value → List (Addr × Obj) → Prop} {news : List (Addr × Obj)}
theorem four_srcQ {z : Str} (mark : XMark z) {ax : Addr} {a b c d : Str} {ta tb tc td : Tok} {k : Nat} (hh : A.handled = none) (F : Fr h₀ L s₁.heap m) (N : News h₀ L s₁.heap news)
    (hm : (ax, ({ cls := .type "list", data := .seq #[.str a ta, .str b tb, .str c tc, .str d td] k } : Obj)) ∈ news)
    (turn : ∀ (s₂ : Heap) k t I oI C oC D m₂ ys h tk (E' : Value → Shared → Prop), k ∈ [a, b, c, d] → LCg.NsObj oC m₂ → m₂ x = some (.str k t) → Fr h₀ L h m → News h₀ L h ((I, oI) :: (C, oC) :: (D, LCg.lst ys) :: news) →
      wpAny (model prog w) A (eval elt (compEnvC scope cl C env)) (StrEnd h₀ L m ((I, oI) :: (C, oC) :: (D, LCg.lst ys) :: news) { heap := h, gens := s₁.gens, drawn := s₁.drawn, toks := tk, os := s₁.os } (txtB (plainP (Str.ofString "_" ++ k ++ Str.ofString "__") z))) E' { heap := h, gens := s₁.gens, drawn := s₁.drawn, toks := tk, os := s₁.os })
    (fin : ∀ s₂ t0 t1 t2 t3, Fin { s₁ with heap := s₂ } [.str (txtB (plainP (Str.ofString "_" ++ a ++ Str.ofString "__") z)) t0, .str (txtB (plainP (Str.ofString "_" ++ b ++ Str.ofString "__") z)) t1, .str (txtB (plainP (Str.ofString "_" ++ c ++ Str.ofString "__") z)) t2, .str (txtB (plainP (Str.ofString "_" ++ d ++ Str.ofString "__") z)) t3] news) :
    LCg.CompSrc prog w A h₀ L m env elt x scope cl Fin (.ref ax) s₁ := four_src (fun k => txtB (plainP (Str.ofString "_" ++ k ++ Str.ofString "__") z)) hh F N hm turn fin
end
section
variable {M : Model} {A : Around} {E : Value → Shared → Prop} {s : Shared} {h₀ : Heap} {L : Addr} {m : Str → Option Value} {news : List (Addr × Obj)} {Q : Value → Shared → Prop}
theorem cut_D {z : Str} {t : Sem Value} (mark : XMark z) (F : Fr h₀ L s.heap m) (N : News h₀ L s.heap news) (h1 : wpAny M A t (BoolEnd h₀ L m news s (isDunder z)) E s)
    (h2 : ∀ h' tk', Fr h₀ L h' m → News h₀ L h' news → Q (.bool (isDunder z)) { s with heap := h', toks := tk' }) : wpAny M A t Q E s := cut_bool _ h1 h2
end
section
variable {x : Str}
theorem dun_1 (h1 : (Txt.slice x none (some 2) == Str.ofString "__") = true) : (Txt.slice x (some (-2)) none == Str.ofString "__") = isDunder x := by
  rw [← eqD, h1]; rfl
theorem dun_2 (h1 : (Txt.slice x none (some 2) == Str.ofString "__") = false) : (Txt.slice x none (some 2) == Str.ofString "__") = isDunder x := by
  rw [← eqD, h1]; rfl
end
theorem ne_same {prog : Program} {w : World} {A : Around} {E : Value → Shared → Prop} {s : Shared} {a : Str} {t u : Tok} {Q : Value → Shared → Prop} (h : Q (.bool false) s) : wpAny (model prog w) A (compareOp .NotEq (.str a t) (.str a u)) Q E s := by
  refine PyProof.Rows.ne_str ?_
  rw [show (a != a) = false by simp]
  exact h
theorem ok_txt (b : Bool) : PyData.strOk (txtB b) = true := by cases b <;> decide +kernel
theorem reads5 {h₀ h : Heap} {L a : Addr} {news : List (Addr × Obj)} {k : Nat} {x0 x1 x2 x3 x4 : Str} {u0 u1 u2 u3 u4 : Tok} (N : News h₀ L h news)
    (hm : (a, W.listOf #[.str x0 u0, .str x1 u1, .str x2 u2, .str x3 u3, .str x4 u4] k) ∈ news) : Reads h (.ref a) (.list [.str x0, .str x1, .str x2, .str x3, .str x4]) (a :: ([] ++ ([] ++ ([] ++ ([] ++ ([] ++ [])))))) :=
  Reads.list (N.get hm) rfl rfl (.cons (.str _ _) (.cons (.str _ _) (.cons (.str _ _) (.cons (.str _ _) (.cons (.str _ _) .nil)))))
theorem eq_five {prog : Program} {w : World} {A : Around} {E : Value → Shared → Prop} {s : Shared} {h₀ : Heap} {L : Addr} {news : List (Addr × Obj)} {l1 l2 a b r : Addr} {k1 k2 ka kb kr : Nat} {x0 x1 x2 x3 x4 : Str} {u0 u1 u2 u3 u4 v0 v1 v2 v3 v4 w0 w1 w2 w3 w4 : Tok} {Q : Value → Shared → Prop}
    (N : News h₀ L s.heap news) (hu : A.units + 64 < cLine) (o0 : PyData.strOk x0 = true) (o1 : PyData.strOk x1 = true) (o2 : PyData.strOk x2 = true) (o3 : PyData.strOk x3 = true) (o4 : PyData.strOk x4 = true)
    (m1 : (l1, W.listOf #[.ref a, .ref b] k1) ∈ news) (m2 : (l2, W.listOf #[.ref r, .ref r] k2) ∈ news)
    (ma : (a, W.listOf #[.str x0 u0, .str x1 u1, .str x2 u2, .str x3 u3, .str x4 u4] ka) ∈ news)
    (mb : (b, W.listOf #[.str x0 v0, .str x1 v1, .str x2 v2, .str x3 v3, .str x4 v4] kb) ∈ news)
    (mr : (r, W.listOf #[.str x0 w0, .str x1 w1, .str x2 w2, .str x3 w3, .str x4 w4] kr) ∈ news)
    (h : Q (.bool true) s) : wpAny (model prog w) A (compareOp .Eq (.ref l1) (.ref l2)) Q E s := by
  have sh : PySem.SeqAt.shaped (.list [.list [.str x0, .str x1, .str x2, .str x3, .str x4], .list [.str x0, .str x1, .str x2, .str x3, .str x4]]) = true := by
    simp [PySem.SeqAt.shaped, PyData.canLay0, PyData.canLayAll0, PyData.depth, PyData.depthAll, o0, o1, o2, o3, o4]
  refine eq_dataH_same (Reads.list (N.get m1) rfl rfl (.cons (reads5 N ma) (.cons (reads5 N mb) .nil))) (Reads.list (N.get m2) rfl rfl (.cons (reads5 N mr) (.cons (reads5 N mr) .nil))) sh sh hu ?_ ?_
  · simp [PySem.SeqAt.noMix, PySem.SeqAt.noMixAll]
  · have e : Spec.same (.list [.list [.str x0, .str x1, .str x2, .str x3, .str x4], .list [.str x0, .str x1, .str x2, .str x3, .str x4]]) (.list [.list [.str x0, .str x1, .str x2, .str x3, .str x4], .list [.str x0, .str x1, .str x2, .str x3, .str x4]]) = true := by
      simp [Spec.same, Spec.sameAll]
    rw [e]; exact h
theorem mul_two {prog : Program} {w : World} {A : Around} {E : Value → Shared → Prop} {s : Shared} {h₀ : Heap} {L : Addr} {m : Str → Option Value} {news : List (Addr × Obj)} {l r : Addr} {k : Nat} {u : Tok} {Q : Value → Shared → Prop}
    (F : Fr h₀ L s.heap m) (N : News h₀ L s.heap news) (hm : (l, W.listOf #[.ref r] k) ∈ news)
    (h : ∀ D h', Fr h₀ L h' m → News h₀ L h' ((D, W.listOf #[.ref r, .ref r] 0) :: news) → Q (.ref D) { s with heap := h' }) :
    wpAny (model prog w) A (binaryOp .Mult (.ref l) (.int 2 u)) Q E s :=
  mul_list F N (N.get hm) (by decide) (by decide) (by show 1 * Int.toNat 2 ≤ 2 ^ 24; decide) fun h' F' N' => h _ h' F' N'
local macro_rules | `(tactic| walk_at "compareOp Eq ref ref") => `(tactic| (k_here; (with_reducible show wpAny _ _ (compareOp CmpOp.Eq (Value.ref _) (Value.ref _)) _ _ _); k_dflt (refine' eq_five ?k1 ?ku ?o0 ?o1 ?o2 ?o3 ?o4 ?m1 ?m2 ?ma ?mb ?mr ?_; (case k1 => k_asm); (case m1 => repeat' (first | exact List.Mem.head _ | refine' List.Mem.tail _ ?_)); (case m2 => repeat' (first | exact List.Mem.head _ | refine' List.Mem.tail _ ?_)); (case ma => repeat' (first | exact List.Mem.head _ | refine' List.Mem.tail _ ?_)); (case mb => repeat' (first | exact List.Mem.head _ | refine' List.Mem.tail _ ?_)); (case mr => repeat' (first | exact List.Mem.head _ | refine' List.Mem.tail _ ?_)); (case o0 => exact ok_txt _); (case o1 => exact ok_txt _); (case o2 => exact ok_txt _); (case o3 => exact ok_txt _); (case o4 => exact ok_txt _); (case ku => ktr_units))))
local macro_rules | `(tactic| walk_at "binaryOp Mult ref int") => `(tactic| (k_here; (with_reducible show wpAny _ _ (binaryOp Operator.Mult (Value.ref _) (Value.int _ _)) _ _ _); k_dflt (refine' mul_two ?k1 ?k2 ?k3 ?_; (case k1 => k_asm); (case k2 => k_asm); (case k3 => repeat' (first | assumption | exact List.Mem.head _ | refine' List.Mem.tail _ ?_)); (intro D' h' F' N'; try dsimp only))))
local macro_rules | `(tactic| size_fits) => `(tactic| ((with_reducible show PySem.Str.length _ ≤ _); (try rw [PySem.sizeLine_eq]); (try simp only [Str.length_append]); (have q0 := len_0); (have qe := len_e); (have q1 := len_1); (have q2 := len_2); (have q3 := len_3); (have q4 := len_4); (have qa := len_a); (have qb := len_b); omega))
local macro_rules | `(tactic| k_all) => `(tactic| exact all_ne (by assumption) (by omega))
local macro_rules | `(tactic| walk_at "exec Assign cons ListComp") => `(tactic| (k_here; k_dflt (refine LCg.Assign_ListComp_U (F₀ := by k_asm) (by rfl) (by with_unfolding_all rfl) (by with_unfolding_all rfl) (by decide) (by rfl) (by decide) (by rfl) (by rfl) (by rfl) ?_)))
local macro_rules | `(tactic| walk_at "eval ListComp") => `(tactic| (k_here; k_dflt (refine LCg.ListComp_U (F₀ := by k_asm) (by with_unfolding_all rfl) (by decide) (by rfl) (by decide) (by rfl) ?_)))
local macro_rules | `(tactic| walk_at "StrEnd") => `(tactic| (k_dflt (refine' StrEnd.intro ?k1 ?k2; (case k1 => k_asm); (case k2 => k_asm))))
local macro_rules | `(tactic| walk_at "BoolEnd") => `(tactic| (k_dflt (refine' BoolEnd.intro ?k0 ?k1 ?k2; (case k1 => k_asm); (case k2 => (first | k_asm | exact drop1 (by k_asm) | exact drop2 (by k_asm))); (case k0 => (with_reducible first | exact dun_1 (by assumption) | exact dun_2 (by assumption))))))
local macro_rules | `(tactic| walk_at "eval BoolOp") => `(tactic| (k_here; (first
  | (with_reducible show wpAny _ _ (eval (Expr.BoolOp _ [_, _] _) (envOfC _ _ _ _ _)) _ _ _; (fail_if_success (with_reducible show wpAny _ _ _ (BoolEnd _ _ _ _ _ _) _ _)); (k_dflt (refine' cut_D ?k0 ?k1 ?k2 ?_ ?_)); (case k0 => assumption); (case k1 => k_asm); (case k2 => k_asm); rotate_left; (intro h' tk' F' N'; try dsimp only); rotate_right))))
local macro_rules | `(tactic| walk_at "compareOp NotEq str str") => `(tactic| (with_reducible refine ne_same ?_))
local macro_rules | `(tactic| walk_at "CompSrc") => `(tactic| (
  k_here
  k_dflt (first
    | (refine' four_srcQ (a := Str.ofString "") ?k0 ?k1 ?k2 ?k3 ?k4 ?_ ?_; (case k0 => assumption); (case k1 => exact rfl); (case k2 => k_asm); (case k3 => k_asm); (case k4 => repeat' (first | assumption | exact List.Mem.head _ | refine' List.Mem.tail _ ?_)); (intro s2' k' t' I' oI' C' oC' D' m' ys' h' tk' E' hk' hC' hx' F' N'; have hl' := own_len hk'; try dsimp only); rotate_left; (intro s2' u0' u1' u2' u3'; try dsimp only); rotate_right))))
local macro_rules | `(tactic| walk_at "call ref") => `(tactic| (
  k_here
  (with_reducible show wpAny _ _ (call (Value.ref 54) [Value.str _ _, Value.ref _]) _ _ _)
  refine' c_plain _ _ _ _ _ _ ?kx _ _ _ _ _ _ _ _ _ _ _ _ _ _ _ _ _ _ _ _ _ _ _ ?k1 ?k2 ?k3 ?k4 ?k5 ?kK ?kd ?ku ?km ?_
  (case k1 => k_dflt k_asm)
  (case k2 => k_dflt k_asm)
  (case k3 => k_dflt k_asm)
  (case k4 => k_dflt k_asm)
  (case k5 => k_dflt k_asm)
  (case kK => k_dflt (first | exact rfl | assumption))
  (case kd => ktr_room)
  (case ku => ktr_units)
  (case kx => omega)
  (case km => k_dflt (repeat' (first | assumption | exact List.Mem.head _ | refine' List.Mem.tail _ ?_)))
  intro r9 h9 tk9 v9 v90 v91 v92 v93 F9 N9
  (try dsimp only)
  (try k_fold)))
local macro_rules | `(tactic| walk_at "call ref") => `(tactic| (
  k_here
  (first
    | ((with_reducible show wpAny _ _ (call (Value.ref 35) [Value.str _ _]) _ _ _); refine' CL.use (c_dunder _ _ _ _ _ _ ?kx) ?k1 ?k2 ?k3 ?k4 ?k5 ?kK ?kd ?ku ?_)
    | ((with_reducible show wpAny _ _ (call (Value.ref 21) [Value.str _ _]) _ _ _); refine' CL.use (k_sunder _ _ _ _ _ _ ?kx) ?k1 ?k2 ?k3 ?k4 ?k5 ?kK ?kd ?ku ?_)
    | ((with_reducible show wpAny _ _ (call (Value.ref 42) [Value.str _ _]) _ _ _); refine' CL.use (k_law_sunder _ _ _ _ _ _ ?kx) ?k1 ?k2 ?k3 ?k4 ?k5 ?kK ?kd ?ku ?_)
    | ((with_reducible show wpAny _ _ (call (Value.ref 28) [Value.str _ _, Value.str _ _]) _ _ _); refine' CL.use (k_private _ _ _ _ _ _ _ _ ?kx ?ky) ?k1 ?k2 ?k3 ?k4 ?k5 ?kK ?kd ?ku ?_)
    | ((with_reducible show wpAny _ _ (call (Value.ref 49) [Value.str _ _, Value.str _ _]) _ _ _); refine' CL.use (k_law_private _ _ _ _ _ _ _ _ ?kx ?ky) ?k1 ?k2 ?k3 ?k4 ?k5 ?kK ?kd ?ku ?_))
  (case k1 => k_dflt k_asm)
  (case k2 => k_dflt k_asm)
  (case k3 => k_dflt k_asm)
  (case k4 => k_dflt k_asm)
  (case k5 => k_dflt k_asm)
  (case kK => k_dflt (first | exact rfl | assumption))
  (case kd => ktr_room)
  (case ku => ktr_units)
  (case kx => omega)
  (try (case ky => omega))
  intro t9 h9 tk9 F9 N9
  (try dsimp only)
  (try k_fold)))
theorem c_right (w : World) (mean : ExcName → Option Value) (mg mb : Str → Option Value) (x : Str) (t : Tok) (hx : x.length ≤ 800) :
    CL 3 256 w mean mg mb 59 [.str x t] (fun _ => .bool true) := by
  unfold CL
  dsimp only
  w_top off
  k_fill
  intros; rename_i hret
  have hMark : XMark x := rfl
  refine wpAny_call ?_
  k_dflt (refine' code_defC ?k1 ?k2 ?k3 ?k4 ?k5 ?kA ?kF ?kK ?k6 ?k7 ?k8 ?k9 ?kB ?kD ?_ ?c2 ?c3 ?c4; (case kA => exact rfl); (case kF => exact rfl); (case kK => assumption); (case k1 => k_asm); (case k2 => k_asm); (case k3 => k_asm); (case k4 => k_asm); (case k5 => k_asm); (case k6 => k_is); (case k7 => k_is); (case k8 => ktr_room); (case k9 => exact BindsTo.of_eq rfl); (case kB => exact rfl); (case kD => decide +kernel); (case c2 => exact rfl); (case c3 => exact rfl); (case c4 => exact rfl); k_whole; intro g' L' h' tk' cells' FG' F' N' Y' B' X' T' l1; (try k_lt l1); k_cells Y'; (try simp only [List.cons_append, List.nil_append] at N'); (try dsimp only); (try k_lift B'); (try k_fold))
  k_steps
  (rename News _ _ _ _ => kN9)
  exact cb_retB hret rfl (by assumption) (cb_drop kN9 (fun p hp => by repeat (first | exact hp | refine List.Mem.tail _ ?_)))
end Mine
-- part OyN
namespace Mine
open PySem PySem.W PyProof.Rows PySem.Calls
set_option maxRecDepth 100000
set_option maxHeartbeats 2000000
section two
variable {prog : Program} {w : World} {A : Around} {R : Result → Shared → Prop} {s : Shared}
theorem turn_two0 (elt iter1 iter2 : PySem.Expr) (x y : Str) (px py : Pos) (scope : Scope) (pos : Pos) (it acc : Value) (env : Env) :
    compTurn (PySem.Expr.ListComp elt [⟨.Name x px, iter1, [], 0⟩, ⟨.Name y py, iter2, [], 0⟩] scope pos) 0 it acc env = (standAt iter1.pos >>= fun _ => pyNext it >>= fun r => match r with
      | none => pure (.done .next)
      | some v => letOwnedTupleGo (.Name x px) it v >>= fun _ => assign (.Name x px) env v >>= fun _ =>
        eval iter2 env >>= fun z => standAt iter2.pos >>= fun _ => foldedSetIterable iter2 env z >>= fun z => holding [z] (pyIter z) >>= fun it2 =>
          runOwn (.compStart (PySem.Expr.ListComp elt [⟨.Name x px, iter1, [], 0⟩, ⟨.Name y py, iter2, [], 0⟩] scope pos) 1 it2 acc env) env >>= fun _ =>
          again (.compLoop (PySem.Expr.ListComp elt [⟨.Name x px, iter1, [], 0⟩, ⟨.Name y py, iter2, [], 0⟩] scope pos) 0 it acc env)) := by rfl
theorem turn_two1 (elt iter1 iter2 : PySem.Expr) (x y : Str) (px py : Pos) (scope : Scope) (pos : Pos) (it acc : Value) (env : Env) :
    compTurn (PySem.Expr.ListComp elt [⟨.Name x px, iter1, [], 0⟩, ⟨.Name y py, iter2, [], 0⟩] scope pos) 1 it acc env = (standAt iter2.pos >>= fun _ => pyNext it >>= fun r => match r with
      | none => pure (.done .next)
      | some v => letOwnedTupleGo (.Name y py) it v >>= fun _ => assign (.Name y py) env v >>= fun _ =>
        (eval elt env >>= fun x => call (.builtin "list.append") [acc, x] >>= fun _ => pure ()) >>= fun _ =>
          again (.compLoop (PySem.Expr.ListComp elt [⟨.Name x px, iter1, [], 0⟩, ⟨.Name y py, iter2, [], 0⟩] scope pos) 1 it acc env)) := by rfl
theorem start_two1 {elt iter1 iter2 : PySem.Expr} {x y : Str} {px py : Pos} {scope : Scope} {pos : Pos} {it acc : Value} {env : Env}
    (h0 : codeAny (model prog w) A (.compLoop (PySem.Expr.ListComp elt [⟨.Name x px, iter1, [], 0⟩, ⟨.Name y py, iter2, [], 0⟩] scope pos) 1 it acc env) R s)
    (h : wpAny (model prog w) A (pyIter it) (fun it' s' => codeAny (model prog w) A (.compLoop (PySem.Expr.ListComp elt [⟨.Name x px, iter1, [], 0⟩, ⟨.Name y py, iter2, [], 0⟩] scope pos) 1 it' acc env) R s')
      (notedBy (model prog w) A env fun x s' => R (.error x) s') s) :
    codeAny (model prog w) A (.compStart (PySem.Expr.ListComp elt [⟨.Name x px, iter1, [], 0⟩, ⟨.Name y py, iter2, [], 0⟩] scope pos) 1 it acc env) R s := by
  refine codeAny_of_tree ?_
  show wpAny _ _ ((compStart (PySem.Expr.ListComp elt [⟨.Name x px, iter1, [], 0⟩, ⟨.Name y py, iter2, [], 0⟩] scope pos) 1 it acc env).onRaise (fun x => do noteFrame x env; standAt theWindowsPlace)) _ _ s
  refine wpAny_notedAt ?_
  unfold compStart
  show wpAny _ _ (ask >>= _) _ _ s
  refine wpAny_bind (wpAny_askSetting (wpAny_ite ?_))
  split
  · first
      | exact wpAny_bind (wpAny_pure (wpAny_pure (And.intro rfl h0)))
      | exact wpAny_pure (And.intro rfl h0)
  · first
      | exact wpAny_bind (wpAny_rule (wpAny_bind (wpAny_standAt (wpAny_bind (wpAny_mono h (fun it' s' h' => wpAny_pure (And.intro rfl h')) fun _ _ x => x)))))
      | (refine wpAny_bind (wpAny_rule ?_); show wpAny _ _ (standAt iter2.pos >>= _) _ _ s; exact wpAny_bind (wpAny_standAt (wpAny_bind (wpAny_mono h (fun it' s' h' => wpAny_pure (And.intro rfl h')) fun _ _ x => x))))
theorem loop_two1 {elt iter1 iter2 : PySem.Expr} {x y : Str} {px py : Pos} {scope : Scope} {pos : Pos} {it acc : Value} {env : Env} (I : Nat → Shared → Prop)
    (turn : ∀ n s, I n s → wpAny (model prog w) A (pyNext it) (fun r s₁ => match r with
      | none => R (.ok .next) s₁
      | some v => wpAny (model prog w) A (assign (.Name y py) env v) (fun _ s₂ => wpAny (model prog w) A (eval elt env) (fun x s₃ =>
          wpAny (model prog w) A (call (.builtin "list.append") [acc, x]) (fun _ s₄ => ∃ m, m < n ∧ I m s₄) (notedBy (model prog w) A env fun e s' => R (.error e) s') s₃)
          (notedBy (model prog w) A env fun e s' => R (.error e) s') s₂) (notedBy (model prog w) A env fun e s' => R (.error e) s') s₁) (notedBy (model prog w) A env fun e s' => R (.error e) s') s)
    (n : Nat) (h : I n s) :
    codeAny (model prog w) A (.compLoop (PySem.Expr.ListComp elt [⟨.Name x px, iter1, [], 0⟩, ⟨.Name y py, iter2, [], 0⟩] scope pos) 1 it acc env) R s := by
  refine codeAny_loop rfl I (fun n s hI => ?_) n h
  show wpAny _ A ((compTurn (PySem.Expr.ListComp elt [⟨.Name x px, iter1, [], 0⟩, ⟨.Name y py, iter2, [], 0⟩] scope pos) 1 it acc env).onRaise (fun x => do noteFrame x env; theTreesLotGoes x)) _ _ s
  refine wpAny_noted ?_
  rw [turn_two1]
  refine wpAny_bind (wpAny_standAt (wpAny_bind (wpAny_mono (turn n s hI) (fun r s₁ h₁ => ?_) fun _ _ h' => h')))
  cases r with
  | none => exact wpAny_pure h₁
  | some v =>
    refine wpAny_bind (wpAny_of_eq (by rfl : letOwnedTupleGo (.Name y py) it v = pure ()) ?_)
    exact wpAny_bind (wpAny_mono h₁ (fun _ s₂ h₂ => wpAny_bind (wpAny_bind (wpAny_mono h₂ (fun x s₃ h₃ => wpAny_bind (wpAny_mono h₃
      (fun _ s₄ h₄ => wpAny_pure (wpAny_pure ⟨rfl, h₄⟩)) fun _ _ h' => h')) fun _ _ h' => h'))) fun _ _ h' => h')
theorem loop_two0 {elt iter1 iter2 : PySem.Expr} {x y : Str} {px py : Pos} {scope : Scope} {pos : Pos} {it acc : Value} {env : Env} (I : Nat → Shared → Prop)
    (turn : ∀ n s, I n s → wpAny (model prog w) A (pyNext it) (fun r s₁ => match r with
      | none => R (.ok .next) s₁
      | some v => wpAny (model prog w) A (assign (.Name x px) env v) (fun _ s₂ => wpAny (model prog w) A (eval iter2 env) (fun z s₃ =>
          wpAny (model prog w) A (pyIter z) (fun it2 s₄ =>
            codeAny (model prog w) (A.mark none) (.compStart (PySem.Expr.ListComp elt [⟨.Name x px, iter1, [], 0⟩, ⟨.Name y py, iter2, [], 0⟩] scope pos) 1 it2 acc env) (fun r s₅ => match r with
              | .ok _ => ∃ m, m < n ∧ I m s₅
              | .error e => cameBackBy (model prog w) A env (notedBy (model prog w) A env fun e s' => R (.error e) s') e s₅) s₄) (notedBy (model prog w) A env fun e s' => R (.error e) s') s₃)
          (notedBy (model prog w) A env fun e s' => R (.error e) s') s₂) (notedBy (model prog w) A env fun e s' => R (.error e) s') s₁) (notedBy (model prog w) A env fun e s' => R (.error e) s') s)
    (hs : ∀ z, foldedSetIterable iter2 env z = pure z) (n : Nat) (h : I n s) :
    codeAny (model prog w) A (.compLoop (PySem.Expr.ListComp elt [⟨.Name x px, iter1, [], 0⟩, ⟨.Name y py, iter2, [], 0⟩] scope pos) 0 it acc env) R s := by
  refine codeAny_loop rfl I (fun n s hI => ?_) n h
  show wpAny _ A ((compTurn (PySem.Expr.ListComp elt [⟨.Name x px, iter1, [], 0⟩, ⟨.Name y py, iter2, [], 0⟩] scope pos) 0 it acc env).onRaise (fun x => do noteFrame x env; theTreesLotGoes x)) _ _ s
  refine wpAny_noted ?_
  rw [turn_two0]
  refine wpAny_bind (wpAny_standAt (wpAny_bind (wpAny_mono (turn n s hI) (fun r s₁ h₁ => ?_) fun _ _ h' => h')))
  cases r with
  | none => exact wpAny_pure h₁
  | some v =>
    refine wpAny_bind (wpAny_of_eq (by rfl : letOwnedTupleGo (.Name x px) it v = pure ()) ?_)
    refine wpAny_bind (wpAny_mono h₁ (fun _ s₂ h₂ => wpAny_bind (wpAny_mono h₂ (fun z s₃ h₃ => wpAny_bind (wpAny_standAt (wpAny_bind (wpAny_of_eq (hs z) ?_)))) fun _ _ h' => h')) fun _ _ h' => h')
    refine wpAny_bind (wpAny_holding (wpAny_mono h₃ (fun it2 s₄ h₄ => wpAny_bind (wpAny_runOwn (codeAny_mono h₄ fun r s₅ h₅ => ?_))) fun _ _ h' => h'))
    cases r with
    | ok f => exact wpAny_pure ⟨rfl, h₅⟩
    | error e => exact h₅
end two
end Mine
-- part OyO
namespace Mine
open PySem PySem.W PyProof.Rows PySem.Calls
set_option maxRecDepth 100000
set_option maxHeartbeats 2000000
def ValEnd (h₀ : Heap) (L : Addr) (m : Str → Option Value) (nw : List (Addr × Obj)) (s : Shared) (P : Value → Prop) (y : Value) (s' : Shared) : Prop :=
  ∃ h' tk', P y ∧ s' = { s with heap := h', toks := tk' } ∧ Fr h₀ L h' m ∧ News h₀ L h' nw
/-- the comprehension's own three objects lie apart from one another, from the frame and from the ledger -/
def Sep (h₀ : Heap) (L I C D : Addr) (news : List (Addr × Obj)) : Prop :=
  I ≠ C ∧ I ≠ D ∧ C ≠ D ∧ L ≠ I ∧ L ≠ C ∧ L ≠ D ∧ h₀.get? I = none ∧ h₀.get? C = none ∧ h₀.get? D = none ∧ ∀ p ∈ news, p.1 ≠ I ∧ p.1 ≠ C ∧ p.1 ≠ D
section
variable {h₀ : Heap} {L I C D : Addr} {news : List (Addr × Obj)}
theorem Sep.ic (h : Sep h₀ L I C D news) : I ≠ C := h.1
theorem Sep.idd (h : Sep h₀ L I C D news) : I ≠ D := h.2.1
theorem Sep.cd (h : Sep h₀ L I C D news) : C ≠ D := h.2.2.1
theorem Sep.li (h : Sep h₀ L I C D news) : L ≠ I := h.2.2.2.1
theorem Sep.lc (h : Sep h₀ L I C D news) : L ≠ C := h.2.2.2.2.1
theorem Sep.ld (h : Sep h₀ L I C D news) : L ≠ D := h.2.2.2.2.2.1
theorem Sep.ni (h : Sep h₀ L I C D news) : h₀.get? I = none := h.2.2.2.2.2.2.1
theorem Sep.nc (h : Sep h₀ L I C D news) : h₀.get? C = none := h.2.2.2.2.2.2.2.1
theorem Sep.nd (h : Sep h₀ L I C D news) : h₀.get? D = none := h.2.2.2.2.2.2.2.2.1
theorem Sep.off (h : Sep h₀ L I C D news) : ∀ p ∈ news, p.1 ≠ I ∧ p.1 ≠ C ∧ p.1 ≠ D := h.2.2.2.2.2.2.2.2.2
end
section two
variable {prog : Program} {w : World} {A : Around} {R : Result → Shared → Prop} {s : Shared} {h₀ : Heap} {L : Addr} {m : Str → Option Value} {env : Env} {news : List (Addr × Obj)} {P : Value → Prop}
  {elt iter1 iter2 : PySem.Expr} {x y : Str} {px py : Pos} {scope : Scope} {cl : List (Str × Addr)} {pos : Pos}
theorem inner_loop {J I C D : Addr} {oI : Obj} {a : Int} {c B : Nat} {vx : Value} {ys₀ : List Value} {m₀ : Str → Option Value}
    (hh : A.handled = none) (hxy : x ≠ y) (hy : scope.names.lookup y = some .local) (hkind : scope.kind = .function)
    (sep : Sep h₀ L I C D news) (jI : J ≠ I) (jC : J ≠ C) (jD : J ≠ D) (jL : L ≠ J) (j0 : h₀.get? J = none) (joff : ∀ p ∈ news, p.1 ≠ J)
    (turn2 : ∀ oJ oC m₂ ys h tk (i : Nat) u (E' : Value → Shared → Prop), i < c → LCg.NsObj oC m₂ → m₂ x = some vx → m₂ y = some (.int (a + (i : Int)) u) → Fr h₀ L h m →
      News h₀ L h ((J, oJ) :: (I, oI) :: (C, oC) :: (D, LCg.lst ys) :: news) →
      wpAny (model prog w) A (eval elt (compEnvC scope cl C env)) (ValEnd h₀ L m ((J, oJ) :: (I, oI) :: (C, oC) :: (D, LCg.lst ys) :: news) { s with heap := h, toks := tk } P) E' { s with heap := h, toks := tk })
    (st : IsRangeIter s.heap J a (c : Int) 1) (F : Fr h₀ L s.heap m) (Ns : s.heap.Ns C m₀) (hx₀ : m₀ x = some vx) (N : News h₀ L s.heap ((I, oI) :: (D, LCg.lst ys₀) :: news))
    (hP : ∀ v ∈ ys₀, P v) (hlen : ys₀.length + c ≤ B) (hB : B ≤ sizeLine)
    (hR : ∀ h tk ys m', Fr h₀ L h m → h.Ns C m' → News h₀ L h ((I, oI) :: (D, LCg.lst ys) :: news) → (∀ v ∈ ys, P v) → ys.length = ys₀.length + c → R (.ok .next) { s with heap := h, toks := tk }) :
    codeAny (model prog w) A (.compLoop (PySem.Expr.ListComp elt [⟨.Name x px, iter1, [], 0⟩, ⟨.Name y py, iter2, [], 0⟩] scope pos) 1 (.ref J) (.ref D) (compEnvC scope cl C env)) R s := by
  have W := LCg.range_walks (prog := prog) (w := w) (A := A) (I := J) hh a c
  refine loop_two1
    (fun k s' => ∃ h' tk i ys m', s' = { s with heap := h', toks := tk } ∧ i ≤ c ∧ k = c + 1 - i ∧ ys.length = ys₀.length + i ∧ IsRangeIter h' J (a + (i : Nat) * 1) ((c : Int) - (i : Nat)) 1 ∧ Fr h₀ L h' m ∧ h'.Ns C m' ∧ m' x = some vx ∧
      News h₀ L h' ((I, oI) :: (D, LCg.lst ys) :: news) ∧ (∀ v ∈ ys, P v)) ?_ (c + 1)
    ⟨s.heap, s.toks, 0, ys₀, m₀, rfl, Nat.zero_le _, rfl, rfl, by simpa using st, F, Ns, hx₀, N, hP⟩
  rintro k s' ⟨h', tk, i, ys, m', rfl, hi, rfl, hyl, hst', F', hn', hx', N', hP'⟩
  have offAll : ∀ p ∈ (I, oI) :: (D, LCg.lst ys) :: news, p.1 ≠ J := fun p hp => by
    rcases List.mem_cons.mp hp with rfl | hp
    · exact Ne.symm jI
    · rcases List.mem_cons.mp hp with rfl | hp
      · exact Ne.symm jD
      · exact joff p hp
  by_cases hlt : i < c
  · refine W.item i _ _ _ hlt hst' fun v h₂ tk₂ hPv hst₂ hk₂ => ?_
    obtain ⟨u, rfl⟩ := hPv
    have hn₂ : h₂.Ns C m' := hn'.at' fun o e => hk₂ _ o (by simpa using Ne.symm jC) e
    refine wpAny_assign_Name (wpAny_storeName_local (lookup_relabel_local hy) hn₂ (fun h₃ hn₃ hs₃ => ?_) (by simp [compEnvC, relabel, hkind]))
    have F₂ : Fr h₀ L h₂ m := LCg.fr_but F' hk₂ jL j0
    have N₂ := LCg.news_but N' hk₂ offAll
    have F₃ : Fr h₀ L h₃ m := F₂.change hs₃ (Ne.symm sep.lc) sep.nc
    have hJ₂ : h₂.get? J = some _ := hst₂
    have hJ₃ := hs₃.extBut J _ jC hJ₂
    obtain ⟨oC, heC, hoC⟩ := LCg.ns_obj hn₃
    have N₃ : ∀ p ∈ (I, oI) :: (D, LCg.lst ys) :: news, h₃.get? p.1 = some p.2 ∧ p.1 ≠ L ∧ h₀.get? p.1 = none := fun p hp => by
      refine ⟨hs₃.extBut _ _ ?_ (N₂ p hp).1, (N₂ p hp).2⟩
      rcases List.mem_cons.mp hp with rfl | hp
      · exact sep.ic
      · rcases List.mem_cons.mp hp with rfl | hp
        · exact Ne.symm sep.cd
        · exact (sep.off p hp).2.1
    have N₄ : News h₀ L h₃ ((J, _) :: (I, oI) :: (C, oC) :: (D, LCg.lst ys) :: news) := fun p hp => by
      rcases List.mem_cons.mp hp with rfl | hp
      · exact ⟨hJ₃, Ne.symm jL, j0⟩
      · rcases List.mem_cons.mp hp with rfl | hp
        · exact N₃ _ (List.Mem.head _)
        · rcases List.mem_cons.mp hp with rfl | hp
          · exact ⟨heC, Ne.symm sep.lc, sep.nc⟩
          · exact N₃ _ (List.Mem.tail _ hp)
    refine wpAny_mono (turn2 _ oC _ ys h₃ _ i u _ hlt hoC (by simp [hxy, hx']) (by simp) F₃ N₄) (fun v s₄ hv => ?_) fun _ _ e => e
    obtain ⟨h₄, tk₄, hPv, rfl, F₄, N₅⟩ := hv
    have zJ := (N₅ _ (List.Mem.head _)).1
    have zC := (N₅ (C, oC) (List.Mem.tail _ (List.Mem.tail _ (List.Mem.head _)))).1
    have zD := (N₅ (D, LCg.lst ys) (List.Mem.tail _ (List.Mem.tail _ (List.Mem.tail _ (List.Mem.head _))))).1
    have zI := N₅ (I, oI) (List.Mem.tail _ (List.Mem.head _))
    refine append_at (hsz := by show ys.toArray.size ≤ sizeLine; rw [List.size_toArray]; omega) zD fun h₅ hs₅ hD₅ => ?_
    have hJ₅ := hs₅.extBut J _ jD zJ
    refine ⟨c + 1 - (i + 1), by omega, h₅, tk₄, i + 1, ys ++ [v], _, rfl, hlt, rfl, by rw [List.length_append, List.length_singleton, hyl]; omega, ?_, F₄.change hs₅ (Ne.symm sep.ld) sep.nd,
      (hoC.ns zC).sameBut hs₅ sep.cd, by simp [hxy, hx'], fun p hp => ?_, fun v' hv' => ?_⟩
    · exact hJ₅
    · rcases List.mem_cons.mp hp with rfl | hp
      · exact ⟨hs₅.extBut _ _ sep.idd zI.1, zI.2⟩
      · rcases List.mem_cons.mp hp with rfl | hp
        · exact ⟨hD₅.trans (congrArg some (LCg.lst_snoc ys v)), Ne.symm sep.ld, sep.nd⟩
        · have z := N₅ p (List.Mem.tail _ (List.Mem.tail _ (List.Mem.tail _ (List.Mem.tail _ hp))))
          exact ⟨hs₅.extBut _ _ (sep.off p hp).2.2 z.1, z.2⟩
    · rcases List.mem_append.mp hv' with h | h
      · exact hP' v' h
      · rw [List.mem_singleton.mp h]; exact hPv
  · obtain rfl : i = c := Nat.le_antisymm hi (Nat.not_lt.mp hlt)
    refine W.done _ _ _ hst' fun h₂ tk₂ hk₂ => ?_
    exact hR h₂ tk₂ ys m' (LCg.fr_but F' hk₂ jL j0) (hn'.at' fun o e => hk₂ _ o (by simpa using Ne.symm jC) e) (LCg.news_but N' hk₂ offAll) hP' hyl
end two
end Mine
-- part OyQ
namespace Mine
open PySem PySem.W PyProof.Rows PySem.Calls
set_option maxRecDepth 100000
set_option maxHeartbeats 2000000
def RngEnd (h₀ : Heap) (L : Addr) (m : Str → Option Value) (nw : List (Addr × Obj)) (s : Shared) (N : Nat) (v : Value) (s' : Shared) : Prop :=
  ∃ r a b t u z h' tk', ∃ c : Nat, v = .ref r ∧ s' = { s with heap := h', toks := tk' } ∧ Fr h₀ L h' m ∧ News h₀ L h' nw ∧ IsRange h' r a b 1 t u z ∧ Builtin.Range.small a b 1 = true ∧
    Builtin.Range.rangeSize a b 1 = (c : Int) ∧ 0 ≤ a ∧ a ≤ (N : Int) ∧ c ≤ N
section two
variable {prog : Program} {w : World} {A : Around} {E : Value → Shared → Prop} {h₀ : Heap} {L : Addr} {m : Str → Option Value} {env : Env} {news : List (Addr × Obj)} {P : Value → Prop}
  {elt iter1 iter2 : PySem.Expr} {x y : Str} {px py : Pos} {scope : Scope} {cl : List (Str × Addr)} {pos : Pos}
def TurnA (prog : Program) (w : World) (A : Around) (h₀ : Heap) (L : Addr) (m : Str → Option Value) (env : Env) (news : List (Addr × Obj)) (iter2 : PySem.Expr) (x : Str) (scope : Scope) (cl : List (Str × Addr)) (s : Shared) (n N : Nat) : Prop :=
  ∀ (k : Nat) t I oI C oC D m₂ ys h tk (E' : Value → Shared → Prop), k < n → LCg.NsObj oC m₂ → m₂ x = some (.int (k : Int) t) → Fr h₀ L h m → News h₀ L h ((I, oI) :: (C, oC) :: (D, LCg.lst ys) :: news) →
    wpAny (model prog w) A (eval iter2 (compEnvC scope cl C env)) (RngEnd h₀ L m ((I, oI) :: (C, oC) :: (D, LCg.lst ys) :: news) { s with heap := h, toks := tk } N) E' { s with heap := h, toks := tk }
def TurnB (prog : Program) (w : World) (A : Around) (h₀ : Heap) (L : Addr) (m : Str → Option Value) (env : Env) (news : List (Addr × Obj)) (elt : PySem.Expr) (x y : Str) (scope : Scope) (cl : List (Str × Addr)) (s : Shared) (P : Value → Prop) (n N : Nat) : Prop :=
  ∀ (k : Nat) t (j : Int) u J oJ I oI C oC D m₂ ys h tk (E' : Value → Shared → Prop), k < n → 0 ≤ j → j ≤ 2 * (N : Int) → LCg.NsObj oC m₂ → m₂ x = some (.int (k : Int) t) → m₂ y = some (.int j u) → Fr h₀ L h m →
    News h₀ L h ((J, oJ) :: (I, oI) :: (C, oC) :: (D, LCg.lst ys) :: news) →
    wpAny (model prog w) A (eval elt (compEnvC scope cl C env)) (ValEnd h₀ L m ((J, oJ) :: (I, oI) :: (C, oC) :: (D, LCg.lst ys) :: news) { s with heap := h, toks := tk } P) E' { s with heap := h, toks := tk }

theorem outer_block {s₂ : Shared} {I : Addr} {n N : Nat} {RR : Value → Addr → Result → Shared → Prop}
    (hh : A.handled = none) (hxy : x ≠ y) (hx : scope.names.lookup x = some .local) (hy : scope.names.lookup y = some .local) (hkind : scope.kind = .function) (hcell : ∀ y ∈ scope.names, y.2 ≠ .cell)
    (hs : ∀ C z, foldedSetIterable iter2 (compEnvC scope cl C env) z = pure z) (hsz : n * N ≤ sizeLine)
    (hst : IsRangeIter s₂.heap I 0 (n : Int) 1) (F : Fr h₀ L s₂.heap m) (N₀ : News h₀ L s₂.heap news) (hIL : L ≠ I) (hI₀ : h₀.get? I = none) (off : ∀ p ∈ news, p.1 ≠ I)
    (T1 : TurnA prog w A h₀ L m env news iter2 x scope cl s₂ n N) (T2 : TurnB prog w (A.mark none) h₀ L m env news elt x y scope cl s₂ P n N)
    (hRR : ∀ D C h tk m' ys, Fr h₀ L h m → News h₀ L h ((D, LCg.lst ys) :: news) → (∀ p ∈ news, p.1 ≠ D) → h.Ns C m' → h₀.get? C = none → h₀.get? D = none → C ≠ L → D ≠ L → C ≠ D → (∀ p ∈ news, p.1 ≠ C) → (∀ v ∈ ys, P v) → ys.length ≤ n * N →
      RR (.ref D) C (.ok .next) { s₂ with heap := h, toks := tk }) :
    wpAny (model prog w) A (newList []) (fun acc s₃ => wpAny (model prog w) A (newFunctionEnv scope env.globals cl [] env.qual none .none (some env)) (fun cenv s₄ =>
      codeAny (model prog w) A (.compStart (PySem.Expr.ListComp elt [⟨.Name x px, iter1, [], 0⟩, ⟨.Name y py, iter2, [], 0⟩] scope pos) 0 (.ref I) acc { cenv with scope := relabel scope env }) (RR acc cenv.locals) s₄) E s₃) E s₂ := by
  refine wpAny_newObj_type (wpAny_newFunctionEnv hcell (by intro y hy; simp at hy) (fun h₁ hns₁ hsb₁ => ?_) hkind)
  dsimp only at hns₁ hsb₁ ⊢
  generalize hH2 : s₂.heap.push { cls := .type "list", dict := none, data := .seq ([] : List Value).toArray } = H2 at hns₁ hsb₁ ⊢
  have W := LCg.range_walks (prog := prog) (w := w) (A := A) (I := I) hh 0 n
  have hC : H2.objs.size = s₂.heap.objs.size + 1 := by rw [← hH2, Heap.size_push]
  have hDC : s₂.heap.objs.size ≠ H2.objs.size := by rw [hC]; exact Nat.ne_of_lt (Nat.lt_succ_self _)
  have below : ∀ b, b < s₂.heap.objs.size → b ≠ H2.objs.size ∧ b ≠ s₂.heap.objs.size := fun b hb => ⟨by rw [hC]; exact Nat.ne_of_lt (Nat.lt_succ_of_lt hb), Nat.ne_of_lt hb⟩
  have hIs : s₂.heap.get? I = some _ := hst
  have hIlt : I < s₂.heap.objs.size := Heap.lt_size hIs
  have old : ∀ b o, s₂.heap.get? b = some o → h₁.get? b = some o := fun b o e => hsb₁.extBut b o (below b (Heap.lt_size e)).1 (Heap.get?_push_of_some _ (hH2 ▸ Heap.get?_push_of_some _ e))
  have hacc : h₁.get? s₂.heap.objs.size = some (LCg.lst []) := hsb₁.extBut _ _ hDC (Heap.get?_push_of_some _ (hH2 ▸ Heap.get?_push_size _ rfl))
  have hst₁ : IsRangeIter h₁ I 0 (n : Int) 1 := old _ _ hst
  have fresh : ∀ a, s₂.heap.objs.size ≤ a → s₂.heap.get? a = none := fun a ha => by
    cases e : s₂.heap.get? a with
    | none => rfl
    | some o' => exact absurd (Heap.lt_size e) (Nat.not_lt.mpr ha)
  have fresh₀ : ∀ a, s₂.heap.objs.size ≤ a → h₀.get? a = none := fun a ha => by
    cases e : h₀.get? a with
    | none => rfl
    | some o' => have := F.keep a o' e; rw [fresh a ha] at this; cases this
  have hD₀ : h₀.get? s₂.heap.objs.size = none := fresh₀ _ (Nat.le_refl _)
  have hC₀ : h₀.get? H2.objs.size = none := fresh₀ _ (by rw [hC]; exact Nat.le_succ _)
  have hLlt : L < s₂.heap.objs.size := F.ns.lt
  have sep : Sep h₀ L I H2.objs.size s₂.heap.objs.size news :=
    ⟨(below I hIlt).1, (below I hIlt).2, Ne.symm hDC, hIL, (below L hLlt).1, (below L hLlt).2, hI₀, hC₀, hD₀,
      fun p hp => ⟨off p hp, (below _ (Heap.lt_size (N₀ p hp).1)).1, (below _ (Heap.lt_size (N₀ p hp).1)).2⟩⟩
  have loop : ∀ s₃ : Shared, s₃ = { s₂ with heap := h₁, toks := s₂.toks + ([] : List (Str × Value)).length } →
      codeAny (model prog w) A (.compLoop (PySem.Expr.ListComp elt [⟨.Name x px, iter1, [], 0⟩, ⟨.Name y py, iter2, [], 0⟩] scope pos) 0 (.ref I) (.ref s₂.heap.objs.size) (compEnvC scope cl H2.objs.size env))
        (RR (.ref s₂.heap.objs.size) H2.objs.size) s₃ := by
    rintro s₃ rfl
    refine loop_two0
      (fun k s' => ∃ h' tk i ys m', s' = { s₂ with heap := h', toks := tk } ∧ i ≤ n ∧ k = n + 1 - i ∧ ys.length ≤ i * N ∧ IsRangeIter h' I (0 + (i : Nat) * 1) ((n : Int) - (i : Nat)) 1 ∧ Fr h₀ L h' m ∧ h'.Ns H2.objs.size m' ∧
        News h₀ L h' ((s₂.heap.objs.size, LCg.lst ys) :: news) ∧ (∀ v ∈ ys, P v)) ?_ (hs _) (n + 1)
      ⟨h₁, _, 0, [], _, rfl, Nat.zero_le _, rfl, by simp, by simpa using hst₁, F.keeps old, hns₁, fun p hp => ?_, fun v hv => by simp at hv⟩
    · rintro k s' ⟨h', tk, i, ys, m', rfl, hi, rfl, hyl, hst', F', hn', N', hP'⟩
      have offI : ∀ p ∈ (s₂.heap.objs.size, LCg.lst ys) :: news, p.1 ≠ I := fun p hp => by
        rcases List.mem_cons.mp hp with rfl | hp
        · exact Ne.symm sep.idd
        · exact off p hp
      by_cases hlt : i < n
      · refine W.item i _ _ _ hlt hst' fun v h₂ tk₂ hPv hst₂ hk₂ => ?_
        obtain ⟨t, rfl⟩ := hPv
        have hn₂ : h₂.Ns H2.objs.size m' := hn'.at' fun o e => hk₂ _ o (by simpa using Ne.symm sep.ic) e
        refine wpAny_assign_Name (wpAny_storeName_local (lookup_relabel_local hx) hn₂ (fun h₃ hn₃ hs₃ => ?_) (by simp [compEnvC, relabel, hkind]))
        have F₂ : Fr h₀ L h₂ m := LCg.fr_but F' hk₂ hIL hI₀
        have N₂ := LCg.news_but N' hk₂ offI
        have F₃ : Fr h₀ L h₃ m := F₂.change hs₃ (Ne.symm sep.lc) sep.nc
        have hI₂ : h₂.get? I = some _ := hst₂
        have hI₃ := hs₃.extBut I _ sep.ic hI₂
        obtain ⟨oC, heC, hoC⟩ := LCg.ns_obj hn₃
        have N₃ : News h₀ L h₃ ((I, _) :: (H2.objs.size, oC) :: (s₂.heap.objs.size, LCg.lst ys) :: news) := fun p hp => by
          rcases List.mem_cons.mp hp with rfl | hp
          · exact ⟨hI₃, Ne.symm hIL, hI₀⟩
          · rcases List.mem_cons.mp hp with rfl | hp
            · exact ⟨heC, Ne.symm sep.lc, sep.nc⟩
            · refine ⟨hs₃.extBut _ _ ?_ (N₂ p hp).1, (N₂ p hp).2⟩
              rcases List.mem_cons.mp hp with rfl | hp
              · exact hDC
              · exact (sep.off p hp).2.1
        refine wpAny_mono (T1 i t I _ H2.objs.size oC s₂.heap.objs.size _ ys h₃ _ _ hlt hoC (by simp) F₃ N₃) (fun z s₄ hz => ?_) fun _ _ e => e
        obtain ⟨r, a, b, t', u', z', h₄, tk₄, c, rfl, rfl, F₄, N₄, hr, hsm, hrs, ha0, haN, hcN⟩ := hz
        refine wpAny_pyIter_range hr hsm ?_
        rw [hrs]
        generalize hH5 : h₄.push { cls := .type "range_iterator", data := .fields #[rawInt a, rawInt (c : Int), rawInt 1] } = h₅
        have up : ∀ b o, h₄.get? b = some o → h₅.get? b = some o := fun b o e => hH5 ▸ Heap.get?_push_of_some _ e
        have hJ₅ : IsRangeIter h₅ h₄.objs.size a (c : Int) 1 := hH5 ▸ Heap.get?_push_size _ rfl
        have F₅ : Fr h₀ L h₅ m := F₄.keeps up
        have N₅ := N₄.grown up
        have ltJ : ∀ p ∈ (I, _) :: (H2.objs.size, oC) :: (s₂.heap.objs.size, LCg.lst ys) :: news, p.1 ≠ h₄.objs.size := fun p hp => Nat.ne_of_lt (Heap.lt_size (N₄ p hp).1)
        have zC := (N₅ (H2.objs.size, oC) (List.Mem.tail _ (List.Mem.head _))).1
        have inner : codeAny (model prog w) (A.mark none) (.compLoop (PySem.Expr.ListComp elt [⟨.Name x px, iter1, [], 0⟩, ⟨.Name y py, iter2, [], 0⟩] scope pos) 1 (.ref h₄.objs.size) (.ref s₂.heap.objs.size) (compEnvC scope cl H2.objs.size env))
            (fun r s₅ => match r with
              | .ok _ => ∃ k, k < n + 1 - i ∧ ∃ h' tk i ys m', s₅ = { s₂ with heap := h', toks := tk } ∧ i ≤ n ∧ k = n + 1 - i ∧ ys.length ≤ i * N ∧ IsRangeIter h' I (0 + (i : Nat) * 1) ((n : Int) - (i : Nat)) 1 ∧ Fr h₀ L h' m ∧ h'.Ns H2.objs.size m' ∧
                  News h₀ L h' ((s₂.heap.objs.size, LCg.lst ys) :: news) ∧ (∀ v ∈ ys, P v)
              | .error e => cameBackBy (model prog w) A (compEnvC scope cl H2.objs.size env) (notedBy (model prog w) A (compEnvC scope cl H2.objs.size env) fun e s' => RR (.ref s₂.heap.objs.size) H2.objs.size (.error e) s') e s₅)
            { s₂ with heap := h₅, toks := tk₄ } := by
          refine inner_loop (oI := { cls := .type "range_iterator", data := .fields #[rawInt (0 + ((i + 1 : Nat) : Int) * 1), rawInt ((n : Int) - ((i + 1 : Nat) : Int)), rawInt 1] }) (B := n * N) (vx := .int ((i : Nat) : Int) t) (by show (Option.none.or A.handled) = none; rw [hh]; rfl) hxy hy hkind sep (Ne.symm (ltJ _ (List.Mem.head _))) (Ne.symm (ltJ _ (List.Mem.tail _ (List.Mem.head _)))) (Ne.symm (ltJ _ (List.Mem.tail _ (List.Mem.tail _ (List.Mem.head _)))))
            (Nat.ne_of_lt F₄.ns.lt) (next_is_new F₄) (fun p hp => ltJ p (List.Mem.tail _ (List.Mem.tail _ (List.Mem.tail _ hp))))
            (fun oJ oC' m₂ ys' h tk i' u E' hi' hoC' hx' hy' F N => T2 i t (a + (i' : Int)) u _ oJ I _ _ oC' _ m₂ ys' h tk E' hlt (by omega) (by omega) hoC' hx' hy' F N)
            hJ₅ F₅ (hoC.ns zC) (by simp) (fun p hp => ?_) hP' ?_ hsz ?_
          · rcases List.mem_cons.mp hp with rfl | hp
            · exact N₅ _ (List.Mem.head _)
            · exact N₅ _ (List.Mem.tail _ (List.Mem.tail _ hp))
          · have e1 : (i + 1) * N ≤ n * N := Nat.mul_le_mul_right _ hlt
            rw [Nat.add_mul, Nat.one_mul] at e1
            omega
          · intro h tk ys' m'' F' hn'' N'' hP'' hl''
            refine ⟨n + 1 - (i + 1), by omega, h, tk, i + 1, ys', m'', rfl, hlt, rfl, ?_, ?_, F', hn'', fun p hp => N'' p (List.Mem.tail _ hp), hP''⟩
            · rw [Nat.add_mul, Nat.one_mul]; omega
            · exact (N'' _ (List.Mem.head _)).1
        exact start_two1 inner (wpAny_mono (LCg.range_walks (prog := prog) (w := w) (A := A.mark none) (I := h₄.objs.size) (by show (Option.none.or A.handled) = none; rw [hh]; rfl) a c |>.self 0 { s₂ with heap := h₅, toks := tk₄ } (fun v s' => v = .ref h₄.objs.size ∧ s' = { s₂ with heap := h₅, toks := tk₄ }) _ (by simpa using hJ₅) ⟨rfl, rfl⟩) (fun v s' hv => by obtain ⟨rfl, rfl⟩ := hv; exact inner) fun _ _ e => e)
      · obtain rfl : i = n := Nat.le_antisymm hi (Nat.not_lt.mp hlt)
        refine W.done _ _ _ hst' fun h₂ tk₂ hk₂ => ?_
        exact hRR _ _ h₂ tk₂ _ ys (LCg.fr_but F' hk₂ hIL hI₀) (LCg.news_but N' hk₂ offI) (fun p hp => (sep.off p hp).2.2) (hn'.at' fun o e => hk₂ _ o (by simpa using Ne.symm sep.ic) e) hC₀ hD₀ (Ne.symm sep.lc) (Ne.symm sep.ld) sep.cd (fun p hp => (sep.off p hp).2.1) hP' hyl
    · rcases List.mem_cons.mp hp with rfl | hp
      · exact ⟨hacc, Ne.symm sep.ld, hD₀⟩
      · exact ⟨old _ _ (N₀ p hp).1, (N₀ p hp).2⟩
  exact codeAny_compStart_list (loop _ rfl) (W.self 0 _ _ _ (by simpa using hst₁) (loop _ rfl))
end two
end Mine
-- part OyR
namespace Mine
open PySem PySem.W PyProof.Rows PySem.Calls
set_option maxRecDepth 100000
set_option maxHeartbeats 2000000
/-- what the first iterable of the two-clause comprehension must come to -/
def TwoSrc (prog : Program) (w : World) (A : Around) (h₀ : Heap) (L : Addr) (m : Str → Option Value) (env : Env) (elt iter2 : PySem.Expr) (x y : Str) (scope : Scope) (cl : List (Str × Addr)) (P : Value → Prop) (z : Str) (Q : Flow → Shared → Prop) (xv : Value) (s₁ : Shared) : Prop :=
  ∃ r b t u v news, ∃ n N : Nat, xv = .ref r ∧ A.handled = none ∧ Fr h₀ L s₁.heap m ∧ News h₀ L s₁.heap news ∧ IsRange s₁.heap r 0 b 1 t u v ∧ Builtin.Range.small 0 b 1 = true ∧ Builtin.Range.rangeSize 0 b 1 = (n : Int) ∧ n * N ≤ sizeLine ∧
    TurnA prog w A h₀ L m env news iter2 x scope cl s₁ n N ∧ TurnB prog w (A.mark none) h₀ L m env news elt x y scope cl s₁ P n N ∧
    ∀ D h tk ys, Fr h₀ L h (fun q => if q = z then some (.ref D) else m q) → News h₀ L h ((D, LCg.lst ys) :: news) → (∀ p ∈ news, p.1 ≠ D) → (∀ v ∈ ys, P v) → ys.length ≤ n * N → Q .next { s₁ with heap := h, toks := tk }
section two
variable {prog : Program} {w : World} {A : Around} {E : Value → Shared → Prop} {s : Shared} {h₀ : Heap} {L : Addr} {m : Str → Option Value} {env : Env} {P : Value → Prop}
  {elt iter1 iter2 : PySem.Expr} {x y : Str} {px py : Pos} {scope : Scope} {cl : List (Str × Addr)} {pos : Pos}
theorem Assign_two (P : Value → Prop) {z : Str} {pz spos : Pos} {Q : Flow → Shared → Prop} (F₀ : Fr h₀ L s.heap m) (hLe : env.locals = L)
    (hsw : swapsWith (PySem.Expr.ListComp elt [⟨.Name x px, iter1, [], 0⟩, ⟨.Name y py, iter2, [], 0⟩] scope pos) (some (.Name z pz)) spos.line env = pure true)
    (hclos : closureFor scope env = pure cl) (hcell : ∀ z ∈ scope.names, z.2 ≠ .cell) (hkind : scope.kind = .function)
    (hnames : ∀ z ∈ scope.names, z.2 = .local → scope.names.lookup z.1 = some .local) (hx : scope.names.lookup x = some .local) (hy : scope.names.lookup y = some .local) (hxy : x ≠ y)
    (hz : env.kindOf z = some .local) (hp : (env.scope.kind == .class || (env.scope.kind == .module && env.locals != env.globals)) = false)
    (hs2 : ∀ C q, foldedSetIterable iter2 (compEnvC scope cl C env) q = pure q)
    (hs : ∀ x, foldedSetIterable iter1 env x = pure x)
    (h : wpAny (model prog w) A (eval iter1 env) (TwoSrc prog w A h₀ L m env elt iter2 x y scope cl P z Q) E s) :
    wpAny (model prog w) A (exec (.Assign [.Name z pz] (PySem.Expr.ListComp elt [⟨.Name x px, iter1, [], 0⟩, ⟨.Name y py, iter2, [], 0⟩] scope pos) spos) env) Q E s := by
  subst hLe
  rw [exec_Assign_Name_used _ _ _ _ hsw]
  refine wpAny_bind (wpAny_standAt (wpAny_bind ?_))
  show wpAny _ A (do let _ ← comprehension (PySem.Expr.ListComp elt [⟨.Name x px, iter1, [], 0⟩, ⟨.Name y py, iter2, [], 0⟩] scope pos) scope env _ (newList []) false (eval iter1 env) (some (assign (.Name z pz) env))) _ _ s
  refine wpAny_bind (wpAny_mono (wpAny_comprehension_free (use := some (assign (.Name z pz) env)) (Q := fun _ s' => Q .next s') rfl hs hclos hkind hnames
    (wpAny_mono h (fun xv s₁ h₁ => ?_) fun _ _ e => e)) (fun _ s' hq => wpAny_pure (wpAny_pure hq)) fun _ _ e => e)
  obtain ⟨r, b, t, u, v, news, n, N, rfl, hh, F, N₀, hr, hsm, hn, hsz, T1, T2, fin⟩ := h₁
  refine wpAny_pyIter_range hr hsm ?_
  refine outer_block (P := P) (n := n) (N := N) hh hxy hx hy hkind hcell hs2 hsz (by show IsRangeIter _ _ _ _ _; rw [hn]; simpa using Heap.get?_push_size _ rfl)
    (F.keeps fun _ _ e => Heap.get?_push_of_some _ e) (N₀.grown fun _ _ e => Heap.get?_push_of_some _ e) (Nat.ne_of_lt F.ns.lt) (next_is_new F) (fun p hp => Nat.ne_of_lt (Heap.lt_size (N₀ p hp).1)) T1 T2 ?_
  intro D C h' tk m' ys F' N' offD hn' hC₀ hD₀ hCL hDL hCD offC hP hl
  show wpAny _ A (assign (.Name z pz) env (.ref D)) _ _ _
  refine wpAny_assign_Name (wpAny_storeName_local hz F'.ns (fun h₂ hn₂ hs₂ => ?_) hp)
  have hL₀ : h₀.get? env.locals = none := Heap.get?_none_of_le F'.above
  have F₂ : Fr h₀ env.locals h₂ (fun q => if q = z then some (.ref D) else m q) := ⟨hn₂, fun b o e => hs₂.extBut b o (fun q => by rw [q, hL₀] at e; cases e) (F'.keep b o e), F'.above⟩
  refine ⟨m', hn'.sameBut hs₂ hCL, fun h'' hs'' => fin D h'' _ ys (F₂.change hs'' hCL hC₀) (fun p hp => ?_) offD hP hl⟩
  have q : h₂.get? p.1 = some p.2 := hs₂.extBut _ _ (N' p hp).2.1 (N' p hp).1
  refine ⟨hs''.extBut _ _ ?_ q, (N' p hp).2⟩
  rcases List.mem_cons.mp hp with rfl | hp
  · exact Ne.symm hCD
  · exact offC p hp
end two
end Mine
-- part OyS
namespace Mine
open PySem PySem.W PyProof.Rows PySem.Calls
set_option maxRecDepth 100000
set_option maxHeartbeats 2000000
def OneP (v : Value) : Prop := ∃ r t, v = .str r t ∧ r.length = 1
def ShortP (v : Value) : Prop := ∃ r t, v = .str r t ∧ r.length ≤ 100
theorem ValEnd.one {h₀ : Heap} {L : Addr} {m : Str → Option Value} {nw : List (Addr × Obj)} {s : Shared} {r : Str} {t : Tok} {h' : Heap} {tk' : Nat} (hl : r.length = 1) (F : Fr h₀ L h' m) (N : News h₀ L h' nw) :
    ValEnd h₀ L m nw s OneP (.str r t) { s with heap := h', toks := tk' } := ⟨h', tk', ⟨r, t, rfl, hl⟩, rfl, F, N⟩
theorem ValEnd.short {h₀ : Heap} {L : Addr} {m : Str → Option Value} {nw : List (Addr × Obj)} {s : Shared} {r : Str} {t : Tok} {h' : Heap} {tk' : Nat} (hl : r.length ≤ 100) (F : Fr h₀ L h' m) (N : News h₀ L h' nw) :
    ValEnd h₀ L m nw s ShortP (.str r t) { s with heap := h', toks := tk' } := ⟨h', tk', ⟨r, t, rfl, hl⟩, rfl, F, N⟩
theorem RngEnd.intro {h₀ : Heap} {L : Addr} {m : Str → Option Value} {nw : List (Addr × Obj)} {s : Shared} {K : Nat} {r : Addr} {a b : Int} {t u z : Tok} {h' : Heap} {tk' : Nat} (F : Fr h₀ L h' m) (N : News h₀ L h' nw) (hr : IsRange h' r a b 1 t u z)
    (ha : 0 ≤ a) (haK : a ≤ (K : Int)) (hb : 0 ≤ b) (hbK : b ≤ (K : Int)) (hK : K ≤ 1000) : RngEnd h₀ L m nw s K (.ref r) { s with heap := h', toks := tk' } :=
  ⟨r, a, b, t, u, z, h', tk', (b - a).toNat, rfl, rfl, F, N, hr, small_one (by omega) (by omega) (by omega) (by omega), rangeSize_nat a b, ha, haK, by omega⟩
section
variable {prog : Program} {w : World} {A : Around} {h₀ : Heap} {L : Addr} {m : Str → Option Value} {env : Env} {elt ct : PySem.Expr} {x : Str} {scope : Scope} {cl : List (Str × Addr)} {s s₁ : Shared} {S : List (Addr × Obj) → Prop} {P : Nat → Value → Prop} {Fin : List Value → List (Addr × Obj) → Prop} {news : List (Addr × Obj)}
theorem ones_rest {n : Nat} (hS : S news) (hP : ∀ i v, i < n → P i v → ∃ k t, v = .int k t)
    (turn : ∀ k t I oI C oC D m₂ ys h tk (E' : Value → Shared → Prop), LCg.NsObj oC m₂ → m₂ x = some (.int k t) → Fr h₀ L h m → News h₀ L h ((I, oI) :: (C, oC) :: (D, LCg.lst ys) :: news) →
      wpAny (model prog w) A (eval elt (compEnvC scope cl C env)) (ValEnd h₀ L m ((I, oI) :: (C, oC) :: (D, LCg.lst ys) :: news) { s with heap := h, toks := tk } OneP) E' { s with heap := h, toks := tk })
    (fin : ∀ ys zs, StrsAre ys zs → zs.length = n → (∀ r ∈ zs, r.length = 1) → Fin ys news) : LCg.CompRest prog w A h₀ L m env elt x scope cl s S P Fin n 0 [] news := by
  have key : ∀ (j i : Nat) (ys : List Value) (zs : List Str), i + j = n → zs.length = i → StrsAre ys zs → (∀ r ∈ zs, r.length = 1) → LCg.CompRest prog w A h₀ L m env elt x scope cl s S P Fin j i ys news := by
    intro j
    induction j with
    | zero =>
      intro i ys zs hi hl hy h1
      exact LCg.CompRest.zero (fin ys zs hy (by omega) h1)
    | succ j ih =>
      intro i ys zs hi hl hy h1
      refine LCg.CompRest.succ ?_
      intro v I oI C oC D m₂ h tk E' hv hC hx F N off ne
      obtain ⟨k, t, hv'⟩ := hP i v (by omega) hv
      rw [hv'] at hx
      refine wpAny_mono (turn k t I oI C oC D m₂ ys h tk E' hC hx F N) (fun y s₂ hq => ?_) fun _ _ e => e
      obtain ⟨h', tk', ⟨r, t', rfl, hr⟩, e, F', N'⟩ := hq
      refine ⟨h', tk', news, e, F', N', off, hS, ?_⟩
      refine ih (i + 1) _ (zs ++ [r]) (by omega) (by simp [hl]) (kct_snoc hy) fun q hq => ?_
      rcases List.mem_append.mp hq with hq | hq
      · exact h1 q hq
      · rw [List.mem_singleton.mp hq]; exact hr
  exact key n 0 [] [] (by omega) rfl .nil (fun r hr => by simp at hr)
theorem ones_src {Fin : Shared → List Value → List (Addr × Obj) → Prop} {ax : Addr} {ws : List Value} {ns : List Int} {k : Nat} (hi : IntsAre ws ns) (hn : ns.length ≤ 1000) (hh : A.handled = none) (F : Fr h₀ L s₁.heap m) (N : News h₀ L s₁.heap news)
    (hm : (ax, ({ cls := .type "list", data := .seq ws.toArray k } : Obj)) ∈ news)
    (turn : ∀ k t I oI C oC D m₂ ys h tk (E' : Value → Shared → Prop), LCg.NsObj oC m₂ → m₂ x = some (.int k t) → Fr h₀ L h m → News h₀ L h ((I, oI) :: (C, oC) :: (D, LCg.lst ys) :: news) →
      wpAny (model prog w) A (eval elt (compEnvC scope cl C env)) (ValEnd h₀ L m ((I, oI) :: (C, oC) :: (D, LCg.lst ys) :: news) { heap := h, gens := s₁.gens, drawn := s₁.drawn, toks := tk, os := s₁.os } OneP) E' { heap := h, gens := s₁.gens, drawn := s₁.drawn, toks := tk, os := s₁.os })
    (fin : ∀ (s₂ : Heap) ys zs, StrsAre ys zs → zs.length = ns.length → (∀ r ∈ zs, r.length = 1) → Fin { s₁ with heap := s₂ } ys news) :
    LCg.CompSrc prog w A h₀ L m env elt x scope cl Fin (.ref ax) s₁ := by
  have hl := hi.length
  refine LCg.CompSrc.ledger hh F N hm (by rw [List.size_toArray, sizeLine_eq]; omega) fun g' => ?_
  refine ones_rest (.inr ⟨_, hm, rfl, _, rfl⟩) (fun i v hi' hv => ?_) turn fun ys zs hy hls h1 => fin g' ys zs hy (by rw [hls, List.size_toArray]; omega) h1
  obtain ⟨q, t, e, hq⟩ := IntsAre.at hi i v (by simpa using hv)
  exact ⟨q, t, e⟩
def NoEnd (h₀ : Heap) (L : Addr) (m : Str → Option Value) (nw : List (Addr × Obj)) (s : Shared) (ok : Bool) (s' : Shared) : Prop :=
  ok = false ∧ ∃ h' tk', s' = { s with heap := h', toks := tk' } ∧ Fr h₀ L h' m ∧ News h₀ L h' nw
theorem NoEnd.intro {nw : List (Addr × Obj)} {ok : Bool} {h' : Heap} {tk' : Nat} (e : ok = false) (F : Fr h₀ L h' m) (N : News h₀ L h' nw) : NoEnd h₀ L m nw s ok { s with heap := h', toks := tk' } := ⟨e, h', tk', rfl, F, N⟩
theorem none_rest {n : Nat} (hS : S news) (hP : ∀ i v, i < n → P i v → ShortP v)
    (turn : ∀ k t I oI C oC D m₂ h tk (E' : Value → Shared → Prop), k.length ≤ 100 → LCg.NsObj oC m₂ → m₂ x = some (.str k t) → Fr h₀ L h m → News h₀ L h ((I, oI) :: (C, oC) :: (D, LCg.lst []) :: news) →
      wpAny (model prog w) A (isTrue ct (compEnvC scope cl C env) (eval ct (compEnvC scope cl C env))) (NoEnd h₀ L m ((I, oI) :: (C, oC) :: (D, LCg.lst []) :: news) { s with heap := h, toks := tk }) E' { s with heap := h, toks := tk })
    (fin : Fin [] news) : LCt.CompRestT prog w A h₀ L m env ct elt x scope cl s S P Fin n 0 [] news := by
  have key : ∀ (j i : Nat), i + j = n → LCt.CompRestT prog w A h₀ L m env ct elt x scope cl s S P Fin j i [] news := by
    intro j
    induction j with
    | zero =>
      intro i hi
      exact LCt.CompRestT.zero fin
    | succ j ih =>
      intro i hi
      refine LCt.CompRestT.succ ?_
      intro v I oI C oC D m₂ h tk E' hv hC hx F N off ne
      obtain ⟨k, t, hv', hk⟩ := hP i v (by omega) hv
      rw [hv'] at hx
      refine wpAny_mono (turn k t I oI C oC D m₂ h tk E' hk hC hx F N) (fun ok s₂ hq => ?_) fun _ _ e => e
      obtain ⟨rfl, h', tk', rfl, F', N'⟩ := hq
      rw [if_neg (by decide)]
      exact ⟨h', tk', news, rfl, F', N', off, hS, ih (i + 1) (by omega)⟩
  exact key n 0 (by omega)
theorem none_src {Fin : Shared → List Value → List (Addr × Obj) → Prop} {ax : Addr} {its : Array Value} {k : Nat} (hP : ∀ v ∈ its.toList, ShortP v) (hsz : its.size ≤ 100000) (hh : A.handled = none) (F : Fr h₀ L s₁.heap m) (N : News h₀ L s₁.heap news)
    (hm : (ax, ({ cls := .type "list", data := .seq its k } : Obj)) ∈ news)
    (turn : ∀ k t I oI C oC D m₂ h tk (E' : Value → Shared → Prop), k.length ≤ 100 → LCg.NsObj oC m₂ → m₂ x = some (.str k t) → Fr h₀ L h m → News h₀ L h ((I, oI) :: (C, oC) :: (D, LCg.lst []) :: news) →
      wpAny (model prog w) A (isTrue ct (compEnvC scope cl C env) (eval ct (compEnvC scope cl C env))) (NoEnd h₀ L m ((I, oI) :: (C, oC) :: (D, LCg.lst []) :: news) { heap := h, gens := s₁.gens, drawn := s₁.drawn, toks := tk, os := s₁.os }) E' { heap := h, gens := s₁.gens, drawn := s₁.drawn, toks := tk, os := s₁.os })
    (fin : ∀ (s₂ : Heap), Fin { s₁ with heap := s₂ } [] news) :
    LCt.CompSrcT prog w A h₀ L m env ct elt x scope cl Fin (.ref ax) s₁ := by
  refine LCt.CompSrcT.ledger hh F N hm (by rw [sizeLine_eq]; omega) fun g' => ?_
  refine none_rest (.inr ⟨_, hm, rfl, _, rfl⟩) (fun i v hi' hv => hP v ?_) turn (fin g')
  have hv' : its[i]? = some v := hv
  rw [← Array.getElem?_toList] at hv'
  exact List.mem_of_getElem? hv'
end
theorem join_mine {prog : Program} {w : World} {A : Around} {E : Value → Shared → Prop} {s : Shared} {h₀ : Heap} {L : Addr} {news : List (Addr × Obj)} {D : Addr} {ys : List Value} {zs : List Str} {t : Tok} {Q : Value → Shared → Prop}
    (hS : StrsAre ys zs) (h1 : ∀ r ∈ zs, r.length = 1) (hn : zs.length ≤ 1000) (N : News h₀ L s.heap news) (hm : (D, LCg.lst ys) ∈ news)
    (h : ∀ X t' k, X.length = zs.length → Q (.str X t') { s with toks := k }) : wpAny (model prog w) A (call (.builtin "str.join") [.str (Str.ofString "") t, .ref D]) Q E s :=
  KT.join_1 (l := zs) (g := id) ⟨_, N.get hm, rfl, _, rfl⟩ hS.carried h1 (by omega) fun t' k e => h _ t' k e
end Mine
-- part OyH
namespace Mine
open PySem PySem.W PyProof.Rows
set_option maxRecDepth 100000
set_option maxHeartbeats 2000000
theorem num_len {l : List Int} : (List.take 5 l ++ [0, 2, 0, 0, 2, 0, 1]).length ≤ 12 := by
  rw [List.length_append, List.length_take]
  show min 5 l.length + 7 ≤ 12
  omega
-- a line that no goal asks: it makes the number of the lines at hand differ from an earlier part's (the walk keeps its table of lines by that number)
local macro_rules | `(tactic| walk_at "no goal at all") => `(tactic| skip)
local macro_rules | `(tactic| walk_at "eval ListComp") => `(tactic| (k_here; first
  | ((with_reducible show wpAny _ _ (eval (PySem.Expr.ListComp _ [PySem.Comprehension.mk _ _ [_] _] _ _) _) _ _ _); k_dflt (refine LCt.ListComp_T (F₀ := by k_asm) (by with_unfolding_all rfl) (by decide) (by rfl) (by decide) (by rfl) ?_))
  | ((with_reducible show wpAny _ _ (eval (PySem.Expr.ListComp _ [PySem.Comprehension.mk _ _ [] _] _ _) _) _ _ _); k_dflt (refine LCg.ListComp_U (F₀ := by k_asm) (by with_unfolding_all rfl) (by decide) (by rfl) (by decide) (by rfl) ?_))))
local macro_rules | `(tactic| walk_at "CompSrc") => `(tactic| (
  k_here
  k_dflt (refine' ones_src ?k0 ?k9 ?k1 ?k2 ?k3 ?k4 ?_ ?_; (case k1 => exact rfl); (case k2 => k_asm); (case k3 => k_asm); (case k4 => repeat' (first | exact List.Mem.head _ | refine' List.Mem.tail _ ?_)); (case k0 => assumption); (case k9 => exact Nat.le_trans num_len (by decide)); (intro k' t' I' oI' C' oC' D' m' ys' h' tk' E' hC' hx' F' N'; try dsimp only); rotate_left; (intro s2' ys' zs' hS' hZ' h1'; (have hZn' : zs'.length ≤ 12 := (by rw [hZ']; exact num_len)); try dsimp only); rotate_right)))
local macro_rules | `(tactic| walk_at "ValEnd") => `(tactic| (k_dflt (first
  | (refine' ValEnd.one ?k0 ?k1 ?k2; (case k1 => k_asm); (case k2 => k_asm); (case k0 => first | exact len_1 | exact len_a | exact rfl))
  | (refine' ValEnd.short ?k0 ?k1 ?k2; (case k1 => k_asm); (case k2 => k_asm); (case k0 => omega)))))
local macro_rules | `(tactic| walk_at "call builtin:str.join") => `(tactic| (k_here; k_dflt (refine' join_mine ?k0 ?k1 ?k2 ?k3 ?k4 ?_; (case k3 => k_asm); (case k4 => repeat' (first | exact List.Mem.head _ | refine' List.Mem.tail _ ?_)); (case k0 => assumption); (case k1 => assumption); (case k2 => omega); (intro X' t' k' hX'; (have hXn' : X'.length ≤ 12 := (by omega)); (try dsimp only)))))
theorem TwoSrc.intro {prog : Program} {w : World} {A : Around} {h₀ : Heap} {L : Addr} {m : Str → Option Value} {env : Env} {elt iter2 : PySem.Expr} {x y : Str} {scope : Scope} {cl : List (Str × Addr)} {P : Value → Prop} {z : Str} {Q : Flow → Shared → Prop} {s₁ : Shared} {r : Addr} {b : Int} {t u v : Tok} {news : List (Addr × Obj)}
    (hh : A.handled = none) (F : Fr h₀ L s₁.heap m) (N : News h₀ L s₁.heap news) (hr : IsRange s₁.heap r 0 b 1 t u v) (hb : 0 ≤ b) (hb' : b ≤ 12)
    (T1 : TurnA prog w A h₀ L m env news iter2 x scope cl s₁ b.toNat 13) (T2 : TurnB prog w (A.mark none) h₀ L m env news elt x y scope cl s₁ P b.toNat 13)
    (fin : ∀ D h tk ys, Fr h₀ L h (fun q => if q = z then some (.ref D) else m q) → News h₀ L h ((D, LCg.lst ys) :: news) → LCg.Off1 D news → (∀ v ∈ ys, P v) → ys.length ≤ 156 → Q .next { s₁ with heap := h, toks := tk }) :
    TwoSrc prog w A h₀ L m env elt iter2 x y scope cl P z Q (.ref r) s₁ := by
  have hl : b.toNat * 13 ≤ 156 := by omega
  have off1 : ∀ {D : Addr} {l : List (Addr × Obj)}, (∀ p ∈ l, p.1 ≠ D) → LCg.Off1 D l := by
    intro D l
    induction l with
    | nil => intro _; exact trivial
    | cons p l ih => intro h; exact ⟨h p List.mem_cons_self, ih fun q hq => h q (List.mem_cons_of_mem _ hq)⟩
  exact ⟨r, b, t, u, v, news, b.toNat, 13, rfl, hh, F, N, hr, small_one (by omega) (by omega) (by omega) (by omega), by rw [rangeSize_nat]; simp, by rw [sizeLine_eq]; omega, T1, T2, fun D h tk ys F' N' o hP hy => fin D h tk ys F' N' (off1 o) hP (by omega)⟩
local macro_rules | `(tactic| walk_at "exec Assign cons ListComp") => `(tactic| (k_here; (with_reducible show wpAny _ _ (exec (PySem.Stmt.Assign [PySem.Expr.Name _ _] (PySem.Expr.ListComp _ [PySem.Comprehension.mk _ _ [] _, PySem.Comprehension.mk _ _ [] _] _ _) _) _) _ _ _); k_dflt (refine Assign_two ShortP (F₀ := by k_asm) (by rfl) (by with_unfolding_all rfl) (by with_unfolding_all rfl) (by decide) (by rfl) (by decide) (by rfl) (by rfl) (by decide) (by rfl) (by rfl) (by intro _ _; rfl) (by intro _; rfl) ?_)))
local macro_rules | `(tactic| walk_at "TwoSrc") => `(tactic| (k_here; k_dflt (refine' TwoSrc.intro ?k0 ?k1 ?k2 ?k3 ?k4 ?k5 ?_ ?_ ?_; (case k0 => exact rfl); (case k1 => k_asm); (case k2 => k_asm); (case k3 => assumption); (case k4 => omega); (case k5 => omega); (unfold TurnA; intro k' t' I' oI' C' oC' D' m' ys' h' tk' E' hk' hC' hx' F' N'; try dsimp only); rotate_left; (unfold TurnB; intro k' t' j' u' J' oJ' I' oI' C' oC' D' m' ys' h' tk' E' hk' hj0' hj1' hC' hx' hy' F' N'; try dsimp only); rotate_left; (intro D' h' tk' ys' F' N' o1' hP' hl'; (try simp only [LCg.Off1, and_true] at o1'); try dsimp only); rotate_left)))
local macro_rules | `(tactic| walk_at "RngEnd") => `(tactic| (k_dflt (refine' RngEnd.intro ?k1 ?k2 ?k3 ?k4 ?k5 ?k6 ?k7 ?k8; (case k1 => k_asm); (case k2 => k_asm); (case k3 => assumption); (case k4 => omega); (case k5 => omega); (case k6 => omega); (case k7 => omega); (case k8 => decide))))
theorem add_mine {prog : Program} {w : World} {A : Around} {E : Value → Shared → Prop} {s : Shared} {h₀ : Heap} {L : Addr} {m : Str → Option Value} {news : List (Addr × Obj)} {a b : Addr} {z : Str} {t : Tok} {ys : List Value} {k : Nat} {Q : Value → Shared → Prop}
    (F : Fr h₀ L s.heap m) (N : News h₀ L s.heap news) (ma : (a, W.listOf #[.str z t] k) ∈ news) (mb : (b, LCg.lst ys) ∈ news) (hz : z.length ≤ 100) (hP : ∀ v ∈ ys, ShortP v) (hl : ys.length ≤ 156)
    (h : ∀ D h' its, Fr h₀ L h' m → News h₀ L h' ((D, W.listOf its 0) :: news) → (∀ v ∈ its.toList, ShortP v) → its.size ≤ 1000 → Q (.ref D) { s with heap := h' }) :
    wpAny (model prog w) A (binaryOp .Add (.ref a) (.ref b)) Q E s := by
  refine add_arrays (its := #[.str z t]) (its2 := ys.toArray) (hsz := by rw [List.size_toArray, List.size_toArray, sizeLine_eq]; simp; omega) F N ⟨_, N.get ma, rfl, _, rfl⟩ ⟨_, N.get mb, rfl, _, rfl⟩ fun h' F' N' => h _ h' _ F' N' (fun v hv => ?_) (by simp; omega)
  have hv' : v = .str z t ∨ v ∈ ys := by simpa using hv
  rcases hv' with rfl | hv'
  · exact ⟨z, t, rfl, hz⟩
  · exact hP v hv'
local macro_rules | `(tactic| walk_at "binaryOp Add ref ref") => `(tactic| (k_here; k_dflt (refine' add_mine ?k1 ?k2 ?k3 ?k4 ?k5 ?k6 ?k7 ?_; (case k1 => k_asm); (case k2 => k_asm); (case k3 => repeat' (first | exact List.Mem.head _ | refine' List.Mem.tail _ ?_)); (case k4 => repeat' (first | exact List.Mem.head _ | refine' List.Mem.tail _ ?_)); (case k5 => (rw [len_0]; decide)); (case k6 => assumption); (case k7 => assumption); (intro D' h' its' F' N' hQ' hz'; try dsimp only))))
local macro_rules | `(tactic| walk_at "CompSrcT") => `(tactic| (k_here; k_dflt (refine' none_src ?k5 ?k6 ?k1 ?k2 ?k3 ?k4 ?_ ?_; (case k1 => exact rfl); (case k2 => k_asm); (case k3 => k_asm); (case k4 => repeat' (first | exact List.Mem.head _ | refine' List.Mem.tail _ ?_)); (case k5 => assumption); (case k6 => omega); (intro k' t' I' oI' C' oC' D' m' h' tk' E' hk' hC' hx' F' N'; try dsimp only); rotate_left; (intro s2'; try dsimp only); rotate_right)))
local macro_rules | `(tactic| walk_at "NoEnd") => `(tactic| (k_dflt (refine' NoEnd.intro ?k0 ?k1 ?k2; (case k1 => k_asm); (case k2 => k_asm); (case k0 => exact rfl))))
local macro_rules | `(tactic| walk_at "call ref") => `(tactic| (
  k_here
  (with_reducible show wpAny _ _ (call (Value.ref 59) [Value.str _ _]) _ _ _)
  k_dflt (refine' CL.use (c_right _ _ _ _ _ _ ?kx) ?k1 ?k2 ?k3 ?k4 ?k5 ?kK ?kd ?ku ?_)
  (case k1 => k_dflt k_asm)
  (case k2 => k_dflt k_asm)
  (case k3 => k_dflt k_asm)
  (case k4 => k_dflt k_asm)
  (case k5 => k_dflt k_asm)
  (case kK => k_dflt (first | exact rfl | assumption))
  (case kd => k_dflt ktr_room)
  (case ku => k_dflt ktr_units)
  (case kx => omega)
  intro t9 h9 tk9 F9 N9
  (try dsimp only)
  (try k_fold)))
theorem final : PySem.Challenge.rw_oy0005_01.Holds := by
  refine Mine.hd ?_
  w_strict (k_go0; (all_goals try k_fold); k_steps; (all_goals (try k_data)); all_goals w_report)
end Mine
theorem PySem.Challenge.cw_oy0005_01_holds : PySem.Challenge.rw_oy0005_01.Holds :=
  Mine.final
