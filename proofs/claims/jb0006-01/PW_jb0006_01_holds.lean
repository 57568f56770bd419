import PyProof.Rows.All
import Wide.All
import OpenK.AllK
import Wide.FinOn
import PySem.Challenge.RW_jb0006_01
open PySem PySem.W PyProof.Rows
set_option Elab.async false
set_option linter.all false
set_option compiler.extract_closed false
set_option maxRecDepth 100000
set_option maxHeartbeats 0

namespace Mine
-- the top, once
open_top hd for PySem.Challenge.rw_jb0006_01
theorem fill_once : PySem.Challenge.rw_jb0006_01 = PySem.Challenge.rw_jb0006_01 ∧ hd.heap_39 = hd.heap_39 := by
  w_on
  k_fill
  exact ⟨rfl, rfl⟩

abbrev Ret1 (h₀ : Heap) (L : Addr) (m : Str → Option Value) (news : List (Addr × Obj)) (s : Shared) (Q : Value → Shared → Prop) (R : Tok → Value) : Prop :=
  ∀ (t : Tok) (h' : Heap) (tk' : Nat), Fr h₀ L h' m → News h₀ L h' news → Q (R t) { s with heap := h', toks := tk' }
abbrev Cl (lv : Nat) (w : World) (s₀ : Shared) (mg mb : Str → Option Value) (f : Addr) (vs : List Value)
    (Post : (h₀ : Heap) → (L : Addr) → (m : Str → Option Value) → (news : List (Addr × Obj)) → (s : Shared) → (Q : Value → Shared → Prop) → Prop) : Prop :=
  ∀ (dp un : Nat) (gd : Option (List Code)) (cn : Str) (cs : Scope) (a : Addr) (ccd : Value) (cl : List (Str × Addr)) (outer : List Env) (A₀ : Around) (base h₀ : Heap) (L : Addr) (m : Str → Option Value) (news : List (Addr × Obj)) (s : Shared) (Q E : Value → Shared → Prop),
    Below A₀ base outer h₀ → Fr h₀ L s.heap m → (hd.heap_39 w.params).In h₀ → News h₀ L s.heap news →
    Top hd.view_39 (looseW hd.view_39 [Str.ofString "to_jd_gregorian", Str.ofString "from_jd_gregorian", Str.ofString "to_jd_iso", Str.ofString "from_jd_iso"]) (ExcName.means s₀.heap) mg mb h₀ → cs.kind = .function → dp + lv < recursionLimit → un + 8 * lv < cLine →
    Post h₀ L m news s Q →
      wpAny (model Challenge.rw_jb0006_01.row.prog w) (ktrTop dp un gd cn cs L a ccd cl outer) (call (.ref f) vs) Q E s

theorem clUse {lv : Nat} {w : World} {s₀ : Shared} {mg mb : Str → Option Value} {f : Addr} {vs : List Value}
    {Post : (h₀ : Heap) → (L : Addr) → (m : Str → Option Value) → (news : List (Addr × Obj)) → (s : Shared) → (Q : Value → Shared → Prop) → Prop} (c : Cl lv w s₀ mg mb f vs Post)
    {dp un : Nat} {gd : Option (List Code)} {cn : Str} {cs : Scope} {a : Addr} {ccd : Value} {cl : List (Str × Addr)} {outer : List Env} {A₀ : Around} {base h₀ : Heap} {L : Addr} {m : Str → Option Value} {news : List (Addr × Obj)} {s : Shared} {Q E : Value → Shared → Prop}
    (k : Post h₀ L m news s Q) (k1 : Below A₀ base outer h₀ := by k_asm) (k2 : Fr h₀ L s.heap m := by k_asm) (k3 : (hd.heap_39 w.params).In h₀ := by k_asm) (k4 : News h₀ L s.heap news := by k_asm)
    (k5 : Top hd.view_39 (looseW hd.view_39 [Str.ofString "to_jd_gregorian", Str.ofString "from_jd_gregorian", Str.ofString "to_jd_iso", Str.ofString "from_jd_iso"]) (ExcName.means s₀.heap) mg mb h₀ := by k_asm) (kK : cs.kind = .function := by first | exact rfl | assumption) (kd : dp + lv < recursionLimit := by ktr_room) (ku : un + 8 * lv < cLine := by ktr_units) : wpAny (model Challenge.rw_jb0006_01.row.prog w) (ktrTop dp un gd cn cs L a ccd cl outer) (call (.ref f) vs) Q E s :=
  c dp un gd cn cs a ccd cl outer A₀ base h₀ L m news s Q E k1 k2 k3 k4 k5 kK kd ku k
theorem atRef (f : Addr) {M : Model} {A : Around} {vs : List Value} {Q E : Value → Shared → Prop} {s : Shared} (h : wpAny M A (call (.ref f) vs) Q E s) : wpAny M A (call (.ref f) vs) Q E s := h

def leapF (y : Int) : Bool := decide (y % 4 = 0) && (decide (y % 100 ≠ 0) || decide (y % 400 = 0))
def gj (y m d : Int) : Int := 1721425 + 365 * (y - 1) + (y - 1) / 4 - (y - 1) / 100 + (y - 1) / 400 + ((367 * m - 362) / 12 + (if m ≤ 2 then 0 else if leapF y = true then -1 else -2) + d)

theorem fm4 (x : Int) : Int.fmod x 4 = x % 4 := Int.fmod_eq_emod_of_nonneg x (by decide)
theorem fm100 (x : Int) : Int.fmod x 100 = x % 100 := Int.fmod_eq_emod_of_nonneg x (by decide)
theorem fm400 (x : Int) : Int.fmod x 400 = x % 400 := Int.fmod_eq_emod_of_nonneg x (by decide)
theorem fd4 (x : Int) : Int.fdiv x 4 = x / 4 := Int.fdiv_eq_ediv_of_nonneg x (by decide)
theorem fd100 (x : Int) : Int.fdiv x 100 = x / 100 := Int.fdiv_eq_ediv_of_nonneg x (by decide)
theorem fd400 (x : Int) : Int.fdiv x 400 = x / 400 := Int.fdiv_eq_ediv_of_nonneg x (by decide)
theorem fd12 (x : Int) : Int.fdiv x 12 = x / 12 := Int.fdiv_eq_ediv_of_nonneg x (by decide)

theorem fd7 (x : Int) : Int.fdiv x 7 = x / 7 := Int.fdiv_eq_ediv_of_nonneg x (by decide)
theorem fm7 (x : Int) : Int.fmod x 7 = x % 7 := Int.fmod_eq_emod_of_nonneg x (by decide)

/-- the first day of a year -/
def gf (y : Int) : Int := 1721426 + 365 * (y - 1) + (y - 1) / 4 - (y - 1) / 100 + (y - 1) / 400
/-- the Monday of a year's first week -/
def m1 (y : Int) : Int := gf y + 3 - (gf y + 3) % 7
theorem gj_one (y : Int) : gj y 1 1 = gf y := by simp only [gj, gf]; omega
theorem leapF_iff (y : Int) : leapF y = true ↔ (y % 4 = 0 ∧ (y % 100 ≠ 0 ∨ y % 400 = 0)) := by simp [leapF]
def lp (y : Int) : Int := if leapF y = true then 1 else 0
theorem lp01 (y : Int) : (lp y = 0 ∧ leapF y = false) ∨ (lp y = 1 ∧ leapF y = true) := by
  cases h : leapF y <;> simp [lp, h]
theorem step4 (y : Int) : y / 4 - y / 100 + y / 400 = (y - 1) / 4 - (y - 1) / 100 + (y - 1) / 400 + lp y := by
  have h := leapF_iff y
  rcases lp01 y with ⟨a, b⟩ | ⟨a, b⟩
  · rw [a]
    have h : ¬ (y % 4 = 0 ∧ (y % 100 ≠ 0 ∨ y % 400 = 0)) := fun q => by rw [h.mpr q] at b; cases b
    omega
  · rw [a]
    have h := h.mp b
    omega
theorem gf_succ (y : Int) : gf (y + 1) = gf y + 365 + lp y := by
  have := step4 y
  have e : y + 1 - 1 = y := by omega
  simp only [gf, e]
  omega
theorem gj_dec (y : Int) : gj (y - 1) 12 28 = gf y - 4 := by
  have h := gf_succ (y - 1)
  have e : y - 1 + 1 = y := by omega
  rw [e] at h
  have h2 : gj (y - 1) 12 28 = gf (y - 1) + 360 + lp (y - 1) + 1 := by
    rcases lp01 (y - 1) with ⟨a, b⟩ | ⟨a, b⟩ <;> simp only [gj, gf, a, b, Bool.false_eq_true, if_false, if_true] <;> omega
  omega
def wpy (y : Int) : Int := if gf y % 7 = 3 ∨ (gf y % 7 = 2 ∧ leapF y = true) then 53 else 52
/-- a month's length -/
def ml (y m : Int) : Int := if m = 2 then 28 + lp y else if m = 4 ∨ m = 6 ∨ m = 9 ∨ m = 11 then 30 else 31

set_option hygiene false
local macro_rules | `(tactic| walk_at "my flat") => `(tactic| (
  (case eh => (try dsimp only) <;> exact rfl)
  (case eg => (try dsimp only) <;> exact rfl)
  (case ed => (try dsimp only) <;> exact rfl)
  (case eo => (try dsimp only) <;> exact rfl)
  (case F => k_dflt k_asm)
  (case N => k_dflt k_asm)))
local macro_rules | `(tactic| walk_at "my back1") => `(tactic| (intro t9 h9 tk9 F9 N9; (try dsimp only); (try k_fold)))
local macro_rules | `(tactic| walk_at "my back3") => `(tactic| (intro D9 u91 u92 u93 c9 h9 tk9 F9 N9; (try dsimp only); (try k_fold)))
local macro_rules | `(tactic| walk_at "my back12") => `(tactic| (intro D9 a91 a92 a93 a94 a95 a96 a97 a98 a99 a9a a9b a9c c9 h9 tk9 F9 N9; (try dsimp only)))
local macro_rules | `(tactic| walk_at "call ref") => `(tactic| (
  k_here
  (refine wpAny_call ?_)
  k_dflt (refine' code_def ?k1 ?k2 ?k3 ?k4 ?k5 ?kA ?kF ?kK ?k6 ?k7 ?k8 ?k9 ?kB ?_ ?c2 ?c3 ?c4 ?c5; (case kA => exact rfl); (case kF => exact rfl); (case kK => exact rfl); (case k1 => k_asm); (case k2 => k_asm); (case k3 => k_asm); (case k4 => k_asm); (case k5 => k_asm); (case k6 => k_is); (case k7 => k_is); (case k8 => ktr_room); (case k9 => exact BindsTo.of_eq rfl); (case c5 => decide); (case kB => exact locs rfl); (case c2 => exact rfl); (case c3 => exact rfl); (case c4 => exact rfl); k_whole; intro g' L' h' FG' F' N' B' X' T'; (try dsimp only); (try k_lift B'); (try k_fold))))
local macro_rules | `(tactic| walk_at "eval Call") => `(tactic| (
  (with_reducible show wpAny _ _ (eval (Expr.Call (Expr.Name _ _) _ [] _) _) _ _ _)
  k_dflt (refine Call_ ?_)))

theorem c_isleap {w : World} {s₀ : Shared} {mg mb : Str → Option Value} (y : Int) (t : Tok) :
    Cl 2 w s₀ mg mb 22 [.int y t] (fun h₀ L m news s Q => Ret1 h₀ L m news s Q (fun _ => .bool (leapF y))) := by
  intro dp un gu cn cs a ccd cl outer A₀ base h₀ L m news s Q E B F X N T hk hd hu hret
  w_on
  refine wpAny_call ?_
  k_dflt cell_enter
  k_steps
  all_goals (refine' cb_retB (Q := Q) hret ?e1 ?e2 ?e3; (case e2 => k_asm); (case e3 => k_asm); (case e1 => (simp only [fm4, fm100, fm400] at *; rw [Bool.eq_iff_iff]; simp [leapF]; omega)))

local macro_rules | `(tactic| walk_at "call ref") => `(tactic| (
  k_here
  (with_reducible refine atRef 22 ?_)
  k_dflt (refine' clUse (c_isleap _ _) ?_)
  walk_at "my back1"))

section
theorem in30 {prog : Program} {w : World} {A : Around} {E : Value → Shared → Prop} {s : Shared} {t : Addr} {items : Array Value} {x : Int} {u : Tok} {Q : Value → Shared → Prop} (ht : IsTup s.heap t items) (hi : IntsAre items.toList [4, 6, 9, 11])
    (h : Q (.bool (decide (x = 4 ∨ x = 6 ∨ x = 9 ∨ x = 11))) s) : wpAny (model prog w) A (compareOp .In (.int x u) (.ref t)) Q E s := by
  refine in_tuple_ints ht hi ?_
  have e : ([4, 6, 9, 11].any (· == x)) = decide (x = 4 ∨ x = 6 ∨ x = 9 ∨ x = 11) := by
    rw [Bool.eq_iff_iff]
    simp only [List.any_cons, List.any_nil, Bool.or_false, Bool.or_eq_true, beq_iff_eq, decide_eq_true_eq]
    omega
  rw [e]
  exact h

local macro_rules | `(tactic| walk_at "compareOp In int ref") => `(tactic| (
  k_here
  k_dflt (refine' in30 (tupK ?X ?l) ?i ?_)
  (case X => k_in)
  (case l => k_is)
  (case i => (repeat constructor))))

local macro_rules | `(tactic| walk_at "exec Raise some none") => `(tactic| (
  exfalso
  first | omega | (simp_all; done) | (simp_all; omega)))

theorem c_legal {w : World} {s₀ : Shared} {mg mb : Str → Option Value} (y mo d : Int) (t1 t2 t3 : Tok)
   (hp : 1 ≤ d ∧ (d ≤ 28 ∨ (d ≤ 29 ∧ mo = 2 ∧ leapF y = true) ∨ (d ≤ 30 ∧ mo ≠ 2) ∨ (d ≤ 31 ∧ mo ≠ 2 ∧ mo ≠ 4 ∧ mo ≠ 6 ∧ mo ≠ 9 ∧ mo ≠ 11))) :
    Cl 4 w s₀ mg mb 79 [.int y t1, .int mo t2, .int d t3] (fun h₀ L m news s Q => Ret1 h₀ L m news s Q (fun _ => .bool true)) := by
  intro dp un gu cn cs a ccd cl outer A₀ base h₀ L m news s Q E B F X N T hk hd hu hret
  w_on
  refine wpAny_call ?_
  k_dflt cell_enter
  k_steps
  all_goals (refine' cb_retB (Q := Q) hret ?e1 ?e2 ?e3; (case e2 => k_asm); (case e3 => k_asm); (case e1 => exact rfl))

end

local macro_rules | `(tactic| walk_at "call ref") => `(tactic| (
  k_here
  (with_reducible refine atRef 79 ?_)
  k_dflt (refine' clUse (c_legal _ _ _ _ _ _ ?hp) ?_)
  (case hp => assumption)
  walk_at "my back1"))
/-- a statement after which one name holds a number that is known: its ways meet here -/
@[irreducible] def CutI (h₀ : Heap) (L : Addr) (m : Str → Option Value) (news : List (Addr × Obj)) (g : Array GenState) (d : Drawn) (o : OsState) (x : Str) (V : Int) (fl : Flow) (s' : Shared) : Prop :=
  fl = .next ∧ ∃ (t : Tok) (h' : Heap) (tk' : Nat), s' = ⟨h', g, d, tk', o⟩ ∧ Fr h₀ L h' (fun y => if y = x then some (.int V t) else m y) ∧ News h₀ L h' news
section
variable {h₀ h h' : Heap} {L : Addr} {m : Str → Option Value} {news : List (Addr × Obj)} {s s' : Shared} {g : Array GenState} {d : Drawn} {o : OsState} {x : Str} {V v : Int} {t : Tok} {tk' : Nat} {M : Model} {A : Around} {st : Stmt} {rest : List Stmt} {env : Env} {Q : Flow → Shared → Prop} {E : Value → Shared → Prop}
theorem cut_one (F : Fr h₀ L s'.heap (fun y => if y = x then some (.int v t) else m y)) (N : News h₀ L s'.heap news) (eg : s'.gens = g) (ed : s'.drawn = d) (eo : s'.os = o) (e : v = V) : CutI h₀ L m news g d o x V .next s' := by
  unfold CutI
  subst eg ed eo
  exact ⟨rfl, t, s'.heap, s'.toks, rfl, e ▸ F, N⟩
theorem cut_two {w : Option Value} (F : Fr h₀ L s'.heap (fun y => if y = x then some (.int v t) else if y = x then w else m y)) (N : News h₀ L s'.heap news) (eg : s'.gens = g) (ed : s'.drawn = d) (eo : s'.os = o) (e : v = V) : CutI h₀ L m news g d o x V .next s' := by
  have h : (fun y => if y = x then some (Value.int v t) else if y = x then w else m y) = fun y => if y = x then some (.int v t) else m y := by
    funext y
    by_cases q : y = x
    · rw [if_pos q, if_pos q]
    · rw [if_neg q, if_neg q, if_neg q]
  rw [h] at F
  exact cut_one F N eg ed eo e
theorem cut_same (F : Fr h₀ L s'.heap m) (N : News h₀ L s'.heap news) (hx : m x = some (.int v t)) (eg : s'.gens = g) (ed : s'.drawn = d) (eo : s'.os = o) (e : v = V) : CutI h₀ L m news g d o x V .next s' := by
  have h : m = fun y => if y = x then some (.int v t) else m y := by
    funext y
    by_cases q : y = x
    · rw [if_pos q, q, hx]
    · rw [if_neg q]
  rw [h] at F
  exact cut_one F N eg ed eo e
theorem cutI (N : News h₀ L h news) (eh : s.heap = h) (eg : s.gens = g) (ed : s.drawn = d) (eo : s.os = o) (h1 : ∀ t, wpAny M A (exec st env) (CutI h₀ L m news g d o x V) E ⟨h, g, d, t, o⟩)
    (h2 : ∀ (t : Tok) (h' : Heap) (tk' : Nat), Fr h₀ L h' (fun y => if y = x then some (.int V t) else m y) → News h₀ L h' news → wpAny M A (execs rest env) Q E ⟨h', g, d, tk', o⟩) :
    wpAny M A (execs (st :: rest) env) Q E s := by
  subst eh eg ed eo
  refine wpAny_execs_cons (wpAny_mono (h1 s.toks) (fun fl s' h => ?_) fun _ _ h => h)
  unfold CutI at h
  obtain ⟨rfl, t, h', tk', rfl, F', N'⟩ := h
  exact h2 t h' tk' F' N'
theorem cutI_old {w : Option Value} (_F : Fr h₀ L h (fun y => if y = x then w else m y)) (N : News h₀ L h news) (eh : s.heap = h) (eg : s.gens = g) (ed : s.drawn = d) (eo : s.os = o) (h1 : ∀ t, wpAny M A (exec st env) (CutI h₀ L m news g d o x V) E ⟨h, g, d, t, o⟩)
    (h2 : ∀ (t : Tok) (h' : Heap) (tk' : Nat), Fr h₀ L h' (fun y => if y = x then some (.int V t) else m y) → News h₀ L h' news → wpAny M A (execs rest env) Q E ⟨h', g, d, tk', o⟩) :
    wpAny M A (execs (st :: rest) env) Q E s := cutI N eh eg ed eo h1 h2
theorem cutI_new (_F : Fr h₀ L h m) (N : News h₀ L h news) (eh : s.heap = h) (eg : s.gens = g) (ed : s.drawn = d) (eo : s.os = o) (h1 : ∀ t, wpAny M A (exec st env) (CutI h₀ L m news g d o x V) E ⟨h, g, d, t, o⟩)
    (h2 : ∀ (t : Tok) (h' : Heap) (tk' : Nat), Fr h₀ L h' (fun y => if y = x then some (.int V t) else m y) → News h₀ L h' news → wpAny M A (execs rest env) Q E ⟨h', g, d, tk', o⟩) :
    wpAny M A (execs (st :: rest) env) Q E s := cutI N eh eg ed eo h1 h2
end
/-- as CutI, the number not told -/
@[irreducible] def CutE (h₀ : Heap) (L : Addr) (m : Str → Option Value) (news : List (Addr × Obj)) (g : Array GenState) (d : Drawn) (o : OsState) (x : Str) (fl : Flow) (s' : Shared) : Prop := ∃ V, CutI h₀ L m news g d o x V fl s'
theorem cutE_mk {h₀ : Heap} {L : Addr} {m : Str → Option Value} {news : List (Addr × Obj)} {g : Array GenState} {d : Drawn} {o : OsState} {x : Str} {V : Int} {fl : Flow} {s' : Shared} (h : CutI h₀ L m news g d o x V fl s') : CutE h₀ L m news g d o x fl s' := by
  unfold CutE
  exact ⟨V, h⟩
theorem cutE {h₀ h : Heap} {L : Addr} {m : Str → Option Value} {news : List (Addr × Obj)} {s : Shared} {g : Array GenState} {d : Drawn} {o : OsState} {x : Str} {M : Model} {A : Around} {st : Stmt} {rest : List Stmt} {env : Env} {Q : Flow → Shared → Prop} {E : Value → Shared → Prop}
    (_F : Fr h₀ L h m) (_N : News h₀ L h news) (eh : s.heap = h) (eg : s.gens = g) (ed : s.drawn = d) (eo : s.os = o) (h1 : ∀ t, wpAny M A (exec st env) (CutE h₀ L m news g d o x) E ⟨h, g, d, t, o⟩)
    (h2 : ∀ (V : Int) (t : Tok) (h' : Heap) (tk' : Nat), Fr h₀ L h' (fun y => if y = x then some (.int V t) else m y) → News h₀ L h' news → wpAny M A (execs rest env) Q E ⟨h', g, d, tk', o⟩) :
    wpAny M A (execs (st :: rest) env) Q E s := by
  subst eh eg ed eo
  refine wpAny_execs_cons (wpAny_mono (h1 s.toks) (fun fl s' h => ?_) fun _ _ h => h)
  unfold CutE CutI at h
  obtain ⟨V, rfl, t, h', tk', rfl, F', N'⟩ := h
  exact h2 V t h' tk' F' N'
/-- a statement that changes no name: its ways meet here, and what was made on them is forgotten -/
@[irreducible] def CutN (h₀ : Heap) (L : Addr) (m : Str → Option Value) (news : List (Addr × Obj)) (g : Array GenState) (d : Drawn) (o : OsState) (fl : Flow) (s' : Shared) : Prop :=
  fl = .next ∧ ∃ (h' : Heap) (tk' : Nat), s' = ⟨h', g, d, tk', o⟩ ∧ Fr h₀ L h' m ∧ News h₀ L h' news
section
variable {h₀ h : Heap} {L : Addr} {m : Str → Option Value} {news news' : List (Addr × Obj)} {s s' : Shared} {g : Array GenState} {d : Drawn} {o : OsState} {M : Model} {A : Around} {st : Stmt} {rest : List Stmt} {env : Env} {Q : Flow → Shared → Prop} {E : Value → Shared → Prop}
theorem cutN_mk (F : Fr h₀ L s'.heap m) (N : News h₀ L s'.heap news') (eg : s'.gens = g) (ed : s'.drawn = d) (eo : s'.os = o) (hs : ∀ p ∈ news, p ∈ news') : CutN h₀ L m news g d o .next s' := by
  unfold CutN
  subst eg ed eo
  exact ⟨rfl, s'.heap, s'.toks, rfl, F, fun p hp => N p (hs p hp)⟩
theorem cutN (F : Fr h₀ L h m) (N : News h₀ L h news) (eh : s.heap = h) (eg : s.gens = g) (ed : s.drawn = d) (eo : s.os = o) (h1 : ∀ t, wpAny M A (exec st env) (CutN h₀ L m news g d o) E ⟨h, g, d, t, o⟩)
    (h2 : ∀ (h' : Heap) (tk' : Nat), Fr h₀ L h' m → News h₀ L h' news → wpAny M A (execs rest env) Q E ⟨h', g, d, tk', o⟩) :
    wpAny M A (execs (st :: rest) env) Q E s := by
  subst eh eg ed eo
  have _ := F
  have _ := N
  refine wpAny_execs_cons (wpAny_mono (h1 s.toks) (fun fl s' h => ?_) fun _ _ h => h)
  unfold CutN at h
  obtain ⟨rfl, h', tk', rfl, F', N'⟩ := h
  exact h2 h' tk' F' N'
end
/-- a statement after which three names hold numbers that are known; of the other names nothing is kept -/
@[irreducible] def Cut3 (h₀ : Heap) (L : Addr) (news : List (Addr × Obj)) (g : Array GenState) (d : Drawn) (o : OsState) (x1 x2 x3 : Str) (V1 V2 V3 : Int) (fl : Flow) (s' : Shared) : Prop :=
  fl = .next ∧ ∃ (m' : Str → Option Value) (h' : Heap) (tk' : Nat) (t1 t2 t3 : Tok), s' = ⟨h', g, d, tk', o⟩ ∧ Fr h₀ L h' m' ∧ News h₀ L h' news ∧ m' x1 = some (.int V1 t1) ∧ m' x2 = some (.int V2 t2) ∧ m' x3 = some (.int V3 t3)
section
variable {h₀ h : Heap} {L : Addr} {m m' : Str → Option Value} {news news' : List (Addr × Obj)} {s s' : Shared} {g : Array GenState} {d : Drawn} {o : OsState} {x1 x2 x3 : Str} {V1 V2 V3 v1 v2 v3 : Int} {t1 t2 t3 : Tok} {M : Model} {A : Around} {st : Stmt} {rest : List Stmt} {env : Env} {Q : Flow → Shared → Prop} {E : Value → Shared → Prop}
theorem cut3_mk (F : Fr h₀ L s'.heap m') (N : News h₀ L s'.heap news') (eg : s'.gens = g) (ed : s'.drawn = d) (eo : s'.os = o) (hs : ∀ p ∈ news, p ∈ news')
    (e1 : m' x1 = some (.int v1 t1)) (e2 : m' x2 = some (.int v2 t2)) (e3 : m' x3 = some (.int v3 t3)) (e : v1 = V1 ∧ v2 = V2 ∧ v3 = V3) : Cut3 h₀ L news g d o x1 x2 x3 V1 V2 V3 .next s' := by
  obtain ⟨rfl, rfl, rfl⟩ := e
  unfold Cut3
  subst eg ed eo
  exact ⟨rfl, m', s'.heap, s'.toks, t1, t2, t3, rfl, F, fun p hp => N p (hs p hp), e1, e2, e3⟩
theorem cut3 (F : Fr h₀ L h m) (N : News h₀ L h news) (eh : s.heap = h) (eg : s.gens = g) (ed : s.drawn = d) (eo : s.os = o) (h1 : ∀ t, wpAny M A (exec st env) (Cut3 h₀ L news g d o x1 x2 x3 V1 V2 V3) E ⟨h, g, d, t, o⟩)
    (h2 : ∀ (m' : Str → Option Value) (h' : Heap) (tk' : Nat) (t1 t2 t3 : Tok), Fr h₀ L h' m' → News h₀ L h' news → m' x1 = some (.int V1 t1) → m' x2 = some (.int V2 t2) → m' x3 = some (.int V3 t3) → wpAny M A (execs rest env) Q E ⟨h', g, d, tk', o⟩) :
    wpAny M A (execs (st :: rest) env) Q E s := by
  subst eh eg ed eo
  have _ := F
  have _ := N
  refine wpAny_execs_cons (wpAny_mono (h1 s.toks) (fun fl s' h => ?_) fun _ _ h => h)
  unfold Cut3 at h
  obtain ⟨rfl, m', h', tk', t1, t2, t3, rfl, F', N', e1, e2, e3⟩ := h
  exact h2 m' h' tk' t1 t2 t3 F' N' e1 e2 e3
end


section
local macro_rules | `(tactic| walk_at "execs cons") => `(tactic| (
  (with_reducible show wpAny _ _ (execs (Stmt.If (Expr.Compare _ _ _ _) _ _ _ :: _) _) _ _ _)
  k_here
  k_dflt (refine' cutI_new (x := Str.ofString "leap_adj") (V := if mo ≤ 2 then 0 else if leapF y = true then -1 else -2) ?F ?N ?eh ?eg ?ed ?eo (fun tk8 => ?_) (fun t9 h9 tk9 F9 N9 => ?_))
  walk_at "my flat"
  (try k_fold)
  rotate_left
  (try k_fold)
  rotate_left))

local macro_rules | `(tactic| walk_at "no such step") => `(tactic| fail "none")
theorem gj_end {y mo d a : Int} (ha : a = if mo ≤ 2 then 0 else if leapF y = true then -1 else -2) :
    1721426 - 1 + 365 * (y - 1) + (y - 1).fdiv 4 + -((y - 1).fdiv 100) + (y - 1).fdiv 400 + ((367 * mo - 362).fdiv 12 + a + d) = gj y mo d := by
  subst ha
  simp only [gj, fd4, fd100, fd400, fd12]
  omega
theorem c_gj {w : World} {s₀ : Shared} {mg mb : Str → Option Value} (y mo d : Int) (t1 t2 t3 : Tok)
   (hp : 1 ≤ d ∧ (d ≤ 28 ∨ (d ≤ 29 ∧ mo = 2 ∧ leapF y = true) ∨ (d ≤ 30 ∧ mo ≠ 2) ∨ (d ≤ 31 ∧ mo ≠ 2 ∧ mo ≠ 4 ∧ mo ≠ 6 ∧ mo ≠ 9 ∧ mo ≠ 11))) :
    Cl 6 w s₀ mg mb 86 [.int y t1, .int mo t2, .int d t3] (fun h₀ L m news s Q => Ret1 h₀ L m news s Q (fun t => .int (gj y mo d) t)) := by
  intro dp un gu cn cs a ccd cl outer A₀ base h₀ L m news s Q E B F X N T hk hd hu hret
  w_on
  refine wpAny_call ?_
  k_dflt cell_enter
  (repeat' (first | (k_unfold; (try dsimp only)) | walk1 | (dsimp only; walk1) | (leave1; walk_say "STEP leave1"; try dsimp only) | fail "no step"))
  all_goals first
    | (refine' cut_one ?F ?N rfl rfl rfl ?e
       (case F => k_asm)
       (case N => k_asm)
       (case e => first
         | exact (if_pos (by assumption)).symm
         | exact ((if_neg (by assumption)).trans (if_pos (by assumption))).symm
         | exact ((if_neg (by assumption)).trans (if_neg (Bool.eq_false_iff.mp (by assumption)))).symm))
    | (refine' cb_retI (Q := Q) hret ?e1 ?e2 ?e3; (case e2 => k_asm); (case e3 => k_asm); (case e1 => exact gj_end rfl))

end

local macro_rules | `(tactic| walk_at "call ref") => `(tactic| (
  k_here
  (with_reducible refine atRef 86 ?_)
  k_dflt (refine' clUse (c_gj _ _ _ _ _ _ ?hp) ?_)
  (case hp => (try dsimp only); first | assumption | omega | (refine ⟨by omega, Or.inl (by omega)⟩) | exact ok_of (by assumption) (by assumption))
  walk_at "my back1"))
theorem fd146097 (x : Int) : Int.fdiv x 146097 = x / 146097 := Int.fdiv_eq_ediv_of_nonneg x (by decide)
theorem fm146097 (x : Int) : Int.fmod x 146097 = x % 146097 := Int.fmod_eq_emod_of_nonneg x (by decide)
theorem fd36524 (x : Int) : Int.fdiv x 36524 = x / 36524 := Int.fdiv_eq_ediv_of_nonneg x (by decide)
theorem fm36524 (x : Int) : Int.fmod x 36524 = x % 36524 := Int.fmod_eq_emod_of_nonneg x (by decide)
theorem fd1461 (x : Int) : Int.fdiv x 1461 = x / 1461 := Int.fdiv_eq_ediv_of_nonneg x (by decide)
theorem fm1461 (x : Int) : Int.fmod x 1461 = x % 1461 := Int.fmod_eq_emod_of_nonneg x (by decide)
theorem fd365 (x : Int) : Int.fdiv x 365 = x / 365 := Int.fdiv_eq_ediv_of_nonneg x (by decide)
theorem fd367 (x : Int) : Int.fdiv x 367 = x / 367 := Int.fdiv_eq_ediv_of_nonneg x (by decide)
theorem fm3652059 (x : Int) : Int.fmod x 3652059 = x % 3652059 := Int.fmod_eq_emod_of_nonneg x (by decide)
theorem fm10003 (x : Int) : Int.fmod x 10003 = x % 10003 := Int.fmod_eq_emod_of_nonneg x (by decide)
theorem fm16 (x : Int) : Int.fmod x 16 = x % 16 := Int.fmod_eq_emod_of_nonneg x (by decide)
theorem fm34 (x : Int) : Int.fmod x 34 = x % 34 := Int.fmod_eq_emod_of_nonneg x (by decide)

theorem gf_step (y : Int) : gf y + 365 ≤ gf (y + 1) ∧ gf (y + 1) ≤ gf y + 366 := by
  have := gf_succ y
  rcases lp01 y with ⟨a, _⟩ | ⟨a, _⟩ <;> omega
theorem gf_mono {a b : Int} (h : a < b) : gf a + 365 ≤ gf b := by
  simp only [gf]
  omega
theorem gf_le {a b : Int} (h : a ≤ b) : gf a ≤ gf b := by
  rcases Int.lt_or_eq_of_le h with h | h
  · have := gf_mono h; omega
  · subst h; omega
/-- the year of a day -/
def gy (n : Int) : Int :=
  400 * ((n - 1721426) / 146097) + 100 * ((n - 1721426) % 146097 / 36524) + 4 * ((n - 1721426) % 146097 % 36524 / 1461) + (n - 1721426) % 146097 % 36524 % 1461 / 365
    + (if (n - 1721426) % 146097 / 36524 = 4 ∨ (n - 1721426) % 146097 % 36524 % 1461 / 365 = 4 then 0 else 1)
theorem gf_of {q c k i : Int} (hc : 0 ≤ c ∧ c ≤ 3) (hk : 0 ≤ k ∧ k ≤ 24) (hi : 0 ≤ i ∧ i ≤ 3) :
    gf (400 * q + 100 * c + 4 * k + i + 1) = 1721426 + 146097 * q + 36524 * c + 1461 * k + 365 * i := by
  have e : 400 * q + 100 * c + 4 * k + i + 1 - 1 = 400 * q + 100 * c + 4 * k + i := by omega
  simp only [gf, e]
  have e4 : (400 * q + 100 * c + 4 * k + i) / 4 = 100 * q + 25 * c + k := by omega
  have e100 : (400 * q + 100 * c + 4 * k + i) / 100 = 4 * q + c := by omega
  have e400 : (400 * q + 100 * c + 4 * k + i) / 400 = q := by omega
  rw [e4, e100, e400]
  omega
theorem gy_spec (n : Int) : gf (gy n) ≤ n ∧ n < gf (gy n + 1) := by
  have hq : n - 1721426 = 146097 * ((n - 1721426) / 146097) + (n - 1721426) % 146097 := by omega
  have hr : 0 ≤ (n - 1721426) % 146097 ∧ (n - 1721426) % 146097 < 146097 := by omega
  simp only [gy]
  generalize (n - 1721426) / 146097 = q at *
  generalize (n - 1721426) % 146097 = r at *
  have hc : r = 36524 * (r / 36524) + r % 36524 := by omega
  have hrc : 0 ≤ r % 36524 ∧ r % 36524 < 36524 := by omega
  have hc4 : 0 ≤ r / 36524 ∧ r / 36524 ≤ 4 := by omega
  generalize r / 36524 = c at *
  generalize r % 36524 = rc at *
  have hk : rc = 1461 * (rc / 1461) + rc % 1461 := by omega
  have hrk : 0 ≤ rc % 1461 ∧ rc % 1461 < 1461 := by omega
  have hk24 : 0 ≤ rc / 1461 ∧ rc / 1461 ≤ 24 := by omega
  generalize rc / 1461 = k at *
  generalize rc % 1461 = rk at *
  have hi : rk = 365 * (rk / 365) + rk % 365 := by omega
  have hri : 0 ≤ rk % 365 ∧ rk % 365 < 365 := by omega
  have hi4 : 0 ≤ rk / 365 ∧ rk / 365 ≤ 4 := by omega
  generalize rk / 365 = i at *
  generalize rk % 365 = ri at *
  by_cases c4 : c = 4
  · subst c4
    simp only [true_or, if_true]
    have e : 400 * q + 100 * 4 + 4 * k + i + 0 = 400 * q + 100 * 3 + 4 * 24 + 3 + 1 := by omega
    have g := gf_of (q := q) (c := 3) (k := 24) (i := 3) ⟨by decide, by decide⟩ ⟨by decide, by decide⟩ ⟨by decide, by decide⟩
    have g2 := gf_of (q := q + 1) (c := 0) (k := 0) (i := 0) ⟨by decide, by decide⟩ ⟨by decide, by decide⟩ ⟨by decide, by decide⟩
    have e2 : 400 * (q + 1) + 100 * 0 + 4 * 0 + 0 + 1 = 400 * q + 100 * 3 + 4 * 24 + 3 + 1 + 1 := by omega
    rw [e2] at g2
    rw [e, g, g2]
    omega
  · have hc3 : 0 ≤ c ∧ c ≤ 3 := ⟨hc4.1, Int.le_of_lt_add_one (Int.lt_iff_le_and_ne.mpr ⟨hc4.2, c4⟩)⟩
    by_cases i4 : i = 4
    · subst i4
      simp only [or_true, if_true]
      have e : 400 * q + 100 * c + 4 * k + 4 + 0 = 400 * q + 100 * c + 4 * k + 3 + 1 := by omega
      have e2 : 400 * q + 100 * c + 4 * (k + 1) + 0 + 1 = 400 * q + 100 * c + 4 * k + 3 + 1 + 1 := by omega
      have g := gf_of (q := q) (c := c) (k := k) (i := 3) hc3 hk24 ⟨by decide, by decide⟩
      have g2 := gf_of (q := q) (c := c) (k := k + 1) (i := 0) hc3 (by omega) ⟨by decide, by decide⟩
      rw [e2] at g2
      rw [e, g, g2]
      omega
    · simp only [c4, i4, or_self, if_false]
      have g := gf_of (q := q) (c := c) (k := k) (i := i) hc3 hk24 (by omega)
      have s := gf_step (400 * q + 100 * c + 4 * k + i + 1)
      omega
theorem gy_uniq {n y : Int} (h1 : gf y ≤ n) (h2 : n < gf (y + 1)) : y = gy n := by
  have ⟨h3, h4⟩ := gy_spec n
  rcases Int.lt_trichotomy y (gy n) with h | h | h
  · have := gf_le (show y + 1 ≤ gy n by omega); omega
  · exact h
  · have := gf_le (show gy n + 1 ≤ y by omega); omega
theorem gf_1 : gf 1 = 1721426 := by decide
theorem gf_10000 : gf 10000 = 5373485 := by decide
theorem gy_range (n : Int) : (1 ≤ gy n ∧ gy n ≤ 9999) ↔ (1721426 ≤ n ∧ n ≤ 5373484) := by
  have ⟨h3, h4⟩ := gy_spec n
  have a := gf_1
  have b := gf_10000
  constructor
  · rintro ⟨h, h'⟩
    have := gf_le h
    have := gf_le (show gy n + 1 ≤ 10000 by omega)
    omega
  · rintro ⟨h, h'⟩
    constructor
    · rcases Int.lt_or_le (gy n) 1 with k | k
      · have := gf_le (show gy n + 1 ≤ 1 by omega); omega
      · exact k
    · rcases Int.lt_or_le 9999 (gy n) with k | k
      · have := gf_le (show 10000 ≤ gy n by omega); omega
      · omega
/-- months and days -/
def adj (n : Int) : Int := if n - gf (gy n) < 58 + lp (gy n) then 0 else if leapF (gy n) = true then 1 else 2
def gm (n : Int) : Int := ((n - gf (gy n) + adj n) * 12 + 373) / 367
def gd (n : Int) : Int := n - gj (gy n) (gm n) 1 + 1
theorem gj_eq (y m d : Int) : gj y m d = gf y + ((367 * m - 362) / 12 + (if m ≤ 2 then 0 else lp y - 2) + d) - 1 := by
  rcases lp01 y with ⟨a, b⟩ | ⟨a, b⟩ <;> simp only [gj, gf, a, b, Bool.false_eq_true, if_false, if_true] <;> split <;> omega
/-- a year's days by their number alone: small tables, tried one by one -/
def cumF (l m : Int) : Int := (367 * m - 362) / 12 + (if m ≤ 2 then 0 else l - 2)
def mlF (l m : Int) : Int := if m = 2 then 28 + l else if m = 4 ∨ m = 6 ∨ m = 9 ∨ m = 11 then 30 else 31
def gmF (l k : Int) : Int := ((k + (if k < 58 + l then 0 else 2 - l)) * 12 + 373) / 367
theorem chk1 : ∀ l, l < 2 → ∀ m, m < 12 → 0 ≤ cumF (l : Nat) ((m : Nat) + 1) ∧ cumF (l : Nat) ((m : Nat) + 1) + mlF (l : Nat) ((m : Nat) + 1) ≤ 365 + (l : Nat) := by decide +kernel
theorem chk2 : ∀ l, l < 2 → ∀ k, k < 366 → ((k : Nat) : Int) < 365 + (l : Nat) → 1 ≤ gmF (l : Nat) (k : Nat) ∧ gmF (l : Nat) (k : Nat) ≤ 12 ∧ cumF (l : Nat) (gmF (l : Nat) (k : Nat)) ≤ (k : Nat) ∧ ((k : Nat) : Int) < cumF (l : Nat) (gmF (l : Nat) (k : Nat)) + mlF (l : Nat) (gmF (l : Nat) (k : Nat)) := by decide +kernel
theorem chk3 : ∀ l, l < 2 → ∀ m, m < 12 → ∀ m', m' < 12 → m < m' → cumF (l : Nat) ((m : Nat) + 1) + mlF (l : Nat) ((m : Nat) + 1) ≤ cumF (l : Nat) ((m' : Nat) + 1) := by decide +kernel
theorem lp_nat (y : Int) : ∃ l : Nat, l < 2 ∧ lp y = (l : Int) := by
  rcases lp01 y with ⟨a, _⟩ | ⟨a, _⟩
  · exact ⟨0, by decide, a⟩
  · exact ⟨1, by decide, a⟩
theorem m_nat {m : Int} (h : 1 ≤ m ∧ m ≤ 12) : ∃ k : Nat, k < 12 ∧ m = (k : Int) + 1 := ⟨(m - 1).toNat, by omega, by omega⟩
theorem gj_cum (y m d : Int) : gj y m d = gf y + (cumF (lp y) m + d) - 1 := gj_eq y m d
theorem ml_mlF (y m : Int) : ml y m = mlF (lp y) m := rfl
theorem gm_gmF (n : Int) : gm n = gmF (lp (gy n)) (n - gf (gy n)) := by
  rcases lp01 (gy n) with ⟨a, b⟩ | ⟨a, b⟩ <;> simp [gm, gmF, adj, a, b]
theorem cum_year {y m : Int} (hm : 1 ≤ m ∧ m ≤ 12) : 0 ≤ cumF (lp y) m ∧ cumF (lp y) m + ml y m ≤ 365 + lp y := by
  obtain ⟨l, hl, e⟩ := lp_nat y
  obtain ⟨k, hk, rfl⟩ := m_nat hm
  rw [ml_mlF, e]
  exact chk1 l hl k hk
theorem gm_day (n : Int) : 1 ≤ gm n ∧ gm n ≤ 12 ∧ cumF (lp (gy n)) (gm n) ≤ n - gf (gy n) ∧ n - gf (gy n) < cumF (lp (gy n)) (gm n) + ml (gy n) (gm n) := by
  have h0 := gy_spec n
  rw [gf_succ] at h0
  obtain ⟨l, hl, e⟩ := lp_nat (gy n)
  rw [gm_gmF, ml_mlF, e]
  rw [e] at h0
  obtain ⟨k, hk⟩ := Int.eq_ofNat_of_zero_le (show 0 ≤ n - gf (gy n) by omega)
  rw [hk]
  exact chk2 l hl k (by omega) (by omega)
theorem gd_spec (n : Int) : 1 ≤ gm n ∧ gm n ≤ 12 ∧ 1 ≤ gd n ∧ gd n ≤ ml (gy n) (gm n) ∧ gj (gy n) (gm n) (gd n) = n := by
  have h := gm_day n
  have e : gd n = n - gf (gy n) - cumF (lp (gy n)) (gm n) + 1 := by
    show n - gj (gy n) (gm n) 1 + 1 = _
    rw [gj_cum]
    omega
  rw [gj_cum, e]
  refine ⟨h.1, h.2.1, ?_, ?_, ?_⟩ <;> omega
/-- what the law tells of a day -/
def th (n : Int) : Int := n - n % 7 + 3
def t1 (n : Int) : Int := gy (th n)
def t2 (n : Int) : Int := (th n - gf (gy (th n))) / 7 + 1
def t3 (n : Int) : Int := n % 7 + 1
theorem t2_pos (n : Int) : 1 ≤ t2 n := by
  have ⟨h3, h4⟩ := gy_spec (th n)
  simp only [t2]
  omega
theorem iso_back (n : Int) : m1 (t1 n) + 7 * (t2 n - 1) + (t3 n - 1) = n := by
  have ⟨h3, h4⟩ := gy_spec (th n)
  simp only [m1, t1, t2, t3] at *
  have ht : th n % 7 = 3 := by simp only [th]; omega
  have hn : th n = n - n % 7 + 3 := rfl
  generalize gf (gy (th n)) = g at *
  generalize th n = t at *
  omega
theorem tell_of {n y w d : Int} (h1 : gf y ≤ n - n % 7 + 3) (h2 : n - n % 7 + 3 < gf (y + 1)) (hw : w = (n - n % 7 + 3 - gf y) / 7 + 1) (hd : d = n % 7 + 1) : y = t1 n ∧ w = t2 n ∧ d = t3 n := by
  have e : y = gy (th n) := gy_uniq h1 h2
  refine ⟨e, ?_, hd⟩
  rw [hw, e]
  rfl
theorem m1_bounds (y : Int) : gf y - 3 ≤ m1 y ∧ m1 y ≤ gf y + 3 ∧ m1 y % 7 = 0 := by simp only [m1]; omega
theorem valid_in {y m d : Int} (hm : 1 ≤ m ∧ m ≤ 12) (hd : 1 ≤ d ∧ d ≤ ml y m) : gf y ≤ gj y m d ∧ gj y m d < gf (y + 1) := by
  have h := cum_year (y := y) hm
  rw [gf_succ, gj_cum]
  omega
/-- from_gregorian's three ways -/
theorem greg_lo {n y : Int} (h1 : gf y ≤ n) (h2 : n < gf (y + 1)) (h : (n - m1 y) / 7 < 0) : y - 1 = t1 n ∧ (n - m1 (y - 1)) / 7 + 1 = t2 n ∧ (n - m1 (y - 1)) % 7 + 1 = t3 n := by
  have a := m1_bounds y
  have s := gf_step (y - 1)
  have e : y - 1 + 1 = y := by omega
  rw [e] at s
  have c : m1 (y - 1) = gf (y - 1) + 3 - (gf (y - 1) + 3) % 7 := rfl
  refine tell_of ?_ ?_ ?_ ?_
  · omega
  · rw [e]; omega
  · omega
  · omega
theorem greg_hi {n y : Int} (h1 : gf y ≤ n) (h2 : n < gf (y + 1)) (h : m1 (y + 1) ≤ n) : y + 1 = t1 n ∧ 0 + 1 = t2 n ∧ (n - m1 y) % 7 + 1 = t3 n := by
  have a := m1_bounds (y + 1)
  have b := m1_bounds y
  have s := gf_step (y + 1)
  refine tell_of ?_ ?_ ?_ ?_ <;> omega
theorem greg_mid {n y : Int} (h1 : gf y ≤ n) (h2 : n < gf (y + 1)) (h : ¬ (n - m1 y) / 7 < 0) (h' : ¬ (52 ≤ (n - m1 y) / 7 ∧ m1 (y + 1) ≤ n)) : y = t1 n ∧ (n - m1 y) / 7 + 1 = t2 n ∧ (n - m1 y) % 7 + 1 = t3 n := by
  have s := gf_step y
  have c : m1 y = gf y + 3 - (gf y + 3) % 7 := rfl
  have c' : m1 (y + 1) = gf (y + 1) + 3 - (gf (y + 1) + 3) % 7 := rfl
  have k : n < m1 (y + 1) := by
    rcases Int.lt_or_le n (m1 (y + 1)) with k | k
    · exact k
    · exact absurd ⟨by omega, k⟩ h'
  refine tell_of ?_ ?_ ?_ ?_ <;> omega
theorem wpy_eq (y : Int) : (gf (y + 1) - 1 - (gf y + (3 - gf y) % 7)) / 7 + 1 = wpy y := by
  have s := gf_succ y
  rcases lp01 y with ⟨a, b⟩ | ⟨a, b⟩ <;> simp only [wpy, b, Bool.false_eq_true, and_false, or_false, and_true, if_false] <;> split <;> omega
theorem wpy_range (y : Int) : wpy y = 52 ∨ wpy y = 53 := by simp only [wpy]; split <;> simp
theorem thursday_eq (y : Int) : gf y + (3 - gf y) % 7 = m1 y + 3 := by simp only [m1]; omega
theorem tell_iso {y w d n : Int} (hw : 1 ≤ w ∧ w ≤ wpy y) (hd : 1 ≤ d ∧ d ≤ 7) (hn : n = m1 y + 7 * (w - 1) + (d - 1)) : y = t1 n ∧ w = t2 n ∧ d = t3 n := by
  have a := m1_bounds y
  have e := wpy_eq y
  have t := thursday_eq y
  have c : m1 y = gf y + 3 - (gf y + 3) % 7 := rfl
  refine tell_of ?_ ?_ ?_ ?_ <;> omega
theorem ok_of {y m d : Int} (hm : 1 ≤ m ∧ m ≤ 12) (hd : 1 ≤ d ∧ d ≤ ml y m) :
    1 ≤ d ∧ (d ≤ 28 ∨ (d ≤ 29 ∧ m = 2 ∧ leapF y = true) ∨ (d ≤ 30 ∧ m ≠ 2) ∨ (d ≤ 31 ∧ m ≠ 2 ∧ m ≠ 4 ∧ m ≠ 6 ∧ m ≠ 9 ∧ m ≠ 11)) := by
  refine ⟨hd.1, ?_⟩
  have h := hd.2
  simp only [ml] at h
  split at h
  · rcases lp01 y with ⟨a, b⟩ | ⟨a, b⟩
    · left; omega
    · right; left; exact ⟨by omega, by assumption, b⟩
  · split at h
    · right; right; left; exact ⟨h, by assumption⟩
    · right; right; right; omega
theorem lp_range (y : Int) : lp y = 0 ∨ lp y = 1 := by rcases lp01 y with ⟨a, b⟩ | ⟨a, b⟩ <;> simp [a]
theorem cum_lt {y m m' : Int} (hm : 1 ≤ m ∧ m ≤ 12) (hm' : 1 ≤ m' ∧ m' ≤ 12) (h : m < m') : cumF (lp y) m + ml y m ≤ cumF (lp y) m' := by
  obtain ⟨l, hl, e⟩ := lp_nat y
  obtain ⟨k, hk, rfl⟩ := m_nat hm
  obtain ⟨k', hk', rfl⟩ := m_nat hm'
  rw [ml_mlF, e]
  exact chk3 l hl k hk k' hk' (by omega)
theorem date_uniq {n m d : Int} (hm : 1 ≤ m ∧ m ≤ 12) (hd : 1 ≤ d ∧ d ≤ ml (gy n) m) (h : gj (gy n) m d = n) : m = gm n ∧ d = gd n := by
  have g := gm_day n
  rw [gj_cum] at h
  have e : m = gm n := by
    rcases Int.lt_trichotomy m (gm n) with q | q | q
    · have := cum_lt (y := gy n) hm ⟨g.1, g.2.1⟩ q
      omega
    · exact q
    · have := cum_lt (y := gy n) ⟨g.1, g.2.1⟩ hm q
      omega
  refine ⟨e, ?_⟩
  subst e
  show d = n - gj (gy n) (gm n) 1 + 1
  rw [gj_cum]
  omega
theorem ml_1 {y m : Int} (h : m = 2) (hl : leapF y = true) : [0, 31, 28, 31, 30, 31, 30, 31, 31, 30, 31, 30, 31].getD m.toNat 0 + 1 = ml y m := by
  subst h
  simp [ml, lp, hl]
theorem ml_2 {y m : Int} (h : m = 2) (hl : leapF y = false) : [0, 31, 28, 31, 30, 31, 30, 31, 31, 30, 31, 30, 31].getD m.toNat 0 + 0 = ml y m := by
  subst h
  simp [ml, lp, hl]
theorem chk6 : ∀ l, l < 2 → ∀ m, m < 12 → ((m : Nat) : Int) + 1 ≠ 2 → [0, 31, 28, 31, 30, 31, 30, 31, 31, 30, 31, 30, 31].getD (m + 1) 0 + 0 = mlF (l : Nat) ((m : Nat) + 1) := by decide +kernel
theorem ml_3 {y m : Int} (hm : 1 ≤ m ∧ m ≤ 12) (h : m ≠ 2) : [0, 31, 28, 31, 30, 31, 30, 31, 31, 30, 31, 30, 31].getD m.toNat 0 + 0 = ml y m := by
  obtain ⟨l, hl, e⟩ := lp_nat y
  obtain ⟨k, hk, rfl⟩ := m_nat hm
  rw [ml_mlF, e, show ((k : Int) + 1).toNat = k + 1 by omega]
  exact chk6 l hl k hk h

abbrev tup3 (x y z : Int) (u1 u2 u3 : Tok) (c : Nat) : Obj := { cls := .type "tuple", data := .seq #[.int x u1, .int y u2, .int z u3] c }
abbrev Ret3 (h₀ : Heap) (L : Addr) (m : Str → Option Value) (news : List (Addr × Obj)) (s : Shared) (Q : Value → Shared → Prop) (x y z : Int) : Prop :=
  ∀ (D : Addr) (u1 u2 u3 : Tok) (c : Nat) (h' : Heap) (tk' : Nat), Fr h₀ L h' m → News h₀ L h' ((D, tup3 x y z u1 u2 u3 c) :: news) → Q (.ref D) { s with heap := h', toks := tk' }
theorem ret3 {h₀ h' : Heap} {L D : Addr} {m : Str → Option Value} {news news' : List (Addr × Obj)} {s : Shared} {Q : Value → Shared → Prop} {x y z x' y' z' : Int} {u1 u2 u3 : Tok} {c tk' : Nat}
    (hret : Ret3 h₀ L m news s Q x y z) (F : Fr h₀ L h' m) (N : News h₀ L h' news') (hm : (D, tup3 x' y' z' u1 u2 u3 c) ∈ news') (hs : ∀ p ∈ news, p ∈ news') (e : x' = x ∧ y' = y ∧ z' = z) : Q (.ref D) { s with heap := h', toks := tk' } := by
  obtain ⟨rfl, rfl, rfl⟩ := e
  refine hret D u1 u2 u3 c h' tk' F (fun p hp => ?_)
  rcases List.mem_cons.mp hp with rfl | hp
  · exact N _ hm
  · exact N p (hs p hp)
theorem fj_end {n Y a : Int} (hY : Y = gy n) (ha : a = if n - gj Y 1 1 < 58 + (if leapF Y = true then 1 else 0) then 0 else if leapF Y = true then 1 else 2) :
    Y = gy n ∧ ((n - gj Y 1 1 + a) * 12 + 373).fdiv 367 = gm n ∧ n - gj Y (((n - gj Y 1 1 + a) * 12 + 373).fdiv 367) 1 + 1 = gd n := by
  subst hY
  have e : a = adj n := by
    rw [ha, gj_one]
    rcases lp01 (gy n) with ⟨a, b⟩ | ⟨a, b⟩ <;> simp [adj, a, b]
  subst e
  have e2 : ((n - gj (gy n) 1 1 + adj n) * 12 + 373).fdiv 367 = gm n := by
    rw [fd367, gj_one]
    rfl
  rw [e2]
  exact ⟨rfl, rfl, rfl⟩
/-- the year as from_jd reckons it, on its three ways -/
theorem fy_a {n : Int} (h : ((n - 1721426).fmod 146097).fdiv 36524 = 4) :
    (n - 1721426).fdiv 146097 * 400 + ((n - 1721426).fmod 146097).fdiv 36524 * 100 + (((n - 1721426).fmod 146097).fmod 36524).fdiv 1461 * 4 + ((((n - 1721426).fmod 146097).fmod 36524).fmod 1461).fdiv 365 = gy n := by
  simp only [gy, fd146097, fm146097, fd36524, fm36524, fd1461, fm1461, fd365] at *
  rw [if_pos (Or.inl h)]
  omega
theorem fy_b {n : Int} (h : ((((n - 1721426).fmod 146097).fmod 36524).fmod 1461).fdiv 365 = 4) :
    (n - 1721426).fdiv 146097 * 400 + ((n - 1721426).fmod 146097).fdiv 36524 * 100 + (((n - 1721426).fmod 146097).fmod 36524).fdiv 1461 * 4 + ((((n - 1721426).fmod 146097).fmod 36524).fmod 1461).fdiv 365 = gy n := by
  simp only [gy, fd146097, fm146097, fd36524, fm36524, fd1461, fm1461, fd365] at *
  rw [if_pos (Or.inr h)]
  omega
theorem fy_c {n : Int} (h : ((n - 1721426).fmod 146097).fdiv 36524 ≠ 4) (h2 : ((((n - 1721426).fmod 146097).fmod 36524).fmod 1461).fdiv 365 ≠ 4) :
    (n - 1721426).fdiv 146097 * 400 + ((n - 1721426).fmod 146097).fdiv 36524 * 100 + (((n - 1721426).fmod 146097).fmod 36524).fdiv 1461 * 4 + ((((n - 1721426).fmod 146097).fmod 36524).fmod 1461).fdiv 365 + 1 = gy n := by
  simp only [gy, fd146097, fm146097, fd36524, fm36524, fd1461, fm1461, fd365] at *
  rw [if_neg (fun q => q.elim h h2)]
  omega
/-- a contract at the law's own level: no frame below its own -/
abbrev ClT (lv : Nat) (w : World) (s₀ : Shared) (mg mb : Str → Option Value) (f : Addr) (vs : List Value)
    (Post : (h₀ : Heap) → (L : Addr) → (m : Str → Option Value) → (news : List (Addr × Obj)) → (s : Shared) → (Q : Value → Shared → Prop) → Prop) : Prop :=
  ∀ (dp un : Nat) (gd : Option (List Code)) (cn : Str) (cs : Scope) (a : Addr) (ccd : Value) (A₀ : Around) (h₀ : Heap) (L : Addr) (m : Str → Option Value) (news : List (Addr × Obj)) (s : Shared) (Q E : Value → Shared → Prop),
    Below A₀ h₀ [] h₀ → Fr h₀ L s.heap m → (hd.heap_39 w.params).In h₀ → News h₀ L s.heap news →
    Top hd.view_39 (looseW hd.view_39 [Str.ofString "to_jd_gregorian", Str.ofString "from_jd_gregorian", Str.ofString "to_jd_iso", Str.ofString "from_jd_iso"]) (ExcName.means s₀.heap) mg mb h₀ → cs.kind = .function → dp + lv < recursionLimit → un + 8 * lv < cLine →
    Post h₀ L m news s Q →
      wpAny (model Challenge.rw_jb0006_01.row.prog w) (ktrTop dp un gd cn cs L a ccd [] []) (call (.ref f) vs) Q E s
theorem clTUse {lv : Nat} {w : World} {s₀ : Shared} {mg mb : Str → Option Value} {f : Addr} {vs : List Value}
    {Post : (h₀ : Heap) → (L : Addr) → (m : Str → Option Value) → (news : List (Addr × Obj)) → (s : Shared) → (Q : Value → Shared → Prop) → Prop} (c : ClT lv w s₀ mg mb f vs Post)
    {dp un : Nat} {gd : Option (List Code)} {cn : Str} {cs : Scope} {a : Addr} {ccd : Value} {A₀ : Around} {h₀ : Heap} {L : Addr} {m : Str → Option Value} {news : List (Addr × Obj)} {s : Shared} {Q E : Value → Shared → Prop}
    (k : Post h₀ L m news s Q) (k1 : Below A₀ h₀ [] h₀ := by k_asm) (k2 : Fr h₀ L s.heap m := by k_asm) (k3 : (hd.heap_39 w.params).In h₀ := by k_asm) (k4 : News h₀ L s.heap news := by k_asm)
    (k5 : Top hd.view_39 (looseW hd.view_39 [Str.ofString "to_jd_gregorian", Str.ofString "from_jd_gregorian", Str.ofString "to_jd_iso", Str.ofString "from_jd_iso"]) (ExcName.means s₀.heap) mg mb h₀ := by k_asm) (kK : cs.kind = .function := by first | exact rfl | assumption) (kd : dp + lv < recursionLimit := by ktr_room) (ku : un + 8 * lv < cLine := by ktr_units) : wpAny (model Challenge.rw_jb0006_01.row.prog w) (ktrTop dp un gd cn cs L a ccd [] []) (call (.ref f) vs) Q E s :=
  c dp un gd cn cs a ccd A₀ h₀ L m news s Q E k1 k2 k3 k4 k5 kK kd ku k

theorem c_first {w : World} {s₀ : Shared} {mg mb : Str → Option Value} (y : Int) (t1 : Tok) :
    Cl 3 w s₀ mg mb 149 [.int y t1] (fun h₀ L m news s Q => Ret1 h₀ L m news s Q (fun t => .int (gf y) t)) := by
  intro dp un gu cn cs a ccd cl outer A₀ base h₀ L m news s Q E B F X N T hk hd hu hret
  w_on
  refine wpAny_call ?_
  k_dflt cell_enter
  k_steps
  all_goals (refine' cb_retI (Q := Q) hret ?e1 ?e2 ?e3; (case e2 => k_asm); (case e3 => first | k_asm | (refine' cb_drop ?cbN ?cbS; (case cbN => assumption); (case cbS => kcj_all))); (case e1 => (simp only [gf, fd4, fd100, fd400, fm400]; (repeat' split) <;> omega)))

local macro_rules | `(tactic| walk_at "call ref") => `(tactic| (
  k_here
  (with_reducible refine atRef 149 ?_)
  k_dflt (refine' clUse (c_first _ _) ?_)
  walk_at "my back1"))
theorem c_w1 {w : World} {s₀ : Shared} {mg mb : Str → Option Value} (y : Int) (t1 : Tok) :
    Cl 8 w s₀ mg mb 128 [.int y t1] (fun h₀ L m news s Q => Ret1 h₀ L m news s Q (fun t => .int (m1 y) t)) := by
  intro dp un gu cn cs a ccd cl outer A₀ base h₀ L m news s Q E B F X N T hk hd hu hret
  w_on
  refine wpAny_call ?_
  k_dflt cell_enter
  k_steps
  all_goals (refine' cb_retI (Q := Q) hret ?e1 ?e2 ?e3; (case e2 => k_asm); (case e3 => k_asm); (case e1 => (simp only [m1, gj_one, fm7] at *; omega)))

theorem c_wpy {w : World} {s₀ : Shared} {mg mb : Str → Option Value} (y : Int) (t1 : Tok) :
    Cl 8 w s₀ mg mb 121 [.int y t1] (fun h₀ L m news s Q => Ret1 h₀ L m news s Q (fun t => .int (wpy y) t)) := by
  intro dp un gu cn cs a ccd cl outer A₀ base h₀ L m news s Q E B F X N T hk hd hu hret
  w_on
  refine wpAny_call ?_
  k_dflt cell_enter
  k_steps
  all_goals (refine' cb_retI (Q := Q) hret ?e1 ?e2 ?e3; (case e2 => k_asm); (case e3 => k_asm); (case e1 => (simp only [wpy, gj_one, fm7] at *; split <;> simp_all)))

theorem c_ij {w : World} {s₀ : Shared} {mg mb : Str → Option Value} (y wk d : Int) (t1 t2 t3 : Tok) (hp : 1 ≤ wk) :
    Cl 8 w s₀ mg mb 107 [.int y t1, .int wk t2, .int d t3] (fun h₀ L m news s Q => Ret1 h₀ L m news s Q (fun t => .int (m1 y + 7 * (wk - 1) + (d - 1)) t)) := by
  intro dp un gu cn cs a ccd cl outer A₀ base h₀ L m news s Q E B F X N T hk hd hu hret
  w_on
  refine wpAny_call ?_
  k_dflt cell_enter
  k_steps
  all_goals (refine' cb_retI (Q := Q) hret ?e1 ?e2 ?e3; (case e2 => k_asm); (case e3 => k_asm); (case e1 => (simp only [m1, gj_dec, fm7] at *; omega)))

local macro_rules | `(tactic| walk_at "call ref") => `(tactic| (
  k_here
  (with_reducible refine atRef 128 ?_)
  k_dflt (refine' clUse (c_w1 _ _) ?_)
  walk_at "my back1"))
theorem adjust_upto (b n : Nat) (hb : b ≤ n) : Builtin.Slice.sliceAdjust none (some (b : Int)) 1 (n : Int) = (0, (b : Int)) := by
  unfold Builtin.Slice.sliceAdjust
  have h1 : ¬ ((1 : Int) < 0) := by omega
  have h2 : ¬ ((b : Int) < 0) := by omega
  simp only [h1, h2, if_false]
  congr 1
  omega
theorem places_upto (b : Nat) : Builtin.Slice.slicePlaces (0 : Int) (b : Int) 1 = b := by
  unfold Builtin.Slice.slicePlaces
  have h1 : (1 : Int) > 0 := by omega
  simp only [h1, if_true, Int.ediv_one]
  split <;> omega
section
variable {prog : Program} {w : World} {A : Around} {E : Value → Shared → Prop} {s : Shared} {h₀ : Heap} {L : Addr} {m : Str → Option Value} {news : List (Addr × Obj)}
theorem applied_upto {sl : Addr} {b n : Nat} {u : Tok} {Q : Int × Int × Nat → Shared → Prop} (hs : s.heap.IsSliceOf sl .none (.int b u) .none) (hb : b ≤ n) (h : Q (0, 1, b) s) :
    wpAny (model prog w) A (Builtin.Slice.sliceApplied (.ref sl) (pure (n : Int))) Q E s := by
  obtain ⟨os, hos, hcs, hds⟩ := id hs
  unfold Builtin.Slice.sliceApplied Builtin.Slice.sliceFields
  refine wpAny_bind (wpAny_bind (wpAny_field hos hds (x := .none) rfl (wpAny_bind (wpAny_field hos hds (x := .int b u) rfl (wpAny_bind (wpAny_field hos hds (x := .none) rfl (wpAny_pure ?_)))))))
  refine wpAny_bind (slicePart_none ?_)
  show wpAny _ _ (if ((1 : Int) == 0) = true then _ else _) _ _ s
  rw [if_neg (by decide)]
  refine wpAny_bind (slicePart_none (wpAny_bind (slicePart_int (wpAny_bind (wpAny_pure ?_)))))
  show wpAny _ _ (match Builtin.Slice.sliceAdjust none (some (b : Int)) 1 (n : Int) with | (lo, hi) => pure (lo, (1 : Int), Builtin.Slice.slicePlaces lo hi 1)) _ _ s
  rw [adjust_upto b n hb]
  show wpAny _ _ (pure ((0 : Int), (1 : Int), Builtin.Slice.slicePlaces (0 : Int) (b : Int) 1)) _ _ s
  rw [places_upto b]
  exact wpAny_pure h
theorem pick_upto (xs : Array Value) (b : Nat) : ((List.range b).filterMap fun (k : Nat) => xs[((0 : Int) + (k : Int) * 1).toNat]?).toArray = (xs.toList.take b).toArray := by
  congr 1
  have e : (fun (k : Nat) => xs[((0 : Int) + (k : Int) * 1).toNat]?) = fun k => xs[k]? := by
    funext k
    have : ((0 : Int) + (k : Int) * 1).toNat = k := by omega
    rw [this]
  rw [e]
  induction b with
  | zero => simp
  | succ b ih =>
    rw [List.range_succ, List.filterMap_append, ih, List.take_succ]
    congr 1
    cases h : xs[b]? <;> simp [h, Array.getElem?_toList]
theorem getItem_upto {t sl : Addr} {items : Array Value} {b : Nat} {u : Tok} {Q : Value → Shared → Prop} (ht : IsTup s.heap t items) (hs : s.heap.IsSliceOf sl .none (.int b u) .none) (hb : b < items.size)
    (h : Q (.ref s.heap.objs.size) { s with heap := s.heap.push { cls := .type "tuple", data := .seq (items.toList.take b).toArray } })
    (hsz : items.size ≤ sizeLine := by size_fits) : wpAny (model prog w) A (getItem (.ref t) (.ref sl)) Q E s := by
  have htake : sizeOk (.seq (items.toList.take b).toArray) := by
    show (items.toList.take b).toArray.size ≤ sizeLine
    rw [List.size_toArray, List.length_take, Array.length_toList]
    omega
  obtain ⟨os, hos, hcs, hds⟩ := id hs
  have hTs : s.TypeIs (.ref sl) "slice" := ⟨os, hos, hcs⟩
  unfold getItem
  try with_reducible refine wpAny_holding ?_
  first | refine wpAny_bind (wpAny_pure ?_) | skip
  refine wpAny_bind (wpAny_sequenceKey ht.typeIs (by decide) ?_)
  refine wpAny_bind (wpAny_callSpecial?_slot (name := Str.ofString "__getitem__") ht.typeIs slot_tuple_getitem
    (wpAny_call_entry slot_tuple_getitem ht.typeIs entry_tuple_getitem ?_ (args_tuple_getitem _ _)))
  show wpAny _ _ (Builtin.Tuple.tupleItemsOf (.ref t) >>= _) _ _ s
  refine wpAny_bind (tupleItemsOf_ ht ?_)
  refine wpAny_bind (wpAny_typeOf hTs ?_)
  rw [if_pos (by decide)]
  refine wpAny_bind (applied_upto hs (Nat.le_of_lt hb) ?_)
  have hno : ¬ (((0 : Int) == 0 && (1 : Int) == 1 && b == items.size) = true) := by
    have : (b == items.size) = false := by rw [beq_eq_false_iff_ne]; omega
    rw [this]; simp
  show wpAny _ _ (if ((0 : Int) == 0 && (1 : Int) == 1 && b == items.size) = true then _ else _) _ _ s
  rw [if_neg hno, pick_upto items b]
  first
    | exact wpAny_bind (m := Builtin.Tuple.tupleExact _) (wpAny_newObj_type (wpAny_pure ⟨_, rfl, wpAny_pure h⟩) htake)
    | exact wpAny_bind (m := Builtin.Tuple.tupleExact _) (wpAny_newObj_type (wpAny_bind (wpAny_pure (wpAny_pure ⟨_, rfl, wpAny_pure h⟩))) htake)
    | exact wpAny_bind (wpAny_bind (m := Builtin.Tuple.tupleExact _) (wpAny_newObj_type (wpAny_pure (wpAny_pure ⟨_, rfl, wpAny_pure h⟩)) htake))
    | exact wpAny_bind (wpAny_bind (m := Builtin.Tuple.tupleExact _) (wpAny_newObj_type (wpAny_pure ⟨_, rfl, wpAny_pure h⟩) htake))
theorem slice_upto {value slice : PySem.Expr} {t : Addr} {items : Array Value} {vs : List Value} {k : Int} {u : Tok} {Q : Value → Shared → Prop}
    (F : Fr h₀ L s.heap m) (N : News h₀ L s.heap news) (ht : IsTup s.heap t items) (h0 : 0 ≤ k) (hb : k < items.size) (hv : items.toList.take k.toNat = vs)
    (h : ∀ D h', Fr h₀ L h' m → News h₀ L h' ((D, ({ cls := .type "tuple", data := .seq vs.toArray } : Obj)) :: news) → (∀ p ∈ news, p.1 < D) → Q (.ref D) { s with heap := h' })
    (hs : subscripted slice false (.ref t) (.ref s.heap.objs.size) = operate [.ref s.heap.objs.size, .ref t] (getItem (.ref t) (.ref s.heap.objs.size)))
    (hg : ∀ r, letTemporaryGo value (.ref t) r = pure ())
    (hsz : items.size ≤ sizeLine) :
    wpAny (model prog w) A (subscriptTail value slice (.ref t) (.ref s.heap.objs.size)) Q E { s with heap := s.heap.push { cls := .type "slice", data := .fields #[.none, .int k u, .none] } } := by
  subst hv
  obtain ⟨b, rfl⟩ : ∃ b : Nat, k = b := ⟨k.toNat, by omega⟩
  rw [Int.toNat_natCast] at h
  have ht' : IsTup (s.heap.push { cls := .type "slice", data := .fields #[.none, .int b u, .none] }) t items := ht.keeps fun _ _ e => Heap.get?_push_of_some _ e
  refine subscriptTail_ops (s := { s with heap := s.heap.push { cls := .type "slice", data := .fields #[.none, .int b u, .none] } }) ht'.typeIs slot_tuple_getitem.lookup
    (getItem_upto ht' (Heap.IsSliceOf.new ..) (by omega) ?_ hsz) hs hg
  have N1 := News.push (F.push { cls := .type "slice", data := .fields #[.none, .int b u, .none] }) (N.grown fun _ _ e => Heap.get?_push_of_some _ e) { cls := .type "tuple", data := .seq (items.toList.take b).toArray }
  rw [Heap.size_push] at N1
  show Q (.ref (s.heap.push _).objs.size) _
  rw [Heap.size_push]
  exact h _ _ ((F.push _).push _) N1 (fun p hp => Nat.lt_succ_of_lt (Heap.lt_size (N p hp).1))
end

def TurnEnd (h₀ : Heap) (L : Addr) (s : Shared) (nw : List (Addr × Obj)) (J : (Str → Option Value) → Prop) (f : Flow) (s₂ : Shared) : Prop :=
  f = .next ∧ ∃ (h' : Heap) (tk' : Nat) (m' : Str → Option Value), s₂ = { s with heap := h', toks := tk' } ∧ Fr h₀ L h' m' ∧ News h₀ L h' nw ∧ J m'
section
variable {prog : Program} {w : World} {A : Around} {E : Value → Shared → Prop} {s : Shared} {env : Env} {h₀ : Heap} {x : Str} {body : List Stmt} {Q : Flow → Shared → Prop}
theorem iter_tupF {ax : Addr} {lo : Obj} {vs : List Value} {n : Nat} {m₀ : Str → Option Value} {news : List (Addr × Obj)} (J : (Str → Option Value) → Prop)
    (hh : A.handled = none) (F : Fr h₀ env.locals s.heap m₀) (N : News h₀ env.locals s.heap news) (hm : (ax, lo) ∈ news) (hc : lo.cls = .type "tuple") (hd : lo.data = .seq vs.toArray n) (hJ : J m₀)
    (turn : ∀ v m₁ nw h tk, v ∈ vs → J m₁ → Fr h₀ env.locals h (fun y => if y = x then some v else m₁ y) → News h₀ env.locals h nw →
      wpAny (model prog w) A (execs body env) (TurnEnd h₀ env.locals { s with heap := h, toks := tk } nw J) E { s with heap := h, toks := tk })
    (done : ∀ m₁ h tk, J m₁ → Fr h₀ env.locals h m₁ → News h₀ env.locals h news → Q .next { s with heap := h, toks := tk }) :
    wpAny (model prog w) A (pyIter (.ref ax)) (fun it s₂ => LoopAtV prog w A h₀ env x body Q E it s₂) E s := by
  have hax := N _ hm
  have hl : IsTup s.heap ax vs.toArray := ⟨lo, hax.1, hc, n, hd⟩
  have hlt : ax < s.heap.objs.size := Heap.lt_size hax.1
  have hne : ax ≠ s.heap.objs.size := Nat.ne_of_lt hlt
  refine iter_tuple hl ?_
  have W := Walks.tuple (prog := prog) (w := w) hh s.heap.objs.size ax hne vs.toArray
  have hnew := next_is_new F
  have hlen : vs.toArray.size = vs.length := by simp
  rw [hlen] at W
  let JJ : Nat → (Str → Option Value) → List (Addr × Obj) → Prop := fun _ m₁ news₁ => news₁ = news ∧ J m₁
  refine ⟨_, _, _, vs.length, _, _, m₀, news, JJ, rfl, W, ?_, ?_, ?_, ⟨⟨_, Heap.get?_push_size _ rfl, rfl, rfl⟩, hl.keeps fun _ _ e => Heap.get?_push_of_some _ e⟩, F.push _, (fun p hp => ⟨Heap.get?_push_of_some _ (N p hp).1, (N p hp).2⟩), ⟨rfl, hJ⟩, ?_, ?_⟩
  · intro hmm
    rcases List.mem_cons.mp hmm with e | hmm
    · exact absurd F.ns.lt (e ▸ Nat.lt_irrefl _)
    · exact hax.2.1 (List.mem_singleton.mp hmm).symm
  · intro b hb
    rw [List.mem_singleton.mp hb]
    exact hnew
  · intro p hp hI
    exact absurd (Heap.lt_size (N p hp).1) ((List.mem_singleton.mp hI) ▸ Nat.lt_irrefl _)
  · rintro i v m₁ news₁ s₁ own ⟨hh', tk', rfl⟩ hin hP ⟨hnw, hJ₁⟩ hoff hown hget hall hst F₁ N₁
    have hv : v ∈ vs := by
      have : vs[i]? = some v := by simpa using hP
      exact List.mem_of_getElem? this
    refine wpAny_mono (turn v m₁ (own ++ news₁) hh' tk' hv hJ₁ F₁ N₁) (fun f s₂ p => ?_) fun _ _ e => e
    obtain ⟨rfl, h', tk, m', rfl, F', N', hJ'⟩ := p
    exact .next ⟨rfl, h', tk, m', news₁, rfl, F', N', hoff, hnw, hJ'⟩
  · rintro h' tk m' news' F' N' _ ⟨rfl, hJ'⟩
    exact done m' h' tk hJ' F' N'
theorem iter_first {ax : Addr} {lo : Obj} {vs : List Value} {ns : List Int} {n : Nat} {m₀ : Str → Option Value} {news : List (Addr × Obj)} {nm : Str} {k₀ : Int} {t₀ : Tok}
    (hh : A.handled = none) (F : Fr h₀ env.locals s.heap m₀) (N : News h₀ env.locals s.heap news) (hm : (ax, lo) ∈ news) (hc : lo.cls = .type "tuple") (hd : lo.data = .seq vs.toArray n) (hi : IntsAre vs ns) (h0 : m₀ nm = some (.int k₀ t₀)) (hx : m₀ x = none)
    (turn : ∀ (k d : Int) (t u : Tok) (dv : Option Value) nw h tk, Fr h₀ env.locals h (fun y => if y = x then some (.int d u) else (fun y => if y = x then dv else if y = nm then some (.int k t) else m₀ y) y) → News h₀ env.locals h nw →
      wpAny (model prog w) A (execs body env) (TurnEnd h₀ env.locals { s with heap := h, toks := tk } nw (fun m₁ => ∃ (k : Int) (t : Tok) (dv : Option Value), m₁ = fun y => if y = x then dv else if y = nm then some (.int k t) else m₀ y)) E { s with heap := h, toks := tk })
    (done : ∀ (k : Int) (t : Tok) (dv : Option Value) h tk, Fr h₀ env.locals h (fun y => if y = x then dv else if y = nm then some (.int k t) else m₀ y) → News h₀ env.locals h news → Q .next { s with heap := h, toks := tk }) :
    wpAny (model prog w) A (pyIter (.ref ax)) (fun it s₂ => LoopAtV prog w A h₀ env x body Q E it s₂) E s := by
  refine iter_tupF (fun m₁ => ∃ (k : Int) (t : Tok) (dv : Option Value), m₁ = fun y => if y = x then dv else if y = nm then some (.int k t) else m₀ y) hh F N hm hc hd ⟨k₀, t₀, none, ?_⟩ ?_ ?_
  · funext y
    by_cases e : y = x
    · subst e; simp [hx]
    · by_cases e2 : y = nm
      · subst e2; simp [e, h0]
      · simp [e, e2]
  · rintro v m₁ nw h tk hv ⟨k, t, dv, rfl⟩ F₁ N₁
    obtain ⟨d, u, rfl⟩ : ∃ d u, v = .int d u := by
      clear F₁ N₁ turn done hd
      induction hi with
      | nil => cases hv
      | cons n t _ ih =>
        rcases List.mem_cons.mp hv with rfl | hv
        · exact ⟨_, _, rfl⟩
        · exact ih hv
    exact turn k d t u dv nw h tk F₁ N₁
  · rintro m₁ h tk ⟨k, t, dv, rfl⟩ F₁ N₁
    exact done k t dv h tk F₁ N₁
theorem turn_end {h₀ : Heap} {L : Addr} {s : Shared} {nw : List (Addr × Obj)} {J : (Str → Option Value) → Prop} {h' : Heap} {tk' : Nat} {m' : Str → Option Value} (F : Fr h₀ L h' m') (N : News h₀ L h' nw) (hJ : J m') :
    TurnEnd h₀ L s nw J .next { s with heap := h', toks := tk' } := ⟨rfl, h', tk', m', rfl, F, N, hJ⟩
/-- a turn of a written list that makes nothing -/
theorem unr_end {h₀ : Heap} {L I : Addr} {it : Obj} {rest : (Str → Option Value) → List (Addr × Obj) → Prop} {s₁ : Shared} {h' : Heap} {tk : Nat} {m' : Str → Option Value} {news : List (Addr × Obj)} (l : ∀ p ∈ news, p.1 < I)
    (F : Fr h₀ L h' m') (N : News h₀ L h' ((I, it) :: news)) (r : rest m' news) : UnrEnd h₀ L s₁ I it rest { s₁ with heap := h', toks := tk } :=
  UnrEnd.intro F N news (fun _ hp => hp) (fun p hp => Nat.ne_of_lt (l p hp)) r
end
theorem turn_first {m₀ : Str → Option Value} {x nm : Str} {k : Int} {t : Tok} {v dv q : Option Value} (hne : x ≠ nm) :
    ∃ (k' : Int) (t' : Tok) (dv' : Option Value), (fun y => if y = nm then some (.int k t) else if y = x then v else (if y = x then dv else if y = nm then q else m₀ y)) = fun y => if y = x then dv' else if y = nm then some (.int k' t') else m₀ y := by
  refine ⟨k, t, v, ?_⟩
  funext y
  by_cases e : y = x
  · subst e; simp [hne]
  · by_cases e2 : y = nm
    · subst e2; simp [e]
    · simp [e, e2]


section
local macro_rules | `(tactic| walk_at "subscriptTail Name Slice ref ref") => `(tactic| (
  k_here
  (with_reducible show wpAny _ _ (subscriptTail _ (PySem.Expr.Slice none _ none _) (Value.ref _) (Value.ref _)) _ _ _)
  k_dflt (refine' slice_upto ?F ?N (tupK ?X ?l) ?h0 ?hb rfl ?_ ?s ?t ?z)
  (case F => k_asm)
  (case N => k_asm)
  (case X => k_in)
  (case l => k_is)
  (case h0 => omega)
  (case hb => (k_dflt (show (_ : Int) < 13); omega))
  (case s => with_unfolding_all rfl)
  (case t => (intro _; with_unfolding_all rfl))
  (case z => exact Nat.le_of_ble_eq_true rfl)
  intro D' h' F' N' l1))
local macro_rules | `(tactic| walk_at "exec For Name Subscript cons nil") => `(tactic| (
  k_here
  (rename Fr _ _ _ _ => lF')
  (with_unfolding_all refine' For_invVF lF' ?k1 ?k2 ?_)
  (case k1 => exact rfl)
  (case k2 => exact rfl)
  k_whole))
local macro_rules | `(tactic| walk_at "pyIter ref") => `(tactic| (
  k_here
  (with_reducible show wpAny _ _ (pyIter (Value.ref _)) (fun it s₂ => LoopAtV _ _ _ _ _ _ _ _ _ it s₂) _ _)
  (rename Fr _ _ _ _ => lF')
  (rename News _ _ _ _ => lN')
  (with_unfolding_all refine' iter_first (nm := Str.ofString "first") ?hh lF' lN' (List.Mem.head _) ?hc ?hd ?hi ?h0 ?hx ?turn ?done)
  (case hh => with_unfolding_all rfl)
  (case hc => with_unfolding_all rfl)
  (case hd => with_unfolding_all rfl)
  (case hi => with_unfolding_all exact IntsAre.take (IntsAre.cons _ _ (IntsAre.cons _ _ (IntsAre.cons _ _ (IntsAre.cons _ _ (IntsAre.cons _ _ (IntsAre.cons _ _ (IntsAre.cons _ _ (IntsAre.cons _ _ (IntsAre.cons _ _ (IntsAre.cons _ _ (IntsAre.cons _ _ (IntsAre.cons _ _ (IntsAre.cons _ _ IntsAre.nil))))))))))))) _)
  (case h0 => with_unfolding_all rfl)
  (case hx => with_unfolding_all rfl)
  (case' turn => (clear lF' lN'; intro k7 d7 t7 u7 dv7 nw7 h7 tk7 F7 N7))
  (case' done => (clear lF' lN'; intro k7 t7 dv7 h7 tk7 F7 N7))))

local macro_rules | `(tactic| walk_at "execs cons") => `(tactic| (
  (with_reducible show wpAny _ _ (execs (Stmt.If (Expr.BoolOp _ _ _) _ _ _ :: _) _) _ _ _)
  k_here
  k_dflt (refine' cutE (x := Str.ofString "first") ?F ?N ?eh ?eg ?ed ?eo (fun tk8 => ?_) (fun V9 t9 h9 tk9 F9 N9 => ?_))
  walk_at "my flat"
  (try k_fold)
  rotate_left
  (try k_fold)
  rotate_left))

theorem c_mlen {w : World} {s₀ : Shared} {mg mb : Str → Option Value} (y mo : Int) (u1 u2 : Tok) (hp : 1 ≤ mo ∧ mo ≤ 12) :
    Cl 8 w s₀ mg mb 100 [.int y u1, .int mo u2] (fun h₀ L m news s Q => Ret1 h₀ L m news s Q (fun t => .int (ml y mo) t)) := by
  intro dp un gu cn cs a ccd cl outer A₀ base h₀ L m news s Q E B F X N T hk hd hu hret
  w_on
  refine wpAny_call ?_
  k_dflt cell_enter
  (repeat' (first | (k_unfold; (try dsimp only)) | walk1 | (dsimp only; walk1) | (leave1; walk_say "STEP leave1"; try dsimp only) | fail "no step"))
  all_goals first
    | (refine' cutE_mk (cut_one ?F ?N rfl rfl rfl rfl)
       (case F => k_asm)
       (case N => k_asm))
    | (refine' cutE_mk (cut_same ?F ?N ?hx rfl rfl rfl rfl)
       (case F => k_asm)
       (case N => k_asm)
       (case hx => with_unfolding_all rfl))
    | (refine' turn_end ?tF ?tN ?tJ
       (case tF => k_asm)
       (case tN => k_asm)
       (case tJ => exact turn_first (by decide)))
    | (refine' cb_retI (Q := Q) hret ?e1 ?e2 ?e3
       (case e2 => k_asm)
       (case e3 => (refine' cb_drop ?cbN ?cbS; (case cbN => with_reducible assumption); (case cbS => (intro _ hp; with_reducible (repeat' (first | exact hp | refine List.mem_cons_of_mem _ ?_ | refine List.mem_append_right _ ?_))))))
       (case e1 => first | exact ml_1 (by assumption) (by assumption) | exact ml_2 (by assumption) (by assumption) | exact ml_3 hp (by assumption)))

end

local macro_rules | `(tactic| walk_at "call ref") => `(tactic| (
  k_here
  (with_reducible refine atRef 100 ?_)
  k_dflt (refine' clUse (c_mlen _ _ _ _ ?hp) ?_)
  (case hp => (try dsimp only); first | assumption | omega)
  walk_at "my back1"))

section
local macro_rules | `(tactic| walk_at "execs cons") => `(tactic| (
  (with_reducible show wpAny _ _ (execs (Stmt.If (Expr.UnaryOp _ _ _) _ _ _ :: _) _) _ _ _)
  k_here
  k_dflt (refine' cutI_old (x := Str.ofString "year") (V := gy n) ?F ?N ?eh ?eg ?ed ?eo (fun tk8 => ?_) (fun t9 h9 tk9 F9 N9 => ?_))
  walk_at "my flat"
  (try k_fold)
  rotate_left
  (try k_fold)
  rotate_left))
local macro_rules | `(tactic| walk_at "execs cons") => `(tactic| (
  (with_reducible show wpAny _ _ (execs (Stmt.If (Expr.Compare _ _ _ _) _ _ _ :: _) _) _ _ _)
  k_here
  k_dflt (refine' cutI_new (x := Str.ofString "leap_adj") (V := adj n) ?F ?N ?eh ?eg ?ed ?eo (fun tk8 => ?_) (fun t9 h9 tk9 F9 N9 => ?_))
  walk_at "my flat"
  (try k_fold)
  rotate_left
  (try k_fold)
  rotate_left))

theorem adj_if (n : Int) : adj n = if n - gj (gy n) 1 1 < 58 + (if leapF (gy n) = true then 1 else 0) then 0 else if leapF (gy n) = true then 1 else 2 := by
  rw [gj_one]
  rcases lp01 (gy n) with ⟨a, b⟩ | ⟨a, b⟩ <;> simp [adj, a, b]
theorem fj_fin (n : Int) : gy n = gy n ∧ ((n - gj (gy n) 1 1 + adj n) * 12 + 373).fdiv 367 = gm n ∧ n - gj (gy n) (((n - gj (gy n) 1 1 + adj n) * 12 + 373).fdiv 367) 1 + 1 = gd n :=
  fj_end rfl (adj_if n)
theorem c_fromjd {w : World} {s₀ : Shared} {mg mb : Str → Option Value} (n : Int) (t1 : Tok) :
    Cl 8 w s₀ mg mb 93 [.int n t1] (fun h₀ L m news s Q => Ret3 h₀ L m news s Q (gy n) (gm n) (gd n)) := by
  intro dp un gu cn cs a ccd cl outer A₀ base h₀ L m news s Q E B F X N T hk hd hu hret
  w_on
  refine wpAny_call ?_
  k_dflt cell_enter
  (repeat' (first | (k_unfold; (try dsimp only)) | walk1 | (dsimp only; walk1) | (leave1; walk_say "STEP leave1"; try dsimp only) | fail "no step"))
  all_goals first
    | (refine' cut_two ?F ?N rfl rfl rfl ?e
       (case F => k_asm)
       (case N => k_asm)
       (case e => exact fy_c (by assumption) (by assumption)))
    | (refine' cut_one ?F ?N rfl rfl rfl ?e
       (case F => k_asm)
       (case N => k_asm)
       (case e => first
         | exact fy_a (by assumption)
         | exact fy_b (by assumption)
         | (refine Eq.trans ?_ (adj_if n).symm
            first
            | exact (if_pos (by assumption)).symm
            | exact ((if_neg (by assumption)).trans (if_pos (by assumption))).symm
            | exact ((if_neg (by assumption)).trans (if_neg (Bool.eq_false_iff.mp (by assumption)))).symm)))
    | (refine' ret3 (Q := Q) hret ?F ?N ?hm ?hs ?e
       (case F => k_asm)
       (case N => with_reducible assumption)
       (case hm => k_mem)
       (case hs => (intro _ hp; with_reducible (repeat' (first | exact hp | refine List.mem_cons_of_mem _ ?_ | refine List.mem_append_right _ ?_))))
       (case e => exact fj_fin n))

end

local macro_rules | `(tactic| walk_at "call ref") => `(tactic| (
  k_here
  (with_reducible refine atRef 93 ?_)
  k_dflt (refine' clUse (c_fromjd _ _) ?_)
  walk_at "my back3"))

section
local macro_rules | `(tactic| walk_at "call ref") => `(tactic| (
  k_here
  (with_reducible refine atRef 107 ?_)
  k_dflt (refine' clUse (c_ij _ _ _ _ _ _ ?hp) ?_)
  (case hp => (try dsimp only); first | assumption | omega)
  walk_at "my back1"))
local macro_rules | `(tactic| walk_at "no such step") => `(tactic| fail "none")
theorem c_togreg {w : World} {s₀ : Shared} {mg mb : Str → Option Value} (y wk d : Int) (u1 u2 u3 : Tok) (hp : 1 ≤ wk) :
    Cl 10 w s₀ mg mb 142 [.int y u1, .int wk u2, .int d u3] (fun h₀ L m news s Q => Ret3 h₀ L m news s Q (gy (m1 y + 7 * (wk - 1) + (d - 1))) (gm (m1 y + 7 * (wk - 1) + (d - 1))) (gd (m1 y + 7 * (wk - 1) + (d - 1)))) := by
  intro dp un gu cn cs a ccd cl outer A₀ base h₀ L m news s Q E B F X N T hk hd hu hret
  w_on
  refine wpAny_call ?_
  k_dflt cell_enter
  k_steps
  all_goals (
    refine' ret3 (Q := Q) hret ?F ?N ?hm ?hs ⟨rfl, rfl, rfl⟩
    (case F => k_asm)
    (case N => with_reducible assumption)
    (case hm => k_mem)
    (case hs => (intro _ hp; with_reducible (repeat' (first | exact hp | refine List.mem_cons_of_mem _ ?_ | refine List.mem_append_right _ ?_)))))

end

local macro_rules | `(tactic| walk_at "no such step") => `(tactic| fail "none")
theorem meas1 {n y : Int} (h : gf y > n) : (gf (y - 1) - n).toNat < (gf y - n).toNat := by
  have := gf_step (y - 1)
  have e : y - 1 + 1 = y := by omega
  rw [e] at this
  omega
theorem meas2 {n y : Int} (h : gf (y + 1) ≤ n) : (n + 1 - gf (y + 1 + 1)).toNat < (n + 1 - gf (y + 1)).toNat := by
  have := gf_step (y + 1)
  omega
local macro_rules | `(tactic| walk_at "exec While Compare cons nil") => `(tactic| k_while_given ["number"] (fun n script y => True) (fun n script y => (gf y - n).toNat) "year")
local macro_rules | `(tactic| walk_at "exec While Compare cons nil") => `(tactic| k_while_given ["number"] (fun n script y => gf y ≤ n) (fun n script y => (n + 1 - gf (y + 1)).toNat) "year")
theorem c_year {w : World} {s₀ : Shared} {mg mb : Str → Option Value} (n : Int) (u1 : Tok) :
    Cl 6 w s₀ mg mb 163 [.int n u1] (fun h₀ L m news s Q => Ret1 h₀ L m news s Q (fun t => .int (gy n) t)) := by
  intro dp un gu cn cs a ccd cl outer A₀ base h₀ L m news s Q E B F X N T hk hd hu hret
  w_on
  k_with "measure" => first | exact meas1 (by assumption) | exact meas2 (by assumption)
  refine wpAny_call ?_
  k_dflt cell_enter
  k_steps
  all_goals (refine' cb_retI (Q := Q) hret ?e1 ?e2 ?e3; (case e2 => k_asm); (case e3 => k_asm); (case e1 => exact gy_uniq (by assumption) (by omega)))

local macro_rules | `(tactic| walk_at "call ref") => `(tactic| (
  k_here
  (with_reducible refine atRef 163 ?_)
  k_dflt (refine' clUse (c_year _ _) ?_)
  walk_at "my back1"))
theorem c_tell {w : World} {s₀ : Shared} {mg mb : Str → Option Value} (n : Int) (u1 : Tok) :
    Cl 8 w s₀ mg mb 177 [.int n u1] (fun h₀ L m news s Q => Ret3 h₀ L m news s Q (t1 n) (t2 n) (t3 n)) := by
  intro dp un gu cn cs a ccd cl outer A₀ base h₀ L m news s Q E B F X N T hk hd hu hret
  w_on
  refine wpAny_call ?_
  k_dflt cell_enter
  k_steps
  all_goals (refine' ret3 (Q := Q) hret ?F ?N ?hm ?hs ?e; (case F => k_asm); (case N => with_reducible assumption); (case hm => k_mem); (case hs => (intro _ hp; with_reducible (repeat' (first | exact hp | refine List.mem_cons_of_mem _ ?_ | refine List.mem_append_right _ ?_)))); (case e => (simp only [t1, t2, t3, th, fm7, fd7, and_self])))

abbrev len12 (x : Int) (a1 a2 a3 a4 a5 a6 a7 a8 a9 a10 a11 a12 : Tok) : List Value :=
  [.int 31 a1, .int x a2, .int 31 a3, .int 30 a4, .int 31 a5, .int 30 a6, .int 31 a7, .int 31 a8, .int 30 a9, .int 31 a10, .int 30 a11, .int 31 a12]
abbrev Ret12 (h₀ : Heap) (L : Addr) (m : Str → Option Value) (news : List (Addr × Obj)) (s : Shared) (Q : Value → Shared → Prop) (x : Int) : Prop :=
  ∀ (D : Addr) (a1 a2 a3 a4 a5 a6 a7 a8 a9 a10 a11 a12 : Tok) (c : Nat) (h' : Heap) (tk' : Nat), Fr h₀ L h' m → News h₀ L h' ((D, listOf (len12 x a1 a2 a3 a4 a5 a6 a7 a8 a9 a10 a11 a12).toArray c) :: news) → Q (.ref D) { s with heap := h', toks := tk' }
theorem ret12 {h₀ h' : Heap} {L D : Addr} {m : Str → Option Value} {news news' : List (Addr × Obj)} {s : Shared} {Q : Value → Shared → Prop} {x x' : Int} {a1 a2 a3 a4 a5 a6 a7 a8 a9 a10 a11 a12 : Tok} {c tk' : Nat}
    (hret : Ret12 h₀ L m news s Q x) (F : Fr h₀ L h' m) (N : News h₀ L h' news') (hm : (D, listOf (len12 x' a1 a2 a3 a4 a5 a6 a7 a8 a9 a10 a11 a12).toArray c) ∈ news') (hs : ∀ p ∈ news, p ∈ news') (e : x' = x) : Q (.ref D) { s with heap := h', toks := tk' } := by
  subst e
  refine hret D a1 a2 a3 a4 a5 a6 a7 a8 a9 a10 a11 a12 c h' tk' F (fun p hp => ?_)
  rcases List.mem_cons.mp hp with rfl | hp
  · exact N _ hm
  · exact N p (hs p hp)
theorem c_lengths {w : World} {s₀ : Shared} {mg mb : Str → Option Value} (n : Int) (u1 : Tok) :
    Cl 8 w s₀ mg mb 156 [.int n u1] (fun h₀ L m news s Q => Ret12 h₀ L m news s Q (28 + lp n)) := by
  intro dp un gu cn cs a ccd cl outer A₀ base h₀ L m news s Q E B F X N T hk hd hu hret
  w_on
  refine wpAny_call ?_
  k_dflt cell_enter
  k_steps
  all_goals (refine' ret12 (Q := Q) hret ?F ?N ?hm ?hs ?e; (case F => k_asm); (case N => with_reducible assumption); (case hm => k_mem); (case hs => (intro _ hp; with_reducible (repeat' (first | exact hp | refine List.mem_cons_of_mem _ ?_ | refine List.mem_append_right _ ?_)))); (case e => (have := gf_succ n; omega)))

local macro_rules | `(tactic| walk_at "call ref") => `(tactic| (
  k_here
  (with_reducible refine atRef 156 ?_)
  k_dflt (refine' clUse (c_lengths _ _) ?_)
  walk_at "my back12"))

section
theorem absM {h₀ h : Heap} {L : Addr} {m : Str → Option Value} {x1 x2 x3 x4 : Str} {w1 w2 w3 w4 : Value} {P : Prop} (F : Fr h₀ L h m)
    (k : ∀ m' : Str → Option Value, Fr h₀ L h m' → m' x1 = some w1 → m' x2 = some w2 → m' x3 = some w3 → m' x4 = some w4 → P)
    (e1 : m x1 = some w1 := by first | exact rfl | assumption) (e2 : m x2 = some w2 := by first | exact rfl | assumption) (e3 : m x3 = some w3 := by first | exact rfl | assumption) (e4 : m x4 = some w4 := by first | exact rfl | assumption) : P := k m F e1 e2 e3 e4

local macro_rules | `(tactic| walk_at "pyIter ref") => `(tactic| (
  k_here
  (with_reducible show wpAny _ _ (pyIter (Value.ref _)) (fun it s₂ => LoopAtV _ _ _ _ _ _ _ _ _ it s₂) _ _)
  (rename Fr _ _ _ _ => lF')
  (rename News _ _ _ _ => lN')
  (with_unfolding_all refine' iter_listUnr ?hh lF' lN' (List.Mem.head _) ?hc ?hd ?_)
  (case hh => rfl)
  (case hc => rfl)
  (case hd => rfl)
  clear lF'
  intro i' l1))
local macro_rules | `(tactic| walk_at "UnrEnd") => `(tactic| (
  (refine' unr_end ?l ?F ?N ⟨?m, ?_⟩)
  (case l => with_reducible assumption)
  (case F => k_asm)
  (case N => k_asm)
  (case m => exact List.Mem.head _)))

local macro_rules | `(tactic| walk_at "execs cons") => `(tactic| (
  (with_reducible show wpAny _ _ (execs (Stmt.For _ _ _ _ _ :: _) _) _ _ _)
  k_here
  k_dflt (refine' cut3 (x1 := Str.ofString "year") (x2 := Str.ofString "month") (x3 := Str.ofString "day") (V1 := gy n) (V2 := gm n) (V3 := gd n) ?F ?N ?eh ?eg ?ed ?eo (fun tk8 => ?_) (fun m9 h9 tk9 ta9 tb9 tc9 F9 N9 e91 e92 e93 => ?_))
  walk_at "my flat"
  (try k_fold)))
local macro_rules | `(tactic| walk_at "eval Name") => `(tactic| (
  k_here
  k_dflt (refine' ld ?k1 ?k2 ?_)
  (case k1 => k_asm)
  (case k2 => first | with_reducible assumption | assumption)))
local macro_rules | `(tactic| walk_at "loadName") => `(tactic| (
  k_here
  k_dflt (refine' ldn ?k1 ?k2 ?_)
  (case k1 => k_asm)
  (case k2 => first | with_reducible assumption | assumption)))

local macro_rules | `(tactic| walk_at "execs cons") => `(tactic| (
  (with_reducible show wpAny _ _ (execs (Stmt.If (Expr.Compare _ _ _ _) _ _ _ :: _) _) _ _ _)
  k_here
  (with_reducible rename Fr _ _ _ _ => kF)
  k_dflt (refine' absM (x1 := Str.ofString "year") (x2 := Str.ofString "month") (x3 := Str.ofString "day") (x4 := Str.ofString "length") kF (fun m9 F9 e91 e92 e93 e94 => ?_))
  (try clear kF)
  (refine wpAny_execs_cons ?_)
  (try dsimp only)))

theorem c_date {w : World} {s₀ : Shared} {mg mb : Str → Option Value} (n : Int) (u1 : Tok) :
    Cl 10 w s₀ mg mb 170 [.int n u1] (fun h₀ L m news s Q => Ret3 h₀ L m news s Q (gy n) (gm n) (gd n)) := by
  intro dp un gu cn cs a ccd cl outer A₀ base h₀ L m news s Q E B F X N T hk hd hu hret
  w_on
  refine wpAny_call ?_
  k_dflt cell_enter
  (repeat' (first | (k_unfold; (try dsimp only)) | walk1 | (dsimp only; walk1) | (leave1; walk_say "STEP leave1"; try dsimp only) | fail "no step"))
  all_goals first
    | (refine' ret3 (Q := Q) hret ?F ?N ?hm ?hs ?e
       (case F => k_asm)
       (case N => with_reducible assumption)
       (case hm => k_mem)
       (case hs => (intro _ hp; with_reducible (repeat' (first | exact hp | refine List.mem_cons_of_mem _ ?_ | refine List.mem_append_right _ ?_))))
       (case e => exact ⟨rfl, rfl, rfl⟩))
    | (refine' cut3_mk ?F ?N rfl rfl rfl ?hs ?a ?b ?c ?e
       (case F => k_asm)
       (case N => k_asm)
       (case hs => (intro _ hp; with_reducible (repeat' (first | exact hp | refine List.mem_cons_of_mem _ ?_ | refine List.mem_append_right _ ?_))))
       (case a => first | exact rfl | assumption)
       (case b => first | exact rfl | assumption)
       (case c => first | exact rfl | assumption)
       (case e =>
         have g1 := gy_spec n
         have g2 := gf_succ (gy n)
         have g3 := lp_range (gy n)
         first
           | (exfalso; omega)
           | (refine ⟨rfl, date_uniq (by omega) ?_ ?_⟩
              · simp [ml]; omega
              · simp [gj_eq]; omega)))

end

section
local macro_rules | `(tactic| walk_at "exec Raise some none") => `(tactic| (
  exfalso
  omega))

theorem c_fromgreg {w : World} {s₀ : Shared} {mg mb : Str → Option Value} (y mo d : Int) (u1 u2 u3 : Tok) (hp : (1 ≤ y ∧ y ≤ 9999) ∧ (1 ≤ mo ∧ mo ≤ 12) ∧ (1 ≤ d ∧ d ≤ ml y mo)) :
    Cl 12 w s₀ mg mb 135 [.int y u1, .int mo u2, .int d u3] (fun h₀ L m news s Q => Ret3 h₀ L m news s Q (t1 (gj y mo d)) (t2 (gj y mo d)) (t3 (gj y mo d))) := by
  intro dp un gu cn cs a ccd cl outer A₀ base h₀ L m news s Q E B F X N T hk hd hu hret
  w_on
  obtain ⟨hy, hm, hd'⟩ := hp
  have hv := valid_in hm hd'
  refine wpAny_call ?_
  k_dflt cell_enter
  k_steps
  all_goals (
    refine' ret3 (Q := Q) hret ?F ?N ?hm ?hs ?e
    (case F => k_asm)
    (case N => with_reducible assumption)
    (case hm => k_mem)
    (case hs => (intro _ hp; with_reducible (repeat' (first | exact hp | refine List.mem_cons_of_mem _ ?_ | refine List.mem_append_right _ ?_))))
    (case e =>
      simp only [fd7, fm7] at *
      first
        | exact greg_lo hv.1 hv.2 (by assumption)
        | exact greg_hi hv.1 hv.2 (by assumption)
        | exact greg_mid hv.1 hv.2 (by assumption) (by omega)))

end

section
local macro_rules | `(tactic| walk_at "call ref") => `(tactic| (
  k_here
  (with_reducible refine atRef 135 ?_)
  k_dflt (refine' clUse (c_fromgreg _ _ _ _ _ _ ?hp) ?_)
  (case hp => (try dsimp only); first | assumption | omega)
  walk_at "my back3"))
local macro_rules | `(tactic| walk_at "no such step") => `(tactic| fail "none")
def inR (n : Int) : Prop := 1721426 ≤ n ∧ n ≤ 5373484
theorem c_asked0 {w : World} {s₀ : Shared} {mg mb : Str → Option Value} (n b c : Int) (u0 u1 u2 u3 : Tok) (hin : inR n) :
    Cl 16 w s₀ mg mb 184 [.int 0 u0, .int n u1, .int b u2, .int c u3] (fun h₀ L m news s Q => Ret3 h₀ L m news s Q (t1 n) (t2 n) (t3 n)) := by
  intro dp un gu cn cs a ccd cl outer A₀ base h₀ L m news s Q E B F X N T hk hd hu hret
  w_on
  have hg := gd_spec n
  have hp : (1 ≤ gy n ∧ gy n ≤ 9999) ∧ (1 ≤ gm n ∧ gm n ≤ 12) ∧ (1 ≤ gd n ∧ gd n ≤ ml (gy n) (gm n)) := ⟨(gy_range n).mpr hin, ⟨hg.1, hg.2.1⟩, ⟨hg.2.2.1, hg.2.2.2.1⟩⟩
  have he := hg.2.2.2.2
  clear hg
  refine wpAny_call ?_
  k_dflt cell_enter
  k_steps
  all_goals (
    refine' ret3 (Q := Q) hret ?F ?N ?hm ?hs ?e
    (case F => k_asm)
    (case N => with_reducible assumption)
    (case hm => k_mem)
    (case hs => (intro _ hp; with_reducible (repeat' (first | exact hp | refine List.mem_cons_of_mem _ ?_ | refine List.mem_append_right _ ?_))))
    (case e => simp only [he, and_self]))
theorem c_asked1 {w : World} {s₀ : Shared} {mg mb : Str → Option Value} (y mo d : Int) (u0 u1 u2 u3 : Tok) (hp : (1 ≤ y ∧ y ≤ 9999) ∧ (1 ≤ mo ∧ mo ≤ 12) ∧ (1 ≤ d ∧ d ≤ ml y mo)) :
    Cl 16 w s₀ mg mb 184 [.int 1 u0, .int y u1, .int mo u2, .int d u3] (fun h₀ L m news s Q => Ret3 h₀ L m news s Q (t1 (gj y mo d)) (t2 (gj y mo d)) (t3 (gj y mo d))) := by
  intro dp un gu cn cs a ccd cl outer A₀ base h₀ L m news s Q E B F X N T hk hd hu hret
  w_on
  refine wpAny_call ?_
  k_dflt cell_enter
  k_steps
  all_goals (
    refine' ret3 (Q := Q) hret ?F ?N ?hm ?hs ?e
    (case F => k_asm)
    (case N => with_reducible assumption)
    (case hm => k_mem)
    (case hs => (intro _ hp; with_reducible (repeat' (first | exact hp | refine List.mem_cons_of_mem _ ?_ | refine List.mem_append_right _ ?_))))
    (case e => exact ⟨rfl, rfl, rfl⟩))

end

theorem c_asked0r {w : World} {s₀ : Shared} {mg mb : Str → Option Value} (n b c : Int) (u0 u1 u2 u3 : Tok) (hin : ¬ inR n) :
    ClT 16 w s₀ mg mb 184 [.int 0 u0, .int n u1, .int b u2, .int c u3] (fun h₀ L m news s Q => Ret1 h₀ L m news s Q (fun t => .str (Str.ofString "refused") t)) := by
  intro dp un gu cn cs a ccd A₀ h₀ L m news s Q E B F X N T hk hd hu hret
  w_on
  have hp : ¬ (1 ≤ gy n ∧ gy n ≤ 9999) := fun q => hin ((gy_range n).mp q)
  clear hin
  refine wpAny_call ?_
  refine' code_defS0 ?k1 ?k2 ?k3 ?k4 ?k5 ?kA ?k6 ?k7 ?k8 ?k9 ?kB ?_ ?cK ?c2 ?c3 ?c4 ?c5
  case kA => exact rfl
  case k2 => k_asm
  case k1 => k_asm
  case k3 => k_asm
  case k4 => k_asm
  case k5 => k_asm
  case k6 => k_is
  case k7 => k_is
  case k8 => ktr_room
  case k9 => exact BindsTo.of_eq rfl
  case kB => exact locs rfl
  case cK => exact hk
  case c2 => exact rfl
  case c3 => exact rfl
  case c4 => exact rfl
  case c5 => decide
  intro g' L' h' FG' F' N' B' X' T' D'
  (try dsimp only)
  (try k_lift B')
  (try k_fold)
  k_steps
  all_goals (
    refine' cb_retS (Q := Q) hret rfl ?e2 ?e3
    (case e2 => k_asm)
    (case e3 => (refine' cb_drop ?cbN ?cbS; (case cbN => with_reducible assumption); (case cbS => (intro _ hp; with_reducible (repeat' (first | exact hp | refine List.mem_cons_of_mem _ ?_ | refine List.mem_append_right _ ?_)))))))

theorem c_asked1r {w : World} {s₀ : Shared} {mg mb : Str → Option Value} (y mo d : Int) (u0 u1 u2 u3 : Tok) (hp : ¬ ((1 ≤ y ∧ y ≤ 9999) ∧ (1 ≤ mo ∧ mo ≤ 12) ∧ (1 ≤ d ∧ d ≤ ml y mo))) :
    ClT 16 w s₀ mg mb 184 [.int 1 u0, .int y u1, .int mo u2, .int d u3] (fun h₀ L m news s Q => Ret1 h₀ L m news s Q (fun t => .str (Str.ofString "refused") t)) := by
  intro dp un gu cn cs a ccd A₀ h₀ L m news s Q E B F X N T hk hd hu hret
  w_on
  by_cases hm : 1 ≤ mo ∧ mo ≤ 12
  · have hp : ¬ ((1 ≤ y ∧ y ≤ 9999) ∧ (1 ≤ d ∧ d ≤ ml y mo)) := fun q => hp ⟨q.1, hm, q.2⟩
    refine wpAny_call ?_
    refine' code_defS0 ?k1 ?k2 ?k3 ?k4 ?k5 ?kA ?k6 ?k7 ?k8 ?k9 ?kB ?_ ?cK ?c2 ?c3 ?c4 ?c5
    case kA => exact rfl
    case k2 => k_asm
    case k1 => k_asm
    case k3 => k_asm
    case k4 => k_asm
    case k5 => k_asm
    case k6 => k_is
    case k7 => k_is
    case k8 => ktr_room
    case k9 => exact BindsTo.of_eq rfl
    case kB => exact locs rfl
    case cK => exact hk
    case c2 => exact rfl
    case c3 => exact rfl
    case c4 => exact rfl
    case c5 => decide
    intro g' L' h' FG' F' N' B' X' T' D'
    (try dsimp only)
    (try k_lift B')
    (try k_fold)
    k_steps
    all_goals (
      refine' cb_retS (Q := Q) hret rfl ?e2 ?e3
      (case e2 => k_asm)
      (case e3 => (refine' cb_drop ?cbN ?cbS; (case cbN => with_reducible assumption); (case cbS => (intro _ hp; with_reducible (repeat' (first | exact hp | refine List.mem_cons_of_mem _ ?_ | refine List.mem_append_right _ ?_)))))))
  · clear hp
    refine wpAny_call ?_
    refine' code_defS0 ?k1 ?k2 ?k3 ?k4 ?k5 ?kA ?k6 ?k7 ?k8 ?k9 ?kB ?_ ?cK ?c2 ?c3 ?c4 ?c5
    case kA => exact rfl
    case k2 => k_asm
    case k1 => k_asm
    case k3 => k_asm
    case k4 => k_asm
    case k5 => k_asm
    case k6 => k_is
    case k7 => k_is
    case k8 => ktr_room
    case k9 => exact BindsTo.of_eq rfl
    case kB => exact locs rfl
    case cK => exact hk
    case c2 => exact rfl
    case c3 => exact rfl
    case c4 => exact rfl
    case c5 => decide
    intro g' L' h' FG' F' N' B' X' T' D'
    (try dsimp only)
    (try k_lift B')
    (try k_fold)
    k_steps
    all_goals (
      refine' cb_retS (Q := Q) hret rfl ?e2 ?e3
      (case e2 => k_asm)
      (case e3 => (refine' cb_drop ?cbN ?cbS; (case cbN => with_reducible assumption); (case cbS => (intro _ hp; with_reducible (repeat' (first | exact hp | refine List.mem_cons_of_mem _ ?_ | refine List.mem_append_right _ ?_)))))))

def okD (y mo d : Int) : Prop := (1 ≤ y ∧ y ≤ 9999) ∧ (1 ≤ mo ∧ mo ≤ 12) ∧ (1 ≤ d ∧ d ≤ ml y mo)
theorem c_asked0s {w : World} {s₀ : Shared} {mg mb : Str → Option Value} (n b c : Int) (u0 u1 u2 u3 : Tok) :
    ClT 16 w s₀ mg mb 184 [.int 0 u0, .int n u1, .int b u2, .int c u3] (fun h₀ L m news s Q => (inR n → Ret3 h₀ L m news s Q (t1 n) (t2 n) (t3 n)) ∧ (¬ inR n → Ret1 h₀ L m news s Q (fun t => .str (Str.ofString "refused") t))) := by
  intro dp un gu cn cs a ccd A₀ h₀ L m news s Q E B F X N T hk hd hu hret
  by_cases h : inR n
  · exact c_asked0 n b c u0 u1 u2 u3 h _ _ _ _ _ _ _ _ _ _ _ _ _ _ _ _ _ _ B F X N T hk hd hu (hret.1 h)
  · exact c_asked0r n b c u0 u1 u2 u3 h _ _ _ _ _ _ _ _ _ _ _ _ _ _ _ B F X N T hk hd hu (hret.2 h)
theorem c_asked1s {w : World} {s₀ : Shared} {mg mb : Str → Option Value} (y mo d : Int) (u0 u1 u2 u3 : Tok) :
    ClT 16 w s₀ mg mb 184 [.int 1 u0, .int y u1, .int mo u2, .int d u3] (fun h₀ L m news s Q => (okD y mo d → Ret3 h₀ L m news s Q (t1 (gj y mo d)) (t2 (gj y mo d)) (t3 (gj y mo d))) ∧ (¬ okD y mo d → Ret1 h₀ L m news s Q (fun t => .str (Str.ofString "refused") t))) := by
  intro dp un gu cn cs a ccd A₀ h₀ L m news s Q E B F X N T hk hd hu hret
  by_cases h : okD y mo d
  · exact c_asked1 y mo d u0 u1 u2 u3 h _ _ _ _ _ _ _ _ _ _ _ _ _ _ _ _ _ _ B F X N T hk hd hu (hret.1 h)
  · exact c_asked1r y mo d u0 u1 u2 u3 h _ _ _ _ _ _ _ _ _ _ _ _ _ _ _ B F X N T hk hd hu (hret.2 h)
theorem inR_0 (x : Int) : inR (1721426 + x.fmod 3652059) := by
  rw [fm3652059]
  simp only [inR]
  omega

theorem c_ijT {w : World} {s₀ : Shared} {mg mb : Str → Option Value} (n : Int) (u1 u2 u3 : Tok) :
    Cl 8 w s₀ mg mb 107 [.int (t1 n) u1, .int (t2 n) u2, .int (t3 n) u3] (fun h₀ L m news s Q => Ret1 h₀ L m news s Q (fun t => .int n t)) := by
  intro dp un gu cn cs a ccd cl outer A₀ base h₀ L m news s Q E B F X N T hk hd hu hret
  refine c_ij (t1 n) (t2 n) (t3 n) u1 u2 u3 (t2_pos n) _ _ _ _ _ _ _ _ _ _ _ _ _ _ _ _ _ _ B F X N T hk hd hu ?_
  rw [iso_back]
  exact hret
theorem c_togregT {w : World} {s₀ : Shared} {mg mb : Str → Option Value} (n : Int) (u1 u2 u3 : Tok) :
    Cl 10 w s₀ mg mb 142 [.int (t1 n) u1, .int (t2 n) u2, .int (t3 n) u3] (fun h₀ L m news s Q => Ret3 h₀ L m news s Q (gy n) (gm n) (gd n)) := by
  intro dp un gu cn cs a ccd cl outer A₀ base h₀ L m news s Q E B F X N T hk hd hu hret
  refine c_togreg (t1 n) (t2 n) (t3 n) u1 u2 u3 (t2_pos n) _ _ _ _ _ _ _ _ _ _ _ _ _ _ _ _ _ _ B F X N T hk hd hu ?_
  rw [iso_back]
  exact hret
/-- the weeks and the day's number, as the law reckons them -/
theorem c_wpyX {w : World} {s₀ : Shared} {mg mb : Str → Option Value} (y : Int) (u1 : Tok) :
    Cl 8 w s₀ mg mb 121 [.int y u1] (fun h₀ L m news s Q => Ret1 h₀ L m news s Q (fun t => .int ((gf (y + 1) - 1 - (gf y + (3 - gf y).fmod 7)).fdiv 7 + 1) t)) := by
  intro dp un gu cn cs a ccd cl outer A₀ base h₀ L m news s Q E B F X N T hk hd hu hret
  refine c_wpy y u1 _ _ _ _ _ _ _ _ _ _ _ _ _ _ _ _ _ _ B F X N T hk hd hu ?_
  rw [← wpy_eq, ← fd7, ← fm7]
  exact hret
theorem c_ijX {w : World} {s₀ : Shared} {mg mb : Str → Option Value} (y wk d : Int) (u1 u2 u3 : Tok) (hp : 1 ≤ wk) :
    Cl 8 w s₀ mg mb 107 [.int y u1, .int wk u2, .int d u3] (fun h₀ L m news s Q => Ret1 h₀ L m news s Q (fun t => .int (gf y + (3 - gf y).fmod 7 - 3 + 7 * (wk - 1) + d - 1) t)) := by
  intro dp un gu cn cs a ccd cl outer A₀ base h₀ L m news s Q E B F X N T hk hd hu hret
  refine c_ij y wk d u1 u2 u3 hp _ _ _ _ _ _ _ _ _ _ _ _ _ _ _ _ _ _ B F X N T hk hd hu ?_
  have e : m1 y + 7 * (wk - 1) + (d - 1) = gf y + (3 - gf y).fmod 7 - 3 + 7 * (wk - 1) + d - 1 := by
    rw [fm7, thursday_eq]
    omega
  rw [e]
  exact hret
theorem wk_in (x y : Int) : 1 ≤ x.fmod ((gf (y + 1) - 1 - (gf y + (3 - gf y).fmod 7)).fdiv 7 + 1) + 1 ∧ x.fmod ((gf (y + 1) - 1 - (gf y + (3 - gf y).fmod 7)).fdiv 7 + 1) + 1 ≤ wpy y := by
  rw [fd7, fm7, wpy_eq]
  have h := wpy_range y
  have h0 : 0 < wpy y := by omega
  rw [Int.fmod_eq_emod_of_nonneg x (Int.le_of_lt h0)]
  have a := Int.emod_nonneg x (Int.ne_of_gt h0)
  have b := Int.emod_lt_of_pos x h0
  omega
theorem wd_in (x : Int) : 1 ≤ x.fmod 7 + 1 ∧ x.fmod 7 + 1 ≤ 7 := by
  rw [fm7]
  omega
theorem c_asked0i {w : World} {s₀ : Shared} {mg mb : Str → Option Value} (y wk d b c : Int) (u0 u1 u2 u3 : Tok) (hw : 1 ≤ wk ∧ wk ≤ wpy y) (hd7 : 1 ≤ d ∧ d ≤ 7) :
    ClT 16 w s₀ mg mb 184 [.int 0 u0, .int (gf y + (3 - gf y).fmod 7 - 3 + 7 * (wk - 1) + d - 1) u1, .int b u2, .int c u3] (fun h₀ L m news s Q =>
      (1721426 ≤ gf y + (3 - gf y).fmod 7 - 3 + 7 * (wk - 1) + d - 1 ∧ gf y + (3 - gf y).fmod 7 - 3 + 7 * (wk - 1) + d - 1 ≤ 5373484 → Ret3 h₀ L m news s Q y wk d) ∧
      (¬ (1721426 ≤ gf y + (3 - gf y).fmod 7 - 3 + 7 * (wk - 1) + d - 1 ∧ gf y + (3 - gf y).fmod 7 - 3 + 7 * (wk - 1) + d - 1 ≤ 5373484) → Ret1 h₀ L m news s Q (fun t => .str (Str.ofString "refused") t))) := by
  intro dp un gu cn cs a ccd A₀ h₀ L m news s Q E B F X N T hk hd hu hret
  refine c_asked0s _ b c u0 u1 u2 u3 _ _ _ _ _ _ _ _ _ _ _ _ _ _ _ B F X N T hk hd hu ⟨fun h => ?_, hret.2⟩
  obtain ⟨e1, e2, e3⟩ := tell_iso (n := gf y + (3 - gf y).fmod 7 - 3 + 7 * (wk - 1) + d - 1) hw hd7 (by rw [fm7, thursday_eq]; omega)
  rw [← e1, ← e2, ← e3]
  exact hret.1 h

/-- the same contracts, every argument a letter, what it must be a premise -/
theorem g_asked0 {w : World} {s₀ : Shared} {mg mb : Str → Option Value} (k n b c : Int) (u0 u1 u2 u3 : Tok) (hk0 : k = 0) (hin : inR n) :
    Cl 16 w s₀ mg mb 184 [.int k u0, .int n u1, .int b u2, .int c u3] (fun h₀ L m news s Q => Ret3 h₀ L m news s Q (t1 n) (t2 n) (t3 n)) := by
  subst hk0
  exact c_asked0 n b c u0 u1 u2 u3 hin
theorem g_asked0i {w : World} {s₀ : Shared} {mg mb : Str → Option Value} (k N y wk d b c : Int) (u0 u1 u2 u3 : Tok) (hk0 : k = 0) (hN : N = gf y + (3 - gf y).fmod 7 - 3 + 7 * (wk - 1) + d - 1) (hw : 1 ≤ wk ∧ wk ≤ wpy y) (hd7 : 1 ≤ d ∧ d ≤ 7) :
    ClT 16 w s₀ mg mb 184 [.int k u0, .int N u1, .int b u2, .int c u3] (fun h₀ L m news s Q =>
      (1721426 ≤ N ∧ N ≤ 5373484 → Ret3 h₀ L m news s Q y wk d) ∧ (¬ (1721426 ≤ N ∧ N ≤ 5373484) → Ret1 h₀ L m news s Q (fun t => .str (Str.ofString "refused") t))) := by
  subst hk0
  subst hN
  exact c_asked0i y wk d b c u0 u1 u2 u3 hw hd7
theorem g_asked1 {w : World} {s₀ : Shared} {mg mb : Str → Option Value} (k y mo d : Int) (u0 u1 u2 u3 : Tok) (hk1 : k = 1) (hp : okD y mo d) :
    Cl 16 w s₀ mg mb 184 [.int k u0, .int y u1, .int mo u2, .int d u3] (fun h₀ L m news s Q => Ret3 h₀ L m news s Q (t1 (gj y mo d)) (t2 (gj y mo d)) (t3 (gj y mo d))) := by
  subst hk1
  exact c_asked1 y mo d u0 u1 u2 u3 hp
theorem g_asked1r {w : World} {s₀ : Shared} {mg mb : Str → Option Value} (k y mo d : Int) (u0 u1 u2 u3 : Tok) (hk1 : k = 1) (hp : ¬ okD y mo d) :
    ClT 16 w s₀ mg mb 184 [.int k u0, .int y u1, .int mo u2, .int d u3] (fun h₀ L m news s Q => Ret1 h₀ L m news s Q (fun t => .str (Str.ofString "refused") t)) := by
  subst hk1
  exact c_asked1r y mo d u0 u1 u2 u3 hp
theorem g_ijT {w : World} {s₀ : Shared} {mg mb : Str → Option Value} (a b c n : Int) (u1 u2 u3 : Tok) (ha : a = t1 n) (hb : b = t2 n) (hc : c = t3 n) :
    Cl 8 w s₀ mg mb 107 [.int a u1, .int b u2, .int c u3] (fun h₀ L m news s Q => Ret1 h₀ L m news s Q (fun t => .int n t)) := by
  subst ha
  subst hb
  subst hc
  exact c_ijT n u1 u2 u3
theorem g_togregT {w : World} {s₀ : Shared} {mg mb : Str → Option Value} (a b c n : Int) (u1 u2 u3 : Tok) (ha : a = t1 n) (hb : b = t2 n) (hc : c = t3 n) :
    Cl 10 w s₀ mg mb 142 [.int a u1, .int b u2, .int c u3] (fun h₀ L m news s Q => Ret3 h₀ L m news s Q (gy n) (gm n) (gd n)) := by
  subst ha
  subst hb
  subst hc
  exact c_togregT n u1 u2 u3

section
variable {prog : Program} {w : World} {A : Around} {E : Value → Shared → Prop} {s : Shared}
/-- an item of the law's numbers: any int -/
theorem item_free {value slice : PySem.Expr} {l : Addr} {vs : List Value} {ns : List Int} {k : Int} {u : Tok} {Q : Value → Shared → Prop} (hl : s.heap.IsList l vs.toArray) (hi : IntsAre vs ns)
    (h0 : 0 ≤ k) (h1 : k < ns.length) (hfit : k < 2 ^ 63) (h : ∀ v t, Q (.int v t) s)
    (hs : subscripted slice false (.ref l) (.int k u) = operate [.ref l, .int k u] (getItem (.ref l) (.int k u))) (hg : ∀ r, letTemporaryGo value (.ref l) r = pure ()) :
    wpAny (model prog w) A (subscriptTail value slice (.ref l) (.int k u)) Q E s := by
  refine item_list_ints hl hi h0 h1 hfit (fun t => ?_) hs hg
  exact h _ t
end
theorem chk4 : ∀ l, l < 2 → ∀ m, m < 12 → (List.take m [31, 28 + ((l : Nat) : Int), 31, 30, 31, 30, 31, 31, 30, 31, 30, 31]).sum = cumF (l : Nat) ((m : Nat) + 1) := by decide +kernel
theorem chk5 : ∀ l, l < 2 → ∀ m, m < 12 → [31, 28 + ((l : Nat) : Int), 31, 30, 31, 30, 31, 31, 30, 31, 30, 31].getD m 0 = mlF (l : Nat) ((m : Nat) + 1) := by decide +kernel
theorem m_back (k : Nat) : ((k : Int) + 1 - 1).toNat = k := by omega
theorem ml_tab {y m : Int} (hm : 1 ≤ m ∧ m ≤ 12) : [31, 28 + lp y, 31, 30, 31, 30, 31, 31, 30, 31, 30, 31].getD (m - 1).toNat 0 = ml y m := by
  obtain ⟨l, hl, e⟩ := lp_nat y
  obtain ⟨k, hk, rfl⟩ := m_nat hm
  rw [ml_mlF, e, m_back]
  exact chk5 l hl k hk
theorem okD_of {y m d : Int} (h1 : 1 ≤ y) (h2 : y ≤ 9999) (h3 : 1 ≤ m) (h4 : m ≤ 12) (h5 : 1 ≤ d) (h6 : d ≤ [31, 28 + lp y, 31, 30, 31, 30, 31, 31, 30, 31, 30, 31].getD (m - 1).toNat 0) : okD y m d :=
  ⟨⟨h1, h2⟩, ⟨h3, h4⟩, ⟨h5, ml_tab (y := y) ⟨h3, h4⟩ ▸ h6⟩⟩
theorem notok_1 {y m d : Int} (h : ¬ 1 ≤ y) : ¬ okD y m d := fun q => h q.1.1
theorem notok_2 {y m d : Int} (h : ¬ y ≤ 9999) : ¬ okD y m d := fun q => h q.1.2
theorem notok_3 {y m d : Int} (h : ¬ 1 ≤ m) : ¬ okD y m d := fun q => h q.2.1.1
theorem notok_4 {y m d : Int} (h : ¬ m ≤ 12) : ¬ okD y m d := fun q => h q.2.1.2
theorem notok_5 {y m d : Int} (h : ¬ 1 ≤ d) : ¬ okD y m d := fun q => h q.2.2.1
theorem notok_6 {y m d : Int} (h : ¬ d ≤ [31, 28 + lp y, 31, 30, 31, 30, 31, 31, 30, 31, 30, 31].getD (m - 1).toNat 0) : ¬ okD y m d :=
  fun q => h (ml_tab (y := y) q.2.1 ▸ q.2.2.2)
theorem cum_eq {y m d : Int} (hm : 1 ≤ m ∧ m ≤ 12) : gf y + (List.take (m - 1).toNat [31, 28 + lp y, 31, 30, 31, 30, 31, 31, 30, 31, 30, 31]).sum + d - 1 = gj y m d := by
  have e2 : (List.take (m - 1).toNat [31, 28 + lp y, 31, 30, 31, 30, 31, 31, 30, 31, 30, 31]).sum = cumF (lp y) m := by
    obtain ⟨l, hl, e⟩ := lp_nat y
    obtain ⟨k, hk, rfl⟩ := m_nat hm
    rw [e, m_back]
    exact chk4 l hl k hk
  rw [e2, gj_cum]
  omega
theorem g_tellX {w : World} {s₀ : Shared} {mg mb : Str → Option Value} (X y mo d : Int) (u1 : Tok) (hX : X = gf y + (List.take (mo - 1).toNat [31, 28 + lp y, 31, 30, 31, 30, 31, 31, 30, 31, 30, 31]).sum + d - 1) (h3 : 1 ≤ mo) (h4 : mo ≤ 12) :
    Cl 8 w s₀ mg mb 177 [.int X u1] (fun h₀ L m news s Q => Ret3 h₀ L m news s Q (t1 (gj y mo d)) (t2 (gj y mo d)) (t3 (gj y mo d))) := by
  subst hX
  rw [cum_eq ⟨h3, h4⟩]
  exact c_tell _ u1

section
variable {prog : Program} {w : World} {A : Around} {E : Value → Shared → Prop} {s : Shared} {h₀ : Heap} {L a b : Addr} {news : List (Addr × Obj)} {x y z : Int} {u1 u2 u3 v1 v2 v3 : Tok} {c c' : Nat} {Q : Value → Shared → Prop}
theorem eq_same (N : News h₀ L s.heap news) (ha : (a, tup3 x y z u1 u2 u3 c) ∈ news) (hb : (b, tup3 x y z v1 v2 v3 c') ∈ news) (hu : A.units + 64 < cLine) (h : Q (.bool true) s) :
    wpAny (model prog w) A (compareOp .Eq (.ref a) (.ref b)) Q E s := by
  refine eq_dataH (reads_tuple_at (News.get N ha) rfl rfl (.cons (Reads.int _ _) (.cons (Reads.int _ _) (.cons (Reads.int _ _) .nil)))) (reads_tuple_at (News.get N hb) rfl rfl (.cons (Reads.int _ _) (.cons (Reads.int _ _) (.cons (Reads.int _ _) .nil)))) (by first | rfl | decide) (by first | rfl | decide) hu ?_
  simp only [PyData.eqv, PyData.eqvAll, beq_self_eq_true, decide_true, Bool.and_true]
  exact h
theorem ne_same (N : News h₀ L s.heap news) (ha : (a, tup3 x y z u1 u2 u3 c) ∈ news) (hb : (b, tup3 x y z v1 v2 v3 c') ∈ news) (hu : A.units + 64 < cLine) (h : Q (.bool false) s) :
    wpAny (model prog w) A (compareOp .NotEq (.ref a) (.ref b)) Q E s := by
  refine ne_dataH (reads_tuple_at (News.get N ha) rfl rfl (.cons (Reads.int _ _) (.cons (Reads.int _ _) (.cons (Reads.int _ _) .nil)))) (reads_tuple_at (News.get N hb) rfl rfl (.cons (Reads.int _ _) (.cons (Reads.int _ _) (.cons (Reads.int _ _) .nil)))) (by first | rfl | decide) (by first | rfl | decide) hu ?_
  simp only [PyData.eqv, PyData.eqvAll, beq_self_eq_true, decide_true, Bool.and_true, Bool.not_true]
  exact h
end

theorem law_end {cl : Str → Option Addr} {mean : ExcName → Option Value} {args : List WData} {s₁ s' : Shared} {L : Addr} {m : Str → Option Value} {b : Bool} (hb : b = true) (F : Fr s₁.heap L s'.heap m) (hg : s'.gens = #[]) (hos : s'.os = s₁.os) :
    GoodW Challenge.rw_jb0006_01.row.claim cl mean args s₁ (.ok (.ret (.bool b))) s' := by
  subst hb
  refine goodW_bool F hg (raisesW_false (fun ct h => by cases h)) (postW_of (X := true) rfl ?_ rfl) hos
  exact w_eq_bool (k := true) (l := true) (w_res rfl) (by first | rfl | exact w_lit)
theorem wk_ne (y : Int) : (gf (y + 1) - 1 - (gf y + (3 - gf y).fmod 7)).fdiv 7 + 1 ≠ 0 := by
  rw [fd7, fm7, wpy_eq]
  have h := wpy_range y
  omega

/-- the law's last test: its ways meet in two -/
@[irreducible] def CutD (h₀ : Heap) (L : Addr) (m : Str → Option Value) (news : List (Addr × Obj)) (g : Array GenState) (d : Drawn) (o : OsState) (x : Str) (P : Prop) (X Y Z : Int) (fl : Flow) (s' : Shared) : Prop :=
  fl = .next ∧ ((¬ P ∧ ∃ (h' : Heap) (tk' : Nat), s' = ⟨h', g, d, tk', o⟩ ∧ Fr h₀ L h' m ∧ News h₀ L h' news) ∨
    (P ∧ ∃ (D : Addr) (u1 u2 u3 : Tok) (c : Nat) (h' : Heap) (tk' : Nat), s' = ⟨h', g, d, tk', o⟩ ∧ Fr h₀ L h' (fun y => if y = x then some (.ref D) else m y) ∧ News h₀ L h' ((D, tup3 X Y Z u1 u2 u3 c) :: news)))
section
variable {h₀ h : Heap} {L D : Addr} {m : Str → Option Value} {news news' : List (Addr × Obj)} {s s' : Shared} {g : Array GenState} {d : Drawn} {o : OsState} {x xy xm xd : Str} {P : Prop} {X Y Z y mo dd : Int} {u1 u2 u3 ty tm td : Tok} {c : Nat} {M : Model} {A : Around} {st : Stmt} {rest : List Stmt} {env : Env} {Q : Flow → Shared → Prop} {E : Value → Shared → Prop}
theorem cutD_no (F : Fr h₀ L s'.heap m) (N : News h₀ L s'.heap news') (eg : s'.gens = g) (ed : s'.drawn = d) (eo : s'.os = o) (hs : ∀ p ∈ news, p ∈ news') (hP : ¬ P) : CutD h₀ L m news g d o x P X Y Z .next s' := by
  unfold CutD
  subst eg ed eo
  exact ⟨rfl, .inl ⟨hP, s'.heap, s'.toks, rfl, F, fun p hp => N p (hs p hp)⟩⟩
theorem cutD_yes (F : Fr h₀ L s'.heap (fun y => if y = x then some (.ref D) else m y)) (N : News h₀ L s'.heap news') (eg : s'.gens = g) (ed : s'.drawn = d) (eo : s'.os = o) (hm : (D, tup3 X Y Z u1 u2 u3 c) ∈ news') (hs : ∀ p ∈ news, p ∈ news') (hP : P) : CutD h₀ L m news g d o x P X Y Z .next s' := by
  unfold CutD
  subst eg ed eo
  refine ⟨rfl, .inr ⟨hP, D, u1, u2, u3, c, s'.heap, s'.toks, rfl, F, fun p hp => ?_⟩⟩
  rcases List.mem_cons.mp hp with rfl | hp
  · exact N _ hm
  · exact N p (hs p hp)
theorem cutD (_F : Fr h₀ L h m) (_N : News h₀ L h news) (eh : s.heap = h) (eg : s.gens = g) (ed : s.drawn = d) (eo : s.os = o) (_ey : m xy = some (.int y ty)) (_em : m xm = some (.int mo tm)) (_ed : m xd = some (.int dd td))
    (h1 : ∀ t, wpAny M A (exec st env) (CutD h₀ L m news g d o x (okD y mo dd) (t1 (gj y mo dd)) (t2 (gj y mo dd)) (t3 (gj y mo dd))) E ⟨h, g, d, t, o⟩)
    (hno : ¬ okD y mo dd → ∀ (h' : Heap) (tk' : Nat), Fr h₀ L h' m → News h₀ L h' news → wpAny M A (execs rest env) Q E ⟨h', g, d, tk', o⟩)
    (hyes : okD y mo dd → ∀ (D : Addr) (u1 u2 u3 : Tok) (c : Nat) (h' : Heap) (tk' : Nat), Fr h₀ L h' (fun y => if y = x then some (.ref D) else m y) → News h₀ L h' ((D, tup3 (t1 (gj y mo dd)) (t2 (gj y mo dd)) (t3 (gj y mo dd)) u1 u2 u3 c) :: news) → wpAny M A (execs rest env) Q E ⟨h', g, d, tk', o⟩) :
    wpAny M A (execs (st :: rest) env) Q E s := by
  subst eh eg ed eo
  refine wpAny_execs_cons (wpAny_mono (h1 s.toks) (fun fl s' h => ?_) fun _ _ h => h)
  unfold CutD at h
  obtain ⟨rfl, ⟨hP, h', tk', rfl, F', N'⟩ | ⟨hP, D, u1, u2, u3, c, h', tk', rfl, F', N'⟩⟩ := h
  · exact hno hP h' tk' F' N'
  · exact hyes hP D u1 u2 u3 c h' tk' F' N'
end


section
local macro_rules | `(tactic| walk_at "call ref") => `(tactic| (
  k_here
  (with_reducible refine atRef 121 ?_)
  k_dflt (refine' clUse (c_wpyX _ _) ?_)
  walk_at "my back1"))
local macro_rules | `(tactic| walk_at "call ref") => `(tactic| (
  k_here
  (with_reducible refine atRef 107 ?_)
  k_dflt (refine' clUse (c_ijX _ _ _ _ _ _ ?hp) ?_)
  (case hp => exact (wk_in _ _).1)
  walk_at "my back1"))
local macro_rules | `(tactic| walk_at "call ref") => `(tactic| (
  k_here
  (with_reducible refine atRef 107 ?_)
  k_dflt (refine' clUse (g_ijT _ _ _ _ _ _ _ ?ha ?hb ?hc) ?_)
  (case ha => with_reducible rfl)
  (case hb => with_reducible rfl)
  (case hc => with_reducible rfl)
  walk_at "my back1"))
local macro_rules | `(tactic| walk_at "call ref") => `(tactic| (
  k_here
  (with_reducible refine atRef 177 ?_)
  k_dflt (refine' clUse (c_tell _ _) ?_)
  walk_at "my back3"))
local macro_rules | `(tactic| walk_at "call ref") => `(tactic| (
  k_here
  (with_reducible refine atRef 177 ?_)
  k_dflt (refine' clUse (g_tellX _ _ _ _ _ ?hX ?h3 ?h4) ?_)
  (case hX => with_reducible_and_instances rfl)
  (case h3 => assumption)
  (case h4 => assumption)
  walk_at "my back3"))
local macro_rules | `(tactic| walk_at "call ref") => `(tactic| (
  k_here
  (with_reducible refine atRef 142 ?_)
  k_dflt (refine' clUse (g_togregT _ _ _ _ _ _ _ ?ha ?hb ?hc) ?_)
  (case ha => with_reducible rfl)
  (case hb => with_reducible rfl)
  (case hc => with_reducible rfl)
  walk_at "my back3"))
local macro_rules | `(tactic| walk_at "call ref") => `(tactic| (
  k_here
  (with_reducible refine atRef 170 ?_)
  k_dflt (refine' clUse (c_date _ _) ?_)
  walk_at "my back3"))
local macro_rules | `(tactic| walk_at "call ref") => `(tactic| (
  k_here
  (with_reducible refine atRef 184 ?_)
  k_dflt (refine' clTUse (g_asked1r _ _ _ _ _ _ _ _ ?hk1 ?hp) ?_)
  (case hk1 => k_dflt rfl)
  (case hp => with_reducible assumption)
  walk_at "my back1"))
local macro_rules | `(tactic| walk_at "call ref") => `(tactic| (
  k_here
  (with_reducible refine atRef 184 ?_)
  k_dflt (refine' clUse (g_asked1 _ _ _ _ _ _ _ _ ?hk1 ?hp) ?_)
  (case hk1 => k_dflt rfl)
  (case hp => with_reducible assumption)
  walk_at "my back3"))
local macro_rules | `(tactic| walk_at "call ref") => `(tactic| (
  k_here
  (with_reducible refine atRef 184 ?_)
  k_dflt (refine' clTUse (g_asked0i _ _ _ _ _ _ _ _ _ _ _ ?hk0 ?hN ?hw ?hd7) ⟨fun hin9 => ?_, fun hin9 => ?_⟩)
  (case hk0 => k_dflt rfl)
  (case hN => k_dflt rfl)
  (case hw => exact wk_in _ _)
  (case hd7 => exact wd_in _)
  rotate_left
  (focus walk_at "my back1")
  rotate_left
  (focus walk_at "my back3")))
local macro_rules | `(tactic| walk_at "call ref") => `(tactic| (
  k_here
  (with_reducible refine atRef 184 ?_)
  k_dflt (refine' clUse (g_asked0 _ _ _ _ _ _ _ _ ?hk0 ?hp) ?_)
  (case hk0 => k_dflt rfl)
  (case hp => exact inR_0 _)
  walk_at "my back3"))
local macro_rules | `(tactic| walk_at "execs cons") => `(tactic| (
  (with_reducible show wpAny _ _ (execs (Stmt.If _ [Stmt.Return (some (Expr.Constant (Const.bool false) _ _)) _] [] _ :: _) _) _ _ _)
  k_here
  k_dflt (refine' cutN ?F ?N ?eh ?eg ?ed ?eo (fun tk8 => ?_) (fun h9 tk9 F9 N9 => ?_))
  walk_at "my flat"
  (try k_fold)
  rotate_left
  (try k_sweep)
  (try k_fold)
  rotate_left))
local macro_rules | `(tactic| walk_at "execs cons") => `(tactic| (
  (with_reducible show wpAny _ _ (execs (Stmt.If (Expr.BoolOp _ _ _) [Stmt.Assign _ _ _] [] _ :: _) _) _ _ _)
  k_here
  k_dflt (refine' cutD (x := Str.ofString "due") (xy := Str.ofString "year") (xm := Str.ofString "month") (xd := Str.ofString "day") ?F ?N ?eh ?eg ?ed ?eo ?ey ?em ?edd (fun tk8 => ?_) (fun hok9 h9 tk9 F9 N9 => ?_) (fun hok9 D9 u91 u92 u93 c9 h9 tk9 F9 N9 => ?_))
  walk_at "my flat"
  (case ey => with_unfolding_all rfl)
  (case em => with_unfolding_all rfl)
  (case edd => with_unfolding_all rfl)
  (all_goals ((try k_sweep); (try k_fold)))))

local macro_rules | `(tactic| walk_at "subscriptTail Name Constant ref int") => `(tactic| (
  k_here
  (with_reducible show wpAny _ _ (subscriptTail (PySem.Expr.Name _ _) (PySem.Expr.Constant _ _ _) (Value.ref _) (Value.int _ _)) _ _ _)
  k_dflt (refine' item_free ?za1 ?za2 ?za3 ?za4 ?za5 ?_ ?za6 ?za7)
  (case za1 => k_dflt kmk_list)
  (case za2 => assumption)
  (case za3 => decide)
  (case za4 => (simp only [List.length_append, List.length_cons, List.length_nil]; omega))
  (case za5 => decide)
  (case za6 => with_unfolding_all rfl)
  (case za7 => (intro _; with_unfolding_all rfl))
  intro v9 t9))

local macro_rules | `(tactic| walk_at "compareOp Eq ref ref") => `(tactic| (
  k_here
  k_dflt (refine' eq_same ?zb1 ?zb2 ?zb3 ?zb4 ?_)
  (case zb1 => k_dflt k_asm)
  (case zb2 => k_dflt k_mem)
  (case zb3 => k_dflt k_mem)
  (case zb4 => k_dflt ke_room)))
local macro_rules | `(tactic| walk_at "compareOp NotEq ref ref") => `(tactic| (
  k_here
  k_dflt (refine' ne_same ?zc1 ?zc2 ?zc3 ?zc4 ?_)
  (case zc1 => k_dflt k_asm)
  (case zc2 => k_dflt k_mem)
  (case zc3 => k_dflt k_mem)
  (case zc4 => k_dflt ke_room)))

local macro_rules | `(tactic| wrow_close) => `(tactic| (
  w_end
  k_dflt (refine' law_end ?zd1 ?zd2 ?zd3 ?zd4)
  (case zd1 => first | rfl | exact beq_self_eq_true _ | decide)
  (case zd2 => k_dflt k_asm)
  (case zd3 => k_dflt assumption)
  (case zd4 => k_dflt rfl)))

local macro_rules | `(tactic| walk_at "binaryOp Mod int int") => `(tactic| (
  k_dflt (refine mod_int ?ze1 ?_)
  (case ze1 => first | decide | exact wk_ne _)))

-- the law's own «return False»: no way leads there
local macro_rules | `(tactic| walk_at "exec Return some") => `(tactic| (
  (with_reducible show wpAny _ _ (exec (Stmt.Return (some (Expr.Constant (Const.bool false) _ _)) _) _) _ _ _)
  exfalso
  first
    | exact absurd (rfl : (_ : Int) = _) (by with_reducible assumption)
    | omega))

theorem law : PySem.Challenge.rw_jb0006_01.Holds := hd (by
  w_strict (k_go0; (all_goals try k_fold); (repeat' (first
    | (k_unfold; (try dsimp only))
    | ((with_reducible show CutN _ _ _ _ _ _ _ _ _)
       (refine' cutN_mk ?F ?N rfl rfl rfl ?hs)
       (case F => k_asm)
       (case N => k_asm)
       (case hs => (intro _ hp; with_reducible (repeat' (first | exact hp | refine List.mem_cons_of_mem _ ?_ | refine List.mem_append_right _ ?_)))))
    | ((with_reducible show CutD _ _ _ _ _ _ _ _ _ _ _ _ _ _)
       first
       | (refine' cutD_no ?F ?N rfl rfl rfl ?hs ?no
          (case F => k_asm)
          (case N => k_asm)
          (case hs => (intro _ hp; with_reducible (repeat' (first | exact hp | refine List.mem_cons_of_mem _ ?_ | refine List.mem_append_right _ ?_))))
          (case no => first | exact notok_1 (by with_reducible assumption) | exact notok_2 (by with_reducible assumption) | exact notok_3 (by with_reducible assumption) | exact notok_4 (by with_reducible assumption) | exact notok_5 (by with_reducible assumption) | exact notok_6 (by with_reducible assumption)))
       | (refine' cutD_yes ?F ?N rfl rfl rfl ?hm ?hs ?yes
          (case F => k_asm)
          (case N => k_asm)
          (case hm => k_mem)
          (case hs => (intro _ hp; with_reducible (repeat' (first | exact hp | refine List.mem_cons_of_mem _ ?_ | refine List.mem_append_right _ ?_))))
          (case yes => exact okD_of (by with_reducible assumption) (by with_reducible assumption) (by with_reducible assumption) (by with_reducible assumption) (by with_reducible assumption) (by with_reducible assumption))))
    | (k_end; wrow_close)
    | walk1
    | (dsimp only; walk1)
    | (leave1; walk_say "STEP leave1"; try dsimp only)
    | fail "no step"))))

end

end Mine

theorem PySem.Challenge.cw_jb0006_01_holds : PySem.Challenge.rw_jb0006_01.Holds :=
  Mine.law
