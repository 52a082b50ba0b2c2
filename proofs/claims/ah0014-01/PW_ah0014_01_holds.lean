import PyProof.Rows.All
import Wide.All
import OpenK.AllK
import Wide.FinOn
import Lean
import PySem.Challenge.RW_ah0014_01
open PySem PySem.W PyProof.Rows
set_option Elab.async false
namespace Mine
set_option maxRecDepth 100000 in
set_option maxHeartbeats 8000000 in
open_top hd for PySem.Challenge.rw_ah0014_01
-- the walk's line for the top is not meant for the defs' own walks (open_top leaves it on)
theorem top_off : True := by
  w_top off
  exact trivial
def Hold (P : Prop) : Prop := P
theorem hold_intro {P : Prop} (h : Hold P) : P := h
/-- a call of the def at f upon vs, from any frame: it gives R, the ledger stands as it stood -/
abbrev Cl (w : World) (n : Nat) (f : Addr) (news : List (Addr × Obj)) (vs : List Value) (R : Tok → Value) : Prop :=
  ∀ (p : Program) (loose : List Str) (mean : ExcName → Option Value) (mg mb : Str → Option Value) (dp un : Nat) (gd : Option (List Code)) (cn : Str) (cs : Scope) (a : Addr) (ccd : Value) (cl : List (Str × Addr)) (outer : List Env) (A₀ : Around) (base h₀ : Heap) (L : Addr) (m : Str → Option Value) (s : Shared) (Q E : Value → Shared → Prop),
    Below A₀ base outer h₀ → Fr h₀ L s.heap m → (hd.heap_39 w.params).In h₀ → News h₀ L s.heap news → Top p loose mean mg mb h₀ → cs.kind = .function → dp + n < recursionLimit → un + 8 * n < cLine →
    CbRet h₀ L m news s Q R →
      wpAny (model PySem.Challenge.pw_ah0014_01 w) (ktrTop dp un gd cn cs L a ccd cl outer) (call (.ref f) vs) Q E s
abbrev tupOf (vs : List Value) : Obj := { cls := .type "tuple", data := .seq vs.toArray }
abbrev CtRet (h₀ : Heap) (L : Addr) (m : Str → Option Value) (news : List (Addr × Obj)) (s : Shared) (Q : Value → Shared → Prop) (R : Tok → Tok → Tok → List Value) : Prop :=
  ∀ (t1 t2 t3 : Tok) (q : Addr) (h' : Heap) (tk' : Nat), Fr h₀ L h' m → News h₀ L h' ((q, tupOf (R t1 t2 t3)) :: news) → Q (.ref q) { s with heap := h', toks := tk' }
/-- the same, of a def that hands back a new tuple -/
abbrev ClT (w : World) (n : Nat) (f : Addr) (news : List (Addr × Obj)) (vs : List Value) (R : Tok → Tok → Tok → List Value) : Prop :=
  ∀ (p : Program) (loose : List Str) (mean : ExcName → Option Value) (mg mb : Str → Option Value) (dp un : Nat) (gd : Option (List Code)) (cn : Str) (cs : Scope) (a : Addr) (ccd : Value) (cl : List (Str × Addr)) (outer : List Env) (A₀ : Around) (base h₀ : Heap) (L : Addr) (m : Str → Option Value) (s : Shared) (Q E : Value → Shared → Prop),
    Below A₀ base outer h₀ → Fr h₀ L s.heap m → (hd.heap_39 w.params).In h₀ → News h₀ L s.heap news → Top p loose mean mg mb h₀ → cs.kind = .function → dp + n < recursionLimit → un + 8 * n < cLine →
    CtRet h₀ L m news s Q R →
      wpAny (model PySem.Challenge.pw_ah0014_01 w) (ktrTop dp un gd cn cs L a ccd cl outer) (call (.ref f) vs) Q E s
section
variable {w : World} {n : Nat} {f : Addr} {news : List (Addr × Obj)} {vs : List Value} {p : Program} {loose : List Str} {mean : ExcName → Option Value} {mg mb : Str → Option Value} {dp un : Nat} {gd : Option (List Code)} {cn : Str} {cs : Scope} {a : Addr} {ccd : Value} {cl : List (Str × Addr)} {outer : List Env} {A₀ : Around} {base h₀ : Heap} {L : Addr} {m : Str → Option Value} {s : Shared} {Q E : Value → Shared → Prop}
theorem Cl.use {R : Tok → Value} (B : Below A₀ base outer h₀) (F : Fr h₀ L s.heap m) (X : (hd.heap_39 w.params).In h₀) (N : News h₀ L s.heap news) (T : Top p loose mean mg mb h₀) (C : Cl w n f news vs R) (hk : cs.kind = .function) (hd : dp + n < recursionLimit) (hu : un + 8 * n < cLine)
    (ret : CbRet h₀ L m news s Q R) : wpAny (model PySem.Challenge.pw_ah0014_01 w) (ktrTop dp un gd cn cs L a ccd cl outer) (call (.ref f) vs) Q E s :=
  C _ _ _ _ _ _ _ _ _ _ _ _ _ _ _ _ _ _ _ _ _ _ B F X N T hk hd hu ret
theorem ClT.use {R : Tok → Tok → Tok → List Value} (B : Below A₀ base outer h₀) (F : Fr h₀ L s.heap m) (X : (hd.heap_39 w.params).In h₀) (N : News h₀ L s.heap news) (T : Top p loose mean mg mb h₀) (C : ClT w n f news vs R) (hk : cs.kind = .function) (hd : dp + n < recursionLimit) (hu : un + 8 * n < cLine)
    (ret : CtRet h₀ L m news s Q R) : wpAny (model PySem.Challenge.pw_ah0014_01 w) (ktrTop dp un gd cn cs L a ccd cl outer) (call (.ref f) vs) Q E s :=
  C _ _ _ _ _ _ _ _ _ _ _ _ _ _ _ _ _ _ _ _ _ _ B F X N T hk hd hu ret
end
theorem ct_ret3 {h₀ h' : Heap} {L q : Addr} {m : Str → Option Value} {news news' : List (Addr × Obj)} {s : Shared} {Q : Value → Shared → Prop} {a b c a' b' c' : Int} {t1 t2 t3 : Tok} {tk' : Nat}
    (hret : CtRet h₀ L m news s Q (fun t1 t2 t3 => [.int a t1, .int b t2, .int c t3])) (F : Fr h₀ L h' m) (N : News h₀ L h' news') (hm : (q, tupOf [.int a' t1, .int b' t2, .int c' t3]) ∈ news') (hs : ∀ p ∈ news, p ∈ news')
    (e1 : a' = a) (e2 : b' = b) (e3 : c' = c) : Q (.ref q) { s with heap := h', toks := tk' } := by
  subst e1 e2 e3
  exact hret t1 t2 t3 q h' tk' F fun p hp => (List.mem_cons.mp hp).elim (fun e => e ▸ N _ hm) fun e => N p (hs p e)
theorem ct_ret2 {h₀ h' : Heap} {L q : Addr} {m : Str → Option Value} {news news' : List (Addr × Obj)} {s : Shared} {Q : Value → Shared → Prop} {a b a' b' : Int} {t1 t2 : Tok} {tk' : Nat}
    (hret : CtRet h₀ L m news s Q (fun t1 t2 _ => [.int a t1, .int b t2])) (F : Fr h₀ L h' m) (N : News h₀ L h' news') (hm : (q, tupOf [.int a' t1, .int b' t2]) ∈ news') (hs : ∀ p ∈ news, p ∈ news')
    (e1 : a' = a) (e2 : b' = b) : Q (.ref q) { s with heap := h', toks := tk' } := by
  subst e1 e2
  exact hret t1 t2 t1 q h' tk' F fun p hp => (List.mem_cons.mp hp).elim (fun e => e ▸ N _ hm) fun e => N p (hs p e)
def defB (k : Nat) : List Stmt := match PySem.Challenge.pw_ah0014_01.main.body[k]? with | some (.FunctionDef _ _ b _ _ _ _ _ _ _) => b | _ => []
def defS (k : Nat) : Scope := match PySem.Challenge.pw_ah0014_01.main.body[k]? with | some (.FunctionDef _ _ _ _ _ _ s _ _ _) => s | _ => { kind := .function, names := [], isGenerator := false, isCoroutine := false }
/-- what is left of a def's body, from any frame of its own: it hands back a value as Ret says -/
abbrev Tail (w : World) (n : Nat) (sc : Scope) (body : List Stmt) (Mh : (Str → Option Value) → Prop) (news : List (Addr × Obj)) (Ret : Value → List (Addr × Obj) → Prop) : Prop :=
  ∀ (p : Program) (loose : List Str) (mean : ExcName → Option Value) (mg mb : Str → Option Value) (dp un : Nat) (gd : Option (List Code)) (cn : Str) (a : Addr) (ccd : Value) (outer : List Env) (A₀ : Around) (base h₀ : Heap) (L : Addr) (m : Str → Option Value) (s : Shared) (Q : Flow → Shared → Prop) (E : Value → Shared → Prop),
    Below A₀ base outer h₀ → Fr h₀ L s.heap m → (hd.heap_39 w.params).In h₀ → News h₀ L s.heap news → Top p loose mean mg mb h₀ → dp + n < recursionLimit → un + 8 * n < cLine → PassesOwn (model PySem.Challenge.pw_ah0014_01 w) (ktrTop dp un gd cn sc L a ccd [] outer) (envOf cn sc L a ccd) E → Mh m →
    (∀ v h' tk' m' news', Fr h₀ L h' m' → News h₀ L h' news' → (∀ q ∈ news, q ∈ news') → Ret v news' → Q (.ret v) { s with heap := h', toks := tk' }) →
    wpAny (model PySem.Challenge.pw_ah0014_01 w) (ktrTop dp un gd cn sc L a ccd [] outer) (execs body (envOf cn sc L a ccd)) Q E s
abbrev RetT (x y z : Int) (v : Value) (news : List (Addr × Obj)) : Prop := ∃ q t1 t2 t3, v = .ref q ∧ (q, tupOf [.int x t1, .int y t2, .int z t3]) ∈ news
theorem sub_cons {q : Addr × Obj} {a b : List (Addr × Obj)} (h : ∀ p ∈ a, p ∈ b) : ∀ p ∈ a, p ∈ q :: b := fun p hp => List.mem_cons_of_mem _ (h p hp)
theorem unrw_end {h₀ h' : Heap} {L I : Addr} {it : Obj} {s₁ : Shared} {m' : Str → Option Value} {all news' keep : List (Addr × Obj)} {R : (Str → Option Value) → List (Addr × Obj) → Prop} {tk : Nat} (F : Fr h₀ L h' m') (N : News h₀ L h' all) (l : ∀ p ∈ news', p.1 < I) (hI : (I, it) ∈ all) (sub : ∀ p ∈ news', p ∈ all) (hk : SubL keep news') (r : R m' news') :
    UnrEndW h₀ L s₁ [(I, it)] (fun m' n' => SubL keep n' ∧ R m' n') { s₁ with heap := h', toks := tk } :=
  ⟨h', tk, m', news', rfl, F, fun p hp => (List.mem_append.mp hp).elim (fun h => by rw [List.mem_singleton.mp h]; exact N _ hI) fun h => N _ (sub p h), fun p hp q hq e => by
    rw [List.mem_singleton.mp hq] at e; exact absurd e (Nat.ne_of_lt (l p hp)), hk, r⟩
local macro_rules | `(tactic| walk_at $s:str) => `(tactic| k_extra $s)
-- a call of mine: the claim is named by the caller's line
theorem words1 : True := by
  (k_with "mine use" => (   (case k1 => k_asm); (case k2 => k_asm); (case k3 => k_asm); (case k4 => k_asm); (case k5 => k_asm); (case kK => first | exact rfl | assumption); (case kd => ktr_room); (case ku => ktr_units)))
  (k_with "mine ints" => ((try dsimp only); repeat' (first | exact IntsAre.nil | apply IntsAre.cons)))
  (k_with "compareOp In int ref" => (k_here; k_dflt (refine' in_tuple_ints (tupK ?X ?l) ?i ?_; (case X => k_in); (case l => k_is); (case i => walk_at "mine ints")); (try simp only [List.any_cons, List.any_nil, Bool.or_false])))
  (k_with "eval Call" => k_dflt (refine Call_ ?_))
  (k_with "mine sub" => ((repeat (first | with_reducible assumption | exact fun _ h => h | refine sub_cons ?_)); done))
  (k_with "mine mem" => ((repeat (first | exact List.mem_cons_self .. | refine List.mem_cons_of_mem _ ?_)); done))
  (k_with "eval Name" => ((with_reducible show wpAny _ _ (eval _ (envOf _ _ _ _ _)) _ _ _); k_dflt (refine' name_K ?k0 ?k1 ?k2 ?k3 ?_; (case k0 => with_reducible assumption); (case k1 => with_reducible assumption); (case k2 => exact topRead_of (by with_reducible assumption)); (case k3 => k_is); k_whole)))
  (k_with "eval Name" => ((with_reducible show wpAny _ _ (eval _ (envOf _ _ _ _ _)) _ _ _); k_dflt (refine' ld ?k1 ?k2 ?_; (case k1 => with_reducible assumption); (case k2 => first | exact rfl | assumption); k_whole)))
  (k_with "loadName" => ((with_reducible show wpAny _ _ (loadName (envOf _ _ _ _ _) _) _ _ _); k_dflt (refine' ldn ?k1 ?k2 ?_; (case k1 => with_reducible assumption); (case k2 => first | exact rfl | assumption); k_whole)))
  (k_with "mine dec" => first | exact decide_eq_true (by omega) | exact decide_eq_false (by omega) | (simp only [Bool.not_eq_true', Bool.not_eq_false', decide_eq_true_eq, decide_eq_false_iff_not]; omega))
  (k_with "WhlIf" => k_dflt (first | (refine WhlIf.yes (by walk_at "mine dec") ?_) | (refine WhlIf.no (by walk_at "mine dec") ?_)))
  (k_with "exec While Compare" => k_dflt (refine whl_start 100 ?_))
  (k_with "exec While UnaryOp" => k_dflt (refine whl_start 100 ?_))
  (k_with "pyIter ref" => (with_unfolding_all (refine' iter_listUnr (n := 0) ?i0 ?i1 ?i2 ?i3 ?i4 ?i5 ?_; (case i0 => rfl); (case i1 => assumption); (case i2 => assumption); (case i3 => exact List.mem_cons_self ..); (case i4 => rfl); (case i5 => exact rfl); k_whole; intro i' l1)))
  (k_with "ListRest" => (refine hold_intro ?_))
  exact trivial
local macro_rules | `(tactic| k_mem) => `(tactic| ((repeat (first | with_reducible assumption | refine List.mem_cons_of_mem _ ?_)); done))
theorem words2 : True := by
  (k_with "mine asm" => ((repeat (first | with_reducible assumption | refine List.mem_cons_of_mem _ ?_)); done))
  exact trivial
def leapB (y : Int) : Bool := decide (y.fmod 4 = 0) && (!decide (y.fmod 100 = 0) || decide (y.fmod 400 = 0))
set_option maxRecDepth 100000 in
set_option maxHeartbeats 8000000 in
theorem isleap_cl (w : World) (news : List (Addr × Obj)) (y : Int) (t : Tok) : Cl w 4 21 news [.int y t] (fun _ => .bool (leapB y)) := by
  intro p loose mean mg mb dp un gd cn cs a ccd cl outer A₀ base h₀ L m s Q E B F X N T hk hdp hun hret
  refine wpAny_call ?_
  k_dflt cell_enter
  k_steps
  all_goals refine' cb_retB (Q := Q) hret ?_ ?_ ?_
  all_goals first | k_asm | skip
  all_goals (simp_all [leapB]; try rfl)
set_option maxRecDepth 100000 in
set_option maxHeartbeats 8000000 in
theorem jwday_cl (w : World) (news : List (Addr × Obj)) (y : Int) (t : Tok) : Cl w 4 28 news [.int y t] (fun t => .int (y.fmod 7) t) := by
  intro p loose mean mg mb dp un gd cn cs a ccd cl outer A₀ base h₀ L m s Q E B F X N T hk hdp hun hret
  refine wpAny_call ?_
  k_dflt cell_enter
  k_steps
  all_goals refine' cb_retI (Q := Q) hret ?_ ?_ ?_
  all_goals first | k_asm | rfl
theorem words3 : True := by
  (k_with "call ref" => (k_here; k_dflt (refine' Cl.use ?k1 ?k2 ?k3 ?k4 ?k5 (isleap_cl _ _ _ _) ?kK ?kd ?ku ?_; walk_at "mine use"; intro t9 h9 tk9 F9 N9; (try dsimp only); (try k_fold))))
  exact trivial
/-- the days that a day of a month may have -/
def dayOk (y m d : Int) : Prop := 1 ≤ d ∧ d ≤ 31 ∧ (m = 2 → leapB y = true → d ≤ 29) ∧ (m = 2 → leapB y = false → d ≤ 28) ∧ ((4 == m || (6 == m || (9 == m || 11 == m))) = true → d ≤ 30)
theorem dayOk_one (y m : Int) : dayOk y m 1 := ⟨by decide, by decide, fun _ _ => by decide, fun _ _ => by decide, fun _ => by decide⟩
theorem words4 : True := by
  (k_with "exec Raise some none" => (k_dflt (exfalso; (with_reducible rename dayOk _ _ _ => hok); obtain ⟨h1, h2, h3, h4, h5⟩ := hok; first | exact absurd (h3 (by with_reducible assumption) (by with_reducible assumption)) (by with_reducible assumption) | exact absurd (h4 (by with_reducible assumption) (by with_reducible assumption)) (by with_reducible assumption) | exact absurd (h5 (by with_reducible assumption)) (by with_reducible assumption) | omega)))
  exact trivial
set_option maxRecDepth 100000 in
set_option maxHeartbeats 8000000 in
theorem legal_cl (w : World) (news : List (Addr × Obj)) (y mo d : Int) (t1 t2 t3 : Tok) (hok : dayOk y mo d) : Cl w 8 41 news [.int y t1, .int mo t2, .int d t3] (fun _ => .bool true) := by
  intro p loose mean mg mb dp un gd cn cs a ccd cl outer A₀ base h₀ L m s Q E B F X N T hk hdp hun hret
  refine wpAny_call ?_
  k_dflt cell_enter
  k_steps
  all_goals refine' cb_retB (Q := Q) hret rfl ?_ ?_
  all_goals first | k_asm | skip
theorem words5 : True := by
  (k_with "call ref" => (k_here; k_dflt (refine' Cl.use ?k1 ?k2 ?k3 ?k4 ?k5 (legal_cl _ _ _ _ _ _ _ _ ?kp) ?kK ?kd ?ku ?_; (case kp => first | with_reducible assumption | exact dayOk_one _ _); walk_at "mine use"; intro t9 h9 tk9 F9 N9; (try dsimp only); (try k_fold))))
  exact trivial
def gadj (y m : Int) : Int := if m ≤ 2 then 0 else if leapB y = true then -1 else -2
def gjd (y m d : Int) : Int := 1721426 - 1 + 365 * (y - 1) + (y - 1).fdiv 4 + -((y - 1).fdiv 100) + (y - 1).fdiv 400 + ((367 * m - 362).fdiv 12 + gadj y m + d)
theorem gadj_a {y m : Int} (h : m ≤ 2) : gadj y m = 0 := by unfold gadj; rw [if_pos h]
theorem gadj_b {y m : Int} (h : ¬ m ≤ 2) (g : leapB y = true) : gadj y m = -1 := by unfold gadj; rw [if_neg h, if_pos g]
theorem gadj_c {y m : Int} (h : ¬ m ≤ 2) (g : leapB y = false) : gadj y m = -2 := by unfold gadj; rw [if_neg h, if_neg (by rw [g]; decide)]
set_option maxRecDepth 100000 in
set_option maxHeartbeats 8000000 in
theorem togjd_cl (w : World) (news : List (Addr × Obj)) (y mo d : Int) (t1 t2 t3 : Tok) (hok : dayOk y mo d) : Cl w 12 48 news [.int y t1, .int mo t2, .int d t3] (fun t => .int (gjd y mo d) t) := by
  intro p loose mean mg mb dp un gd cn cs a ccd cl outer A₀ base h₀ L m s Q E B F X N T hk hdp hun hret
  refine wpAny_call ?_
  k_dflt cell_enter
  k_steps
  all_goals refine' cb_retI (Q := Q) hret ?_ (by k_asm) (by k_asm)
  all_goals unfold gjd
  all_goals first | rw [gadj_a (by with_reducible assumption)] | rw [gadj_b (by with_reducible assumption) (by with_reducible assumption)] | rw [gadj_c (by with_reducible assumption) (by with_reducible assumption)]
theorem words6 : True := by
  (k_with "call ref" => (k_here; k_dflt (refine' Cl.use ?k1 ?k2 ?k3 ?k4 ?k5 (togjd_cl _ _ _ _ _ _ _ _ ?kp) ?kK ?kd ?ku ?_; (case kp => first | with_reducible assumption | exact dayOk_one _ _); walk_at "mine use"; intro t9 h9 tk9 F9 N9; (try dsimp only); (try k_fold))))
  exact trivial
def yiOf (jd : Int) : Int := ((((jd - 1721426).fmod 146097).fmod 36524).fmod 1461).fdiv 365
def ceOf (jd : Int) : Int := ((jd - 1721426).fmod 146097).fdiv 36524
def gyB (jd : Int) : Int := (jd - 1721426).fdiv 146097 * 400 + ceOf jd * 100 + (((jd - 1721426).fmod 146097).fmod 36524).fdiv 1461 * 4 + yiOf jd
def gyF (jd : Int) : Int := if ceOf jd = 4 ∨ yiOf jd = 4 then gyB jd else gyB jd + 1
def ydF (jd : Int) : Int := jd - gjd (gyF jd) 1 1
def yadj (jd : Int) : Int := if ydF jd < 58 + (if leapB (gyF jd) = true then 1 else 0) then 0 else if leapB (gyF jd) = true then 1 else 2
def gmF (jd : Int) : Int := ((ydF jd + yadj jd) * 12 + 373).fdiv 367
def gdF (jd : Int) : Int := jd - gjd (gyF jd) (gmF jd) 1 + 1
section
variable {jd Y M : Int}
theorem gyF_a (h : ((jd - 1721426).fmod 146097).fdiv 36524 = 4) : (jd - 1721426).fdiv 146097 * 400 + ((jd - 1721426).fmod 146097).fdiv 36524 * 100 + (((jd - 1721426).fmod 146097).fmod 36524).fdiv 1461 * 4 + ((((jd - 1721426).fmod 146097).fmod 36524).fmod 1461).fdiv 365 = gyF jd := by
  unfold gyF; rw [if_pos (show ceOf jd = 4 ∨ _ from Or.inl h)]; rfl
theorem gyF_b (h : ((((jd - 1721426).fmod 146097).fmod 36524).fmod 1461).fdiv 365 = 4) : (jd - 1721426).fdiv 146097 * 400 + ((jd - 1721426).fmod 146097).fdiv 36524 * 100 + (((jd - 1721426).fmod 146097).fmod 36524).fdiv 1461 * 4 + ((((jd - 1721426).fmod 146097).fmod 36524).fmod 1461).fdiv 365 = gyF jd := by
  unfold gyF; rw [if_pos (show _ ∨ yiOf jd = 4 from Or.inr h)]; rfl
theorem gyF_c (h : ((jd - 1721426).fmod 146097).fdiv 36524 ≠ 4) (g : ((((jd - 1721426).fmod 146097).fmod 36524).fmod 1461).fdiv 365 ≠ 4) : (jd - 1721426).fdiv 146097 * 400 + ((jd - 1721426).fmod 146097).fdiv 36524 * 100 + (((jd - 1721426).fmod 146097).fmod 36524).fdiv 1461 * 4 + ((((jd - 1721426).fmod 146097).fmod 36524).fmod 1461).fdiv 365 + 1 = gyF jd := by
  unfold gyF; rw [if_neg (fun z => z.elim h g)]; rfl
theorem gmF_a (e : Y = gyF jd) (h : jd - gjd Y 1 1 < 58 + (if leapB Y = true then 1 else 0)) : ((jd - gjd Y 1 1 + 0) * 12 + 373).fdiv 367 = gmF jd := by
  subst e; unfold gmF yadj; rw [if_pos (show ydF jd < _ from h)]; rfl
theorem gmF_b (e : Y = gyF jd) (h : ¬ jd - gjd Y 1 1 < 58 + (if leapB Y = true then 1 else 0)) (g : leapB Y = true) : ((jd - gjd Y 1 1 + 1) * 12 + 373).fdiv 367 = gmF jd := by
  subst e; unfold gmF yadj; rw [if_neg (show ¬ ydF jd < _ from h), if_pos g]; rfl
theorem gmF_c (e : Y = gyF jd) (h : ¬ jd - gjd Y 1 1 < 58 + (if leapB Y = true then 1 else 0)) (g : leapB Y = false) : ((jd - gjd Y 1 1 + 2) * 12 + 373).fdiv 367 = gmF jd := by
  subst e; unfold gmF yadj; rw [if_neg (show ¬ ydF jd < _ from h), if_neg (by rw [g]; decide)]; rfl
theorem gdF_of (e1 : Y = gyF jd) (e2 : M = gmF jd) : jd - gjd Y M 1 + 1 = gdF jd := by subst e1 e2; rfl
end
theorem words7 : True := by
  (k_with "execs cons" => ((with_reducible show wpAny _ _ (execs (Stmt.Assign [PySem.Expr.Name (PySem.Str.ofString "yearday") _] _ _ :: _) _) _ _ _); refine hold_intro ?_))
  (k_with "execs cons" => ((with_reducible show wpAny _ _ (execs (Stmt.Assign [PySem.Expr.Name (PySem.Str.ofString "month") _] (PySem.Expr.BinOp _ Operator.FloorDiv _ _) _ :: _) _) _ _ _); refine hold_intro ?_))
  exact trivial
set_option maxRecDepth 100000 in
set_option maxHeartbeats 8000000 in
theorem fg_tail2 (w : World) (news : List (Addr × Obj)) (jd Y yd la M : Int) (hM : ((yd + la) * 12 + 373).fdiv 367 = M) : Tail w 14 (defS 18) ((defB 18).drop 14) (fun m => (∃ t, m (Str.ofString "wjd") = some (.int jd t)) ∧ (∃ t, m (Str.ofString "year") = some (.int Y t)) ∧ (∃ t, m (Str.ofString "yearday") = some (.int yd t)) ∧ ∃ t, m (Str.ofString "leap_adj") = some (.int la t)) news (RetT Y M (jd - gjd Y M 1 + 1)) := by
  subst hM
  rintro p loose mean mg mb dp un gd cn a ccd outer A₀ base h₀ L m s Q E B F X N T hdp hun hPO ⟨⟨tw, mW⟩, ⟨ty, mY⟩, ⟨td, mD⟩, ⟨tl, mL⟩⟩ hQ
  show wpAny _ _ (execs (_ :: _) _) _ _ _
  refine wpAny_execs_cons ?_
  k_steps
  exact hQ _ _ _ _ _ (by with_reducible assumption) (by with_reducible assumption) (by walk_at "mine sub") ⟨_, _, _, _, rfl, List.mem_cons_self ..⟩
set_option maxRecDepth 100000 in
set_option maxHeartbeats 8000000 in
theorem fg_tail1 (w : World) (news : List (Addr × Obj)) (jd Y : Int) (eY : Y = gyF jd) : Tail w 15 (defS 18) ((defB 18).drop 11) (fun m => (∃ t, m (Str.ofString "wjd") = some (.int jd t)) ∧ (∃ t, m (Str.ofString "year") = some (.int Y t))) news (RetT (gyF jd) (gmF jd) (gdF jd)) := by
  rintro p loose mean mg mb dp un gd cn a ccd outer A₀ base h₀ L m s Q E B F X N T hdp hun hPO ⟨⟨tw, mW⟩, ⟨ty, mY⟩⟩ hQ
  show wpAny _ _ (execs (_ :: _) _) _ _ _
  refine wpAny_execs_cons ?_
  k_steps
  all_goals (
    unfold Hold
    first | (have e2 := gmF_a eY (by with_reducible assumption)) | (have e2 := gmF_b eY (by with_reducible assumption) (by with_reducible assumption)) | (have e2 := gmF_c eY (by with_reducible assumption) (by with_reducible assumption))
    refine' fg_tail2 w _ jd Y _ _ _ e2 p loose mean mg mb _ _ _ cn a ccd outer A₀ base h₀ L _ _ Q E B (by with_reducible assumption) X (by with_reducible assumption) T (by omega) (by omega) hPO ?zm ?_
    case zm => exact ⟨⟨_, mW⟩, ⟨_, mY⟩, ⟨_, by rfl⟩, ⟨_, by rfl⟩⟩
    intro v h' tk' m' news' F' N' hs hR
    rw [gdF_of eY rfl, eY] at hR
    exact hQ v h' tk' m' news' F' N' hs hR)
set_option maxRecDepth 100000 in
set_option maxHeartbeats 8000000 in
theorem fromgjd_cl (w : World) (news : List (Addr × Obj)) (jd : Int) (t : Tok) : ClT w 20 55 news [.int jd t] (fun t1 t2 t3 => [.int (gyF jd) t1, .int (gmF jd) t2, .int (gdF jd) t3]) := by
  intro p loose mean mg mb dp un gd cn cs a ccd cl outer A₀ base h₀ L m s Q E B F X N T hk hdp hun hret
  refine wpAny_call ?_
  k_dflt cell_enter
  k_steps
  all_goals (
    unfold Hold
    first | (have e1 := gyF_a (jd := jd) (by with_reducible assumption)) | (have e1 := gyF_b (jd := jd) (by with_reducible assumption)) | (have e1 := gyF_c (jd := jd) (by with_reducible assumption) (by with_reducible assumption))
    refine' fg_tail1 w _ jd _ e1 p loose mean mg mb _ _ _ _ _ _ _ _ base _ _ _ _ _ _ (by with_reducible assumption) (by with_reducible assumption) (by with_reducible assumption) (by with_reducible assumption) (by with_reducible assumption) ?zd ?zu ?zp ?zm ?_
    case zd => ktr_room
    case zu => ktr_units
    case zp => passes_own
    case zm => exact ⟨⟨_, by rfl⟩, ⟨_, by rfl⟩⟩
    rintro v h' tk' m' news' F' N' hs ⟨q, t1, t2, t3, rfl, hm⟩
    exact ⟨_, _, _, F', N', fun kF kN => hret t1 t2 t3 q h' tk' kF fun p hp => (List.mem_cons.mp hp).elim (fun e => e ▸ kN _ hm) fun e => kN p (hs p e)⟩)
theorem words8 : True := by
  (k_with "call ref" => (k_here; k_dflt (refine' ClT.use ?k1 ?k2 ?k3 ?k4 ?k5 (fromgjd_cl _ _ _ _) ?kK ?kd ?ku ?_; walk_at "mine use"; intro t9 u9 v9 q9 h9 tk9 F9 N9; (try dsimp only); (try k_fold))))
  exact trivial
/-- what the walk knows of the row of new years: a function object on the ledger whose call at g gives T g -/
structure TurnCl (w : World) (f : Addr) (news : List (Addr × Obj)) (T : Int → Int) : Prop where
  fn : ∃ oc od fd sl, (f, (⟨oc, od, .func fd, sl⟩ : Obj)) ∈ news
  call : ∀ news', (∀ p ∈ news, p ∈ news') → ∀ (g : Int) (t : Tok), Cl w 8 f news' [.int g t] (fun t => .int (T g) t)
theorem TurnCl.fnAt {w : World} {f : Addr} {news news' : List (Addr × Obj)} {T : Int → Int} {h₀ h : Heap} {L : Addr} (H : TurnCl w f news T) (N : News h₀ L h news') (hs : ∀ p ∈ news, p ∈ news') : FnAt f h :=
  let ⟨_, _, _, _, hm⟩ := H.fn; FnAt.of N (hs _ hm)
theorem TurnCl.more {w : World} {f : Addr} {news news' : List (Addr × Obj)} {T : Int → Int} (H : TurnCl w f news T) (hs : ∀ p ∈ news, p ∈ news') : TurnCl w f news' T :=
  ⟨let ⟨a, b, c, d, hm⟩ := H.fn; ⟨a, b, c, d, hs _ hm⟩, fun n hn => H.call n fun p hp => hn p (hs p hp)⟩
theorem words9 : True := by
  (k_with "callWith ref" => (k_here; k_dflt (refine' callWith_F ?k1 ?_; (case k1 => exact TurnCl.fnAt (by with_reducible assumption) (by with_reducible assumption) (by walk_at "mine sub")); k_whole)))
  (k_with "And" => k_dflt ((with_reducible show FnAt _ _ ∧ _); refine ⟨TurnCl.fnAt (by with_reducible assumption) (by with_reducible assumption) (by walk_at "mine sub"), ?_⟩; try dsimp only [List.nil_append, List.cons_append]))
  (k_with "call ref" => (k_here; k_dflt (refine' Cl.use ?k1 ?k2 ?k3 ?k4 ?k5 (TurnCl.call ?kH _ ?kS _ _) ?kK ?kd ?ku ?_; (case kH => with_reducible assumption); walk_at "mine use"; (case kS => walk_at "mine sub"); intro t9 h9 tk9 F9 N9; (try dsimp only); (try k_fold))))
  exact trivial
set_option maxRecDepth 100000 in
set_option maxHeartbeats 8000000 in
theorem lasteq_a (w : World) (news : List (Addr × Obj)) (f : Addr) (tn : Int → Int) (H : TurnCl w f news tn) (jd : Int) (t : Tok) (a1 : tn (gyF jd) ≤ jd) (a2 : jd < tn (gyF jd + 1)) : Cl w 24 71 news [.int jd t, .ref f] (fun t => .int (tn (gyF jd) - 1) t) := by
  intro p loose mean mg mb dp un gd cn cs a ccd cl outer A₀ base h₀ L m s Q E B F X N T hk hdp hun hret
  refine wpAny_call ?_
  k_dflt cell_enter
  k_steps
  all_goals exact cb_retI (Q := Q) hret rfl (by with_reducible assumption) (cb_drop (by with_reducible assumption) (by walk_at "mine sub"))
set_option maxRecDepth 100000 in
set_option maxHeartbeats 8000000 in
theorem lasteq_b (w : World) (news : List (Addr × Obj)) (f : Addr) (tn : Int → Int) (H : TurnCl w f news tn) (jd : Int) (t : Tok) (b0 : jd < tn (gyF jd)) (b1 : tn (gyF jd - 1) ≤ jd) (b2 : jd < tn (gyF jd - 1 + 1)) : Cl w 24 71 news [.int jd t, .ref f] (fun t => .int (tn (gyF jd - 1) - 1) t) := by
  intro p loose mean mg mb dp un gd cn cs a ccd cl outer A₀ base h₀ L m s Q E B F X N T hk hdp hun hret
  refine wpAny_call ?_
  k_dflt cell_enter
  k_steps
  all_goals exact cb_retI (Q := Q) hret rfl (by with_reducible assumption) (cb_drop (by with_reducible assumption) (by walk_at "mine sub"))
/-- the year that a day number's new year tells -/
def pyr (e : Int) : Int := ((2 * (e - 1948321) - 1) * 100000000 + 36524219878).fdiv (2 * 36524219878) + 1
/-- the day jd lies in the Persian year k of the row tn -/
structure At (tn : Int → Int) (jd k : Int) : Prop where
  lo : tn (k + 621) ≤ jd
  hi : jd < tn (k + 621 + 1)
  gy : gyF jd = k + 621 ∨ gyF jd = k + 621 + 1
  yr : pyr (tn (k + 621) - 1) = k
theorem lasteq_cl (w : World) (news : List (Addr × Obj)) (f : Addr) (tn : Int → Int) (H : TurnCl w f news tn) (jd k : Int) (t : Tok) (h : At tn jd k) : Cl w 24 71 news [.int jd t, .ref f] (fun t => .int (tn (k + 621) - 1) t) := by
  obtain ⟨h1, h2, h3, _⟩ := h
  rcases h3 with e | e
  · rw [← e] at h1 h2 ⊢; exact lasteq_a w news f tn H jd t h1 h2
  · have e' : k + 621 = gyF jd - 1 := by omega
    rw [← e] at h2; rw [e'] at h1 ⊢
    exact lasteq_b w news f tn H jd t h2 h1 (by rw [show gyF jd - 1 + 1 = gyF jd by omega]; exact h2)
theorem words10 : True := by
  (k_with "call ref" => (k_here; k_dflt (refine' Cl.use ?k1 ?k2 ?k3 ?k4 ?k5 (lasteq_cl _ _ _ _ ?kH _ _ _ ?kp) ?kK ?kd ?ku ?_; (case kp => with_reducible assumption); walk_at "mine use"; (case kH => exact TurnCl.more (by with_reducible assumption) (by walk_at "mine sub")); intro t9 h9 tk9 F9 N9; (try dsimp only); (try k_fold))))
  exact trivial
set_option maxRecDepth 100000 in
set_option maxHeartbeats 8000000 in
theorem jd2p_cl (w : World) (news : List (Addr × Obj)) (f : Addr) (tn : Int → Int) (H : TurnCl w f news tn) (jd k : Int) (t : Tok) (h : At tn jd k) : ClT w 28 78 news [.int jd t, .ref f] (fun t1 t2 _ => [.int k t1, .int (tn (k + 621) - 1) t2]) := by
  intro p loose mean mg mb dp un gd cn cs a ccd cl outer A₀ base h₀ L m s Q E B F X N T hk hdp hun hret
  refine wpAny_call ?_
  k_dflt cell_enter
  k_steps
  all_goals exact ct_ret2 (Q := Q) hret (by with_reducible assumption) (by with_reducible assumption) (List.mem_cons_self ..) (by walk_at "mine sub") (by exact h.yr) (by rfl)
def pmo (yd : Int) : Int := if yd ≤ 186 then -((-yd).fdiv 31) else -((-(yd - 6)).fdiv 30)
def pdy (yd : Int) : Int := if yd ≤ 186 then yd - (pmo yd - 1) * 31 else yd - (pmo yd - 1) * 30 - 6
theorem pmo_a {yd : Int} (h : yd ≤ 186) : -((-yd).fdiv 31) = pmo yd := by unfold pmo; rw [if_pos h]
theorem pmo_b {yd : Int} (h : ¬ yd ≤ 186) : -((-(yd - 6)).fdiv 30) = pmo yd := by unfold pmo; rw [if_neg h]
theorem pdy_a {yd : Int} (h : yd ≤ 186) : yd - (-((-yd).fdiv 31) - 1) * 31 = pdy yd := by rw [pmo_a h]; unfold pdy; rw [if_pos h]
theorem pdy_b {yd : Int} (h : ¬ yd ≤ 186) : yd - (-((-(yd - 6)).fdiv 30) - 1) * 30 - 6 = pdy yd := by rw [pmo_b h]; unfold pdy; rw [if_neg h]
set_option maxRecDepth 100000 in
set_option maxHeartbeats 8000000 in
theorem frompjd_cl (w : World) (news : List (Addr × Obj)) (f : Addr) (tn : Int → Int) (H : TurnCl w f news tn) (jd k : Int) (t : Tok) (h : At tn jd k) : ClT w 28 92 news [.int jd t, .ref f] (fun t1 t2 t3 => [.int k t1, .int (pmo (jd - (tn (k + 621) - 1))) t2, .int (pdy (jd - (tn (k + 621) - 1))) t3]) := by
  intro p loose mean mg mb dp un gd cn cs a ccd cl outer A₀ base h₀ L m s Q E B F X N T hk hdp hun hret
  refine wpAny_call ?_
  k_dflt cell_enter
  k_steps
  all_goals first
    | exact ct_ret3 (Q := Q) hret (by with_reducible assumption) (by with_reducible assumption) (List.mem_cons_self ..) (by walk_at "mine sub") (by exact h.yr) (by exact pmo_a (by with_reducible assumption)) (by exact pdy_a (by with_reducible assumption))
    | exact ct_ret3 (Q := Q) hret (by with_reducible assumption) (by with_reducible assumption) (List.mem_cons_self ..) (by walk_at "mine sub") (by exact h.yr) (by exact pmo_b (by with_reducible assumption)) (by exact pdy_b (by with_reducible assumption))
theorem words11 : True := by
  (k_with "call ref" => (k_here; k_dflt (refine' ClT.use ?k1 ?k2 ?k3 ?k4 ?k5 (jd2p_cl _ _ _ _ ?kH _ _ _ ?kp) ?kK ?kd ?ku ?_; (case kp => with_reducible assumption); walk_at "mine use"; (case kH => exact TurnCl.more (by with_reducible assumption) (by walk_at "mine sub")); intro t9 u9 v9 q9 h9 tk9 F9 N9; (try dsimp only); (try k_fold))))
  (k_with "call ref" => (k_here; k_dflt (refine' ClT.use ?k1 ?k2 ?k3 ?k4 ?k5 (frompjd_cl _ _ _ _ ?kH _ _ _ ?kp) ?kK ?kd ?ku ?_; (case kp => with_reducible assumption); walk_at "mine use"; (case kH => exact TurnCl.more (by with_reducible assumption) (by walk_at "mine sub")); intro t9 u9 v9 q9 h9 tk9 F9 N9; (try dsimp only); (try k_fold))))
  exact trivial
def pg0 (y : Int) : Int := 1948321 - 1 + (36524219878 * (y - 1 - 1)).fdiv 100000000
def pmd (m : Int) : Int := if m ≤ 7 then (m - 1) * 31 else (m - 1) * 30 + 6
theorem pmd_a {m : Int} (h : m ≤ 7) : (m - 1) * 31 = pmd m := by unfold pmd; rw [if_pos h]
theorem pmd_b {m : Int} (h : ¬ m ≤ 7) : (m - 1) * 30 + 6 = pmd m := by unfold pmd; rw [if_neg h]
/-- the two or three guesses by which to_jd comes to the year y -/
def Reach (tn : Int → Int) (y : Int) : Prop :=
  (At tn (1948321 - 1 + (36524219878 * (y - 1 - 1)).fdiv 100000000) (y - 1) ∧ At tn (tn (y - 1 + 621) - 1 + (36524219878 : Int).fdiv 100000000 + 2) y) ∨
  (At tn (1948321 - 1 + (36524219878 * (y - 1 - 1)).fdiv 100000000) (y - 2) ∧ At tn (tn (y - 2 + 621) - 1 + (36524219878 : Int).fdiv 100000000 + 2) (y - 1) ∧ At tn (tn (y - 1 + 621) - 1 + (36524219878 : Int).fdiv 100000000 + 2) y)
section
variable {prog : Program} {w : World} {A : Around} {E : Value → Shared → Prop} {s : Shared} {env : Env} {h₀ : Heap} {test : PySem.Expr} {body : List Stmt} {Q : Flow → Shared → Prop}
def WhlN (h₀ : Heap) (L : Addr) (J : Nat → (Str → Option Value) → List (Addr × Obj) → Prop) (n : Nat) (Q : Flow → Shared → Prop) (s : Shared) (f : Flow) (s₂ : Shared) : Prop :=
  match f with
  | .ret v => Q (.ret v) s₂
  | .brk => Q .next s₂
  | _ => ∃ n' h tk m news, n' < n ∧ s₂ = { s with heap := h, toks := tk } ∧ Fr h₀ L h m ∧ News h₀ L h news ∧ J n' m news
theorem whl_down {pos : Pos} (J : Nat → (Str → Option Value) → List (Addr × Obj) → Prop) {n0 : Nat} {m0 : Str → Option Value} {news0 : List (Addr × Obj)} (hE : PassesOwn (model prog w) A env E) (F : Fr h₀ env.locals s.heap m0) (N : News h₀ env.locals s.heap news0) (h0 : J n0 m0 news0)
    (step : ∀ n m news h tk, J n m news → Fr h₀ env.locals h m → News h₀ env.locals h news →
      wpAny (model prog w) A (isTrue test env (eval test env)) (fun b s₂ => WhlIf b (wpAny (model prog w) A (execs body env) (WhlN h₀ env.locals J n Q s) E s₂) (wpAny (model prog w) A (execs [] env) Q E s₂)) E { s with heap := h, toks := tk }) :
    wpAny (model prog w) A (exec (.While test body [] pos) env) Q E s := by
  have all : ∀ k n : Nat, n ≤ k → ∀ m news h tk, J n m news → Fr h₀ env.locals h m → News h₀ env.locals h news → WhlRest prog w A E env test body [] Q 1 { s with heap := h, toks := tk } := by
    intro k
    induction k with
    | zero =>
      intro n hn m news h tk hJ F N
      refine whl_turn (k := 0) hE (wpAny_mono (step n m news h tk hJ F N) (fun b s₂ hb => ?_) fun _ _ y => y)
      cases b with
      | false => exact hb
      | true =>
        refine WhlIf.yes rfl (wpAny_mono (show wpAny _ _ _ _ _ _ from by unfold WhlIf at hb; rw [if_pos rfl] at hb; exact hb) (fun f s₃ p => ?_) fun _ _ y => y)
        have no : ∀ s₃, (∃ n' h tk m news, n' < n ∧ s₃ = { s with heap := h, toks := tk } ∧ Fr h₀ env.locals h m ∧ News h₀ env.locals h news ∧ J n' m news) → WhlRest prog w A E env test body [] Q 0 s₃ := by
          rintro _ ⟨n', _, _, _, _, l, _⟩; omega
        cases f with
        | ret v => exact p
        | brk => exact p
        | next => exact no _ p
        | cont => exact no _ p
    | succ k ih =>
      intro n hn m news h tk hJ F N
      refine whl_turn (k := 0) hE (wpAny_mono (step n m news h tk hJ F N) (fun b s₂ hb => ?_) fun _ _ y => y)
      cases b with
      | false => exact hb
      | true =>
        refine WhlIf.yes rfl (wpAny_mono (show wpAny _ _ _ _ _ _ from by unfold WhlIf at hb; rw [if_pos rfl] at hb; exact hb) (fun f s₃ p => ?_) fun _ _ y => y)
        have go : ∀ s₃, (∃ n' h tk m news, n' < n ∧ s₃ = { s with heap := h, toks := tk } ∧ Fr h₀ env.locals h m ∧ News h₀ env.locals h news ∧ J n' m news) → WhlRest prog w A E env test body [] Q 0 s₃ := by
          rintro _ ⟨n', h', tk', m', news', l, rfl, F', N', hJ'⟩
          exact ih n' (by omega) m' news' h' tk' hJ' F' N'
        cases f with
        | ret v => exact p
        | brk => exact p
        | next => exact go _ p
        | cont => exact go _ p
  have e : s = { s with heap := s.heap, toks := s.toks } := rfl
  rw [e]
  exact whl_start 1 (all n0 n0 (Nat.le_refl _) m0 news0 s.heap s.toks h0 F N)
end
/-- n more guesses lead to the year y -/
def Chain (tn : Int → Int) (y : Int) : Nat → Int → Prop
  | 0, g => At tn g y
  | n + 1, g => At tn g (y - ((n + 1 : Nat) : Int)) ∧ Chain tn y n (tn (y - ((n + 1 : Nat) : Int) + 621) - 1 + (36524219878 : Int).fdiv 100000000 + 2)
theorem Chain.at {tn : Int → Int} {y g : Int} : ∀ {n : Nat}, Chain tn y n g → At tn g (y - (n : Int))
  | 0, h => by rw [show y - ((0 : Nat) : Int) = y by omega]; exact h
  | _ + 1, h => h.1
def TopEnd (tn : Int → Int) (y : Int) (m : Str → Option Value) (n : Nat) : Prop :=
  match n with
  | 0 => (∃ t, m (Str.ofString "y0") = some (.int y t)) ∧ ∃ t, m (Str.ofString "equinox") = some (.int (tn (y + 621) - 1) t)
  | n + 1 => (∃ k t, k < y ∧ m (Str.ofString "y0") = some (.int k t)) ∧ ∃ g t, m (Str.ofString "guess") = some (.int g t) ∧ Chain tn y n g
def TopJ (tn : Int → Int) (y mo d : Int) (f : Addr) (news : List (Addr × Obj)) (n : Nat) (m : Str → Option Value) (news' : List (Addr × Obj)) : Prop :=
  (∀ q ∈ news, q ∈ news') ∧ (∃ t, m (Str.ofString "year") = some (.int y t)) ∧ (∃ t, m (Str.ofString "month") = some (.int mo t)) ∧ (∃ t, m (Str.ofString "day") = some (.int d t)) ∧ m (Str.ofString "equinox_jd") = some (.ref f) ∧ TopEnd tn y m n
theorem topj_end {tn : Int → Int} {y g : Int} {n : Nat} {m : Str → Option Value} {t te tg : Tok} (v0 : m (Str.ofString "y0") = some (.int (y - (n : Int)) t)) (v1 : m (Str.ofString "equinox") = some (.int (tn (y - (n : Int) + 621) - 1) te)) (v2 : m (Str.ofString "guess") = some (.int (tn (y - (n : Int) + 621) - 1 + (36524219878 : Int).fdiv 100000000 + 2) tg)) (hC : Chain tn y n g) :
    TopEnd tn y m n := by
  cases n with
  | zero =>
    rw [show y - ((0 : Nat) : Int) = y by omega] at v0 v1
    exact ⟨⟨t, v0⟩, ⟨te, v1⟩⟩
  | succ n => exact ⟨⟨_, t, by omega, v0⟩, ⟨_, tg, v2, hC.2⟩⟩
theorem words12 : True := by
  (k_with "exec While Compare" => ((with_reducible show wpAny _ _ (exec (Stmt.While (PySem.Expr.Compare (PySem.Expr.Name _ _) [CmpOp.Lt] _ _) _ _ _) _) _ _ _); refine hold_intro ?_))
  exact trivial
set_option maxRecDepth 100000 in
set_option maxHeartbeats 8000000 in
theorem topjd_cl (w : World) (news : List (Addr × Obj)) (f : Addr) (tn : Int → Int) (H : TurnCl w f news tn) (y mo d : Int) (t1 t2 t3 : Tok) (h : Reach tn y) : Cl w 32 85 news [.int y t1, .int mo t2, .int d t3, .ref f] (fun t => .int (tn (y + 621) - 1 + pmd mo + d) t) := by
  intro p loose mean mg mb dp un gd cn cs a ccd cl outer A₀ base h₀ L m s Q E B F X N T hk hdp hun hret
  have hc : ∃ n, Chain tn y (n + 1) (1948321 - 1 + (36524219878 * (y - 1 - 1)).fdiv 100000000) := by
    rcases h with ⟨c0, c1⟩ | ⟨c0, c1, c2⟩
    · exact ⟨0, c0, c1⟩
    · exact ⟨1, c0, c1, c2⟩
  obtain ⟨n0, hc⟩ := hc
  refine wpAny_call ?_
  k_dflt cell_enter
  k_steps
  unfold Hold
  refine' whl_down (TopJ tn y mo d f news) ?hE (by assumption) (by assumption) (n0 := n0 + 2) ?h0 ?_
  case hE => passes_own
  case h0 => exact ⟨by walk_at "mine sub", ⟨_, by rfl⟩, ⟨_, by rfl⟩, ⟨_, by rfl⟩, by rfl, ⟨_, _, (by omega : y - 1 < y), by rfl⟩, _, _, by rfl, hc⟩
  intro n m news' h' tk' hJ F N
  obtain ⟨hs, ⟨ty, mY⟩, ⟨tm, mM⟩, ⟨td, mD⟩, mF, hJ⟩ := hJ
  dsimp only [envOf] at F N
  cases n with
  | zero =>
    obtain ⟨⟨t0, m0⟩, ⟨te, mE⟩⟩ := hJ
    k_steps
    all_goals first
      | exact cb_retI (Q := Q) hret (by rw [← pmd_a (by with_reducible assumption)]) (by with_reducible assumption) (cb_drop (by with_reducible assumption) hs)
      | exact cb_retI (Q := Q) hret (by rw [← pmd_b (by with_reducible assumption)]) (by with_reducible assumption) (cb_drop (by with_reducible assumption) hs)
  | succ n =>
    obtain ⟨⟨k, t0, hk', m0⟩, ⟨g, tg, mG, hC⟩⟩ := hJ
    have hA := hC.at
    have H' := H.more hs
    k_steps
    refine' ⟨n, _, _, _, _, Nat.lt_succ_self n, rfl, ?zF, ?zN, ?zs, ?z1, ?z2, ?z3, ?z4, ?z5⟩
    case zF => assumption
    case zN => assumption
    case zs => exact fun q hq => List.mem_cons_of_mem _ (hs q hq)
    case z1 => exact ⟨ty, mY⟩
    case z2 => exact ⟨tm, mM⟩
    case z3 => exact ⟨td, mD⟩
    case z4 => exact mF
    case z5 => exact topj_end (by rfl) (by rfl) (by rfl) hC
theorem words13 : True := by
  (k_with "call ref" => (k_here; k_dflt (refine' Cl.use ?k1 ?k2 ?k3 ?k4 ?k5 (topjd_cl _ _ _ _ ?kH _ _ _ _ _ _ ?kp) ?kK ?kd ?ku ?_; (case kp => with_reducible assumption); walk_at "mine use"; (case kH => exact TurnCl.more (by with_reducible assumption) (by walk_at "mine sub")); intro t9 h9 tk9 F9 N9; (try dsimp only); (try k_fold))))
  exact trivial
set_option maxRecDepth 100000 in
set_option maxHeartbeats 8000000 in
theorem fromgreg_cl (w : World) (news : List (Addr × Obj)) (f : Addr) (tn : Int → Int) (H : TurnCl w f news tn) (y mo d k : Int) (t1 t2 t3 : Tok) (hok : dayOk y mo d) (h : At tn (gjd y mo d) k) : ClT w 36 99 news [.int y t1, .int mo t2, .int d t3, .ref f] (fun t1 t2 t3 => [.int k t1, .int (pmo (gjd y mo d - (tn (k + 621) - 1))) t2, .int (pdy (gjd y mo d - (tn (k + 621) - 1))) t3]) := by
  intro p loose mean mg mb dp un gd cn cs a ccd cl outer A₀ base h₀ L m s Q E B F X N T hk hdp hun hret
  refine wpAny_call ?_
  k_dflt cell_enter
  k_steps
  all_goals exact ct_ret3 (Q := Q) hret (by with_reducible assumption) (by with_reducible assumption) (List.mem_cons_self ..) (by walk_at "mine sub") (by rfl) (by rfl) (by rfl)
set_option maxRecDepth 100000 in
set_option maxHeartbeats 8000000 in
theorem togreg_cl (w : World) (news : List (Addr × Obj)) (f : Addr) (tn : Int → Int) (H : TurnCl w f news tn) (y mo d : Int) (t1 t2 t3 : Tok) (h : Reach tn y) : ClT w 40 106 news [.int y t1, .int mo t2, .int d t3, .ref f] (fun t1 t2 t3 => [.int (gyF (tn (y + 621) - 1 + pmd mo + d)) t1, .int (gmF (tn (y + 621) - 1 + pmd mo + d)) t2, .int (gdF (tn (y + 621) - 1 + pmd mo + d)) t3]) := by
  intro p loose mean mg mb dp un gd cn cs a ccd cl outer A₀ base h₀ L m s Q E B F X N T hk hdp hun hret
  refine wpAny_call ?_
  k_dflt cell_enter
  k_steps
  all_goals exact ct_ret3 (Q := Q) hret (by with_reducible assumption) (by with_reducible assumption) (List.mem_cons_self ..) (by walk_at "mine sub") (by rfl) (by rfl) (by rfl)
def lpB (tn : Int → Int) (y : Int) : Bool := decide (365 < tn (y + 1 + 621) - tn (y + 621))
set_option maxRecDepth 100000 in
set_option maxHeartbeats 8000000 in
theorem leap_cl (w : World) (news : List (Addr × Obj)) (f : Addr) (tn : Int → Int) (H : TurnCl w f news tn) (y : Int) (t1 : Tok) (h : Reach tn y) (h' : Reach tn (y + 1)) : Cl w 36 64 news [.int y t1, .ref f] (fun _ => .bool (lpB tn y)) := by
  intro p loose mean mg mb dp un gd cn cs a ccd cl outer A₀ base h₀ L m s Q E B F X N T hk hdp hun hret
  refine wpAny_call ?_
  k_dflt cell_enter
  k_steps
  all_goals exact cb_retB (Q := Q) hret (by unfold lpB; congr 1; rw [← pmd_a (by decide)]; apply propext; constructor <;> intro _ <;> omega) (by with_reducible assumption) (cb_drop (by with_reducible assumption) (by walk_at "mine sub"))
theorem words14 : True := by
  (k_with "call ref" => (k_here; k_dflt (refine' Cl.use ?k1 ?k2 ?k3 ?k4 ?k5 (leap_cl _ _ _ _ ?kH _ _ ?kp ?kq) ?kK ?kd ?ku ?_; (case kp => with_reducible assumption); (case kq => with_reducible assumption); walk_at "mine use"; (case kH => exact TurnCl.more (by with_reducible assumption) (by walk_at "mine sub")); intro t9 h9 tk9 F9 N9; (try dsimp only); (try k_fold))))
  exact trivial
def mlen (tn : Int → Int) (y m : Int) : Int := if m ≤ 6 then 31 else if m ≤ 11 then 30 else if lpB tn y = true then 30 else 29
section
variable {tn : Int → Int} {y mo : Int}
theorem in7 (h : (7 == mo || (8 == mo || (9 == mo || (10 == mo || 11 == mo)))) = true) : 7 ≤ mo ∧ mo ≤ 11 := by
  simp only [Bool.or_eq_true, beq_iff_eq] at h; omega
theorem out7 (h : (7 == mo || (8 == mo || (9 == mo || (10 == mo || 11 == mo)))) = false) : mo < 7 ∨ 11 < mo := by
  simp only [Bool.or_eq_false_iff, beq_eq_false_iff_ne, ne_eq] at h; omega
theorem in1 (h : (1 == mo || (2 == mo || (3 == mo || (4 == mo || (5 == mo || 6 == mo))))) = true) : 1 ≤ mo ∧ mo ≤ 6 := by
  simp only [Bool.or_eq_true, beq_iff_eq] at h; omega
theorem out1 (h : (1 == mo || (2 == mo || (3 == mo || (4 == mo || (5 == mo || 6 == mo))))) = false) : mo < 1 ∨ 6 < mo := by
  simp only [Bool.or_eq_false_iff, beq_eq_false_iff_ne, ne_eq] at h; omega
theorem ml_30 (h : 7 ≤ mo ∧ mo ≤ 11) : 30 = mlen tn y mo := by unfold mlen; rw [if_neg (by omega), if_pos h.2]
theorem ml_31 (h : 1 ≤ mo ∧ mo ≤ 6) : 31 = mlen tn y mo := by unfold mlen; rw [if_pos h.2]
theorem ml_a (h : mo = 12) (g : lpB tn y = true) : 30 = mlen tn y mo := by unfold mlen; rw [if_neg (by omega), if_neg (by omega), if_pos g]
theorem ml_b (h : mo = 12) (g : lpB tn y = false) : 29 = mlen tn y mo := by unfold mlen; rw [if_neg (by omega), if_neg (by omega), if_neg (by rw [g]; decide)]
theorem ml_no (m1 : 1 ≤ mo) (m2 : mo ≤ 12) (h : mo ≠ 12) (h7 : mo < 7 ∨ 11 < mo) (h1 : mo < 1 ∨ 6 < mo) : 29 = mlen tn y mo := by omega
end
set_option maxRecDepth 100000 in
set_option maxHeartbeats 8000000 in
theorem mlen_cl (w : World) (news : List (Addr × Obj)) (f : Addr) (tn : Int → Int) (H : TurnCl w f news tn) (y mo : Int) (t1 t2 : Tok) (h : Reach tn y) (h' : Reach tn (y + 1)) (m1 : 1 ≤ mo) (m2 : mo ≤ 12) : Cl w 40 113 news [.int y t1, .int mo t2, .ref f] (fun t => .int (mlen tn y mo) t) := by
  intro p loose mean mg mb dp un gd cn cs a ccd cl outer A₀ base h₀ L m s Q E B F X N T hk hdp hun hret
  refine wpAny_call ?_
  k_dflt cell_enter
  k_steps
  all_goals refine' cb_retI (Q := Q) hret ?_ (by with_reducible assumption) (by with_reducible assumption)
  all_goals first
    | exact ml_30 (in7 (by with_reducible assumption))
    | exact ml_a (by with_reducible assumption) (by with_reducible assumption)
    | exact ml_b (by with_reducible assumption) (by with_reducible assumption)
    | exact ml_31 (in1 (by with_reducible assumption))
    | exact ml_no m1 m2 (by with_reducible assumption) (out7 (by with_reducible assumption)) (out1 (by with_reducible assumption))
def jan (y : Int) : Int := 1721426 + 146097 * (y - 1).fdiv 400 + 36524 * ((y - 1).fmod 400).fdiv 100 + 1461 * (((y - 1).fmod 400).fmod 100).fdiv 4 + 365 * ((y - 1).fmod 400).fmod 4
set_option maxRecDepth 100000 in
set_option maxHeartbeats 8000000 in
theorem jan_cl (w : World) (news : List (Addr × Obj)) (y : Int) (t : Tok) : Cl w 4 127 news [.int y t] (fun t => .int (jan y) t) := by
  intro p loose mean mg mb dp un gd cn cs a ccd cl outer A₀ base h₀ L m s Q E B F X N T hk hdp hun hret
  refine wpAny_call ?_
  k_dflt cell_enter
  k_steps
  all_goals exact cb_retI (Q := Q) hret (by rfl) (by with_reducible assumption) (by with_reducible assumption)
theorem words15 : True := by
  (k_with "call ref" => (k_here; k_dflt (refine' Cl.use ?k1 ?k2 ?k3 ?k4 ?k5 (jan_cl _ _ _ _) ?kK ?kd ?ku ?_; walk_at "mine use"; intro t9 h9 tk9 F9 N9; (try dsimp only); (try k_fold))))
  exact trivial
section
variable {prog : Program} {w : World} {A : Around} {E : Value → Shared → Prop} {s : Shared} {env : Env} {h₀ : Heap} {test : PySem.Expr} {body : List Stmt} {Q : Flow → Shared → Prop}
def WhlNext (x : Str) (h₀ : Heap) (L : Addr) (M : Str → Option Value) (news : List (Addr × Obj)) (P : Int → Prop) (hi i : Int) (Q : Flow → Shared → Prop) (s : Shared) (f : Flow) (s₂ : Shared) : Prop :=
  match f with
  | .ret v => Q (.ret v) s₂
  | .brk => Q .next s₂
  | _ => ∃ i' t h tk, s₂ = { s with heap := h, toks := tk } ∧ i < i' ∧ i' ≤ hi ∧ P i' ∧ Fr h₀ L h (fun y => if y = x then some (.int i' t) else M y) ∧ News h₀ L h news
theorem whl_int {x : Str} {M : Str → Option Value} {news : List (Addr × Obj)} {pos : Pos} (hi : Int) (P : Int → Prop) (i0 : Int) (t0 : Tok) (hE : PassesOwn (model prog w) A env E) (F : Fr h₀ env.locals s.heap (fun y => if y = x then some (.int i0 t0) else M y)) (N : News h₀ env.locals s.heap news) (h0 : P i0) (hlo : i0 ≤ hi)
    (step : ∀ i t h tk, P i → i ≤ hi → Fr h₀ env.locals h (fun y => if y = x then some (.int i t) else M y) → News h₀ env.locals h news →
      wpAny (model prog w) A (isTrue test env (eval test env)) (fun b s₂ => WhlIf b (wpAny (model prog w) A (execs body env) (WhlNext x h₀ env.locals M news P hi i Q s) E s₂) (wpAny (model prog w) A (execs [] env) Q E s₂)) E { s with heap := h, toks := tk }) :
    wpAny (model prog w) A (exec (.While test body [] pos) env) Q E s := by
  have all : ∀ n : Nat, ∀ i t h tk, (hi - i).toNat ≤ n → P i → i ≤ hi → Fr h₀ env.locals h (fun y => if y = x then some (.int i t) else M y) → News h₀ env.locals h news → WhlRest prog w A E env test body [] Q 1 { s with heap := h, toks := tk } := by
    intro n
    induction n with
    | zero =>
      intro i t h tk hn hP hhi F N
      refine whl_turn (k := 0) hE (wpAny_mono (step i t h tk hP hhi F N) (fun b s₂ hb => ?_) fun _ _ y => y)
      cases b with
      | false => exact hb
      | true =>
        refine WhlIf.yes rfl (wpAny_mono (show wpAny _ _ _ _ _ _ from by unfold WhlIf at hb; rw [if_pos rfl] at hb; exact hb) (fun f s₃ p => ?_) fun _ _ y => y)
        have no : ∀ s₃, (∃ i' t h tk, s₃ = { s with heap := h, toks := tk } ∧ i < i' ∧ i' ≤ hi ∧ P i' ∧ Fr h₀ env.locals h (fun y => if y = x then some (.int i' t) else M y) ∧ News h₀ env.locals h news) → WhlRest prog w A E env test body [] Q 0 s₃ := by
          rintro _ ⟨i', t', h', tk', rfl, l1, l2, _⟩; omega
        cases f with
        | ret v => exact p
        | brk => exact p
        | next => exact no _ p
        | cont => exact no _ p
    | succ n ih =>
      intro i t h tk hn hP hhi F N
      refine whl_turn (k := 0) hE (wpAny_mono (step i t h tk hP hhi F N) (fun b s₂ hb => ?_) fun _ _ y => y)
      cases b with
      | false => exact hb
      | true =>
        refine WhlIf.yes rfl (wpAny_mono (show wpAny _ _ _ _ _ _ from by unfold WhlIf at hb; rw [if_pos rfl] at hb; exact hb) (fun f s₃ p => ?_) fun _ _ y => y)
        have go : ∀ s₃, (∃ i' t h tk, s₃ = { s with heap := h, toks := tk } ∧ i < i' ∧ i' ≤ hi ∧ P i' ∧ Fr h₀ env.locals h (fun y => if y = x then some (.int i' t) else M y) ∧ News h₀ env.locals h news) → WhlRest prog w A E env test body [] Q 0 s₃ := by
          rintro _ ⟨i', t', h', tk', rfl, l1, l2, hP', F', N'⟩
          exact ih i' t' h' tk' (by omega) hP' l2 F' N'
        cases f with
        | ret v => exact p
        | brk => exact p
        | next => exact go _ p
        | cont => exact go _ p
  have e : s = { s with heap := s.heap, toks := s.toks } := rfl
  rw [e]
  exact whl_start 1 (all _ i0 t0 s.heap s.toks (Nat.le_refl _) h0 hlo F N)
end
theorem whl_next {x : Str} {h₀ : Heap} {L : Addr} {M : Str → Option Value} {news : List (Addr × Obj)} {P : Int → Prop} {hi i i' : Int} {Q : Flow → Shared → Prop} {s : Shared} {h : Heap} {tk : Nat} {t : Tok} {v : Option Value} (F : Fr h₀ L h (fun y => if y = x then some (.int i' t) else if y = x then v else M y)) (N : News h₀ L h news) (l1 : i < i') (l2 : i' ≤ hi) (hP : P i') :
    WhlNext x h₀ L M news P hi i Q s .next { s with heap := h, toks := tk } := by
  refine ⟨i', t, h, tk, rfl, l1, l2, hP, ?_, N⟩
  have e : (fun y => if y = x then some (.int i' t) else if y = x then v else M y) = (fun y => if y = x then some (.int i' t) else M y) := funext fun y => by by_cases e : y = x <;> simp [e]
  rw [← e]; exact F
/-- a run through lengths: the rest that lies in one of them, and how many were passed -/
def walkL : List Int → Int → Int → Int × Int
  | [], a, b => (a, b)
  | d :: ds, a, b => if a < d then (a, b) else walkL ds (a - d) (b + 1)
theorem walkL_lt {d a b : Int} {ds : List Int} (h : a < d) : walkL (d :: ds) a b = (a, b) := by unfold walkL; rw [if_pos h]
theorem walkL_ge {d a b : Int} {ds : List Int} (h : ¬ a < d) : walkL (d :: ds) a b = walkL ds (a - d) (b + 1) := by rw [walkL, if_neg h]
/-- the three names of such a run in the frame: the item, the count, the rest -/
def LoopM (x y z : Str) (M m : Str → Option Value) (a b : Int) : Prop := (∃ tb, m y = some (.int b tb)) ∧ (∃ ta, m z = some (.int a ta)) ∧ ∀ k, k ≠ x → k ≠ y → k ≠ z → m k = M k
def LoopJ (x y z : Str) (M : Str → Option Value) (NEWS : List (Addr × Obj)) (T : Int × Int) (vs : List Value) (m : Str → Option Value) (news : List (Addr × Obj)) : Prop :=
  news = NEWS ∧ ∃ a b ds, LoopM x y z M m a b ∧ IntsAre vs ds ∧ walkL ds a b = T
section
variable {prog : Program} {w : World} {A : Around} {E : Value → Shared → Prop} {s : Shared} {env : Env} {h₀ : Heap} {x y z : Str} {body : List Stmt} {Q : Flow → Shared → Prop}
theorem loop_two {I : Addr} {lp : Addr × Obj} {M : Str → Option Value} {NEWS : List (Addr × Obj)} {T : Int × Int} {vs : List Value} {ds : List Int} {a0 b0 : Int} {ta0 tb0 : Tok}
    (hi : IntsAre vs ds) (h0 : walkL ds a0 b0 = T) (hy : M y = some (.int b0 tb0)) (hz : M z = some (.int a0 ta0))
    (step : ∀ d t r dr a b m, IntsAre r dr → walkL (d :: dr) a b = T → LoopM x y z M m a b → ∀ it h tk, it.cls = .type "list_iterator" → Fr h₀ env.locals h (fun k => if k = x then some (.int d t) else m k) → News h₀ env.locals h ((I, it) :: NEWS) →
      wpAny (model prog w) A (execs body env) (UnrPost h₀ env.locals { s with heap := h, toks := tk } I it (fun m' n' => lp ∈ n' ∧ LoopJ x y z M NEWS T r m' n') Q) E { s with heap := h, toks := tk })
    (fin : ∀ m, LoopM x y z M m T.1 T.2 → ∀ h tk, Fr h₀ env.locals h m → News h₀ env.locals h NEWS → Q .next { s with heap := h, toks := tk }) :
    ListRest prog w A E h₀ env x body Q s I lp vs M NEWS := by
  have key : ∀ vs m news, LoopJ x y z M NEWS T vs m news → ListRest prog w A E h₀ env x body Q s I lp vs m news := by
    intro vs
    induction vs with
    | nil =>
      rintro m news ⟨rfl, a, b, ds, hm, hI, hT⟩
      cases hI
      subst hT
      exact ListRest.zero fun h tk F N => fin m hm h tk F N
    | cons v r ih =>
      rintro m news ⟨rfl, a, b, ds, hm, hI, hT⟩
      cases hI with
      | cons d t hr =>
        refine ListRest.succ fun it h tk hc F N => ?_
        refine wpAny_mono (step d t r _ a b m hr hT hm it h tk hc F N) (fun f s₂ p => ?_) fun _ _ e => e
        have go : UnrEnd h₀ env.locals { s with heap := h, toks := tk } I it (fun m' n' => lp ∈ n' ∧ LoopJ x y z M news T r m' n') s₂ → UnrEnd h₀ env.locals { s with heap := h, toks := tk } I it (fun m' n' => lp ∈ n' ∧ ListRest prog w A E h₀ env x body Q s I lp r m' n') s₂ := by
          rintro ⟨h', tk', m', n', e, F', N', o, hl, j⟩
          exact ⟨h', tk', m', n', e, F', N', o, hl, ih m' n' j⟩
        cases f with
        | ret v => exact p
        | brk => exact p
        | next => exact go p
        | cont => exact go p
  exact key vs M NEWS ⟨rfl, a0, b0, ds, ⟨⟨_, hy⟩, ⟨_, hz⟩, fun _ _ _ _ => rfl⟩, hi, h0⟩
end
section
variable {prog : Program} {w : World} {A : Around} {E : Value → Shared → Prop} {s : Shared} {env : Env} {h₀ : Heap} {x y z : Str} {body : List Stmt} {Q : Flow → Shared → Prop}
/-- the same, all that is long a letter -/
theorem loop_gen {I : Addr} {lp0 : Addr × Obj} {M0 : Str → Option Value} {NEWS KEEP : List (Addr × Obj)} {T0 : Int × Int} {vs : List Value} {ds : List Int} {a0 b0 : Int} {ta0 tb0 : Tok} (KM : (Str → Option Value) → Prop) (PT : Int × Int → Prop) (hKM : KM M0) (hPT : PT T0) (hl : lp0 ∈ NEWS) (hI : ∀ p ∈ NEWS, p.1 < I) (hk : ∀ p ∈ KEEP, p ∈ NEWS)
    (hi : IntsAre vs ds) (h0 : walkL ds a0 b0 = T0) (hy : M0 y = some (.int b0 tb0)) (hz : M0 z = some (.int a0 ta0))
    (step : ∀ M NW lp T, KM M → PT T → lp ∈ NW → (∀ p ∈ NW, p.1 < I) → (∀ p ∈ KEEP, p ∈ NW) → ∀ d t r dr a b m, IntsAre r dr → walkL (d :: dr) a b = T → LoopM x y z M m a b → ∀ it h tk, it.cls = .type "list_iterator" → Fr h₀ env.locals h (fun k => if k = x then some (.int d t) else m k) → News h₀ env.locals h ((I, it) :: NW) →
      wpAny (model prog w) A (execs body env) (UnrPost h₀ env.locals { s with heap := h, toks := tk } I it (fun m' n' => lp ∈ n' ∧ LoopJ x y z M NW T r m' n') Q) E { s with heap := h, toks := tk })
    (fin : ∀ M NW T, KM M → PT T → (∀ p ∈ KEEP, p ∈ NW) → ∀ m, LoopM x y z M m T.1 T.2 → ∀ h tk, Fr h₀ env.locals h m → News h₀ env.locals h NW → Q .next { s with heap := h, toks := tk }) :
    ListRest prog w A E h₀ env x body Q s I lp0 vs M0 NEWS :=
  loop_two hi h0 hy hz (step M0 NEWS lp0 T0 hKM hPT hl hI hk) (fin M0 NEWS T0 hKM hPT hk)
end
theorem loop_end {h₀ h' : Heap} {L I : Addr} {lp : Addr × Obj} {it : Obj} {s₁ : Shared} {x y z : Str} {M m : Str → Option Value} {NEWS : List (Addr × Obj)} {T : Int × Int} {r : List Value} {dr : List Int} {d a b a' b' : Int} {ta tb t : Tok} {tk : Nat}
    (F : Fr h₀ L h' (fun k => if k = y then some (.int b' tb) else if k = z then some (.int a' ta) else if k = x then some (.int d t) else m k)) (N : News h₀ L h' ((I, it) :: NEWS)) (l : ∀ p ∈ NEWS, p.1 < I) (hl : lp ∈ NEWS) (hr : IntsAre r dr) (hT : walkL (d :: dr) a b = T) (hm : LoopM x y z M m a b) (hge : ¬ a < d) (ea : a' = a - d) (eb : b' = b + 1) (hzy : z ≠ y) :
    UnrEnd h₀ L s₁ I it (fun m' n' => lp ∈ n' ∧ LoopJ x y z M NEWS T r m' n') { s₁ with heap := h', toks := tk } := by
  subst ea eb
  refine ⟨h', tk, _, NEWS, rfl, F, N, fun p hp => Nat.ne_of_lt (l p hp), hl, rfl, a - d, b + 1, dr, ⟨⟨tb, if_pos rfl⟩, ⟨ta, (if_neg hzy).trans (if_pos rfl)⟩, fun k e1 e2 e3 => ?_⟩, hr, by rw [← walkL_ge hge]; exact hT⟩
  exact (if_neg e2).trans ((if_neg e3).trans ((if_neg e1).trans (hm.2.2 k e1 e2 e3)))
def wm (r f : Int) : Int := (walkL [31, f, 31, 30, 31, 30, 31, 31, 30, 31, 30, 31] r 0).2 + 1
def wd (r f : Int) : Int := (walkL [31, f, 31, 30, 31, 30, 31, 31, 30, 31, 30, 31] r 0).1 + 1
theorem whlif_both {b : Bool} {T F : Prop} (t : b = true → T) (f : b = false → F) : WhlIf b T F := by
  cases b with
  | true => exact WhlIf.yes rfl (t rfl)
  | false => exact WhlIf.no rfl (f rfl)
theorem words16 : True := by
  (k_with "exec While Compare" => ((with_reducible show wpAny _ _ (exec (Stmt.While (PySem.Expr.Compare (PySem.Expr.Call _ _ _ _) [CmpOp.LtE] _ _) _ _ _) _) _ _ _); refine hold_intro ?_))
  (k_with "WhlIf" => k_dflt (first | (refine WhlIf.yes (by walk_at "mine dec") ?_) | (refine WhlIf.no (by walk_at "mine dec") ?_) | (refine whlif_both (fun hb => ?_) (fun hb => ?_) <;> (have hb' := hb; simp only [decide_eq_true_eq, decide_eq_false_iff_not] at hb'))))
  exact trivial
set_option maxRecDepth 100000 in
set_option maxHeartbeats 8000000 in
theorem walked_cl (w : World) (news : List (Addr × Obj)) (day Y : Int) (t : Tok) (h1 : jan Y ≤ day) (h2 : day < jan (Y + 1)) (hg : ((day - 1721426) * 400).fdiv 146097 + 1 = Y ∨ ((day - 1721426) * 400).fdiv 146097 + 1 = Y - 1) (h3 : jan (Y - 1) ≤ day) :
    ClT w 12 134 news [.int day t] (fun t1 t2 t3 => [.int Y t1, .int (wm (day - jan Y) (jan (Y + 1) - jan Y - 337)) t2, .int (wd (day - jan Y) (jan (Y + 1) - jan Y - 337)) t3]) := by
  intro p loose mean mg mb dp un gd cn cs a ccd cl outer A₀ base h₀ L m s Q E B F X N T hk hdp hun hret
  have hg0 : jan (((day - 1721426) * 400).fdiv 146097 + 1) ≤ day := by rcases hg with e | e <;> rw [e] <;> assumption
  refine wpAny_call ?_
  k_dflt cell_enter
  k_steps
  unfold Hold
  refine' whl_int Y (fun i => i = Y - 1 ∨ i = Y) (((day - 1721426) * 400).fdiv 146097 + 1) _ ?hE (by assumption) (by assumption) (by omega) (by omega) ?_
  case hE => passes_own
  intro i t h tk hP hi F N
  dsimp only [envOf] at F N
  k_steps
  · have e : i = Y - 1 := by
      rcases hP with e | e
      · exact e
      · rw [e] at hb'; omega
    exact whl_next (by assumption) (by assumption) (by omega) (by omega) (show i + 1 = Y - 1 ∨ i + 1 = Y from Or.inr (by omega))
  · have e : Y = i := by
      rcases hP with e | e
      · rw [e, show Y - 1 + 1 = Y by omega] at hb'; exact absurd h1 hb'
      · exact e.symm
    subst e
    unfold Hold
    refine' loop_gen (y := Str.ofString "place") (z := Str.ofString "rest") (KEEP := news) (fun M => ∃ t, M (Str.ofString "year") = some (.int Y t)) (fun T => T = walkL [31, jan (Y + 1) - jan Y - 337, 31, 30, 31, 30, 31, 31, 30, 31, 30, 31] (day - jan Y) 0) ⟨_, by rfl⟩ rfl (List.mem_cons_self ..) l1 (by walk_at "mine sub") ?hi rfl rfl rfl ?_ ?_
    case hi => walk_at "mine ints"
    · clear l1
      intro M NW lp T ⟨ty, hKM⟩ hPT hl l1 hk9 d t r dr a b m hr hT hm it h tk hc F N
      obtain ⟨⟨tb, m1⟩, ⟨ta, m2⟩, m3⟩ := id hm
      have m4 := (m3 (Str.ofString "year") (by decide) (by decide) (by decide)).trans hKM
      dsimp only [envOf] at F N
      k_steps
      · have hlt := (by with_reducible assumption : a < d)
        rw [walkL_lt hlt] at hT
        exact ct_ret3 (Q := Q) hret (by with_reducible assumption) (by with_reducible assumption) (List.mem_cons_self ..) (by walk_at "mine sub") (by rfl) (by unfold wm; rw [← hPT, ← hT]) (by unfold wd; rw [← hPT, ← hT])
      · exact loop_end (by assumption) (by assumption) l1 hl hr hT hm (by with_reducible assumption) rfl rfl (by decide)
    · clear l1
      intro M NW T ⟨ty, hKM⟩ hPT hk9 m hm h tk F N
      obtain ⟨⟨tb, m1⟩, ⟨ta, m2⟩, m3⟩ := id hm
      have m4 := (m3 (Str.ofString "year") (by decide) (by decide) (by decide)).trans hKM
      dsimp only [envOf] at F N
      k_steps
      exact ct_ret3 (Q := Q) hret (by with_reducible assumption) (by with_reducible assumption) (List.mem_cons_self ..) (by walk_at "mine sub") (by rfl) (by unfold wm; rw [← hPT]) (by unfold wd; rw [← hPT])
section
variable {prog : Program} {w : World} {A : Around} {E : Value → Shared → Prop} {s : Shared} {env : Env} {h₀ : Heap} {x : Str} {body : List Stmt} {Q : Flow → Shared → Prop}
theorem range_ind {I : Addr} {a : Int} {n : Nat} (J : Nat → (Str → Option Value) → List (Addr × Obj) → Prop)
    (step : ∀ i k m news, i + (k + 1) = n → J i m news → ∀ t h tk, Fr h₀ env.locals h (fun y => if y = x then some (.int (a + (i : Int)) t) else m y) →
      News h₀ env.locals h ((I, itR (a + ((i + 1 : Nat) : Int)) ((n : Int) - ((i + 1 : Nat) : Int))) :: news) →
      wpAny (model prog w) A (execs body env) (UnrPost h₀ env.locals { s with heap := h, toks := tk } I (itR (a + ((i + 1 : Nat) : Int)) ((n : Int) - ((i + 1 : Nat) : Int))) (fun m' n' => J (i + 1) m' n') Q) E { s with heap := h, toks := tk })
    (fin : ∀ m news, J n m news → ∀ h tk, Fr h₀ env.locals h m → News h₀ env.locals h news → Q .next { s with heap := h, toks := tk }) :
    ∀ k i m news, i + k = n → J i m news → RangeRest prog w A E h₀ env x body Q s I a n k i m news := by
  intro k
  induction k with
  | zero =>
    intro i m news hi hJ
    have e : i = n := by omega
    subst e
    exact RangeRest.zero (fin m news hJ)
  | succ k ih =>
    intro i m news hi hJ
    refine RangeRest.succ fun t h tk F N => ?_
    refine wpAny_mono (step i k m news hi hJ t h tk F N) (fun f s₂ p => ?_) fun _ _ y => y
    have conv : ∀ {s₂}, UnrEnd h₀ env.locals { s with heap := h, toks := tk } I (itR (a + ((i + 1 : Nat) : Int)) ((n : Int) - ((i + 1 : Nat) : Int))) (fun m' n' => J (i + 1) m' n') s₂ →
        UnrEnd h₀ env.locals { s with heap := h, toks := tk } I (itR (a + ((i + 1 : Nat) : Int)) ((n : Int) - ((i + 1 : Nat) : Int))) (RangeRest prog w A E h₀ env x body Q s I a n k (i + 1)) s₂ := by
      rintro _ ⟨h', tk', m', news', e, F', N', o, j⟩
      exact ⟨h', tk', m', news', e, F', N', o, ih (i + 1) m' news' (by omega) j⟩
    cases f with
    | ret v => exact p
    | brk => exact p
    | next => exact conv p
    | cont => exact conv p
end
/-- the row of new years after i turns -/
structure RowP (n0 : Int) (i : Nat) (ns : List Int) : Prop where
  len : ns.length = i + 1
  zero : ns.getD 0 0 = n0
  step : ∀ j, j < i → 365 ≤ ns.getD (j + 1) 0 - ns.getD j 0 ∧ ns.getD (j + 1) 0 - ns.getD j 0 ≤ 366
theorem RowP.start (n0 : Int) : RowP n0 0 [n0] := ⟨rfl, rfl, fun j h => absurd h (Nat.not_lt_zero j)⟩
theorem RowP.more {n0 : Int} {i : Nat} {ns : List Int} (h : RowP n0 i ns) {x : Int} (h1 : ns.getD i 0 + 365 ≤ x) (h2 : x ≤ ns.getD i 0 + 366) : RowP n0 (i + 1) (ns ++ [x]) := by
  obtain ⟨l, z, st⟩ := h
  have old : ∀ j, j < i + 1 → (ns ++ [x]).getD j 0 = ns.getD j 0 := fun j hj => by
    rw [List.getD_eq_getElem?_getD, List.getD_eq_getElem?_getD, List.getElem?_append_left (by omega)]
  have new : (ns ++ [x]).getD (i + 1) 0 = x := by
    rw [List.getD_eq_getElem?_getD, List.getElem?_append_right (by omega), l, Nat.sub_self]; rfl
  refine ⟨by rw [List.length_append, l]; rfl, by rw [old 0 (by omega)]; exact z, fun j hj => ?_⟩
  rcases Nat.lt_or_ge j i with h' | h'
  · rw [old (j + 1) (by omega), old j (by omega)]; exact st j h'
  · have e : j = i := by omega
    subst e
    rw [new, old j (by omega)]; omega
def Jrow (x : Str) (M : Str → Option Value) (l : Addr) (REST : List (Addr × Obj)) (n0 : Int) (i : Nat) (m : Str → Option Value) (news : List (Addr × Obj)) : Prop :=
  ∃ v vs ns c, m = (fun y => if y = x then v else M y) ∧ news = (l, listOf (List.toArray vs) c) :: REST ∧ IntsAre vs ns ∧ RowP n0 i ns
section
variable {prog : Program} {w : World} {A : Around} {E : Value → Shared → Prop} {s : Shared} {env : Env} {h₀ : Heap} {x : Str} {body : List Stmt} {Q : Flow → Shared → Prop}
theorem row_loop {I l : Addr} {c₀ : Nat} {M : Str → Option Value} {vs₀ : List Value} {n0 : Int} {REST : List (Addr × Obj)} (hi : IntsAre vs₀ [n0])
    (step : ∀ (i : Nat) v vs ns c, i < 10 → IntsAre vs ns → RowP n0 i ns → ∀ t h tk, Fr h₀ env.locals h (fun y => if y = x then some (.int (0 + (i : Int)) t) else if y = x then v else M y) →
      News h₀ env.locals h ((I, itR (0 + ((i + 1 : Nat) : Int)) (((10 : Nat) : Int) - ((i + 1 : Nat) : Int))) :: (l, listOf (List.toArray vs) c) :: REST) →
      wpAny (model prog w) A (execs body env) (UnrPost h₀ env.locals { s with heap := h, toks := tk } I (itR (0 + ((i + 1 : Nat) : Int)) (((10 : Nat) : Int) - ((i + 1 : Nat) : Int))) (Jrow x M l REST n0 (i + 1)) Q) E { s with heap := h, toks := tk })
    (fin : ∀ v vs ns c, IntsAre vs ns → RowP n0 10 ns → ∀ h tk, Fr h₀ env.locals h (fun y => if y = x then v else M y) → News h₀ env.locals h ((l, listOf (List.toArray vs) c) :: REST) → Q .next { s with heap := h, toks := tk }) :
    RangeRest prog w A E h₀ env x body Q s I 0 10 10 0 M ((l, listOf (List.toArray vs₀) c₀) :: REST) := by
  refine range_ind (Jrow x M l REST n0) ?_ ?_ 10 0 _ _ rfl ⟨M x, vs₀, [n0], c₀, funext fun y => by by_cases e : y = x <;> simp [e], rfl, hi, RowP.start n0⟩
  · rintro i k _ _ hik ⟨v, vs, ns, c, rfl, rfl, h1, h2⟩ t h tk F N
    exact step i v vs ns c (by omega) h1 h2 t h tk F N
  · rintro _ _ ⟨v, vs, ns, c, rfl, rfl, h1, h2⟩ h tk F N
    exact fin v vs ns c h1 h2 h tk F N
end
theorem row_end {h₀ h' : Heap} {L I l : Addr} {it o : Obj} {s₁ : Shared} {x : Str} {M : Str → Option Value} {v₀ : Option Value} {v : Value} {vs' : List Value} {ns' : List Int} {n0 : Int} {i c : Nat} {REST : List (Addr × Obj)} {tk : Nat}
    (F : Fr h₀ L h' (fun y => if y = x then some v else if y = x then v₀ else M y)) (N : News h₀ L h' ((I, it) :: (l, listOf (List.toArray vs') c) :: REST)) (l1 : ∀ p ∈ (l, o) :: REST, p.1 < I) (hi : IntsAre vs' ns') (hp : RowP n0 (i + 1) ns') :
    UnrEnd h₀ L s₁ I it (Jrow x M l REST n0 (i + 1)) { s₁ with heap := h', toks := tk } := by
  refine ⟨h', tk, _, _, rfl, F, N, fun p hp => ?_, some v, vs', ns', c, funext fun y => by by_cases e : y = x <;> simp [e], rfl, hi, hp⟩
  rcases List.mem_cons.mp hp with rfl | hp
  · exact Nat.ne_of_lt (l1 (l, o) (List.mem_cons_self ..))
  · exact Nat.ne_of_lt (l1 p (List.mem_cons_of_mem _ hp))
theorem fm2 (q : Int) : 0 ≤ q.fmod 2 ∧ q.fmod 2 ≤ 1 := by rw [Int.fmod_eq_emod_of_nonneg q (by decide)]; omega
theorem jrow_push {x : Str} {M : Str → Option Value} {v₀ : Option Value} {v : Value} {l : Addr} {vs : List Value} {ns : List Int} {REST : List (Addr × Obj)} {n0 q : Int} {i c : Nat} {t : Tok} (hI : IntsAre vs ns) (hR : RowP n0 i ns) :
    Jrow x M l REST n0 (i + 1) (fun y => if y = x then some v else if y = x then v₀ else M y) ((l, listOf ((List.toArray vs).push (.int (ns.getD ((-1 : Int) + (ns.length : Int)).toNat 0 + 365 + q.fmod 2) t)) (c + 1)) :: REST) := by
  have e : ((-1 : Int) + (ns.length : Int)).toNat = i := by rw [hR.len]; omega
  have f := fm2 q
  rw [e]
  refine ⟨some v, ((List.toArray vs).push (.int (ns.getD i 0 + 365 + q.fmod 2) t)).toList, ns ++ [ns.getD i 0 + 365 + q.fmod 2], c + 1, funext fun y => by by_cases e : y = x <;> simp [e], rfl, ?_, hR.more (by omega) (by omega)⟩
  rw [Array.toList_push]
  exact IntsAre.append hI (IntsAre.cons _ _ .nil)
def lawStmt : Stmt := (PySem.Challenge.pw_ah0014_01.main.body.getLast?).getD (.Pass ⟨0, 0, 0, 0⟩)
def lawBody : List Stmt := match lawStmt with | .FunctionDef _ _ b _ _ _ _ _ _ _ => b | _ => []
def lawScope : Scope := match lawStmt with | .FunctionDef _ _ _ _ _ _ s _ _ _ => s | _ => { kind := .function, names := [], isGenerator := false, isCoroutine := false }
theorem words17 : True := by
  (k_with "eval Name" => (k_here; k_dflt (refine' nameX_K ?F ?X ?T ?e ?_ ?a ?b; (case F => with_reducible assumption); (case X => with_reducible assumption); (case T => exact topRead_of (by with_reducible assumption)); (case a => rfl); (case b => rfl); (case e => k_is); k_whole)))
  (k_with "eval Name" => (k_here; k_dflt (refine' nameX_C ?N ?c ?m ?d ?_ ?a ?b; (case a => rfl); (case b => rfl); (case N => with_reducible assumption); (case c => rfl); (case m => k_mem); (case d => with_reducible assumption); k_whole)))
  (k_with "eval Name" => (k_here; k_dflt (refine' nameX_L ?F ?v ?_ ?a ?b; (case F => with_reducible assumption); (case a => rfl); (case b => rfl); (case v => first | rfl | assumption); k_whole)))
  (k_with "subscriptTail BinOp" => k_dflt (refine kba_turn (value' := PySem.Expr.Name (PySem.Str.ofString "_") ⟨0, 0, 0, 0⟩) (fun _ => rfl) ?_))
  (k_with "subscriptTail Name" => ((with_reducible show wpAny _ _ (subscriptTail _ _ (Value.ref _) (Value.int _ _)) _ _ _); (with_unfolding_all refine' item_anyK ?k1 ?k2 ?k3 ?k4 ?k5 ?_ ?k6; (case k1 => exact News.isList (by assumption) (by k_mem)); (case k2 => first | with_reducible assumption | walk_at "mine ints"); (case k3 => omega); (case k4 => first | omega | (simp only [List.length_cons, List.length_nil]; omega)); (case k5 => omega); (case k6 => with_unfolding_all rfl); k_whole); intro _))
  (k_with "subscriptTail Name UnaryOp ref int" => ((with_reducible show wpAny _ _ (subscriptTail _ _ (Value.ref _) (Value.int _ _)) _ _ _); (with_unfolding_all refine' item_list_ints_negR ?k1 ?k2 ?k3 ?k4 ?k5 ?_ ?k6; (case k1 => exact News.isList (by assumption) (by k_mem)); (case k2 => with_reducible assumption); (case k3 => omega); (case k4 => omega); (case k5 => omega); (case k6 => with_unfolding_all rfl); k_whole); intro _))
  (k_with "storeName" => (k_here; k_dflt (refine' storeX_C ?F ?N ?c ?U ?d ?_ ?a ?b; (case a => rfl); (case b => rfl); (case F => k_asm); (case N => k_asm); (case c => rfl); (case U => exact UpdF.head (by with_reducible assumption)); (case d => k_asm); k_whole; intro h' o' F' N' d'; (try dsimp only at N'); (try k_sweep))))
  exact trivial
/-- the ledger's objects that the law's own frame reads -/
structure Led (news : List (Addr × Obj)) (cN cB cY cT D ln ft : Addr) (b y : Int) (ns nums : List Int) : Prop where
  N : ∃ o, (cN, o) ∈ news ∧ o.data = .cell (some (.ref ln))
  B : ∃ o t, (cB, o) ∈ news ∧ o.data = .cell (some (.int b t))
  Y : ∃ o t, (cY, o) ∈ news ∧ o.data = .cell (some (.int y t))
  T : ∃ o, (cT, o) ∈ news ∧ o.data = .cell (some (.ref ft))
  l : ∃ vs c, (ln, listOf (List.toArray vs) c) ∈ news ∧ IntsAre vs ns
  d : ∃ ws c, (D, listOf (List.toArray ws) c) ∈ news ∧ IntsAre ws nums
  six : nums.length = 6
theorem Led.more {news news' : List (Addr × Obj)} {cN cB cY cT D ln ft : Addr} {b y : Int} {ns nums : List Int} (h : Led news cN cB cY cT D ln ft b y ns nums) (hs : ∀ p ∈ news, p ∈ news') : Led news' cN cB cY cT D ln ft b y ns nums :=
  ⟨let ⟨o, a, e⟩ := h.N; ⟨o, hs _ a, e⟩, let ⟨o, t, a, e⟩ := h.B; ⟨o, t, hs _ a, e⟩, let ⟨o, t, a, e⟩ := h.Y; ⟨o, t, hs _ a, e⟩, let ⟨o, a, e⟩ := h.T; ⟨o, hs _ a, e⟩, let ⟨o, t, a, e⟩ := h.l; ⟨o, t, hs _ a, e⟩, let ⟨o, t, a, e⟩ := h.d; ⟨o, t, hs _ a, e⟩, h.six⟩
/-- what the row of new years is good for -/
structure RowOk (tn : Int → Int) (b : Int) (ns : List Int) : Prop where
  reach : ∀ k, b ≤ k → k ≤ b + 10 → Reach tn k
  at_ : ∀ k jd, b ≤ k → k ≤ b + 10 → tn (k + 621) ≤ jd → jd < tn (k + 621 + 1) → At tn jd k
  item : ∀ i, 0 ≤ i → i ≤ 10 → ns.getD i.toNat 0 = tn (b + i + 621)
  len : ∀ k, 365 ≤ tn (k + 1) - tn k ∧ tn (k + 1) - tn k ≤ 366
  size : ns.length = 11
theorem RowOk.len' {tn : Int → Int} {b : Int} {ns : List Int} (R : RowOk tn b ns) (y : Int) : 365 ≤ tn (y + 1 + 621) - tn (y + 621) ∧ tn (y + 1 + 621) - tn (y + 621) ≤ 366 := by
  have h := R.len (y + 621)
  rw [show y + 621 + 1 = y + 1 + 621 by omega] at h
  exact h
theorem RowOk.more {tn : Int → Int} {b : Int} {ns : List Int} (R : RowOk tn b ns) (k : Int) : ∀ n : Nat, 365 * (n : Int) ≤ tn (k + n) - tn k ∧ tn (k + n) - tn k ≤ 366 * (n : Int)
  | 0 => by simp
  | n + 1 => by
    have h := RowOk.more R k n
    have l := R.len (k + n)
    rw [show k + ((n + 1 : Nat) : Int) = k + n + 1 by omega]
    omega
theorem RowOk.span {tn : Int → Int} {b : Int} {ns : List Int} (R : RowOk tn b ns) : 3650 ≤ ns.getD (Int.toNat 10) 0 - ns.getD (Int.toNat 0) 0 ∧ ns.getD (Int.toNat 10) 0 - ns.getD (Int.toNat 0) 0 ≤ 3660 := by
  have h := R.more (b + 621) 10
  have e := R.item 10 (by omega) (by omega)
  have e' := R.item 0 (by omega) (by omega)
  rw [e, e', show b + 10 + 621 = b + 621 + (10 : Nat) by omega, show b + 0 + 621 = b + 621 by omega]
  omega
/-- a statement list of the law's body, from a frame of its own: what is asked of it -/
abbrev Seg (w : World) (k : Nat) (fa : Addr) (cN cB cY cT D ln ft : Addr) (b y : Int) (ns nums : List Int) (tn : Int → Int) (Mh : (Str → Option Value) → Prop) (Lh : List (Addr × Obj) → Prop) : Prop :=
  ∀ (p : Program) (loose : List Str) (mean : ExcName → Option Value) (mg mb : Str → Option Value) (dp un : Nat) (gd : Option (List Code)) (outer : List Env) (A₀ : Around) (base h₀ : Heap) (L : Addr) (m : Str → Option Value) (news news₀ : List (Addr × Obj)) (s : Shared) (Q : Flow → Shared → Prop) (E : Value → Shared → Prop),
    Below A₀ base outer h₀ → Fr h₀ L s.heap m → (hd.heap_39 w.params).In h₀ → News h₀ L s.heap news → Top p loose mean mg mb h₀ → dp + 60 < recursionLimit → un + 600 < cLine → PassesOwn (model PySem.Challenge.pw_ah0014_01 w) (ktrTop dp un gd (Str.ofString "law") lawScope L fa (.ref 145) [(Str.ofString "news", cN), (Str.ofString "begin", cB), (Str.ofString "year", cY), (Str.ofString "turn", cT)] outer) (envX (Str.ofString "law") lawScope L fa (.ref 145) [(Str.ofString "news", cN), (Str.ofString "begin", cB), (Str.ofString "year", cY), (Str.ofString "turn", cT)]) E → Mh m → Led news cN cB cY cT D ln ft b y ns nums → Lh news → TurnCl w ft news tn → (∀ q ∈ news₀, q ∈ news) →
    (∀ h' tk' m' news', Fr h₀ L h' m' → News h₀ L h' news' → (∀ q ∈ news₀, q ∈ news') → Q (.ret (.bool true)) { s with heap := h', toks := tk' }) →
    wpAny (model PySem.Challenge.pw_ah0014_01 w) (ktrTop dp un gd (Str.ofString "law") lawScope L fa (.ref 145) [(Str.ofString "news", cN), (Str.ofString "begin", cB), (Str.ofString "year", cY), (Str.ofString "turn", cT)] outer)
      (execs (lawBody.drop k) (envX (Str.ofString "law") lawScope L fa (.ref 145) [(Str.ofString "news", cN), (Str.ofString "begin", cB), (Str.ofString "year", cY), (Str.ofString "turn", cT)])) Q E s
theorem jan_eq (y : Int) : jan y = 1721426 + 365 * (y - 1) + (y - 1) / 4 - (y - 1) / 100 + (y - 1) / 400 := by
  unfold jan
  simp only [Int.fdiv_eq_ediv_of_nonneg _ (show (0 : Int) ≤ 400 by decide), Int.fdiv_eq_ediv_of_nonneg _ (show (0 : Int) ≤ 100 by decide), Int.fdiv_eq_ediv_of_nonneg _ (show (0 : Int) ≤ 4 by decide), Int.fmod_eq_emod_of_nonneg _ (show (0 : Int) ≤ 400 by decide), Int.fmod_eq_emod_of_nonneg _ (show (0 : Int) ≤ 100 by decide), Int.fmod_eq_emod_of_nonneg _ (show (0 : Int) ≤ 4 by decide)]
  omega
theorem jan_step (y : Int) : jan (y + 1) - jan y = 365 + (if leapB y = true then 1 else 0) := by
  rw [jan_eq, jan_eq]
  unfold leapB
  simp only [Int.fmod_eq_emod_of_nonneg _ (show (0 : Int) ≤ 400 by decide), Int.fmod_eq_emod_of_nonneg _ (show (0 : Int) ≤ 100 by decide), Int.fmod_eq_emod_of_nonneg _ (show (0 : Int) ≤ 4 by decide), Bool.and_eq_true, Bool.or_eq_true, Bool.not_eq_true', decide_eq_true_eq, decide_eq_false_iff_not]
  split <;> omega
theorem gjd_one (y : Int) : gjd y 1 1 = jan y := by
  rw [jan_eq]
  unfold gjd
  rw [gadj_a (by decide)]
  simp only [Int.fdiv_eq_ediv_of_nonneg _ (show (0 : Int) ≤ 400 by decide), Int.fdiv_eq_ediv_of_nonneg _ (show (0 : Int) ≤ 100 by decide), Int.fdiv_eq_ediv_of_nonneg _ (show (0 : Int) ≤ 4 by decide), Int.fdiv_eq_ediv_of_nonneg _ (show (0 : Int) ≤ 12 by decide)]
  omega
theorem jan_at (q c k i : Int) (hc : 0 ≤ c ∧ c ≤ 3) (hk : 0 ≤ k ∧ k ≤ 24) (hi : 0 ≤ i ∧ i ≤ 3) : jan (q * 400 + c * 100 + k * 4 + i + 1) = 1721426 + 146097 * q + 36524 * c + 1461 * k + 365 * i := by
  unfold jan
  simp only [Int.fdiv_eq_ediv_of_nonneg _ (show (0 : Int) ≤ 400 by decide), Int.fdiv_eq_ediv_of_nonneg _ (show (0 : Int) ≤ 100 by decide), Int.fdiv_eq_ediv_of_nonneg _ (show (0 : Int) ≤ 4 by decide), Int.fmod_eq_emod_of_nonneg _ (show (0 : Int) ≤ 400 by decide), Int.fmod_eq_emod_of_nonneg _ (show (0 : Int) ≤ 100 by decide), Int.fmod_eq_emod_of_nonneg _ (show (0 : Int) ≤ 4 by decide)]
  rw [show (q * 400 + c * 100 + k * 4 + i + 1 - 1) / 400 = q by omega, show (q * 400 + c * 100 + k * 4 + i + 1 - 1) % 400 = c * 100 + k * 4 + i by omega]
  rw [show (c * 100 + k * 4 + i) / 100 = c by clear hc; omega, show (c * 100 + k * 4 + i) % 100 = k * 4 + i by clear hc; omega, show (c * 100 + k * 4 + i) % 4 = i by clear hc hk; omega]
  rw [show (k * 4 + i) / 4 = k by clear hc hk; omega]
theorem leap_of {Y : Int} (h4 : Y.fmod 4 = 0) (h : Y.fmod 100 ≠ 0 ∨ Y.fmod 400 = 0) : leapB Y = true := by
  unfold leapB
  rcases h with h | h
  · simp [h4, h]
  · simp [h4, h]
theorem gyF_ok (d : Int) : jan (gyF d) ≤ d ∧ d < jan (gyF d + 1) := by
  unfold gyF gyB ceOf yiOf
  simp only [Int.fdiv_eq_ediv_of_nonneg _ (show (0 : Int) ≤ 146097 by decide), Int.fmod_eq_emod_of_nonneg _ (show (0 : Int) ≤ 146097 by decide), Int.fdiv_eq_ediv_of_nonneg _ (show (0 : Int) ≤ 36524 by decide), Int.fmod_eq_emod_of_nonneg _ (show (0 : Int) ≤ 36524 by decide), Int.fdiv_eq_ediv_of_nonneg _ (show (0 : Int) ≤ 1461 by decide), Int.fmod_eq_emod_of_nonneg _ (show (0 : Int) ≤ 1461 by decide), Int.fdiv_eq_ediv_of_nonneg _ (show (0 : Int) ≤ 365 by decide)]
  have hd : d = d - 1721426 + 1721426 := by omega
  generalize d - 1721426 = e at *
  subst hd
  have q1 : e = 146097 * (e / 146097) + e % 146097 := (Int.mul_ediv_add_emod e 146097).symm
  have q2 : 0 ≤ e % 146097 ∧ e % 146097 < 146097 := ⟨Int.emod_nonneg e (by decide), Int.emod_lt_of_pos e (by decide)⟩
  generalize e / 146097 = q at *
  generalize e % 146097 = r at *
  have r1 : r = 36524 * (r / 36524) + r % 36524 := (Int.mul_ediv_add_emod r 36524).symm
  have r2 : 0 ≤ r % 36524 ∧ r % 36524 < 36524 := ⟨Int.emod_nonneg r (by decide), Int.emod_lt_of_pos r (by decide)⟩
  have c0 : 0 ≤ r / 36524 ∧ r / 36524 ≤ 4 := by clear q1; omega
  generalize r / 36524 = c at *
  generalize r % 36524 = t at *
  subst r1
  have t1 : t = 1461 * (t / 1461) + t % 1461 := (Int.mul_ediv_add_emod t 1461).symm
  have t2 : 0 ≤ t % 1461 ∧ t % 1461 < 1461 := ⟨Int.emod_nonneg t (by decide), Int.emod_lt_of_pos t (by decide)⟩
  have k0 : 0 ≤ t / 1461 ∧ t / 1461 ≤ 24 := by clear q1 q2 c0; omega
  generalize t / 1461 = k at *
  generalize t % 1461 = u at *
  subst t1
  have u1 : u = 365 * (u / 365) + u % 365 := (Int.mul_ediv_add_emod u 365).symm
  have u2 : 0 ≤ u % 365 ∧ u % 365 < 365 := ⟨Int.emod_nonneg u (by decide), Int.emod_lt_of_pos u (by decide)⟩
  have i0 : 0 ≤ u / 365 ∧ u / 365 ≤ 4 := by clear q1 q2 c0 k0 r2; omega
  generalize u / 365 = i at *
  generalize u % 365 = j at *
  subst u1
  by_cases hc : c = 4
  · subst hc
    rw [if_pos (Or.inl rfl)]
    have z : k = 0 ∧ i = 0 ∧ j = 0 := by clear q1 c0 r2; omega
    obtain ⟨rfl, rfl, rfl⟩ := z
    have a := jan_at q 3 24 3 (by decide) (by decide) (by decide)
    rw [show q * 400 + 3 * 100 + 24 * 4 + 3 + 1 = q * 400 + 4 * 100 + 0 * 4 + 0 by omega] at a
    have l := jan_step (q * 400 + 4 * 100 + 0 * 4 + 0)
    rw [leap_of (by rw [Int.fmod_eq_emod_of_nonneg _ (by decide)]; omega) (Or.inr (by rw [Int.fmod_eq_emod_of_nonneg _ (by decide)]; omega)), if_pos rfl] at l
    rw [a] at l ⊢
    clear a q2 c0 r2 k0 t2 u2 i0
    omega
  · by_cases hi : i = 4
    · subst hi
      rw [if_pos (Or.inr rfl)]
      have z : j = 0 ∧ k ≤ 23 := by clear q1 q2 c0; omega
      obtain ⟨rfl, k23⟩ := z
      have a := jan_at q c k 3 (by clear q1 q2 r2; omega) k0 (by decide)
      rw [show q * 400 + c * 100 + k * 4 + 3 + 1 = q * 400 + c * 100 + k * 4 + 4 by omega] at a
      have l := jan_step (q * 400 + c * 100 + k * 4 + 4)
      rw [leap_of (by rw [Int.fmod_eq_emod_of_nonneg _ (by decide)]; clear q1 q2 r2 a l; omega) (Or.inl (by rw [Int.fmod_eq_emod_of_nonneg _ (by decide)]; clear q1 q2 r2 a l c0; omega)), if_pos rfl] at l
      rw [a] at l ⊢
      clear a q2 c0 r2 k0 t2 u2 i0
      omega
    · rw [if_neg (fun z => z.elim hc hi)]
      have a := jan_at q c k i (by clear q1 q2 r2; omega) k0 (by clear q1 q2 r2; omega)
      have l := jan_step (q * 400 + c * 100 + k * 4 + i + 1)
      have l0 : (0 : Int) ≤ (if leapB (q * 400 + c * 100 + k * 4 + i + 1) = true then 1 else 0) := by split <;> decide
      rw [a] at l ⊢
      clear a q2 c0 r2 k0 t2 i0
      omega
theorem gjd_jan (y m x : Int) : gjd y m x = jan y - 1 + (367 * m - 362) / 12 + gadj y m + x := by
  rw [jan_eq]
  unfold gjd
  simp only [Int.fdiv_eq_ediv_of_nonneg _ (show (0 : Int) ≤ 400 by decide), Int.fdiv_eq_ediv_of_nonneg _ (show (0 : Int) ≤ 100 by decide), Int.fdiv_eq_ediv_of_nonneg _ (show (0 : Int) ≤ 4 by decide), Int.fdiv_eq_ediv_of_nonneg _ (show (0 : Int) ≤ 12 by decide)]
  omega
def monOf (r f : Int) : Int := ((r + (if r < 30 + f then 0 else if f = 29 then 1 else 2)) * 12 + 373) / 367
def adjOf (m f : Int) : Int := if m ≤ 2 then 0 else if f = 29 then -1 else -2
def monOk (r f : Int) : Bool := wm r f == monOf r f && wd r f == r - (367 * monOf r f - 362) / 12 - adjOf (monOf r f) f + 1 && decide (1 ≤ wd r f) && decide (wd r f ≤ 31) && (!(monOf r f == 2) || decide (wd r f ≤ f)) && (!(monOf r f == 4 || monOf r f == 6 || monOf r f == 9 || monOf r f == 11) || decide (wd r f ≤ 30))
theorem mon28 : ∀ n, n < 365 → monOk (n : Nat) 28 = true := by decide +kernel
theorem mon29 : ∀ n, n < 366 → monOk (n : Nat) 29 = true := by decide +kernel
theorem month_of (r f m g : Int) (hf : f = 28 ∨ f = 29) (h0 : 0 ≤ r) (h1 : r < 337 + f) (hm : m = ((r + (if r < 30 + f then 0 else if f = 29 then 1 else 2)) * 12 + 373) / 367) (hg : g = if m ≤ 2 then 0 else if f = 29 then -1 else -2) :
    wm r f = m ∧ wd r f = r - (367 * m - 362) / 12 - g + 1 ∧ 1 ≤ wd r f ∧ wd r f ≤ 31 ∧ (m = 2 → wd r f ≤ f) ∧ (m = 4 ∨ m = 6 ∨ m = 9 ∨ m = 11 → wd r f ≤ 30) := by
  have k : monOk r f = true := by
    have e : ((r.toNat : Nat) : Int) = r := Int.toNat_of_nonneg h0
    rw [← e]
    rcases hf with rfl | rfl
    · exact mon28 _ (by clear hm hg; omega)
    · exact mon29 _ (by clear hm hg; omega)
  have em : m = monOf r f := hm
  have eg : g = adjOf m f := hg
  subst eg em
  unfold monOk at k
  simp only [Bool.and_eq_true, beq_iff_eq, decide_eq_true_eq, Bool.or_eq_true, Bool.not_eq_true', beq_eq_false_iff_ne, ne_eq, Bool.or_eq_false_iff] at k
  obtain ⟨⟨⟨⟨⟨k1, k2⟩, k3⟩, k4⟩, k5⟩, k6⟩ := k
  refine ⟨k1, k2, k3, k4, fun h => k5.resolve_left (fun n => n h), fun h => k6.resolve_left fun n => ?_⟩
  rcases h with h | h | h | h
  · exact n.1.1.1 h
  · exact n.1.1.2 h
  · exact n.1.2 h
  · exact n.2 h
structure Greg (day : Int) : Prop where
  ok : dayOk (gyF day) (gmF day) (gdF day)
  back : gjd (gyF day) (gmF day) (gdF day) = day
  lo : jan (gyF day) ≤ day
  hi : day < jan (gyF day + 1)
  before : jan (gyF day - 1) ≤ day
  guess : ((day - 1721426) * 400).fdiv 146097 + 1 = gyF day ∨ ((day - 1721426) * 400).fdiv 146097 + 1 = gyF day - 1
  mon : wm (day - jan (gyF day)) (jan (gyF day + 1) - jan (gyF day) - 337) = gmF day
  dom : wd (day - jan (gyF day)) (jan (gyF day + 1) - jan (gyF day) - 337) = gdF day
theorem greg (day : Int) : Greg day := by
  obtain ⟨lo, hi⟩ := gyF_ok day
  have before : jan (gyF day - 1) ≤ day := by
    have sb := jan_step (gyF day - 1)
    rw [show gyF day - 1 + 1 = gyF day by omega] at sb
    have hlq : (0 : Int) ≤ (if leapB (gyF day - 1) = true then (1 : Int) else 0) := by split <;> decide
    clear hi
    omega
  have guess : ((day - 1721426) * 400).fdiv 146097 + 1 = gyF day ∨ ((day - 1721426) * 400).fdiv 146097 + 1 = gyF day - 1 := by
    have lo' := lo
    have hi' := hi
    rw [Int.fdiv_eq_ediv_of_nonneg _ (show (0 : Int) ≤ 146097 by decide)]
    rw [jan_eq] at lo' hi'
    clear lo hi before
    generalize gyF day = Y at *
    omega
  have st := jan_step (gyF day)
  have fl : jan (gyF day + 1) - jan (gyF day) - 337 = if leapB (gyF day) = true then 29 else 28 := by rw [st]; split <;> rfl
  have hyd : ydF day = day - jan (gyF day) := by unfold ydF; rw [gjd_one]
  have M := month_of (day - jan (gyF day)) (jan (gyF day + 1) - jan (gyF day) - 337) (gmF day) (gadj (gyF day) (gmF day)) (by rw [fl]; split <;> simp) (Int.sub_nonneg.mpr lo) (by clear st fl hyd before guess lo; omega)
    (by
      unfold gmF yadj
      rw [hyd, Int.fdiv_eq_ediv_of_nonneg _ (show (0 : Int) ≤ 367 by decide), fl]
      by_cases h : leapB (gyF day) = true
      · simp only [h, if_true]
        rfl
      · simp only [if_neg h]
        rfl)
    (by
      unfold gadj
      rw [fl]
      by_cases h : leapB (gyF day) = true
      · simp only [h, if_true]
      · simp only [if_neg h]
        rfl)
  obtain ⟨m1, m2, m3, m4, m5, m6⟩ := M
  have hgd : gdF day = day - jan (gyF day) - (367 * gmF day - 362) / 12 - gadj (gyF day) (gmF day) + 1 := by
    unfold gdF; rw [gjd_jan]; clear st fl hyd before guess lo hi m1 m2 m3 m4 m5 m6; omega
  have hdom : wd (day - jan (gyF day)) (jan (gyF day + 1) - jan (gyF day) - 337) = gdF day := by rw [m2, hgd]
  rw [hdom] at m3 m4 m5 m6
  refine ⟨⟨m3, m4, ?_, ?_, ?_⟩, ?_, lo, hi, before, guess, m1, hdom⟩
  · intro h2 hl
    have := m5 h2
    rw [fl, if_pos hl] at this
    exact this
  · intro h2 hl
    have := m5 h2
    rw [fl, if_neg (by rw [hl]; decide)] at this
    exact this
  · intro h
    simp only [Bool.or_eq_true, beq_iff_eq] at h
    exact m6 (by rcases h with h | h | h | h <;> simp [← h])
  · rw [gjd_jan, hgd]; clear st fl hyd before guess lo hi m1 m2 m3 m4 m5 m6 hdom hgd; omega
theorem rep_none : ∀ n : Nat, List.foldl (fun x1 x2 : Array Value => x1 ++ x2) #[] (List.replicate n #[Value.none]) = (List.replicate n Value.none).toArray := by
  have gen : ∀ (n : Nat) (a : List Value), List.foldl (fun x1 x2 : Array Value => x1 ++ x2) a.toArray (List.replicate n #[Value.none]) = (a ++ List.replicate n Value.none).toArray := by
    intro n
    induction n with
    | zero => intro a; simp
    | succ n ih =>
      intro a
      rw [List.replicate_succ, List.foldl_cons, show a.toArray ++ #[Value.none] = (a ++ [Value.none]).toArray by simp, ih, List.append_assoc]
      rfl
  intro n
  exact gen n []
section
variable {prog : Program} {w : World} {A : Around} {E : Value → Shared → Prop} {s : Shared} {h₀ : Heap} {L : Addr} {m : Str → Option Value} {news : List (Addr × Obj)}
theorem mul_none {l : Addr} {x : Int} {u : Tok} {Q : Value → Shared → Prop} {k : Nat} (F : Fr h₀ L s.heap m) (N : News h₀ L s.heap news) (hm : (l, listOf (List.toArray [Value.none]) k) ∈ news) (h0 : 0 ≤ x) (h1 : x ≤ 1000)
    (h : ∀ l' h', Fr h₀ L h' m → News h₀ L h' ((l', listOf (List.toArray (List.replicate x.toNat Value.none)) 0) :: news) → (∀ p ∈ news, p.1 < l') → Q (.ref l') { s with heap := h' }) :
    wpAny (model prog w) A (binaryOp .Mult (.ref l) (.int x u)) Q E s := by
  refine mul_list F N (N _ hm).1 (by omega) (by omega) (by simp; omega) fun h' F' N' => ?_
  have e : List.foldl (fun x1 x2 : Array Value => x1 ++ x2) #[] (List.replicate (if (List.toArray [Value.none]).isEmpty = true then 0 else x.toNat) (List.toArray [Value.none])) = (List.replicate x.toNat Value.none).toArray := rep_none x.toNat
  rw [e] at N'
  exact h _ h' F' N' fun p hp => Heap.lt_size (N p hp).1
theorem mul_noneR {l : Addr} {x : Int} {u : Tok} {Q : Value → Shared → Prop} {k : Nat} (F : Fr h₀ L s.heap m) (N : News h₀ L s.heap news) (hm : (l, listOf (List.toArray [Value.none]) k) ∈ news) (h0 : 0 ≤ x) (h1 : x ≤ 1000)
    (h : ∀ l' h', Fr h₀ L h' m → News h₀ L h' ((l', listOf (List.toArray (List.replicate x.toNat Value.none)) 0) :: news) → (∀ p ∈ news, p.1 < l') → Q (.ref l') { s with heap := h' }) :
    wpAny (model prog w) A (binaryOp .Mult (.int x u) (.ref l)) Q E s := by
  refine mul_list_r F N (N _ hm).1 (by omega) (by omega) (by simp; omega) fun h' F' N' => ?_
  have e : List.foldl (fun x1 x2 : Array Value => x1 ++ x2) #[] (List.replicate (if (List.toArray [Value.none]).isEmpty = true then 0 else x.toNat) (List.toArray [Value.none])) = (List.replicate x.toNat Value.none).toArray := rep_none x.toNat
  rw [e] at N'
  exact h _ h' F' N' fun p hp => Heap.lt_size (N p hp).1
theorem add_any {a b : Addr} {vs ws : List Value} {ka kb : Nat} {Q : Value → Shared → Prop} (F : Fr h₀ L s.heap m) (N : News h₀ L s.heap news) (ha : (a, listOf (List.toArray vs) ka) ∈ news) (hb : (b, listOf (List.toArray ws) kb) ∈ news) (hz : vs.length + ws.length ≤ 1000)
    (h : ∀ l' h', Fr h₀ L h' m → News h₀ L h' ((l', listOf (List.toArray (vs ++ ws)) 0) :: news) → (∀ p ∈ news, p.1 < l') → Q (.ref l') { s with heap := h' }) :
    wpAny (model prog w) A (binaryOp .Add (.ref a) (.ref b)) Q E s :=
  add_lists F N (News.isList N ha) (News.isList N hb) (fun h' F' N' => h _ h' F' N' fun p hp => Heap.lt_size (N p hp).1) (Nat.le_trans hz (by decide))
end
theorem words18 : True := by
  (k_with "binaryOp Mult ref int" => (k_here; k_dflt (refine' mul_none ?zF ?zN ?zm ?z0 ?z1 ?_; (case zF => assumption); (case zN => assumption); (case zm => walk_at "mine mem"); (case z0 => omega); (case z1 => omega); intro l' h' F' N' l1; (try k_lt l1))))
  (k_with "binaryOp Mult int ref" => (k_here; k_dflt (refine' mul_noneR ?zF ?zN ?zm ?z0 ?z1 ?_; (case zF => assumption); (case zN => assumption); (case zm => walk_at "mine mem"); (case z0 => omega); (case z1 => omega); intro l' h' F' N' l1; (try k_lt l1))))
  (k_with "mine both" => first | walk_at "mine mem" | walk_at "mine asm")
  (k_with "binaryOp Add ref ref" => (k_here; k_dflt (refine' add_any ?zF ?zN ?za ?zb ?zz ?_; (case zF => assumption); (case zN => assumption); (case za => walk_at "mine both"); (case zb => walk_at "mine both"); (case zz => (have hz9 := IntsAre.length (by with_reducible assumption); simp only [rangeKs_length] at hz9; simp only [List.length_append, List.length_replicate, List.length_cons, List.length_nil]; omega)); intro l' h' F' N' l1; (try k_lt l1))))
  (k_with "mine enterC" => (refine' code_defC ?k1 ?k2 ?k3 ?k4 ?k5 ?kA ?kF ?kK ?k6 ?k7 ?k8 ?k9 ?kB ?kD ?_ ?c2 ?c3 ?c4; (case kA => exact rfl); (case kF => exact rfl); (case kK => assumption); (case k1 => k_asm); (case k2 => k_asm); (case k3 => k_asm); (case k4 => k_asm); (case k5 => k_asm); (case k6 => k_is); (case k7 => k_is); (case k8 => ktr_room); (case k9 => exact BindsTo.of_eq rfl); (case kB => exact rfl); (case kD => decide +kernel); (case c2 => exact rfl); (case c3 => exact rfl); (case c4 => exact rfl); k_whole; intro g' L' h' tk' cells' FG' F' N' Y' B' X' T' l1; k_cells Y'; (try simp only [List.cons_append, List.nil_append] at N'); (try dsimp only); (try k_fold)))
  (k_with "mine head" => exact UpdF.head (fun p hp => Nat.ne_of_lt (Nat.lt_of_lt_of_le ((by with_reducible assumption : ∀ p ∈ _, p.1 < _) p hp) (Nat.le_add_right _ _))))
  exact trivial
local macro_rules | `(tactic| k_updF) => `(tactic| first | walk_at "mine head" | (refine' UpdF.tail ?a ?b; (case a => k_ne); (case b => k_updF)))
/-- what a def that hands back a new list of lists is asked: the answer reads as d wherever the ledger stands -/
abbrev CgRet (h₀ : Heap) (L : Addr) (m : Str → Option Value) (news : List (Addr × Obj)) (s : Shared) (Q : Value → Shared → Prop) (d : PyData) : Prop :=
  ∀ (q : Addr) (h' : Heap) (tk' : Nat) (news' : List (Addr × Obj)), Fr h₀ L h' m → News h₀ L h' news' → (∀ p ∈ news, p ∈ news') → (∀ h₁ L₁ h'', News h₁ L₁ h'' news' → ∃ as, Reads h'' (.ref q) d as) → Q (.ref q) { s with heap := h', toks := tk' }
abbrev ClG (w : World) (n : Nat) (f : Addr) (news : List (Addr × Obj)) (vs : List Value) (d : PyData) : Prop :=
  ∀ (p : Program) (loose : List Str) (mean : ExcName → Option Value) (mg mb : Str → Option Value) (dp un : Nat) (gd : Option (List Code)) (cn : Str) (cs : Scope) (a : Addr) (ccd : Value) (cl : List (Str × Addr)) (outer : List Env) (A₀ : Around) (base h₀ : Heap) (L : Addr) (m : Str → Option Value) (s : Shared) (Q E : Value → Shared → Prop),
    Below A₀ base outer h₀ → Fr h₀ L s.heap m → (hd.heap_39 w.params).In h₀ → News h₀ L s.heap news → Top p loose mean mg mb h₀ → cs.kind = .function → dp + n < recursionLimit → un + 8 * n < cLine →
    CgRet h₀ L m news s Q d →
      wpAny (model PySem.Challenge.pw_ah0014_01 w) (ktrTop dp un gd cn cs L a ccd cl outer) (call (.ref f) vs) Q E s
theorem ClG.use {w : World} {n : Nat} {f : Addr} {news : List (Addr × Obj)} {vs : List Value} {p : Program} {loose : List Str} {mean : ExcName → Option Value} {mg mb : Str → Option Value} {dp un : Nat} {gd : Option (List Code)} {cn : Str} {cs : Scope} {a : Addr} {ccd : Value} {cl : List (Str × Addr)} {outer : List Env} {A₀ : Around} {base h₀ : Heap} {L : Addr} {m : Str → Option Value} {s : Shared} {Q E : Value → Shared → Prop} {d : PyData}
    (B : Below A₀ base outer h₀) (F : Fr h₀ L s.heap m) (X : (hd.heap_39 w.params).In h₀) (N : News h₀ L s.heap news) (T : Top p loose mean mg mb h₀) (C : ClG w n f news vs d) (hk : cs.kind = .function) (hd : dp + n < recursionLimit) (hu : un + 8 * n < cLine)
    (ret : CgRet h₀ L m news s Q d) : wpAny (model PySem.Challenge.pw_ah0014_01 w) (ktrTop dp un gd cn cs L a ccd cl outer) (call (.ref f) vs) Q E s :=
  C _ _ _ _ _ _ _ _ _ _ _ _ _ _ _ _ _ _ _ _ _ _ B F X N T hk hd hu ret
/-- a comprehension over a range by steps: what its source must be -/
def StepSrc (prog : Program) (w : World) (A : Around) (h₀ : Heap) (L : Addr) (m : Str → Option Value) (env : Env) (elt : PySem.Expr) (x : Str) (scope : Scope) (cl : List (Str × Addr)) (Q : Value → Shared → Prop) (xv : Value) (s₁ : Shared) : Prop :=
  ∃ r a b c t u v n news, xv = .ref r ∧ A.handled = none ∧ Fr h₀ L s₁.heap m ∧ News h₀ L s₁.heap news ∧ IsRange s₁.heap r a b c t u v ∧ Builtin.Range.small a b c = true ∧ Builtin.Range.rangeSize a b c = ((n : Nat) : Int) ∧ n ≤ sizeLine ∧
    ∀ s₂ : Shared, (∃ h, s₂ = { s₁ with heap := h }) → LCg.CompRest prog w A h₀ L m env elt x scope cl s₂ (fun _ => True) (fun i v => ∃ t, v = .int (a + (i : Int) * c) t) (LCg.FinE h₀ L m s₂ Q) n 0 [] news
section
variable {prog : Program} {w : World} {A : Around} {E : Value → Shared → Prop} {s : Shared} {h₀ : Heap} {L : Addr} {m : Str → Option Value} {env : Env}
theorem comp_step {elt iter : PySem.Expr} {x : Str} {px : Pos} {scope : Scope} {cl : List (Str × Addr)} {pos : Pos} {Q : Value → Shared → Prop} (F₀ : Fr h₀ L s.heap m)
    (hclos : closureFor scope env = pure cl) (hcell : ∀ y ∈ scope.names, y.2 ≠ .cell) (hkind : scope.kind = .function)
    (hnames : ∀ y ∈ scope.names, y.2 = .local → scope.names.lookup y.1 = some .local) (hx : scope.names.lookup x = some .local)
    (h : wpAny (model prog w) A (eval iter env) (StepSrc prog w A h₀ L m env elt x scope cl Q) E s)
    (hs : ∀ x, foldedSetIterable iter env x = pure x := by intro _; rfl) :
    wpAny (model prog w) A (eval (.ListComp elt [⟨.Name x px, iter, [], 0⟩] scope pos) env) Q E s := by
  rw [eval_ListComp]
  refine wpAny_comprehension_free (use := none) rfl hs hclos hkind hnames (wpAny_mono h (fun xv s₁ h₁ => ?_) fun _ _ e => e)
  obtain ⟨r, a, b, c, t, u, v, n, news, rfl, hh, F, N, hr, hsm, hn, hsz, R⟩ := h₁
  refine wpAny_pyIter_range hr hsm ?_
  refine LCg.block_U (Walks.range hh s₁.heap.objs.size a c n) hsz (fun i h st => ⟨_, st⟩) (fun i h h' o nw st e e' _ _ _ => ?_) hcell hkind hx (by show IsRangeIter _ _ _ _ _; rw [hn]; simpa using Heap.get?_push_size _ rfl) (fun b hb => ?_)
    (F.keeps fun _ _ e => Heap.get?_push_of_some _ e) (N.grown fun _ _ e => Heap.get?_push_of_some _ e) (Nat.ne_of_lt F.ns.lt) (next_is_new F) (fun p hp => Nat.ne_of_lt (Heap.lt_size (N p hp).1)) trivial (R _ ⟨_, rfl⟩) ?_
  · have st' : h.get? s₁.heap.objs.size = some _ := st
    show h'.get? s₁.heap.objs.size = some _
    rw [e', ← e]; exact st'
  · rw [List.mem_singleton.mp hb]
    show s₁.heap.objs.size < (s₁.heap.push _).objs.size
    rw [Heap.size_push]; exact Nat.lt_succ_self _
  · intro D C h' tk m' ys news' F' N' o1 hn hC₀ hD₀ hCL hDL hCD offC fin
    refine ⟨m', hn, fun h'' hs'' => fin D h'' tk (F'.change hs'' hCL hC₀) (fun p hp => ?_) o1⟩
    refine ⟨hs''.extBut _ _ ?_ (N' p hp).1, (N' p hp).2⟩
    rcases List.mem_cons.mp hp with rfl | hp
    · exact Ne.symm hCD
    · exact offC p hp
/-- a turn's end: a new list of rv -/
def RowEnd (nw : List (Addr × Obj)) (rv : List Value) (y : Value) (nw' : List (Addr × Obj)) : Prop := ∃ r, y = .ref r ∧ nw' = (r, listOf (List.toArray rv) 0) :: nw
/-- the rows made so far -/
def RowsAre (row : Nat → List Value) (n : Nat) (ys : List Value) (nw : List (Addr × Obj)) : Prop := ys.length = n ∧ ∀ j, j < n → ∃ r, ys[j]? = some (.ref r) ∧ (r, listOf (List.toArray (row j)) 0) ∈ nw
theorem comp_rows {elt : PySem.Expr} {x : Str} {scope : Scope} {cl : List (Str × Addr)} {P : Nat → Value → Prop} {Fin : List Value → List (Addr × Obj) → Prop} {n : Nat} {news : List (Addr × Obj)} (row : Nat → List Value)
    (turn : ∀ i v I oI C oC D m₂ ys h tk (E' : Value → Shared → Prop) nw, i < n → (∀ p ∈ news, p ∈ nw) → P i v → LCg.NsObj oC m₂ → m₂ x = some v → Fr h₀ L h m → News h₀ L h ((I, oI) :: (C, oC) :: (D, LCg.lst ys) :: nw) → LCg.Off3 I C D nw → ((@Ne Nat I C) ∧ (@Ne Nat I D) ∧ (@Ne Nat C D)) →
      wpAny (model prog w) A (eval elt (compEnvC scope cl C env)) (LCg.CompEnd h₀ L m { s with heap := h, toks := tk } I oI C oC D (LCg.lst ys) (fun _ => True) (RowEnd nw (row i))) E' { s with heap := h, toks := tk })
    (fin : ∀ ys nw, (∀ p ∈ news, p ∈ nw) → RowsAre row n ys nw → Fin ys nw) : LCg.CompRest prog w A h₀ L m env elt x scope cl s (fun _ => True) P Fin n 0 [] news := by
  have key : ∀ (j i : Nat) (ys : List Value) (nw : List (Addr × Obj)), i + j = n → (∀ p ∈ news, p ∈ nw) → RowsAre row i ys nw → LCg.CompRest prog w A h₀ L m env elt x scope cl s (fun _ => True) P Fin j i ys nw := by
    intro j
    induction j with
    | zero =>
      intro i ys nw hi hs hR
      have e : i = n := by omega
      subst e
      exact LCg.CompRest.zero (fin ys nw hs hR)
    | succ j ih =>
      intro i ys nw hi hs hR
      refine LCg.CompRest.succ ?_
      intro v I oI C oC D m₂ h tk E' hv hC hx F N off ne
      refine wpAny_mono (turn i v I oI C oC D m₂ ys h tk E' nw (by omega) hs hv hC hx F N off ne) (fun y s₂ hq => ?_) fun _ _ e => e
      obtain ⟨h', tk', nw', e, F', N', off', hS, r, hy, hn⟩ := hq
      subst hy hn
      refine ⟨h', tk', _, e, F', N', off', hS, ih (i + 1) _ _ (by omega) (fun p hp => List.mem_cons_of_mem _ (hs p hp)) ⟨by rw [List.length_append, hR.1]; rfl, fun k hk => ?_⟩⟩
      rcases Nat.lt_or_ge k i with hlt | hge
      · obtain ⟨r', h1, h2⟩ := hR.2 k hlt
        exact ⟨r', by rw [List.getElem?_append_left (by rw [hR.1]; exact hlt)]; exact h1, List.mem_cons_of_mem _ h2⟩
      · have e : k = i := by omega
        subst e
        exact ⟨r, by rw [List.getElem?_append_right (by rw [hR.1]; exact Nat.le_refl _), hR.1, Nat.sub_self]; rfl, List.mem_cons_self ..⟩
  exact key n 0 [] news (by omega) (fun _ h => h) ⟨rfl, fun j hj => absurd hj (Nat.not_lt_zero j)⟩
end
theorem reads_rows {h₀ h : Heap} {L : Addr} {nw : List (Addr × Obj)} (N : News h₀ L h nw) : ∀ (ys : List Value) (row : Nat → List Value) (drow : Nat → List PyData) (n : Nat), (∀ j, j < n → CarriedAll (row j) (drow j)) → RowsAre row n ys nw → ∃ as, ReadsAll h ys ((List.range n).map fun j => .list (drow j)) as := by
  intro ys
  induction ys with
  | nil =>
    intro row drow n hc hR
    have e : n = 0 := hR.1.symm
    subst e
    exact ⟨[], .nil⟩
  | cons y ys ih =>
    intro row drow n hc hR
    cases n with
    | zero => cases hR.1
    | succ n =>
      obtain ⟨r, h1, h2⟩ := hR.2 0 (Nat.succ_pos _)
      have hy : y = .ref r := by simpa using h1
      subst hy
      obtain ⟨as, ha⟩ := ih (fun j => row (j + 1)) (fun j => drow (j + 1)) n (fun j hj => hc (j + 1) (by omega)) ⟨by have := hR.1; simpa using this, fun j hj => by
        obtain ⟨r', q1, q2⟩ := hR.2 (j + 1) (by omega)
        exact ⟨r', by simpa using q1, q2⟩⟩
      rw [List.range_succ_eq_map, List.map_cons, List.map_map]
      exact ⟨_, .cons (.list (N _ h2).1 rfl rfl ((hc 0 (Nat.succ_pos _)).reads h)) ha⟩
theorem carried_append : ∀ {vs : List Value} {ds : List PyData} {vs' : List Value} {ds' : List PyData}, CarriedAll vs ds → CarriedAll vs' ds' → CarriedAll (vs ++ vs') (ds ++ ds')
  | _, _, _, _, .nil, h => h
  | _, _, _, _, .cons c r, h => .cons c (carried_append r h)
theorem carried_none : ∀ n : Nat, CarriedAll (List.replicate n Value.none) (List.replicate n PyData.none)
  | 0 => .nil
  | n + 1 => .cons .none (carried_none n)
theorem carried_drop : ∀ (k : Nat) {vs : List Value} {ds : List PyData}, CarriedAll vs ds → CarriedAll (vs.drop k) (ds.drop k)
  | 0, _, _, h => h
  | _ + 1, _, _, .nil => .nil
  | k + 1, _, _, .cons _ r => carried_drop k r
theorem carried_take : ∀ (k : Nat) {vs : List Value} {ds : List PyData}, CarriedAll vs ds → CarriedAll (vs.take k) (ds.take k)
  | 0, _, _, _ => .nil
  | _ + 1, _, _, .nil => .nil
  | k + 1, _, _, .cons c r => .cons c (carried_take k r)
/-- the days of a month with what stands ahead of them and behind them -/
def cellsD (lp : Nat) (ml : Int) : List PyData := List.replicate lp PyData.none ++ (rangeKs 1 ml.toNat).map PyData.int ++ List.replicate 7 PyData.none
/-- the rows of a month -/
def gridD (lp : Nat) (ml : Int) : PyData := .list ((List.range ((lp + ml.toNat + 6) / 7)).map fun j => .list (((cellsD lp ml).drop (7 * j)).take 7))
theorem words19 : True := by
  (k_with "eval ListComp" => (k_here; (with_reducible show wpAny _ _ (eval (PySem.Expr.ListComp (PySem.Expr.Subscript _ _ _) _ _ _) _) _ _ _); k_dflt (refine comp_step (F₀ := by k_asm) (by with_unfolding_all rfl) (by decide) (by rfl) (by decide) (by rfl) ?_)))
  exact trivial
theorem slice7 (V : List Value) (x : Int) (h0 : 0 ≤ x) (h1 : x + 7 ≤ (V.length : Int)) : (slicePick V.toArray (some x) (some (x + 7)) none).toList = (V.drop x.toNat).take 7 := by
  obtain ⟨n, rfl⟩ := Int.eq_ofNat_of_zero_le h0
  have h2 : n + 7 ≤ V.length := by omega
  clear h1
  have e : sliceBounds (some (n : Int)) (some ((n : Int) + 7)) none V.toArray.size = ((n : Int), ((n + 7 : Nat) : Int), 1) := by
    rw [List.size_toArray]
    generalize V.length = k at h2
    simp only [sliceBounds, Option.getD_none, show (1 : Int) > 0 by decide, if_true, if_neg (show ¬ ((n : Int) < 0) by omega), if_neg (show ¬ ((n : Int) + 7 < 0) by omega)]
    congr 1
    · omega
    · congr 1
      omega
  rw [kmk_pick_nat _ e]
  show (V.drop n).take (n + 7 - n) = _
  rw [Nat.add_sub_cancel_left]
  rfl
theorem small7 {b : Int} (h0 : 0 ≤ b) (h1 : b ≤ 1000) : Builtin.Range.small 0 b 7 = true := by
  unfold Builtin.Range.small Builtin.Range.rangeSize
  simp only [Builtin.Range.rangeFitsLong, Bool.and_eq_true, Bool.or_eq_true, decide_eq_true_eq, beq_iff_eq, show (7 : Int) > 0 by decide, if_true]
  split <;> omega
theorem size7 {b : Int} (h0 : 0 < b) : Builtin.Range.rangeSize 0 b 7 = (((b.toNat + 6) / 7 : Nat) : Int) := by
  unfold Builtin.Range.rangeSize
  simp only [show (7 : Int) > 0 by decide, if_true]
  rw [if_pos h0]
  omega
theorem words20 : True := by
  (k_with "subscriptTail Name Slice ref ref" => ((with_reducible show wpAny _ _ (subscriptTail _ (PySem.Expr.Slice (some _) (some _) none _) (Value.ref _) (Value.ref _)) _ _ _); refine hold_intro ?_))
  exact trivial
set_option maxRecDepth 100000 in
set_option maxHeartbeats 8000000 in
theorem helper_cl (w : World) (news : List (Addr × Obj)) (sw ml : Int) (t1 t2 : Tok) (h1 : 29 ≤ ml) (h2 : ml ≤ 31) : ClG w 12 33 news [.int sw t1, .int ml t2] (gridD ((sw + 1).fmod 7).toNat ml) := by
  intro p loose mean mg mb dp un gd cn cs a ccd cl outer A₀ base h₀ L m s Q E B F X N T hk hdp hun hret
  have hf := Int.emod_nonneg (sw + 1) (by decide : (7 : Int) ≠ 0)
  have hf' := Int.emod_lt_of_pos (sw + 1) (by decide : (0 : Int) < 7)
  rw [← Int.fmod_eq_emod_of_nonneg (sw + 1) (by decide : (0 : Int) ≤ 7)] at hf hf'
  refine wpAny_call ?_
  k_dflt walk_at "mine enterC"
  obtain ⟨M, F1, e1, e2⟩ : ∃ M, Fr g' L' h' M ∧ M (Str.ofString "start_weekday") = some (.int sw t1) ∧ M (Str.ofString "month_length") = some (.int ml t2) := ⟨_, F', rfl, rfl⟩
  clear F'
  k_steps
  have hI := (by assumption : IntsAre _ (rangeKs 1 (1 + ml - 1).toNat))
  rw [show (1 + ml - 1).toNat = ml.toNat by omega] at hI
  have hO := (by assumption : Obj.data _ = Data.cell (some (Value.ref _)))
  refine ⟨_, 0, (sw + 1).fmod 7 + ml, 7, _, _, _, (((sw + 1).fmod 7 + ml).toNat + 6) / 7, _, rfl, rfl, by assumption, by assumption, by assumption, small7 (by omega) (by omega), size7 (by omega), (by
    have e : (((sw + 1).fmod 7 + ml).toNat + 6) / 7 ≤ 1000 := by omega
    exact Nat.le_trans e (by decide)), ?_⟩
  rintro s₂ ⟨g₂, rfl⟩
  have hlen := hI.length
  rw [rangeKs_length] at hlen
  rename List Value => vs
  rename Obj => ob
  have hC : CarriedAll _ (cellsD ((sw + 1).fmod 7).toNat ml) := carried_append (carried_append (carried_none ((sw + 1).fmod 7).toNat) (ke_carried hI)) (carried_none 7)
  generalize hVd : List.replicate ((sw + 1).fmod 7).toNat Value.none ++ vs ++ List.replicate 7 Value.none = V at *
  have hVl : (V.length : Int) = (sw + 1).fmod 7 + ml + 7 := by rw [← hVd]; simp only [List.length_append, List.length_replicate]; omega
  refine comp_rows (fun j => (V.drop (0 + (j : Int) * 7).toNat).take 7) ?_ ?_
  · intro i v I oI C oC D m₂ ys h tk E' nw hi hs hv hNs hx F N off ne
    obtain ⟨t, rfl⟩ := hv
    have m1 := hs _ (List.mem_cons_self ..)
    rw [show Int.toNat 7 = 7 from rfl, hVd] at m1
    have m2 : (_, ob) ∈ nw := hs _ (by walk_at "mine mem")
    k_steps
    unfold Hold
    k_dflt (refine' kmk_slice_lit ?zF ?zN ?zl ?zp ?zq ?ze ?_ ?zs ?zt ?zz; (case zF => k_asm); (case zN => k_asm); (case zl => exact News.isList (by k_asm) (List.mem_cons_of_mem _ (List.mem_cons_of_mem _ (List.mem_cons_of_mem _ m1)))); (case zp => kmk_part); (case zq => kmk_part); (case ze => exact slice7 V (0 + (i : Int) * 7) (by omega) (by omega)); (case zs => with_unfolding_all rfl); (case zt => kmk_pure); (case zz => exact Nat.le_trans (show V.toArray.size ≤ 1000 by rw [List.size_toArray]; omega) (by decide)))
    intro D' h' F' N' l1
    have lI := l1 _ (List.mem_cons_self ..)
    have lC := l1 _ (List.mem_cons_of_mem _ (List.mem_cons_self ..))
    have lD := l1 _ (List.mem_cons_of_mem _ (List.mem_cons_of_mem _ (List.mem_cons_self ..)))
    refine LCg.CompEnd.intro F' N' ((D', listOf (List.toArray ((V.drop (0 + (i : Int) * 7).toNat).take 7)) 0) :: nw) ?_ ⟨⟨Ne.symm (Nat.ne_of_lt lI), Ne.symm (Nat.ne_of_lt lC), Ne.symm (Nat.ne_of_lt lD)⟩, off⟩ trivial ⟨_, rfl, rfl⟩
    intro p hp
    rcases List.mem_cons.mp hp with rfl | hp
    · exact List.mem_cons_of_mem _ (List.mem_cons_self ..)
    · rcases List.mem_cons.mp hp with rfl | hp
      · exact List.mem_cons_of_mem _ (List.mem_cons_of_mem _ (List.mem_cons_self ..))
      · rcases List.mem_cons.mp hp with rfl | hp
        · exact List.mem_cons_of_mem _ (List.mem_cons_of_mem _ (List.mem_cons_of_mem _ (List.mem_cons_self ..)))
        · rcases List.mem_cons.mp hp with rfl | hp
          · exact List.mem_cons_self ..
          · exact List.mem_cons_of_mem _ (List.mem_cons_of_mem _ (List.mem_cons_of_mem _ (List.mem_cons_of_mem _ hp)))
  · intro ys nw hs hR D h tk F' N' _
    refine ⟨_, _, _, F', N', fun kF kN => hret D h tk _ kF kN (fun p hp => List.mem_cons_of_mem _ (hs p ((by walk_at "mine sub" : ∀ p ∈ news, p ∈ _) p hp))) fun h₁ L₁ h'' N₁ => ?_⟩
    obtain ⟨as, ha⟩ := reads_rows (fun p hp => N₁ p (List.mem_cons_of_mem _ hp)) ys _ (fun j => ((cellsD ((sw + 1).fmod 7).toNat ml).drop (7 * j)).take 7) _ (fun j hj => by
      rw [show (0 + (j : Int) * 7).toNat = 7 * j by omega]
      exact carried_take 7 (carried_drop _ hC)) hR
    rw [show ((sw + 1).fmod 7 + ml).toNat = ((sw + 1).fmod 7).toNat + ml.toNat by omega] at ha
    exact ⟨_, .list (N₁ _ (List.mem_cons_self ..)).1 rfl rfl ha⟩
def turnF (b : Int) (ns : List Int) (g : Int) : Int := if g - 621 - b < 0 then ns.getD 0 0 + 365 * (g - 621 - b) else if g - 621 - b > 10 then ns.getD 10 0 + 365 * (g - 621 - b - 10) else ns.getD (g - 621 - b).toNat 0
theorem row_at {n0 : Int} {ns : List Int} (h : RowP n0 10 ns) : ∀ j : Nat, j ≤ 10 → n0 + 365 * (j : Int) ≤ ns.getD j 0 ∧ ns.getD j 0 ≤ n0 + 366 * (j : Int)
  | 0, _ => by rw [h.zero]; omega
  | j + 1, hj => by
    have ih := row_at h j (by omega)
    have st := h.step j (by omega)
    omega
theorem turn_len {n0 b : Int} {ns : List Int} (h : RowP n0 10 ns) (g : Int) : 365 ≤ turnF b ns (g + 1) - turnF b ns g ∧ turnF b ns (g + 1) - turnF b ns g ≤ 366 := by
  unfold turnF
  by_cases h1 : g + 1 - 621 - b < 0
  · rw [if_pos h1, if_pos (by omega)]; omega
  · rw [if_neg h1]
    by_cases h2 : g - 621 - b < 0
    · have e : g + 1 - 621 - b = 0 := by omega
      rw [if_pos h2, if_neg (by omega), e]
      show 365 ≤ ns.getD 0 0 - _ ∧ ns.getD 0 0 - _ ≤ 366
      omega
    · rw [if_neg h2]
      by_cases h3 : g + 1 - 621 - b > 10
      · rw [if_pos h3]
        by_cases h4 : g - 621 - b > 10
        · rw [if_pos h4]; omega
        · have e : g - 621 - b = 10 := by omega
          rw [if_neg h4, e]
          show 365 ≤ _ - ns.getD 10 0 ∧ _ - ns.getD 10 0 ≤ 366
          omega
      · rw [if_neg h3, if_neg (by omega)]
        have e : (g + 1 - 621 - b).toNat = (g - 621 - b).toNat + 1 := by omega
        rw [e]
        exact h.step _ (by omega)
/-- how far a new year lies from the plain count of 365 -/
theorem turn_near {n0 b : Int} {ns : List Int} (h : RowP n0 10 ns) (k : Int) : n0 + 365 * (k - b) ≤ turnF b ns (k + 621) ∧ turnF b ns (k + 621) ≤ n0 + 365 * (k - b) + 10 := by
  have hz := h.zero
  have ht := row_at h 10 (by omega)
  unfold turnF
  by_cases h1 : k + 621 - 621 - b < 0
  · rw [if_pos h1]; omega
  · rw [if_neg h1]
    by_cases h2 : k + 621 - 621 - b > 10
    · rw [if_pos h2]; omega
    · rw [if_neg h2]
      have := row_at h (k + 621 - 621 - b).toNat (by omega)
      have e : (((k + 621 - 621 - b).toNat : Nat) : Int) = k - b := by omega
      rw [e] at this
      omega
section
variable {n0 b x : Int} {ns : List Int}
theorem row_gy (hb0 : -20000 ≤ b) (hb1 : b ≤ 19999) (hx0 : 0 ≤ x) (hx1 : x ≤ 140) (hn : n0 = 1948321 + 365 * (b - 1) + (8 * (b - 1)) / 33 + x - 40) (h : RowP n0 10 ns) (k : Int) (k0 : b - 4 ≤ k) (k1 : k ≤ b + 13) : jan (k + 621) ≤ turnF b ns (k + 621) ∧ turnF b ns (k + 621) < jan (k + 621 + 1) := by
  have t := turn_near (b := b) h k
  rw [jan_eq, jan_eq]
  omega
theorem row_yr (hb0 : -20000 ≤ b) (hb1 : b ≤ 19999) (hx0 : 0 ≤ x) (hx1 : x ≤ 140) (hn : n0 = 1948321 + 365 * (b - 1) + (8 * (b - 1)) / 33 + x - 40) (h : RowP n0 10 ns) (k : Int) (k0 : b - 4 ≤ k) (k1 : k ≤ b + 13) : pyr (turnF b ns (k + 621) - 1) = k := by
  have t := turn_near (b := b) h k
  unfold pyr
  rw [Int.fdiv_eq_ediv_of_nonneg _ (show (0 : Int) ≤ 2 * 36524219878 by decide)]
  omega
theorem jan_mono : ∀ (n : Nat) (y : Int), jan y + 365 * (n : Int) ≤ jan (y + n)
  | 0, y => by simp
  | n + 1, y => by
    have h := jan_mono n y
    have s := jan_step (y + n)
    have l : (0 : Int) ≤ (if leapB (y + n) = true then (1 : Int) else 0) := by split <;> simp
    rw [show y + ((n + 1 : Nat) : Int) = y + n + 1 by omega]
    omega
theorem gy_of {jd g : Int} (h1 : jan g ≤ jd) (h2 : jd < jan (g + 2)) : gyF jd = g ∨ gyF jd = g + 1 := by
  obtain ⟨lo, hi⟩ := gyF_ok jd
  rcases Int.lt_or_le (gyF jd) g with c | c
  · have m := jan_mono (g - (gyF jd + 1)).toNat (gyF jd + 1)
    rw [show gyF jd + 1 + (((g - (gyF jd + 1)).toNat : Nat) : Int) = g by omega] at m
    omega
  · rcases Int.lt_or_le (g + 1) (gyF jd) with c' | c'
    · have m := jan_mono (gyF jd - (g + 2)).toNat (g + 2)
      rw [show g + 2 + (((gyF jd - (g + 2)).toNat : Nat) : Int) = gyF jd by omega] at m
      omega
    · omega
theorem row_at_ (hb0 : -20000 ≤ b) (hb1 : b ≤ 19999) (hx0 : 0 ≤ x) (hx1 : x ≤ 140) (hn : n0 = 1948321 + 365 * (b - 1) + (8 * (b - 1)) / 33 + x - 40) (h : RowP n0 10 ns) (k jd : Int) (k0 : b - 3 ≤ k) (k1 : k ≤ b + 12) (h1 : turnF b ns (k + 621) ≤ jd) (h2 : jd < turnF b ns (k + 621 + 1)) : At (turnF b ns) jd k := by
  have a := row_gy hb0 hb1 hx0 hx1 hn h k (by omega) (by omega)
  have c := row_gy hb0 hb1 hx0 hx1 hn h (k + 1) (by omega) (by omega)
  rw [show k + 1 + 621 = k + 621 + 1 by omega] at c
  exact ⟨h1, h2, gy_of (by omega) (by rw [show k + 621 + 2 = k + 621 + 1 + 1 by omega]; omega), row_yr hb0 hb1 hx0 hx1 hn h k (by omega) (by omega)⟩
theorem row_reach (hb0 : -20000 ≤ b) (hb1 : b ≤ 19999) (hx0 : 0 ≤ x) (hx1 : x ≤ 140) (hn : n0 = 1948321 + 365 * (b - 1) + (8 * (b - 1)) / 33 + x - 40) (h : RowP n0 10 ns) (y : Int) (y0 : b ≤ y) (y1 : y ≤ b + 10) : Reach (turnF b ns) y := by
  have e : (36524219878 : Int).fdiv 100000000 = 365 := by decide
  have l1 := turn_len (b := b) h (y - 2 + 621)
  have l2 := turn_len (b := b) h (y - 1 + 621)
  have l3 := turn_len (b := b) h (y + 621)
  rw [show y - 2 + 621 + 1 = y - 1 + 621 by omega] at l1
  rw [show y - 1 + 621 + 1 = y + 621 by omega] at l2
  have n1 := turn_near (b := b) h (y - 1)
  have n2 := turn_near (b := b) h (y - 2)
  have last : At (turnF b ns) (turnF b ns (y - 1 + 621) - 1 + (36524219878 : Int).fdiv 100000000 + 2) y := by
    rw [e]; exact row_at_ hb0 hb1 hx0 hx1 hn h y _ (by omega) (by omega) (by omega) (by omega)
  have g : ∀ z, (36524219878 * (y - 1 - 1)).fdiv 100000000 = z → z = (36524219878 * (y - 1 - 1)) / 100000000 := fun z hz => by rw [← hz, Int.fdiv_eq_ediv_of_nonneg _ (by decide)]
  have gz := g _ rfl
  rcases Int.lt_or_le (1948321 - 1 + (36524219878 * (y - 1 - 1)).fdiv 100000000) (turnF b ns (y - 1 + 621)) with c | c
  · refine .inr ⟨row_at_ hb0 hb1 hx0 hx1 hn h (y - 2) _ (by omega) (by omega) ?_ ?_, ?_, last⟩
    · rw [gz]; omega
    · rw [show y - 2 + 621 + 1 = y - 1 + 621 by omega]; exact c
    · rw [e]; exact row_at_ hb0 hb1 hx0 hx1 hn h (y - 1) _ (by omega) (by omega) (by omega) (by rw [show y - 1 + 621 + 1 = y + 621 by omega]; omega)
  · refine .inl ⟨row_at_ hb0 hb1 hx0 hx1 hn h (y - 1) _ (by omega) (by omega) c ?_, last⟩
    rw [show y - 1 + 621 + 1 = y + 621 by omega, gz]; omega
theorem rowOk (hb0 : -20000 ≤ b) (hb1 : b ≤ 19999) (hx0 : 0 ≤ x) (hx1 : x ≤ 140) (hn : n0 = 1948321 + 365 * (b - 1) + (8 * (b - 1)) / 33 + x - 40) (h : RowP n0 10 ns) : RowOk (turnF b ns) b ns :=
  ⟨fun k k0 k1 => row_reach hb0 hb1 hx0 hx1 hn h k k0 k1, fun k jd k0 k1 a c => row_at_ hb0 hb1 hx0 hx1 hn h k jd (by omega) (by omega) a c,
    fun i i0 i1 => by unfold turnF; rw [if_neg (by omega), if_neg (by omega), show b + i + 621 - 621 - b = i by omega],
    fun k => turn_len h k, h.len⟩
end
def LenAt (news : List (Addr × Obj)) (q : Addr) (x : Int) : Prop := ∃ vs, (q, listOf (List.toArray vs) 0) ∈ news ∧ IntsAre vs [31, 31, 31, 31, 31, 31, 30, 30, 30, 30, 30, x]
theorem words21 : True := by
  (k_with "call ref" => (k_here; k_dflt (refine' Cl.use ?k1 ?k2 ?k3 ?k4 ?k5 (topjd_cl _ _ _ _ ?kH _ _ _ _ _ _ ?kp) ?kK ?kd ?ku ?_; walk_at "mine use"; (case kp => exact RowOk.reach (by with_reducible assumption) _ (by omega) (by omega)); (case kH => exact TurnCl.more (by with_reducible assumption) (by walk_at "mine sub")); intro t9 h9 tk9 F9 N9; (try dsimp only); (try k_fold))))
  (k_with "exec For Tuple List" => (k_here; (with_unfolding_all refine' For_turns ?zF ?_ ?zs ?zE; (case zF => assumption); (case zs => (intro _; rfl)); (case zE => first | with_reducible assumption | passes_own))))
  (k_with "pyIter ref" => (k_here; (with_reducible show wpAny _ _ (pyIter (Value.ref _)) (fun it s₂ => TurnsAt _ _ _ _ _ _ _ _ _ it s₂) _ _); (with_unfolding_all refine' iter_listTurns (n := 0) ?i0 ?i1 ?i2 ?i3 ?i4 ?i5 ?_; (case i0 => rfl); (case i1 => assumption); (case i2 => assumption); (case i3 => exact List.mem_cons_self ..); (case i4 => rfl); (case i5 => exact rfl); k_whole; intro i' l1)))
  (k_with "UnrEndW" => k_dflt (refine' unrw_end ?zF ?zN ?zl ?zI ?zs ?zk ?_; (case zF => assumption); (case zl => with_reducible assumption); (case zN => assumption); (case zI => walk_at "mine mem"); (case zs => walk_at "mine sub"); (case zk => exact ⟨List.mem_cons_self .., trivial⟩)))
  (k_with "subscriptTail Name Constant ref int" => (k_here; (with_reducible show wpAny _ _ (subscriptTail _ _ (Value.ref _) (Value.int _ _)) _ _ _); k_dflt (refine' item_tupleT ?zt ?za ?zb ?zc ?zd ?_; (case zt => exact News.isTup (by assumption) (by walk_at "mine mem")); (case za => decide); (case zb => decide); (case zc => rfl); (case zd => rfl); k_whole)))
  (k_with "subscriptTail Call" => (k_here; (with_reducible show wpAny _ _ (subscriptTail _ _ (Value.ref _) (Value.int _ _)) _ _ _); k_dflt (refine' item_tupleT ?zt ?za ?zb ?zc ?zd ?_; (case zt => exact News.isTup (by assumption) (by walk_at "mine mem")); (case za => decide); (case zb => decide); (case zc => rfl); (case zd => rfl); k_whole)))
  (k_with "execs cons" => ((with_reducible show wpAny _ _ (execs (Stmt.Assign [PySem.Expr.Name (PySem.Str.ofString "day") _] _ _ :: _) _) _ _ _); refine hold_intro ?_))
  exact trivial
theorem pday1 {x : Int} (h : x = 1) : (pmo x == 1 && pdy x == 1) = true := by subst h; decide
theorem pdayL {x z : Int} (h1 : 365 ≤ x) (h2 : x ≤ 366) (hz : z = x - 336) : (pmo x == 12 && pdy x == z) = true := by
  have e : x = 365 ∨ x = 366 := by omega
  rcases e with rfl | rfl <;> subst hz <;> decide
theorem pmd1 : pmd 1 = 0 := by decide
theorem pmd12 : pmd 12 = 336 := by decide
theorem ldX {M : Model} {A : Around} {E : Value → Shared → Prop} {s : Shared} {h₀ : Heap} {L a : Addr} {m : Str → Option Value} {cn : Str} {cs : Scope} {ccd : Value} {cl : List (Str × Addr)} {x : Str} {v : Value} {Q : Value → Shared → Prop} (F : Fr h₀ L s.heap m) (hv : m x = some v) (h : Q v s)
    (hk : cs.kind = .function := by rfl) (hx : (envX cn cs L a ccd cl).kindOf x = some .local := by rfl) : wpAny M A (loadName (envX cn cs L a ccd cl) x) Q E s := wpAny_loadName_local hk hx F.ns hv h
theorem words22 : True := by
  (k_with "loadName" => (k_here; k_dflt (refine' ldX ?F ?v ?_ ?a ?b; (case F => with_reducible assumption); (case a => rfl); (case b => rfl); (case v => first | rfl | assumption); k_whole)))
  exact trivial
theorem words23 : True := by
  (k_with "mine carried" => ((repeat' (first | exact carried_none _ | exact ke_carried (by with_reducible assumption) | refine carried_append ?_ ?_)); done))
  exact trivial
theorem fmodb (a : Int) {d : Int} (h : 0 < d) : 0 ≤ a.fmod d ∧ a.fmod d < d := by
  rw [Int.fmod_eq_emod_of_nonneg a (by omega)]
  exact ⟨Int.emod_nonneg a (by omega), Int.emod_lt_of_pos a h⟩
theorem reads_as {h : Heap} {v : Value} {d d' : PyData} {as : List Addr} (r : Reads h v d as) (e : d = d') : ∃ as, Reads h v d' as := ⟨as, e ▸ r⟩
/-- the first rows: the first one, and j of seven days -/
def rowsD (col : Int) (j : Nat) : List PyData := .list (List.replicate col.toNat PyData.none ++ (rangeKs 1 (8 - col - 1).toNat).map PyData.int) :: (List.range j).map fun i : Nat => .list ((rangeKs (8 - col + 7 * (i : Int)) 7).map PyData.int)
def tailD (col ml : Int) (j : Nat) : PyData := .list ((rangeKs (8 - col + 7 * (j : Int)) (ml + 1 - (8 - col + 7 * (j : Int))).toNat).map PyData.int ++ List.replicate (8 - col + 7 * (j : Int) + 6 - ml).toNat PyData.none)
theorem leaf_grid {col ml : Int} {j : Nat} (h0 : 0 ≤ col) (h6 : col ≤ 6) (h1 : 29 ≤ ml) (h2 : ml ≤ 31) (h3 : 8 - col + 7 * (j : Int) - 1 ≤ ml) (h4 : ¬ 8 - col + 7 * (j : Int) + 6 ≤ ml) :
    (8 - col + 7 * (j : Int) ≤ ml → PyData.list (rowsD col j ++ [tailD col ml j]) = gridD col.toNat ml) ∧ (¬ 8 - col + 7 * (j : Int) ≤ ml → PyData.list (rowsD col j) = gridD col.toNat ml) := by
  have hj : j = 3 ∨ j = 4 := by omega
  have hc : col = 0 ∨ col = 1 ∨ col = 2 ∨ col = 3 ∨ col = 4 ∨ col = 5 ∨ col = 6 := by omega
  have hm : ml = 29 ∨ ml = 30 ∨ ml = 31 := by omega
  clear h0 h6 h1 h2
  rcases hj with rfl | rfl <;> rcases hc with rfl | rfl | rfl | rfl | rfl | rfl | rfl <;> rcases hm with rfl | rfl | rfl
  all_goals first
    | exact absurd h3 (by decide)
    | exact absurd (show _ from by decide) h4
    | exact ⟨fun _ => rfl, fun h => absurd (by decide) h⟩
    | exact ⟨fun h => absurd h (by decide), fun _ => rfl⟩
abbrev RdAll (vs : List Value) (ds : List PyData) (nw : List (Addr × Obj)) : Prop := ∀ h₁ L₁ h, News h₁ L₁ h nw → ∃ as, ReadsAll h vs ds as
theorem reads_snoc {h : Heap} : ∀ {vs : List Value} {ds : List PyData} {as bs : List Addr} {v : Value} {d : PyData}, ReadsAll h vs ds as → Reads h v d bs → ∃ cs, ReadsAll h (vs ++ [v]) (ds ++ [d]) cs
  | _, _, _, _, _, _, .nil, r => ⟨_, .cons r .nil⟩
  | _, _, _, _, _, _, .cons a b, r => let ⟨_, c⟩ := reads_snoc b r; ⟨_, .cons a c⟩
/-- one more list of what is carried, in a ledger that holds it -/
theorem rd_more {arr : Array Value} {ds : List PyData} {nw : List (Addr × Obj)} {D : Addr} {us : List Value} {es : List PyData} {k : Nat} (h : RdAll arr.toList ds nw) (hc : CarriedAll us es) : RdAll (arr.push (.ref D)).toList (ds ++ [.list es]) ((D, listOf (List.toArray us) k) :: nw) := by
  intro h₁ L₁ g N
  obtain ⟨as, ha⟩ := h h₁ L₁ g fun p hp => N p (List.mem_cons_of_mem _ hp)
  rw [Array.toList_push]
  exact reads_snoc ha (.list (N _ (List.mem_cons_self ..)).1 rfl rfl (hc.reads g))
theorem rowsD_succ (col : Int) (j : Nat) : rowsD col (j + 1) = rowsD col j ++ [.list ((rangeKs (8 - col + 7 * (j : Int)) 7).map PyData.int)] := by
  unfold rowsD
  rw [List.range_succ, List.map_append, List.cons_append]
  rfl
theorem rd_turn {col : Int} {j : Nat} {arr : Array Value} {REST : List (Addr × Obj)} {D : Addr} {vs : List Value} {c : Nat} (hrd : RdAll arr.toList (rowsD col j) REST) (hI : IntsAre vs (rangeKs (8 - col + 7 * (j : Int)) (8 - col + 7 * (j : Int) + 7 - (8 - col + 7 * (j : Int))).toNat)) :
    RdAll (arr.push (.ref D)).toList (rowsD col (j + 1)) ((D, listOf (List.toArray vs) c) :: REST) := by
  rw [rowsD_succ]
  rw [show (8 - col + 7 * (j : Int) + 7 - (8 - col + 7 * (j : Int))).toNat = 7 by omega] at hI
  exact rd_more hrd (ke_carried hI)
theorem news_swap {h₀ h : Heap} {L : Addr} {a b : Addr × Obj} {r : List (Addr × Obj)} (N : News h₀ L h (a :: b :: r)) : News h₀ L h (b :: a :: r) := fun p hp => N p (by
  rcases List.mem_cons.mp hp with e | hp
  · exact e ▸ List.mem_cons_of_mem _ (List.mem_cons_self ..)
  · rcases List.mem_cons.mp hp with e | hp
    · exact e ▸ List.mem_cons_self ..
    · exact List.mem_cons_of_mem _ (List.mem_cons_of_mem _ hp))
def LeafJ (col ml : Int) (ra : Addr) (news : List (Addr × Obj)) (n : Nat) (m : Str → Option Value) (news' : List (Addr × Obj)) : Prop :=
  ∃ j : Nat, j + n = 5 ∧ 8 - col + 7 * (j : Int) - 1 ≤ ml ∧ (∃ t, m (Str.ofString "number") = some (.int (8 - col + 7 * (j : Int)) t)) ∧ (∃ t, m (Str.ofString "days") = some (.int ml t)) ∧ m (Str.ofString "rows") = some (.ref ra) ∧
    ∃ arr c REST, news' = (ra, listOf arr c) :: REST ∧ (∀ p ∈ REST, p.1 ≠ ra) ∧ (∀ q ∈ news, q ∈ REST) ∧ arr.size ≤ j + 1 ∧ RdAll arr.toList (rowsD col j) REST
local macro_rules | `(tactic| k_all) => `(tactic| with_reducible assumption)
theorem words24 : True := by
  (k_with "exec While Compare" => ((with_reducible show wpAny _ _ (exec (Stmt.While (PySem.Expr.Compare (PySem.Expr.BinOp _ _ _ _) [CmpOp.LtE] _ _) _ _ _) _) _ _ _); refine hold_intro ?_))
  exact trivial
set_option maxRecDepth 100000 in
set_option maxHeartbeats 8000000 in
theorem leaf_cl (w : World) (news : List (Addr × Obj)) (col ml : Int) (t1 t2 : Tok) (h0 : 0 ≤ col) (h6 : col ≤ 6) (h1 : 29 ≤ ml) (h2 : ml ≤ 31) : ClG w 12 141 news [.int col t1, .int ml t2] (gridD col.toNat ml) := by
  intro p loose mean mg mb dp un gd cn cs a ccd cl outer A₀ base h₀ L m s Q E B F X N T hk hdp hun hret
  refine wpAny_call ?_
  k_dflt cell_enter
  k_steps
  unfold Hold
  refine' whl_down (n0 := 5) (LeafJ col ml _ news) ?hE (by assumption) (by assumption) ?h0 ?_
  case hE => passes_own
  case h0 =>
    refine ⟨0, rfl, by omega, ⟨_, by rw [show 8 - col + 7 * ((0 : Nat) : Int) = 8 - col by omega]; rfl⟩, ⟨_, by rfl⟩, by rfl, _, _, _, rfl, by k_all, by walk_at "mine sub", Nat.le_refl _, fun h₁ L₁ g N => ?_⟩
    exact ⟨_, .cons (.list (N _ (List.mem_cons_self ..)).1 rfl rfl (CarriedAll.reads g (by walk_at "mine carried"))) .nil⟩
  intro n m' news' h' tk' hJ F N
  obtain ⟨j, hjn, hj, ⟨tn', mN⟩, ⟨tdy, mDy⟩, mR, arr, c, REST, rfl, hra, hsub, hsz, hrd⟩ := hJ
  dsimp only [envOf] at F N
  have hsz9 : arr.size + 1 ≤ sizeLine := Nat.le_trans (show arr.size + 1 ≤ 100 by omega) (by decide)
  k_steps
  · refine' ⟨n - 1, _, _, _, _, by omega, rfl, ?zF, ?zN, ?zJ⟩
    case zF => assumption
    case zN => exact news_swap (by with_reducible assumption)
    case zJ => exact ⟨j + 1, by omega, by omega, ⟨_, by rw [show 8 - col + 7 * ((j + 1 : Nat) : Int) = 8 - col + 7 * (j : Int) + 7 by omega]; rfl⟩, ⟨_, mDy⟩, mR, _, _, _, rfl, List.forall_mem_cons.mpr ⟨by k_ne, hra⟩, by walk_at "mine sub", by rw [Array.size_push]; omega, rd_turn hrd (by with_reducible assumption)⟩
  · refine' hret _ _ _ _ ?zF ?zN ?zs ?zr
    case zF => with_reducible assumption
    case zN => with_reducible assumption
    case zs => walk_at "mine sub"
    case zr =>
      intro h₁ L₁ h'' N₁
      obtain ⟨as, ha⟩ := hrd _ _ h'' (fun p hp => N₁ p ((by walk_at "mine sub" : ∀ p ∈ REST, p ∈ _) p hp))
      have hc := CarriedAll.reads h'' (carried_append (ke_carried (by assumption : IntsAre _ (rangeKs (8 - col + 7 * (j : Int)) (ml + 1 - (8 - col + 7 * (j : Int))).toNat))) (carried_none (8 - col + 7 * (j : Int) + 6 - ml).toNat))
      obtain ⟨cs, hd⟩ := reads_snoc ha (Reads.list (News.get N₁ (List.mem_cons_self ..)) rfl rfl hc)
      exact reads_as (Reads.list (News.get N₁ (by walk_at "mine mem")) rfl rfl (by rw [Array.toList_push]; exact hd)) ((leaf_grid h0 h6 h1 h2 hj (by with_reducible assumption)).1 (by with_reducible assumption))
  · refine' hret _ _ _ _ ?zF ?zN ?zs ?zr
    case zF => with_reducible assumption
    case zN => with_reducible assumption
    case zs => walk_at "mine sub"
    case zr =>
      intro h₁ L₁ h'' N₁
      obtain ⟨as, ha⟩ := hrd _ _ h'' (fun p hp => N₁ p ((by walk_at "mine sub" : ∀ p ∈ REST, p ∈ _) p hp))
      exact reads_as (Reads.list (News.get N₁ (by walk_at "mine mem")) rfl rfl ha) ((leaf_grid h0 h6 h1 h2 hj (by with_reducible assumption)).2 (by with_reducible assumption))
def gridOk (lp m : Nat) : Bool := PySem.SeqAt.shaped (gridD lp ((m : Int) + 29)) && PyData.eqv (gridD lp ((m : Int) + 29)) (gridD lp ((m : Int) + 29))
theorem gridOks : ∀ lp, lp < 7 → ∀ m, m < 3 → gridOk lp m = true := by decide +kernel
/-- a month's rows: they may be compared, and are what they are -/
theorem grid_ok {lp : Nat} {ml : Int} (h0 : lp ≤ 6) (h1 : 29 ≤ ml) (h2 : ml ≤ 31) : PySem.SeqAt.shaped (gridD lp ml) = true ∧ PyData.eqv (gridD lp ml) (gridD lp ml) = true := by
  obtain ⟨m, hm⟩ := Int.eq_ofNat_of_zero_le (show 0 ≤ ml - 29 by omega)
  have e : ml = (m : Int) + 29 := by omega
  have k := gridOks lp (by omega) m (by omega)
  unfold gridOk at k
  rw [← e, Bool.and_eq_true] at k
  exact k
theorem words25 : True := by
  (k_with "call ref" => (k_here; k_dflt (refine' Cl.use ?k1 ?k2 ?k3 ?k4 ?k5 (mlen_cl _ _ _ _ ?kH _ _ _ _ ?r1 ?r2 ?m1 ?m2) ?kK ?kd ?ku ?_; walk_at "mine use"; (case kH => exact TurnCl.more (by with_reducible assumption) (by walk_at "mine sub")); (case r1 => with_reducible assumption); (case r2 => with_reducible assumption); (case m1 => omega); (case m2 => omega); intro t9 h9 tk9 F9 N9; (try dsimp only); (try k_fold))))
  (k_with "call ref" => (k_here; k_dflt (refine' Cl.use ?k1 ?k2 ?k3 ?k4 ?k5 (topjd_cl _ _ _ _ ?kH _ _ _ _ _ _ ?kp) ?kK ?kd ?ku ?_; walk_at "mine use"; (case kp => with_reducible assumption); (case kH => exact TurnCl.more (by with_reducible assumption) (by walk_at "mine sub")); intro t9 h9 tk9 F9 N9; (try dsimp only); (try k_fold))))
  (k_with "call ref" => (k_here; k_dflt (refine' Cl.use ?k1 ?k2 ?k3 ?k4 ?k5 (jwday_cl _ _ _ _) ?kK ?kd ?ku ?_; walk_at "mine use"; intro t9 h9 tk9 F9 N9; (try dsimp only); (try k_fold))))
  (k_with "call ref" => ((with_reducible show wpAny _ _ (call (Value.ref 33) _) _ _ _); refine hold_intro ?_))
  exact trivial
theorem mlen_range (tn : Int → Int) (y mo : Int) : 29 ≤ mlen tn y mo ∧ mlen tn y mo ≤ 31 := by
  unfold mlen
  repeat' split
  all_goals omega
set_option maxRecDepth 100000 in
set_option maxHeartbeats 8000000 in
theorem mcal_cl (w : World) (news : List (Addr × Obj)) (f : Addr) (tn : Int → Int) (H : TurnCl w f news tn) (y mo : Int) (t1 t2 : Tok) (hr1 : Reach tn y) (hr2 : Reach tn (y + 1)) (m1 : 1 ≤ mo) (m2 : mo ≤ 12) :
    ClG w 44 120 news [.int y t1, .int mo t2, .ref f] (gridD (((tn (y + 621) - 1 + pmd mo + 1).fmod 7 + 1).fmod 7).toNat (mlen tn y mo)) := by
  intro p loose mean mg mb dp un gd cn cs a ccd cl outer A₀ base h₀ L m s Q E B F X N T hk hdp hun hret
  refine wpAny_call ?_
  k_dflt cell_enter
  k_steps
  unfold Hold
  have hm := mlen_range tn y mo
  k_dflt (refine' ClG.use ?k1 ?k2 ?k3 ?k4 ?k5 (helper_cl _ _ _ _ _ _ hm.1 hm.2) ?kK ?kd ?ku ?_; walk_at "mine use")
  intro q h' tk' news' F' N' hsub hr
  exact ⟨_, _, _, F', N', fun kF kN => hret q h' tk' news' kF kN hsub hr⟩
def DateAt (news : List (Addr × Obj)) (dq : Addr) (k mo d : Int) : Prop := ∃ t1 t2 t3, (dq, tupOf [.int k t1, .int mo t2, .int d t3]) ∈ news
theorem to12 {P : Int → Prop} (h : ∀ n : Nat, n < 12 → P (n : Int)) {z : Int} (h0 : 0 ≤ z) (h1 : z < 12) : P z := by
  obtain ⟨n, rfl⟩ := Int.eq_ofNat_of_zero_le h0
  exact h n (by omega)
theorem sum_take {z x : Int} (h0 : 0 ≤ z) (h1 : z < 12) : (List.take (1 + z - 1).toNat [31, 31, 31, 31, 31, 31, 30, 30, 30, 30, 30, x]).sum = pmd (1 + z) :=
  to12 (P := fun z => (List.take (1 + z - 1).toNat [31, 31, 31, 31, 31, 31, 30, 30, 30, 30, 30, x]).sum = pmd (1 + z)) (fun n hn => match n, hn with
    | 0, _ | 1, _ | 2, _ | 3, _ | 4, _ | 5, _ | 6, _ | 7, _ | 8, _ | 9, _ | 10, _ | 11, _ => rfl) h0 h1
theorem mlen_at {tn : Int → Int} {y z x : Int} (h : 365 ≤ tn (y + 1 + 621) - tn (y + 621) ∧ tn (y + 1 + 621) - tn (y + 621) ≤ 366) (hx : x = tn (y + 1 + 621) - tn (y + 621) - 336) (h0 : 0 ≤ z) (h1 : z < 12) : [31, 31, 31, 31, 31, 31, 30, 30, 30, 30, 30, x].getD (1 + z - 1).toNat 0 = mlen tn y (1 + z) := by
  have f : x = mlen tn y 12 := by
    unfold mlen lpB
    rw [if_neg (by decide), if_neg (by decide)]
    by_cases g : 365 < tn (y + 1 + 621) - tn (y + 621)
    · rw [if_pos (decide_eq_true g)]; omega
    · rw [if_neg (by rw [decide_eq_false g]; decide)]; omega
  clear h hx
  exact to12 (P := fun z => [31, 31, 31, 31, 31, 31, 30, 30, 30, 30, 30, x].getD (1 + z - 1).toNat 0 = mlen tn y (1 + z)) (fun n hn => match n, hn with
    | 0, _ | 1, _ | 2, _ | 3, _ | 4, _ | 5, _ | 6, _ | 7, _ | 8, _ | 9, _ | 10, _ => rfl
    | 11, _ => f) h0 h1
theorem col_eq {fi S P : Int} (h : S = P) : ((fi - 1 + P + 1).fmod 7 + 1).fmod 7 = (fi + S + 1).fmod 7 := by
  subst h
  simp only [Int.fmod_eq_emod_of_nonneg _ (show (0 : Int) ≤ 7 by decide)]
  omega
theorem words26 : True := by
  (k_with "call ref" => ((with_reducible show wpAny _ _ (call (Value.ref 120) _) _ _ _); refine hold_intro ?_))
  (k_with "call ref" => ((with_reducible show wpAny _ _ (call (Value.ref 141) _) _ _ _); refine hold_intro ?_))
  (k_with "compareOp Eq ref ref" => (refine hold_intro ?_))
  exact trivial
set_option maxRecDepth 100000 in
set_option maxHeartbeats 8000000 in
theorem seg7 (w : World) (fa cN cB cY cT D ln ft q : Addr) (b y ch fi be : Int) (ns nums : List Int) (tn : Int → Int) (R : RowOk tn b ns) (hc0 : 0 ≤ ch) (hc1 : ch ≤ 8) (hy : y = b + ch) (hfi : fi = tn (y + 621)) (hbe : be = tn (y + 1 + 621)) :
    Seg w 23 fa cN cB cY cT D ln ft b y ns nums tn (fun m => m (Str.ofString "numbers") = some (.ref D) ∧ m (Str.ofString "lengths") = some (.ref q) ∧ (∃ t, m (Str.ofString "first") = some (.int fi t))) (fun news => LenAt news q (be - fi - 336)) := by
  intro p loose mean mg mb dp un gd outer A₀ base h₀ L m news news₀ s Q E B F X N T hdp hun hPO hM hL hq H hs hQ
  obtain ⟨mD, mQ, ⟨tf, mF⟩⟩ := hM
  have hL' := hL
  obtain ⟨⟨oN, lN, dN⟩, ⟨oB, ttB, lB, dB⟩, ⟨oY, tY, lY, dY⟩, ⟨oT, lT, dT⟩, ⟨vs, cc, ll, hI⟩, ⟨ws, cd, ld, hJ⟩, hnl⟩ := hL
  obtain ⟨xs, lq, hK⟩ := hq
  have hsz := R.size
  show wpAny _ _ (execs (_ :: _) _) _ _ _
  refine wpAny_execs_cons ?_
  k_steps
  unfold Hold
  have hf := fmodb (nums.getD (Int.toNat 5) 0) (d := 12) (by decide)
  have hy1 : Reach tn y := R.reach y (by omega) (by omega)
  have hy2 : Reach tn (y + 1) := R.reach (y + 1) (by omega) (by omega)
  k_dflt (refine' ClG.use ?k1 ?k2 ?k3 ?k4 ?k5 (mcal_cl w _ ft tn ?kH y (1 + (nums.getD (Int.toNat 5) 0).fmod 12) _ _ hy1 hy2 (by omega) (by omega)) ?kK ?kd ?ku ?_; walk_at "mine use"; (case kH => exact H.more (by walk_at "mine sub")))
  intro q1 h1 tk1 nw1 F1 N1 sub1 rd1
  have lq1 := sub1 _ (List.mem_cons_of_mem _ lq)
  k_steps
  unfold Hold
  have e1 := sum_take (x := be - fi - 336) hf.1 hf.2
  have e2 := mlen_at (x := be - fi - 336) (R.len' y) (by omega) hf.1 hf.2
  have e3 := mlen_range tn y (1 + (nums.getD (Int.toNat 5) 0).fmod 12)
  have e4 := col_eq (fi := fi) e1
  rw [← e2] at e3
  have hc := fmodb (fi + (List.take (1 + (nums.getD (Int.toNat 5) 0).fmod 12 - 1).toNat [31, 31, 31, 31, 31, 31, 30, 30, 30, 30, 30, be - fi - 336]).sum + 1) (show (0 : Int) < 7 by decide)
  k_dflt (refine' ClG.use ?k1 ?k2 ?k3 ?k4 ?k5 (leaf_cl w _ _ _ _ _ hc.1 (Int.le_of_lt_add_one hc.2) e3.1 e3.2) ?kK ?kd ?ku ?_; walk_at "mine use")
  intro q2 h2 tk2 nw2 F2 N2 sub2 rd2
  k_steps
  unfold Hold
  obtain ⟨as, r1⟩ := rd1 _ _ _ (fun p hp => N2 p (sub2 p hp))
  obtain ⟨bs, r2⟩ := rd2 _ _ _ N2
  rw [← e2, ← hfi, e4] at r1
  have hg := grid_ok (lp := ((fi + (List.take (1 + (nums.getD (Int.toNat 5) 0).fmod 12 - 1).toNat [31, 31, 31, 31, 31, 31, 30, 30, 30, 30, 30, be - fi - 336]).sum + 1).fmod 7).toNat) (by omega) e3.1 e3.2
  k_dflt (refine eq_dataH r1 r2 hg.1 hg.1 (by ke_room) ?_)
  generalize hv : PyData.eqv _ _ = v
  obtain rfl : v = true := hv.symm.trans hg.2
  exact hQ h2 tk2 _ nw2 F2 N2 fun p hp => sub2 p (sub1 p (List.mem_cons_of_mem _ (hs p hp)))
theorem walkedG_cl (w : World) (news : List (Addr × Obj)) (day : Int) (t : Tok) : ClT w 12 134 news [.int day t] (fun t1 t2 t3 => [.int (gyF day) t1, .int (gmF day) t2, .int (gdF day) t3]) := by
  have g := greg day
  have h := walked_cl w news day (gyF day) t g.lo g.hi g.guess g.before
  rw [g.mon, g.dom] at h
  exact h
theorem words27 : True := by
  (k_with "call ref" => (k_here; k_dflt (refine' ClT.use ?k1 ?k2 ?k3 ?k4 ?k5 (walkedG_cl _ _ _ _) ?kK ?kd ?ku ?_; walk_at "mine use"; intro t9 u9 v9 q9 h9 tk9 F9 N9; (try dsimp only); (try k_fold))))
  (k_with "call ref" => (k_here; k_dflt (refine' ClT.use ?k1 ?k2 ?k3 ?k4 ?k5 (fromgreg_cl _ _ _ _ ?kH _ _ _ _ _ _ _ ?ko ?kp) ?kK ?kd ?ku ?_; (case ko => with_reducible assumption); (case kp => with_reducible assumption); walk_at "mine use"; (case kH => exact TurnCl.more (by with_reducible assumption) (by walk_at "mine sub")); intro t9 u9 v9 q9 h9 tk9 F9 N9; (try dsimp only); (try k_fold))))
  (k_with "call ref" => (k_here; k_dflt (refine' ClT.use ?k1 ?k2 ?k3 ?k4 ?k5 (togreg_cl _ _ _ _ ?kH _ _ _ _ _ _ ?kp) ?kK ?kd ?ku ?_; (case kp => exact RowOk.reach (by with_reducible assumption) _ (by omega) (by omega)); walk_at "mine use"; (case kH => exact TurnCl.more (by with_reducible assumption) (by walk_at "mine sub")); intro t9 u9 v9 q9 h9 tk9 F9 N9; (try dsimp only); (try k_fold))))
  (k_with "execs cons" => ((with_reducible show wpAny _ _ (execs (Stmt.Assign [PySem.Expr.Name (PySem.Str.ofString "month") _] (PySem.Expr.BinOp _ _ _ _) _ :: _) _) _ _ _); refine hold_intro ?_))
  exact trivial
set_option maxRecDepth 100000 in
set_option maxHeartbeats 8000000 in
theorem seg6 (w : World) (fa cN cB cY cT D ln ft q dq : Addr) (b y ch fi be day one mo r : Int) (ns nums : List Int) (tn : Int → Int) (R : RowOk tn b ns) (hc0 : 0 ≤ ch) (hc1 : ch ≤ 8) (hy : y = b + ch) (hfi : fi = tn (y + 621)) (hbe : be = tn (y + 1 + 621)) (ho0 : 0 ≤ one) (ho1 : one ≤ 9) (hd0 : tn (b + one + 621) ≤ day) (hd1 : day < tn (b + one + 621 + 1))
    (hmo : pmo (day - (tn (b + one + 621) - 1)) = mo ∧ pdy (day - (tn (b + one + 621) - 1)) = r + 1 ∧ tn (b + one + 621) - 1 + pmd mo + (r + 1) = day) :
    Seg w 20 fa cN cB cY cT D ln ft b y ns nums tn (fun m => m (Str.ofString "numbers") = some (.ref D) ∧ m (Str.ofString "lengths") = some (.ref q) ∧ (∃ t, m (Str.ofString "first") = some (.int fi t)) ∧ (∃ t, m (Str.ofString "day") = some (.int day t)) ∧ m (Str.ofString "date") = some (.ref dq)) (fun news => LenAt news q (be - fi - 336) ∧ DateAt news dq (b + one) mo (r + 1)) := by
  intro p loose mean mg mb dp un gd outer A₀ base h₀ L m news news₀ s Q E B F X N T hdp hun hPO hM hL hq H hs hQ
  obtain ⟨mD, mQ, ⟨tf, mF⟩, ⟨td, mDay⟩, mDate⟩ := hM
  have hL' := hL
  obtain ⟨hq, ⟨e1, e2, e3, hdq⟩⟩ := hq
  obtain ⟨⟨oN, lN, dN⟩, ⟨oB, ttB, lB, dB⟩, ⟨oY, tY, lY, dY⟩, ⟨oT, lT, dT⟩, ⟨vs, cc, ll, hI⟩, ⟨ws, cd, ld, hJ⟩, hnl⟩ := hL
  obtain ⟨xs, lq, hK⟩ := hq
  have hsz := R.size
  have G := greg day
  have hok := G.ok
  have hA : At tn (gjd (gyF day) (gmF day) (gdF day)) (b + one) := by rw [G.back]; exact R.at_ (b + one) day (by omega) (by omega) hd0 hd1
  have g1 : (pmo (gjd (gyF day) (gmF day) (gdF day) - (tn (b + one + 621) - 1)) == mo && pdy (gjd (gyF day) (gmF day) (gdF day) - (tn (b + one + 621) - 1)) == r + 1) = true := by rw [G.back, hmo.1, hmo.2.1]; simp
  have g2 : (gyF (tn (b + one + 621) - 1 + pmd mo + (r + 1)) == gyF day && (gmF (tn (b + one + 621) - 1 + pmd mo + (r + 1)) == gmF day && gdF (tn (b + one + 621) - 1 + pmd mo + (r + 1)) == gdF day)) = true := by rw [hmo.2.2]; simp
  show wpAny _ _ (execs (_ :: _) _) _ _ _
  k_steps
  all_goals first
    | exact absurd (g1.symm.trans (by with_reducible assumption)) (by decide)
    | exact absurd (g2.symm.trans (by with_reducible assumption)) (by decide)
    | skip
  unfold Hold
  refine' seg7 w fa cN cB cY cT D ln ft q b y ch fi be ns nums tn R hc0 hc1 hy hfi hbe p loose mean mg mb dp un gd outer A₀ base h₀ L _ _ news₀ _ Q E B (by with_reducible assumption) X (by with_reducible assumption) T hdp hun hPO ?zm (hL'.more (by walk_at "mine sub")) ⟨_, by walk_at "mine asm", hK⟩ (H.more (by walk_at "mine sub")) ?zs hQ
  case zm => exact ⟨mD, mQ, ⟨tf, mF⟩⟩
  case zs => exact fun q hq => (by walk_at "mine sub" : ∀ p ∈ news, p ∈ _) q (hs q hq)
theorem words28 : True := by
  (k_with "execs cons" => ((with_reducible show wpAny _ _ (execs (Stmt.Assign [PySem.Expr.Name (PySem.Str.ofString "there") _] _ _ :: _) _) _ _ _); refine hold_intro ?_))
  exact trivial
set_option maxRecDepth 100000 in
set_option maxHeartbeats 8000000 in
theorem seg5 (w : World) (fa cN cB cY cT D ln ft q : Addr) (b y ch fi be day one mo r : Int) (ns nums : List Int) (tn : Int → Int) (R : RowOk tn b ns) (hc0 : 0 ≤ ch) (hc1 : ch ≤ 8) (hy : y = b + ch) (hfi : fi = tn (y + 621)) (hbe : be = tn (y + 1 + 621)) (ho0 : 0 ≤ one) (ho1 : one ≤ 9) (hd0 : tn (b + one + 621) ≤ day) (hd1 : day < tn (b + one + 621 + 1))
    (hmo : pmo (day - (tn (b + one + 621) - 1)) = mo ∧ pdy (day - (tn (b + one + 621) - 1)) = r + 1 ∧ tn (b + one + 621) - 1 + pmd mo + (r + 1) = day) :
    Seg w 18 fa cN cB cY cT D ln ft b y ns nums tn (fun m => m (Str.ofString "numbers") = some (.ref D) ∧ m (Str.ofString "lengths") = some (.ref q) ∧ (∃ t, m (Str.ofString "first") = some (.int fi t)) ∧ (∃ t, m (Str.ofString "behind") = some (.int be t)) ∧ (∃ t, m (Str.ofString "day") = some (.int day t)) ∧ (∃ t, m (Str.ofString "one") = some (.int one t)) ∧ (∃ t, m (Str.ofString "month") = some (.int mo t)) ∧ (∃ t, m (Str.ofString "rest") = some (.int r t))) (fun news => LenAt news q (be - fi - 336)) := by
  intro p loose mean mg mb dp un gd outer A₀ base h₀ L m news news₀ s Q E B F X N T hdp hun hPO hM hL hq H hs hQ
  obtain ⟨mD, mQ, ⟨tf, mF⟩, ⟨tb, mB⟩, ⟨td, mDay⟩, ⟨to, mOne⟩, ⟨tm, mMo⟩, ⟨tr, mRe⟩⟩ := hM
  have hL' := hL
  have hq' := hq
  obtain ⟨⟨oN, lN, dN⟩, ⟨oB, ttB, lB, dB⟩, ⟨oY, tY, lY, dY⟩, ⟨oT, lT, dT⟩, ⟨vs, cc, ll, hI⟩, ⟨ws, cd, ld, hJ⟩, hnl⟩ := hL
  obtain ⟨xs, lq, hK⟩ := hq
  have hsz := R.size
  have hA : At tn day (b + one) := R.at_ (b + one) day (by omega) (by omega) hd0 hd1
  have g1 : (pmo (day - (tn (b + one + 621) - 1)) == mo && pdy (day - (tn (b + one + 621) - 1)) == r + 1) = true := by rw [hmo.1, hmo.2.1]; simp
  have g2 := hmo.2.2
  show wpAny _ _ (execs (_ :: _) _) _ _ _
  refine wpAny_execs_cons ?_
  k_steps
  all_goals first
    | exact absurd (g1.symm.trans (by with_reducible assumption)) (by decide)
    | (exfalso; omega)
    | skip
  unfold Hold
  refine' seg6 w fa cN cB cY cT D ln ft q _ b y ch fi be day one mo r ns nums tn R hc0 hc1 hy hfi hbe ho0 ho1 hd0 hd1 hmo p loose mean mg mb dp un gd outer A₀ base h₀ L _ _ news₀ _ Q E B (by with_reducible assumption) X (by with_reducible assumption) T hdp hun hPO ?zm (hL'.more (by walk_at "mine sub")) ⟨⟨_, by walk_at "mine asm", hK⟩, ?zl⟩ (H.more (by walk_at "mine sub")) ?zs hQ
  case zm => exact ⟨mD, mQ, ⟨tf, mF⟩, ⟨td, mDay⟩, by rfl⟩
  case zl => exact ⟨_, _, _, by walk_at "mine mem"⟩
  case zs => exact fun q hq => (by walk_at "mine sub" : ∀ p ∈ news, p ∈ _) q (hs q hq)
theorem words29 : True := by
  (k_with "execs cons" => ((with_reducible show wpAny _ _ (execs (Stmt.Assign [PySem.Expr.Name (PySem.Str.ofString "date") _] _ _ :: _) _) _ _ _); refine hold_intro ?_))
  (k_with "exec For Name List cons nil" => (k_here; k_dflt (refine' For_invVF ?zF ?zx ?zp ?_ ?zs ?zE; (case zF => k_asm); (case zx => exact rfl); (case zp => exact rfl); (case zs => (intro _; rfl)); (case zE => first | with_reducible assumption | passes_own); k_whole)))
  exact trivial
def runOk (n : Nat) : Bool := pmo ((n : Int) + 1) == (walkL [31, 31, 31, 31, 31, 31, 30, 30, 30, 30, 30] (n : Int) 1).2 && pdy ((n : Int) + 1) == (walkL [31, 31, 31, 31, 31, 31, 30, 30, 30, 30, 30] (n : Int) 1).1 + 1 && pmd (walkL [31, 31, 31, 31, 31, 31, 30, 30, 30, 30, 30] (n : Int) 1).2 + (walkL [31, 31, 31, 31, 31, 31, 30, 30, 30, 30, 30] (n : Int) 1).1 == (n : Int)
theorem run366 : ∀ n, n < 366 → runOk n = true := by decide +kernel
theorem end_run {bs day mo r : Int} (h0 : bs ≤ day) (h1 : day < bs + 366) (hT : (r, mo) = walkL [31, 31, 31, 31, 31, 31, 30, 30, 30, 30, 30] (day - bs) 1) : pmo (day - (bs - 1)) = mo ∧ pdy (day - (bs - 1)) = r + 1 ∧ bs - 1 + pmd mo + (r + 1) = day := by
  have k := run366 (day - bs).toNat (by omega)
  unfold runOk at k
  rw [show (((day - bs).toNat : Nat) : Int) = day - bs by omega, ← hT] at k
  simp only [Bool.and_eq_true, beq_iff_eq] at k
  obtain ⟨⟨k1, k2⟩, k3⟩ := k
  rw [show day - (bs - 1) = day - bs + 1 by omega]
  exact ⟨k1, k2, by omega⟩
set_option maxRecDepth 100000 in
set_option maxHeartbeats 8000000 in
theorem seg4b (w : World) (fa cN cB cY cT D ln ft q : Addr) (b y ch fi be day one : Int) (ns nums : List Int) (tn : Int → Int) (R : RowOk tn b ns) (hc0 : 0 ≤ ch) (hc1 : ch ≤ 8) (hy : y = b + ch) (hfi : fi = tn (y + 621)) (hbe : be = tn (y + 1 + 621)) (ho0 : 0 ≤ one) (ho1 : one ≤ 9) (hd0 : tn (b + one + 621) ≤ day) (hd1 : day < tn (b + one + 621 + 1)) :
    Seg w 15 fa cN cB cY cT D ln ft b y ns nums tn (fun m => m (Str.ofString "numbers") = some (.ref D) ∧ m (Str.ofString "lengths") = some (.ref q) ∧ (∃ t, m (Str.ofString "first") = some (.int fi t)) ∧ (∃ t, m (Str.ofString "behind") = some (.int be t)) ∧ (∃ t, m (Str.ofString "day") = some (.int day t)) ∧ (∃ t, m (Str.ofString "one") = some (.int one t))) (fun news => LenAt news q (be - fi - 336)) := by
  intro p loose mean mg mb dp un gd outer A₀ base h₀ L m news news₀ s Q E B F X N T hdp hun hPO hM hL hq H hs hQ
  obtain ⟨mD, mQ, ⟨tf, mF⟩, ⟨tb, mB⟩, ⟨td, mDay⟩, ⟨to, mOne⟩⟩ := hM
  have hL' := hL
  have hq' := hq
  obtain ⟨⟨oN, lN, dN⟩, ⟨oB, ttB, lB, dB⟩, ⟨oY, tY, lY, dY⟩, ⟨oT, lT, dT⟩, ⟨vs, cc, ll, hI⟩, ⟨ws, cd, ld, hJ⟩, hnl⟩ := hL
  obtain ⟨xs, lq, hK⟩ := hq
  have hsz := R.size
  have e0 := R.item one ho0 (by omega)
  have hlo := R.len (b + one + 621)
  show wpAny _ _ (execs (_ :: _) _) _ _ _
  refine wpAny_execs_cons ?_
  k_steps
  unfold Hold
  refine' loop_two (y := Str.ofString "month") (z := Str.ofString "rest") (T := walkL [31, 31, 31, 31, 31, 31, 30, 30, 30, 30, 30] (day - ns.getD one.toNat 0) 1) ?hi rfl rfl rfl ?_ ?_
  case hi => walk_at "mine ints"
  · intro d t r dr a b' m' hr hT hm it h tk hc F N
    obtain ⟨⟨tb', m1⟩, ⟨ta, m2⟩, m3⟩ := id hm
    have n1 := (m3 (Str.ofString "numbers") (by decide) (by decide) (by decide)).trans mD
    have n2 := (m3 (Str.ofString "lengths") (by decide) (by decide) (by decide)).trans mQ
    have n3 := (m3 (Str.ofString "first") (by decide) (by decide) (by decide)).trans mF
    have n4 := (m3 (Str.ofString "behind") (by decide) (by decide) (by decide)).trans mB
    have n5 := (m3 (Str.ofString "day") (by decide) (by decide) (by decide)).trans mDay
    have n6 := (m3 (Str.ofString "one") (by decide) (by decide) (by decide)).trans mOne
    dsimp only [envX] at F N
    k_steps
    · have hlt := (by with_reducible assumption : a < d)
      rw [walkL_lt hlt, e0] at hT
      unfold Hold
      refine' seg5 w fa cN cB cY cT D ln ft q b y ch fi be day one b' a ns nums tn R hc0 hc1 hy hfi hbe ho0 ho1 hd0 hd1 (end_run hd0 (by omega) hT) p loose mean mg mb dp un gd outer A₀ base h₀ L _ _ news₀ _ Q E B (by with_reducible assumption) X (by with_reducible assumption) T hdp hun hPO ?zm (hL'.more (by walk_at "mine sub")) ?zl (H.more (by walk_at "mine sub")) ?zs hQ
      case zm => exact ⟨n1, n2, ⟨_, n3⟩, ⟨_, n4⟩, ⟨_, n5⟩, ⟨_, n6⟩, ⟨_, m1⟩, ⟨_, m2⟩⟩
      case zl => exact ⟨_, by walk_at "mine asm", hK⟩
      case zs => exact fun q hq => (by walk_at "mine sub" : ∀ p ∈ news, p ∈ _) q (hs q hq)
    · exact loop_end (by assumption) (by assumption) l1 (List.mem_cons_self ..) hr hT hm (by with_reducible assumption) rfl rfl (by decide)
  · intro m' hm h tk F N
    obtain ⟨⟨tb', m1⟩, ⟨ta, m2⟩, m3⟩ := id hm
    have n1 := (m3 (Str.ofString "numbers") (by decide) (by decide) (by decide)).trans mD
    have n2 := (m3 (Str.ofString "lengths") (by decide) (by decide) (by decide)).trans mQ
    have n3 := (m3 (Str.ofString "first") (by decide) (by decide) (by decide)).trans mF
    have n4 := (m3 (Str.ofString "behind") (by decide) (by decide) (by decide)).trans mB
    have n5 := (m3 (Str.ofString "day") (by decide) (by decide) (by decide)).trans mDay
    have n6 := (m3 (Str.ofString "one") (by decide) (by decide) (by decide)).trans mOne
    dsimp only [envX] at F N
    k_steps
    have hT : ((walkL [31, 31, 31, 31, 31, 31, 30, 30, 30, 30, 30] (day - ns.getD one.toNat 0) 1).1, (walkL [31, 31, 31, 31, 31, 31, 30, 30, 30, 30, 30] (day - ns.getD one.toNat 0) 1).2) = walkL [31, 31, 31, 31, 31, 31, 30, 30, 30, 30, 30] (day - tn (b + one + 621)) 1 := by rw [e0]
    unfold Hold
    refine' seg5 w fa cN cB cY cT D ln ft q b y ch fi be day one _ _ ns nums tn R hc0 hc1 hy hfi hbe ho0 ho1 hd0 hd1 (end_run hd0 (by omega) hT) p loose mean mg mb dp un gd outer A₀ base h₀ L _ _ news₀ _ Q E B (by with_reducible assumption) X (by with_reducible assumption) T hdp hun hPO ?zm (hL'.more (by walk_at "mine sub")) ?zl (H.more (by walk_at "mine sub")) ?zs hQ
    case zm => exact ⟨n1, n2, ⟨_, n3⟩, ⟨_, n4⟩, ⟨_, n5⟩, ⟨_, n6⟩, ⟨_, m1⟩, ⟨_, m2⟩⟩
    case zl => exact ⟨_, by walk_at "mine asm", hK⟩
    case zs => exact fun q hq => (by walk_at "mine sub" : ∀ p ∈ news, p ∈ _) q (hs q hq)
theorem words30 : True := by
  (k_with "exec While Compare" => (refine hold_intro ?_))
  (k_with "execs cons" => ((with_reducible show wpAny _ _ (execs (Stmt.Assign [PySem.Expr.Name (PySem.Str.ofString "rest") _] _ _ :: _) _) _ _ _); refine hold_intro ?_))
  (k_with "WhlIf" => k_dflt (refine whlif_both (fun hb => ?_) (fun hb => ?_)))
  exact trivial
set_option maxRecDepth 100000 in
set_option maxHeartbeats 8000000 in
theorem seg4 (w : World) (fa cN cB cY cT D ln ft q : Addr) (b y ch fi be : Int) (ns nums : List Int) (tn : Int → Int) (R : RowOk tn b ns) (hc0 : 0 ≤ ch) (hc1 : ch ≤ 8) (hy : y = b + ch) (hfi : fi = tn (y + 621)) (hbe : be = tn (y + 1 + 621)) :
    Seg w 12 fa cN cB cY cT D ln ft b y ns nums tn (fun m => m (Str.ofString "numbers") = some (.ref D) ∧ m (Str.ofString "lengths") = some (.ref q) ∧ (∃ t, m (Str.ofString "first") = some (.int fi t)) ∧ (∃ t, m (Str.ofString "behind") = some (.int be t))) (fun news => LenAt news q (be - fi - 336)) := by
  intro p loose mean mg mb dp un gd outer A₀ base h₀ L m news news₀ s Q E B F X N T hdp hun hPO hM hL hq H hs hQ
  obtain ⟨mD, mQ, ⟨tf, mF⟩, ⟨tb, mB⟩⟩ := hM
  have hL' := hL
  have hq' := hq
  obtain ⟨⟨oN, lN, dN⟩, ⟨oB, ttB, lB, dB⟩, ⟨oY, tY, lY, dY⟩, ⟨oT, lT, dT⟩, ⟨vs, cc, ll, hI⟩, ⟨ws, cd, ld, hJ⟩, hnl⟩ := hL
  obtain ⟨xs, lq, hK⟩ := hq
  have hsz := R.size
  have hsp := R.span
  show wpAny _ _ (execs (_ :: _) _) _ _ _
  refine wpAny_execs_cons ?_
  k_steps
  unfold Hold
  have hf := fmodb (nums.getD (Int.toNat 4) 0) (d := ns.getD (Int.toNat 10) 0 - ns.getD (Int.toNat 0) 0) (by omega)
  generalize hdv : ns.getD (Int.toNat 0) 0 + (nums.getD (Int.toNat 4) 0).fmod (ns.getD (Int.toNat 10) 0 - ns.getD (Int.toNat 0) 0) = dv at *
  refine' whl_int 9 (fun i => 0 ≤ i ∧ ns.getD i.toNat 0 ≤ dv) 0 _ hPO (by assumption) (by assumption) ⟨by omega, (by show ns.getD (Int.toNat 0) 0 ≤ dv; omega)⟩ (by omega) ?_
  intro i t h tk hP hi F N
  dsimp only [envX] at F N
  obtain ⟨hP0, hP1⟩ := hP
  have e0 := R.item i hP0 (by omega)
  have e1 := R.item (i + 1) (by omega) (by omega)
  rw [show b + (i + 1) + 621 = b + i + 621 + 1 by omega] at e1
  k_steps
  · have hb := of_decide_eq_true (by with_reducible assumption : decide (ns.getD (i + 1).toNat 0 ≤ dv) = true)
    have h9 : i ≠ 9 := fun e => by subst e; have : ns.getD (Int.toNat 10) 0 ≤ dv := hb; omega
    exact whl_next (by assumption) (by assumption) (by omega) (by omega) ⟨by omega, hb⟩
  · have hb := of_decide_eq_false (by with_reducible assumption : decide (ns.getD (i + 1).toNat 0 ≤ dv) = false)
    unfold Hold
    refine' seg4b w fa cN cB cY cT D ln ft q b y ch fi be dv i ns nums tn R hc0 hc1 hy hfi hbe hP0 hi (by omega) (by omega) p loose mean mg mb dp un gd outer A₀ base h₀ L _ _ news₀ _ Q E B (by with_reducible assumption) X (by with_reducible assumption) T hdp hun hPO ?zm (hL'.more (by walk_at "mine sub")) ?zl (H.more (by walk_at "mine sub")) ?zs hQ
    case zm => exact ⟨mD, mQ, ⟨tf, mF⟩, ⟨tb, mB⟩, ⟨_, by rfl⟩, ⟨_, by rfl⟩⟩
    case zl => exact ⟨_, by walk_at "mine asm", hK⟩
    case zs => exact fun q hq => (by walk_at "mine sub" : ∀ p ∈ news, p ∈ _) q (hs q hq)
theorem words31 : True := by
  (k_with "subscriptTail Name Constant ref int" => (k_here; (with_reducible show wpAny _ _ (subscriptTail _ _ (Value.ref _) (Value.int _ _)) _ _ _); k_dflt (refine' item_tupleT ?zt ?za ?zb ?zc ?zd ?_; (case zt => exact News.isTup (by assumption) (by with_reducible assumption)); (case za => decide); (case zb => decide); (case zc => rfl); (case zd => rfl); k_whole)))
  (k_with "assign Tuple" => (k_here; (with_reducible show wpAny _ _ (assign (Expr.Tuple _ _ _) _ (Value.ref _)) _ _ _); k_dflt (refine' unpackN_ ?F ?N ?T ?k1 ?k2 ?k3 ?_; (case F => k_asm); (case N => k_asm); (case T => (refine News.isTup (by k_asm) (by k_mem))); (case k1 => exact rfl); (case k2 => exact rfl); (case k3 => exact rfl)); intro h' F' N'; (try k_sweep)))
  exact trivial
def TurnPost (h₀ : Heap) (L : Addr) (m : Str → Option Value) (news : List (Addr × Obj)) (s : Shared) (f : Flow) (s₂ : Shared) : Prop := f = .next ∧ ∃ h tk news', s₂ = { s with heap := h, toks := tk } ∧ Fr h₀ L h m ∧ News h₀ L h news' ∧ ∀ q ∈ news, q ∈ news'
def seg3B : List Stmt := match (lawBody.drop 11).head? with | some (.For _ _ b _ _) => b | _ => []
set_option maxRecDepth 100000 in
set_option maxHeartbeats 8000000 in
theorem seg3_turn (w : World) (fa cN cB cY cT ft dq : Addr) (dv k mo d : Int) (tn : Int → Int) (p : Program) (loose : List Str) (mean : ExcName → Option Value) (mg mb : Str → Option Value) (dp un : Nat) (gd : Option (List Code)) (outer : List Env) (A₀ : Around) (base h₀ : Heap) (L : Addr) (m : Str → Option Value) (news : List (Addr × Obj)) (s : Shared) (E : Value → Shared → Prop) (oT : Obj) (td t1 t2 t3 : Tok)
    (B : Below A₀ base outer h₀) (F : Fr h₀ L s.heap m) (X : (hd.heap_39 w.params).In h₀) (N : News h₀ L s.heap news) (T : Top p loose mean mg mb h₀) (hdp : dp + 60 < recursionLimit) (hun : un + 600 < cLine)
    (hPO : PassesOwn (model PySem.Challenge.pw_ah0014_01 w) (ktrTop dp un gd (Str.ofString "law") lawScope L fa (.ref 145) [(Str.ofString "news", cN), (Str.ofString "begin", cB), (Str.ofString "year", cY), (Str.ofString "turn", cT)] outer) (envX (Str.ofString "law") lawScope L fa (.ref 145) [(Str.ofString "news", cN), (Str.ofString "begin", cB), (Str.ofString "year", cY), (Str.ofString "turn", cT)]) E)
    (mDay : m (Str.ofString "day") = some (.int dv td)) (mDate : m (Str.ofString "date") = some (.ref dq)) (hdq : (dq, tupOf [.int k t1, .int mo t2, .int d t3]) ∈ news) (lT : (cT, oT) ∈ news) (dT : oT.data = .cell (some (.ref ft))) (H : TurnCl w ft news tn)
    (hA : At tn dv k) (hR : Reach tn k) (g1 : (pmo (dv - (tn (k + 621) - 1)) == mo && pdy (dv - (tn (k + 621) - 1)) == d) = true) (g2 : tn (k + 621) - 1 + pmd mo + d = dv) :
    wpAny (model PySem.Challenge.pw_ah0014_01 w) (ktrTop dp un gd (Str.ofString "law") lawScope L fa (.ref 145) [(Str.ofString "news", cN), (Str.ofString "begin", cB), (Str.ofString "year", cY), (Str.ofString "turn", cT)] outer)
      (execs seg3B (envX (Str.ofString "law") lawScope L fa (.ref 145) [(Str.ofString "news", cN), (Str.ofString "begin", cB), (Str.ofString "year", cY), (Str.ofString "turn", cT)]))
      (TurnPost h₀ L m news s) E s := by
  show wpAny _ _ (execs (_ :: _) _) _ _ _
  k_steps
  all_goals first
    | exact absurd rfl (by with_reducible assumption : (_ : Int) ≠ _)
    | exact absurd (g1.symm.trans (by with_reducible assumption)) (by decide)
    | (exfalso; omega)
    | exact ⟨rfl, _, _, _, rfl, by with_reducible assumption, by with_reducible assumption, by walk_at "mine sub"⟩
theorem words32 : True := by
  (k_with "execs cons" => ((with_reducible show wpAny _ _ (execs (Stmt.If (PySem.Expr.BoolOp _ _ _) _ _ _ :: _) _) _ _ _); refine hold_intro ?_))
  exact trivial
set_option maxRecDepth 100000 in
set_option maxHeartbeats 8000000 in
theorem seg3 (w : World) (fa cN cB cY cT D ln ft q : Addr) (b y ch fi be : Int) (ns nums : List Int) (tn : Int → Int) (R : RowOk tn b ns) (hc0 : 0 ≤ ch) (hc1 : ch ≤ 8) (hy : y = b + ch) (hfi : fi = tn (y + 621)) (hbe : be = tn (y + 1 + 621)) :
    Seg w 11 fa cN cB cY cT D ln ft b y ns nums tn (fun m => m (Str.ofString "numbers") = some (.ref D) ∧ m (Str.ofString "lengths") = some (.ref q) ∧ (∃ t, m (Str.ofString "first") = some (.int fi t)) ∧ (∃ t, m (Str.ofString "behind") = some (.int be t))) (fun news => LenAt news q (be - fi - 336)) := by
  intro p loose mean mg mb dp un gd outer A₀ base h₀ L m news news₀ s Q E B F X N T hdp hun hPO hM hL hq H hs hQ
  obtain ⟨mD, mQ, ⟨tf, mF⟩, ⟨tb, mB⟩⟩ := hM
  have hL' := hL
  have hq' := hq
  obtain ⟨⟨oN, lN, dN⟩, ⟨oB, ttB, lB, dB⟩, ⟨oY, tY, lY, dY⟩, ⟨oT, lT, dT⟩, ⟨vs, cc, ll, hI⟩, ⟨ws, cd, ld, hJ⟩, hnl⟩ := hL
  obtain ⟨xs, lq, hK⟩ := hq
  have hsz := R.size
  have hA1 : At tn fi y := R.at_ y fi (by omega) (by omega) (by omega) (by have := R.len' y; rw [show y + 621 + 1 = y + 1 + 621 by omega]; omega)
  have hA2 : At tn (be - 1) y := R.at_ y (be - 1) (by omega) (by omega) (by have := R.len' y; omega) (by rw [show y + 621 + 1 = y + 1 + 621 by omega]; omega)
  have hA3 : At tn be (y + 1) := R.at_ (y + 1) be (by omega) (by omega) (by omega) (by have := R.len' (y + 1); rw [show y + 1 + 621 + 1 = y + 1 + 1 + 621 by omega]; omega)
  have hln := R.len' y
  have p1 := pmd1
  have p12 := pmd12
  have hg : [31, 31, 31, 31, 31, 31, 30, 30, 30, 30, 30, be - fi - 336].getD (Int.toNat 11) 0 = be - fi - 336 := rfl
  have g1 : (pmo (fi - (tn (y + 621) - 1)) == 1 && pdy (fi - (tn (y + 621) - 1)) == 1) = true := pday1 (by omega)
  have g2 : (pmo (be - 1 - (tn (y + 621) - 1)) == 12 && pdy (be - 1 - (tn (y + 621) - 1)) == [31, 31, 31, 31, 31, 31, 30, 30, 30, 30, 30, be - fi - 336].getD (Int.toNat 11) 0) = true := pdayL (by omega) (by omega) (by omega)
  have g3 : (pmo (be - (tn (y + 1 + 621) - 1)) == 1 && pdy (be - (tn (y + 1 + 621) - 1)) == 1) = true := pday1 (by omega)
  show wpAny _ _ (execs (_ :: _) _) _ _ _
  k_steps
  unfold Hold
  have hR1 : Reach tn y := R.reach y (by omega) (by omega)
  have hR2 : Reach tn (y + 1) := R.reach (y + 1) (by omega) (by omega)
  refine' wpAny_mono (seg3_turn w fa cN cB cY cT ft _ fi y 1 1 tn p loose mean mg mb dp un gd outer A₀ base h₀ L _ _ _ E oT _ _ _ _ B ?zF X ?zN T hdp hun hPO ?zd ?ze ?zm ?zT dT (H.more ?zs) hA1 hR1 g1 (by rw [p1]; omega)) (fun f s₂ hp => ?_) fun _ _ e => e
  case zF => with_reducible assumption
  case zN => with_reducible assumption
  case zd => rfl
  case ze => rfl
  case zm => walk_at "mine mem"
  case zT => walk_at "mine asm"
  case zs => walk_at "mine sub"
  obtain ⟨rfl, h9, tk9, n9, rfl, F9, N9, s9⟩ := hp
  refine' unrw_end (by assumption) N9 ?zl ?zI ?zs ?zk ?_
  case zl => assumption
  case zI => exact s9 _ (by walk_at "mine mem")
  case zs => exact fun p hp => s9 p ((by walk_at "mine sub" : ∀ p ∈ _, p ∈ _) p hp)
  case zk => exact ⟨by walk_at "mine mem", trivial⟩
  clear F9 N9 s9
  k_steps
  unfold Hold
  refine' wpAny_mono (seg3_turn w fa cN cB cY cT ft _ (be - 1) y 12 ([31, 31, 31, 31, 31, 31, 30, 30, 30, 30, 30, be - fi - 336].getD (Int.toNat 11) 0) tn p loose mean mg mb dp un gd outer A₀ base h₀ L _ _ _ E oT _ _ _ _ B ?zF X ?zN T hdp hun hPO ?zd ?ze ?zm ?zT dT (H.more ?zs) hA2 hR1 g2 (by rw [p12]; omega)) (fun f s₂ hp => ?_) fun _ _ e => e
  case zF => with_reducible assumption
  case zN => with_reducible assumption
  case zd => rfl
  case ze => rfl
  case zm => walk_at "mine mem"
  case zT => walk_at "mine asm"
  case zs => walk_at "mine sub"
  obtain ⟨rfl, h9, tk9, n9, rfl, F9, N9, s9⟩ := hp
  refine' unrw_end (by assumption) N9 ?zl ?zI ?zs ?zk ?_
  case zl => assumption
  case zI => exact s9 _ (by walk_at "mine mem")
  case zs => exact fun p hp => s9 p ((by walk_at "mine sub" : ∀ p ∈ _, p ∈ _) p hp)
  case zk => exact ⟨by walk_at "mine mem", trivial⟩
  clear F9 N9 s9
  k_steps
  unfold Hold
  refine' wpAny_mono (seg3_turn w fa cN cB cY cT ft _ be (y + 1) 1 1 tn p loose mean mg mb dp un gd outer A₀ base h₀ L _ _ _ E oT _ _ _ _ B ?zF X ?zN T hdp hun hPO ?zd ?ze ?zm ?zT dT (H.more ?zs) hA3 hR2 g3 (by rw [p1]; omega)) (fun f s₂ hp => ?_) fun _ _ e => e
  case zF => with_reducible assumption
  case zN => with_reducible assumption
  case zd => rfl
  case ze => rfl
  case zm => walk_at "mine mem"
  case zT => walk_at "mine asm"
  case zs => walk_at "mine sub"
  obtain ⟨rfl, h9, tk9, n9, rfl, F9, N9, s9⟩ := hp
  refine' unrw_end (by assumption) N9 ?zl ?zI ?zs ?zk ?_
  case zl => assumption
  case zI => exact s9 _ (by walk_at "mine mem")
  case zs => exact fun p hp => s9 p ((by walk_at "mine sub" : ∀ p ∈ _, p ∈ _) p hp)
  case zk => exact ⟨by walk_at "mine mem", trivial⟩
  clear F9 N9 s9
  k_steps
  unfold Hold
  refine' seg4 w fa cN cB cY cT D ln ft q b y ch fi be ns nums tn R hc0 hc1 hy hfi hbe p loose mean mg mb dp un gd outer A₀ base h₀ L _ _ news₀ _ Q E B (by with_reducible assumption) X (by with_reducible assumption) T hdp hun hPO ?zm (hL'.more (by walk_at "mine sub")) ?zl (H.more (by walk_at "mine sub")) ?zs hQ
  case zm => exact ⟨mD, mQ, ⟨tf, mF⟩, ⟨tb, mB⟩⟩
  case zl => exact ⟨_, by walk_at "mine asm", hK⟩
  case zs => exact fun q hq => (by walk_at "mine sub" : ∀ p ∈ news, p ∈ _) q (hs q hq)
theorem words33 : True := by
  (k_with "call ref" => (k_here; k_dflt (refine' Cl.use ?k1 ?k2 ?k3 ?k4 ?k5 (mlen_cl _ _ _ _ ?kH _ _ _ _ ?r1 ?r2 ?m1 ?m2) ?kK ?kd ?ku ?_; walk_at "mine use"; (case kH => exact TurnCl.more (by with_reducible assumption) (by walk_at "mine sub")); (case r1 => exact RowOk.reach (by with_reducible assumption) _ (by omega) (by omega)); (case r2 => exact RowOk.reach (by with_reducible assumption) _ (by omega) (by omega)); (case m1 => omega); (case m2 => omega); intro t9 h9 tk9 F9 N9; (try dsimp only); (try k_fold))))
  (k_with "call ref" => (k_here; k_dflt (refine' Cl.use ?k1 ?k2 ?k3 ?k4 ?k5 (leap_cl _ _ _ _ ?kH _ _ ?r1 ?r2) ?kK ?kd ?ku ?_; walk_at "mine use"; (case kH => exact TurnCl.more (by with_reducible assumption) (by walk_at "mine sub")); (case r1 => exact RowOk.reach (by with_reducible assumption) _ (by omega) (by omega)); (case r2 => exact RowOk.reach (by with_reducible assumption) _ (by omega) (by omega)); intro t9 h9 tk9 F9 N9; (try dsimp only); (try k_fold))))
  (k_with "execs cons" => ((with_reducible show wpAny _ _ (execs (Stmt.For (PySem.Expr.Tuple _ _ _) _ _ _ _ :: _) _) _ _ _); refine hold_intro ?_))
  exact trivial
theorem lens_of {tn : Int → Int} {y fi be : Int} (h : 365 ≤ tn (y + 1 + 621) - tn (y + 621) ∧ tn (y + 1 + 621) - tn (y + 621) ≤ 366) (hfi : fi = tn (y + 621)) (hbe : be = tn (y + 1 + 621)) :
    List.map (fun k' => mlen tn y k') (rangeKs 1 ((13 : Int) - 1).toNat) = [31, 31, 31, 31, 31, 31, 30, 30, 30, 30, 30, be - fi - 336] := by
  have e : rangeKs 1 ((13 : Int) - 1).toNat = [1, 2, 3, 4, 5, 6, 7, 8, 9, 10, 11, 12] := by rfl
  have f : mlen tn y 12 = be - fi - 336 := by
    unfold mlen lpB
    rw [if_neg (by decide), if_neg (by decide), hfi, hbe]
    by_cases g : 365 < tn (y + 1 + 621) - tn (y + 621)
    · rw [if_pos (decide_eq_true g)]; omega
    · rw [if_neg (by rw [decide_eq_false g]; decide)]; omega
  rw [e, ← f]
  rfl
theorem leap2 {tn : Int → Int} {b y ch be : Int} {ns : List Int} (R : RowOk tn b ns) (hc0 : 0 ≤ ch) (hc1 : ch ≤ 8) (hy : y = b + ch) (hbe : be = tn (y + 1 + 621)) : (lpB tn (y + 1) != (ns.getD (ch + 2).toNat 0 - be == 366)) = false := by
  have h := R.item (ch + 2) (by omega) (by omega)
  have l := R.len' (y + 1)
  rw [show b + (ch + 2) + 621 = y + 1 + 1 + 621 by omega] at h
  rw [h, hbe]
  unfold lpB
  have e : decide (365 < tn (y + 1 + 1 + 621) - tn (y + 1 + 621)) = (tn (y + 1 + 1 + 621) - tn (y + 1 + 621) == 366) := by
    rw [Bool.eq_iff_iff, decide_eq_true_iff, beq_iff_eq]; omega
  rw [e]
  exact bne_self_eq_false _
set_option maxRecDepth 100000 in
set_option maxHeartbeats 8000000 in
theorem seg2 (w : World) (fa cN cB cY cT D ln ft : Addr) (b y ch fi be : Int) (ns nums : List Int) (tn : Int → Int) (R : RowOk tn b ns) (hc0 : 0 ≤ ch) (hc1 : ch ≤ 8) (hy : y = b + ch) (hfi : fi = tn (y + 621)) (hbe : be = tn (y + 1 + 621)) :
    Seg w 8 fa cN cB cY cT D ln ft b y ns nums tn (fun m => m (Str.ofString "numbers") = some (.ref D) ∧ (∃ t, m (Str.ofString "chosen") = some (.int ch t)) ∧ (∃ t, m (Str.ofString "first") = some (.int fi t)) ∧ (∃ t, m (Str.ofString "behind") = some (.int be t))) (fun _ => True) := by
  intro p loose mean mg mb dp un gd outer A₀ base h₀ L m news news₀ s Q E B F X N T hdp hun hPO hM hL hX H hs hQ
  obtain ⟨mD, ⟨tc, mC⟩, ⟨tf, mF⟩, ⟨tb, mB⟩⟩ := hM
  have hL' := hL
  obtain ⟨⟨oN, lN, dN⟩, ⟨oB, ttB, lB, dB⟩, ⟨oY, tY, lY, dY⟩, ⟨oT, lT, dT⟩, ⟨vs, cc, ll, hI⟩, ⟨ws, cd, ld, hJ⟩, hnl⟩ := hL
  have hsz := R.size
  have hmap := lens_of (R.len' y) hfi hbe
  have hlp := leap2 R hc0 hc1 hy hbe
  show wpAny _ _ (execs (_ :: _) _) _ _ _
  k_steps
  unfold Hold
  refine' seg3 w fa cN cB cY cT D ln ft _ b y ch fi be ns nums tn R hc0 hc1 hy hfi hbe p loose mean mg mb dp un gd outer A₀ base h₀ L _ _ news₀ _ Q E B (by with_reducible assumption) X (by with_reducible assumption) T hdp hun hPO ?zm (hL'.more (by walk_at "mine sub")) ?zl (H.more (by walk_at "mine sub")) ?zs hQ
  case zm =>
    refine ⟨mD, ?_, ⟨tf, mF⟩, ⟨tb, mB⟩⟩
    rfl
  case zl =>
    refine' ⟨_, List.mem_cons_of_mem _ (List.mem_cons_self ..), ?_⟩
    walk_at "mine ints"
  case zs => exact fun q hq => List.mem_cons_of_mem _ (List.mem_cons_of_mem _ (hs q hq))
theorem words34 : True := by
  (k_with "execs cons" => ((with_reducible show wpAny _ _ (execs (Stmt.Assign [PySem.Expr.Name (PySem.Str.ofString "lengths") _] _ _ :: _) _) _ _ _); refine hold_intro ?_))
  (k_with "storeName" => (k_here; k_dflt (refine' storeX_C ?F ?N ?c ?U ?d ?_ ?a ?b; (case a => rfl); (case b => rfl); (case F => k_asm); (case N => k_asm); (case c => rfl); (case U => exact UpdF.head (by with_reducible assumption)); (case d => k_asm); k_whole; intro h' o' F' N' d'; (try dsimp only at N'); (try k_sweep))))
  exact trivial
set_option maxRecDepth 100000 in
set_option maxHeartbeats 8000000 in
theorem seg1 (w : World) (p : Program) (loose : List Str) (mean : ExcName → Option Value) (mg mb : Str → Option Value) (dp un : Nat) (gd : Option (List Code)) (fa : Addr) (outer : List Env) (A₀ : Around) (base h₀ : Heap) (L : Addr) (m : Str → Option Value) (news news₀ : List (Addr × Obj)) (s : Shared) (Q : Flow → Shared → Prop) (E : Value → Shared → Prop)
    (cN cB cY cT D ln ft : Addr) (oN oB oY oT : Obj) (tb : Tok) (vs ws : List Value) (ns nums : List Int) (cc cd : Nat) (b : Int) (tn : Int → Int) (vY : Option Value) (R : RowOk tn b ns)
    (B : Below A₀ base outer h₀) (F : Fr h₀ L s.heap m) (X : (hd.heap_39 w.params).In h₀) (N : News h₀ L s.heap ((cY, oY) :: news)) (T : Top p loose mean mg mb h₀) (hdp : dp + 60 < recursionLimit) (hun : un + 600 < cLine)
    (hPO : PassesOwn (model PySem.Challenge.pw_ah0014_01 w) (ktrTop dp un gd (Str.ofString "law") lawScope L fa (.ref 145) [(Str.ofString "news", cN), (Str.ofString "begin", cB), (Str.ofString "year", cY), (Str.ofString "turn", cT)] outer) (envX (Str.ofString "law") lawScope L fa (.ref 145) [(Str.ofString "news", cN), (Str.ofString "begin", cB), (Str.ofString "year", cY), (Str.ofString "turn", cT)]) E)
    (mD : m (Str.ofString "numbers") = some (.ref D)) (hY : ∀ q ∈ news, q.1 ≠ cY) (hYd : oY.data = .cell vY)
    (hN : (cN, oN) ∈ news) (hNd : oN.data = .cell (some (.ref ln))) (hB : (cB, oB) ∈ news) (hBd : oB.data = .cell (some (.int b tb))) (hT : (cT, oT) ∈ news) (hTd : oT.data = .cell (some (.ref ft)))
    (hl : (ln, listOf (List.toArray vs) cc) ∈ news) (hI : IntsAre vs ns) (hD : (D, listOf (List.toArray ws) cd) ∈ news) (hJ : IntsAre ws nums) (hlen' : nums.length = 6)
    (H : TurnCl w ft news tn) (hs : ∀ q ∈ news₀, q ∈ news)
    (hQ : ∀ h' tk' m' news', Fr h₀ L h' m' → News h₀ L h' news' → (∀ q ∈ news₀, q ∈ news') → Q (.ret (.bool true)) { s with heap := h', toks := tk' }) :
    wpAny (model PySem.Challenge.pw_ah0014_01 w) (ktrTop dp un gd (Str.ofString "law") lawScope L fa (.ref 145) [(Str.ofString "news", cN), (Str.ofString "begin", cB), (Str.ofString "year", cY), (Str.ofString "turn", cT)] outer)
      (execs (lawBody.drop 5) (envX (Str.ofString "law") lawScope L fa (.ref 145) [(Str.ofString "news", cN), (Str.ofString "begin", cB), (Str.ofString "year", cY), (Str.ofString "turn", cT)])) Q E s := by
  have hlen := R.size
  have hc := fmodb (nums.getD (Int.toNat 3) 0) (show (0 : Int) < 9 by decide)
  show wpAny _ _ (execs (_ :: _) _) _ _ _
  k_steps
  unfold Hold
  have i0 := R.item ((nums.getD (Int.toNat 3) 0).fmod 9) hc.1 (by omega)
  have i1 := R.item ((nums.getD (Int.toNat 3) 0).fmod 9 + 1) (by omega) (by omega)
  rw [show b + ((nums.getD (Int.toNat 3) 0).fmod 9 + 1) + 621 = b + (nums.getD (Int.toNat 3) 0).fmod 9 + 1 + 621 by omega] at i1
  refine' @seg2 w fa cN cB cY cT D ln ft b (b + (nums.getD (Int.toNat 3) 0).fmod 9) ((nums.getD (Int.toNat 3) 0).fmod 9) (ns.getD ((nums.getD (Int.toNat 3) 0).fmod 9).toNat 0) (ns.getD ((nums.getD (Int.toNat 3) 0).fmod 9 + 1).toNat 0) ns nums tn R hc.1 (by omega) rfl i0 i1 p loose mean mg mb dp un gd outer A₀ base h₀ L _ _ news₀ _ Q E B (by with_reducible assumption) X (by with_reducible assumption) T hdp hun hPO ?zm ?zL trivial (H.more (by walk_at "mine sub")) ?zs hQ
  case zm => exact ⟨mD, ⟨_, by rfl⟩, ⟨_, by rfl⟩, ⟨_, by rfl⟩⟩
  case zL => exact ⟨⟨oN, List.mem_cons_of_mem _ (List.mem_cons_of_mem _ hN), hNd⟩, ⟨oB, tb, List.mem_cons_of_mem _ (List.mem_cons_of_mem _ hB), hBd⟩, ⟨_, _, List.mem_cons_of_mem _ (List.mem_cons_self ..), by with_reducible assumption⟩, ⟨oT, List.mem_cons_of_mem _ (List.mem_cons_of_mem _ hT), hTd⟩, ⟨vs, cc, List.mem_cons_of_mem _ (List.mem_cons_of_mem _ hl), hI⟩, ⟨ws, cd, List.mem_cons_of_mem _ (List.mem_cons_of_mem _ hD), hJ⟩, hlen'⟩
  case zs => exact fun q hq => (by walk_at "mine sub" : ∀ p ∈ news, p ∈ _) q (hs q hq)
def turnStmt : Stmt := (lawBody.drop 4).headD (.Pass ⟨0, 0, 0, 0⟩)
def turnArgs : Arguments := match turnStmt with | .FunctionDef _ a _ _ _ _ _ _ _ _ => a | _ => { posonlyargs := [], args := [], vararg := none, kwonlyargs := [], kw_defaults := [], kwarg := none, defaults := [] }
def turnBody : List Stmt := match turnStmt with | .FunctionDef _ _ b _ _ _ _ _ _ _ => b | _ => []
def turnScope : Scope := match turnStmt with | .FunctionDef _ _ _ _ _ _ s _ _ _ => s | _ => { kind := .function, names := [], isGenerator := false, isCoroutine := false }
theorem words35 : True := by
  (k_with "eval Name" => (k_here; k_dflt (refine' nameX_F ?N ?c ?m ?d ?_ ?a ?b; (case a => rfl); (case b => rfl); (case N => k_asm); (case c => rfl); (case m => k_mem); (case d => k_asm); k_whole)))
  exact trivial
theorem turnF_a {b g : Int} {ns : List Int} (h : g - 621 - b < 0) : ns.getD 0 0 + 365 * (g - 621 - b) = turnF b ns g := by unfold turnF; rw [if_pos h]
theorem turnF_b {b g : Int} {ns : List Int} (h : ¬ g - 621 - b < 0) (h' : 10 < g - 621 - b) : ns.getD 10 0 + 365 * (g - 621 - b - 10) = turnF b ns g := by unfold turnF; rw [if_neg h, if_pos h']
theorem turnF_c {b g : Int} {ns : List Int} (h : ¬ g - 621 - b < 0) (h' : ¬ 10 < g - 621 - b) : ns.getD (g - 621 - b).toNat 0 = turnF b ns g := by unfold turnF; rw [if_neg h, if_neg h']
set_option maxRecDepth 100000 in
set_option maxHeartbeats 8000000 in
theorem turn_call (w : World) (f c' cN cB ln : Addr) (qual : Str) (doc pm ctv : Value) (oc oN oB : Obj) (vs' : Array Value) (tq tb : Tok) (news : List (Addr × Obj)) (b : Int) (ns : List Int) (vs : List Value) (cc : Nat)
    (hf : (f, fnMade (Str.ofString "turn") qual turnArgs turnBody turnScope [(Str.ofString "news", cN), (Str.ofString "begin", cB)] doc pm c' ctv) ∈ news) (hc : (c', oc) ∈ news) (d1 : oc.data = .fields vs') (d2 : vs'[1]? = some (.str qual tq))
    (hN : (cN, oN) ∈ news) (hNd : oN.data = .cell (some (.ref ln))) (hB : (cB, oB) ∈ news) (hBd : oB.data = .cell (some (.int b tb))) (hl : (ln, listOf (List.toArray vs) cc) ∈ news) (hI : IntsAre vs ns) (hlen : ns.length = 11) (g : Int) (t : Tok) :
    Cl w 8 f news [.int g t] (fun t => .int (turnF b ns g) t) := by
  intro p loose mean mg mb dp un gd cn cs a ccd cl outer A₀ base h₀ L m s Q E B F X N T hk hdp hun hret
  refine wpAny_call ?_
  k_dflt (refine' code_nest ?k1 ?k2 ?k3 ?k4 ?k5 ?kA ?kF ?kK ?k6 ?k7 ?k8 ?k9 ?kB ?_ ?c2 ?c3 ?c4 ?c5; (case kA => exact rfl); (case kF => exact rfl); (case kK => assumption); (case k1 => k_asm); (case k2 => k_asm); (case k3 => k_asm); (case k4 => k_asm); (case k5 => k_asm); (case k6 => exact hf); (case k7 => exact codeRec_news N hc d1 d2); (case k8 => ktr_room); (case k9 => exact BindsTo.of_eq rfl); (case c5 => decide); (case kB => exact locs rfl); (case c2 => exact rfl); (case c3 => exact rfl); (case c4 => exact rfl); k_whole; intro g' L' h' FG' F' N' B' X' T'; (try dsimp only); (try k_lift B'); (try k_fold))
  show wpAny _ _ (execs (_ :: _) _) _ _ _
  k_steps
  all_goals first
    | exact cb_retI (Q := Q) hret (turnF_a (by with_reducible assumption)) (by with_reducible assumption) (by with_reducible assumption)
    | exact cb_retI (Q := Q) hret (turnF_b (by with_reducible assumption) (by with_reducible assumption)) (by with_reducible assumption) (by with_reducible assumption)
    | exact cb_retI (Q := Q) hret (turnF_c (by with_reducible assumption) (by with_reducible assumption)) (by with_reducible assumption) (by with_reducible assumption)
theorem turn_cl (w : World) (f c' cN cB ln : Addr) (qual : Str) (doc pm ctv : Value) (oc oN oB : Obj) (vs' : Array Value) (tq tb : Tok) (news : List (Addr × Obj)) (b : Int) (ns : List Int) (vs : List Value) (cc : Nat)
    (hf : (f, fnMade (Str.ofString "turn") qual turnArgs turnBody turnScope [(Str.ofString "news", cN), (Str.ofString "begin", cB)] doc pm c' ctv) ∈ news) (hc : (c', oc) ∈ news) (d1 : oc.data = .fields vs') (d2 : vs'[1]? = some (.str qual tq))
    (hN : (cN, oN) ∈ news) (hNd : oN.data = .cell (some (.ref ln))) (hB : (cB, oB) ∈ news) (hBd : oB.data = .cell (some (.int b tb))) (hl : (ln, listOf (List.toArray vs) cc) ∈ news) (hI : IntsAre vs ns) (hlen : ns.length = 11) : TurnCl w f news (turnF b ns) :=
  ⟨⟨_, _, _, _, hf⟩, fun _ hs g t => turn_call w f c' cN cB ln qual doc pm ctv oc oN oB vs' tq tb _ b ns vs cc (hs _ hf) (hs _ hc) d1 d2 (hs _ hN) hNd (hs _ hB) hBd (hs _ hl) hI hlen g t⟩
/-- the law from behind its closure on: everything that the frame reads lies in the ledger -/
theorem law5 (w : World) (p : Program) (loose : List Str) (mean : ExcName → Option Value) (mg mb : Str → Option Value) (dp un : Nat) (gd : Option (List Code)) (fa : Addr) (outer : List Env) (A₀ : Around) (base h₀ : Heap) (L : Addr) (m : Str → Option Value) (news : List (Addr × Obj)) (s : Shared) (Q : Flow → Shared → Prop) (E : Value → Shared → Prop)
    (cN cB cY cT D ln ft c' P : Addr) (qual : Str) (doc pm ctv : Value) (oc oN oB oT oY : Obj) (vs' ps : Array Value) (tq tb : Tok) (vs ws : List Value) (ns nums : List Int) (cc cd : Nat) (b n0 x : Int) (vY : Option Value)
    (hb0 : -20000 ≤ b) (hb1 : b ≤ 19999) (hx0 : 0 ≤ x) (hx1 : x ≤ 140) (hn : n0 = 1948321 + 365 * (b - 1) + (8 * (b - 1)).fdiv 33 + x - 40) (hR : RowP n0 10 ns)
    (B : Below A₀ base outer h₀) (F : Fr h₀ L s.heap m) (X : (hd.heap_39 w.params).In h₀) (N : News h₀ L s.heap news) (T : Top p loose mean mg mb h₀) (hdp : dp + 60 < recursionLimit) (hun : un + 600 < cLine)
    (hPO : PassesOwn (model PySem.Challenge.pw_ah0014_01 w) (ktrTop dp un gd (Str.ofString "law") lawScope L fa (.ref 145) [(Str.ofString "news", cN), (Str.ofString "begin", cB), (Str.ofString "year", cY), (Str.ofString "turn", cT)] outer) (envX (Str.ofString "law") lawScope L fa (.ref 145) [(Str.ofString "news", cN), (Str.ofString "begin", cB), (Str.ofString "year", cY), (Str.ofString "turn", cT)]) E)
    (mD : m (Str.ofString "numbers") = some (.ref D)) (hY : (cY, oY) ∈ news) (hYd : oY.data = .cell vY)
    (hN : (cN, oN) ∈ news) (hNd : oN.data = .cell (some (.ref ln))) (hB : (cB, oB) ∈ news) (hBd : oB.data = .cell (some (.int b tb))) (hT : (cT, oT) ∈ news) (hTd : oT.data = .cell (some (.ref ft)))
    (hl : (ln, listOf (List.toArray vs) cc) ∈ news) (hI : IntsAre vs ns) (hD : (D, listOf (List.toArray ws) cd) ∈ news) (hJ : IntsAre ws nums) (hlen' : nums.length = 6)
    (hf : (ft, fnMade (Str.ofString "turn") qual turnArgs turnBody turnScope [(Str.ofString "news", cN), (Str.ofString "begin", cB)] doc pm c' ctv) ∈ news) (hc : (c', oc) ∈ news) (d1 : oc.data = .fields vs') (d2 : vs'[1]? = some (.str qual tq))
    (hP : (P, tabObj ps) ∈ news) (nN : cN ≠ cY) (nB : cB ≠ cY) (nT : cT ≠ cY) (nl : ln ≠ cY) (nD : D ≠ cY) (nf : ft ≠ cY) (nc : c' ≠ cY) (nP : P ≠ cY)
    (hQ : ∀ h' tk' m' news', Fr h₀ L h' m' → News h₀ L h' news' → (P, tabObj ps) ∈ news' → Q (.ret (.bool true)) { s with heap := h', toks := tk' }) :
    wpAny (model PySem.Challenge.pw_ah0014_01 w) (ktrTop dp un gd (Str.ofString "law") lawScope L fa (.ref 145) [(Str.ofString "news", cN), (Str.ofString "begin", cB), (Str.ofString "year", cY), (Str.ofString "turn", cT)] outer)
      (execs (lawBody.drop 5) (envX (Str.ofString "law") lawScope L fa (.ref 145) [(Str.ofString "news", cN), (Str.ofString "begin", cB), (Str.ofString "year", cY), (Str.ofString "turn", cT)])) Q E s := by
  have hn' : n0 = 1948321 + 365 * (b - 1) + (8 * (b - 1)) / 33 + x - 40 := by rw [hn, Int.fdiv_eq_ediv_of_nonneg _ (by decide)]
  refine seg1 w p loose mean mg mb dp un gd fa outer A₀ base h₀ L m
    [(cN, oN), (cB, oB), (cT, oT), (ln, listOf (List.toArray vs) cc), (D, listOf (List.toArray ws) cd), (ft, fnMade (Str.ofString "turn") qual turnArgs turnBody turnScope [(Str.ofString "news", cN), (Str.ofString "begin", cB)] doc pm c' ctv), (c', oc), (P, tabObj ps)]
    [(P, tabObj ps)] s Q E cN cB cY cT D ln ft oN oB oY oT tb vs ws ns nums cc cd b (turnF b ns) vY (rowOk hb0 hb1 hx0 hx1 hn' hR) B F X ?_ T hdp hun hPO mD ?_ hYd
    (by walk_at "mine mem") hNd (by walk_at "mine mem") hBd (by walk_at "mine mem") hTd (by walk_at "mine mem") hI (by walk_at "mine mem") hJ hlen' ?_ ?_ ?_
  · intro q hq
    simp only [List.mem_cons, List.not_mem_nil, or_false] at hq
    rcases hq with rfl | rfl | rfl | rfl | rfl | rfl | rfl | rfl | rfl
    · exact N _ hY
    · exact N _ hN
    · exact N _ hB
    · exact N _ hT
    · exact N _ hl
    · exact N _ hD
    · exact N _ hf
    · exact N _ hc
    · exact N _ hP
  · intro q hq
    simp only [List.mem_cons, List.not_mem_nil, or_false] at hq
    rcases hq with rfl | rfl | rfl | rfl | rfl | rfl | rfl | rfl
    · exact nN
    · exact nB
    · exact nT
    · exact nl
    · exact nD
    · exact nf
    · exact nc
    · exact nP
  · exact turn_cl w ft c' cN cB ln qual doc pm ctv oc oN oB vs' tq tb _ b ns vs cc (by walk_at "mine mem") (by walk_at "mine mem") d1 d2 (by walk_at "mine mem") hNd (by walk_at "mine mem") hBd (by walk_at "mine mem") hI hR.len
  · intro q hq
    rw [List.mem_singleton.mp hq]
    walk_at "mine mem"
  · exact fun h' tk' m' news' F' N' hs => hQ h' tk' m' news' F' N' (hs _ (List.mem_cons_self ..))
theorem words36 : True := by
  (k_with "eval Name" => (k_here; k_dflt (refine' nameX_K ?F ?X ?T ?e ?_ ?a ?b; (case F => with_reducible assumption); (case X => with_reducible assumption); (case T => exact topRead_of (by with_reducible assumption)); (case a => rfl); (case b => rfl); (case e => k_is); k_whole)))
  (k_with "eval Name" => (k_here; k_dflt (refine' nameX_C ?N ?c ?m ?d ?_ ?a ?b; (case a => rfl); (case b => rfl); (case N => with_reducible assumption); (case c => rfl); (case m => k_mem); (case d => with_reducible assumption); k_whole)))
  (k_with "eval Name" => (k_here; k_dflt (refine' nameX_L ?F ?v ?_ ?a ?b; (case F => with_reducible assumption); (case a => rfl); (case b => rfl); (case v => rfl); k_whole)))
  (k_with "pyIter ref" => (with_unfolding_all refine' iter_rangeUnr (n := 10) ?i0 ?i1 ?i2 ?i3 ?i4 ?i5 ?_; (case i0 => rfl); (case i1 => assumption); (case i2 => first | decide | rfl); (case i3 => first | decide | rfl); (case i4 => assumption); (case i5 => assumption); intro i' l1; (have l2 := l1); (try k_lt l2); (refine hold_intro ?_)))
  (k_with "subscriptTail BinOp" => k_dflt (refine kba_turn (value' := PySem.Expr.Name (PySem.Str.ofString "_") ⟨0, 0, 0, 0⟩) (fun _ => rfl) ?_))
  (k_with "subscriptTail Name" => ((with_reducible show wpAny _ _ (subscriptTail _ _ (Value.ref _) (Value.int _ _)) _ _ _); (with_unfolding_all refine' item_anyK ?k1 ?k2 ?k3 ?k4 ?k5 ?_ ?k6; (case k1 => exact News.isList (by assumption) (by k_mem)); (case k2 => first | with_reducible assumption | walk_at "mine ints"); (case k3 => omega); (case k4 => first | omega | (simp only [List.length_cons, List.length_nil]; omega)); (case k5 => omega); (case k6 => with_unfolding_all rfl); k_whole); intro _))
  (k_with "subscriptTail Name UnaryOp ref int" => ((with_reducible show wpAny _ _ (subscriptTail _ _ (Value.ref _) (Value.int _ _)) _ _ _); (with_unfolding_all refine' item_list_ints_negR ?k1 ?k2 ?k3 ?k4 ?k5 ?_ ?k6; (case k1 => exact News.isList (by assumption) (by k_mem)); (case k2 => with_reducible assumption); (case k3 => omega); (case k4 => omega); (case k5 => omega); (case k6 => with_unfolding_all rfl); k_whole); intro _))
  (k_with "exec FunctionDef" => (refine hold_intro ?_))
  (k_with "execs cons" => ((with_reducible show wpAny _ _ (execs (Stmt.Assign [PySem.Expr.Name (PySem.Str.ofString "begin") _] _ _ :: _) _) _ _ _); refine hold_intro ?_))
  exact trivial
theorem news_keep {h₀ h : Heap} {L : Addr} {a : Addr × Obj} {r keep : List (Addr × Obj)} (N : News h₀ L h (a :: r)) (hk : ∀ p ∈ keep, p ∈ r) : News h₀ L h (a :: keep) := fun p hp => N p ((List.mem_cons.mp hp).elim (fun e => e ▸ List.mem_cons_self ..) fun e => List.mem_cons_of_mem _ (hk p e))
theorem beg_lo (a : Int) : -20000 ≤ a.fmod 40000 - 20000 := by have := fmodb a (show (0 : Int) < 40000 by decide); omega
theorem beg_hi (a : Int) : a.fmod 40000 - 20000 ≤ 19999 := by have := fmodb a (show (0 : Int) < 40000 by decide); omega
theorem rest_hi (a : Int) : a.fmod 141 ≤ 140 := by have := fmodb a (show (0 : Int) < 141 by decide); omega
set_option maxRecDepth 100000 in
set_option maxHeartbeats 8000000 in
theorem law0 (w : World) (p : Program) (loose : List Str) (mean : ExcName → Option Value) (mg mb : Str → Option Value) (dp un : Nat) (gd : Option (List Code)) (fa : Addr) (outer : List Env) (A₀ : Around) (base h₀ : Heap) (L : Addr) (m : Str → Option Value) (s : Shared) (Q : Flow → Shared → Prop) (E : Value → Shared → Prop)
    (cN cB cY cT sa : Addr) (oN oB oY oT : Obj) (vN vB vY vT : Option Value) (svs : List Value) (sns : List Int)
    (B : Below A₀ base outer h₀) (F : Fr h₀ L s.heap m) (X : (hd.heap_39 w.params).In h₀) (N : News h₀ L s.heap [(cN, oN), (cB, oB), (cY, oY), (cT, oT), (143, tabObj #[])]) (T : Top p loose mean mg mb h₀) (hdp : dp + 60 < recursionLimit) (hun : un + 600 < cLine)
    (hPO : PassesOwn (model PySem.Challenge.pw_ah0014_01 w) (ktrTop dp un gd (Str.ofString "law") lawScope L fa (.ref 145) [(Str.ofString "news", cN), (Str.ofString "begin", cB), (Str.ofString "year", cY), (Str.ofString "turn", cT)] outer) (envX (Str.ofString "law") lawScope L fa (.ref 145) [(Str.ofString "news", cN), (Str.ofString "begin", cB), (Str.ofString "year", cY), (Str.ofString "turn", cT)]) E)
    (C : CodeHd h₀ 145 143) (mS : m (Str.ofString "script") = some (.ref sa)) (hS : h₀.IsList sa (List.toArray svs)) (hSI : IntsAre svs sns) (hSl : sns.length ≤ 63) (oNd : oN.data = .cell vN) (oBd : oB.data = .cell vB) (oYd : oY.data = .cell vY) (oTd : oT.data = .cell vT)
    (o1 : @LT.lt Nat _ 143 cT) (o2 : @LT.lt Nat _ cT cY) (o3 : @LT.lt Nat _ cY cB) (o4 : @LT.lt Nat _ cB cN)
    (hQ : ∀ h' tk' m' news' ps, Fr h₀ L h' m' → News h₀ L h' news' → (143, tabObj ps) ∈ news' → Q (.ret (.bool true)) { s with heap := h', toks := tk' }) :
    wpAny (model PySem.Challenge.pw_ah0014_01 w) (ktrTop dp un gd (Str.ofString "law") lawScope L fa (.ref 145) [(Str.ofString "news", cN), (Str.ofString "begin", cB), (Str.ofString "year", cY), (Str.ofString "turn", cT)] outer) (execs (lawBody.drop 0) (envX (Str.ofString "law") lawScope L fa (.ref 145) [(Str.ofString "news", cN), (Str.ofString "begin", cB), (Str.ofString "year", cY), (Str.ofString "turn", cT)])) Q E s := by
  show wpAny _ _ (execs (_ :: _) _) _ _ _
  k_steps
  unfold Hold
  rename News _ _ _ _ => N8
  have N9 := news_keep (keep := [(cN, oN), (cB, oB), (cY, oY), (cT, oT), (143, tabObj #[])]) N8 (by walk_at "mine sub")
  clear N8
  show wpAny _ _ (execs (_ :: _) _) _ _ _
  refine wpAny_execs_cons ?_
  k_steps
  unfold Hold
  refine row_loop (by walk_at "mine ints") ?_ ?_
  · intro i v vs ns c hi hI hR t h tk F N
    dsimp only [envX] at F N
    have hlen := hR.len
    k_steps
    all_goals exact jrow_push hI hR
  · intro v vs ns c hI hR h tk F N
    dsimp only [envX] at F N
    have hlen := hR.len
    k_steps
    unfold Hold
    k_dflt (refine' nestDef_K ?zd0 ?zk0 ?za0 ?_; (case zd0 => exact rfl); (case zk0 => exact rfl); (case za0 => exact rfl))
    k_dflt (refine' nest_K ?zF ?zN ?zT ?zC ?zcd ?zU ?zt ?zn ?zcl ?_; (case zF => k_asm); (case zN => k_asm); (case zT => k_asm); (case zcd => exact rfl); (case zC => kn_code); (case zU => (refine UpdF.tail ?_ (UpdF.tail ?_ (UpdF.tail ?_ (UpdF.tail ?_ (UpdF.tail ?_ (UpdF.tail ?_ (UpdF.head (fun _ h => nomatch h)))))))) <;> ((show (_ : Nat) ≠ 143); k_ne)); (case zt => kn_triples); (case zn => kn_among); (case zcl => exact rfl); k_whole)
    intro f' c' oc' vs' t' ct' dc' h' tk' F' N' d1' d2' l1 l2
    (try dsimp only at N'); (try k_lt l1); (try k_lt2 l2)
    walk1
    (show wpAny _ _ (execs _ _) _ _ _)
    refine' law5 _ _ _ _ _ _ _ _ _ _ _ _ _ _ _ _ _ _ _ _ _ _ _ _ _ _ _ _ 143 _ _ _ _ _ _ _ _ _ _ _ _ _ _ _ _ _ _ _ _ _ _ _ ?hb0 ?hb1 ?hx0 ?hx1 ?hn ?hR ?hhB ?hhF ?hhX ?hhN ?hhT ?hdp ?hun ?hPO ?mD ?hY ?hYd ?hN ?hNd ?hB ?hBd ?hT ?hTd ?hl ?hI ?hD ?hJ ?hlen' ?hf ?hc ?d1 ?d2 ?hP ?nN ?nB ?nT ?nl ?nD ?nf ?nc ?nP ?hQ
    case hhF => with_reducible assumption
    case hhN => with_reducible assumption
    case hhX => with_reducible assumption
    case hhT => with_reducible assumption
    case hhB => with_reducible assumption
    case mD => rfl
    case hN => walk_at "mine mem"
    case hNd => with_reducible assumption
    case hB => walk_at "mine mem"
    case hBd => with_reducible assumption
    case hT => walk_at "mine mem"
    case hTd => with_reducible assumption
    case hY => walk_at "mine mem"
    case hYd => with_reducible assumption
    case hl => walk_at "mine mem"
    case hI => exact hI
    case hD => walk_at "mine mem"
    case hJ => with_reducible assumption
    case hlen' => (rw [List.length_take, List.length_append]; simp only [List.length_cons, List.length_nil]; omega)
    case hf => walk_at "mine mem"
    case hc => walk_at "mine mem"
    case d1 => exact d1'
    case d2 => exact d2'
    case hP => walk_at "mine mem"
    case hR => exact hR
    case hn => rfl
    case hb0 => exact beg_lo _
    case hb1 => exact beg_hi _
    case hx0 => exact (fmodb _ (by decide)).1
    case hx1 => exact rest_hi _
    case hdp => exact hdp
    case hun => exact hun
    case hPO => exact hPO
    case nN => k_ne
    case nB => k_ne
    case nT => k_ne
    case nl => k_ne
    case nD => k_ne
    case nf => k_ne
    case nc => k_ne
    case nP => k_ne
    case hQ => exact fun h7 tk7 m7 news7 F7 N7 hP7 => hQ h7 tk7 m7 news7 _ F7 N7 hP7
set_option maxRecDepth 100000 in
set_option maxHeartbeats 8000000 in
theorem law_holds : PySem.Challenge.rw_ah0014_01.Holds := hd (by
  w_on
  k_go0
  all_goals try k_fold
  refine' law0 _ _ _ _ _ _ _ _ _ _ _ _ _ _ _ _ _ _ _ _ _ _ _ _ _ _ _ _ _ _ _ _ _ _ ?hB ?hF ?hX ?hN ?hT ?hdp ?hun ?hPO ?hC ?mS ?hS ?hSI ?hSl ?oN ?oB ?oY ?oT ?o1 ?o2 ?o3 ?o4 ?hQ
  case hF => with_reducible assumption
  case hN => with_reducible assumption
  case hX => with_reducible assumption
  case hT => with_reducible assumption
  case hB => with_reducible assumption
  case hPO => passes_own
  case hdp => decide
  case hun => decide
  case hC => assumption
  case mS => rfl
  case hS => with_reducible assumption
  case hSI => with_reducible assumption
  case hSl => omega
  case oN => with_reducible assumption
  case oB => with_reducible assumption
  case oY => with_reducible assumption
  case oT => with_reducible assumption
  case o1 => (try dsimp only); omega
  case o2 => (try dsimp only); omega
  case o3 => (try dsimp only); omega
  case o4 => (try dsimp only); omega
  case hQ =>
    intro h7 tk7 m7 news7 ps7 F7 N7 hP7
    refine ⟨?_, GrownAt.of N7 hP7, trivial⟩
    k_steps)
end Mine
theorem PySem.Challenge.cw_ah0014_01_holds : PySem.Challenge.rw_ah0014_01.Holds := by
  exact Mine.law_holds
